import JvmDerived
import JvmDerived.Pilot.@@N@@Statement
import JvmDerived.Pilot.@@N@@Code
set_option linter.unusedVariables false
set_option linter.unusedSimpArgs false
namespace Jvm.OwnKit
open Sem ClassFile Op Lib Jvm.Stand Jvm.Free Jvm.LawKit Jvm.RoadKit
/-! int and long operations, named -/
def ushr (x y : Int32) : Int32 := (x.toUInt32 >>> (y &&& 31).toUInt32).toInt32
def shl (x y : Int32) : Int32 := x <<< (y &&& 31)
def shr (x y : Int32) : Int32 := x >>> (y &&& 31)
def lushr (x : Int64) (y : Int32) : Int64 := (x.toUInt64 >>> (y &&& 0x3f).toInt64.toUInt64).toInt64
def lshl (x : Int64) (y : Int32) : Int64 := x <<< (y &&& 0x3f).toInt64
def lshr (x : Int64) (y : Int32) : Int64 := x >>> (y &&& 0x3f).toInt64
def chr (x : Int32) : Int32 := x.toUInt32.toUInt16.toUInt32.toInt32
def byt (x : Int32) : Int32 := x.toInt8.toInt32
def sht (x : Int32) : Int32 := x.toInt16.toInt32
theorem narrow_byt (x : Int32) : narrow .byte (.int (byt x)) = .int (byt x) := by simp [narrow, byt]
theorem chr_chr (x : Int32) : chr (chr x) = chr x := by unfold chr; simp only [UInt32.toUInt32_toInt32, UInt16.toUInt16_toUInt32]
theorem byt_byt (x : Int32) : byt (byt x) = byt x := by simp [byt]
theorem narrow_chr (x : Int32) : narrow .char (.int (chr x)) = .int (chr x) := congrArg Value.int (chr_chr x)
/-- what a contract says at the end -/
def CQ (Q : Option Value → Heap → Prop) (n0 : Nat) (v : Option Value) (h : Heap) (L : List Loc) : Prop := Q v h ∧ Fr n0 L
/-- from this frame on the run ends as asked -/
def Go (p : Program) (e : Env) (below : List Frame) (En : Option Value → State → List Loc → Prop) (n0 : Nat) (Q : Option Value → Heap → Prop) (T : State) (g : JFrame) : Prop :=
  ∃ s₂ o, Steps p.tables e below (T.setTop g) s₂ ∧ s₂.status = .running ∧ Ended s₂ below o ∧ ∃ v L, o = .returned v ∧ CQ Q n0 v s₂.heap L ∧ En v s₂ L
/-- the plain end: nothing interned -/
def EndF (s : State) (C S : Nat) (v : Option Value) (t : State) (L : List Loc) : Prop := FrameEnd s (.returned v) t L C S
theorem endF {s : State} {C S cells slots : Nat} {t : State} {L : List Loc} {h : Heap} (hc : cells ≤ C) (hs : slots ≤ S) (v : Option Value) (_ : t.heap = h) (hW : s.WarmedH t.vm) (hsm : s.sameButNew ({ t with vm := s.vm } : State) L cells slots) : EndF s C S v t L := ⟨⟨_, rfl⟩, hW, hsm.mono hc hs⟩
/-- a method's contract -/
def Ctr (l : Launch) (Z : State) (y : MethodName) (bytes : ByteArray) (maxL : Nat) (ret : Option FieldType) (rm : Room) (as' : Array Value) (h0 : Heap) (n0 : Nat) (Q : Option Value → Heap → Prop) : Prop :=
  ∀ ws : List Jvm.Cond, MetFree l y (head1 (Jvm.Cond.code y bytes maxL ret :: ws) rm) (fun a U => a = as' ∧ Z.Warmed39 U.vm ∧ U.heap = h0) (fun _ _ _ _ _ => True) (fun _ U o U' => ∃ v L, o = .returned v ∧ CQ Q n0 v U'.heap L ∧ FrameEnd U o U' L rm.cells rm.slots)
theorem Ctr.of {l : Launch} {Z : State} {y : MethodName} {bytes : ByteArray} {maxL : Nat} {ret : Option FieldType} {rm : Room} {as' : Array Value} {h0 : Heap} {n0 : Nat} {Q : Option Value → Heap → Prop} {Ls : Array Slot}
    (hpl : plainFor y = true) (hef : ∀ m, entryFrame m as' maxL = mkF m 0 Ls [])
    (body : ∀ (p : Program) (e : Env) (s : State) (m : MethodId) (below : List Frame) (meth : Method) (c : Code) (T : State), p.tables.exec = Jvm.exec → c.code = bytes → c.maxLocals = maxL → s.vm.findClass y.cls = some m.cls → meth.name = y.name → meth.sig.returnType = ret → meth.locks = false → Z.Warmed39 s.vm →
      Stand p l e rm s m as' below meth c T [] 0 0 → T.heap = h0 → Go p e below (EndF s rm.cells rm.slots) n0 Q T (mkF m 0 Ls [])) : Ctr l Z y bytes maxL ret rm as' h0 n0 Q := by
  intro ws
  refine MetFree.of_bodySF hpl hisR ?_
  intro p e s m args below meth c s₁ Bd hml0 hP hK
  obtain ⟨rfl, hZ, hh⟩ := hP
  have hown : s.vm.findClass y.cls = some m.cls := findClass_of_methodNamed Bd.named
  have hnm := (name_of_methodNamed Bd.named Bd.method).1
  have e0 : s₁.heap = h0 := by rw [← hh, Bd.state]; rfl
  rw [hef]
  obtain ⟨s₂, o, h1, h2, h3, v, L, rfl, h5, h6⟩ := body p e s m below meth c s₁ Bd.exec Bd.bytes hml0 hown hnm Bd.returns Bd.notSynchronized hZ (Stand.of_body Bd) e0
  exact ⟨s₂, _, h1, h2, h3, v, L, rfl, h5, h6⟩
section Go
variable {p : Program} {l : Launch} {e : Env} {R : Room} {s : State} {m : MethodId} {args : Array Value} {below : List Frame} {meth : Method} {c : Code} {T : State} {locs : List Loc} {cells slots : Nat} {Z : State} {a0 : Array Value} {h h' : Heap} {n0 : Nat} {En : Option Value → State → List Loc → Prop} {Q : Option Value → Heap → Prop}
variable {pc pc' pc1 pc2 : Nat} {Ls Ls' : Array Slot} {st : List Value}
theorem Go.mov {T' : State} {g g' : JFrame} (k : ∀ target, Steps p.tables e below (T'.setTop g') target → Steps p.tables e below (T.setTop g) target) (G : Go p e below En n0 Q T' g') : Go p e below En n0 Q T g := by
  obtain ⟨s₂, o, h1, r⟩ := G
  exact ⟨s₂, o, k _ h1, r⟩
theorem Go.movp {T' : State} {g g' : JFrame} (k : ∀ target, Steps p.tables e below (T'.setTop g') target → Steps p.tables e below (T.setTop g) target) (g'' : JFrame) (q : g' = g'') (G : Go p e below En n0 Q T' g'') : Go p e below En n0 Q T g := Go.mov k (q ▸ G)
theorem Go.cast {g g' : JFrame} (q : g = g') (G : Go p e below En n0 Q T g') : Go p e below En n0 Q T g := q ▸ G
theorem Go.imp {Q' : Option Value → Heap → Prop} {g : JFrame} (q : ∀ v h, Q v h → Q' v h) (G : Go p e below En n0 Q T g) : Go p e below En n0 Q' T g := by
  obtain ⟨s₂, o, h1, h2, h3, v, L, h4, ⟨h5, h6⟩, h7⟩ := G
  exact ⟨s₂, o, h1, h2, h3, v, L, h4, ⟨q _ _ h5, h6⟩, h7⟩
theorem g_iload (X : Stand p l e R s m args below meth c T locs cells slots) (hx : p.tables.exec = Jvm.exec) {k : Nat} {v : Int32} (hd : decode c.code pc = .ok (.iload k, 2)) (hp : pc + 2 = pc') (hl : Ls[k]? = some (.val (.int v))) (G : Go p e below En n0 Q T (mkF m pc' Ls (.int v :: st))) : Go p e below En n0 Q T (mkF m pc Ls (st)) := by
  subst hp
  exact Go.mov (fun _ k => XS.iload X.here hx rfl hd hl k) G
theorem g_iloadN (X : Stand p l e R s m args below meth c T locs cells slots) (hx : p.tables.exec = Jvm.exec) {k : Fin 4} {v : Int32} (hd : decode c.code pc = .ok (.iload_n k, 1)) (hp : pc + 1 = pc') (hl : Ls[k.val]? = some (.val (.int v))) (G : Go p e below En n0 Q T (mkF m pc' Ls (.int v :: st))) : Go p e below En n0 Q T (mkF m pc Ls (st)) := by
  subst hp
  exact Go.mov (fun _ k => XS.iloadN X.here hx rfl hd hl k) G
theorem g_lload (X : Stand p l e R s m args below meth c T locs cells slots) (hx : p.tables.exec = Jvm.exec) {k : Nat} {v : Int64} (hd : decode c.code pc = .ok (.lload k, 2)) (hp : pc + 2 = pc') (hl : Ls[k]? = some (.val (.long v))) (G : Go p e below En n0 Q T (mkF m pc' Ls (.long v :: st))) : Go p e below En n0 Q T (mkF m pc Ls (st)) := by
  subst hp
  exact Go.mov (fun _ k => XS.lload X.here hx rfl hd hl k) G
theorem g_lloadN (X : Stand p l e R s m args below meth c T locs cells slots) (hx : p.tables.exec = Jvm.exec) {k : Fin 4} {v : Int64} (hd : decode c.code pc = .ok (.lload_n k, 1)) (hp : pc + 1 = pc') (hl : Ls[k.val]? = some (.val (.long v))) (G : Go p e below En n0 Q T (mkF m pc' Ls (.long v :: st))) : Go p e below En n0 Q T (mkF m pc Ls (st)) := by
  subst hp
  exact Go.mov (fun _ k => XS.lloadN X.here hx rfl hd hl k) G
theorem g_aload (X : Stand p l e R s m args below meth c T locs cells slots) (hx : p.tables.exec = Jvm.exec) {k : Nat} {v : Value} (hd : decode c.code pc = .ok (.aload k, 2)) (hp : pc + 2 = pc') (hl : Ls[k]? = some (.val v)) (hv : v.isRef = true) (G : Go p e below En n0 Q T (mkF m pc' Ls (v :: st))) : Go p e below En n0 Q T (mkF m pc Ls (st)) := by
  subst hp
  exact Go.mov (fun _ k => XS.aload X.here hx rfl hd hl hv k) G
theorem g_aloadN (X : Stand p l e R s m args below meth c T locs cells slots) (hx : p.tables.exec = Jvm.exec) {k : Fin 4} {v : Value} (hd : decode c.code pc = .ok (.aload_n k, 1)) (hp : pc + 1 = pc') (hl : Ls[k.val]? = some (.val v)) (hv : v.isRef = true) (G : Go p e below En n0 Q T (mkF m pc' Ls (v :: st))) : Go p e below En n0 Q T (mkF m pc Ls (st)) := by
  subst hp
  exact Go.mov (fun _ k => XS.aloadN X.here hx rfl hd hl hv k) G
theorem g_istore (X : Stand p l e R s m args below meth c T locs cells slots) (hx : p.tables.exec = Jvm.exec) {k : Nat} {v : Int32} (hd : decode c.code pc = .ok (.istore k, 2)) (hp : pc + 2 = pc') (hl : storeLocals Ls k (.int v) = some Ls') (G : Go p e below En n0 Q T (mkF m pc' Ls' (st))) : Go p e below En n0 Q T (mkF m pc Ls (.int v :: st)) := by
  subst hp
  exact Go.mov (fun _ k => XS.istore X.here hx rfl hd rfl hl k) G
theorem g_istoreN (X : Stand p l e R s m args below meth c T locs cells slots) (hx : p.tables.exec = Jvm.exec) {k : Fin 4} {v : Int32} (hd : decode c.code pc = .ok (.istore_n k, 1)) (hp : pc + 1 = pc') (hl : storeLocals Ls k.val (.int v) = some Ls') (G : Go p e below En n0 Q T (mkF m pc' Ls' (st))) : Go p e below En n0 Q T (mkF m pc Ls (.int v :: st)) := by
  subst hp
  exact Go.mov (fun _ k => XS.istoreN X.here hx rfl hd rfl hl k) G
theorem g_lstore (X : Stand p l e R s m args below meth c T locs cells slots) (hx : p.tables.exec = Jvm.exec) {k : Nat} {v : Int64} (hd : decode c.code pc = .ok (.lstore k, 2)) (hp : pc + 2 = pc') (hl : storeLocals Ls k (.long v) = some Ls') (G : Go p e below En n0 Q T (mkF m pc' Ls' (st))) : Go p e below En n0 Q T (mkF m pc Ls (.long v :: st)) := by
  subst hp
  exact Go.mov (fun _ k => XS.lstore X.here hx rfl hd rfl hl k) G
theorem g_lstoreN (X : Stand p l e R s m args below meth c T locs cells slots) (hx : p.tables.exec = Jvm.exec) {k : Fin 4} {v : Int64} (hd : decode c.code pc = .ok (.lstore_n k, 1)) (hp : pc + 1 = pc') (hl : storeLocals Ls k.val (.long v) = some Ls') (G : Go p e below En n0 Q T (mkF m pc' Ls' (st))) : Go p e below En n0 Q T (mkF m pc Ls (.long v :: st)) := by
  subst hp
  exact Go.mov (fun _ k => XS.lstoreN X.here hx rfl hd rfl hl k) G
theorem g_astore (X : Stand p l e R s m args below meth c T locs cells slots) (hx : p.tables.exec = Jvm.exec) {k : Nat} {v : Value} (hd : decode c.code pc = .ok (.astore k, 2)) (hp : pc + 2 = pc') (hv : v.isRef = true) (hl : storeLocals Ls k v = some Ls') (G : Go p e below En n0 Q T (mkF m pc' Ls' (st))) : Go p e below En n0 Q T (mkF m pc Ls (v :: st)) := by
  subst hp
  exact Go.mov (fun _ k => XS.astore X.here hx rfl hd rfl hv hl k) G
theorem g_astoreN (X : Stand p l e R s m args below meth c T locs cells slots) (hx : p.tables.exec = Jvm.exec) {k : Fin 4} {v : Value} (hd : decode c.code pc = .ok (.astore_n k, 1)) (hp : pc + 1 = pc') (hv : v.isRef = true) (hl : storeLocals Ls k.val v = some Ls') (G : Go p e below En n0 Q T (mkF m pc' Ls' (st))) : Go p e below En n0 Q T (mkF m pc Ls (v :: st)) := by
  subst hp
  exact Go.mov (fun _ k => XS.astoreN X.here hx rfl hd rfl hv hl k) G
theorem g_iconst (X : Stand p l e R s m args below meth c T locs cells slots) (hx : p.tables.exec = Jvm.exec) {i : Int} {z : Int32} (hd : decode c.code pc = .ok (.iconst i, 1)) (hp : pc + 1 = pc') (hz : Int32.ofInt i = z) (G : Go p e below En n0 Q T (mkF m pc' Ls (.int z :: st))) : Go p e below En n0 Q T (mkF m pc Ls st) := by
  subst hp hz
  exact Go.mov (fun _ k => XS.iconst X.here hx rfl hd k) G
theorem g_bipush (X : Stand p l e R s m args below meth c T locs cells slots) (hx : p.tables.exec = Jvm.exec) {i : Int} {z : Int32} (hd : decode c.code pc = .ok (.bipush i, 2)) (hp : pc + 2 = pc') (hz : (Int8.ofInt i).toInt32 = z) (G : Go p e below En n0 Q T (mkF m pc' Ls (.int z :: st))) : Go p e below En n0 Q T (mkF m pc Ls st) := by
  subst hp hz
  exact Go.mov (fun _ k => XS.bipush X.here hx rfl hd k) G
theorem g_sipush (X : Stand p l e R s m args below meth c T locs cells slots) (hx : p.tables.exec = Jvm.exec) {i : Int} {z : Int32} (hd : decode c.code pc = .ok (.sipush i, 3)) (hp : pc + 3 = pc') (hz : (Int16.ofInt i).toInt32 = z) (G : Go p e below En n0 Q T (mkF m pc' Ls (.int z :: st))) : Go p e below En n0 Q T (mkF m pc Ls st) := by
  subst hp hz
  exact Go.mov (fun _ k => XS.sipush X.here hx rfl hd k) G
theorem g_lconst (X : Stand p l e R s m args below meth c T locs cells slots) (hx : p.tables.exec = Jvm.exec) {i : Fin 2} {z : Int64} (hd : decode c.code pc = .ok (.lconst i, 1)) (hp : pc + 1 = pc') (hz : Int64.ofNat i = z) (G : Go p e below En n0 Q T (mkF m pc' Ls (.long z :: st))) : Go p e below En n0 Q T (mkF m pc Ls st) := by
  subst hp hz
  exact Go.mov (fun _ k => XS.lconst X.here hx rfl hd k) G
theorem g_aconst_null (X : Stand p l e R s m args below meth c T locs cells slots) (hx : p.tables.exec = Jvm.exec)  (hd : decode c.code pc = .ok (.aconst_null, 1)) (hp : pc + 1 = pc') (G : Go p e below En n0 Q T (mkF m pc' Ls (.null :: st))) : Go p e below En n0 Q T (mkF m pc Ls (st)) := by
  subst hp
  exact Go.mov (fun _ k => XS.aconstNull X.here hx rfl hd k) G
theorem g_iadd (X : Stand p l e R s m args below meth c T locs cells slots) (hx : p.tables.exec = Jvm.exec) {x y : Int32} (hd : decode c.code pc = .ok (.iadd, 1)) (hp : pc + 1 = pc') (G : Go p e below En n0 Q T (mkF m pc' Ls (.int (x + y) :: st))) : Go p e below En n0 Q T (mkF m pc Ls (.int y :: .int x :: st)) := by
  subst hp
  exact Go.mov (fun _ k => XS.iadd X.here hx rfl hd rfl k) G
theorem g_ladd (X : Stand p l e R s m args below meth c T locs cells slots) (hx : p.tables.exec = Jvm.exec) {x y : Int64} (hd : decode c.code pc = .ok (.ladd, 1)) (hp : pc + 1 = pc') (G : Go p e below En n0 Q T (mkF m pc' Ls (.long (x + y) :: st))) : Go p e below En n0 Q T (mkF m pc Ls (.long y :: .long x :: st)) := by
  subst hp
  exact Go.mov (fun _ k => XS.ladd X.here hx rfl hd rfl k) G
theorem g_isub (X : Stand p l e R s m args below meth c T locs cells slots) (hx : p.tables.exec = Jvm.exec) {x y : Int32} (hd : decode c.code pc = .ok (.isub, 1)) (hp : pc + 1 = pc') (G : Go p e below En n0 Q T (mkF m pc' Ls (.int (x - y) :: st))) : Go p e below En n0 Q T (mkF m pc Ls (.int y :: .int x :: st)) := by
  subst hp
  exact Go.mov (fun _ k => XS.isub X.here hx rfl hd rfl k) G
theorem g_lsub (X : Stand p l e R s m args below meth c T locs cells slots) (hx : p.tables.exec = Jvm.exec) {x y : Int64} (hd : decode c.code pc = .ok (.lsub, 1)) (hp : pc + 1 = pc') (G : Go p e below En n0 Q T (mkF m pc' Ls (.long (x - y) :: st))) : Go p e below En n0 Q T (mkF m pc Ls (.long y :: .long x :: st)) := by
  subst hp
  exact Go.mov (fun _ k => XS.lsub X.here hx rfl hd rfl k) G
theorem g_imul (X : Stand p l e R s m args below meth c T locs cells slots) (hx : p.tables.exec = Jvm.exec) {x y : Int32} (hd : decode c.code pc = .ok (.imul, 1)) (hp : pc + 1 = pc') (G : Go p e below En n0 Q T (mkF m pc' Ls (.int (x * y) :: st))) : Go p e below En n0 Q T (mkF m pc Ls (.int y :: .int x :: st)) := by
  subst hp
  exact Go.mov (fun _ k => XS.imul X.here hx rfl hd rfl k) G
theorem g_lmul (X : Stand p l e R s m args below meth c T locs cells slots) (hx : p.tables.exec = Jvm.exec) {x y : Int64} (hd : decode c.code pc = .ok (.lmul, 1)) (hp : pc + 1 = pc') (G : Go p e below En n0 Q T (mkF m pc' Ls (.long (x * y) :: st))) : Go p e below En n0 Q T (mkF m pc Ls (.long y :: .long x :: st)) := by
  subst hp
  exact Go.mov (fun _ k => XS.lmul X.here hx rfl hd rfl k) G
theorem g_iand (X : Stand p l e R s m args below meth c T locs cells slots) (hx : p.tables.exec = Jvm.exec) {x y : Int32} (hd : decode c.code pc = .ok (.iand, 1)) (hp : pc + 1 = pc') (G : Go p e below En n0 Q T (mkF m pc' Ls (.int (x &&& y) :: st))) : Go p e below En n0 Q T (mkF m pc Ls (.int y :: .int x :: st)) := by
  subst hp
  exact Go.mov (fun _ k => XS.iand X.here hx rfl hd rfl k) G
theorem g_land (X : Stand p l e R s m args below meth c T locs cells slots) (hx : p.tables.exec = Jvm.exec) {x y : Int64} (hd : decode c.code pc = .ok (.land, 1)) (hp : pc + 1 = pc') (G : Go p e below En n0 Q T (mkF m pc' Ls (.long (x &&& y) :: st))) : Go p e below En n0 Q T (mkF m pc Ls (.long y :: .long x :: st)) := by
  subst hp
  exact Go.mov (fun _ k => XS.land X.here hx rfl hd rfl k) G
theorem g_ior (X : Stand p l e R s m args below meth c T locs cells slots) (hx : p.tables.exec = Jvm.exec) {x y : Int32} (hd : decode c.code pc = .ok (.ior, 1)) (hp : pc + 1 = pc') (G : Go p e below En n0 Q T (mkF m pc' Ls (.int (x ||| y) :: st))) : Go p e below En n0 Q T (mkF m pc Ls (.int y :: .int x :: st)) := by
  subst hp
  exact Go.mov (fun _ k => XS.ior X.here hx rfl hd rfl k) G
theorem g_lor (X : Stand p l e R s m args below meth c T locs cells slots) (hx : p.tables.exec = Jvm.exec) {x y : Int64} (hd : decode c.code pc = .ok (.lor, 1)) (hp : pc + 1 = pc') (G : Go p e below En n0 Q T (mkF m pc' Ls (.long (x ||| y) :: st))) : Go p e below En n0 Q T (mkF m pc Ls (.long y :: .long x :: st)) := by
  subst hp
  exact Go.mov (fun _ k => XS.lor X.here hx rfl hd rfl k) G
theorem g_ixor (X : Stand p l e R s m args below meth c T locs cells slots) (hx : p.tables.exec = Jvm.exec) {x y : Int32} (hd : decode c.code pc = .ok (.ixor, 1)) (hp : pc + 1 = pc') (G : Go p e below En n0 Q T (mkF m pc' Ls (.int (x ^^^ y) :: st))) : Go p e below En n0 Q T (mkF m pc Ls (.int y :: .int x :: st)) := by
  subst hp
  exact Go.mov (fun _ k => XS.ixor X.here hx rfl hd rfl k) G
theorem g_lxor (X : Stand p l e R s m args below meth c T locs cells slots) (hx : p.tables.exec = Jvm.exec) {x y : Int64} (hd : decode c.code pc = .ok (.lxor, 1)) (hp : pc + 1 = pc') (G : Go p e below En n0 Q T (mkF m pc' Ls (.long (x ^^^ y) :: st))) : Go p e below En n0 Q T (mkF m pc Ls (.long y :: .long x :: st)) := by
  subst hp
  exact Go.mov (fun _ k => XS.lxor X.here hx rfl hd rfl k) G
theorem g_ishl (X : Stand p l e R s m args below meth c T locs cells slots) (hx : p.tables.exec = Jvm.exec) {x y : Int32} (hd : decode c.code pc = .ok (.ishl, 1)) (hp : pc + 1 = pc') (G : Go p e below En n0 Q T (mkF m pc' Ls (.int (shl x y) :: st))) : Go p e below En n0 Q T (mkF m pc Ls (.int y :: .int x :: st)) := by
  subst hp
  exact Go.mov (fun _ k => XS.ishl X.here hx rfl hd rfl k) G
theorem g_lshl (X : Stand p l e R s m args below meth c T locs cells slots) (hx : p.tables.exec = Jvm.exec) {x : Int64} {y : Int32} (hd : decode c.code pc = .ok (.lshl, 1)) (hp : pc + 1 = pc') (G : Go p e below En n0 Q T (mkF m pc' Ls (.long (lshl x y) :: st))) : Go p e below En n0 Q T (mkF m pc Ls (.int y :: .long x :: st)) := by
  subst hp
  exact Go.mov (fun _ k => XS.lshl X.here hx rfl hd rfl k) G
theorem g_ishr (X : Stand p l e R s m args below meth c T locs cells slots) (hx : p.tables.exec = Jvm.exec) {x y : Int32} (hd : decode c.code pc = .ok (.ishr, 1)) (hp : pc + 1 = pc') (G : Go p e below En n0 Q T (mkF m pc' Ls (.int (shr x y) :: st))) : Go p e below En n0 Q T (mkF m pc Ls (.int y :: .int x :: st)) := by
  subst hp
  exact Go.mov (fun _ k => XS.ishr X.here hx rfl hd rfl k) G
theorem g_lshr (X : Stand p l e R s m args below meth c T locs cells slots) (hx : p.tables.exec = Jvm.exec) {x : Int64} {y : Int32} (hd : decode c.code pc = .ok (.lshr, 1)) (hp : pc + 1 = pc') (G : Go p e below En n0 Q T (mkF m pc' Ls (.long (lshr x y) :: st))) : Go p e below En n0 Q T (mkF m pc Ls (.int y :: .long x :: st)) := by
  subst hp
  exact Go.mov (fun _ k => XS.lshr X.here hx rfl hd rfl k) G
theorem g_iushr (X : Stand p l e R s m args below meth c T locs cells slots) (hx : p.tables.exec = Jvm.exec) {x y : Int32} (hd : decode c.code pc = .ok (.iushr, 1)) (hp : pc + 1 = pc') (G : Go p e below En n0 Q T (mkF m pc' Ls (.int (ushr x y) :: st))) : Go p e below En n0 Q T (mkF m pc Ls (.int y :: .int x :: st)) := by
  subst hp
  exact Go.mov (fun _ k => XS.iushr X.here hx rfl hd rfl k) G
theorem g_lushr (X : Stand p l e R s m args below meth c T locs cells slots) (hx : p.tables.exec = Jvm.exec) {x : Int64} {y : Int32} (hd : decode c.code pc = .ok (.lushr, 1)) (hp : pc + 1 = pc') (G : Go p e below En n0 Q T (mkF m pc' Ls (.long (lushr x y) :: st))) : Go p e below En n0 Q T (mkF m pc Ls (.int y :: .long x :: st)) := by
  subst hp
  exact Go.mov (fun _ k => XS.lushr X.here hx rfl hd rfl k) G
theorem g_i2b (X : Stand p l e R s m args below meth c T locs cells slots) (hx : p.tables.exec = Jvm.exec) {x : Int32} (hd : decode c.code pc = .ok (.i2b, 1)) (hp : pc + 1 = pc') (G : Go p e below En n0 Q T (mkF m pc' Ls (.int (byt x) :: st))) : Go p e below En n0 Q T (mkF m pc Ls (.int x :: st)) := by
  subst hp
  exact Go.mov (fun _ k => XS.i2b X.here hx rfl hd rfl k) G
theorem g_i2c (X : Stand p l e R s m args below meth c T locs cells slots) (hx : p.tables.exec = Jvm.exec) {x : Int32} (hd : decode c.code pc = .ok (.i2c, 1)) (hp : pc + 1 = pc') (G : Go p e below En n0 Q T (mkF m pc' Ls (.int (chr x) :: st))) : Go p e below En n0 Q T (mkF m pc Ls (.int x :: st)) := by
  subst hp
  exact Go.mov (fun _ k => XS.i2c X.here hx rfl hd rfl k) G
theorem g_i2s (X : Stand p l e R s m args below meth c T locs cells slots) (hx : p.tables.exec = Jvm.exec) {x : Int32} (hd : decode c.code pc = .ok (.i2s, 1)) (hp : pc + 1 = pc') (G : Go p e below En n0 Q T (mkF m pc' Ls (.int (sht x) :: st))) : Go p e below En n0 Q T (mkF m pc Ls (.int x :: st)) := by
  subst hp
  exact Go.mov (fun _ k => XS.i2s X.here hx rfl hd rfl k) G
theorem g_i2l (X : Stand p l e R s m args below meth c T locs cells slots) (hx : p.tables.exec = Jvm.exec) {x : Int32} (hd : decode c.code pc = .ok (.i2l, 1)) (hp : pc + 1 = pc') (G : Go p e below En n0 Q T (mkF m pc' Ls (.long x.toInt64 :: st))) : Go p e below En n0 Q T (mkF m pc Ls (.int x :: st)) := by
  subst hp
  exact Go.mov (fun _ k => XS.i2l X.here hx rfl hd rfl k) G
theorem g_l2i (X : Stand p l e R s m args below meth c T locs cells slots) (hx : p.tables.exec = Jvm.exec) {x : Int64} (hd : decode c.code pc = .ok (.l2i, 1)) (hp : pc + 1 = pc') (G : Go p e below En n0 Q T (mkF m pc' Ls (.int x.toInt32 :: st))) : Go p e below En n0 Q T (mkF m pc Ls (.long x :: st)) := by
  subst hp
  exact Go.mov (fun _ k => XS.l2i X.here hx rfl hd rfl k) G
theorem g_ineg (X : Stand p l e R s m args below meth c T locs cells slots) (hx : p.tables.exec = Jvm.exec) {x : Int32} (hd : decode c.code pc = .ok (.ineg, 1)) (hp : pc + 1 = pc') (G : Go p e below En n0 Q T (mkF m pc' Ls (.int (-x) :: st))) : Go p e below En n0 Q T (mkF m pc Ls (.int x :: st)) := by
  subst hp
  exact Go.mov (fun _ k => XS.ineg X.here hx rfl hd rfl k) G
theorem g_lneg (X : Stand p l e R s m args below meth c T locs cells slots) (hx : p.tables.exec = Jvm.exec) {x : Int64} (hd : decode c.code pc = .ok (.lneg, 1)) (hp : pc + 1 = pc') (G : Go p e below En n0 Q T (mkF m pc' Ls (.long (-x) :: st))) : Go p e below En n0 Q T (mkF m pc Ls (.long x :: st)) := by
  subst hp
  exact Go.mov (fun _ k => XS.lneg X.here hx rfl hd rfl k) G
theorem g_idiv (X : Stand p l e R s m args below meth c T locs cells slots) (hx : p.tables.exec = Jvm.exec) {x y : Int32} (hd : decode c.code pc = .ok (.idiv, 1)) (hp : pc + 1 = pc') (hy : y ≠ 0) (G : Go p e below En n0 Q T (mkF m pc' Ls (.int (x / y) :: st))) : Go p e below En n0 Q T (mkF m pc Ls (.int y :: .int x :: st)) := by
  subst hp
  exact Go.mov (fun _ k => XS.idiv X.here hx rfl hd rfl hy k) G
theorem g_ldiv (X : Stand p l e R s m args below meth c T locs cells slots) (hx : p.tables.exec = Jvm.exec) {x y : Int64} (hd : decode c.code pc = .ok (.ldiv, 1)) (hp : pc + 1 = pc') (hy : y ≠ 0) (G : Go p e below En n0 Q T (mkF m pc' Ls (.long (x / y) :: st))) : Go p e below En n0 Q T (mkF m pc Ls (.long y :: .long x :: st)) := by
  subst hp
  exact Go.mov (fun _ k => XS.ldiv X.here hx rfl hd rfl hy k) G
theorem g_irem (X : Stand p l e R s m args below meth c T locs cells slots) (hx : p.tables.exec = Jvm.exec) {x y : Int32} (hd : decode c.code pc = .ok (.irem, 1)) (hp : pc + 1 = pc') (hy : y ≠ 0) (G : Go p e below En n0 Q T (mkF m pc' Ls (.int (x % y) :: st))) : Go p e below En n0 Q T (mkF m pc Ls (.int y :: .int x :: st)) := by
  subst hp
  exact Go.mov (fun _ k => iremM X hx rfl hd rfl hy k) G
theorem g_lcmp (X : Stand p l e R s m args below meth c T locs cells slots) (hx : p.tables.exec = Jvm.exec) {x y : Int64} (hd : decode c.code pc = .ok (.lcmp, 1)) (hp : pc + 1 = pc') (G : Go p e below En n0 Q T (mkF m pc' Ls (.int (lcmpW x y) :: st))) : Go p e below En n0 Q T (mkF m pc Ls (.long y :: .long x :: st)) := by
  subst hp
  exact Go.mov (fun _ k => XS.lcmp X.here hx rfl hd rfl k) G
theorem g_dup (X : Stand p l e R s m args below meth c T locs cells slots) (hx : p.tables.exec = Jvm.exec) {x : Value} (hd : decode c.code pc = .ok (.dup, 1)) (hp : pc + 1 = pc') (hc : x.category = 1) (G : Go p e below En n0 Q T (mkF m pc' Ls (x :: x :: st))) : Go p e below En n0 Q T (mkF m pc Ls (x :: st)) := by
  subst hp
  exact Go.mov (fun _ k => XS.dup X.here hx rfl hd rfl hc k) G
theorem g_dup_x1 (X : Stand p l e R s m args below meth c T locs cells slots) (hx : p.tables.exec = Jvm.exec) {x y : Value} (hd : decode c.code pc = .ok (.dup_x1, 1)) (hp : pc + 1 = pc') (hc : x.category = 1) (hc2 : y.category = 1) (G : Go p e below En n0 Q T (mkF m pc' Ls (x :: y :: x :: st))) : Go p e below En n0 Q T (mkF m pc Ls (x :: y :: st)) := by
  subst hp
  exact Go.mov (fun _ k => XS.dupX1 X.here hx rfl hd rfl hc hc2 k) G
theorem g_dup2 (X : Stand p l e R s m args below meth c T locs cells slots) (hx : p.tables.exec = Jvm.exec) {x y : Value} (hd : decode c.code pc = .ok (.dup2, 1)) (hp : pc + 1 = pc') (hc : x.category = 1) (hc2 : y.category = 1) (G : Go p e below En n0 Q T (mkF m pc' Ls (x :: y :: x :: y :: st))) : Go p e below En n0 Q T (mkF m pc Ls (x :: y :: st)) := by
  subst hp
  exact Go.mov (fun _ k => XT.dup2 X.here hx rfl hd rfl hc hc2 k) G
theorem g_pop (X : Stand p l e R s m args below meth c T locs cells slots) (hx : p.tables.exec = Jvm.exec) {x : Value} (hd : decode c.code pc = .ok (.pop, 1)) (hp : pc + 1 = pc') (hc : x.category = 1) (G : Go p e below En n0 Q T (mkF m pc' Ls (st))) : Go p e below En n0 Q T (mkF m pc Ls (x :: st)) := by
  subst hp
  exact Go.mov (fun _ k => XS.pop X.here hx rfl hd rfl hc k) G
theorem g_iinc (X : Stand p l e R s m args below meth c T locs cells slots) (hx : p.tables.exec = Jvm.exec) {k : Nat} {cst : Int} {v z : Int32} (hd : decode c.code pc = .ok (.iinc k cst, 3)) (hp : pc + 3 = pc') (hl : Ls[k]? = some (.val (.int v))) (hz : Int32.ofInt cst = z) (hl' : storeLocals Ls k (.int (v + z)) = some Ls') (G : Go p e below En n0 Q T (mkF m pc' Ls' st)) : Go p e below En n0 Q T (mkF m pc Ls st) := by
  subst hp hz
  exact Go.mov (fun _ k => XS.iinc X.here hx rfl hd hl hl' k) G
theorem g_goto (X : Stand p l e R s m args below meth c T locs cells slots) (hx : p.tables.exec = Jvm.exec) {o : Int} (hd : decode c.code pc = .ok (.goto o, 3)) (ho : 0 ≤ (pc : Int) + o) (hp : ((pc : Int) + o).toNat = pc') (G : Go p e below En n0 Q T (mkF m pc' Ls st)) : Go p e below En n0 Q T (mkF m pc Ls st) :=
  Go.mov (fun _ k => XS.goto X.here hx rfl rfl hd ho hp k) G
theorem g_icmp_lt (X : Stand p l e R s m args below meth c T locs cells slots) (hx : p.tables.exec = Jvm.exec) {x y : Int32} {o : Int} (hd : decode c.code pc = .ok (.if_icmp .lt o, 3)) (hp1 : pc1 = pc + 3) (ho : 0 ≤ (pc : Int) + o) (hp2 : ((pc : Int) + o).toNat = pc2) (G2 : (x < y) → Go p e below En n0 Q T (mkF m pc2 Ls st)) (G1 : (¬ x < y) → Go p e below En n0 Q T (mkF m pc1 Ls st)) : Go p e below En n0 Q T (mkF m pc Ls (.int y :: .int x :: st)) := by
  by_cases q : x < y
  · exact Go.mov (fun _ k => XS.icmpYes X.here hx rfl rfl hd rfl (tlt q).1 ho hp2 k) (G2 q)
  · exact Go.mov (fun _ k => XS.icmpNo X.here hx rfl hd rfl (flt q).1 (hp1 ▸ k)) (G1 q)
theorem g_if_lt (X : Stand p l e R s m args below meth c T locs cells slots) (hx : p.tables.exec = Jvm.exec) {x : Int32} {o : Int} (hd : decode c.code pc = .ok (.ifCond .lt o, 3)) (hp1 : pc1 = pc + 3) (ho : 0 ≤ (pc : Int) + o) (hp2 : ((pc : Int) + o).toNat = pc2) (G2 : (x < (0 : Int32)) → Go p e below En n0 Q T (mkF m pc2 Ls st)) (G1 : (¬ x < (0 : Int32)) → Go p e below En n0 Q T (mkF m pc1 Ls st)) : Go p e below En n0 Q T (mkF m pc Ls (.int x :: st)) := by
  by_cases q : x < (0 : Int32)
  · exact Go.mov (fun _ k => XS.ifYes X.here hx rfl rfl hd rfl ((if0 _ _).trans (tlt q).1) ho hp2 k) (G2 q)
  · exact Go.mov (fun _ k => XS.ifNo X.here hx rfl hd rfl ((if0 _ _).trans (flt q).1) (hp1 ▸ k)) (G1 q)
theorem g_lcmp_lt (X : Stand p l e R s m args below meth c T locs cells slots) (hx : p.tables.exec = Jvm.exec) {x y : Int64} {o : Int} (hd0 : decode c.code pc = .ok (.lcmp, 1)) (hp0 : pc + 1 = pc') (hd : decode c.code pc' = .ok (.ifCond .lt o, 3)) (hp1 : pc1 = pc' + 3) (ho : 0 ≤ (pc' : Int) + o) (hp2 : ((pc' : Int) + o).toNat = pc2) (G2 : (x < y) → Go p e below En n0 Q T (mkF m pc2 Ls st)) (G1 : (¬ x < y) → Go p e below En n0 Q T (mkF m pc1 Ls st)) : Go p e below En n0 Q T (mkF m pc Ls (.long y :: .long x :: st)) :=
  g_lcmp X hx hd0 hp0 (g_if_lt X hx hd hp1 ho hp2 (fun q => G2 ((lw_lt x y).mp q)) (fun q => G1 (fun r => q ((lw_lt x y).mpr r))))
theorem g_icmp_ge (X : Stand p l e R s m args below meth c T locs cells slots) (hx : p.tables.exec = Jvm.exec) {x y : Int32} {o : Int} (hd : decode c.code pc = .ok (.if_icmp .ge o, 3)) (hp1 : pc1 = pc + 3) (ho : 0 ≤ (pc : Int) + o) (hp2 : ((pc : Int) + o).toNat = pc2) (G2 : (¬ x < y) → Go p e below En n0 Q T (mkF m pc2 Ls st)) (G1 : (x < y) → Go p e below En n0 Q T (mkF m pc1 Ls st)) : Go p e below En n0 Q T (mkF m pc Ls (.int y :: .int x :: st)) := by
  by_cases q : x < y
  · exact Go.mov (fun _ k => XS.icmpNo X.here hx rfl hd rfl (tlt q).2.1 (hp1 ▸ k)) (G1 q)
  · exact Go.mov (fun _ k => XS.icmpYes X.here hx rfl rfl hd rfl (flt q).2.1 ho hp2 k) (G2 q)
theorem g_if_ge (X : Stand p l e R s m args below meth c T locs cells slots) (hx : p.tables.exec = Jvm.exec) {x : Int32} {o : Int} (hd : decode c.code pc = .ok (.ifCond .ge o, 3)) (hp1 : pc1 = pc + 3) (ho : 0 ≤ (pc : Int) + o) (hp2 : ((pc : Int) + o).toNat = pc2) (G2 : (¬ x < (0 : Int32)) → Go p e below En n0 Q T (mkF m pc2 Ls st)) (G1 : (x < (0 : Int32)) → Go p e below En n0 Q T (mkF m pc1 Ls st)) : Go p e below En n0 Q T (mkF m pc Ls (.int x :: st)) := by
  by_cases q : x < (0 : Int32)
  · exact Go.mov (fun _ k => XS.ifNo X.here hx rfl hd rfl ((if0 _ _).trans (tlt q).2.1) (hp1 ▸ k)) (G1 q)
  · exact Go.mov (fun _ k => XS.ifYes X.here hx rfl rfl hd rfl ((if0 _ _).trans (flt q).2.1) ho hp2 k) (G2 q)
theorem g_lcmp_ge (X : Stand p l e R s m args below meth c T locs cells slots) (hx : p.tables.exec = Jvm.exec) {x y : Int64} {o : Int} (hd0 : decode c.code pc = .ok (.lcmp, 1)) (hp0 : pc + 1 = pc') (hd : decode c.code pc' = .ok (.ifCond .ge o, 3)) (hp1 : pc1 = pc' + 3) (ho : 0 ≤ (pc' : Int) + o) (hp2 : ((pc' : Int) + o).toNat = pc2) (G2 : (¬ x < y) → Go p e below En n0 Q T (mkF m pc2 Ls st)) (G1 : (x < y) → Go p e below En n0 Q T (mkF m pc1 Ls st)) : Go p e below En n0 Q T (mkF m pc Ls (.long y :: .long x :: st)) :=
  g_lcmp X hx hd0 hp0 (g_if_ge X hx hd hp1 ho hp2 (fun q => G2 (fun r => q ((lw_lt x y).mpr r))) (fun q => G1 ((lw_lt x y).mp q)))
theorem g_icmp_gt (X : Stand p l e R s m args below meth c T locs cells slots) (hx : p.tables.exec = Jvm.exec) {x y : Int32} {o : Int} (hd : decode c.code pc = .ok (.if_icmp .gt o, 3)) (hp1 : pc1 = pc + 3) (ho : 0 ≤ (pc : Int) + o) (hp2 : ((pc : Int) + o).toNat = pc2) (G2 : (y < x) → Go p e below En n0 Q T (mkF m pc2 Ls st)) (G1 : (¬ y < x) → Go p e below En n0 Q T (mkF m pc1 Ls st)) : Go p e below En n0 Q T (mkF m pc Ls (.int y :: .int x :: st)) := by
  by_cases q : y < x
  · exact Go.mov (fun _ k => XS.icmpYes X.here hx rfl rfl hd rfl (tlt q).2.2.1 ho hp2 k) (G2 q)
  · exact Go.mov (fun _ k => XS.icmpNo X.here hx rfl hd rfl (flt q).2.2.1 (hp1 ▸ k)) (G1 q)
theorem g_if_gt (X : Stand p l e R s m args below meth c T locs cells slots) (hx : p.tables.exec = Jvm.exec) {x : Int32} {o : Int} (hd : decode c.code pc = .ok (.ifCond .gt o, 3)) (hp1 : pc1 = pc + 3) (ho : 0 ≤ (pc : Int) + o) (hp2 : ((pc : Int) + o).toNat = pc2) (G2 : ((0 : Int32) < x) → Go p e below En n0 Q T (mkF m pc2 Ls st)) (G1 : (¬ (0 : Int32) < x) → Go p e below En n0 Q T (mkF m pc1 Ls st)) : Go p e below En n0 Q T (mkF m pc Ls (.int x :: st)) := by
  by_cases q : (0 : Int32) < x
  · exact Go.mov (fun _ k => XS.ifYes X.here hx rfl rfl hd rfl ((if0 _ _).trans (tlt q).2.2.1) ho hp2 k) (G2 q)
  · exact Go.mov (fun _ k => XS.ifNo X.here hx rfl hd rfl ((if0 _ _).trans (flt q).2.2.1) (hp1 ▸ k)) (G1 q)
theorem g_lcmp_gt (X : Stand p l e R s m args below meth c T locs cells slots) (hx : p.tables.exec = Jvm.exec) {x y : Int64} {o : Int} (hd0 : decode c.code pc = .ok (.lcmp, 1)) (hp0 : pc + 1 = pc') (hd : decode c.code pc' = .ok (.ifCond .gt o, 3)) (hp1 : pc1 = pc' + 3) (ho : 0 ≤ (pc' : Int) + o) (hp2 : ((pc' : Int) + o).toNat = pc2) (G2 : (y < x) → Go p e below En n0 Q T (mkF m pc2 Ls st)) (G1 : (¬ y < x) → Go p e below En n0 Q T (mkF m pc1 Ls st)) : Go p e below En n0 Q T (mkF m pc Ls (.long y :: .long x :: st)) :=
  g_lcmp X hx hd0 hp0 (g_if_gt X hx hd hp1 ho hp2 (fun q => G2 ((lw_gt x y).mp q)) (fun q => G1 (fun r => q ((lw_gt x y).mpr r))))
theorem g_icmp_le (X : Stand p l e R s m args below meth c T locs cells slots) (hx : p.tables.exec = Jvm.exec) {x y : Int32} {o : Int} (hd : decode c.code pc = .ok (.if_icmp .le o, 3)) (hp1 : pc1 = pc + 3) (ho : 0 ≤ (pc : Int) + o) (hp2 : ((pc : Int) + o).toNat = pc2) (G2 : (¬ y < x) → Go p e below En n0 Q T (mkF m pc2 Ls st)) (G1 : (y < x) → Go p e below En n0 Q T (mkF m pc1 Ls st)) : Go p e below En n0 Q T (mkF m pc Ls (.int y :: .int x :: st)) := by
  by_cases q : y < x
  · exact Go.mov (fun _ k => XS.icmpNo X.here hx rfl hd rfl (tlt q).2.2.2 (hp1 ▸ k)) (G1 q)
  · exact Go.mov (fun _ k => XS.icmpYes X.here hx rfl rfl hd rfl (flt q).2.2.2 ho hp2 k) (G2 q)
theorem g_if_le (X : Stand p l e R s m args below meth c T locs cells slots) (hx : p.tables.exec = Jvm.exec) {x : Int32} {o : Int} (hd : decode c.code pc = .ok (.ifCond .le o, 3)) (hp1 : pc1 = pc + 3) (ho : 0 ≤ (pc : Int) + o) (hp2 : ((pc : Int) + o).toNat = pc2) (G2 : (¬ (0 : Int32) < x) → Go p e below En n0 Q T (mkF m pc2 Ls st)) (G1 : ((0 : Int32) < x) → Go p e below En n0 Q T (mkF m pc1 Ls st)) : Go p e below En n0 Q T (mkF m pc Ls (.int x :: st)) := by
  by_cases q : (0 : Int32) < x
  · exact Go.mov (fun _ k => XS.ifNo X.here hx rfl hd rfl ((if0 _ _).trans (tlt q).2.2.2) (hp1 ▸ k)) (G1 q)
  · exact Go.mov (fun _ k => XS.ifYes X.here hx rfl rfl hd rfl ((if0 _ _).trans (flt q).2.2.2) ho hp2 k) (G2 q)
theorem g_lcmp_le (X : Stand p l e R s m args below meth c T locs cells slots) (hx : p.tables.exec = Jvm.exec) {x y : Int64} {o : Int} (hd0 : decode c.code pc = .ok (.lcmp, 1)) (hp0 : pc + 1 = pc') (hd : decode c.code pc' = .ok (.ifCond .le o, 3)) (hp1 : pc1 = pc' + 3) (ho : 0 ≤ (pc' : Int) + o) (hp2 : ((pc' : Int) + o).toNat = pc2) (G2 : (¬ y < x) → Go p e below En n0 Q T (mkF m pc2 Ls st)) (G1 : (y < x) → Go p e below En n0 Q T (mkF m pc1 Ls st)) : Go p e below En n0 Q T (mkF m pc Ls (.long y :: .long x :: st)) :=
  g_lcmp X hx hd0 hp0 (g_if_le X hx hd hp1 ho hp2 (fun q => G2 (fun r => q ((lw_gt x y).mpr r))) (fun q => G1 ((lw_gt x y).mp q)))
theorem g_icmp_eq (X : Stand p l e R s m args below meth c T locs cells slots) (hx : p.tables.exec = Jvm.exec) {x y : Int32} {o : Int} (hd : decode c.code pc = .ok (.if_icmp .eq o, 3)) (hp1 : pc1 = pc + 3) (ho : 0 ≤ (pc : Int) + o) (hp2 : ((pc : Int) + o).toNat = pc2) (G2 : (x = y) → Go p e below En n0 Q T (mkF m pc2 Ls st)) (G1 : (¬ x = y) → Go p e below En n0 Q T (mkF m pc1 Ls st)) : Go p e below En n0 Q T (mkF m pc Ls (.int y :: .int x :: st)) := by
  by_cases q : x = y
  · exact Go.mov (fun _ k => XS.icmpYes X.here hx rfl rfl hd rfl (teq q).1 ho hp2 k) (G2 q)
  · exact Go.mov (fun _ k => XS.icmpNo X.here hx rfl hd rfl (feq q).1 (hp1 ▸ k)) (G1 q)
theorem g_if_eq (X : Stand p l e R s m args below meth c T locs cells slots) (hx : p.tables.exec = Jvm.exec) {x : Int32} {o : Int} (hd : decode c.code pc = .ok (.ifCond .eq o, 3)) (hp1 : pc1 = pc + 3) (ho : 0 ≤ (pc : Int) + o) (hp2 : ((pc : Int) + o).toNat = pc2) (G2 : (x = (0 : Int32)) → Go p e below En n0 Q T (mkF m pc2 Ls st)) (G1 : (¬ x = (0 : Int32)) → Go p e below En n0 Q T (mkF m pc1 Ls st)) : Go p e below En n0 Q T (mkF m pc Ls (.int x :: st)) := by
  by_cases q : x = (0 : Int32)
  · exact Go.mov (fun _ k => XS.ifYes X.here hx rfl rfl hd rfl ((if0 _ _).trans (teq q).1) ho hp2 k) (G2 q)
  · exact Go.mov (fun _ k => XS.ifNo X.here hx rfl hd rfl ((if0 _ _).trans (feq q).1) (hp1 ▸ k)) (G1 q)
theorem g_lcmp_eq (X : Stand p l e R s m args below meth c T locs cells slots) (hx : p.tables.exec = Jvm.exec) {x y : Int64} {o : Int} (hd0 : decode c.code pc = .ok (.lcmp, 1)) (hp0 : pc + 1 = pc') (hd : decode c.code pc' = .ok (.ifCond .eq o, 3)) (hp1 : pc1 = pc' + 3) (ho : 0 ≤ (pc' : Int) + o) (hp2 : ((pc' : Int) + o).toNat = pc2) (G2 : (x = y) → Go p e below En n0 Q T (mkF m pc2 Ls st)) (G1 : (¬ x = y) → Go p e below En n0 Q T (mkF m pc1 Ls st)) : Go p e below En n0 Q T (mkF m pc Ls (.long y :: .long x :: st)) :=
  g_lcmp X hx hd0 hp0 (g_if_eq X hx hd hp1 ho hp2 (fun q => G2 ((lw_eq x y).mp q)) (fun q => G1 (fun r => q ((lw_eq x y).mpr r))))
theorem g_icmp_ne (X : Stand p l e R s m args below meth c T locs cells slots) (hx : p.tables.exec = Jvm.exec) {x y : Int32} {o : Int} (hd : decode c.code pc = .ok (.if_icmp .ne o, 3)) (hp1 : pc1 = pc + 3) (ho : 0 ≤ (pc : Int) + o) (hp2 : ((pc : Int) + o).toNat = pc2) (G2 : (¬ x = y) → Go p e below En n0 Q T (mkF m pc2 Ls st)) (G1 : (x = y) → Go p e below En n0 Q T (mkF m pc1 Ls st)) : Go p e below En n0 Q T (mkF m pc Ls (.int y :: .int x :: st)) := by
  by_cases q : x = y
  · exact Go.mov (fun _ k => XS.icmpNo X.here hx rfl hd rfl (teq q).2 (hp1 ▸ k)) (G1 q)
  · exact Go.mov (fun _ k => XS.icmpYes X.here hx rfl rfl hd rfl (feq q).2 ho hp2 k) (G2 q)
theorem g_if_ne (X : Stand p l e R s m args below meth c T locs cells slots) (hx : p.tables.exec = Jvm.exec) {x : Int32} {o : Int} (hd : decode c.code pc = .ok (.ifCond .ne o, 3)) (hp1 : pc1 = pc + 3) (ho : 0 ≤ (pc : Int) + o) (hp2 : ((pc : Int) + o).toNat = pc2) (G2 : (¬ x = (0 : Int32)) → Go p e below En n0 Q T (mkF m pc2 Ls st)) (G1 : (x = (0 : Int32)) → Go p e below En n0 Q T (mkF m pc1 Ls st)) : Go p e below En n0 Q T (mkF m pc Ls (.int x :: st)) := by
  by_cases q : x = (0 : Int32)
  · exact Go.mov (fun _ k => XS.ifNo X.here hx rfl hd rfl ((if0 _ _).trans (teq q).2) (hp1 ▸ k)) (G1 q)
  · exact Go.mov (fun _ k => XS.ifYes X.here hx rfl rfl hd rfl ((if0 _ _).trans (feq q).2) ho hp2 k) (G2 q)
theorem g_lcmp_ne (X : Stand p l e R s m args below meth c T locs cells slots) (hx : p.tables.exec = Jvm.exec) {x y : Int64} {o : Int} (hd0 : decode c.code pc = .ok (.lcmp, 1)) (hp0 : pc + 1 = pc') (hd : decode c.code pc' = .ok (.ifCond .ne o, 3)) (hp1 : pc1 = pc' + 3) (ho : 0 ≤ (pc' : Int) + o) (hp2 : ((pc' : Int) + o).toNat = pc2) (G2 : (¬ x = y) → Go p e below En n0 Q T (mkF m pc2 Ls st)) (G1 : (x = y) → Go p e below En n0 Q T (mkF m pc1 Ls st)) : Go p e below En n0 Q T (mkF m pc Ls (.long y :: .long x :: st)) :=
  g_lcmp X hx hd0 hp0 (g_if_ne X hx hd hp1 ho hp2 (fun q => G2 (fun r => q ((lw_eq x y).mpr r))) (fun q => G1 ((lw_eq x y).mp q)))
theorem g_ifnull_n (X : Stand p l e R s m args below meth c T locs cells slots) (hx : p.tables.exec = Jvm.exec) {b : Addr} {o : Int} (hd : decode c.code pc = .ok (.ifnull o, 3)) (hp : pc + 3 = pc') (G : Go p e below En n0 Q T (mkF m pc' Ls st)) : Go p e below En n0 Q T (mkF m pc Ls (.ref b :: st)) := by
  subst hp
  exact Go.mov (fun _ k => XS.ifnullNo X.here hx rfl hd rfl k) G
theorem g_ifnull_y (X : Stand p l e R s m args below meth c T locs cells slots) (hx : p.tables.exec = Jvm.exec) {o : Int} (hd : decode c.code pc = .ok (.ifnull o, 3)) (ho : 0 ≤ (pc : Int) + o) (hp : ((pc : Int) + o).toNat = pc') (G : Go p e below En n0 Q T (mkF m pc' Ls st)) : Go p e below En n0 Q T (mkF m pc Ls (.null :: st)) :=
  Go.mov (fun _ k => XS.ifnullYes X.here hx rfl rfl hd rfl ho hp k) G
theorem g_ifnonnull_y (X : Stand p l e R s m args below meth c T locs cells slots) (hx : p.tables.exec = Jvm.exec) {b : Addr} {o : Int} (hd : decode c.code pc = .ok (.ifnonnull o, 3)) (ho : 0 ≤ (pc : Int) + o) (hp : ((pc : Int) + o).toNat = pc') (G : Go p e below En n0 Q T (mkF m pc' Ls st)) : Go p e below En n0 Q T (mkF m pc Ls (.ref b :: st)) :=
  Go.mov (fun _ k => XS.ifnonnullYes X.here hx rfl rfl hd rfl ho hp k) G
theorem g_ifnonnull_n (X : Stand p l e R s m args below meth c T locs cells slots) (hx : p.tables.exec = Jvm.exec) {o : Int} (hd : decode c.code pc = .ok (.ifnonnull o, 3)) (hp : pc + 3 = pc') (G : Go p e below En n0 Q T (mkF m pc' Ls st)) : Go p e below En n0 Q T (mkF m pc Ls (.null :: st)) := by
  subst hp
  exact Go.mov (fun _ k => XS.ifnonnullNo X.here hx rfl hd rfl k) G
theorem g_acmp_eq (X : Stand p l e R s m args below meth c T locs cells slots) (hx : p.tables.exec = Jvm.exec) {x y : Value} {o : Int} (hd : decode c.code pc = .ok (.if_acmp .eq o, 3)) (hx1 : x.isRef = true) (hy1 : y.isRef = true) (hp1 : pc1 = pc + 3) (ho : 0 ≤ (pc : Int) + o) (hp2 : ((pc : Int) + o).toNat = pc2) (G2 : (x = y) → Go p e below En n0 Q T (mkF m pc2 Ls st)) (G1 : (¬ x = y) → Go p e below En n0 Q T (mkF m pc1 Ls st)) : Go p e below En n0 Q T (mkF m pc Ls (y :: x :: st)) := by
  subst hp1 hp2
  by_cases q : x = y
  · exact Go.mov (fun _ k => acmp X hx rfl hx1 hy1 rfl hd rfl (same := true) (decide_eq_true q) ho rfl k) (G2 q)
  · exact Go.mov (fun _ k => acmp X hx rfl hx1 hy1 rfl hd rfl (same := false) (decide_eq_false q) ho rfl k) (G1 q)
theorem g_acmp_ne (X : Stand p l e R s m args below meth c T locs cells slots) (hx : p.tables.exec = Jvm.exec) {x y : Value} {o : Int} (hd : decode c.code pc = .ok (.if_acmp .ne o, 3)) (hx1 : x.isRef = true) (hy1 : y.isRef = true) (hp1 : pc1 = pc + 3) (ho : 0 ≤ (pc : Int) + o) (hp2 : ((pc : Int) + o).toNat = pc2) (G2 : (¬ x = y) → Go p e below En n0 Q T (mkF m pc2 Ls st)) (G1 : (x = y) → Go p e below En n0 Q T (mkF m pc1 Ls st)) : Go p e below En n0 Q T (mkF m pc Ls (y :: x :: st)) := by
  subst hp1 hp2
  by_cases q : x = y
  · exact Go.mov (fun _ k => acmp X hx rfl hx1 hy1 rfl hd rfl (same := true) (decide_eq_true q) ho rfl k) (G1 q)
  · exact Go.mov (fun _ k => acmp X hx rfl hx1 hy1 rfl hd rfl (same := false) (decide_eq_false q) ho rfl k) (G2 q)
theorem g_ldc (X : Stand p l e R s m args below meth c T locs cells slots) (hx : p.tables.exec = Jvm.exec) (hZ : Z.Warmed39 s.vm) {own : String} {i : Nat} {v : Int32} (hown : s.vm.findClass own = some m.cls) (w : (Jvm.Cond.constant own i v).before a0 Z = true) (hd : decode c.code pc = .ok (.ldc i, 2)) (hp : pc + 2 = pc') (G : Go p e below En n0 Q T (mkF m pc' Ls (.int v :: st))) : Go p e below En n0 Q T (mkF m pc Ls st) := by
  subst hp
  exact Go.mov (X.ldcInt hx hown (mvT hZ w) rfl hd) G
theorem g_ldc_w (X : Stand p l e R s m args below meth c T locs cells slots) (hx : p.tables.exec = Jvm.exec) (hZ : Z.Warmed39 s.vm) {own : String} {i : Nat} {v : Int32} (hown : s.vm.findClass own = some m.cls) (w : (Jvm.Cond.constant own i v).before a0 Z = true) (hd : decode c.code pc = .ok (.ldc_w i, 3)) (hp : pc + 3 = pc') (G : Go p e below En n0 Q T (mkF m pc' Ls (.int v :: st))) : Go p e below En n0 Q T (mkF m pc Ls st) := by
  subst hp
  exact Go.mov (X.ldcwInt hx hown (mvT hZ w) rfl hd) G
theorem g_ldc2_w (X : Stand p l e R s m args below meth c T locs cells slots) (hx : p.tables.exec = Jvm.exec) (hZ : Z.Warmed39 s.vm) {own : String} {i : Nat} {v : Int64} (hown : s.vm.findClass own = some m.cls) (w : (Jvm.Cond.constantLong own i v).before a0 Z = true) (hd : decode c.code pc = .ok (.ldc2_w i, 3)) (hp : pc + 3 = pc') (G : Go p e below En n0 Q T (mkF m pc' Ls (.long v :: st))) : Go p e below En n0 Q T (mkF m pc Ls st) := by
  subst hp
  exact Go.mov (X.ldc2Long hx hown (mvT hZ w) rfl hd) G
theorem g_return (X : Stand p l e R s m args below meth c T locs cells slots) (hx : p.tables.exec = Jvm.exec) (hr : meth.sig.returnType = none) (hd : decode c.code pc = .ok (.return_, 1)) (N : Fr n0 locs) (hlk : meth.locks = false) (hE : ∀ v t, t.heap = T.heap → s.WarmedH t.vm → s.sameButNew ({ t with vm := s.vm } : State) locs cells slots → En v t locs) (hQ : Q none T.heap) : Go p e below En n0 Q T (mkF m pc Ls []) := by
  obtain ⟨fs, hr1, hrun, hended, hW, hsame⟩ := X.leave (v := none) (fun _ => rfl) hlk
  exact ⟨_, _, X.returnOut hx hr hd hr1, hrun, hended, _, _, rfl, ⟨hQ, N⟩, hE _ _ rfl hW hsame⟩
theorem g_ireturn (X : Stand p l e R s m args below meth c T locs cells slots) (hx : p.tables.exec = Jvm.exec) {z : Int32} (hr : meth.sig.returnType = some .int) (hd : decode c.code pc = .ok (.ireturn, 1)) (N : Fr n0 locs) (hlk : meth.locks = false) (hE : ∀ v t, t.heap = T.heap → s.WarmedH t.vm → s.sameButNew ({ t with vm := s.vm } : State) locs cells slots → En v t locs) (hQ : Q (some (.int z)) T.heap) : Go p e below En n0 Q T (mkF m pc Ls (.int z :: st)) := by
  obtain ⟨fs, hr1, hrun, hended, hW, hsame⟩ := X.leave (v := some (.int z)) (fun h => by rw [hr] at h; cases h) hlk
  exact ⟨_, _, retOut X hx hr rfl (Or.inl ⟨rfl, Or.inl rfl, z, rfl⟩) hd hr1, hrun, hended, _, _, rfl, ⟨hQ, N⟩, hE _ _ rfl hW hsame⟩
theorem g_lreturn (X : Stand p l e R s m args below meth c T locs cells slots) (hx : p.tables.exec = Jvm.exec) {z : Int64} (hr : meth.sig.returnType = some .long) (hd : decode c.code pc = .ok (.lreturn, 1)) (N : Fr n0 locs) (hlk : meth.locks = false) (hE : ∀ v t, t.heap = T.heap → s.WarmedH t.vm → s.sameButNew ({ t with vm := s.vm } : State) locs cells slots → En v t locs) (hQ : Q (some (.long z)) T.heap) : Go p e below En n0 Q T (mkF m pc Ls (.long z :: st)) := by
  obtain ⟨fs, hr1, hrun, hended, hW, hsame⟩ := X.leave (v := some (.long z)) (fun h => by rw [hr] at h; cases h) hlk
  exact ⟨_, _, retOut X hx hr rfl (Or.inr (Or.inl ⟨rfl, rfl, z, rfl⟩)) hd hr1, hrun, hended, _, _, rfl, ⟨hQ, N⟩, hE _ _ rfl hW hsame⟩
theorem g_areturn (X : Stand p l e R s m args below meth c T locs cells slots) (hx : p.tables.exec = Jvm.exec) {v : Value} {t : FieldType} (ht : t.isReference = true) (hv : v.isRef = true) (hr : meth.sig.returnType = some t) (hd : decode c.code pc = .ok (.areturn, 1)) (N : Fr n0 locs) (hlk : meth.locks = false) (hE : ∀ v t, t.heap = T.heap → s.WarmedH t.vm → s.sameButNew ({ t with vm := s.vm } : State) locs cells slots → En v t locs) (hQ : Q (some (v)) T.heap) : Go p e below En n0 Q T (mkF m pc Ls (v :: st)) := by
  obtain ⟨fs, hr1, hrun, hended, hW, hsame⟩ := X.leave (v := some (v)) (fun h => by rw [hr] at h; cases h) hlk
  exact ⟨_, _, retOut X hx hr (by cases t <;> first | rfl | (cases ht; done)) (Or.inr (Or.inr (Or.inr (Or.inr ⟨rfl, ht, hv⟩)))) hd hr1, hrun, hended, _, _, rfl, ⟨hQ, N⟩, hE _ _ rfl hW hsame⟩
theorem g_zreturn (X : Stand p l e R s m args below meth c T locs cells slots) (hx : p.tables.exec = Jvm.exec) {z : Int32} (hn : narrow .boolean (.int z) = .int z) (hr : meth.sig.returnType = some .boolean) (hd : decode c.code pc = .ok (.ireturn, 1)) (N : Fr n0 locs) (hlk : meth.locks = false) (hE : ∀ v t, t.heap = T.heap → s.WarmedH t.vm → s.sameButNew ({ t with vm := s.vm } : State) locs cells slots → En v t locs) (hQ : Q (some (.int z)) T.heap) : Go p e below En n0 Q T (mkF m pc Ls (.int z :: st)) := by
  obtain ⟨fs, hr1, hrun, hended, hW, hsame⟩ := X.leave (v := some (.int z)) (fun h => by rw [hr] at h; cases h) hlk
  exact ⟨_, _, retOut X hx hr hn (Or.inl ⟨rfl, by simp, z, rfl⟩) hd hr1, hrun, hended, _, _, rfl, ⟨hQ, N⟩, hE _ _ rfl hW hsame⟩
theorem g_breturn (X : Stand p l e R s m args below meth c T locs cells slots) (hx : p.tables.exec = Jvm.exec) {z : Int32} (hn : narrow .byte (.int z) = .int z) (hr : meth.sig.returnType = some .byte) (hd : decode c.code pc = .ok (.ireturn, 1)) (N : Fr n0 locs) (hlk : meth.locks = false) (hE : ∀ v t, t.heap = T.heap → s.WarmedH t.vm → s.sameButNew ({ t with vm := s.vm } : State) locs cells slots → En v t locs) (hQ : Q (some (.int z)) T.heap) : Go p e below En n0 Q T (mkF m pc Ls (.int z :: st)) := by
  obtain ⟨fs, hr1, hrun, hended, hW, hsame⟩ := X.leave (v := some (.int z)) (fun h => by rw [hr] at h; cases h) hlk
  exact ⟨_, _, retOut X hx hr hn (Or.inl ⟨rfl, by simp, z, rfl⟩) hd hr1, hrun, hended, _, _, rfl, ⟨hQ, N⟩, hE _ _ rfl hW hsame⟩
theorem g_creturn (X : Stand p l e R s m args below meth c T locs cells slots) (hx : p.tables.exec = Jvm.exec) {z : Int32} (hn : narrow .char (.int z) = .int z) (hr : meth.sig.returnType = some .char) (hd : decode c.code pc = .ok (.ireturn, 1)) (N : Fr n0 locs) (hlk : meth.locks = false) (hE : ∀ v t, t.heap = T.heap → s.WarmedH t.vm → s.sameButNew ({ t with vm := s.vm } : State) locs cells slots → En v t locs) (hQ : Q (some (.int z)) T.heap) : Go p e below En n0 Q T (mkF m pc Ls (.int z :: st)) := by
  obtain ⟨fs, hr1, hrun, hended, hW, hsame⟩ := X.leave (v := some (.int z)) (fun h => by rw [hr] at h; cases h) hlk
  exact ⟨_, _, retOut X hx hr hn (Or.inl ⟨rfl, by simp, z, rfl⟩) hd hr1, hrun, hended, _, _, rfl, ⟨hQ, N⟩, hE _ _ rfl hW hsame⟩
theorem g_sreturn (X : Stand p l e R s m args below meth c T locs cells slots) (hx : p.tables.exec = Jvm.exec) {z : Int32} (hn : narrow .short (.int z) = .int z) (hr : meth.sig.returnType = some .short) (hd : decode c.code pc = .ok (.ireturn, 1)) (N : Fr n0 locs) (hlk : meth.locks = false) (hE : ∀ v t, t.heap = T.heap → s.WarmedH t.vm → s.sameButNew ({ t with vm := s.vm } : State) locs cells slots → En v t locs) (hQ : Q (some (.int z)) T.heap) : Go p e below En n0 Q T (mkF m pc Ls (.int z :: st)) := by
  obtain ⟨fs, hr1, hrun, hended, hW, hsame⟩ := X.leave (v := some (.int z)) (fun h => by rw [hr] at h; cases h) hlk
  exact ⟨_, _, retOut X hx hr hn (Or.inl ⟨rfl, by simp, z, rfl⟩) hd hr1, hrun, hended, _, _, rfl, ⟨hQ, N⟩, hE _ _ rfl hW hsame⟩
end Go
/-! arrays: every component is known -/
def Va (Z : State) (h : Heap) (a : Addr) (ty : FieldType) (vs : List Value) : Prop := ∃ c : Cell, Arr Z h a c ty ∧ c.slots.toList = vs
section Arrays
variable {p : Program} {l : Launch} {e : Env} {R : Room} {s : State} {m : MethodId} {args : Array Value} {below : List Frame} {meth : Method} {c : Code} {T : State} {locs : List Loc} {cells slots : Nat} {Z : State} {a0 : Array Value} {h h' : Heap} {n0 : Nat} {En : Option Value → State → List Loc → Prop} {Q : Option Value → Heap → Prop}
variable {pc pc' : Nat} {Ls : Array Slot} {st : List Value} {a b : Addr} {ty : FieldType} {vs : List Value} {v w : Value} {sl : Nat} {ws : List Addr}
theorem Va.lt (F : Va Z h a ty vs) : a < h.size := by obtain ⟨c, A, -⟩ := F; exact A.lt
theorem Va.ext (F : Va Z h a ty vs) (E : Ext h h') : Va Z h' a ty vs := by obtain ⟨c, A, r⟩ := F; exact ⟨c, A.ext E, r⟩
theorem Va.other (F : Va Z h b ty vs) (W : Wr h h' a sl v) (q : b ≠ a) : Va Z h' b ty vs := by obtain ⟨c, A, r⟩ := F; exact ⟨c, A.other W q, r⟩
theorem Va.keep (F : Va Z h a ty vs) (K : Keep h h' ws) (q : a ∉ ws) : Va Z h' a ty vs := by obtain ⟨c, A, r⟩ := F; exact ⟨c, ⟨K.2.1 a c A.1 q, A.2⟩, r⟩
theorem Va.same (F : Va Z h a ty vs) (W : Wr h h' a sl v) : Va Z h' a ty (vs.set sl v) := by
  obtain ⟨c, A, rfl⟩ := F
  exact ⟨_, A.same W, by simp [Cell.setSlot]⟩
theorem Va.eq (F : Va Z h a ty vs) {vs' : List Value} (q : vs = vs') : Va Z h a ty vs' := q ▸ F
theorem Va.len (F : Va Z h a ty vs) : ∃ c : Cell, Arr Z h a c ty ∧ c.slots.size = vs.length ∧ ∀ i : Nat, c.slots[i]? = vs[i]? := by
  obtain ⟨c, A, rfl⟩ := F
  exact ⟨c, A, by simp, fun i => by simp⟩
theorem Va.new {cA : ClassId} {n : Int32} {k : Nat} (A : Arr Z h a (newA cA ty n) ty) (hk : n.toNatClampNeg = k) : Va Z h a ty (List.replicate k (defaultValue ty)) := ⟨_, A, by simp [newA, hk]⟩
theorem inV {c : Cell} {j : Int32} {i : Nat} (hs : c.slots.size = vs.length) (hj : ¬ j < 0) (hi : j.toNatClampNeg = i) (hv : vs[i]? = some v) : ¬ (j < 0 ∨ c.slots.size ≤ j.toNatClampNeg) := by
  rintro (q | q)
  · exact hj q
  · rw [hs, hi] at q
    rw [List.getElem?_eq_none q] at hv
    cases hv
theorem g_baload (X : Stand p l e R s m args below meth c T locs cells slots) (hx : p.tables.exec = Jvm.exec) (hZ : Z.Warmed39 s.vm) (eT : T.heap = h) (F : Va Z h a .byte vs) {j : Int32} {i : Nat} (hd : decode c.code pc = .ok (.baload, 1)) (hp : pc + 1 = pc') (hj : ¬ j < 0) (hi : j.toNatClampNeg = i) (hv : vs[i]? = some v) (G : Go p e below En n0 Q T (mkF m pc' Ls (v :: st))) : Go p e below En n0 Q T (mkF m pc Ls (.int j :: .ref a :: st)) := by
  subst hp eT
  obtain ⟨cl, A, hs, hat⟩ := F.len
  have hv' : cl.slots[j.toNatClampNeg]? = some v := by rw [hat, hi]; exact hv
  exact Go.mov (fun t k => X.baloadBytes hx (j := j) (v := v) A.1 (State.isArrayOf_alike hZ.alike A.2.1) A.2.2 (inV hs hj hi hv) hv' (g := mkF m pc Ls (.int j :: .ref a :: st)) rfl rfl hd t k) G
theorem g_caload (X : Stand p l e R s m args below meth c T locs cells slots) (hx : p.tables.exec = Jvm.exec) (hZ : Z.Warmed39 s.vm) (eT : T.heap = h) (F : Va Z h a .char vs) {j : Int32} {i : Nat} (hd : decode c.code pc = .ok (.caload, 1)) (hp : pc + 1 = pc') (hj : ¬ j < 0) (hi : j.toNatClampNeg = i) (hv : vs[i]? = some v) (G : Go p e below En n0 Q T (mkF m pc' Ls (v :: st))) : Go p e below En n0 Q T (mkF m pc Ls (.int j :: .ref a :: st)) := by
  subst hp eT
  obtain ⟨cl, A, hs, hat⟩ := F.len
  have hv' : cl.slots[j.toNatClampNeg]? = some v := by rw [hat, hi]; exact hv
  exact Go.mov (fun t k => X.caload hx (j := j) (v := v) A.1 (State.isArrayOf_alike hZ.alike A.2.1) A.2.2 (inV hs hj hi hv) hv' (g := mkF m pc Ls (.int j :: .ref a :: st)) rfl rfl hd t k) G
theorem g_laload (X : Stand p l e R s m args below meth c T locs cells slots) (hx : p.tables.exec = Jvm.exec) (hZ : Z.Warmed39 s.vm) (eT : T.heap = h) (F : Va Z h a .long vs) {j : Int32} {i : Nat} (hd : decode c.code pc = .ok (.laload, 1)) (hp : pc + 1 = pc') (hj : ¬ j < 0) (hi : j.toNatClampNeg = i) (hv : vs[i]? = some v) (G : Go p e below En n0 Q T (mkF m pc' Ls (v :: st))) : Go p e below En n0 Q T (mkF m pc Ls (.int j :: .ref a :: st)) := by
  subst hp eT
  obtain ⟨cl, A, hs, hat⟩ := F.len
  have hv' : cl.slots[j.toNatClampNeg]? = some v := by rw [hat, hi]; exact hv
  exact Go.mov (fun t k => X.laload hx (j := j) (v := v) A.1 (State.isArrayOf_alike hZ.alike A.2.1) A.2.2 (inV hs hj hi hv) hv' (g := mkF m pc Ls (.int j :: .ref a :: st)) rfl rfl hd t k) G
theorem g_iaload (X : Stand p l e R s m args below meth c T locs cells slots) (hx : p.tables.exec = Jvm.exec) (hZ : Z.Warmed39 s.vm) (eT : T.heap = h) (F : Va Z h a .int vs) {j : Int32} {i : Nat} (hd : decode c.code pc = .ok (.iaload, 1)) (hp : pc + 1 = pc') (hj : ¬ j < 0) (hi : j.toNatClampNeg = i) (hv : vs[i]? = some v) (G : Go p e below En n0 Q T (mkF m pc' Ls (v :: st))) : Go p e below En n0 Q T (mkF m pc Ls (.int j :: .ref a :: st)) := by
  subst hp eT
  obtain ⟨cl, A, hs, hat⟩ := F.len
  have hv' : cl.slots[j.toNatClampNeg]? = some v := by rw [hat, hi]; exact hv
  exact Go.mov (fun t k => X.iaload hx (j := j) (v := v) A.1 (State.isArrayOf_alike hZ.alike A.2.1) A.2.2 (inV hs hj hi hv) hv' (g := mkF m pc Ls (.int j :: .ref a :: st)) rfl rfl hd t k) G
theorem g_arraylength (X : Stand p l e R s m args below meth c T locs cells slots) (hx : p.tables.exec = Jvm.exec) (hZ : Z.Warmed39 s.vm) (eT : T.heap = h) (F : Va Z h a ty vs) {z : Int32} (hd : decode c.code pc = .ok (.arraylength, 1)) (hp : pc + 1 = pc') (hz : vs.length.toInt32 = z) (G : Go p e below En n0 Q T (mkF m pc' Ls (.int z :: st))) : Go p e below En n0 Q T (mkF m pc Ls (.ref a :: st)) := by
  subst hp eT
  obtain ⟨cl, A, hs, hat⟩ := F.len
  subst hz
  rw [← hs] at G
  exact Go.mov (fun t k => X.arraylength hx A.1 (State.isArrayOf_alike hZ.alike A.2.1) (g := mkF m pc Ls (.ref a :: st)) rfl rfl hd t k) G
theorem h_bastore (X : Stand p l e R s m args below meth c T locs cells slots) (hx : p.tables.exec = Jvm.exec) (hZ : Z.Warmed39 s.vm) (eT : T.heap = h) (N : Fr n0 locs) (F : Va Z h a .byte vs) (hn : n0 ≤ a) {j : Int32} {i : Nat} {x : Int32} {v : Value} (hd : decode c.code pc = .ok (.bastore, 1)) (hj : ¬ j < 0) (hi : j.toNatClampNeg = i) (hv : vs[i]? = some v) (Ls : Array Slot) (st : List Value) :
    ∃ T' h' L, Stand p l e R s m args below meth c T' L cells slots ∧ T'.heap = h' ∧ Fr n0 L ∧ Wr h h' a i (.int (byt x)) ∧ Va Z h' a .byte (vs.set i (.int (byt x))) ∧ ∀ target, Steps p.tables e below (T'.setTop (mkF m (pc + 1) Ls st)) target → Steps p.tables e below (T.setTop (mkF m pc Ls (.int x :: .int j :: .ref a :: st))) target := by
  obtain ⟨cl, A, hs, hat⟩ := F.len
  obtain ⟨T', h', X', e', W, k⟩ := stB X hx hZ eT A (j := j) (inV hs hj hi hv) (g := mkF m pc Ls (.int x :: .int j :: .ref a :: st)) rfl rfl hd
  subst hi
  exact ⟨T', h', _, X', e', Fr.snoc X' N hn, W, F.same W, k⟩
theorem h_castore (X : Stand p l e R s m args below meth c T locs cells slots) (hx : p.tables.exec = Jvm.exec) (hZ : Z.Warmed39 s.vm) (eT : T.heap = h) (N : Fr n0 locs) (F : Va Z h a .char vs) (hn : n0 ≤ a) {j : Int32} {i : Nat} {x : Int32} {v : Value} (hd : decode c.code pc = .ok (.castore, 1)) (hj : ¬ j < 0) (hi : j.toNatClampNeg = i) (hv : vs[i]? = some v) (Ls : Array Slot) (st : List Value) :
    ∃ T' h' L, Stand p l e R s m args below meth c T' L cells slots ∧ T'.heap = h' ∧ Fr n0 L ∧ Wr h h' a i (.int (chr x)) ∧ Va Z h' a .char (vs.set i (.int (chr x))) ∧ ∀ target, Steps p.tables e below (T'.setTop (mkF m (pc + 1) Ls st)) target → Steps p.tables e below (T.setTop (mkF m pc Ls (.int x :: .int j :: .ref a :: st))) target := by
  obtain ⟨cl, A, hs, hat⟩ := F.len
  obtain ⟨T', h', X', e', W, k⟩ := stC X hx hZ eT A (j := j) (inV hs hj hi hv) (g := mkF m pc Ls (.int x :: .int j :: .ref a :: st)) rfl rfl hd
  subst hi
  exact ⟨T', h', _, X', e', Fr.snoc X' N hn, W, F.same W, k⟩
theorem h_lastore (X : Stand p l e R s m args below meth c T locs cells slots) (hx : p.tables.exec = Jvm.exec) (hZ : Z.Warmed39 s.vm) (eT : T.heap = h) (N : Fr n0 locs) (F : Va Z h a .long vs) (hn : n0 ≤ a) {j : Int32} {i : Nat} {x : Int64} {v : Value} (hd : decode c.code pc = .ok (.lastore, 1)) (hj : ¬ j < 0) (hi : j.toNatClampNeg = i) (hv : vs[i]? = some v) (Ls : Array Slot) (st : List Value) :
    ∃ T' h' L, Stand p l e R s m args below meth c T' L cells slots ∧ T'.heap = h' ∧ Fr n0 L ∧ Wr h h' a i (.long x) ∧ Va Z h' a .long (vs.set i (.long x)) ∧ ∀ target, Steps p.tables e below (T'.setTop (mkF m (pc + 1) Ls st)) target → Steps p.tables e below (T.setTop (mkF m pc Ls (.long x :: .int j :: .ref a :: st))) target := by
  obtain ⟨cl, A, hs, hat⟩ := F.len
  obtain ⟨T', h', X', e', W, k⟩ := stJ X hx hZ eT A (j := j) (inV hs hj hi hv) (g := mkF m pc Ls (.long x :: .int j :: .ref a :: st)) rfl rfl hd
  subst hi
  exact ⟨T', h', _, X', e', Fr.snoc X' N hn, W, F.same W, k⟩
theorem h_iastore (X : Stand p l e R s m args below meth c T locs cells slots) (hx : p.tables.exec = Jvm.exec) (hZ : Z.Warmed39 s.vm) (eT : T.heap = h) (N : Fr n0 locs) (F : Va Z h a .int vs) (hn : n0 ≤ a) {j : Int32} {i : Nat} {x : Int32} {v : Value} (hd : decode c.code pc = .ok (.iastore, 1)) (hj : ¬ j < 0) (hi : j.toNatClampNeg = i) (hv : vs[i]? = some v) (Ls : Array Slot) (st : List Value) :
    ∃ T' h' L, Stand p l e R s m args below meth c T' L cells slots ∧ T'.heap = h' ∧ Fr n0 L ∧ Wr h h' a i (.int x) ∧ Va Z h' a .int (vs.set i (.int x)) ∧ ∀ target, Steps p.tables e below (T'.setTop (mkF m (pc + 1) Ls st)) target → Steps p.tables e below (T.setTop (mkF m pc Ls (.int x :: .int j :: .ref a :: st))) target := by
  obtain ⟨cl, A, hs, hat⟩ := F.len
  obtain ⟨T', h', X', e', W, k⟩ := stI X hx hZ eT A (j := j) (inV hs hj hi hv) (g := mkF m pc Ls (.int x :: .int j :: .ref a :: st)) rfl rfl hd
  subst hi
  exact ⟨T', h', _, X', e', Fr.snoc X' N hn, W, F.same W, k⟩
theorem h_newarray (X : Stand p l e R s m args below meth c T locs cells slots) (hx : p.tables.exec = Jvm.exec) (hZ : Z.Warmed39 s.vm) (eT : T.heap = h) {aty : ArrayType} {ty : FieldType} (hty : newarray.typeOf aty = ty) (w : (Jvm.Cond.arrayClass ty).before a0 Z = true) {n : Int32} {k cap : Nat} (hd : decode c.code pc = .ok (.newarray aty, 2)) (hn : ¬ n < 0) (hk : n.toNatClampNeg = k) (hcap : k ≤ cap) (hb : cap * 8 ≤ 536870912) (hc : cells + 1 ≤ R.cells) (hl : slots + cap ≤ R.slots) {ad : String} (had : "[" ++ ty.toString = ad) (Ls : Array Slot) (st : List Value) :
    ∃ T' h' a, Stand p l e R s m args below meth c T' locs (cells + 1) (slots + cap) ∧ T'.heap = h' ∧ a = h.size ∧ Ext h h' ∧ Va Z h' a ty (List.replicate k (defaultValue ty)) ∧ Exa Z h' a ad ∧ ∀ target, Steps p.tables e below (T'.setTop (mkF m (pc + 2) Ls (.ref a :: st))) target → Steps p.tables e below (T.setTop (mkF m pc Ls (.int n :: st))) target := by
  subst hty
  obtain ⟨T', h', cA, X', e', E, A, Ex, st'⟩ := newPE X hx hZ w eT (g := mkF m pc Ls (.int n :: st)) rfl hd rfl hn (cap := cap) (by rw [hk]; exact hcap) hb hc hl had
  exact ⟨T', h', _, X', e', rfl, E, Va.new A hk, Ex, st'⟩
theorem h_clone (X : Stand p l e R s m args below meth c T locs cells slots) (hx : p.tables.exec = Jvm.exec) (hZ : Z.Warmed39 s.vm) (eT : T.heap = h) {own ad : String} {i : Nat} (hml : c.maxLocals = Ls.size) (hown : s.vm.findClass own = some m.cls) (F : Va Z h a ty vs) (E : Exa Z h a ad) (hfit : ∀ v ∈ vs, fits ty v = true)
    (w1 : (Jvm.Cond.methodLink own i ⟨ad, "clone", "()Ljava/lang/Object;"⟩).before a0 Z = true) (w2 : (Jvm.Cond.sameMethod ad "java/lang/Object" "clone" "()Ljava/lang/Object;").before a0 Z = true) (w3 : (Jvm.Cond.native ⟨"java/lang/Object", "clone", "()Ljava/lang/Object;"⟩).before a0 Z = true) (w4 : (Jvm.Cond.instanceMethod ⟨"java/lang/Object", "clone", "()Ljava/lang/Object;"⟩).before a0 Z = true) (w5 : (Jvm.Cond.selects ad ⟨ad, "clone", "()Ljava/lang/Object;"⟩ ⟨"java/lang/Object", "clone", "()Ljava/lang/Object;"⟩).before a0 Z = true) (w6 : (Jvm.Cond.castable ad "java/lang/Cloneable").before a0 Z = true)
    (hd : decode c.code pc = .ok (.invokevirtual i, 3)) {W cap : Nat} (hW : (st.map fun v => v.category).sum = W) (hf : 1 ≤ R.frames) (hl : W + 14 ≤ R.locals) (hcap : vs.length ≤ cap) (hc : cells + 1 ≤ R.cells) (hsl : slots + cap ≤ R.slots) :
    ∃ T' h' b, Stand p l e R s m args below meth c T' locs (cells + 1) (slots + cap) ∧ T'.heap = h' ∧ b = h.size ∧ Ext h h' ∧ Va Z h' b ty vs ∧ Exa Z h' b ad ∧ ∀ target, Steps p.tables e below (T'.setTop (mkF m (pc + 3) Ls (.ref b :: st))) target → Steps p.tables e below (T.setTop (mkF m pc Ls (.ref a :: st))) target := by
  obtain ⟨cl, A, hvs⟩ := F
  have hsz : cl.slots.size = vs.length := by rw [← hvs]; simp
  have FC : FitC Z cl := fitC_of A fun i hi v hv => hfit v (by rw [← hvs]; exact Array.mem_toList_iff.mpr (Array.mem_of_getElem? hv))
  obtain ⟨T', h', X', e', E', A', Ex, st'⟩ := cloneA X hx hZ hown w1 w2 w3 w4 w5 w6 eT A E FC (g := mkF m pc Ls (.ref a :: st)) rfl hml.symm rfl hd hf (W := W) (by show 2 * 0 + _ ≤ _; omega) hl (cap := cap) (by rw [hsz]; exact hcap) hc hsl
  exact ⟨T', h', _, X', e', rfl, E', ⟨_, A', hvs⟩, Ex, st'⟩
theorem fits_byt (x : Int32) : fits .byte (.int (byt x)) = true := fits_byte_narrow x
end Arrays
/-! calls by a contract -/
section Calls
variable {p : Program} {l : Launch} {e : Env} {R : Room} {s : State} {m : MethodId} {args : Array Value} {below : List Frame} {meth : Method} {c : Code} {T : State} {locs : List Loc} {cells slots : Nat} {Z : State} {a0 : Array Value} {h h' : Heap} {n0 : Nat} {Q : Option Value → Heap → Prop}
variable {pc : Nat} {own : String} {i maxL : Nat} {y z : MethodName} {bytes : ByteArray} {ret : Option FieldType} {rm : Room} {as' : Array Value} {ps : List FieldType} {rt : Option FieldType}
theorem h_static (X : Stand p l e R s m args below meth c T locs cells slots) (hx : p.tables.exec = Jvm.exec) {Ls : Array Slot} {W : Nat} {argsL rest : List Value} (hZ : Z.Warmed39 s.vm) (eT : T.heap = h) (N : Fr n0 locs) (hml : c.maxLocals = Ls.size) (hown : s.vm.findClass own = some m.cls) (hK : Ctr l Z y bytes maxL ret rm as' h n0 Q) (w1 : (Jvm.Cond.methodLink own i y).before a0 Z = true) (w2 : (Jvm.Cond.static y).before a0 Z = true) (w3 : (Jvm.Cond.initialized y.cls).before a0 Z = true) (w4 : (Jvm.Cond.code y bytes maxL ret).before a0 Z = true) (hy : y.cls ≠ "java/lang/invoke/MethodHandle" ∧ y.cls ≠ "java/lang/invoke/VarHandle") (pd : parseMethodDescriptor y.desc = some ⟨ps, rt⟩) (hlen : argsL.length = ps.length) (has : as' = argsL.toArray) (hd : decode c.code pc = .ok (.invokestatic i, 3)) (hW : (rest.map fun v => v.category).sum = W) (hf : rm.frames + 1 ≤ R.frames) (hlo : W + (maxL + 11) + rm.locals ≤ R.locals) (hcc : cells + rm.cells ≤ R.cells) (hss : slots + rm.slots ≤ R.slots) :
    ∃ v T' h' L, Stand p l e R s m args below meth c T' L (cells + rm.cells) (slots + rm.slots) ∧ T'.heap = h' ∧ Fr n0 L ∧ Q v h' ∧ ∀ target, Steps p.tables e below (T'.setTop (mkF m (pc + 3) Ls (v.toList ++ rest))) target → Steps p.tables e below (T.setTop (mkF m pc Ls (argsL.reverse ++ rest))) target := by
  obtain ⟨v, _, ⟨T', L', k', n'⟩, -, X', ⟨Lc, hQ, h1, h2, h3⟩, st⟩ := Jvm.LawKit.callS X hx (y := y) hown (mvT hZ w1) (mvT hZ w2) (mvT hZ w3) (mvT hZ w4) hy (backOf (W := W) (hK []) hZ w4 w3 hf hlo) (g := mkF m pc Ls (argsL.reverse ++ rest)) rfl hml.symm (argsL := argsL) (rest := rest) (lenOf pd hlen) rfl (by show 2 * 0 + _ ≤ _; omega) hd (fun _ _ => ⟨has.symm, eT, hcc, hss⟩)
  dsimp only [Pt.U, Pt.locs, Pt.cells, Pt.slots] at X' h1 h2 h3 st hQ
  subst h1 h2 h3
  exact ⟨v, T', _, _, X', rfl, N.app hQ.2, hQ.1, st⟩
theorem h_special (X : Stand p l e R s m args below meth c T locs cells slots) (hx : p.tables.exec = Jvm.exec) {Ls : Array Slot} {W : Nat} {a : Addr} {argsL rest : List Value} (hZ : Z.Warmed39 s.vm) (eT : T.heap = h) (N : Fr n0 locs) (hml : c.maxLocals = Ls.size) (hown : s.vm.findClass own = some m.cls) (hy1 : y.name = "<init>") (hK : Ctr l Z y bytes maxL none rm as' h n0 Q) (w1 : (Jvm.Cond.methodLink own i y).before a0 Z = true) (w2 : (Jvm.Cond.instanceMethod y).before a0 Z = true) (w3 : (Jvm.Cond.initialized y.cls).before a0 Z = true) (w4 : (Jvm.Cond.code y bytes maxL none).before a0 Z = true) (hy : y.cls ≠ "java/lang/invoke/MethodHandle" ∧ y.cls ≠ "java/lang/invoke/VarHandle") (pd : parseMethodDescriptor y.desc = some ⟨ps, rt⟩) (hlen : argsL.length = ps.length) (has : as' = (.ref a :: argsL).toArray) (hd : decode c.code pc = .ok (.invokespecial i, 3)) (hW : (rest.map fun v => v.category).sum = W) (hf : rm.frames + 1 ≤ R.frames) (hlo : W + (maxL + 11) + rm.locals ≤ R.locals) (hcc : cells + rm.cells ≤ R.cells) (hss : slots + rm.slots ≤ R.slots) :
    ∃ v T' h' L, Stand p l e R s m args below meth c T' L (cells + rm.cells) (slots + rm.slots) ∧ T'.heap = h' ∧ Fr n0 L ∧ Q v h' ∧ ∀ target, Steps p.tables e below (T'.setTop (mkF m (pc + 3) Ls (v.toList ++ rest))) target → Steps p.tables e below (T.setTop (mkF m pc Ls (argsL.reverse ++ .ref a :: rest))) target := by
  obtain ⟨v, _, ⟨T', L', k', n'⟩, -, X', ⟨Lc, hQ, h1, h2, h3⟩, st⟩ := X.specialBack hx (y := y) hy1 hown (mvT hZ w1) (mvT hZ w2) (mvT hZ w4) hy (backOf (W := W) (hK []) hZ w4 w3 hf hlo) (g := mkF m pc Ls (argsL.reverse ++ .ref a :: rest)) rfl hml.symm (Steps.refl _) (a := a) (argsL := argsL) (rest := rest) (lenOf pd hlen) rfl (by show 2 * 0 + _ ≤ _; omega) hd (fun _ _ => ⟨has.symm, eT, hcc, hss⟩)
  dsimp only [Pt.U, Pt.locs, Pt.cells, Pt.slots] at X' h1 h2 h3 st hQ
  subst h1 h2 h3
  exact ⟨v, T', _, _, X', rfl, N.app hQ.2, hQ.1, fun t k => st.trans k⟩
theorem h_virtual (X : Stand p l e R s m args below meth c T locs cells slots) (hx : p.tables.exec = Jvm.exec) {Ls : Array Slot} {W : Nat} {a : Addr} {cls : String} {argsL rest : List Value} (hZ : Z.Warmed39 s.vm) (eT : T.heap = h) (N : Fr n0 locs) (hml : c.maxLocals = Ls.size) (hown : s.vm.findClass own = some m.cls) (hK : Ctr l Z z bytes maxL ret rm as' h n0 Q) (E : Exa Z h a cls) (w1 : (Jvm.Cond.methodLink own i y).before a0 Z = true) (w2 : (Jvm.Cond.declares y).before a0 Z = true) (nf : NotFace s y) (w5 : (Jvm.Cond.selects cls y z).before a0 Z = true) (w6 : (Jvm.Cond.instanceMethod z).before a0 Z = true) (w3 : (Jvm.Cond.initialized z.cls).before a0 Z = true) (w4 : (Jvm.Cond.code z bytes maxL ret).before a0 Z = true) (hy : y.cls ≠ "java/lang/invoke/MethodHandle" ∧ y.cls ≠ "java/lang/invoke/VarHandle") (pd : parseMethodDescriptor y.desc = some ⟨ps, rt⟩) (hlen : argsL.length = ps.length) (has : as' = (.ref a :: argsL).toArray) (hd : decode c.code pc = .ok (.invokevirtual i, 3)) (hW : (rest.map fun v => v.category).sum = W) (hf : rm.frames + 1 ≤ R.frames) (hlo : W + (maxL + 11) + rm.locals ≤ R.locals) (hcc : cells + rm.cells ≤ R.cells) (hss : slots + rm.slots ≤ R.slots) :
    ∃ v T' h' L, Stand p l e R s m args below meth c T' L (cells + rm.cells) (slots + rm.slots) ∧ T'.heap = h' ∧ Fr n0 L ∧ Q v h' ∧ ∀ target, Steps p.tables e below (T'.setTop (mkF m (pc + 3) Ls (v.toList ++ rest))) target → Steps p.tables e below (T.setTop (mkF m pc Ls (argsL.reverse ++ .ref a :: rest))) target := by
  obtain ⟨cq, kq, qa, qb, qc⟩ := isOf hZ eT E
  obtain ⟨v, _, ⟨T', L', k', n'⟩, -, X', ⟨Lc, hQ, h1, h2, h3⟩, st⟩ := X.virtualBack hx (y := y) (z := z) hown (mvT hZ w1) (mvT hZ w2) nf (mvT hZ w5) (mvT hZ w6) hy (backOf (W := W) (hK []) hZ w4 w3 hf hlo) qa qc (g := mkF m pc Ls (argsL.reverse ++ .ref a :: rest)) rfl hml.symm (Steps.refl _) (argsL := argsL) (rest := rest) (lenOf pd hlen) rfl (by show 2 * 0 + _ ≤ _; omega) hd (fun _ _ => ⟨has.symm, eT, hcc, hss⟩)
  dsimp only [Pt.U, Pt.locs, Pt.cells, Pt.slots] at X' h1 h2 h3 st hQ
  subst h1 h2 h3
  exact ⟨v, T', _, _, X', rfl, N.app hQ.2, hQ.1, fun t k => st.trans k⟩
theorem h_specialN (X : Stand p l e R s m args below meth c T locs cells slots) (hx : p.tables.exec = Jvm.exec) {Ls : Array Slot} {W : Nat} {a : Addr} {host : String} {argsL rest : List Value} (hZ : Z.Warmed39 s.vm) (eT : T.heap = h) (N : Fr n0 locs) (hml : c.maxLocals = Ls.size) (hown : s.vm.findClass own = some m.cls) (hy1 : y.name = "<init>") (hK : Ctr l Z y bytes maxL none rm as' h n0 Q) (w1 : (Jvm.Cond.methodLinkNest own i y host).before a0 Z = true) (w2 : (Jvm.Cond.instanceMethod y).before a0 Z = true) (w3 : (Jvm.Cond.initialized y.cls).before a0 Z = true) (w4 : (Jvm.Cond.code y bytes maxL none).before a0 Z = true) (hy : y.cls ≠ "java/lang/invoke/MethodHandle" ∧ y.cls ≠ "java/lang/invoke/VarHandle") (pd : parseMethodDescriptor y.desc = some ⟨ps, rt⟩) (hlen : argsL.length = ps.length) (has : as' = (.ref a :: argsL).toArray) (hd : decode c.code pc = .ok (.invokespecial i, 3)) (hW : (rest.map fun v => v.category).sum = W) (hf : rm.frames + 1 ≤ R.frames) (hlo : W + (maxL + 11) + rm.locals ≤ R.locals) (hcc : cells + rm.cells ≤ R.cells) (hss : slots + rm.slots ≤ R.slots) :
    ∃ v T' h' L, Stand p l e R s m args below meth c T' L (cells + rm.cells) (slots + rm.slots) ∧ T'.heap = h' ∧ Fr n0 L ∧ Q v h' ∧ ∀ target, Steps p.tables e below (T'.setTop (mkF m (pc + 3) Ls (v.toList ++ rest))) target → Steps p.tables e below (T.setTop (mkF m pc Ls (argsL.reverse ++ .ref a :: rest))) target := by
  obtain ⟨v, _, ⟨T', L', k', n'⟩, -, X', ⟨Lc, hQ, h1, h2, h3⟩, st⟩ := X.specialBackNest hx (y := y) hy1 hown (Jvm.Cond.methodLinkNest_wide hZ w1) (mvT hZ w2) (mvT hZ w4) hy (backOf (W := W) (hK []) hZ w4 w3 hf hlo) (g := mkF m pc Ls (argsL.reverse ++ .ref a :: rest)) rfl hml.symm (Steps.refl _) (a := a) (argsL := argsL) (rest := rest) (lenOf pd hlen) rfl (by show 2 * 0 + _ ≤ _; omega) hd (fun _ _ => ⟨has.symm, eT, hcc, hss⟩)
  dsimp only [Pt.U, Pt.locs, Pt.cells, Pt.slots] at X' h1 h2 h3 st hQ
  subst h1 h2 h3
  exact ⟨v, T', _, _, X', rfl, N.app hQ.2, hQ.1, fun t k => st.trans k⟩
theorem h_private (X : Stand p l e R s m args below meth c T locs cells slots) (hx : p.tables.exec = Jvm.exec) {Ls : Array Slot} {W : Nat} {a : Addr} {cls : String} {kk : Nat} {argsL rest : List Value} (hZ : Z.Warmed39 s.vm) (eT : T.heap = h) (N : Fr n0 locs) (hml : c.maxLocals = Ls.size) (hown : s.vm.findClass own = some m.cls) (hK : Ctr l Z y bytes maxL ret rm as' h n0 Q) (E : Exa Z h a cls) (w1 : (Jvm.Cond.methodLink own i y).before a0 Z = true) (w2 : (Jvm.Cond.instanceMethod y).before a0 Z = true) (wp : (Jvm.Cond.privateMethod y).before a0 Z = true) (wi : (Jvm.Cond.instantiable y.cls kk).before a0 Z = true) (w3 : (Jvm.Cond.initialized y.cls).before a0 Z = true) (w4 : (Jvm.Cond.code y bytes maxL ret).before a0 Z = true) (hy : y.cls ≠ "java/lang/invoke/MethodHandle" ∧ y.cls ≠ "java/lang/invoke/VarHandle") (pd : parseMethodDescriptor y.desc = some ⟨ps, rt⟩) (hlen : argsL.length = ps.length) (has : as' = (.ref a :: argsL).toArray) (hd : decode c.code pc = .ok (.invokevirtual i, 3)) (hW : (rest.map fun v => v.category).sum = W) (hf : rm.frames + 1 ≤ R.frames) (hlo : W + (maxL + 11) + rm.locals ≤ R.locals) (hcc : cells + rm.cells ≤ R.cells) (hss : slots + rm.slots ≤ R.slots) :
    ∃ v T' h' L, Stand p l e R s m args below meth c T' L (cells + rm.cells) (slots + rm.slots) ∧ T'.heap = h' ∧ Fr n0 L ∧ Q v h' ∧ ∀ target, Steps p.tables e below (T'.setTop (mkF m (pc + 3) Ls (v.toList ++ rest))) target → Steps p.tables e below (T.setTop (mkF m pc Ls (argsL.reverse ++ .ref a :: rest))) target := by
  obtain ⟨cq, q1, q2⟩ := E.cell
  obtain ⟨c2, k2, i1, i2, i3, i4, -⟩ := Jvm.Cond.instantiable_spec (mvT (args := args) (d := .instantiable y.cls kk) hZ wi)
  have hpv := Jvm.Cond.privateMethod_at (mvP hZ wp (args := args))
  have hsel := selects_self_of_private (args := args) i1 i2 (by revert i4; cases k2.isInterface <;> simp) hpv (mvT hZ w2) hy
  obtain ⟨v, _, ⟨T', L', k', n'⟩, -, X', ⟨Lc, hQ, h1, h2, h3⟩, st⟩ := X.privateBack hx (y := y) hown (mvT hZ w1) (mvT hZ w2) hsel hpv (mvT hZ w4) hy (backOf (W := W) (hK []) hZ w4 w3 hf hlo) (g := mkF m pc Ls (argsL.reverse ++ .ref a :: rest)) rfl hml.symm (Steps.refl _) (a := a) (by rw [eT]; exact q1) q2 (argsL := argsL) (rest := rest) (lenOf pd hlen) rfl (by show 2 * 0 + _ ≤ _; omega) hd (fun _ _ => ⟨has.symm, eT, hcc, hss⟩)
  dsimp only [Pt.U, Pt.locs, Pt.cells, Pt.slots] at X' h1 h2 h3 st hQ
  subst h1 h2 h3
  exact ⟨v, T', _, _, X', rfl, N.app hQ.2, hQ.1, fun t k => st.trans k⟩
/-! where a String constant may be interned: the wide end -/
def EndW (s : State) (C S : Nat) (v : Option Value) (t : State) (L : List Loc) : Prop := ReturnedEndW s (.returned v) t L C S
theorem endW {s : State} {vm0 : Vm} {n C S cells slots : Nat} {t : State} {L : List Loc} {h : Heap} (hS : s.Since vm0 n) (hn : n ≤ h.size) (hc : cells ≤ C) (hs : slots ≤ S) (v : Option Value) (ht : t.heap = h) (hW : (s.setVm vm0).WarmedH t.vm) (hsm : (s.setVm vm0).sameButNew ({ t with vm := (s.setVm vm0).vm } : State) L cells slots) : EndW s C S v t L := by
  obtain ⟨a, b, c⟩ := hS.ended hW (by rw [ht]; exact hn) hsm
  exact ⟨⟨_, rfl⟩, a, b, c.mono hc hs⟩
def CtrW (l : Launch) (Z : State) (y : MethodName) (bytes : ByteArray) (maxL : Nat) (ret : Option FieldType) (rm : Room) (as' : Array Value) (h0 : Heap) (n0 : Nat) (Q : Option Value → Heap → Prop) : Prop :=
  ∀ ws : List Jvm.Cond, MetFree l y (head1 (Jvm.Cond.code y bytes maxL ret :: ws) rm) (fun a U => a = as' ∧ Z.Warmed39 U.vm ∧ U.heap = h0) (fun _ _ _ _ _ => True) (fun _ U o U' => ∃ v L, o = .returned v ∧ CQ Q n0 v U'.heap L ∧ ReturnedEndW U o U' L rm.cells rm.slots)
theorem CtrW.of {l : Launch} {Z : State} {y : MethodName} {bytes : ByteArray} {maxL : Nat} {ret : Option FieldType} {rm : Room} {as' : Array Value} {h0 : Heap} {n0 : Nat} {Q : Option Value → Heap → Prop} {Ls : Array Slot}
    (hpl : plainFor y = true) (hef : ∀ m, entryFrame m as' maxL = mkF m 0 Ls [])
    (body : ∀ (p : Program) (e : Env) (s : State) (m : MethodId) (below : List Frame) (meth : Method) (c : Code) (T : State), p.tables.exec = Jvm.exec → c.code = bytes → c.maxLocals = maxL → s.vm.findClass y.cls = some m.cls → meth.name = y.name → meth.sig.returnType = ret → meth.locks = false → Z.Warmed39 s.vm →
      Stand p l e rm s m as' below meth c T [] 0 0 → T.heap = h0 → Go p e below (EndW s rm.cells rm.slots) n0 Q T (mkF m 0 Ls [])) : CtrW l Z y bytes maxL ret rm as' h0 n0 Q := by
  intro ws
  refine MetFree.of_bodySF hpl hisR ?_
  intro p e s m args below meth c s₁ Bd hml0 hP hK
  obtain ⟨rfl, hZ, hh⟩ := hP
  have hown : s.vm.findClass y.cls = some m.cls := findClass_of_methodNamed Bd.named
  have hnm := (name_of_methodNamed Bd.named Bd.method).1
  have e0 : s₁.heap = h0 := by rw [← hh, Bd.state]; rfl
  rw [hef]
  obtain ⟨s₂, o, h1, h2, h3, v, L, rfl, h5, h6⟩ := body p e s m below meth c s₁ Bd.exec Bd.bytes hml0 hown hnm Bd.returns Bd.notSynchronized hZ (Stand.of_body Bd) e0
  exact ⟨s₂, _, h1, h2, h3, v, L, rfl, h5, h6⟩
theorem h_specialS (X : Stand p l e R s m args below meth c T locs cells slots) (hx : p.tables.exec = Jvm.exec) {Ls : Array Slot} {W : Nat} {a : Addr} {argsL rest : List Value} (hZ : Z.Warmed39 s.vm) (eT : T.heap = h) (N : Fr n0 locs) (hml : c.maxLocals = Ls.size) (hown : s.vm.findClass own = some m.cls) (hy1 : y.name = "<init>") (hK : CtrW l Z y bytes maxL none rm as' h n0 Q) (w1 : (Jvm.Cond.methodLink own i y).before a0 Z = true) (w2 : (Jvm.Cond.instanceMethod y).before a0 Z = true) (w3 : (Jvm.Cond.initialized y.cls).before a0 Z = true) (w4 : (Jvm.Cond.code y bytes maxL none).before a0 Z = true) (hy : y.cls ≠ "java/lang/invoke/MethodHandle" ∧ y.cls ≠ "java/lang/invoke/VarHandle") (pd : parseMethodDescriptor y.desc = some ⟨ps, rt⟩) (hlen : argsL.length = ps.length) (has : as' = (.ref a :: argsL).toArray) (hd : decode c.code pc = .ok (.invokespecial i, 3)) (hW : (rest.map fun v => v.category).sum = W) (hf : rm.frames + 1 ≤ R.frames) (hlo : W + (maxL + 11) + rm.locals ≤ R.locals) (hcc : cells + rm.cells ≤ R.cells) (hss : slots + rm.slots ≤ R.slots) :
    ∃ v T' h' L, Stand p l e R (s.setVm T'.vm) m args below meth c T' L (cells + rm.cells) (slots + rm.slots) ∧ T'.heap = h' ∧ Fr n0 L ∧ Q v h' ∧ s.Since T'.vm h'.size ∧ Z.Warmed39 (s.setVm T'.vm).vm ∧ (s.setVm T'.vm).vm.findClass own = some m.cls ∧ ∀ target, Steps p.tables e below (T'.setTop (mkF m (pc + 3) Ls (v.toList ++ rest))) target → Steps p.tables e below (T.setTop (mkF m pc Ls (argsL.reverse ++ .ref a :: rest))) target := by
  obtain ⟨v, _, ⟨T', L', k', n'⟩, -, X', hS, hgr, ⟨Lc, hQ, h1, h2, h3⟩, st⟩ := X.specialBackS hx (y := y) hy1 hown (mvT hZ w1) (mvT hZ w2) (mvT hZ w4) hy (backOfS (W := W) (hK []) hZ w4 w3 hf hlo) (g := mkF m pc Ls (argsL.reverse ++ .ref a :: rest)) rfl hml.symm (Steps.refl _) (a := a) (argsL := argsL) (rest := rest) (lenOf pd hlen) rfl (by show 2 * 0 + _ ≤ _; omega) hd (fun _ _ => ⟨has.symm, eT, hcc, hss⟩)
  dsimp only [Pt.U, Pt.locs, Pt.cells, Pt.slots] at X' h1 h2 h3 st hQ hS
  subst h1 h2 h3
  exact ⟨v, T', _, _, X', rfl, N.app hQ.2, hQ.1, hS, State.Warmed39.trans (t := s) hZ hS.1, by rw [show (s.setVm T'.vm).vm = T'.vm from rfl, hS.1.alike.findClass]; exact hown, fun t k => st.trans k⟩
end Calls
/-! an enum's constant, where the law begins -/
theorem enum_at {C f d : String} {a0 : Array Value} {k : Int32} {s : State} (h1 : (Jvm.Cond.exactly (.static C f d) C).value a0 s none s [] = some true) (h2 : (Jvm.Cond.eq (.field (.static C f d) "java/lang/Enum" "ordinal" "I") (.int k)).value a0 s none s [] = some true)
    (wi : (Jvm.Cond.initialized C).before a0 s = true) (wl : (Jvm.Cond.laysStatic C f d).before a0 s = true) : ∃ a, Sta s s.heap C f d (.ref a) ∧ Exa s s.heap a C ∧ s.fieldOf? a "java/lang/Enum" "ordinal" "I" = some (.int k) := by
  obtain ⟨a, ev⟩ := exa_v h1
  refine ⟨a, Sta.start ev (Or.inr ⟨wi, wl⟩), Exa.start ev h1, ?_⟩
  obtain ⟨x, y, e1, e2, k1, k2⟩ := cmp_v (Or.inl h2)
  have ey : y = .int k := (Option.some.inj ((Term.int_eval k).symm.trans e2)).symm
  subst ey
  obtain ⟨z, rfl⟩ := k2
  have q : (Jvm.Cond.eq (.field (.static C f d) "java/lang/Enum" "ordinal" "I") (.int k)).value a0 s none s [] = some (decide (z = k)) := by simp [Jvm.Cond.value, e1, e2]
  have r := gotT q h2
  subst r
  rw [← fld_at (C := "java/lang/Enum") (n := "ordinal") (dd := "I") ev]
  exact e1
theorem enum_ne {s : State} {a b : Addr} {k k' : Int32} (h1 : s.fieldOf? a "java/lang/Enum" "ordinal" "I" = some (.int k)) (h2 : s.fieldOf? b "java/lang/Enum" "ordinal" "I" = some (.int k')) (q : k ≠ k') : a ≠ b := fun e => by
  subst e
  rw [h1] at h2
  exact q (Value.int.inj (Option.some.inj h2))
end Jvm.OwnKit
namespace Jvm.Pilot.@@N@@
open Jvm Jvm.ClassFile Sem Op Lib Jvm.Free Jvm.Stand Jvm.LawKit Jvm.RoadKit Jvm.OwnKit Bundle Jvm.Pilot.@@N@@.Jvm.D
theorem strAtoms {Z : State} {a0 : Array Value} (hw : ∀ d ∈ tables_1, d.before a0 Z = true) : ∀ d ∈ Bundle.stringAtoms, d.before a0 Z = true := fun d hd => by
  simp only [Bundle.stringAtoms, List.mem_cons, List.not_mem_nil, or_false] at hd
  rcases hd with rfl | rfl | rfl | rfl | rfl | rfl | rfl
  · exact (hw _ (List.mem_of_getElem? (i := 2) rfl))
  · exact (hw _ (List.mem_of_getElem? (i := 10) rfl))
  · exact (hw _ (List.mem_of_getElem? (i := 14) rfl))
  · exact (hw _ (List.mem_of_getElem? (i := 23) rfl))
  · exact (hw _ (List.mem_of_getElem? (i := 25) rfl))
  · exact (hw _ (List.mem_of_getElem? (i := 38) rfl))
  · exact (hw _ (List.mem_of_getElem? (i := 39) rfl))
theorem d2_0 : decode jdk_43_method_3_code 0 = .ok (.iload_n 0, 1) := by decide +kernel
theorem d2_1 : decode jdk_43_method_3_code 1 = .ok (.sipush 255, 3) := by decide +kernel
theorem d2_4 : decode jdk_43_method_3_code 4 = .ok (.if_icmp .gt 7, 3) := by decide +kernel
theorem d2_7 : decode jdk_43_method_3_code 7 = .ok (.iconst 1, 1) := by decide +kernel
theorem d2_8 : decode jdk_43_method_3_code 8 = .ok (.goto 4, 3) := by decide +kernel
theorem d2_12 : decode jdk_43_method_3_code 12 = .ok (.ireturn, 1) := by decide +kernel
theorem pn_2 : plainName "java/lang/StringLatin1" = true := by first | (simp [plainName, overriddenIn]; done) | decide +kernel
theorem ef_2 (x0 : Int32) (m : MethodId) : entryFrame m #[(.int x0)] 1 = mkF m 0 #[.val (.int x0)] [] := by first | (simp [entryFrame, mkF, argsToLocals, Value.category]; done) | rfl
def Q2 (Z : State) (c1 : Int32) (h0 : Heap) (n0 : Nat) : Option Value → Heap → Prop := fun v h => v = some (.int 1) ∧ h0 = h
set_option maxRecDepth 65536 in
set_option maxHeartbeats 40000000 in
theorem rm2 (l : Launch) (Z : State) (a0 : Array Value) (hw : ∀ d ∈ tables_1, d.before a0 Z = true) (c1 : Int32) (h0 : Heap) (n0 : Nat) (Z0 : n0 ≤ h0.size) (k1 : ¬ 255 < c1) : Ctr l Z (⟨"java/lang/StringLatin1", "canEncode", "(C)Z"⟩ : MethodName) jdk_43_method_3_code 1 (some .boolean) ({ frames := 0, cells := 0, slots := 0, locals := 0 } : Room) #[(.int c1)] h0 n0 (Q2 Z c1 h0 n0) := by
  refine Ctr.of (plainFor_of_name pn_2) (ef_2 c1) ?_
  intro p e s m below meth c T0 hx hby hml hown hnm hret hlk hZ X0 e0
  have N0 := Fr.nil n0
  refine g_iloadN X0 hx (hb hby d2_0) (pc' := 1) rfl rfl ?_
  refine g_sipush X0 hx (hb hby d2_1) (pc' := 4) rfl (z := (255 : Int32)) rfl ?_
  refine g_icmp_gt X0 hx (hb hby d2_4) (pc1 := 7) rfl (by decide) (pc2 := 11) (by decide) (fun hc4 => absurd hc4 k1) (fun hc4 => ?_)
  refine g_iconst X0 hx (hb hby d2_7) (pc' := 8) rfl (z := (1 : Int32)) rfl ?_
  refine g_goto X0 hx (hb hby d2_8) (by decide) (pc' := 12) (by decide) ?_
  exact g_zreturn X0 hx rfl hret (hb hby d2_12) N0 hlk (fun v t => endF (by decide) (by decide) v) (by rw [e0]; exact ⟨rfl, rfl⟩)
theorem d3_0 : decode jdk_43_method_46_code 0 = .ok (.iconst 1, 1) := by decide +kernel
theorem d3_1 : decode jdk_43_method_46_code 1 = .ok (.newarray .byte, 2) := by decide +kernel
theorem d3_3 : decode jdk_43_method_46_code 3 = .ok (.dup, 1) := by decide +kernel
theorem d3_4 : decode jdk_43_method_46_code 4 = .ok (.iconst 0, 1) := by decide +kernel
theorem d3_5 : decode jdk_43_method_46_code 5 = .ok (.iload_n 0, 1) := by decide +kernel
theorem d3_6 : decode jdk_43_method_46_code 6 = .ok (.i2b, 1) := by decide +kernel
theorem d3_7 : decode jdk_43_method_46_code 7 = .ok (.bastore, 1) := by decide +kernel
theorem d3_8 : decode jdk_43_method_46_code 8 = .ok (.areturn, 1) := by decide +kernel
theorem ef_3 (x0 : Int32) (m : MethodId) : entryFrame m #[(.int x0)] 1 = mkF m 0 #[.val (.int x0)] [] := by first | (simp [entryFrame, mkF, argsToLocals, Value.category]; done) | rfl
def Q3 (Z : State) (c1 : Int32) (h0 : Heap) (n0 : Nat) : Option Value → Heap → Prop := fun v h => ∃ r, v = some (.ref r) ∧ n0 ≤ r ∧ h0.size ≤ r ∧ Keep h0 h [] ∧ Exa Z h r "[B"
set_option maxRecDepth 65536 in
set_option maxHeartbeats 40000000 in
theorem rm3 (l : Launch) (Z : State) (a0 : Array Value) (hw : ∀ d ∈ tables_1, d.before a0 Z = true) (c1 : Int32) (h0 : Heap) (n0 : Nat) (Z0 : n0 ≤ h0.size) : Ctr l Z (⟨"java/lang/StringLatin1", "toBytes", "(C)[B"⟩ : MethodName) jdk_43_method_46_code 1 (some (.array .byte)) ({ frames := 0, cells := 1, slots := 1, locals := 0 } : Room) #[(.int c1)] h0 n0 (Q3 Z c1 h0 n0) := by
  refine Ctr.of (plainFor_of_name pn_2) (ef_3 c1) ?_
  intro p e s m below meth c T0 hx hby hml hown hnm hret hlk hZ X0 e0
  have N0 := Fr.nil n0
  refine g_iconst X0 hx (hb hby d3_0) (pc' := 1) rfl (z := (1 : Int32)) rfl ?_
  obtain ⟨T1, h1, b1, X1, e1, g1, E1, V1, A1, st1⟩ := h_newarray X0 hx hZ e0 (n := (1 : Int32)) (ty := .byte) rfl (hw _ (List.mem_of_getElem? (i := 14) rfl)) (hb hby d3_1) (k := 1) (cap := 1) (by decide) rfl (by decide) (by decide) (by decide) (by decide) (ad := "[B") (by decide) #[.val (.int c1)] []
  have ge2 : n0 ≤ b1 := g1 ▸ Z0
  have sz3 : h0.size ≤ b1 := g1 ▸ (Keep.refl h0 []).1
  have Z4 : n0 ≤ h1.size := Nat.le_trans Z0 E1.1
  have K5 := (Keep.refl h0 []).ext E1
  have f6 : Va Z h1 b1 .byte [(.int (0 : Int32))] := V1
  refine Go.movp st1 (mkF m 3 #[.val (.int c1)] [(.ref b1)]) rfl ?_
  refine g_dup X1 hx (hb hby d3_3) (pc' := 4) rfl rfl ?_
  refine g_iconst X1 hx (hb hby d3_4) (pc' := 5) rfl (z := (0 : Int32)) rfl ?_
  refine g_iloadN X1 hx (hb hby d3_5) (pc' := 6) rfl rfl ?_
  refine g_i2b X1 hx (hb hby d3_6) (pc' := 7) rfl ?_
  obtain ⟨T7, h7, L7, X7, e7, N7, W7, V7, st7⟩ := h_bastore X1 hx hZ e1 N0 f6 ge2 (j := (0 : Int32)) (i := 0) (x := (byt c1)) (hb hby d3_7) (by decide) rfl rfl #[.val (.int c1)] [(.ref b1)]
  have f8 := Exa.wr W7 A1
  have Z9 : n0 ≤ h7.size := Nat.le_trans Z4 (Keep.of_wr W7).1
  have K10 := K5.wr W7 (Or.inr sz3)
  have f11 : Va Z h7 b1 .byte [(.int (byt (byt c1)))] := V7
  refine Go.movp st7 (mkF m 8 #[.val (.int c1)] [(.ref b1)]) rfl ?_
  exact g_areturn X7 hx rfl rfl hret (hb hby d3_8) N7 hlk (fun v t => endF (by decide) (by decide) v) (by rw [e7]; exact ⟨_, rfl, ge2, sz3, K10, f8⟩)
theorem d4_0 : decode jdk_42_method_151_code 0 = .ok (.aload_n 0, 1) := by decide +kernel
theorem d4_1 : decode jdk_42_method_151_code 1 = .ok (.invokespecial 1, 3) := by decide +kernel
theorem d4_4 : decode jdk_42_method_151_code 4 = .ok (.aload_n 0, 1) := by decide +kernel
theorem d4_5 : decode jdk_42_method_151_code 5 = .ok (.aload_n 1, 1) := by decide +kernel
theorem d4_6 : decode jdk_42_method_151_code 6 = .ok (.putfield 9, 3) := by decide +kernel
theorem d4_9 : decode jdk_42_method_151_code 9 = .ok (.aload_n 0, 1) := by decide +kernel
theorem d4_10 : decode jdk_42_method_151_code 10 = .ok (.iload_n 2, 1) := by decide +kernel
theorem d4_11 : decode jdk_42_method_151_code 11 = .ok (.putfield 15, 3) := by decide +kernel
theorem d4_14 : decode jdk_42_method_151_code 14 = .ok (.return_, 1) := by decide +kernel
theorem pn_4 : plainName "java/lang/String" = true := by first | (simp [plainName, overriddenIn]; done) | decide +kernel
theorem ef_4 (x0 : Addr) (x1 : Addr) (x2 : Int32) (m : MethodId) : entryFrame m #[(.ref x0), (.ref x1), (.int x2)] 3 = mkF m 0 #[.val (.ref x0), .val (.ref x1), .val (.int x2)] [] := by first | (simp [entryFrame, mkF, argsToLocals, Value.category]; done) | rfl
def Q4 (Z : State) (a : Addr) (b : Addr) (h0 : Heap) (n0 : Nat) : Option Value → Heap → Prop := fun v h => v = none ∧ Keep h0 h [a] ∧ Exa Z h a "java/lang/String"
set_option maxRecDepth 65536 in
set_option maxHeartbeats 40000000 in
theorem rm4 (l : Launch) (Z : State) (a0 : Array Value) (hw : ∀ d ∈ tables_1, d.before a0 Z = true) (a : Addr) (b : Addr) (h0 : Heap) (n0 : Nat) (Z0 : n0 ≤ h0.size) (F1 : Fld Z h0 a "java/lang/String" "value" "[B" .null) (F2 : Fld Z h0 a "java/lang/String" "coder" "B" (.int (0 : Int32))) (E1 : Exa Z h0 a "java/lang/String") (G1 : n0 ≤ a) : Ctr l Z (⟨"java/lang/String", "<init>", "([BB)V"⟩ : MethodName) jdk_42_method_151_code 3 none ({ frames := 1, cells := 0, slots := 0, locals := 12 } : Room) #[(.ref a), (.ref b), (.int (0 : Int32))] h0 n0 (Q4 Z a b h0 n0) := by
  refine Ctr.of (plainFor_of_name pn_4) (ef_4 a b (0 : Int32)) ?_
  intro p e s m below meth c T0 hx hby hml hown hnm hret hlk hZ X0 e0
  have N0 := Fr.nil n0
  refine g_aloadN X0 hx (hb hby d4_0) (pc' := 1) rfl rfl rfl ?_
  obtain ⟨T12, X12, e12, st12⟩ := initO X0 hx hZ hown (hw _ (List.mem_of_getElem? (i := 19) rfl)) (hw _ (List.mem_of_getElem? (i := 20) rfl)) (hw _ (List.mem_of_getElem? (i := 21) rfl)) e0 (g := (mkF m 1 #[.val (.ref a), .val (.ref b), .val (.int (0 : Int32))] [(.ref a)])) rfl (by rw [hml]; rfl) rfl (hb hby d4_1) (by decide) (W := 0) (by show 2 * 0 + _ ≤ _; exact Nat.le_of_eq rfl) (by decide)
  refine Go.movp st12 (mkF m 4 #[.val (.ref a), .val (.ref b), .val (.int (0 : Int32))] []) rfl ?_
  refine g_aloadN X12 hx (hb hby d4_4) (pc' := 5) rfl rfl rfl ?_
  refine g_aloadN X12 hx (hb hby d4_5) (pc' := 6) rfl rfl rfl ?_
  obtain ⟨T13, h13, X13, e13, W13, st13⟩ := putF X12 hx hZ hown (host := "") (Or.inl (hw _ (List.mem_of_getElem? (i := 22) rfl))) Via.refl e12 F1 E1 (Or.inr ⟨(hw _ (List.mem_of_getElem? (i := 23) rfl)), rfl, hnm⟩) (hw _ (List.mem_of_getElem? (i := 10) rfl)) (ty := (.array .byte)) (by decide) rfl rfl (g := (mkF m 6 #[.val (.ref a), .val (.ref b), .val (.int (0 : Int32))] [(.ref b), (.ref a)])) rfl rfl (hb hby d4_6)
  have f14 : Fld Z h13 a "java/lang/String" "value" "[B" (.ref b) := Fld.same W13 F1
  have N13 := Fr.snoc X13 N0 G1
  have f15 := Fld.other W13 F2 (Or.inr (slot_ne (Or.inr (hw _ (List.mem_of_getElem? (i := 25) rfl))) (Or.inr (hw _ (List.mem_of_getElem? (i := 23) rfl))) (by decide) (t := .byte) (t' := (.array .byte)) (by decide) (by decide)))
  have f16 := Exa.wr W13 E1
  have Z17 : n0 ≤ h13.size := Nat.le_trans Z0 (Keep.of_wr W13).1
  have K18 := (Keep.refl h0 [a]).wr W13 (Or.inl (List.mem_of_getElem? (i := 0) rfl))
  refine Go.movp st13 (mkF m 9 #[.val (.ref a), .val (.ref b), .val (.int (0 : Int32))] []) rfl ?_
  refine g_aloadN X13 hx (hb hby d4_9) (pc' := 10) rfl rfl rfl ?_
  refine g_iloadN X13 hx (hb hby d4_10) (pc' := 11) rfl rfl ?_
  obtain ⟨T19, h19, X19, e19, W19, st19⟩ := putFN X13 hx hZ hown (hw _ (List.mem_of_getElem? (i := 24) rfl)) Via.refl e13 f15 f16 (Or.inr ⟨(hw _ (List.mem_of_getElem? (i := 25) rfl)), rfl, hnm⟩) (hw _ (List.mem_of_getElem? (i := 10) rfl)) (ty := .byte) (v' := .int (nar .byte (0 : Int32))) (by decide) rfl (fits_nar_byte _) (g := (mkF m 11 #[.val (.ref a), .val (.ref b), .val (.int (0 : Int32))] [(.int (0 : Int32)), (.ref a)])) rfl rfl (hb hby d4_11)
  have f20 : Fld Z h19 a "java/lang/String" "coder" "B" (.int (byt (0 : Int32))) := Fld.same W19 f15
  have N19 := Fr.snoc X19 N13 G1
  have f21 := Exa.wr W19 f16
  have f22 := Fld.other W19 f14 (Or.inr (slot_ne (Or.inr (hw _ (List.mem_of_getElem? (i := 23) rfl))) (Or.inr (hw _ (List.mem_of_getElem? (i := 25) rfl))) (by decide) (t := (.array .byte)) (t' := .byte) (by decide) (by decide)))
  have Z23 : n0 ≤ h19.size := Nat.le_trans Z17 (Keep.of_wr W19).1
  have K24 := K18.wr W19 (Or.inl (List.mem_of_getElem? (i := 0) rfl))
  refine Go.movp st19 (mkF m 14 #[.val (.ref a), .val (.ref b), .val (.int (0 : Int32))] []) rfl ?_
  exact g_return X19 hx hret (hb hby d4_14) N19 hlk (fun v t => endF (by decide) (by decide) v) (by rw [e19]; exact ⟨rfl, K24, f21⟩)
theorem pd__C_Z : parseMethodDescriptor "(C)Z" = some ⟨[.char], some .boolean⟩ := by decide +kernel
theorem pd__C__B : parseMethodDescriptor "(C)[B" = some ⟨[.char], some (.array .byte)⟩ := by decide +kernel
theorem pd___BB_V : parseMethodDescriptor "([BB)V" = some ⟨[(.array .byte), .byte], none⟩ := by decide +kernel
theorem d1_0 : decode jdk_42_method_139_code 0 = .ok (.getstatic 38, 3) := by decide +kernel
theorem d1_3 : decode jdk_42_method_139_code 3 = .ok (.ifCond .eq 23, 3) := by decide +kernel
theorem d1_6 : decode jdk_42_method_139_code 6 = .ok (.iload_n 0, 1) := by decide +kernel
theorem d1_7 : decode jdk_42_method_139_code 7 = .ok (.invokestatic 1015, 3) := by decide +kernel
theorem d1_10 : decode jdk_42_method_139_code 10 = .ok (.ifCond .eq 16, 3) := by decide +kernel
theorem d1_13 : decode jdk_42_method_139_code 13 = .ok (.new 10, 3) := by decide +kernel
theorem d1_16 : decode jdk_42_method_139_code 16 = .ok (.dup, 1) := by decide +kernel
theorem d1_17 : decode jdk_42_method_139_code 17 = .ok (.iload_n 0, 1) := by decide +kernel
theorem d1_18 : decode jdk_42_method_139_code 18 = .ok (.invokestatic 1018, 3) := by decide +kernel
theorem d1_21 : decode jdk_42_method_139_code 21 = .ok (.iconst 0, 1) := by decide +kernel
theorem d1_22 : decode jdk_42_method_139_code 22 = .ok (.invokespecial 209, 3) := by decide +kernel
theorem d1_25 : decode jdk_42_method_139_code 25 = .ok (.areturn, 1) := by decide +kernel
theorem ef_1 (x0 : Int32) (m : MethodId) : entryFrame m #[(.int x0)] 1 = mkF m 0 #[.val (.int x0)] [] := by first | (simp [entryFrame, mkF, argsToLocals, Value.category]; done) | rfl
def Q1 (Z : State) (c1 : Int32) (cs : Int32) (h0 : Heap) (n0 : Nat) : Option Value → Heap → Prop := fun v h => ∃ r, v = some (.ref r) ∧ n0 ≤ r ∧ h0.size ≤ r ∧ Keep h0 h [] ∧ Exa Z h r "java/lang/String"
set_option maxRecDepth 65536 in
set_option maxHeartbeats 40000000 in
theorem rm1 (l : Launch) (Z : State) (a0 : Array Value) (hw : ∀ d ∈ tables_1, d.before a0 Z = true) (c1 : Int32) (cs : Int32) (h0 : Heap) (n0 : Nat) (Z0 : n0 ≤ h0.size) (S1 : Sta Z h0 "java/lang/String" "COMPACT_STRINGS" "Z" (.int cs)) (k0 : ¬ cs = 0) (k1 : ¬ 255 < c1) : Ctr l Z (⟨"java/lang/String", "valueOf", "(C)Ljava/lang/String;"⟩ : MethodName) jdk_42_method_139_code 1 (some (.object "java/lang/String")) ({ frames := 2, cells := 2, slots := 5, locals := 27 } : Room) #[(.int c1)] h0 n0 (Q1 Z c1 cs h0 n0) := by
  refine Ctr.of (plainFor_of_name pn_4) (ef_1 c1) ?_
  intro p e s m below meth c T0 hx hby hml hown hnm hret hlk hZ X0 e0
  have N0 := Fr.nil n0
  obtain ⟨T25, X25, e25, st25⟩ := getS2 X0 hx hZ hown (host := "") (Or.inl (hw _ (List.mem_of_getElem? (i := 4) rfl))) Via.refl e0 S1 (g := (mkF m 0 #[.val (.int c1)] [])) rfl (hb hby d1_0)
  refine Go.movp st25 (mkF m 3 #[.val (.int c1)] [(.int cs)]) rfl ?_
  refine g_if_eq X25 hx (hb hby d1_3) (pc1 := 6) rfl (by decide) (pc2 := 26) (by decide) (fun hc3 => absurd hc3 k0) (fun hc3 => ?_)
  refine g_iloadN X25 hx (hb hby d1_6) (pc' := 7) rfl rfl ?_
  obtain ⟨v26, T26, h26, L26, X26, e26, N26, q26, st26⟩ := h_static X25 hx (W := 0) (Ls := #[.val (.int c1)]) (argsL := [(.int c1)]) (rest := []) hZ e25 N0 hml hown (rm2 l Z a0 hw c1 h0 n0 Z0 k1) (hw _ (List.mem_of_getElem? (i := 5) rfl)) (hw _ (List.mem_of_getElem? (i := 6) rfl)) (hw _ (List.mem_of_getElem? (i := 7) rfl)) (hw _ (List.mem_of_getElem? (i := 8) rfl)) (by decide) pd__C_Z rfl rfl (hb hby d1_7) rfl (by decide) (by decide) (by decide) (by decide)
  obtain ⟨rfl, rfl⟩ := q26
  refine Go.movp st26 (mkF m 10 #[.val (.int c1)] [(.int (1 : Int32))]) rfl ?_
  refine g_if_eq X26 hx (hb hby d1_10) (pc1 := 13) rfl (by decide) (pc2 := 26) (by decide) (fun hc10 => absurd hc10 (by decide)) (fun hc10 => ?_)
  obtain ⟨T27, h27, X27, e27, E27, A27, D27, -, st27⟩ := newO X26 hx hZ hown (hw _ (List.mem_of_getElem? (i := 9) rfl)) (hw _ (List.mem_of_getElem? (i := 10) rfl)) (hw _ (List.mem_of_getElem? (i := 2) rfl)) e26 (g := (mkF m 13 #[.val (.int c1)] [])) rfl (hb hby d1_13) (by decide) (by decide)
  obtain ⟨b27, g27⟩ : ∃ z, z = h0.size := ⟨_, rfl⟩
  rw [← g27] at A27 D27 st27
  have ge28 : n0 ≤ b27 := g27 ▸ Z0
  have sz29 : h0.size ≤ b27 := g27 ▸ (Keep.refl h0 []).1
  have f30 := Sta.ext E27 S1
  have Z31 : n0 ≤ h27.size := Nat.le_trans Z0 E27.1
  have K32 := (Keep.refl h0 []).ext E27
  have f33 : Fld Z h27 b27 "java/lang/String" "value" "[B" .null := D27 (Or.inr (hw _ (List.mem_of_getElem? (i := 23) rfl))) (ty := (.array .byte)) (by decide)
  have f34 : Fld Z h27 b27 "java/lang/String" "coder" "B" (.int (0 : Int32)) := D27 (Or.inr (hw _ (List.mem_of_getElem? (i := 25) rfl))) (ty := .byte) (by decide)
  refine Go.movp st27 (mkF m 16 #[.val (.int c1)] [(.ref b27)]) rfl ?_
  refine g_dup X27 hx (hb hby d1_16) (pc' := 17) rfl rfl ?_
  refine g_iloadN X27 hx (hb hby d1_17) (pc' := 18) rfl rfl ?_
  obtain ⟨v35, T35, h35, L35, X35, e35, N35, q35, st35⟩ := h_static X27 hx (W := 2) (Ls := #[.val (.int c1)]) (argsL := [(.int c1)]) (rest := [(.ref b27), (.ref b27)]) hZ e27 N26 hml hown (rm3 l Z a0 hw c1 h27 n0 Z31) (hw _ (List.mem_of_getElem? (i := 11) rfl)) (hw _ (List.mem_of_getElem? (i := 12) rfl)) (hw _ (List.mem_of_getElem? (i := 7) rfl)) (hw _ (List.mem_of_getElem? (i := 13) rfl)) (by decide) pd__C__B rfl rfl (hb hby d1_18) rfl (by decide) (by decide) (by decide) (by decide)
  obtain ⟨r35, rfl, ge35, sz35, K35, A35⟩ := q35
  have f36 := A27.keep K35
  have f37 := f33.keep K35 nin0
  have f38 := f34.keep K35 nin0
  have Z39 : n0 ≤ h35.size := Nat.le_trans Z31 K35.1
  have K40 := K32.trans K35 all0
  have ne41 : b27 ≠ r35 := Nat.ne_of_lt (Nat.lt_of_lt_of_le A27.lt sz35)
  have sz42 : h0.size ≤ r35 := Nat.le_trans K32.1 sz35
  refine Go.movp st35 (mkF m 21 #[.val (.int c1)] [(.ref r35), (.ref b27), (.ref b27)]) rfl ?_
  refine g_iconst X35 hx (hb hby d1_21) (pc' := 22) rfl (z := (0 : Int32)) rfl ?_
  obtain ⟨v43, T43, h43, L43, X43, e43, N43, q43, st43⟩ := h_special (a := b27) X35 hx (W := 1) (Ls := #[.val (.int c1)]) (argsL := [(.ref r35), (.int (0 : Int32))]) (rest := [(.ref b27)]) hZ e35 N35 hml hown rfl (rm4 l Z a0 hw b27 r35 h35 n0 Z39 f37 f38 f36 ge28) (hw _ (List.mem_of_getElem? (i := 15) rfl)) (hw _ (List.mem_of_getElem? (i := 16) rfl)) (hw _ (List.mem_of_getElem? (i := 2) rfl)) (hw _ (List.mem_of_getElem? (i := 18) rfl)) (by decide) pd___BB_V rfl rfl (hb hby d1_22) rfl (by decide) (by decide) (by decide) (by decide)
  obtain ⟨rfl, K43, A43⟩ := q43
  have f44 := f36.keep K43
  have f45 := A35.keep K43
  have Z46 : n0 ≤ h43.size := Nat.le_trans Z39 K43.1
  have K47 := K40.trans K43 (allS (Or.inr sz29) all0)
  refine Go.movp st43 (mkF m 25 #[.val (.int c1)] [(.ref b27)]) rfl ?_
  exact g_areturn X43 hx rfl rfl hret (hb hby d1_25) N43 hlk (fun v t => endF (by decide) (by decide) v) (by rw [e43]; exact ⟨_, rfl, ge28, sz29, K47, A43⟩)
theorem d6_0 : decode method_3_code 0 = .ok (.iload_n 0, 1) := by decide +kernel
theorem d6_1 : decode method_3_code 1 = .ok (.ifCond .ne 7, 3) := by decide +kernel
theorem d6_4 : decode method_3_code 4 = .ok (.iconst 0, 1) := by decide +kernel
theorem d6_5 : decode method_3_code 5 = .ok (.newarray .byte, 2) := by decide +kernel
theorem d6_7 : decode method_3_code 7 = .ok (.areturn, 1) := by decide +kernel
theorem pn_6 : plainName "com/example/stream_log_client/streamlogclient/protocol/HeaderValuePinLaw" = true := by first | (simp [plainName, overriddenIn]; done) | decide +kernel
theorem ef_6_0 (x0 : Int32) (x1 : Int32) (x2 : Int32) (x3 : Int32) (m : MethodId) : entryFrame m #[(.int x0), (.int x1), (.int x2), (.int x3)] 4 = mkF m 0 #[.val (.int x0), .val (.int x1), .val (.int x2), .val (.int x3)] [] := by first | (simp [entryFrame, mkF, argsToLocals, Value.category]; done) | rfl
def Q6_0 (Z : State) (p1 : Int32) (p2 : Int32) (p3 : Int32) (h0 : Heap) (n0 : Nat) : Option Value → Heap → Prop := fun v h => ∃ r, v = some (.ref r) ∧ n0 ≤ r ∧ h0.size ≤ r ∧ Keep h0 h [] ∧ Va Z h r .byte [] ∧ Exa Z h r "[B"
set_option maxRecDepth 65536 in
set_option maxHeartbeats 40000000 in
theorem rm6_0 (l : Launch) (Z : State) (a0 : Array Value) (hw : ∀ d ∈ tables_1, d.before a0 Z = true) (p1 : Int32) (p2 : Int32) (p3 : Int32) (h0 : Heap) (n0 : Nat) (Z0 : n0 ≤ h0.size) : Ctr l Z (⟨"com/example/stream_log_client/streamlogclient/protocol/HeaderValuePinLaw", "mk", "(IIII)[B"⟩ : MethodName) method_3_code 4 (some (.array .byte)) ({ frames := 0, cells := 1, slots := 0, locals := 0 } : Room) #[(.int (0 : Int32)), (.int p1), (.int p2), (.int p3)] h0 n0 (Q6_0 Z p1 p2 p3 h0 n0) := by
  refine Ctr.of (plainFor_of_name pn_6) (ef_6_0 (0 : Int32) p1 p2 p3) ?_
  intro p e s m below meth c T0 hx hby hml hown hnm hret hlk hZ X0 e0
  have N0 := Fr.nil n0
  refine g_iloadN X0 hx (hb hby d6_0) (pc' := 1) rfl rfl ?_
  refine g_if_ne X0 hx (hb hby d6_1) (pc1 := 4) rfl (by decide) (pc2 := 8) (by decide) (fun hc1 => absurd (by decide) hc1) (fun hc1 => ?_)
  refine g_iconst X0 hx (hb hby d6_4) (pc' := 5) rfl (z := (0 : Int32)) rfl ?_
  obtain ⟨T48, h48, b48, X48, e48, g48, E48, V48, A48, st48⟩ := h_newarray X0 hx hZ e0 (n := (0 : Int32)) (ty := .byte) rfl (hw _ (List.mem_of_getElem? (i := 14) rfl)) (hb hby d6_5) (k := 0) (cap := 0) (by decide) rfl (by decide) (by decide) (by decide) (by decide) (ad := "[B") (by decide) #[.val (.int (0 : Int32)), .val (.int p1), .val (.int p2), .val (.int p3)] []
  have ge49 : n0 ≤ b48 := g48 ▸ Z0
  have sz50 : h0.size ≤ b48 := g48 ▸ (Keep.refl h0 []).1
  have Z51 : n0 ≤ h48.size := Nat.le_trans Z0 E48.1
  have K52 := (Keep.refl h0 []).ext E48
  have f53 : Va Z h48 b48 .byte [] := V48
  refine Go.movp st48 (mkF m 7 #[.val (.int (0 : Int32)), .val (.int p1), .val (.int p2), .val (.int p3)] [(.ref b48)]) rfl ?_
  exact g_areturn X48 hx rfl rfl hret (hb hby d6_7) N0 hlk (fun v t => endF (by decide) (by decide) v) (by rw [e48]; exact ⟨_, rfl, ge49, sz50, K52, f53, A48⟩)
theorem d9_0 : decode method_4_code 0 = .ok (.iload_n 1, 1) := by decide +kernel
theorem d9_1 : decode method_4_code 1 = .ok (.ifCond .le 12, 3) := by decide +kernel
theorem d9_13 : decode method_4_code 13 = .ok (.iload_n 1, 1) := by decide +kernel
theorem d9_14 : decode method_4_code 14 = .ok (.iconst 1, 1) := by decide +kernel
theorem d9_15 : decode method_4_code 15 = .ok (.if_icmp .le 12, 3) := by decide +kernel
theorem d9_27 : decode method_4_code 27 = .ok (.iload_n 1, 1) := by decide +kernel
theorem d9_28 : decode method_4_code 28 = .ok (.iconst 2, 1) := by decide +kernel
theorem d9_29 : decode method_4_code 29 = .ok (.if_icmp .le 12, 3) := by decide +kernel
theorem d9_41 : decode method_4_code 41 = .ok (.return_, 1) := by decide +kernel
theorem ef_9_0 (x0 : Addr) (x1 : Int32) (m : MethodId) : entryFrame m #[(.ref x0), (.int x1)] 2 = mkF m 0 #[.val (.ref x0), .val (.int x1)] [] := by first | (simp [entryFrame, mkF, argsToLocals, Value.category]; done) | rfl
def Q9_0 (Z : State) (a : Addr) (h0 : Heap) (n0 : Nat) : Option Value → Heap → Prop := fun v h => v = none ∧ Keep h0 h [a] ∧ Va Z h a .byte []
set_option maxRecDepth 65536 in
set_option maxHeartbeats 40000000 in
theorem rm9_0 (l : Launch) (Z : State) (a0 : Array Value) (hw : ∀ d ∈ tables_1, d.before a0 Z = true) (a : Addr) (h0 : Heap) (n0 : Nat) (Z0 : n0 ≤ h0.size) (V1 : Va Z h0 a .byte []) (G1 : n0 ≤ a) : Ctr l Z (⟨"com/example/stream_log_client/streamlogclient/protocol/HeaderValuePinLaw", "flip", "([BI)V"⟩ : MethodName) method_4_code 2 none ({ frames := 0, cells := 0, slots := 0, locals := 0 } : Room) #[(.ref a), (.int (0 : Int32))] h0 n0 (Q9_0 Z a h0 n0) := by
  refine Ctr.of (plainFor_of_name pn_6) (ef_9_0 a (0 : Int32)) ?_
  intro p e s m below meth c T0 hx hby hml hown hnm hret hlk hZ X0 e0
  have N0 := Fr.nil n0
  refine g_iloadN X0 hx (hb hby d9_0) (pc' := 1) rfl rfl ?_
  refine g_if_le X0 hx (hb hby d9_1) (pc1 := 4) rfl (by decide) (pc2 := 13) (by decide) (fun hc1 => ?_) (fun hc1 => absurd hc1 (by decide))
  refine g_iloadN X0 hx (hb hby d9_13) (pc' := 14) rfl rfl ?_
  refine g_iconst X0 hx (hb hby d9_14) (pc' := 15) rfl (z := (1 : Int32)) rfl ?_
  refine g_icmp_le X0 hx (hb hby d9_15) (pc1 := 18) rfl (by decide) (pc2 := 27) (by decide) (fun hc15 => ?_) (fun hc15 => absurd hc15 (by decide))
  refine g_iloadN X0 hx (hb hby d9_27) (pc' := 28) rfl rfl ?_
  refine g_iconst X0 hx (hb hby d9_28) (pc' := 29) rfl (z := (2 : Int32)) rfl ?_
  refine g_icmp_le X0 hx (hb hby d9_29) (pc1 := 32) rfl (by decide) (pc2 := 41) (by decide) (fun hc29 => ?_) (fun hc29 => absurd hc29 (by decide))
  exact g_return X0 hx hret (hb hby d9_41) N0 hlk (fun v t => endF (by decide) (by decide) v) (by rw [e0]; exact ⟨rfl, (Keep.refl h0 [a]), V1⟩)
theorem d11_0 : decode method_5_code 0 = .ok (.aload_n 0, 1) := by decide +kernel
theorem d11_1 : decode method_5_code 1 = .ok (.ifnull 9, 3) := by decide +kernel
theorem d11_4 : decode method_5_code 4 = .ok (.aload_n 0, 1) := by decide +kernel
theorem d11_5 : decode method_5_code 5 = .ok (.arraylength, 1) := by decide +kernel
theorem d11_6 : decode method_5_code 6 = .ok (.iload_n 1, 1) := by decide +kernel
theorem d11_7 : decode method_5_code 7 = .ok (.if_icmp .eq 5, 3) := by decide +kernel
theorem d11_12 : decode method_5_code 12 = .ok (.iload_n 1, 1) := by decide +kernel
theorem d11_13 : decode method_5_code 13 = .ok (.ifCond .le 13, 3) := by decide +kernel
theorem d11_26 : decode method_5_code 26 = .ok (.iload_n 1, 1) := by decide +kernel
theorem d11_27 : decode method_5_code 27 = .ok (.iconst 1, 1) := by decide +kernel
theorem d11_28 : decode method_5_code 28 = .ok (.if_icmp .le 13, 3) := by decide +kernel
theorem d11_41 : decode method_5_code 41 = .ok (.iload_n 1, 1) := by decide +kernel
theorem d11_42 : decode method_5_code 42 = .ok (.iconst 2, 1) := by decide +kernel
theorem d11_43 : decode method_5_code 43 = .ok (.if_icmp .le 14, 3) := by decide +kernel
theorem d11_57 : decode method_5_code 57 = .ok (.iconst 1, 1) := by decide +kernel
theorem d11_58 : decode method_5_code 58 = .ok (.ireturn, 1) := by decide +kernel
theorem ef_11_0 (x0 : Addr) (x1 : Int32) (x2 : Int32) (x3 : Int32) (x4 : Int32) (m : MethodId) : entryFrame m #[(.ref x0), (.int x1), (.int x2), (.int x3), (.int x4)] 5 = mkF m 0 #[.val (.ref x0), .val (.int x1), .val (.int x2), .val (.int x3), .val (.int x4)] [] := by first | (simp [entryFrame, mkF, argsToLocals, Value.category]; done) | rfl
def Q11_0 (Z : State) (a : Addr) (p1 : Int32) (p2 : Int32) (p3 : Int32) (h0 : Heap) (n0 : Nat) : Option Value → Heap → Prop := fun v h => v = some (.int 1) ∧ h0 = h
set_option maxRecDepth 65536 in
set_option maxHeartbeats 40000000 in
theorem rm11_0 (l : Launch) (Z : State) (a0 : Array Value) (hw : ∀ d ∈ tables_1, d.before a0 Z = true) (a : Addr) (p1 : Int32) (p2 : Int32) (p3 : Int32) (h0 : Heap) (n0 : Nat) (Z0 : n0 ≤ h0.size) (V1 : Va Z h0 a .byte []) : Ctr l Z (⟨"com/example/stream_log_client/streamlogclient/protocol/HeaderValuePinLaw", "matches", "([BIIII)Z"⟩ : MethodName) method_5_code 5 (some .boolean) ({ frames := 0, cells := 0, slots := 0, locals := 0 } : Room) #[(.ref a), (.int (0 : Int32)), (.int p1), (.int p2), (.int p3)] h0 n0 (Q11_0 Z a p1 p2 p3 h0 n0) := by
  refine Ctr.of (plainFor_of_name pn_6) (ef_11_0 a (0 : Int32) p1 p2 p3) ?_
  intro p e s m below meth c T0 hx hby hml hown hnm hret hlk hZ X0 e0
  have N0 := Fr.nil n0
  refine g_aloadN X0 hx (hb hby d11_0) (pc' := 1) rfl rfl rfl ?_
  refine g_ifnull_n X0 hx (hb hby d11_1) (pc' := 4) rfl ?_
  refine g_aloadN X0 hx (hb hby d11_4) (pc' := 5) rfl rfl rfl ?_
  refine g_arraylength X0 hx hZ e0 V1 (z := (0 : Int32)) (hb hby d11_5) (pc' := 6) rfl rfl ?_
  refine g_iloadN X0 hx (hb hby d11_6) (pc' := 7) rfl rfl ?_
  refine g_icmp_eq X0 hx (hb hby d11_7) (pc1 := 10) rfl (by decide) (pc2 := 12) (by decide) (fun hc7 => ?_) (fun hc7 => absurd rfl hc7)
  refine g_iloadN X0 hx (hb hby d11_12) (pc' := 13) rfl rfl ?_
  refine g_if_le X0 hx (hb hby d11_13) (pc1 := 16) rfl (by decide) (pc2 := 26) (by decide) (fun hc13 => ?_) (fun hc13 => absurd hc13 (by decide))
  refine g_iloadN X0 hx (hb hby d11_26) (pc' := 27) rfl rfl ?_
  refine g_iconst X0 hx (hb hby d11_27) (pc' := 28) rfl (z := (1 : Int32)) rfl ?_
  refine g_icmp_le X0 hx (hb hby d11_28) (pc1 := 31) rfl (by decide) (pc2 := 41) (by decide) (fun hc28 => ?_) (fun hc28 => absurd hc28 (by decide))
  refine g_iloadN X0 hx (hb hby d11_41) (pc' := 42) rfl rfl ?_
  refine g_iconst X0 hx (hb hby d11_42) (pc' := 43) rfl (z := (2 : Int32)) rfl ?_
  refine g_icmp_le X0 hx (hb hby d11_43) (pc1 := 46) rfl (by decide) (pc2 := 57) (by decide) (fun hc43 => ?_) (fun hc43 => absurd hc43 (by decide))
  refine g_iconst X0 hx (hb hby d11_57) (pc' := 58) rfl (z := (1 : Int32)) rfl ?_
  exact g_zreturn X0 hx rfl hret (hb hby d11_58) N0 hlk (fun v t => endF (by decide) (by decide) v) (by rw [e0]; exact ⟨rfl, rfl⟩)
theorem d6_8 : decode method_3_code 8 = .ok (.iload_n 0, 1) := by decide +kernel
theorem d6_9 : decode method_3_code 9 = .ok (.iconst 1, 1) := by decide +kernel
theorem d6_10 : decode method_3_code 10 = .ok (.if_icmp .ne 12, 3) := by decide +kernel
theorem d6_13 : decode method_3_code 13 = .ok (.iconst 1, 1) := by decide +kernel
theorem d6_14 : decode method_3_code 14 = .ok (.newarray .byte, 2) := by decide +kernel
theorem d6_16 : decode method_3_code 16 = .ok (.dup, 1) := by decide +kernel
theorem d6_17 : decode method_3_code 17 = .ok (.iconst 0, 1) := by decide +kernel
theorem d6_18 : decode method_3_code 18 = .ok (.iload_n 1, 1) := by decide +kernel
theorem d6_19 : decode method_3_code 19 = .ok (.i2b, 1) := by decide +kernel
theorem d6_20 : decode method_3_code 20 = .ok (.bastore, 1) := by decide +kernel
theorem d6_21 : decode method_3_code 21 = .ok (.areturn, 1) := by decide +kernel
theorem ef_6_1 (x0 : Int32) (x1 : Int32) (x2 : Int32) (x3 : Int32) (m : MethodId) : entryFrame m #[(.int x0), (.int x1), (.int x2), (.int x3)] 4 = mkF m 0 #[.val (.int x0), .val (.int x1), .val (.int x2), .val (.int x3)] [] := by first | (simp [entryFrame, mkF, argsToLocals, Value.category]; done) | rfl
def Q6_1 (Z : State) (p1 : Int32) (p2 : Int32) (p3 : Int32) (h0 : Heap) (n0 : Nat) : Option Value → Heap → Prop := fun v h => ∃ r, v = some (.ref r) ∧ n0 ≤ r ∧ h0.size ≤ r ∧ Keep h0 h [] ∧ Va Z h r .byte [(.int (byt p1))] ∧ Exa Z h r "[B"
set_option maxRecDepth 65536 in
set_option maxHeartbeats 40000000 in
theorem rm6_1 (l : Launch) (Z : State) (a0 : Array Value) (hw : ∀ d ∈ tables_1, d.before a0 Z = true) (p1 : Int32) (p2 : Int32) (p3 : Int32) (h0 : Heap) (n0 : Nat) (Z0 : n0 ≤ h0.size) : Ctr l Z (⟨"com/example/stream_log_client/streamlogclient/protocol/HeaderValuePinLaw", "mk", "(IIII)[B"⟩ : MethodName) method_3_code 4 (some (.array .byte)) ({ frames := 0, cells := 1, slots := 1, locals := 0 } : Room) #[(.int (1 : Int32)), (.int p1), (.int p2), (.int p3)] h0 n0 (Q6_1 Z p1 p2 p3 h0 n0) := by
  refine Ctr.of (plainFor_of_name pn_6) (ef_6_1 (1 : Int32) p1 p2 p3) ?_
  intro p e s m below meth c T0 hx hby hml hown hnm hret hlk hZ X0 e0
  have N0 := Fr.nil n0
  refine g_iloadN X0 hx (hb hby d6_0) (pc' := 1) rfl rfl ?_
  refine g_if_ne X0 hx (hb hby d6_1) (pc1 := 4) rfl (by decide) (pc2 := 8) (by decide) (fun hc1 => ?_) (fun hc1 => absurd hc1 (by decide))
  refine g_iloadN X0 hx (hb hby d6_8) (pc' := 9) rfl rfl ?_
  refine g_iconst X0 hx (hb hby d6_9) (pc' := 10) rfl (z := (1 : Int32)) rfl ?_
  refine g_icmp_ne X0 hx (hb hby d6_10) (pc1 := 13) rfl (by decide) (pc2 := 22) (by decide) (fun hc10 => absurd (by decide) hc10) (fun hc10 => ?_)
  refine g_iconst X0 hx (hb hby d6_13) (pc' := 14) rfl (z := (1 : Int32)) rfl ?_
  obtain ⟨T54, h54, b54, X54, e54, g54, E54, V54, A54, st54⟩ := h_newarray X0 hx hZ e0 (n := (1 : Int32)) (ty := .byte) rfl (hw _ (List.mem_of_getElem? (i := 14) rfl)) (hb hby d6_14) (k := 1) (cap := 1) (by decide) rfl (by decide) (by decide) (by decide) (by decide) (ad := "[B") (by decide) #[.val (.int (1 : Int32)), .val (.int p1), .val (.int p2), .val (.int p3)] []
  have ge55 : n0 ≤ b54 := g54 ▸ Z0
  have sz56 : h0.size ≤ b54 := g54 ▸ (Keep.refl h0 []).1
  have Z57 : n0 ≤ h54.size := Nat.le_trans Z0 E54.1
  have K58 := (Keep.refl h0 []).ext E54
  have f59 : Va Z h54 b54 .byte [(.int (0 : Int32))] := V54
  refine Go.movp st54 (mkF m 16 #[.val (.int (1 : Int32)), .val (.int p1), .val (.int p2), .val (.int p3)] [(.ref b54)]) rfl ?_
  refine g_dup X54 hx (hb hby d6_16) (pc' := 17) rfl rfl ?_
  refine g_iconst X54 hx (hb hby d6_17) (pc' := 18) rfl (z := (0 : Int32)) rfl ?_
  refine g_iloadN X54 hx (hb hby d6_18) (pc' := 19) rfl rfl ?_
  refine g_i2b X54 hx (hb hby d6_19) (pc' := 20) rfl ?_
  obtain ⟨T60, h60, L60, X60, e60, N60, W60, V60, st60⟩ := h_bastore X54 hx hZ e54 N0 f59 ge55 (j := (0 : Int32)) (i := 0) (x := (byt p1)) (hb hby d6_20) (by decide) rfl rfl #[.val (.int (1 : Int32)), .val (.int p1), .val (.int p2), .val (.int p3)] [(.ref b54)]
  have f61 := Exa.wr W60 A54
  have Z62 : n0 ≤ h60.size := Nat.le_trans Z57 (Keep.of_wr W60).1
  have K63 := K58.wr W60 (Or.inr sz56)
  have f64 : Va Z h60 b54 .byte [(.int (byt (byt p1)))] := V60
  have f65 : Va Z h60 b54 .byte [(.int (byt p1))] := by rw [show (byt (byt p1)) = (byt p1) from byt_byt _] at f64; exact f64
  refine Go.movp st60 (mkF m 21 #[.val (.int (1 : Int32)), .val (.int p1), .val (.int p2), .val (.int p3)] [(.ref b54)]) rfl ?_
  exact g_areturn X60 hx rfl rfl hret (hb hby d6_21) N60 hlk (fun v t => endF (by decide) (by decide) v) (by rw [e60]; exact ⟨_, rfl, ge55, sz56, K63, f65, f61⟩)
theorem d9_4 : decode method_4_code 4 = .ok (.aload_n 0, 1) := by decide +kernel
theorem d9_5 : decode method_4_code 5 = .ok (.iconst 0, 1) := by decide +kernel
theorem d9_6 : decode method_4_code 6 = .ok (.aload_n 0, 1) := by decide +kernel
theorem d9_7 : decode method_4_code 7 = .ok (.iconst 0, 1) := by decide +kernel
theorem d9_8 : decode method_4_code 8 = .ok (.baload, 1) := by decide +kernel
theorem d9_9 : decode method_4_code 9 = .ok (.iconst 1, 1) := by decide +kernel
theorem d9_10 : decode method_4_code 10 = .ok (.ixor, 1) := by decide +kernel
theorem d9_11 : decode method_4_code 11 = .ok (.i2b, 1) := by decide +kernel
theorem d9_12 : decode method_4_code 12 = .ok (.bastore, 1) := by decide +kernel
theorem ef_9_1 (x0 : Addr) (x1 : Int32) (m : MethodId) : entryFrame m #[(.ref x0), (.int x1)] 2 = mkF m 0 #[.val (.ref x0), .val (.int x1)] [] := by first | (simp [entryFrame, mkF, argsToLocals, Value.category]; done) | rfl
def Q9_1 (Z : State) (a : Addr) (x0 : Int32) (h0 : Heap) (n0 : Nat) : Option Value → Heap → Prop := fun v h => v = none ∧ Keep h0 h [a] ∧ Va Z h a .byte [(.int (byt (x0 ^^^ (1 : Int32))))]
set_option maxRecDepth 65536 in
set_option maxHeartbeats 40000000 in
theorem rm9_1 (l : Launch) (Z : State) (a0 : Array Value) (hw : ∀ d ∈ tables_1, d.before a0 Z = true) (a : Addr) (x0 : Int32) (h0 : Heap) (n0 : Nat) (Z0 : n0 ≤ h0.size) (V1 : Va Z h0 a .byte [(.int x0)]) (G1 : n0 ≤ a) : Ctr l Z (⟨"com/example/stream_log_client/streamlogclient/protocol/HeaderValuePinLaw", "flip", "([BI)V"⟩ : MethodName) method_4_code 2 none ({ frames := 0, cells := 0, slots := 0, locals := 0 } : Room) #[(.ref a), (.int (1 : Int32))] h0 n0 (Q9_1 Z a x0 h0 n0) := by
  refine Ctr.of (plainFor_of_name pn_6) (ef_9_1 a (1 : Int32)) ?_
  intro p e s m below meth c T0 hx hby hml hown hnm hret hlk hZ X0 e0
  have N0 := Fr.nil n0
  refine g_iloadN X0 hx (hb hby d9_0) (pc' := 1) rfl rfl ?_
  refine g_if_le X0 hx (hb hby d9_1) (pc1 := 4) rfl (by decide) (pc2 := 13) (by decide) (fun hc1 => absurd (by decide) hc1) (fun hc1 => ?_)
  refine g_aloadN X0 hx (hb hby d9_4) (pc' := 5) rfl rfl rfl ?_
  refine g_iconst X0 hx (hb hby d9_5) (pc' := 6) rfl (z := (0 : Int32)) rfl ?_
  refine g_aloadN X0 hx (hb hby d9_6) (pc' := 7) rfl rfl rfl ?_
  refine g_iconst X0 hx (hb hby d9_7) (pc' := 8) rfl (z := (0 : Int32)) rfl ?_
  refine g_baload X0 hx hZ e0 V1 (i := 0) (v := (.int x0)) (hb hby d9_8) (pc' := 9) rfl (by decide) rfl rfl ?_
  refine g_iconst X0 hx (hb hby d9_9) (pc' := 10) rfl (z := (1 : Int32)) rfl ?_
  refine g_ixor X0 hx (hb hby d9_10) (pc' := 11) rfl ?_
  refine g_i2b X0 hx (hb hby d9_11) (pc' := 12) rfl ?_
  obtain ⟨T66, h66, L66, X66, e66, N66, W66, V66, st66⟩ := h_bastore X0 hx hZ e0 N0 V1 G1 (j := (0 : Int32)) (i := 0) (x := (byt (x0 ^^^ (1 : Int32)))) (hb hby d9_12) (by decide) rfl rfl #[.val (.ref a), .val (.int (1 : Int32))] []
  have Z67 : n0 ≤ h66.size := Nat.le_trans Z0 (Keep.of_wr W66).1
  have K68 := (Keep.refl h0 [a]).wr W66 (Or.inl (List.mem_of_getElem? (i := 0) rfl))
  have f69 : Va Z h66 a .byte [(.int (byt (byt (x0 ^^^ (1 : Int32)))))] := V66
  have f70 : Va Z h66 a .byte [(.int (byt (x0 ^^^ (1 : Int32))))] := by rw [show (byt (byt (x0 ^^^ (1 : Int32)))) = (byt (x0 ^^^ (1 : Int32))) from byt_byt _] at f69; exact f69
  refine Go.movp st66 (mkF m 13 #[.val (.ref a), .val (.int (1 : Int32))] []) rfl ?_
  refine g_iloadN X66 hx (hb hby d9_13) (pc' := 14) rfl rfl ?_
  refine g_iconst X66 hx (hb hby d9_14) (pc' := 15) rfl (z := (1 : Int32)) rfl ?_
  refine g_icmp_le X66 hx (hb hby d9_15) (pc1 := 18) rfl (by decide) (pc2 := 27) (by decide) (fun hc15 => ?_) (fun hc15 => absurd hc15 (by decide))
  refine g_iloadN X66 hx (hb hby d9_27) (pc' := 28) rfl rfl ?_
  refine g_iconst X66 hx (hb hby d9_28) (pc' := 29) rfl (z := (2 : Int32)) rfl ?_
  refine g_icmp_le X66 hx (hb hby d9_29) (pc1 := 32) rfl (by decide) (pc2 := 41) (by decide) (fun hc29 => ?_) (fun hc29 => absurd hc29 (by decide))
  exact g_return X66 hx hret (hb hby d9_41) N66 hlk (fun v t => endF (by decide) (by decide) v) (by rw [e66]; exact ⟨rfl, K68, f70⟩)
theorem d11_16 : decode method_5_code 16 = .ok (.aload_n 0, 1) := by decide +kernel
theorem d11_17 : decode method_5_code 17 = .ok (.iconst 0, 1) := by decide +kernel
theorem d11_18 : decode method_5_code 18 = .ok (.baload, 1) := by decide +kernel
theorem d11_19 : decode method_5_code 19 = .ok (.iload_n 2, 1) := by decide +kernel
theorem d11_20 : decode method_5_code 20 = .ok (.i2b, 1) := by decide +kernel
theorem d11_21 : decode method_5_code 21 = .ok (.if_icmp .eq 5, 3) := by decide +kernel
theorem ef_11_1 (x0 : Addr) (x1 : Int32) (x2 : Int32) (x3 : Int32) (x4 : Int32) (m : MethodId) : entryFrame m #[(.ref x0), (.int x1), (.int x2), (.int x3), (.int x4)] 5 = mkF m 0 #[.val (.ref x0), .val (.int x1), .val (.int x2), .val (.int x3), .val (.int x4)] [] := by first | (simp [entryFrame, mkF, argsToLocals, Value.category]; done) | rfl
def Q11_1 (Z : State) (a : Addr) (p1 : Int32) (p2 : Int32) (p3 : Int32) (h0 : Heap) (n0 : Nat) : Option Value → Heap → Prop := fun v h => v = some (.int 1) ∧ h0 = h
set_option maxRecDepth 65536 in
set_option maxHeartbeats 40000000 in
theorem rm11_1 (l : Launch) (Z : State) (a0 : Array Value) (hw : ∀ d ∈ tables_1, d.before a0 Z = true) (a : Addr) (p1 : Int32) (p2 : Int32) (p3 : Int32) (h0 : Heap) (n0 : Nat) (Z0 : n0 ≤ h0.size) (V1 : Va Z h0 a .byte [(.int (byt p1))]) : Ctr l Z (⟨"com/example/stream_log_client/streamlogclient/protocol/HeaderValuePinLaw", "matches", "([BIIII)Z"⟩ : MethodName) method_5_code 5 (some .boolean) ({ frames := 0, cells := 0, slots := 0, locals := 0 } : Room) #[(.ref a), (.int (1 : Int32)), (.int p1), (.int p2), (.int p3)] h0 n0 (Q11_1 Z a p1 p2 p3 h0 n0) := by
  refine Ctr.of (plainFor_of_name pn_6) (ef_11_1 a (1 : Int32) p1 p2 p3) ?_
  intro p e s m below meth c T0 hx hby hml hown hnm hret hlk hZ X0 e0
  have N0 := Fr.nil n0
  refine g_aloadN X0 hx (hb hby d11_0) (pc' := 1) rfl rfl rfl ?_
  refine g_ifnull_n X0 hx (hb hby d11_1) (pc' := 4) rfl ?_
  refine g_aloadN X0 hx (hb hby d11_4) (pc' := 5) rfl rfl rfl ?_
  refine g_arraylength X0 hx hZ e0 V1 (z := (1 : Int32)) (hb hby d11_5) (pc' := 6) rfl rfl ?_
  refine g_iloadN X0 hx (hb hby d11_6) (pc' := 7) rfl rfl ?_
  refine g_icmp_eq X0 hx (hb hby d11_7) (pc1 := 10) rfl (by decide) (pc2 := 12) (by decide) (fun hc7 => ?_) (fun hc7 => absurd rfl hc7)
  refine g_iloadN X0 hx (hb hby d11_12) (pc' := 13) rfl rfl ?_
  refine g_if_le X0 hx (hb hby d11_13) (pc1 := 16) rfl (by decide) (pc2 := 26) (by decide) (fun hc13 => absurd (by decide) hc13) (fun hc13 => ?_)
  refine g_aloadN X0 hx (hb hby d11_16) (pc' := 17) rfl rfl rfl ?_
  refine g_iconst X0 hx (hb hby d11_17) (pc' := 18) rfl (z := (0 : Int32)) rfl ?_
  refine g_baload X0 hx hZ e0 V1 (i := 0) (v := (.int (byt p1))) (hb hby d11_18) (pc' := 19) rfl (by decide) rfl rfl ?_
  refine g_iloadN X0 hx (hb hby d11_19) (pc' := 20) rfl rfl ?_
  refine g_i2b X0 hx (hb hby d11_20) (pc' := 21) rfl ?_
  refine g_icmp_eq X0 hx (hb hby d11_21) (pc1 := 24) rfl (by decide) (pc2 := 26) (by decide) (fun hc21 => ?_) (fun hc21 => absurd rfl hc21)
  refine g_iloadN X0 hx (hb hby d11_26) (pc' := 27) rfl rfl ?_
  refine g_iconst X0 hx (hb hby d11_27) (pc' := 28) rfl (z := (1 : Int32)) rfl ?_
  refine g_icmp_le X0 hx (hb hby d11_28) (pc1 := 31) rfl (by decide) (pc2 := 41) (by decide) (fun hc28 => ?_) (fun hc28 => absurd hc28 (by decide))
  refine g_iloadN X0 hx (hb hby d11_41) (pc' := 42) rfl rfl ?_
  refine g_iconst X0 hx (hb hby d11_42) (pc' := 43) rfl (z := (2 : Int32)) rfl ?_
  refine g_icmp_le X0 hx (hb hby d11_43) (pc1 := 46) rfl (by decide) (pc2 := 57) (by decide) (fun hc43 => ?_) (fun hc43 => absurd hc43 (by decide))
  refine g_iconst X0 hx (hb hby d11_57) (pc' := 58) rfl (z := (1 : Int32)) rfl ?_
  exact g_zreturn X0 hx rfl hret (hb hby d11_58) N0 hlk (fun v t => endF (by decide) (by decide) v) (by rw [e0]; exact ⟨rfl, rfl⟩)
theorem d6_22 : decode method_3_code 22 = .ok (.iload_n 0, 1) := by decide +kernel
theorem d6_23 : decode method_3_code 23 = .ok (.iconst 2, 1) := by decide +kernel
theorem d6_24 : decode method_3_code 24 = .ok (.if_icmp .ne 17, 3) := by decide +kernel
theorem d6_27 : decode method_3_code 27 = .ok (.iconst 2, 1) := by decide +kernel
theorem d6_28 : decode method_3_code 28 = .ok (.newarray .byte, 2) := by decide +kernel
theorem d6_30 : decode method_3_code 30 = .ok (.dup, 1) := by decide +kernel
theorem d6_31 : decode method_3_code 31 = .ok (.iconst 0, 1) := by decide +kernel
theorem d6_32 : decode method_3_code 32 = .ok (.iload_n 1, 1) := by decide +kernel
theorem d6_33 : decode method_3_code 33 = .ok (.i2b, 1) := by decide +kernel
theorem d6_34 : decode method_3_code 34 = .ok (.bastore, 1) := by decide +kernel
theorem d6_35 : decode method_3_code 35 = .ok (.dup, 1) := by decide +kernel
theorem d6_36 : decode method_3_code 36 = .ok (.iconst 1, 1) := by decide +kernel
theorem d6_37 : decode method_3_code 37 = .ok (.iload_n 2, 1) := by decide +kernel
theorem d6_38 : decode method_3_code 38 = .ok (.i2b, 1) := by decide +kernel
theorem d6_39 : decode method_3_code 39 = .ok (.bastore, 1) := by decide +kernel
theorem d6_40 : decode method_3_code 40 = .ok (.areturn, 1) := by decide +kernel
theorem ef_6_2 (x0 : Int32) (x1 : Int32) (x2 : Int32) (x3 : Int32) (m : MethodId) : entryFrame m #[(.int x0), (.int x1), (.int x2), (.int x3)] 4 = mkF m 0 #[.val (.int x0), .val (.int x1), .val (.int x2), .val (.int x3)] [] := by first | (simp [entryFrame, mkF, argsToLocals, Value.category]; done) | rfl
def Q6_2 (Z : State) (p1 : Int32) (p2 : Int32) (p3 : Int32) (h0 : Heap) (n0 : Nat) : Option Value → Heap → Prop := fun v h => ∃ r, v = some (.ref r) ∧ n0 ≤ r ∧ h0.size ≤ r ∧ Keep h0 h [] ∧ Va Z h r .byte [(.int (byt p1)), (.int (byt p2))] ∧ Exa Z h r "[B"
set_option maxRecDepth 65536 in
set_option maxHeartbeats 40000000 in
theorem rm6_2 (l : Launch) (Z : State) (a0 : Array Value) (hw : ∀ d ∈ tables_1, d.before a0 Z = true) (p1 : Int32) (p2 : Int32) (p3 : Int32) (h0 : Heap) (n0 : Nat) (Z0 : n0 ≤ h0.size) : Ctr l Z (⟨"com/example/stream_log_client/streamlogclient/protocol/HeaderValuePinLaw", "mk", "(IIII)[B"⟩ : MethodName) method_3_code 4 (some (.array .byte)) ({ frames := 0, cells := 1, slots := 2, locals := 0 } : Room) #[(.int (2 : Int32)), (.int p1), (.int p2), (.int p3)] h0 n0 (Q6_2 Z p1 p2 p3 h0 n0) := by
  refine Ctr.of (plainFor_of_name pn_6) (ef_6_2 (2 : Int32) p1 p2 p3) ?_
  intro p e s m below meth c T0 hx hby hml hown hnm hret hlk hZ X0 e0
  have N0 := Fr.nil n0
  refine g_iloadN X0 hx (hb hby d6_0) (pc' := 1) rfl rfl ?_
  refine g_if_ne X0 hx (hb hby d6_1) (pc1 := 4) rfl (by decide) (pc2 := 8) (by decide) (fun hc1 => ?_) (fun hc1 => absurd hc1 (by decide))
  refine g_iloadN X0 hx (hb hby d6_8) (pc' := 9) rfl rfl ?_
  refine g_iconst X0 hx (hb hby d6_9) (pc' := 10) rfl (z := (1 : Int32)) rfl ?_
  refine g_icmp_ne X0 hx (hb hby d6_10) (pc1 := 13) rfl (by decide) (pc2 := 22) (by decide) (fun hc10 => ?_) (fun hc10 => absurd hc10 (by decide))
  refine g_iloadN X0 hx (hb hby d6_22) (pc' := 23) rfl rfl ?_
  refine g_iconst X0 hx (hb hby d6_23) (pc' := 24) rfl (z := (2 : Int32)) rfl ?_
  refine g_icmp_ne X0 hx (hb hby d6_24) (pc1 := 27) rfl (by decide) (pc2 := 41) (by decide) (fun hc24 => absurd (by decide) hc24) (fun hc24 => ?_)
  refine g_iconst X0 hx (hb hby d6_27) (pc' := 28) rfl (z := (2 : Int32)) rfl ?_
  obtain ⟨T71, h71, b71, X71, e71, g71, E71, V71, A71, st71⟩ := h_newarray X0 hx hZ e0 (n := (2 : Int32)) (ty := .byte) rfl (hw _ (List.mem_of_getElem? (i := 14) rfl)) (hb hby d6_28) (k := 2) (cap := 2) (by decide) rfl (by decide) (by decide) (by decide) (by decide) (ad := "[B") (by decide) #[.val (.int (2 : Int32)), .val (.int p1), .val (.int p2), .val (.int p3)] []
  have ge72 : n0 ≤ b71 := g71 ▸ Z0
  have sz73 : h0.size ≤ b71 := g71 ▸ (Keep.refl h0 []).1
  have Z74 : n0 ≤ h71.size := Nat.le_trans Z0 E71.1
  have K75 := (Keep.refl h0 []).ext E71
  have f76 : Va Z h71 b71 .byte [(.int (0 : Int32)), (.int (0 : Int32))] := V71
  refine Go.movp st71 (mkF m 30 #[.val (.int (2 : Int32)), .val (.int p1), .val (.int p2), .val (.int p3)] [(.ref b71)]) rfl ?_
  refine g_dup X71 hx (hb hby d6_30) (pc' := 31) rfl rfl ?_
  refine g_iconst X71 hx (hb hby d6_31) (pc' := 32) rfl (z := (0 : Int32)) rfl ?_
  refine g_iloadN X71 hx (hb hby d6_32) (pc' := 33) rfl rfl ?_
  refine g_i2b X71 hx (hb hby d6_33) (pc' := 34) rfl ?_
  obtain ⟨T77, h77, L77, X77, e77, N77, W77, V77, st77⟩ := h_bastore X71 hx hZ e71 N0 f76 ge72 (j := (0 : Int32)) (i := 0) (x := (byt p1)) (hb hby d6_34) (by decide) rfl rfl #[.val (.int (2 : Int32)), .val (.int p1), .val (.int p2), .val (.int p3)] [(.ref b71)]
  have f78 := Exa.wr W77 A71
  have Z79 : n0 ≤ h77.size := Nat.le_trans Z74 (Keep.of_wr W77).1
  have K80 := K75.wr W77 (Or.inr sz73)
  have f81 : Va Z h77 b71 .byte [(.int (byt (byt p1))), (.int (0 : Int32))] := V77
  have f82 : Va Z h77 b71 .byte [(.int (byt p1)), (.int (0 : Int32))] := by rw [show (byt (byt p1)) = (byt p1) from byt_byt _] at f81; exact f81
  refine Go.movp st77 (mkF m 35 #[.val (.int (2 : Int32)), .val (.int p1), .val (.int p2), .val (.int p3)] [(.ref b71)]) rfl ?_
  refine g_dup X77 hx (hb hby d6_35) (pc' := 36) rfl rfl ?_
  refine g_iconst X77 hx (hb hby d6_36) (pc' := 37) rfl (z := (1 : Int32)) rfl ?_
  refine g_iloadN X77 hx (hb hby d6_37) (pc' := 38) rfl rfl ?_
  refine g_i2b X77 hx (hb hby d6_38) (pc' := 39) rfl ?_
  obtain ⟨T83, h83, L83, X83, e83, N83, W83, V83, st83⟩ := h_bastore X77 hx hZ e77 N77 f82 ge72 (j := (1 : Int32)) (i := 1) (x := (byt p2)) (hb hby d6_39) (by decide) rfl rfl #[.val (.int (2 : Int32)), .val (.int p1), .val (.int p2), .val (.int p3)] [(.ref b71)]
  have f84 := Exa.wr W83 f78
  have Z85 : n0 ≤ h83.size := Nat.le_trans Z79 (Keep.of_wr W83).1
  have K86 := K80.wr W83 (Or.inr sz73)
  have f87 : Va Z h83 b71 .byte [(.int (byt p1)), (.int (byt (byt p2)))] := V83
  have f88 : Va Z h83 b71 .byte [(.int (byt p1)), (.int (byt p2))] := by rw [show (byt (byt p2)) = (byt p2) from byt_byt _] at f87; exact f87
  refine Go.movp st83 (mkF m 40 #[.val (.int (2 : Int32)), .val (.int p1), .val (.int p2), .val (.int p3)] [(.ref b71)]) rfl ?_
  exact g_areturn X83 hx rfl rfl hret (hb hby d6_40) N83 hlk (fun v t => endF (by decide) (by decide) v) (by rw [e83]; exact ⟨_, rfl, ge72, sz73, K86, f88, f84⟩)
theorem d9_18 : decode method_4_code 18 = .ok (.aload_n 0, 1) := by decide +kernel
theorem d9_19 : decode method_4_code 19 = .ok (.iconst 1, 1) := by decide +kernel
theorem d9_20 : decode method_4_code 20 = .ok (.aload_n 0, 1) := by decide +kernel
theorem d9_21 : decode method_4_code 21 = .ok (.iconst 1, 1) := by decide +kernel
theorem d9_22 : decode method_4_code 22 = .ok (.baload, 1) := by decide +kernel
theorem d9_23 : decode method_4_code 23 = .ok (.iconst 1, 1) := by decide +kernel
theorem d9_24 : decode method_4_code 24 = .ok (.ixor, 1) := by decide +kernel
theorem d9_25 : decode method_4_code 25 = .ok (.i2b, 1) := by decide +kernel
theorem d9_26 : decode method_4_code 26 = .ok (.bastore, 1) := by decide +kernel
theorem ef_9_2 (x0 : Addr) (x1 : Int32) (m : MethodId) : entryFrame m #[(.ref x0), (.int x1)] 2 = mkF m 0 #[.val (.ref x0), .val (.int x1)] [] := by first | (simp [entryFrame, mkF, argsToLocals, Value.category]; done) | rfl
def Q9_2 (Z : State) (a : Addr) (x0 : Int32) (x1 : Int32) (h0 : Heap) (n0 : Nat) : Option Value → Heap → Prop := fun v h => v = none ∧ Keep h0 h [a] ∧ Va Z h a .byte [(.int (byt (x0 ^^^ (1 : Int32)))), (.int (byt (x1 ^^^ (1 : Int32))))]
set_option maxRecDepth 65536 in
set_option maxHeartbeats 40000000 in
theorem rm9_2 (l : Launch) (Z : State) (a0 : Array Value) (hw : ∀ d ∈ tables_1, d.before a0 Z = true) (a : Addr) (x0 : Int32) (x1 : Int32) (h0 : Heap) (n0 : Nat) (Z0 : n0 ≤ h0.size) (V1 : Va Z h0 a .byte [(.int x0), (.int x1)]) (G1 : n0 ≤ a) : Ctr l Z (⟨"com/example/stream_log_client/streamlogclient/protocol/HeaderValuePinLaw", "flip", "([BI)V"⟩ : MethodName) method_4_code 2 none ({ frames := 0, cells := 0, slots := 0, locals := 0 } : Room) #[(.ref a), (.int (2 : Int32))] h0 n0 (Q9_2 Z a x0 x1 h0 n0) := by
  refine Ctr.of (plainFor_of_name pn_6) (ef_9_2 a (2 : Int32)) ?_
  intro p e s m below meth c T0 hx hby hml hown hnm hret hlk hZ X0 e0
  have N0 := Fr.nil n0
  refine g_iloadN X0 hx (hb hby d9_0) (pc' := 1) rfl rfl ?_
  refine g_if_le X0 hx (hb hby d9_1) (pc1 := 4) rfl (by decide) (pc2 := 13) (by decide) (fun hc1 => absurd (by decide) hc1) (fun hc1 => ?_)
  refine g_aloadN X0 hx (hb hby d9_4) (pc' := 5) rfl rfl rfl ?_
  refine g_iconst X0 hx (hb hby d9_5) (pc' := 6) rfl (z := (0 : Int32)) rfl ?_
  refine g_aloadN X0 hx (hb hby d9_6) (pc' := 7) rfl rfl rfl ?_
  refine g_iconst X0 hx (hb hby d9_7) (pc' := 8) rfl (z := (0 : Int32)) rfl ?_
  refine g_baload X0 hx hZ e0 V1 (i := 0) (v := (.int x0)) (hb hby d9_8) (pc' := 9) rfl (by decide) rfl rfl ?_
  refine g_iconst X0 hx (hb hby d9_9) (pc' := 10) rfl (z := (1 : Int32)) rfl ?_
  refine g_ixor X0 hx (hb hby d9_10) (pc' := 11) rfl ?_
  refine g_i2b X0 hx (hb hby d9_11) (pc' := 12) rfl ?_
  obtain ⟨T89, h89, L89, X89, e89, N89, W89, V89, st89⟩ := h_bastore X0 hx hZ e0 N0 V1 G1 (j := (0 : Int32)) (i := 0) (x := (byt (x0 ^^^ (1 : Int32)))) (hb hby d9_12) (by decide) rfl rfl #[.val (.ref a), .val (.int (2 : Int32))] []
  have Z90 : n0 ≤ h89.size := Nat.le_trans Z0 (Keep.of_wr W89).1
  have K91 := (Keep.refl h0 [a]).wr W89 (Or.inl (List.mem_of_getElem? (i := 0) rfl))
  have f92 : Va Z h89 a .byte [(.int (byt (byt (x0 ^^^ (1 : Int32))))), (.int x1)] := V89
  have f93 : Va Z h89 a .byte [(.int (byt (x0 ^^^ (1 : Int32)))), (.int x1)] := by rw [show (byt (byt (x0 ^^^ (1 : Int32)))) = (byt (x0 ^^^ (1 : Int32))) from byt_byt _] at f92; exact f92
  refine Go.movp st89 (mkF m 13 #[.val (.ref a), .val (.int (2 : Int32))] []) rfl ?_
  refine g_iloadN X89 hx (hb hby d9_13) (pc' := 14) rfl rfl ?_
  refine g_iconst X89 hx (hb hby d9_14) (pc' := 15) rfl (z := (1 : Int32)) rfl ?_
  refine g_icmp_le X89 hx (hb hby d9_15) (pc1 := 18) rfl (by decide) (pc2 := 27) (by decide) (fun hc15 => absurd (by decide) hc15) (fun hc15 => ?_)
  refine g_aloadN X89 hx (hb hby d9_18) (pc' := 19) rfl rfl rfl ?_
  refine g_iconst X89 hx (hb hby d9_19) (pc' := 20) rfl (z := (1 : Int32)) rfl ?_
  refine g_aloadN X89 hx (hb hby d9_20) (pc' := 21) rfl rfl rfl ?_
  refine g_iconst X89 hx (hb hby d9_21) (pc' := 22) rfl (z := (1 : Int32)) rfl ?_
  refine g_baload X89 hx hZ e89 f93 (i := 1) (v := (.int x1)) (hb hby d9_22) (pc' := 23) rfl (by decide) rfl rfl ?_
  refine g_iconst X89 hx (hb hby d9_23) (pc' := 24) rfl (z := (1 : Int32)) rfl ?_
  refine g_ixor X89 hx (hb hby d9_24) (pc' := 25) rfl ?_
  refine g_i2b X89 hx (hb hby d9_25) (pc' := 26) rfl ?_
  obtain ⟨T94, h94, L94, X94, e94, N94, W94, V94, st94⟩ := h_bastore X89 hx hZ e89 N89 f93 G1 (j := (1 : Int32)) (i := 1) (x := (byt (x1 ^^^ (1 : Int32)))) (hb hby d9_26) (by decide) rfl rfl #[.val (.ref a), .val (.int (2 : Int32))] []
  have Z95 : n0 ≤ h94.size := Nat.le_trans Z90 (Keep.of_wr W94).1
  have K96 := K91.wr W94 (Or.inl (List.mem_of_getElem? (i := 0) rfl))
  have f97 : Va Z h94 a .byte [(.int (byt (x0 ^^^ (1 : Int32)))), (.int (byt (byt (x1 ^^^ (1 : Int32)))))] := V94
  have f98 : Va Z h94 a .byte [(.int (byt (x0 ^^^ (1 : Int32)))), (.int (byt (x1 ^^^ (1 : Int32))))] := by rw [show (byt (byt (x1 ^^^ (1 : Int32)))) = (byt (x1 ^^^ (1 : Int32))) from byt_byt _] at f97; exact f97
  refine Go.movp st94 (mkF m 27 #[.val (.ref a), .val (.int (2 : Int32))] []) rfl ?_
  refine g_iloadN X94 hx (hb hby d9_27) (pc' := 28) rfl rfl ?_
  refine g_iconst X94 hx (hb hby d9_28) (pc' := 29) rfl (z := (2 : Int32)) rfl ?_
  refine g_icmp_le X94 hx (hb hby d9_29) (pc1 := 32) rfl (by decide) (pc2 := 41) (by decide) (fun hc29 => ?_) (fun hc29 => absurd hc29 (by decide))
  exact g_return X94 hx hret (hb hby d9_41) N94 hlk (fun v t => endF (by decide) (by decide) v) (by rw [e94]; exact ⟨rfl, K96, f98⟩)
theorem d11_31 : decode method_5_code 31 = .ok (.aload_n 0, 1) := by decide +kernel
theorem d11_32 : decode method_5_code 32 = .ok (.iconst 1, 1) := by decide +kernel
theorem d11_33 : decode method_5_code 33 = .ok (.baload, 1) := by decide +kernel
theorem d11_34 : decode method_5_code 34 = .ok (.iload_n 3, 1) := by decide +kernel
theorem d11_35 : decode method_5_code 35 = .ok (.i2b, 1) := by decide +kernel
theorem d11_36 : decode method_5_code 36 = .ok (.if_icmp .eq 5, 3) := by decide +kernel
theorem ef_11_2 (x0 : Addr) (x1 : Int32) (x2 : Int32) (x3 : Int32) (x4 : Int32) (m : MethodId) : entryFrame m #[(.ref x0), (.int x1), (.int x2), (.int x3), (.int x4)] 5 = mkF m 0 #[.val (.ref x0), .val (.int x1), .val (.int x2), .val (.int x3), .val (.int x4)] [] := by first | (simp [entryFrame, mkF, argsToLocals, Value.category]; done) | rfl
def Q11_2 (Z : State) (a : Addr) (p1 : Int32) (p2 : Int32) (p3 : Int32) (h0 : Heap) (n0 : Nat) : Option Value → Heap → Prop := fun v h => v = some (.int 1) ∧ h0 = h
set_option maxRecDepth 65536 in
set_option maxHeartbeats 40000000 in
theorem rm11_2 (l : Launch) (Z : State) (a0 : Array Value) (hw : ∀ d ∈ tables_1, d.before a0 Z = true) (a : Addr) (p1 : Int32) (p2 : Int32) (p3 : Int32) (h0 : Heap) (n0 : Nat) (Z0 : n0 ≤ h0.size) (V1 : Va Z h0 a .byte [(.int (byt p1)), (.int (byt p2))]) : Ctr l Z (⟨"com/example/stream_log_client/streamlogclient/protocol/HeaderValuePinLaw", "matches", "([BIIII)Z"⟩ : MethodName) method_5_code 5 (some .boolean) ({ frames := 0, cells := 0, slots := 0, locals := 0 } : Room) #[(.ref a), (.int (2 : Int32)), (.int p1), (.int p2), (.int p3)] h0 n0 (Q11_2 Z a p1 p2 p3 h0 n0) := by
  refine Ctr.of (plainFor_of_name pn_6) (ef_11_2 a (2 : Int32) p1 p2 p3) ?_
  intro p e s m below meth c T0 hx hby hml hown hnm hret hlk hZ X0 e0
  have N0 := Fr.nil n0
  refine g_aloadN X0 hx (hb hby d11_0) (pc' := 1) rfl rfl rfl ?_
  refine g_ifnull_n X0 hx (hb hby d11_1) (pc' := 4) rfl ?_
  refine g_aloadN X0 hx (hb hby d11_4) (pc' := 5) rfl rfl rfl ?_
  refine g_arraylength X0 hx hZ e0 V1 (z := (2 : Int32)) (hb hby d11_5) (pc' := 6) rfl rfl ?_
  refine g_iloadN X0 hx (hb hby d11_6) (pc' := 7) rfl rfl ?_
  refine g_icmp_eq X0 hx (hb hby d11_7) (pc1 := 10) rfl (by decide) (pc2 := 12) (by decide) (fun hc7 => ?_) (fun hc7 => absurd rfl hc7)
  refine g_iloadN X0 hx (hb hby d11_12) (pc' := 13) rfl rfl ?_
  refine g_if_le X0 hx (hb hby d11_13) (pc1 := 16) rfl (by decide) (pc2 := 26) (by decide) (fun hc13 => absurd (by decide) hc13) (fun hc13 => ?_)
  refine g_aloadN X0 hx (hb hby d11_16) (pc' := 17) rfl rfl rfl ?_
  refine g_iconst X0 hx (hb hby d11_17) (pc' := 18) rfl (z := (0 : Int32)) rfl ?_
  refine g_baload X0 hx hZ e0 V1 (i := 0) (v := (.int (byt p1))) (hb hby d11_18) (pc' := 19) rfl (by decide) rfl rfl ?_
  refine g_iloadN X0 hx (hb hby d11_19) (pc' := 20) rfl rfl ?_
  refine g_i2b X0 hx (hb hby d11_20) (pc' := 21) rfl ?_
  refine g_icmp_eq X0 hx (hb hby d11_21) (pc1 := 24) rfl (by decide) (pc2 := 26) (by decide) (fun hc21 => ?_) (fun hc21 => absurd rfl hc21)
  refine g_iloadN X0 hx (hb hby d11_26) (pc' := 27) rfl rfl ?_
  refine g_iconst X0 hx (hb hby d11_27) (pc' := 28) rfl (z := (1 : Int32)) rfl ?_
  refine g_icmp_le X0 hx (hb hby d11_28) (pc1 := 31) rfl (by decide) (pc2 := 41) (by decide) (fun hc28 => absurd (by decide) hc28) (fun hc28 => ?_)
  refine g_aloadN X0 hx (hb hby d11_31) (pc' := 32) rfl rfl rfl ?_
  refine g_iconst X0 hx (hb hby d11_32) (pc' := 33) rfl (z := (1 : Int32)) rfl ?_
  refine g_baload X0 hx hZ e0 V1 (i := 1) (v := (.int (byt p2))) (hb hby d11_33) (pc' := 34) rfl (by decide) rfl rfl ?_
  refine g_iloadN X0 hx (hb hby d11_34) (pc' := 35) rfl rfl ?_
  refine g_i2b X0 hx (hb hby d11_35) (pc' := 36) rfl ?_
  refine g_icmp_eq X0 hx (hb hby d11_36) (pc1 := 39) rfl (by decide) (pc2 := 41) (by decide) (fun hc36 => ?_) (fun hc36 => absurd rfl hc36)
  refine g_iloadN X0 hx (hb hby d11_41) (pc' := 42) rfl rfl ?_
  refine g_iconst X0 hx (hb hby d11_42) (pc' := 43) rfl (z := (2 : Int32)) rfl ?_
  refine g_icmp_le X0 hx (hb hby d11_43) (pc1 := 46) rfl (by decide) (pc2 := 57) (by decide) (fun hc43 => ?_) (fun hc43 => absurd hc43 (by decide))
  refine g_iconst X0 hx (hb hby d11_57) (pc' := 58) rfl (z := (1 : Int32)) rfl ?_
  exact g_zreturn X0 hx rfl hret (hb hby d11_58) N0 hlk (fun v t => endF (by decide) (by decide) v) (by rw [e0]; exact ⟨rfl, rfl⟩)
theorem d6_41 : decode method_3_code 41 = .ok (.iconst 3, 1) := by decide +kernel
theorem d6_42 : decode method_3_code 42 = .ok (.newarray .byte, 2) := by decide +kernel
theorem d6_44 : decode method_3_code 44 = .ok (.dup, 1) := by decide +kernel
theorem d6_45 : decode method_3_code 45 = .ok (.iconst 0, 1) := by decide +kernel
theorem d6_46 : decode method_3_code 46 = .ok (.iload_n 1, 1) := by decide +kernel
theorem d6_47 : decode method_3_code 47 = .ok (.i2b, 1) := by decide +kernel
theorem d6_48 : decode method_3_code 48 = .ok (.bastore, 1) := by decide +kernel
theorem d6_49 : decode method_3_code 49 = .ok (.dup, 1) := by decide +kernel
theorem d6_50 : decode method_3_code 50 = .ok (.iconst 1, 1) := by decide +kernel
theorem d6_51 : decode method_3_code 51 = .ok (.iload_n 2, 1) := by decide +kernel
theorem d6_52 : decode method_3_code 52 = .ok (.i2b, 1) := by decide +kernel
theorem d6_53 : decode method_3_code 53 = .ok (.bastore, 1) := by decide +kernel
theorem d6_54 : decode method_3_code 54 = .ok (.dup, 1) := by decide +kernel
theorem d6_55 : decode method_3_code 55 = .ok (.iconst 2, 1) := by decide +kernel
theorem d6_56 : decode method_3_code 56 = .ok (.iload_n 3, 1) := by decide +kernel
theorem d6_57 : decode method_3_code 57 = .ok (.i2b, 1) := by decide +kernel
theorem d6_58 : decode method_3_code 58 = .ok (.bastore, 1) := by decide +kernel
theorem d6_59 : decode method_3_code 59 = .ok (.areturn, 1) := by decide +kernel
theorem ef_6_3 (x0 : Int32) (x1 : Int32) (x2 : Int32) (x3 : Int32) (m : MethodId) : entryFrame m #[(.int x0), (.int x1), (.int x2), (.int x3)] 4 = mkF m 0 #[.val (.int x0), .val (.int x1), .val (.int x2), .val (.int x3)] [] := by first | (simp [entryFrame, mkF, argsToLocals, Value.category]; done) | rfl
def Q6_3 (Z : State) (p1 : Int32) (p2 : Int32) (p3 : Int32) (h0 : Heap) (n0 : Nat) : Option Value → Heap → Prop := fun v h => ∃ r, v = some (.ref r) ∧ n0 ≤ r ∧ h0.size ≤ r ∧ Keep h0 h [] ∧ Va Z h r .byte [(.int (byt p1)), (.int (byt p2)), (.int (byt p3))] ∧ Exa Z h r "[B"
set_option maxRecDepth 65536 in
set_option maxHeartbeats 40000000 in
theorem rm6_3 (l : Launch) (Z : State) (a0 : Array Value) (hw : ∀ d ∈ tables_1, d.before a0 Z = true) (p1 : Int32) (p2 : Int32) (p3 : Int32) (h0 : Heap) (n0 : Nat) (Z0 : n0 ≤ h0.size) : Ctr l Z (⟨"com/example/stream_log_client/streamlogclient/protocol/HeaderValuePinLaw", "mk", "(IIII)[B"⟩ : MethodName) method_3_code 4 (some (.array .byte)) ({ frames := 0, cells := 1, slots := 3, locals := 0 } : Room) #[(.int (3 : Int32)), (.int p1), (.int p2), (.int p3)] h0 n0 (Q6_3 Z p1 p2 p3 h0 n0) := by
  refine Ctr.of (plainFor_of_name pn_6) (ef_6_3 (3 : Int32) p1 p2 p3) ?_
  intro p e s m below meth c T0 hx hby hml hown hnm hret hlk hZ X0 e0
  have N0 := Fr.nil n0
  refine g_iloadN X0 hx (hb hby d6_0) (pc' := 1) rfl rfl ?_
  refine g_if_ne X0 hx (hb hby d6_1) (pc1 := 4) rfl (by decide) (pc2 := 8) (by decide) (fun hc1 => ?_) (fun hc1 => absurd hc1 (by decide))
  refine g_iloadN X0 hx (hb hby d6_8) (pc' := 9) rfl rfl ?_
  refine g_iconst X0 hx (hb hby d6_9) (pc' := 10) rfl (z := (1 : Int32)) rfl ?_
  refine g_icmp_ne X0 hx (hb hby d6_10) (pc1 := 13) rfl (by decide) (pc2 := 22) (by decide) (fun hc10 => ?_) (fun hc10 => absurd hc10 (by decide))
  refine g_iloadN X0 hx (hb hby d6_22) (pc' := 23) rfl rfl ?_
  refine g_iconst X0 hx (hb hby d6_23) (pc' := 24) rfl (z := (2 : Int32)) rfl ?_
  refine g_icmp_ne X0 hx (hb hby d6_24) (pc1 := 27) rfl (by decide) (pc2 := 41) (by decide) (fun hc24 => ?_) (fun hc24 => absurd hc24 (by decide))
  refine g_iconst X0 hx (hb hby d6_41) (pc' := 42) rfl (z := (3 : Int32)) rfl ?_
  obtain ⟨T99, h99, b99, X99, e99, g99, E99, V99, A99, st99⟩ := h_newarray X0 hx hZ e0 (n := (3 : Int32)) (ty := .byte) rfl (hw _ (List.mem_of_getElem? (i := 14) rfl)) (hb hby d6_42) (k := 3) (cap := 3) (by decide) rfl (by decide) (by decide) (by decide) (by decide) (ad := "[B") (by decide) #[.val (.int (3 : Int32)), .val (.int p1), .val (.int p2), .val (.int p3)] []
  have ge100 : n0 ≤ b99 := g99 ▸ Z0
  have sz101 : h0.size ≤ b99 := g99 ▸ (Keep.refl h0 []).1
  have Z102 : n0 ≤ h99.size := Nat.le_trans Z0 E99.1
  have K103 := (Keep.refl h0 []).ext E99
  have f104 : Va Z h99 b99 .byte [(.int (0 : Int32)), (.int (0 : Int32)), (.int (0 : Int32))] := V99
  refine Go.movp st99 (mkF m 44 #[.val (.int (3 : Int32)), .val (.int p1), .val (.int p2), .val (.int p3)] [(.ref b99)]) rfl ?_
  refine g_dup X99 hx (hb hby d6_44) (pc' := 45) rfl rfl ?_
  refine g_iconst X99 hx (hb hby d6_45) (pc' := 46) rfl (z := (0 : Int32)) rfl ?_
  refine g_iloadN X99 hx (hb hby d6_46) (pc' := 47) rfl rfl ?_
  refine g_i2b X99 hx (hb hby d6_47) (pc' := 48) rfl ?_
  obtain ⟨T105, h105, L105, X105, e105, N105, W105, V105, st105⟩ := h_bastore X99 hx hZ e99 N0 f104 ge100 (j := (0 : Int32)) (i := 0) (x := (byt p1)) (hb hby d6_48) (by decide) rfl rfl #[.val (.int (3 : Int32)), .val (.int p1), .val (.int p2), .val (.int p3)] [(.ref b99)]
  have f106 := Exa.wr W105 A99
  have Z107 : n0 ≤ h105.size := Nat.le_trans Z102 (Keep.of_wr W105).1
  have K108 := K103.wr W105 (Or.inr sz101)
  have f109 : Va Z h105 b99 .byte [(.int (byt (byt p1))), (.int (0 : Int32)), (.int (0 : Int32))] := V105
  have f110 : Va Z h105 b99 .byte [(.int (byt p1)), (.int (0 : Int32)), (.int (0 : Int32))] := by rw [show (byt (byt p1)) = (byt p1) from byt_byt _] at f109; exact f109
  refine Go.movp st105 (mkF m 49 #[.val (.int (3 : Int32)), .val (.int p1), .val (.int p2), .val (.int p3)] [(.ref b99)]) rfl ?_
  refine g_dup X105 hx (hb hby d6_49) (pc' := 50) rfl rfl ?_
  refine g_iconst X105 hx (hb hby d6_50) (pc' := 51) rfl (z := (1 : Int32)) rfl ?_
  refine g_iloadN X105 hx (hb hby d6_51) (pc' := 52) rfl rfl ?_
  refine g_i2b X105 hx (hb hby d6_52) (pc' := 53) rfl ?_
  obtain ⟨T111, h111, L111, X111, e111, N111, W111, V111, st111⟩ := h_bastore X105 hx hZ e105 N105 f110 ge100 (j := (1 : Int32)) (i := 1) (x := (byt p2)) (hb hby d6_53) (by decide) rfl rfl #[.val (.int (3 : Int32)), .val (.int p1), .val (.int p2), .val (.int p3)] [(.ref b99)]
  have f112 := Exa.wr W111 f106
  have Z113 : n0 ≤ h111.size := Nat.le_trans Z107 (Keep.of_wr W111).1
  have K114 := K108.wr W111 (Or.inr sz101)
  have f115 : Va Z h111 b99 .byte [(.int (byt p1)), (.int (byt (byt p2))), (.int (0 : Int32))] := V111
  have f116 : Va Z h111 b99 .byte [(.int (byt p1)), (.int (byt p2)), (.int (0 : Int32))] := by rw [show (byt (byt p2)) = (byt p2) from byt_byt _] at f115; exact f115
  refine Go.movp st111 (mkF m 54 #[.val (.int (3 : Int32)), .val (.int p1), .val (.int p2), .val (.int p3)] [(.ref b99)]) rfl ?_
  refine g_dup X111 hx (hb hby d6_54) (pc' := 55) rfl rfl ?_
  refine g_iconst X111 hx (hb hby d6_55) (pc' := 56) rfl (z := (2 : Int32)) rfl ?_
  refine g_iloadN X111 hx (hb hby d6_56) (pc' := 57) rfl rfl ?_
  refine g_i2b X111 hx (hb hby d6_57) (pc' := 58) rfl ?_
  obtain ⟨T117, h117, L117, X117, e117, N117, W117, V117, st117⟩ := h_bastore X111 hx hZ e111 N111 f116 ge100 (j := (2 : Int32)) (i := 2) (x := (byt p3)) (hb hby d6_58) (by decide) rfl rfl #[.val (.int (3 : Int32)), .val (.int p1), .val (.int p2), .val (.int p3)] [(.ref b99)]
  have f118 := Exa.wr W117 f112
  have Z119 : n0 ≤ h117.size := Nat.le_trans Z113 (Keep.of_wr W117).1
  have K120 := K114.wr W117 (Or.inr sz101)
  have f121 : Va Z h117 b99 .byte [(.int (byt p1)), (.int (byt p2)), (.int (byt (byt p3)))] := V117
  have f122 : Va Z h117 b99 .byte [(.int (byt p1)), (.int (byt p2)), (.int (byt p3))] := by rw [show (byt (byt p3)) = (byt p3) from byt_byt _] at f121; exact f121
  refine Go.movp st117 (mkF m 59 #[.val (.int (3 : Int32)), .val (.int p1), .val (.int p2), .val (.int p3)] [(.ref b99)]) rfl ?_
  exact g_areturn X117 hx rfl rfl hret (hb hby d6_59) N117 hlk (fun v t => endF (by decide) (by decide) v) (by rw [e117]; exact ⟨_, rfl, ge100, sz101, K120, f122, f118⟩)
theorem d9_32 : decode method_4_code 32 = .ok (.aload_n 0, 1) := by decide +kernel
theorem d9_33 : decode method_4_code 33 = .ok (.iconst 2, 1) := by decide +kernel
theorem d9_34 : decode method_4_code 34 = .ok (.aload_n 0, 1) := by decide +kernel
theorem d9_35 : decode method_4_code 35 = .ok (.iconst 2, 1) := by decide +kernel
theorem d9_36 : decode method_4_code 36 = .ok (.baload, 1) := by decide +kernel
theorem d9_37 : decode method_4_code 37 = .ok (.iconst 1, 1) := by decide +kernel
theorem d9_38 : decode method_4_code 38 = .ok (.ixor, 1) := by decide +kernel
theorem d9_39 : decode method_4_code 39 = .ok (.i2b, 1) := by decide +kernel
theorem d9_40 : decode method_4_code 40 = .ok (.bastore, 1) := by decide +kernel
theorem ef_9_3 (x0 : Addr) (x1 : Int32) (m : MethodId) : entryFrame m #[(.ref x0), (.int x1)] 2 = mkF m 0 #[.val (.ref x0), .val (.int x1)] [] := by first | (simp [entryFrame, mkF, argsToLocals, Value.category]; done) | rfl
def Q9_3 (Z : State) (a : Addr) (x0 : Int32) (x1 : Int32) (x2 : Int32) (h0 : Heap) (n0 : Nat) : Option Value → Heap → Prop := fun v h => v = none ∧ Keep h0 h [a] ∧ Va Z h a .byte [(.int (byt (x0 ^^^ (1 : Int32)))), (.int (byt (x1 ^^^ (1 : Int32)))), (.int (byt (x2 ^^^ (1 : Int32))))]
set_option maxRecDepth 65536 in
set_option maxHeartbeats 40000000 in
theorem rm9_3 (l : Launch) (Z : State) (a0 : Array Value) (hw : ∀ d ∈ tables_1, d.before a0 Z = true) (a : Addr) (x0 : Int32) (x1 : Int32) (x2 : Int32) (h0 : Heap) (n0 : Nat) (Z0 : n0 ≤ h0.size) (V1 : Va Z h0 a .byte [(.int x0), (.int x1), (.int x2)]) (G1 : n0 ≤ a) : Ctr l Z (⟨"com/example/stream_log_client/streamlogclient/protocol/HeaderValuePinLaw", "flip", "([BI)V"⟩ : MethodName) method_4_code 2 none ({ frames := 0, cells := 0, slots := 0, locals := 0 } : Room) #[(.ref a), (.int (3 : Int32))] h0 n0 (Q9_3 Z a x0 x1 x2 h0 n0) := by
  refine Ctr.of (plainFor_of_name pn_6) (ef_9_3 a (3 : Int32)) ?_
  intro p e s m below meth c T0 hx hby hml hown hnm hret hlk hZ X0 e0
  have N0 := Fr.nil n0
  refine g_iloadN X0 hx (hb hby d9_0) (pc' := 1) rfl rfl ?_
  refine g_if_le X0 hx (hb hby d9_1) (pc1 := 4) rfl (by decide) (pc2 := 13) (by decide) (fun hc1 => absurd (by decide) hc1) (fun hc1 => ?_)
  refine g_aloadN X0 hx (hb hby d9_4) (pc' := 5) rfl rfl rfl ?_
  refine g_iconst X0 hx (hb hby d9_5) (pc' := 6) rfl (z := (0 : Int32)) rfl ?_
  refine g_aloadN X0 hx (hb hby d9_6) (pc' := 7) rfl rfl rfl ?_
  refine g_iconst X0 hx (hb hby d9_7) (pc' := 8) rfl (z := (0 : Int32)) rfl ?_
  refine g_baload X0 hx hZ e0 V1 (i := 0) (v := (.int x0)) (hb hby d9_8) (pc' := 9) rfl (by decide) rfl rfl ?_
  refine g_iconst X0 hx (hb hby d9_9) (pc' := 10) rfl (z := (1 : Int32)) rfl ?_
  refine g_ixor X0 hx (hb hby d9_10) (pc' := 11) rfl ?_
  refine g_i2b X0 hx (hb hby d9_11) (pc' := 12) rfl ?_
  obtain ⟨T123, h123, L123, X123, e123, N123, W123, V123, st123⟩ := h_bastore X0 hx hZ e0 N0 V1 G1 (j := (0 : Int32)) (i := 0) (x := (byt (x0 ^^^ (1 : Int32)))) (hb hby d9_12) (by decide) rfl rfl #[.val (.ref a), .val (.int (3 : Int32))] []
  have Z124 : n0 ≤ h123.size := Nat.le_trans Z0 (Keep.of_wr W123).1
  have K125 := (Keep.refl h0 [a]).wr W123 (Or.inl (List.mem_of_getElem? (i := 0) rfl))
  have f126 : Va Z h123 a .byte [(.int (byt (byt (x0 ^^^ (1 : Int32))))), (.int x1), (.int x2)] := V123
  have f127 : Va Z h123 a .byte [(.int (byt (x0 ^^^ (1 : Int32)))), (.int x1), (.int x2)] := by rw [show (byt (byt (x0 ^^^ (1 : Int32)))) = (byt (x0 ^^^ (1 : Int32))) from byt_byt _] at f126; exact f126
  refine Go.movp st123 (mkF m 13 #[.val (.ref a), .val (.int (3 : Int32))] []) rfl ?_
  refine g_iloadN X123 hx (hb hby d9_13) (pc' := 14) rfl rfl ?_
  refine g_iconst X123 hx (hb hby d9_14) (pc' := 15) rfl (z := (1 : Int32)) rfl ?_
  refine g_icmp_le X123 hx (hb hby d9_15) (pc1 := 18) rfl (by decide) (pc2 := 27) (by decide) (fun hc15 => absurd (by decide) hc15) (fun hc15 => ?_)
  refine g_aloadN X123 hx (hb hby d9_18) (pc' := 19) rfl rfl rfl ?_
  refine g_iconst X123 hx (hb hby d9_19) (pc' := 20) rfl (z := (1 : Int32)) rfl ?_
  refine g_aloadN X123 hx (hb hby d9_20) (pc' := 21) rfl rfl rfl ?_
  refine g_iconst X123 hx (hb hby d9_21) (pc' := 22) rfl (z := (1 : Int32)) rfl ?_
  refine g_baload X123 hx hZ e123 f127 (i := 1) (v := (.int x1)) (hb hby d9_22) (pc' := 23) rfl (by decide) rfl rfl ?_
  refine g_iconst X123 hx (hb hby d9_23) (pc' := 24) rfl (z := (1 : Int32)) rfl ?_
  refine g_ixor X123 hx (hb hby d9_24) (pc' := 25) rfl ?_
  refine g_i2b X123 hx (hb hby d9_25) (pc' := 26) rfl ?_
  obtain ⟨T128, h128, L128, X128, e128, N128, W128, V128, st128⟩ := h_bastore X123 hx hZ e123 N123 f127 G1 (j := (1 : Int32)) (i := 1) (x := (byt (x1 ^^^ (1 : Int32)))) (hb hby d9_26) (by decide) rfl rfl #[.val (.ref a), .val (.int (3 : Int32))] []
  have Z129 : n0 ≤ h128.size := Nat.le_trans Z124 (Keep.of_wr W128).1
  have K130 := K125.wr W128 (Or.inl (List.mem_of_getElem? (i := 0) rfl))
  have f131 : Va Z h128 a .byte [(.int (byt (x0 ^^^ (1 : Int32)))), (.int (byt (byt (x1 ^^^ (1 : Int32))))), (.int x2)] := V128
  have f132 : Va Z h128 a .byte [(.int (byt (x0 ^^^ (1 : Int32)))), (.int (byt (x1 ^^^ (1 : Int32)))), (.int x2)] := by rw [show (byt (byt (x1 ^^^ (1 : Int32)))) = (byt (x1 ^^^ (1 : Int32))) from byt_byt _] at f131; exact f131
  refine Go.movp st128 (mkF m 27 #[.val (.ref a), .val (.int (3 : Int32))] []) rfl ?_
  refine g_iloadN X128 hx (hb hby d9_27) (pc' := 28) rfl rfl ?_
  refine g_iconst X128 hx (hb hby d9_28) (pc' := 29) rfl (z := (2 : Int32)) rfl ?_
  refine g_icmp_le X128 hx (hb hby d9_29) (pc1 := 32) rfl (by decide) (pc2 := 41) (by decide) (fun hc29 => absurd (by decide) hc29) (fun hc29 => ?_)
  refine g_aloadN X128 hx (hb hby d9_32) (pc' := 33) rfl rfl rfl ?_
  refine g_iconst X128 hx (hb hby d9_33) (pc' := 34) rfl (z := (2 : Int32)) rfl ?_
  refine g_aloadN X128 hx (hb hby d9_34) (pc' := 35) rfl rfl rfl ?_
  refine g_iconst X128 hx (hb hby d9_35) (pc' := 36) rfl (z := (2 : Int32)) rfl ?_
  refine g_baload X128 hx hZ e128 f132 (i := 2) (v := (.int x2)) (hb hby d9_36) (pc' := 37) rfl (by decide) rfl rfl ?_
  refine g_iconst X128 hx (hb hby d9_37) (pc' := 38) rfl (z := (1 : Int32)) rfl ?_
  refine g_ixor X128 hx (hb hby d9_38) (pc' := 39) rfl ?_
  refine g_i2b X128 hx (hb hby d9_39) (pc' := 40) rfl ?_
  obtain ⟨T133, h133, L133, X133, e133, N133, W133, V133, st133⟩ := h_bastore X128 hx hZ e128 N128 f132 G1 (j := (2 : Int32)) (i := 2) (x := (byt (x2 ^^^ (1 : Int32)))) (hb hby d9_40) (by decide) rfl rfl #[.val (.ref a), .val (.int (3 : Int32))] []
  have Z134 : n0 ≤ h133.size := Nat.le_trans Z129 (Keep.of_wr W133).1
  have K135 := K130.wr W133 (Or.inl (List.mem_of_getElem? (i := 0) rfl))
  have f136 : Va Z h133 a .byte [(.int (byt (x0 ^^^ (1 : Int32)))), (.int (byt (x1 ^^^ (1 : Int32)))), (.int (byt (byt (x2 ^^^ (1 : Int32)))))] := V133
  have f137 : Va Z h133 a .byte [(.int (byt (x0 ^^^ (1 : Int32)))), (.int (byt (x1 ^^^ (1 : Int32)))), (.int (byt (x2 ^^^ (1 : Int32))))] := by rw [show (byt (byt (x2 ^^^ (1 : Int32)))) = (byt (x2 ^^^ (1 : Int32))) from byt_byt _] at f136; exact f136
  refine Go.movp st133 (mkF m 41 #[.val (.ref a), .val (.int (3 : Int32))] []) rfl ?_
  exact g_return X133 hx hret (hb hby d9_41) N133 hlk (fun v t => endF (by decide) (by decide) v) (by rw [e133]; exact ⟨rfl, K135, f137⟩)
theorem d11_46 : decode method_5_code 46 = .ok (.aload_n 0, 1) := by decide +kernel
theorem d11_47 : decode method_5_code 47 = .ok (.iconst 2, 1) := by decide +kernel
theorem d11_48 : decode method_5_code 48 = .ok (.baload, 1) := by decide +kernel
theorem d11_49 : decode method_5_code 49 = .ok (.iload 4, 2) := by decide +kernel
theorem d11_51 : decode method_5_code 51 = .ok (.i2b, 1) := by decide +kernel
theorem d11_52 : decode method_5_code 52 = .ok (.if_icmp .eq 5, 3) := by decide +kernel
theorem ef_11_3 (x0 : Addr) (x1 : Int32) (x2 : Int32) (x3 : Int32) (x4 : Int32) (m : MethodId) : entryFrame m #[(.ref x0), (.int x1), (.int x2), (.int x3), (.int x4)] 5 = mkF m 0 #[.val (.ref x0), .val (.int x1), .val (.int x2), .val (.int x3), .val (.int x4)] [] := by first | (simp [entryFrame, mkF, argsToLocals, Value.category]; done) | rfl
def Q11_3 (Z : State) (a : Addr) (p1 : Int32) (p2 : Int32) (p3 : Int32) (h0 : Heap) (n0 : Nat) : Option Value → Heap → Prop := fun v h => v = some (.int 1) ∧ h0 = h
set_option maxRecDepth 65536 in
set_option maxHeartbeats 40000000 in
theorem rm11_3 (l : Launch) (Z : State) (a0 : Array Value) (hw : ∀ d ∈ tables_1, d.before a0 Z = true) (a : Addr) (p1 : Int32) (p2 : Int32) (p3 : Int32) (h0 : Heap) (n0 : Nat) (Z0 : n0 ≤ h0.size) (V1 : Va Z h0 a .byte [(.int (byt p1)), (.int (byt p2)), (.int (byt p3))]) : Ctr l Z (⟨"com/example/stream_log_client/streamlogclient/protocol/HeaderValuePinLaw", "matches", "([BIIII)Z"⟩ : MethodName) method_5_code 5 (some .boolean) ({ frames := 0, cells := 0, slots := 0, locals := 0 } : Room) #[(.ref a), (.int (3 : Int32)), (.int p1), (.int p2), (.int p3)] h0 n0 (Q11_3 Z a p1 p2 p3 h0 n0) := by
  refine Ctr.of (plainFor_of_name pn_6) (ef_11_3 a (3 : Int32) p1 p2 p3) ?_
  intro p e s m below meth c T0 hx hby hml hown hnm hret hlk hZ X0 e0
  have N0 := Fr.nil n0
  refine g_aloadN X0 hx (hb hby d11_0) (pc' := 1) rfl rfl rfl ?_
  refine g_ifnull_n X0 hx (hb hby d11_1) (pc' := 4) rfl ?_
  refine g_aloadN X0 hx (hb hby d11_4) (pc' := 5) rfl rfl rfl ?_
  refine g_arraylength X0 hx hZ e0 V1 (z := (3 : Int32)) (hb hby d11_5) (pc' := 6) rfl rfl ?_
  refine g_iloadN X0 hx (hb hby d11_6) (pc' := 7) rfl rfl ?_
  refine g_icmp_eq X0 hx (hb hby d11_7) (pc1 := 10) rfl (by decide) (pc2 := 12) (by decide) (fun hc7 => ?_) (fun hc7 => absurd rfl hc7)
  refine g_iloadN X0 hx (hb hby d11_12) (pc' := 13) rfl rfl ?_
  refine g_if_le X0 hx (hb hby d11_13) (pc1 := 16) rfl (by decide) (pc2 := 26) (by decide) (fun hc13 => absurd (by decide) hc13) (fun hc13 => ?_)
  refine g_aloadN X0 hx (hb hby d11_16) (pc' := 17) rfl rfl rfl ?_
  refine g_iconst X0 hx (hb hby d11_17) (pc' := 18) rfl (z := (0 : Int32)) rfl ?_
  refine g_baload X0 hx hZ e0 V1 (i := 0) (v := (.int (byt p1))) (hb hby d11_18) (pc' := 19) rfl (by decide) rfl rfl ?_
  refine g_iloadN X0 hx (hb hby d11_19) (pc' := 20) rfl rfl ?_
  refine g_i2b X0 hx (hb hby d11_20) (pc' := 21) rfl ?_
  refine g_icmp_eq X0 hx (hb hby d11_21) (pc1 := 24) rfl (by decide) (pc2 := 26) (by decide) (fun hc21 => ?_) (fun hc21 => absurd rfl hc21)
  refine g_iloadN X0 hx (hb hby d11_26) (pc' := 27) rfl rfl ?_
  refine g_iconst X0 hx (hb hby d11_27) (pc' := 28) rfl (z := (1 : Int32)) rfl ?_
  refine g_icmp_le X0 hx (hb hby d11_28) (pc1 := 31) rfl (by decide) (pc2 := 41) (by decide) (fun hc28 => absurd (by decide) hc28) (fun hc28 => ?_)
  refine g_aloadN X0 hx (hb hby d11_31) (pc' := 32) rfl rfl rfl ?_
  refine g_iconst X0 hx (hb hby d11_32) (pc' := 33) rfl (z := (1 : Int32)) rfl ?_
  refine g_baload X0 hx hZ e0 V1 (i := 1) (v := (.int (byt p2))) (hb hby d11_33) (pc' := 34) rfl (by decide) rfl rfl ?_
  refine g_iloadN X0 hx (hb hby d11_34) (pc' := 35) rfl rfl ?_
  refine g_i2b X0 hx (hb hby d11_35) (pc' := 36) rfl ?_
  refine g_icmp_eq X0 hx (hb hby d11_36) (pc1 := 39) rfl (by decide) (pc2 := 41) (by decide) (fun hc36 => ?_) (fun hc36 => absurd rfl hc36)
  refine g_iloadN X0 hx (hb hby d11_41) (pc' := 42) rfl rfl ?_
  refine g_iconst X0 hx (hb hby d11_42) (pc' := 43) rfl (z := (2 : Int32)) rfl ?_
  refine g_icmp_le X0 hx (hb hby d11_43) (pc1 := 46) rfl (by decide) (pc2 := 57) (by decide) (fun hc43 => absurd (by decide) hc43) (fun hc43 => ?_)
  refine g_aloadN X0 hx (hb hby d11_46) (pc' := 47) rfl rfl rfl ?_
  refine g_iconst X0 hx (hb hby d11_47) (pc' := 48) rfl (z := (2 : Int32)) rfl ?_
  refine g_baload X0 hx hZ e0 V1 (i := 2) (v := (.int (byt p3))) (hb hby d11_48) (pc' := 49) rfl (by decide) rfl rfl ?_
  refine g_iload X0 hx (hb hby d11_49) (pc' := 51) rfl rfl ?_
  refine g_i2b X0 hx (hb hby d11_51) (pc' := 52) rfl ?_
  refine g_icmp_eq X0 hx (hb hby d11_52) (pc1 := 55) rfl (by decide) (pc2 := 57) (by decide) (fun hc52 => ?_) (fun hc52 => absurd rfl hc52)
  refine g_iconst X0 hx (hb hby d11_57) (pc' := 58) rfl (z := (1 : Int32)) rfl ?_
  exact g_zreturn X0 hx rfl hret (hb hby d11_58) N0 hlk (fun v t => endF (by decide) (by decide) v) (by rw [e0]; exact ⟨rfl, rfl⟩)
theorem d8_0 : decode jdk_31_method_11_code 0 = .ok (.aload_n 0, 1) := by decide +kernel
theorem d8_1 : decode jdk_31_method_11_code 1 = .ok (.ifnonnull 12, 3) := by decide +kernel
theorem d8_13 : decode jdk_31_method_11_code 13 = .ok (.aload_n 0, 1) := by decide +kernel
theorem d8_14 : decode jdk_31_method_11_code 14 = .ok (.areturn, 1) := by decide +kernel
theorem pn_8 : plainName "java/util/Objects" = true := by first | (simp [plainName, overriddenIn]; done) | decide +kernel
theorem ef_8 (x0 : Addr) (x1 : Addr) (m : MethodId) : entryFrame m #[(.ref x0), (.ref x1)] 2 = mkF m 0 #[.val (.ref x0), .val (.ref x1)] [] := by first | (simp [entryFrame, mkF, argsToLocals, Value.category]; done) | rfl
def Q8 (Z : State) (a : Addr) (b : Addr) (h0 : Heap) (n0 : Nat) : Option Value → Heap → Prop := fun v h => v = some (.ref a) ∧ h0 = h
set_option maxRecDepth 65536 in
set_option maxHeartbeats 40000000 in
theorem rm8 (l : Launch) (Z : State) (a0 : Array Value) (hw : ∀ d ∈ tables_1, d.before a0 Z = true) (a : Addr) (b : Addr) (h0 : Heap) (n0 : Nat) (Z0 : n0 ≤ h0.size) : Ctr l Z (⟨"java/util/Objects", "requireNonNull", "(Ljava/lang/Object;Ljava/lang/String;)Ljava/lang/Object;"⟩ : MethodName) jdk_31_method_11_code 2 (some (.object "java/lang/Object")) ({ frames := 0, cells := 0, slots := 0, locals := 0 } : Room) #[(.ref a), (.ref b)] h0 n0 (Q8 Z a b h0 n0) := by
  refine Ctr.of (plainFor_of_name pn_8) (ef_8 a b) ?_
  intro p e s m below meth c T0 hx hby hml hown hnm hret hlk hZ X0 e0
  have N0 := Fr.nil n0
  refine g_aloadN X0 hx (hb hby d8_0) (pc' := 1) rfl rfl rfl ?_
  refine g_ifnonnull_y X0 hx (hb hby d8_1) (by decide) (pc' := 13) (by decide) ?_
  refine g_aloadN X0 hx (hb hby d8_13) (pc' := 14) rfl rfl rfl ?_
  exact g_areturn X0 hx rfl rfl hret (hb hby d8_14) N0 hlk (fun v t => endF (by decide) (by decide) v) (by rw [e0]; exact ⟨rfl, rfl⟩)
theorem pd__Ljava_lang_Object_Ljava_lang_String__Ljava_lang_Object_ : parseMethodDescriptor "(Ljava/lang/Object;Ljava/lang/String;)Ljava/lang/Object;" = some ⟨[(.object "java/lang/Object"), (.object "java/lang/String")], some (.object "java/lang/Object")⟩ := by decide +kernel
theorem d7_0 : decode prog_95_method_1_code 0 = .ok (.aload_n 0, 1) := by decide +kernel
theorem d7_1 : decode prog_95_method_1_code 1 = .ok (.invokespecial 1, 3) := by decide +kernel
theorem d7_4 : decode prog_95_method_1_code 4 = .ok (.aload_n 0, 1) := by decide +kernel
theorem d7_5 : decode prog_95_method_1_code 5 = .ok (.aload_n 1, 1) := by decide +kernel
theorem d7_6 : decode prog_95_method_1_code 6 = .ok (.ldc 7, 2) := by decide +kernel
theorem d7_8 : decode prog_95_method_1_code 8 = .ok (.invokestatic 9, 3) := by decide +kernel
theorem d7_11 : decode prog_95_method_1_code 11 = .ok (.checkcast 15, 3) := by decide +kernel
theorem d7_14 : decode prog_95_method_1_code 14 = .ok (.putfield 17, 3) := by decide +kernel
theorem d7_17 : decode prog_95_method_1_code 17 = .ok (.aload_n 0, 1) := by decide +kernel
theorem d7_18 : decode prog_95_method_1_code 18 = .ok (.aload_n 2, 1) := by decide +kernel
theorem d7_19 : decode prog_95_method_1_code 19 = .ok (.ifnonnull 7, 3) := by decide +kernel
theorem d7_22 : decode prog_95_method_1_code 22 = .ok (.aconst_null, 1) := by decide +kernel
theorem d7_23 : decode prog_95_method_1_code 23 = .ok (.goto 10, 3) := by decide +kernel
theorem d7_33 : decode prog_95_method_1_code 33 = .ok (.putfield 28, 3) := by decide +kernel
theorem d7_36 : decode prog_95_method_1_code 36 = .ok (.return_, 1) := by decide +kernel
theorem pn_7 : plainName "com/example/stream_log_client/streamlogclient/protocol/Header" = true := by first | (simp [plainName, overriddenIn]; done) | decide +kernel
theorem ef_7n (x0 : Addr) (x1 : Addr) (m : MethodId) : entryFrame m #[(.ref x0), (.ref x1), .null] 3 = mkF m 0 #[.val (.ref x0), .val (.ref x1), .val .null] [] := by first | (simp [entryFrame, mkF, argsToLocals, Value.category]; done) | rfl
def Q7n (Z : State) (a : Addr) (ks : Addr) (h0 : Heap) (n0 : Nat) : Option Value → Heap → Prop := fun v h => v = none ∧ Keep h0 h [a] ∧ Exa Z h a "com/example/stream_log_client/streamlogclient/protocol/Header" ∧ Fld Z h a "com/example/stream_log_client/streamlogclient/protocol/Header" "value" "[B" .null
set_option maxRecDepth 65536 in
set_option maxHeartbeats 40000000 in
theorem rm7n (l : Launch) (Z : State) (a0 : Array Value) (hw : ∀ d ∈ tables_1, d.before a0 Z = true) (a : Addr) (ks : Addr) (h0 : Heap) (n0 : Nat) (Z0 : n0 ≤ h0.size) (F1 : Fld Z h0 a "com/example/stream_log_client/streamlogclient/protocol/Header" "key" "Ljava/lang/String;" .null) (F2 : Fld Z h0 a "com/example/stream_log_client/streamlogclient/protocol/Header" "value" "[B" .null) (E1 : Exa Z h0 a "com/example/stream_log_client/streamlogclient/protocol/Header") (G1 : n0 ≤ a) (E2 : Exa Z h0 ks "java/lang/String") (ne1 : ks ≠ a) : CtrW l Z (⟨"com/example/stream_log_client/streamlogclient/protocol/Header", "<init>", "(Ljava/lang/String;[B)V"⟩ : MethodName) prog_95_method_1_code 3 none ({ frames := 1, cells := 2, slots := 16, locals := 14 } : Room) #[(.ref a), (.ref ks), .null] h0 n0 (Q7n Z a ks h0 n0) := by
  refine CtrW.of (plainFor_of_name pn_7) (ef_7n a ks) ?_
  intro p e s m below meth c T0 hx hby hml hown hnm hret hlk hZ X0 e0
  have N0 := Fr.nil n0
  refine g_aloadN X0 hx (hb hby d7_0) (pc' := 1) rfl rfl rfl ?_
  obtain ⟨T138, X138, e138, st138⟩ := initO X0 hx hZ hown (hw _ (List.mem_of_getElem? (i := 36) rfl)) (hw _ (List.mem_of_getElem? (i := 20) rfl)) (hw _ (List.mem_of_getElem? (i := 21) rfl)) e0 (g := (mkF m 1 #[.val (.ref a), .val (.ref ks), .val .null] [(.ref a)])) rfl (by rw [hml]; rfl) rfl (hb hby d7_1) (by decide) (W := 0) (by show 2 * 0 + _ ≤ _; exact Nat.le_of_eq rfl) (by decide)
  refine Go.movp st138 (mkF m 4 #[.val (.ref a), .val (.ref ks), .val .null] []) rfl ?_
  refine g_aloadN X138 hx (hb hby d7_4) (pc' := 5) rfl rfl rfl ?_
  refine g_aloadN X138 hx (hb hby d7_5) (pc' := 6) rfl rfl rfl ?_
  obtain ⟨a139, T139, h139, k139, X139, e139, E139, S139, kk139, hZ, hown, st139⟩ := ldcS (s := s) (vm0 := s.vm) X138 hx hZ hown (hw _ (List.mem_of_getElem? (i := 37) rfl)) (strAtoms hw) e138 ((State.WarmedH.refl s).since 0) (Nat.zero_le _) (g := (mkF m 6 #[.val (.ref a), .val (.ref ks), .val .null] [(.ref ks), (.ref a)])) rfl (hb hby d7_6) (n := 12) (by decide) (by decide) (by decide) (by decide)
  have f140 := Fld.ext E139 F1
  have f141 := Fld.ext E139 F2
  have f142 := Exa.ext E139 E1
  have f143 := Exa.ext E139 E2
  have Z144 : n0 ≤ h139.size := Nat.le_trans Z0 E139.1
  have K145 := (Keep.refl h0 [a]).ext E139
  refine Go.movp st139 (mkF m 8 #[.val (.ref a), .val (.ref ks), .val .null] [(.ref a139), (.ref ks), (.ref a)]) rfl ?_
  obtain ⟨v146, T146, h146, L146, X146, e146, N146, q146, st146⟩ := h_static X139 hx (W := 1) (Ls := #[.val (.ref a), .val (.ref ks), .val .null]) (argsL := [(.ref ks), (.ref a139)]) (rest := [(.ref a)]) hZ e139 N0 hml hown (rm8 l Z a0 hw ks a139 h139 n0 Z144) (hw _ (List.mem_of_getElem? (i := 40) rfl)) (hw _ (List.mem_of_getElem? (i := 41) rfl)) (hw _ (List.mem_of_getElem? (i := 42) rfl)) (hw _ (List.mem_of_getElem? (i := 43) rfl)) (by decide) pd__Ljava_lang_Object_Ljava_lang_String__Ljava_lang_Object_ rfl rfl (hb hby d7_8) rfl (by decide) (by decide) (by decide) (by decide)
  obtain ⟨rfl, rfl⟩ := q146
  refine Go.movp st146 (mkF m 11 #[.val (.ref a), .val (.ref ks), .val .null] [(.ref ks), (.ref a)]) rfl ?_
  obtain ⟨T147, X147, e147, st147⟩ := castY X146 hx hZ hown (hw _ (List.mem_of_getElem? (i := 44) rfl)) e146 (Ins.self f143) (g := (mkF m 11 #[.val (.ref a), .val (.ref ks), .val .null] [(.ref ks), (.ref a)])) rfl rfl (hb hby d7_11)
  refine Go.movp st147 (mkF m 14 #[.val (.ref a), .val (.ref ks), .val .null] [(.ref ks), (.ref a)]) rfl ?_
  obtain ⟨T148, h148, X148, e148, W148, st148⟩ := putF X147 hx hZ hown (host := "") (Or.inl (hw _ (List.mem_of_getElem? (i := 45) rfl))) Via.refl e147 f140 f142 (Or.inr ⟨(hw _ (List.mem_of_getElem? (i := 46) rfl)), rfl, hnm⟩) (hw _ (List.mem_of_getElem? (i := 31) rfl)) (ty := (.object "java/lang/String")) (by decide) rfl rfl (g := (mkF m 14 #[.val (.ref a), .val (.ref ks), .val .null] [(.ref ks), (.ref a)])) rfl rfl (hb hby d7_14)
  have f149 : Fld Z h148 a "com/example/stream_log_client/streamlogclient/protocol/Header" "key" "Ljava/lang/String;" (.ref ks) := Fld.same W148 f140
  have N148 := Fr.snoc X148 N146 G1
  have f150 := Fld.other W148 f141 (Or.inr (slot_ne (Or.inr (hw _ (List.mem_of_getElem? (i := 57) rfl))) (Or.inr (hw _ (List.mem_of_getElem? (i := 46) rfl))) (by decide) (t := (.array .byte)) (t' := (.object "java/lang/String")) (by decide) (by decide)))
  have f151 := Exa.wr W148 f142
  have f152 := Exa.wr W148 f143
  have f153 := Nat.le_trans kk139 (Keep.of_wr W148).1
  have Z154 : n0 ≤ h148.size := Nat.le_trans Z144 (Keep.of_wr W148).1
  have K155 := K145.wr W148 (Or.inl (List.mem_of_getElem? (i := 0) rfl))
  refine Go.movp st148 (mkF m 17 #[.val (.ref a), .val (.ref ks), .val .null] []) rfl ?_
  refine g_aloadN X148 hx (hb hby d7_17) (pc' := 18) rfl rfl rfl ?_
  refine g_aloadN X148 hx (hb hby d7_18) (pc' := 19) rfl rfl rfl ?_
  refine g_ifnonnull_n X148 hx (hb hby d7_19) (pc' := 22) rfl ?_
  refine g_aconst_null X148 hx (hb hby d7_22) (pc' := 23) rfl ?_
  refine g_goto X148 hx (hb hby d7_23) (by decide) (pc' := 33) (by decide) ?_
  obtain ⟨T156, h156, X156, e156, W156, st156⟩ := putF X148 hx hZ hown (host := "") (Or.inl (hw _ (List.mem_of_getElem? (i := 56) rfl))) Via.refl e148 f150 f151 (Or.inr ⟨(hw _ (List.mem_of_getElem? (i := 57) rfl)), rfl, hnm⟩) (hw _ (List.mem_of_getElem? (i := 31) rfl)) (ty := (.array .byte)) (by decide) rfl rfl (g := (mkF m 33 #[.val (.ref a), .val (.ref ks), .val .null] [.null, (.ref a)])) rfl rfl (hb hby d7_33)
  have f157 : Fld Z h156 a "com/example/stream_log_client/streamlogclient/protocol/Header" "value" "[B" .null := Fld.same W156 f150
  have N156 := Fr.snoc X156 N148 G1
  have f158 := Exa.wr W156 f151
  have f159 := Exa.wr W156 f152
  have f160 := Nat.le_trans f153 (Keep.of_wr W156).1
  have f161 := Fld.other W156 f149 (Or.inr (slot_ne (Or.inr (hw _ (List.mem_of_getElem? (i := 46) rfl))) (Or.inr (hw _ (List.mem_of_getElem? (i := 57) rfl))) (by decide) (t := (.object "java/lang/String")) (t' := (.array .byte)) (by decide) (by decide)))
  have Z162 : n0 ≤ h156.size := Nat.le_trans Z154 (Keep.of_wr W156).1
  have K163 := K155.wr W156 (Or.inl (List.mem_of_getElem? (i := 0) rfl))
  refine Go.movp st156 (mkF m 36 #[.val (.ref a), .val (.ref ks), .val .null] []) rfl ?_
  exact g_return X156 hx hret (hb hby d7_36) N156 hlk (fun v t => endW S139 (show _ ≤ T156.heap.size by rw [e156]; exact f160) (by decide) (by decide) v) (by rw [e156]; exact ⟨rfl, K163, f158, f157⟩)
theorem d10_0 : decode prog_95_method_3_code 0 = .ok (.aload_n 0, 1) := by decide +kernel
theorem d10_1 : decode prog_95_method_3_code 1 = .ok (.getfield 28, 3) := by decide +kernel
theorem d10_4 : decode prog_95_method_3_code 4 = .ok (.ifnonnull 7, 3) := by decide +kernel
theorem d10_7 : decode prog_95_method_3_code 7 = .ok (.aconst_null, 1) := by decide +kernel
theorem d10_8 : decode prog_95_method_3_code 8 = .ok (.goto 13, 3) := by decide +kernel
theorem d10_21 : decode prog_95_method_3_code 21 = .ok (.areturn, 1) := by decide +kernel
theorem ef_10n (x0 : Addr) (m : MethodId) : entryFrame m #[(.ref x0)] 1 = mkF m 0 #[.val (.ref x0)] [] := by first | (simp [entryFrame, mkF, argsToLocals, Value.category]; done) | rfl
def Q10n (Z : State) (a : Addr) (h0 : Heap) (n0 : Nat) : Option Value → Heap → Prop := fun v h => v = some .null ∧ h0 = h
set_option maxRecDepth 65536 in
set_option maxHeartbeats 40000000 in
theorem rm10n (l : Launch) (Z : State) (a0 : Array Value) (hw : ∀ d ∈ tables_1, d.before a0 Z = true) (a : Addr) (h0 : Heap) (n0 : Nat) (Z0 : n0 ≤ h0.size) (F2 : Fld Z h0 a "com/example/stream_log_client/streamlogclient/protocol/Header" "value" "[B" .null) : Ctr l Z (⟨"com/example/stream_log_client/streamlogclient/protocol/Header", "value", "()[B"⟩ : MethodName) prog_95_method_3_code 1 (some (.array .byte)) ({ frames := 0, cells := 0, slots := 0, locals := 0 } : Room) #[(.ref a)] h0 n0 (Q10n Z a h0 n0) := by
  refine Ctr.of (plainFor_of_name pn_7) (ef_10n a) ?_
  intro p e s m below meth c T0 hx hby hml hown hnm hret hlk hZ X0 e0
  have N0 := Fr.nil n0
  refine g_aloadN X0 hx (hb hby d10_0) (pc' := 1) rfl rfl rfl ?_
  obtain ⟨T164, X164, e164, st164⟩ := getF X0 hx hZ hown (host := "") (Or.inl (hw _ (List.mem_of_getElem? (i := 56) rfl))) Via.refl e0 F2 (g := (mkF m 1 #[.val (.ref a)] [(.ref a)])) rfl rfl (hb hby d10_1)
  refine Go.movp st164 (mkF m 4 #[.val (.ref a)] [.null]) rfl ?_
  refine g_ifnonnull_n X164 hx (hb hby d10_4) (pc' := 7) rfl ?_
  refine g_aconst_null X164 hx (hb hby d10_7) (pc' := 8) rfl ?_
  refine g_goto X164 hx (hb hby d10_8) (by decide) (pc' := 21) (by decide) ?_
  exact g_areturn X164 hx rfl rfl hret (hb hby d10_21) N0 hlk (fun v t => endF (by decide) (by decide) v) (by rw [e164]; exact ⟨rfl, rfl⟩)
theorem d7_26 : decode prog_95_method_1_code 26 = .ok (.aload_n 2, 1) := by decide +kernel
theorem d7_27 : decode prog_95_method_1_code 27 = .ok (.invokevirtual 22, 3) := by decide +kernel
theorem d7_30 : decode prog_95_method_1_code 30 = .ok (.checkcast 23, 3) := by decide +kernel
theorem ef_7a (x0 : Addr) (x1 : Addr) (x2 : Addr) (m : MethodId) : entryFrame m #[(.ref x0), (.ref x1), (.ref x2)] 3 = mkF m 0 #[.val (.ref x0), .val (.ref x1), .val (.ref x2)] [] := by first | (simp [entryFrame, mkF, argsToLocals, Value.category]; done) | rfl
def Q7a (Z : State) (a : Addr) (ks : Addr) (b : Addr) (vs : List Value) (h0 : Heap) (n0 : Nat) : Option Value → Heap → Prop := fun v h => ∃ r, v = none ∧ n0 ≤ r ∧ h0.size ≤ r ∧ Keep h0 h [a] ∧ Exa Z h a "com/example/stream_log_client/streamlogclient/protocol/Header" ∧ Fld Z h a "com/example/stream_log_client/streamlogclient/protocol/Header" "value" "[B" (.ref r) ∧ Va Z h r .byte vs ∧ Exa Z h r "[B"
set_option maxRecDepth 65536 in
set_option maxHeartbeats 40000000 in
theorem rm7a (l : Launch) (Z : State) (a0 : Array Value) (hw : ∀ d ∈ tables_1, d.before a0 Z = true) (a : Addr) (ks : Addr) (b : Addr) (vs : List Value) (h0 : Heap) (n0 : Nat) (Z0 : n0 ≤ h0.size) (F1 : Fld Z h0 a "com/example/stream_log_client/streamlogclient/protocol/Header" "key" "Ljava/lang/String;" .null) (F2 : Fld Z h0 a "com/example/stream_log_client/streamlogclient/protocol/Header" "value" "[B" .null) (E1 : Exa Z h0 a "com/example/stream_log_client/streamlogclient/protocol/Header") (G1 : n0 ≤ a) (E2 : Exa Z h0 ks "java/lang/String") (ne1 : ks ≠ a) (V1 : Va Z h0 b .byte vs) (E3 : Exa Z h0 b "[B") (ne2 : b ≠ a) (hf : ∀ v ∈ vs, fits .byte v = true) (hc3 : vs.length ≤ 3) : CtrW l Z (⟨"com/example/stream_log_client/streamlogclient/protocol/Header", "<init>", "(Ljava/lang/String;[B)V"⟩ : MethodName) prog_95_method_1_code 3 none ({ frames := 1, cells := 3, slots := 19, locals := 15 } : Room) #[(.ref a), (.ref ks), (.ref b)] h0 n0 (Q7a Z a ks b vs h0 n0) := by
  refine CtrW.of (plainFor_of_name pn_7) (ef_7a a ks b) ?_
  intro p e s m below meth c T0 hx hby hml hown hnm hret hlk hZ X0 e0
  have N0 := Fr.nil n0
  refine g_aloadN X0 hx (hb hby d7_0) (pc' := 1) rfl rfl rfl ?_
  obtain ⟨T165, X165, e165, st165⟩ := initO X0 hx hZ hown (hw _ (List.mem_of_getElem? (i := 36) rfl)) (hw _ (List.mem_of_getElem? (i := 20) rfl)) (hw _ (List.mem_of_getElem? (i := 21) rfl)) e0 (g := (mkF m 1 #[.val (.ref a), .val (.ref ks), .val (.ref b)] [(.ref a)])) rfl (by rw [hml]; rfl) rfl (hb hby d7_1) (by decide) (W := 0) (by show 2 * 0 + _ ≤ _; exact Nat.le_of_eq rfl) (by decide)
  refine Go.movp st165 (mkF m 4 #[.val (.ref a), .val (.ref ks), .val (.ref b)] []) rfl ?_
  refine g_aloadN X165 hx (hb hby d7_4) (pc' := 5) rfl rfl rfl ?_
  refine g_aloadN X165 hx (hb hby d7_5) (pc' := 6) rfl rfl rfl ?_
  obtain ⟨a166, T166, h166, k166, X166, e166, E166, S166, kk166, hZ, hown, st166⟩ := ldcS (s := s) (vm0 := s.vm) X165 hx hZ hown (hw _ (List.mem_of_getElem? (i := 37) rfl)) (strAtoms hw) e165 ((State.WarmedH.refl s).since 0) (Nat.zero_le _) (g := (mkF m 6 #[.val (.ref a), .val (.ref ks), .val (.ref b)] [(.ref ks), (.ref a)])) rfl (hb hby d7_6) (n := 12) (by decide) (by decide) (by decide) (by decide)
  have f167 := Fld.ext E166 F1
  have f168 := Fld.ext E166 F2
  have f169 := Exa.ext E166 E1
  have f170 := Exa.ext E166 E2
  have f171 := V1.ext E166
  have f172 := Exa.ext E166 E3
  have Z173 : n0 ≤ h166.size := Nat.le_trans Z0 E166.1
  have K174 := (Keep.refl h0 [a]).ext E166
  refine Go.movp st166 (mkF m 8 #[.val (.ref a), .val (.ref ks), .val (.ref b)] [(.ref a166), (.ref ks), (.ref a)]) rfl ?_
  obtain ⟨v175, T175, h175, L175, X175, e175, N175, q175, st175⟩ := h_static X166 hx (W := 1) (Ls := #[.val (.ref a), .val (.ref ks), .val (.ref b)]) (argsL := [(.ref ks), (.ref a166)]) (rest := [(.ref a)]) hZ e166 N0 hml hown (rm8 l Z a0 hw ks a166 h166 n0 Z173) (hw _ (List.mem_of_getElem? (i := 40) rfl)) (hw _ (List.mem_of_getElem? (i := 41) rfl)) (hw _ (List.mem_of_getElem? (i := 42) rfl)) (hw _ (List.mem_of_getElem? (i := 43) rfl)) (by decide) pd__Ljava_lang_Object_Ljava_lang_String__Ljava_lang_Object_ rfl rfl (hb hby d7_8) rfl (by decide) (by decide) (by decide) (by decide)
  obtain ⟨rfl, rfl⟩ := q175
  refine Go.movp st175 (mkF m 11 #[.val (.ref a), .val (.ref ks), .val (.ref b)] [(.ref ks), (.ref a)]) rfl ?_
  obtain ⟨T176, X176, e176, st176⟩ := castY X175 hx hZ hown (hw _ (List.mem_of_getElem? (i := 44) rfl)) e175 (Ins.self f170) (g := (mkF m 11 #[.val (.ref a), .val (.ref ks), .val (.ref b)] [(.ref ks), (.ref a)])) rfl rfl (hb hby d7_11)
  refine Go.movp st176 (mkF m 14 #[.val (.ref a), .val (.ref ks), .val (.ref b)] [(.ref ks), (.ref a)]) rfl ?_
  obtain ⟨T177, h177, X177, e177, W177, st177⟩ := putF X176 hx hZ hown (host := "") (Or.inl (hw _ (List.mem_of_getElem? (i := 45) rfl))) Via.refl e176 f167 f169 (Or.inr ⟨(hw _ (List.mem_of_getElem? (i := 46) rfl)), rfl, hnm⟩) (hw _ (List.mem_of_getElem? (i := 31) rfl)) (ty := (.object "java/lang/String")) (by decide) rfl rfl (g := (mkF m 14 #[.val (.ref a), .val (.ref ks), .val (.ref b)] [(.ref ks), (.ref a)])) rfl rfl (hb hby d7_14)
  have f178 : Fld Z h177 a "com/example/stream_log_client/streamlogclient/protocol/Header" "key" "Ljava/lang/String;" (.ref ks) := Fld.same W177 f167
  have N177 := Fr.snoc X177 N175 G1
  have f179 := Fld.other W177 f168 (Or.inr (slot_ne (Or.inr (hw _ (List.mem_of_getElem? (i := 57) rfl))) (Or.inr (hw _ (List.mem_of_getElem? (i := 46) rfl))) (by decide) (t := (.array .byte)) (t' := (.object "java/lang/String")) (by decide) (by decide)))
  have f180 := Exa.wr W177 f169
  have f181 := Exa.wr W177 f170
  have f182 := f171.other W177 ne2
  have f183 := Exa.wr W177 f172
  have f184 := Nat.le_trans kk166 (Keep.of_wr W177).1
  have Z185 : n0 ≤ h177.size := Nat.le_trans Z173 (Keep.of_wr W177).1
  have K186 := K174.wr W177 (Or.inl (List.mem_of_getElem? (i := 0) rfl))
  refine Go.movp st177 (mkF m 17 #[.val (.ref a), .val (.ref ks), .val (.ref b)] []) rfl ?_
  refine g_aloadN X177 hx (hb hby d7_17) (pc' := 18) rfl rfl rfl ?_
  refine g_aloadN X177 hx (hb hby d7_18) (pc' := 19) rfl rfl rfl ?_
  refine g_ifnonnull_y X177 hx (hb hby d7_19) (by decide) (pc' := 26) (by decide) ?_
  refine g_aloadN X177 hx (hb hby d7_26) (pc' := 27) rfl rfl rfl ?_
  obtain ⟨T187, h187, b187, X187, e187, g187, E187, V187, A187, st187⟩ := h_clone X177 hx (Ls := #[.val (.ref a), .val (.ref ks), .val (.ref b)]) (st := [(.ref a)]) hZ e177 hml hown f182 f183 hf (hw _ (List.mem_of_getElem? (i := 47) rfl)) (hw _ (List.mem_of_getElem? (i := 48) rfl)) (hw _ (List.mem_of_getElem? (i := 52) rfl)) (hw _ (List.mem_of_getElem? (i := 50) rfl)) (hw _ (List.mem_of_getElem? (i := 51) rfl)) (hw _ (List.mem_of_getElem? (i := 53) rfl)) (hb hby d7_27) (W := 1) (cap := 3) rfl (by decide) (by decide) hc3 (by decide) (by decide)
  have ne188 : a ≠ b187 := Nat.ne_of_lt (g187 ▸ f179.lt)
  have ne189 : ks ≠ b187 := Nat.ne_of_lt (g187 ▸ f181.lt)
  have ne190 : b ≠ b187 := Nat.ne_of_lt (g187 ▸ f182.lt)
  have ge191 : n0 ≤ b187 := g187 ▸ Z185
  have sz192 : h0.size ≤ b187 := g187 ▸ K186.1
  have f193 := Fld.ext E187 f179
  have f194 := Exa.ext E187 f180
  have f195 := Exa.ext E187 f181
  have f196 := f182.ext E187
  have f197 := Exa.ext E187 f183
  have f198 := Nat.le_trans f184 E187.1
  have f199 := Fld.ext E187 f178
  have Z200 : n0 ≤ h187.size := Nat.le_trans Z185 E187.1
  have K201 := K186.ext E187
  refine Go.movp st187 (mkF m 30 #[.val (.ref a), .val (.ref ks), .val (.ref b)] [(.ref b187), (.ref a)]) rfl ?_
  obtain ⟨T202, X202, e202, st202⟩ := castY X187 hx hZ hown (hw _ (List.mem_of_getElem? (i := 54) rfl)) e187 (Ins.self A187) (g := (mkF m 30 #[.val (.ref a), .val (.ref ks), .val (.ref b)] [(.ref b187), (.ref a)])) rfl rfl (hb hby d7_30)
  refine Go.movp st202 (mkF m 33 #[.val (.ref a), .val (.ref ks), .val (.ref b)] [(.ref b187), (.ref a)]) rfl ?_
  obtain ⟨T203, h203, X203, e203, W203, st203⟩ := putF X202 hx hZ hown (host := "") (Or.inl (hw _ (List.mem_of_getElem? (i := 56) rfl))) Via.refl e202 f193 f194 (Or.inr ⟨(hw _ (List.mem_of_getElem? (i := 57) rfl)), rfl, hnm⟩) (hw _ (List.mem_of_getElem? (i := 31) rfl)) (ty := (.array .byte)) (by decide) rfl rfl (g := (mkF m 33 #[.val (.ref a), .val (.ref ks), .val (.ref b)] [(.ref b187), (.ref a)])) rfl rfl (hb hby d7_33)
  have f204 : Fld Z h203 a "com/example/stream_log_client/streamlogclient/protocol/Header" "value" "[B" (.ref b187) := Fld.same W203 f193
  have N203 := Fr.snoc X203 N177 G1
  have f205 := Exa.wr W203 f194
  have f206 := Exa.wr W203 f195
  have f207 := f196.other W203 ne2
  have f208 := Exa.wr W203 f197
  have f209 := Nat.le_trans f198 (Keep.of_wr W203).1
  have f210 := Fld.other W203 f199 (Or.inr (slot_ne (Or.inr (hw _ (List.mem_of_getElem? (i := 46) rfl))) (Or.inr (hw _ (List.mem_of_getElem? (i := 57) rfl))) (by decide) (t := (.object "java/lang/String")) (t' := (.array .byte)) (by decide) (by decide)))
  have f211 := Exa.wr W203 A187
  have f212 := V187.other W203 (Ne.symm ne188)
  have Z213 : n0 ≤ h203.size := Nat.le_trans Z200 (Keep.of_wr W203).1
  have K214 := K201.wr W203 (Or.inl (List.mem_of_getElem? (i := 0) rfl))
  refine Go.movp st203 (mkF m 36 #[.val (.ref a), .val (.ref ks), .val (.ref b)] []) rfl ?_
  exact g_return X203 hx hret (hb hby d7_36) N203 hlk (fun v t => endW S166 (show _ ≤ T203.heap.size by rw [e203]; exact f209) (by decide) (by decide) v) (by rw [e203]; exact ⟨b187, rfl, ge191, sz192, K214, f205, f204, f212, f211⟩)
theorem d10_11 : decode prog_95_method_3_code 11 = .ok (.aload_n 0, 1) := by decide +kernel
theorem d10_12 : decode prog_95_method_3_code 12 = .ok (.getfield 28, 3) := by decide +kernel
theorem d10_15 : decode prog_95_method_3_code 15 = .ok (.invokevirtual 22, 3) := by decide +kernel
theorem d10_18 : decode prog_95_method_3_code 18 = .ok (.checkcast 23, 3) := by decide +kernel
theorem ef_10a (x0 : Addr) (m : MethodId) : entryFrame m #[(.ref x0)] 1 = mkF m 0 #[.val (.ref x0)] [] := by first | (simp [entryFrame, mkF, argsToLocals, Value.category]; done) | rfl
def Q10a (Z : State) (a : Addr) (b : Addr) (vs : List Value) (h0 : Heap) (n0 : Nat) : Option Value → Heap → Prop := fun v h => ∃ r, v = some (.ref r) ∧ n0 ≤ r ∧ h0.size ≤ r ∧ Keep h0 h [] ∧ Va Z h r .byte vs ∧ Exa Z h r "[B"
set_option maxRecDepth 65536 in
set_option maxHeartbeats 40000000 in
theorem rm10a (l : Launch) (Z : State) (a0 : Array Value) (hw : ∀ d ∈ tables_1, d.before a0 Z = true) (a : Addr) (b : Addr) (vs : List Value) (h0 : Heap) (n0 : Nat) (Z0 : n0 ≤ h0.size) (F2 : Fld Z h0 a "com/example/stream_log_client/streamlogclient/protocol/Header" "value" "[B" (.ref b)) (V1 : Va Z h0 b .byte vs) (E3 : Exa Z h0 b "[B") (hf : ∀ v ∈ vs, fits .byte v = true) (hc3 : vs.length ≤ 3) : Ctr l Z (⟨"com/example/stream_log_client/streamlogclient/protocol/Header", "value", "()[B"⟩ : MethodName) prog_95_method_3_code 1 (some (.array .byte)) ({ frames := 1, cells := 1, slots := 3, locals := 14 } : Room) #[(.ref a)] h0 n0 (Q10a Z a b vs h0 n0) := by
  refine Ctr.of (plainFor_of_name pn_7) (ef_10a a) ?_
  intro p e s m below meth c T0 hx hby hml hown hnm hret hlk hZ X0 e0
  have N0 := Fr.nil n0
  refine g_aloadN X0 hx (hb hby d10_0) (pc' := 1) rfl rfl rfl ?_
  obtain ⟨T215, X215, e215, st215⟩ := getF X0 hx hZ hown (host := "") (Or.inl (hw _ (List.mem_of_getElem? (i := 56) rfl))) Via.refl e0 F2 (g := (mkF m 1 #[.val (.ref a)] [(.ref a)])) rfl rfl (hb hby d10_1)
  refine Go.movp st215 (mkF m 4 #[.val (.ref a)] [(.ref b)]) rfl ?_
  refine g_ifnonnull_y X215 hx (hb hby d10_4) (by decide) (pc' := 11) (by decide) ?_
  refine g_aloadN X215 hx (hb hby d10_11) (pc' := 12) rfl rfl rfl ?_
  obtain ⟨T216, X216, e216, st216⟩ := getF X215 hx hZ hown (host := "") (Or.inl (hw _ (List.mem_of_getElem? (i := 56) rfl))) Via.refl e215 F2 (g := (mkF m 12 #[.val (.ref a)] [(.ref a)])) rfl rfl (hb hby d10_12)
  refine Go.movp st216 (mkF m 15 #[.val (.ref a)] [(.ref b)]) rfl ?_
  obtain ⟨T217, h217, b217, X217, e217, g217, E217, V217, A217, st217⟩ := h_clone X216 hx (Ls := #[.val (.ref a)]) (st := []) hZ e216 hml hown V1 E3 hf (hw _ (List.mem_of_getElem? (i := 47) rfl)) (hw _ (List.mem_of_getElem? (i := 48) rfl)) (hw _ (List.mem_of_getElem? (i := 52) rfl)) (hw _ (List.mem_of_getElem? (i := 50) rfl)) (hw _ (List.mem_of_getElem? (i := 51) rfl)) (hw _ (List.mem_of_getElem? (i := 53) rfl)) (hb hby d10_15) (W := 0) (cap := 3) rfl (by decide) (by decide) hc3 (by decide) (by decide)
  have ne218 : a ≠ b217 := Nat.ne_of_lt (g217 ▸ F2.lt)
  have ne219 : b ≠ b217 := Nat.ne_of_lt (g217 ▸ V1.lt)
  have ge220 : n0 ≤ b217 := g217 ▸ Z0
  have sz221 : h0.size ≤ b217 := g217 ▸ (Keep.refl h0 []).1
  have f222 := Fld.ext E217 F2
  have f223 := V1.ext E217
  have f224 := Exa.ext E217 E3
  have Z225 : n0 ≤ h217.size := Nat.le_trans Z0 E217.1
  have K226 := (Keep.refl h0 []).ext E217
  refine Go.movp st217 (mkF m 18 #[.val (.ref a)] [(.ref b217)]) rfl ?_
  obtain ⟨T227, X227, e227, st227⟩ := castY X217 hx hZ hown (hw _ (List.mem_of_getElem? (i := 54) rfl)) e217 (Ins.self A217) (g := (mkF m 18 #[.val (.ref a)] [(.ref b217)])) rfl rfl (hb hby d10_18)
  refine Go.movp st227 (mkF m 21 #[.val (.ref a)] [(.ref b217)]) rfl ?_
  exact g_areturn X227 hx rfl rfl hret (hb hby d10_21) N0 hlk (fun v t => endF (by decide) (by decide) v) (by rw [e227]; exact ⟨_, rfl, ge220, sz221, K226, V217, A217⟩)
theorem own_and3 (x : Int32) : x &&& 3 = 0 ∨ x &&& 3 = 1 ∨ x &&& 3 = 2 ∨ x &&& 3 = 3 := by
  have h := c_mask x 3 2 (by decide) (by decide)
  have : (x &&& 3).toInt = 0 ∨ (x &&& 3).toInt = 1 ∨ (x &&& 3).toInt = 2 ∨ (x &&& 3).toInt = 3 := by omega
  rcases this with q | q | q | q
  · exact Or.inl (Int32.toInt_inj.mp q)
  · exact Or.inr (Or.inl (Int32.toInt_inj.mp q))
  · exact Or.inr (Or.inr (Or.inl (Int32.toInt_inj.mp q)))
  · exact Or.inr (Or.inr (Or.inr (Int32.toInt_inj.mp q)))
theorem own_ch (x : Int32) : ¬ 255 < chr (x &&& 255) := by
  have h := c_mask x 255 8 (by decide) (by decide)
  have c := c_i2c (x &&& 255)
  rw [Int32.lt_iff_toInt_lt]
  have e : (255 : Int32).toInt = 255 := rfl
  have e2 : (chr (x &&& 255)).toInt = (x &&& 255).toUInt32.toUInt16.toUInt32.toInt32.toInt := rfl
  omega
theorem own_f0 (p1 p2 p3 : Int32) : ∀ v ∈ ([] : List Value), fits .byte v = true := fun v hv => nomatch hv
theorem own_f1 (p1 p2 p3 : Int32) : ∀ v ∈ ([(.int (byt p1))] : List Value), fits .byte v = true := fun v hv => by
  simp only [List.mem_cons, List.not_mem_nil, or_false] at hv
  subst hv; exact fits_byt _
theorem own_f2 (p1 p2 p3 : Int32) : ∀ v ∈ ([(.int (byt p1)), (.int (byt p2))] : List Value), fits .byte v = true := fun v hv => by
  simp only [List.mem_cons, List.not_mem_nil, or_false] at hv
  rcases hv with rfl | rfl <;> exact fits_byt _
theorem own_f3 (p1 p2 p3 : Int32) : ∀ v ∈ ([(.int (byt p1)), (.int (byt p2)), (.int (byt p3))] : List Value), fits .byte v = true := fun v hv => by
  simp only [List.mem_cons, List.not_mem_nil, or_false] at hv
  rcases hv with rfl | rfl | rfl <;> exact fits_byt _
theorem pd__C_Ljava_lang_String_ : parseMethodDescriptor "(C)Ljava/lang/String;" = some ⟨[.char], some (.object "java/lang/String")⟩ := by decide +kernel
theorem pd__IIII__B : parseMethodDescriptor "(IIII)[B" = some ⟨[.int, .int, .int, .int], some (.array .byte)⟩ := by decide +kernel
theorem pd__Ljava_lang_String__B_V : parseMethodDescriptor "(Ljava/lang/String;[B)V" = some ⟨[(.object "java/lang/String"), (.array .byte)], none⟩ := by decide +kernel
theorem pd___BI_V : parseMethodDescriptor "([BI)V" = some ⟨[(.array .byte), .int], none⟩ := by decide +kernel
theorem pd____B : parseMethodDescriptor "()[B" = some ⟨[], some (.array .byte)⟩ := by decide +kernel
theorem pd___BIIII_Z : parseMethodDescriptor "([BIIII)Z" = some ⟨[(.array .byte), .int, .int, .int, .int], some .boolean⟩ := by decide +kernel
theorem ef_0 (x0 : Int32) (x1 : Int32) (x2 : Int32) (x3 : Int32) (x4 : Int32) (m : MethodId) : entryFrame m #[(.int x0), (.int x1), (.int x2), (.int x3), (.int x4)] maxLocals = mkF m 0 #[.val (.int x0), .val (.int x1), .val (.int x2), .val (.int x3), .val (.int x4), .unset, .unset, .unset, .unset, .unset, .unset] [] := by first | (simp [entryFrame, mkF, argsToLocals, Value.category, maxLocals]; done) | rfl
def Q0 (Z : State) (p0 : Int32) (p1 : Int32) (p2 : Int32) (p3 : Int32) (p4 : Int32) (cs : Int32) (h0 : Heap) (n0 : Nat) : Option Value → Heap → Prop := fun v h => v = some (.int 1)
set_option maxRecDepth 65536 in
set_option maxHeartbeats 40000000 in
theorem rm0 (l : Launch) (Z : State) (a0 : Array Value) (hw : ∀ d ∈ tables_1, d.before a0 Z = true) (p0 : Int32) (p1 : Int32) (p2 : Int32) (p3 : Int32) (p4 : Int32) (cs : Int32) (h0 : Heap) (n0 : Nat) (Z0 : n0 ≤ h0.size) (S1 : Sta Z h0 "java/lang/String" "COMPACT_STRINGS" "Z" (.int cs)) (k0 : ¬ cs = 0) : CtrW l Z x code maxLocals ret room_1 #[(.int p0), (.int p1), (.int p2), (.int p3), (.int p4)] h0 n0 (Q0 Z p0 p1 p2 p3 p4 cs h0 n0) := by
  refine CtrW.of (plainFor_of_name pn_6) (ef_0 p0 p1 p2 p3 p4) ?_
  intro p e s m below meth c T0 hx hby hml hown hnm hret hlk hZ X0 e0
  have N0 := Fr.nil n0
  change c.maxLocals = 11 at hml
  change meth.sig.returnType = some .boolean at hret
  refine g_iloadN X0 hx (hb hby at_0) (pc' := 1) rfl rfl ?_
  refine g_iconst X0 hx (hb hby at_1) (pc' := 2) rfl (z := (3 : Int32)) rfl ?_
  refine g_iand X0 hx (hb hby at_2) (pc' := 3) rfl ?_
  rcases own_and3 p3 with qn | qn | qn | qn
  · skip
    refine Go.cast (show (mkF m 3 #[.val (.int p0), .val (.int p1), .val (.int p2), .val (.int p3), .val (.int p4), .unset, .unset, .unset, .unset, .unset, .unset] [(.int (p3 &&& (3 : Int32)))]) = (mkF m 3 #[.val (.int p0), .val (.int p1), .val (.int p2), .val (.int p3), .val (.int p4), .unset, .unset, .unset, .unset, .unset, .unset] [(.int (0 : Int32))]) from by rw [show (p3 &&& (3 : Int32)) = (0 : Int32) from qn]) ?_
    refine g_istore X0 hx (hb hby at_3) (pc' := 5) rfl (Ls' := #[.val (.int p0), .val (.int p1), .val (.int p2), .val (.int p3), .val (.int p4), .val (.int (0 : Int32)), .unset, .unset, .unset, .unset, .unset]) rfl ?_
    refine g_iload X0 hx (hb hby at_5) (pc' := 7) rfl rfl ?_
    refine g_iconst X0 hx (hb hby at_7) (pc' := 8) rfl (z := (1 : Int32)) rfl ?_
    refine g_iushr X0 hx (hb hby at_8) (pc' := 9) rfl ?_
    refine g_sipush X0 hx (hb hby at_9) (pc' := 12) rfl (z := (255 : Int32)) rfl ?_
    refine g_iand X0 hx (hb hby at_12) (pc' := 13) rfl ?_
    refine g_i2c X0 hx (hb hby at_13) (pc' := 14) rfl ?_
    obtain ⟨cc, ecc⟩ : ∃ z : Int32, z = (chr ((ushr p4 (1 : Int32)) &&& (255 : Int32))) := ⟨_, rfl⟩
    refine Go.cast (show (mkF m 14 #[.val (.int p0), .val (.int p1), .val (.int p2), .val (.int p3), .val (.int p4), .val (.int (0 : Int32)), .unset, .unset, .unset, .unset, .unset] [(.int (chr ((ushr p4 (1 : Int32)) &&& (255 : Int32))))]) = (mkF m 14 #[.val (.int p0), .val (.int p1), .val (.int p2), .val (.int p3), .val (.int p4), .val (.int (0 : Int32)), .unset, .unset, .unset, .unset, .unset] [(.int cc)]) from by rw [ecc]) ?_
    have kc : ¬ 255 < cc := by rw [ecc]; exact own_ch _
    obtain ⟨v228, T228, h228, L228, X228, e228, N228, q228, st228⟩ := h_static X0 hx (W := 0) (Ls := #[.val (.int p0), .val (.int p1), .val (.int p2), .val (.int p3), .val (.int p4), .val (.int (0 : Int32)), .unset, .unset, .unset, .unset, .unset]) (argsL := [(.int cc)]) (rest := []) hZ e0 N0 hml hown (rm1 l Z a0 hw cc cs h0 n0 Z0 S1 k0 kc) (hw _ (List.mem_of_getElem? (i := 0) rfl)) (hw _ (List.mem_of_getElem? (i := 1) rfl)) (hw _ (List.mem_of_getElem? (i := 2) rfl)) (hw _ (List.mem_of_getElem? (i := 3) rfl)) (by decide) pd__C_Ljava_lang_String_ rfl rfl (hb hby at_14) rfl (by decide) (by decide) (by decide) (by decide)
    obtain ⟨r228, rfl, ge228, sz228, K228, A228⟩ := q228
    have Z229 : n0 ≤ h228.size := Nat.le_trans Z0 K228.1
    refine Go.movp st228 (mkF m 17 #[.val (.int p0), .val (.int p1), .val (.int p2), .val (.int p3), .val (.int p4), .val (.int (0 : Int32)), .unset, .unset, .unset, .unset, .unset] [(.ref r228)]) rfl ?_
    refine g_astore X228 hx (hb hby at_17) (pc' := 19) rfl rfl (Ls' := #[.val (.int p0), .val (.int p1), .val (.int p2), .val (.int p3), .val (.int p4), .val (.int (0 : Int32)), .val (.ref r228), .unset, .unset, .unset, .unset]) rfl ?_
    refine g_iload X228 hx (hb hby at_19) (pc' := 21) rfl rfl ?_
    refine g_iconst X228 hx (hb hby at_21) (pc' := 22) rfl (z := (1 : Int32)) rfl ?_
    refine g_iand X228 hx (hb hby at_22) (pc' := 23) rfl ?_
    refine g_if_eq X228 hx (hb hby at_23) (pc1 := 26) rfl (by decide) (pc2 := 52) (by decide) (fun hc23 => ?_) (fun hc23 => ?_)
    · skip
      refine g_iload X228 hx (hb hby at_52) (pc' := 54) rfl rfl ?_
      refine g_iloadN X228 hx (hb hby at_54) (pc' := 55) rfl rfl ?_
      refine g_iloadN X228 hx (hb hby at_55) (pc' := 56) rfl rfl ?_
      refine g_iloadN X228 hx (hb hby at_56) (pc' := 57) rfl rfl ?_
      obtain ⟨v230, T230, h230, L230, X230, e230, N230, q230, st230⟩ := h_static X228 hx (W := 0) (Ls := #[.val (.int p0), .val (.int p1), .val (.int p2), .val (.int p3), .val (.int p4), .val (.int (0 : Int32)), .val (.ref r228), .unset, .unset, .unset, .unset]) (argsL := [(.int (0 : Int32)), (.int p0), (.int p1), (.int p2)]) (rest := []) hZ e228 N228 hml hown (rm6_0 l Z a0 hw p0 p1 p2 h228 n0 Z229) (hw _ (List.mem_of_getElem? (i := 26) rfl)) (hw _ (List.mem_of_getElem? (i := 27) rfl)) (hw _ (List.mem_of_getElem? (i := 28) rfl)) (hw _ (List.mem_of_getElem? (i := 29) rfl)) (by decide) pd__IIII__B rfl rfl (hb hby at_57) rfl (by decide) (by decide) (by decide) (by decide)
      obtain ⟨r230, rfl, ge230, sz230, K230, V230, B230⟩ := q230
      have f231 := A228.keep K230
      have Z232 : n0 ≤ h230.size := Nat.le_trans Z229 K230.1
      have ne233 : r228 ≠ r230 := Nat.ne_of_lt (Nat.lt_of_lt_of_le A228.lt sz230)
      refine Go.movp st230 (mkF m 60 #[.val (.int p0), .val (.int p1), .val (.int p2), .val (.int p3), .val (.int p4), .val (.int (0 : Int32)), .val (.ref r228), .unset, .unset, .unset, .unset] [(.ref r230)]) rfl ?_
      refine g_astore X230 hx (hb hby at_60) (pc' := 62) rfl rfl (Ls' := #[.val (.int p0), .val (.int p1), .val (.int p2), .val (.int p3), .val (.int p4), .val (.int (0 : Int32)), .val (.ref r228), .val (.ref r230), .unset, .unset, .unset]) rfl ?_
      obtain ⟨T234, h234, X234, e234, E234, A234, D234, -, st234⟩ := newO X230 hx hZ hown (hw _ (List.mem_of_getElem? (i := 30) rfl)) (hw _ (List.mem_of_getElem? (i := 31) rfl)) (hw _ (List.mem_of_getElem? (i := 32) rfl)) e230 (g := (mkF m 62 #[.val (.int p0), .val (.int p1), .val (.int p2), .val (.int p3), .val (.int p4), .val (.int (0 : Int32)), .val (.ref r228), .val (.ref r230), .unset, .unset, .unset] [])) rfl (hb hby at_62) (by decide) (by decide)
      obtain ⟨b234, g234⟩ : ∃ z, z = h230.size := ⟨_, rfl⟩
      rw [← g234] at A234 D234 st234
      have ne235 : r228 ≠ b234 := Nat.ne_of_lt (g234 ▸ f231.lt)
      have ne236 : r230 ≠ b234 := Nat.ne_of_lt (g234 ▸ V230.lt)
      have ge237 : n0 ≤ b234 := g234 ▸ Z232
      have f238 := Exa.ext E234 f231
      have f239 := V230.ext E234
      have f240 := Exa.ext E234 B230
      have Z241 : n0 ≤ h234.size := Nat.le_trans Z232 E234.1
      have f242 : Fld Z h234 b234 "com/example/stream_log_client/streamlogclient/protocol/Header" "key" "Ljava/lang/String;" .null := D234 (Or.inr (hw _ (List.mem_of_getElem? (i := 46) rfl))) (ty := (.object "java/lang/String")) (by decide)
      have f243 : Fld Z h234 b234 "com/example/stream_log_client/streamlogclient/protocol/Header" "value" "[B" .null := D234 (Or.inr (hw _ (List.mem_of_getElem? (i := 57) rfl))) (ty := (.array .byte)) (by decide)
      refine Go.movp st234 (mkF m 65 #[.val (.int p0), .val (.int p1), .val (.int p2), .val (.int p3), .val (.int p4), .val (.int (0 : Int32)), .val (.ref r228), .val (.ref r230), .unset, .unset, .unset] [(.ref b234)]) rfl ?_
      refine g_dup X234 hx (hb hby at_65) (pc' := 66) rfl rfl ?_
      refine g_aload X234 hx (hb hby at_66) (pc' := 68) rfl rfl rfl ?_
      refine g_aload X234 hx (hb hby at_68) (pc' := 70) rfl rfl rfl ?_
      obtain ⟨v244, T244, h244, L244, X244, e244, N244, q244, S244, hZ, hown, st244⟩ := h_specialS (a := b234) X234 hx (W := 1) (Ls := #[.val (.int p0), .val (.int p1), .val (.int p2), .val (.int p3), .val (.int p4), .val (.int (0 : Int32)), .val (.ref r228), .val (.ref r230), .unset, .unset, .unset]) (argsL := [(.ref r228), (.ref r230)]) (rest := [(.ref b234)]) hZ e234 N230 hml hown rfl (rm7a l Z a0 hw b234 r228 r230 [] h234 n0 Z241 f242 f243 A234 ge237 f238 ne235 f239 f240 ne236 (own_f0 p0 p1 p2) (by simp)) (hw _ (List.mem_of_getElem? (i := 33) rfl)) (hw _ (List.mem_of_getElem? (i := 34) rfl)) (hw _ (List.mem_of_getElem? (i := 32) rfl)) (hw _ (List.mem_of_getElem? (i := 35) rfl)) (by decide) pd__Ljava_lang_String__B_V rfl rfl (hb hby at_70) rfl (by decide) (by decide) (by decide) (by decide)
      obtain ⟨r244, rfl, ge244, sz244, K244, A244, F244, V244, B244⟩ := q244
      have f245 := f238.keep K244
      have f246 := f239.keep K244 (ninS ne236 nin0)
      have f247 := f240.keep K244
      have f248 := A234.keep K244
      have Z249 : n0 ≤ h244.size := Nat.le_trans Z241 K244.1
      have ne250 : r228 ≠ r244 := Nat.ne_of_lt (Nat.lt_of_lt_of_le f238.lt sz244)
      have ne251 : r230 ≠ r244 := Nat.ne_of_lt (Nat.lt_of_lt_of_le f239.lt sz244)
      have ne252 : b234 ≠ r244 := Nat.ne_of_lt (Nat.lt_of_lt_of_le A234.lt sz244)
      refine Go.movp st244 (mkF m 73 #[.val (.int p0), .val (.int p1), .val (.int p2), .val (.int p3), .val (.int p4), .val (.int (0 : Int32)), .val (.ref r228), .val (.ref r230), .unset, .unset, .unset] [(.ref b234)]) rfl ?_
      refine g_astore X244 hx (hb hby at_73) (pc' := 75) rfl rfl (Ls' := #[.val (.int p0), .val (.int p1), .val (.int p2), .val (.int p3), .val (.int p4), .val (.int (0 : Int32)), .val (.ref r228), .val (.ref r230), .val (.ref b234), .unset, .unset]) rfl ?_
      refine g_aload X244 hx (hb hby at_75) (pc' := 77) rfl rfl rfl ?_
      refine g_iload X244 hx (hb hby at_77) (pc' := 79) rfl rfl ?_
      obtain ⟨v253, T253, h253, L253, X253, e253, N253, q253, st253⟩ := h_static X244 hx (W := 0) (Ls := #[.val (.int p0), .val (.int p1), .val (.int p2), .val (.int p3), .val (.int p4), .val (.int (0 : Int32)), .val (.ref r228), .val (.ref r230), .val (.ref b234), .unset, .unset]) (argsL := [(.ref r230), (.int (0 : Int32))]) (rest := []) hZ e244 N244 hml hown (rm9_0 l Z a0 hw r230  h244 n0 Z249 f246 ge230) (hw _ (List.mem_of_getElem? (i := 58) rfl)) (hw _ (List.mem_of_getElem? (i := 59) rfl)) (hw _ (List.mem_of_getElem? (i := 28) rfl)) (hw _ (List.mem_of_getElem? (i := 60) rfl)) (by decide) pd___BI_V rfl rfl (hb hby at_79) rfl (by decide) (by decide) (by decide) (by decide)
      obtain ⟨rfl, K253, V253⟩ := q253
      have f254 := f245.keep K253
      have f255 := f247.keep K253
      have f256 := A244.keep K253
      have f257 := Nat.le_trans (Nat.le_refl _) K253.1
      have f258 := F244.keep K253 (ninS (Ne.symm ne236) nin0)
      have f259 := V244.keep K253 (ninS (Ne.symm ne251) nin0)
      have f260 := B244.keep K253
      have Z261 : n0 ≤ h253.size := Nat.le_trans Z249 K253.1
      refine Go.movp st253 (mkF m 82 #[.val (.int p0), .val (.int p1), .val (.int p2), .val (.int p3), .val (.int p4), .val (.int (0 : Int32)), .val (.ref r228), .val (.ref r230), .val (.ref b234), .unset, .unset] []) rfl ?_
      refine g_aload X253 hx (hb hby at_82) (pc' := 84) rfl rfl rfl ?_
      obtain ⟨v262, T262, h262, L262, X262, e262, N262, q262, st262⟩ := h_virtual (a := b234) (z := (⟨"com/example/stream_log_client/streamlogclient/protocol/Header", "value", "()[B"⟩ : MethodName)) X253 hx (W := 0) (Ls := #[.val (.int p0), .val (.int p1), .val (.int p2), .val (.int p3), .val (.int p4), .val (.int (0 : Int32)), .val (.ref r228), .val (.ref r230), .val (.ref b234), .unset, .unset]) (argsL := []) (rest := []) hZ e253 N253 hml hown (rm10a l Z a0 hw b234 r244 [] h253 n0 Z261 f258 f259 f260 (own_f0 p0 p1 p2) (by simp)) f256 (hw _ (List.mem_of_getElem? (i := 61) rfl)) (hw _ (List.mem_of_getElem? (i := 62) rfl)) (notFace_of_selects (args := #[]) (mvT hZ (hw _ (List.mem_of_getElem? (i := 64) rfl)))) (hw _ (List.mem_of_getElem? (i := 64) rfl)) (hw _ (List.mem_of_getElem? (i := 63) rfl)) (hw _ (List.mem_of_getElem? (i := 32) rfl)) (hw _ (List.mem_of_getElem? (i := 65) rfl)) (by decide) pd____B rfl rfl (hb hby at_84) rfl (by decide) (by decide) (by decide) (by decide)
      obtain ⟨r262, rfl, ge262, sz262, K262, V262, B262⟩ := q262
      have f263 := f254.keep K262
      have f264 := f255.keep K262
      have f265 := f256.keep K262
      have f266 := Nat.le_trans f257 K262.1
      have f267 := f258.keep K262 nin0
      have f268 := f259.keep K262 nin0
      have f269 := f260.keep K262
      have f270 := V253.keep K262 nin0
      have Z271 : n0 ≤ h262.size := Nat.le_trans Z261 K262.1
      have ne272 : r228 ≠ r262 := Nat.ne_of_lt (Nat.lt_of_lt_of_le f254.lt sz262)
      have ne273 : r230 ≠ r262 := Nat.ne_of_lt (Nat.lt_of_lt_of_le f255.lt sz262)
      have ne274 : b234 ≠ r262 := Nat.ne_of_lt (Nat.lt_of_lt_of_le f256.lt sz262)
      have ne275 : r244 ≠ r262 := Nat.ne_of_lt (Nat.lt_of_lt_of_le f259.lt sz262)
      refine Go.movp st262 (mkF m 87 #[.val (.int p0), .val (.int p1), .val (.int p2), .val (.int p3), .val (.int p4), .val (.int (0 : Int32)), .val (.ref r228), .val (.ref r230), .val (.ref b234), .unset, .unset] [(.ref r262)]) rfl ?_
      refine g_astore X262 hx (hb hby at_87) (pc' := 89) rfl rfl (Ls' := #[.val (.int p0), .val (.int p1), .val (.int p2), .val (.int p3), .val (.int p4), .val (.int (0 : Int32)), .val (.ref r228), .val (.ref r230), .val (.ref b234), .val (.ref r262), .unset]) rfl ?_
      refine g_aload X262 hx (hb hby at_89) (pc' := 91) rfl rfl rfl ?_
      refine g_iload X262 hx (hb hby at_91) (pc' := 93) rfl rfl ?_
      refine g_iloadN X262 hx (hb hby at_93) (pc' := 94) rfl rfl ?_
      refine g_iloadN X262 hx (hb hby at_94) (pc' := 95) rfl rfl ?_
      refine g_iloadN X262 hx (hb hby at_95) (pc' := 96) rfl rfl ?_
      obtain ⟨v276, T276, h276, L276, X276, e276, N276, q276, st276⟩ := h_static X262 hx (W := 0) (Ls := #[.val (.int p0), .val (.int p1), .val (.int p2), .val (.int p3), .val (.int p4), .val (.int (0 : Int32)), .val (.ref r228), .val (.ref r230), .val (.ref b234), .val (.ref r262), .unset]) (argsL := [(.ref r262), (.int (0 : Int32)), (.int p0), (.int p1), (.int p2)]) (rest := []) hZ e262 N262 hml hown (rm11_0 l Z a0 hw r262 p0 p1 p2 h262 n0 Z271 V262) (hw _ (List.mem_of_getElem? (i := 66) rfl)) (hw _ (List.mem_of_getElem? (i := 67) rfl)) (hw _ (List.mem_of_getElem? (i := 28) rfl)) (hw _ (List.mem_of_getElem? (i := 68) rfl)) (by decide) pd___BIIII_Z rfl rfl (hb hby at_96) rfl (by decide) (by decide) (by decide) (by decide)
      obtain ⟨rfl, rfl⟩ := q276
      refine Go.movp st276 (mkF m 99 #[.val (.int p0), .val (.int p1), .val (.int p2), .val (.int p3), .val (.int p4), .val (.int (0 : Int32)), .val (.ref r228), .val (.ref r230), .val (.ref b234), .val (.ref r262), .unset] [(.int (1 : Int32))]) rfl ?_
      refine g_if_ne X276 hx (hb hby at_99) (pc1 := 102) rfl (by decide) (pc2 := 104) (by decide) (fun hc99 => ?_) (fun hc99 => absurd hc99 (by decide))
      refine g_aload X276 hx (hb hby at_104) (pc' := 106) rfl rfl rfl ?_
      refine g_aload X276 hx (hb hby at_106) (pc' := 108) rfl rfl rfl ?_
      refine g_acmp_ne X276 hx (hb hby at_108) rfl rfl (pc1 := 111) rfl (by decide) (pc2 := 113) (by decide) (fun hc108 => ?_) (fun hc108 => absurd hc108 (fun q => (Ne.symm ne273) (Value.ref.inj q)))
      refine g_aload X276 hx (hb hby at_113) (pc' := 115) rfl rfl rfl ?_
      refine g_iload X276 hx (hb hby at_115) (pc' := 117) rfl rfl ?_
      obtain ⟨v277, T277, h277, L277, X277, e277, N277, q277, st277⟩ := h_static X276 hx (W := 0) (Ls := #[.val (.int p0), .val (.int p1), .val (.int p2), .val (.int p3), .val (.int p4), .val (.int (0 : Int32)), .val (.ref r228), .val (.ref r230), .val (.ref b234), .val (.ref r262), .unset]) (argsL := [(.ref r262), (.int (0 : Int32))]) (rest := []) hZ e276 N276 hml hown (rm9_0 l Z a0 hw r262  h262 n0 Z271 V262 ge262) (hw _ (List.mem_of_getElem? (i := 58) rfl)) (hw _ (List.mem_of_getElem? (i := 59) rfl)) (hw _ (List.mem_of_getElem? (i := 28) rfl)) (hw _ (List.mem_of_getElem? (i := 60) rfl)) (by decide) pd___BI_V rfl rfl (hb hby at_117) rfl (by decide) (by decide) (by decide) (by decide)
      obtain ⟨rfl, K277, V277⟩ := q277
      have f278 := f263.keep K277
      have f279 := f264.keep K277
      have f280 := f265.keep K277
      have f281 := Nat.le_trans f266 K277.1
      have f282 := f267.keep K277 (ninS ne274 nin0)
      have f283 := f268.keep K277 (ninS ne275 nin0)
      have f284 := f269.keep K277
      have f285 := f270.keep K277 (ninS ne273 nin0)
      have f286 := B262.keep K277
      have Z287 : n0 ≤ h277.size := Nat.le_trans Z271 K277.1
      refine Go.movp st277 (mkF m 120 #[.val (.int p0), .val (.int p1), .val (.int p2), .val (.int p3), .val (.int p4), .val (.int (0 : Int32)), .val (.ref r228), .val (.ref r230), .val (.ref b234), .val (.ref r262), .unset] []) rfl ?_
      refine g_aload X277 hx (hb hby at_120) (pc' := 122) rfl rfl rfl ?_
      obtain ⟨v288, T288, h288, L288, X288, e288, N288, q288, st288⟩ := h_virtual (a := b234) (z := (⟨"com/example/stream_log_client/streamlogclient/protocol/Header", "value", "()[B"⟩ : MethodName)) X277 hx (W := 0) (Ls := #[.val (.int p0), .val (.int p1), .val (.int p2), .val (.int p3), .val (.int p4), .val (.int (0 : Int32)), .val (.ref r228), .val (.ref r230), .val (.ref b234), .val (.ref r262), .unset]) (argsL := []) (rest := []) hZ e277 N277 hml hown (rm10a l Z a0 hw b234 r244 [] h277 n0 Z287 f282 f283 f284 (own_f0 p0 p1 p2) (by simp)) f280 (hw _ (List.mem_of_getElem? (i := 61) rfl)) (hw _ (List.mem_of_getElem? (i := 62) rfl)) (notFace_of_selects (args := #[]) (mvT hZ (hw _ (List.mem_of_getElem? (i := 64) rfl)))) (hw _ (List.mem_of_getElem? (i := 64) rfl)) (hw _ (List.mem_of_getElem? (i := 63) rfl)) (hw _ (List.mem_of_getElem? (i := 32) rfl)) (hw _ (List.mem_of_getElem? (i := 65) rfl)) (by decide) pd____B rfl rfl (hb hby at_122) rfl (by decide) (by decide) (by decide) (by decide)
      obtain ⟨r288, rfl, ge288, sz288, K288, V288, B288⟩ := q288
      have f289 := f278.keep K288
      have f290 := f279.keep K288
      have f291 := f280.keep K288
      have f292 := Nat.le_trans f281 K288.1
      have f293 := f282.keep K288 nin0
      have f294 := f283.keep K288 nin0
      have f295 := f284.keep K288
      have f296 := f285.keep K288 nin0
      have f297 := f286.keep K288
      have f298 := V277.keep K288 nin0
      have Z299 : n0 ≤ h288.size := Nat.le_trans Z287 K288.1
      have ne300 : r228 ≠ r288 := Nat.ne_of_lt (Nat.lt_of_lt_of_le f278.lt sz288)
      have ne301 : r230 ≠ r288 := Nat.ne_of_lt (Nat.lt_of_lt_of_le f279.lt sz288)
      have ne302 : b234 ≠ r288 := Nat.ne_of_lt (Nat.lt_of_lt_of_le f280.lt sz288)
      have ne303 : r244 ≠ r288 := Nat.ne_of_lt (Nat.lt_of_lt_of_le f283.lt sz288)
      have ne304 : r262 ≠ r288 := Nat.ne_of_lt (Nat.lt_of_lt_of_le f286.lt sz288)
      refine Go.movp st288 (mkF m 125 #[.val (.int p0), .val (.int p1), .val (.int p2), .val (.int p3), .val (.int p4), .val (.int (0 : Int32)), .val (.ref r228), .val (.ref r230), .val (.ref b234), .val (.ref r262), .unset] [(.ref r288)]) rfl ?_
      refine g_astore X288 hx (hb hby at_125) (pc' := 127) rfl rfl (Ls' := #[.val (.int p0), .val (.int p1), .val (.int p2), .val (.int p3), .val (.int p4), .val (.int (0 : Int32)), .val (.ref r228), .val (.ref r230), .val (.ref b234), .val (.ref r262), .val (.ref r288)]) rfl ?_
      refine g_aload X288 hx (hb hby at_127) (pc' := 129) rfl rfl rfl ?_
      refine g_aload X288 hx (hb hby at_129) (pc' := 131) rfl rfl rfl ?_
      refine g_acmp_ne X288 hx (hb hby at_131) rfl rfl (pc1 := 134) rfl (by decide) (pc2 := 136) (by decide) (fun hc131 => ?_) (fun hc131 => absurd hc131 (fun q => (Ne.symm ne304) (Value.ref.inj q)))
      refine g_aload X288 hx (hb hby at_136) (pc' := 138) rfl rfl rfl ?_
      refine g_iload X288 hx (hb hby at_138) (pc' := 140) rfl rfl ?_
      refine g_iloadN X288 hx (hb hby at_140) (pc' := 141) rfl rfl ?_
      refine g_iloadN X288 hx (hb hby at_141) (pc' := 142) rfl rfl ?_
      refine g_iloadN X288 hx (hb hby at_142) (pc' := 143) rfl rfl ?_
      obtain ⟨v305, T305, h305, L305, X305, e305, N305, q305, st305⟩ := h_static X288 hx (W := 0) (Ls := #[.val (.int p0), .val (.int p1), .val (.int p2), .val (.int p3), .val (.int p4), .val (.int (0 : Int32)), .val (.ref r228), .val (.ref r230), .val (.ref b234), .val (.ref r262), .val (.ref r288)]) (argsL := [(.ref r288), (.int (0 : Int32)), (.int p0), (.int p1), (.int p2)]) (rest := []) hZ e288 N288 hml hown (rm11_0 l Z a0 hw r288 p0 p1 p2 h288 n0 Z299 V288) (hw _ (List.mem_of_getElem? (i := 66) rfl)) (hw _ (List.mem_of_getElem? (i := 67) rfl)) (hw _ (List.mem_of_getElem? (i := 28) rfl)) (hw _ (List.mem_of_getElem? (i := 68) rfl)) (by decide) pd___BIIII_Z rfl rfl (hb hby at_143) rfl (by decide) (by decide) (by decide) (by decide)
      obtain ⟨rfl, rfl⟩ := q305
      refine Go.movp st305 (mkF m 146 #[.val (.int p0), .val (.int p1), .val (.int p2), .val (.int p3), .val (.int p4), .val (.int (0 : Int32)), .val (.ref r228), .val (.ref r230), .val (.ref b234), .val (.ref r262), .val (.ref r288)] [(.int (1 : Int32))]) rfl ?_
      exact g_zreturn X305 hx rfl hret (hb hby at_146) N305 hlk (fun v t => endW S244 (show _ ≤ T305.heap.size by rw [e305]; exact f292) (by decide) (by decide) v) (by rw [e305]; exact rfl)
    · skip
      obtain ⟨T306, h306, X306, e306, E306, A306, D306, -, st306⟩ := newO X228 hx hZ hown (hw _ (List.mem_of_getElem? (i := 30) rfl)) (hw _ (List.mem_of_getElem? (i := 31) rfl)) (hw _ (List.mem_of_getElem? (i := 32) rfl)) e228 (g := (mkF m 26 #[.val (.int p0), .val (.int p1), .val (.int p2), .val (.int p3), .val (.int p4), .val (.int (0 : Int32)), .val (.ref r228), .unset, .unset, .unset, .unset] [])) rfl (hb hby at_26) (by decide) (by decide)
      obtain ⟨b306, g306⟩ : ∃ z, z = h228.size := ⟨_, rfl⟩
      rw [← g306] at A306 D306 st306
      have ne307 : r228 ≠ b306 := Nat.ne_of_lt (g306 ▸ A228.lt)
      have ge308 : n0 ≤ b306 := g306 ▸ Z229
      have f309 := Exa.ext E306 A228
      have Z310 : n0 ≤ h306.size := Nat.le_trans Z229 E306.1
      have f311 : Fld Z h306 b306 "com/example/stream_log_client/streamlogclient/protocol/Header" "key" "Ljava/lang/String;" .null := D306 (Or.inr (hw _ (List.mem_of_getElem? (i := 46) rfl))) (ty := (.object "java/lang/String")) (by decide)
      have f312 : Fld Z h306 b306 "com/example/stream_log_client/streamlogclient/protocol/Header" "value" "[B" .null := D306 (Or.inr (hw _ (List.mem_of_getElem? (i := 57) rfl))) (ty := (.array .byte)) (by decide)
      refine Go.movp st306 (mkF m 29 #[.val (.int p0), .val (.int p1), .val (.int p2), .val (.int p3), .val (.int p4), .val (.int (0 : Int32)), .val (.ref r228), .unset, .unset, .unset, .unset] [(.ref b306)]) rfl ?_
      refine g_dup X306 hx (hb hby at_29) (pc' := 30) rfl rfl ?_
      refine g_aload X306 hx (hb hby at_30) (pc' := 32) rfl rfl rfl ?_
      refine g_aconst_null X306 hx (hb hby at_32) (pc' := 33) rfl ?_
      obtain ⟨v313, T313, h313, L313, X313, e313, N313, q313, S313, hZ, hown, st313⟩ := h_specialS (a := b306) X306 hx (W := 1) (Ls := #[.val (.int p0), .val (.int p1), .val (.int p2), .val (.int p3), .val (.int p4), .val (.int (0 : Int32)), .val (.ref r228), .unset, .unset, .unset, .unset]) (argsL := [(.ref r228), .null]) (rest := [(.ref b306)]) hZ e306 N228 hml hown rfl (rm7n l Z a0 hw b306 r228 h306 n0 Z310 f311 f312 A306 ge308 f309 ne307) (hw _ (List.mem_of_getElem? (i := 33) rfl)) (hw _ (List.mem_of_getElem? (i := 34) rfl)) (hw _ (List.mem_of_getElem? (i := 32) rfl)) (hw _ (List.mem_of_getElem? (i := 35) rfl)) (by decide) pd__Ljava_lang_String__B_V rfl rfl (hb hby at_33) rfl (by decide) (by decide) (by decide) (by decide)
      obtain ⟨rfl, K313, A313, F313⟩ := q313
      have f314 := f309.keep K313
      have f315 := A306.keep K313
      have Z316 : n0 ≤ h313.size := Nat.le_trans Z310 K313.1
      refine Go.movp st313 (mkF m 36 #[.val (.int p0), .val (.int p1), .val (.int p2), .val (.int p3), .val (.int p4), .val (.int (0 : Int32)), .val (.ref r228), .unset, .unset, .unset, .unset] [(.ref b306)]) rfl ?_
      refine g_astore X313 hx (hb hby at_36) (pc' := 38) rfl rfl (Ls' := #[.val (.int p0), .val (.int p1), .val (.int p2), .val (.int p3), .val (.int p4), .val (.int (0 : Int32)), .val (.ref r228), .val (.ref b306), .unset, .unset, .unset]) rfl ?_
      refine g_aload X313 hx (hb hby at_38) (pc' := 40) rfl rfl rfl ?_
      obtain ⟨v317, T317, h317, L317, X317, e317, N317, q317, st317⟩ := h_virtual (a := b306) (z := (⟨"com/example/stream_log_client/streamlogclient/protocol/Header", "value", "()[B"⟩ : MethodName)) X313 hx (W := 0) (Ls := #[.val (.int p0), .val (.int p1), .val (.int p2), .val (.int p3), .val (.int p4), .val (.int (0 : Int32)), .val (.ref r228), .val (.ref b306), .unset, .unset, .unset]) (argsL := []) (rest := []) hZ e313 N313 hml hown (rm10n l Z a0 hw b306 h313 n0 Z316 F313) A313 (hw _ (List.mem_of_getElem? (i := 61) rfl)) (hw _ (List.mem_of_getElem? (i := 62) rfl)) (notFace_of_selects (args := #[]) (mvT hZ (hw _ (List.mem_of_getElem? (i := 64) rfl)))) (hw _ (List.mem_of_getElem? (i := 64) rfl)) (hw _ (List.mem_of_getElem? (i := 63) rfl)) (hw _ (List.mem_of_getElem? (i := 32) rfl)) (hw _ (List.mem_of_getElem? (i := 65) rfl)) (by decide) pd____B rfl rfl (hb hby at_40) rfl (by decide) (by decide) (by decide) (by decide)
      obtain ⟨rfl, rfl⟩ := q317
      refine Go.movp st317 (mkF m 43 #[.val (.int p0), .val (.int p1), .val (.int p2), .val (.int p3), .val (.int p4), .val (.int (0 : Int32)), .val (.ref r228), .val (.ref b306), .unset, .unset, .unset] [.null]) rfl ?_
      refine g_ifnonnull_n X317 hx (hb hby at_43) (pc' := 46) rfl ?_
      refine g_iconst X317 hx (hb hby at_46) (pc' := 47) rfl (z := (1 : Int32)) rfl ?_
      refine g_goto X317 hx (hb hby at_47) (by decide) (pc' := 51) (by decide) ?_
      exact g_zreturn X317 hx rfl hret (hb hby at_51) N317 hlk (fun v t => endW S313 (show _ ≤ T317.heap.size by rw [e317]; exact (Nat.le_refl _)) (by decide) (by decide) v) (by rw [e317]; exact rfl)
  · skip
    refine Go.cast (show (mkF m 3 #[.val (.int p0), .val (.int p1), .val (.int p2), .val (.int p3), .val (.int p4), .unset, .unset, .unset, .unset, .unset, .unset] [(.int (p3 &&& (3 : Int32)))]) = (mkF m 3 #[.val (.int p0), .val (.int p1), .val (.int p2), .val (.int p3), .val (.int p4), .unset, .unset, .unset, .unset, .unset, .unset] [(.int (1 : Int32))]) from by rw [show (p3 &&& (3 : Int32)) = (1 : Int32) from qn]) ?_
    refine g_istore X0 hx (hb hby at_3) (pc' := 5) rfl (Ls' := #[.val (.int p0), .val (.int p1), .val (.int p2), .val (.int p3), .val (.int p4), .val (.int (1 : Int32)), .unset, .unset, .unset, .unset, .unset]) rfl ?_
    refine g_iload X0 hx (hb hby at_5) (pc' := 7) rfl rfl ?_
    refine g_iconst X0 hx (hb hby at_7) (pc' := 8) rfl (z := (1 : Int32)) rfl ?_
    refine g_iushr X0 hx (hb hby at_8) (pc' := 9) rfl ?_
    refine g_sipush X0 hx (hb hby at_9) (pc' := 12) rfl (z := (255 : Int32)) rfl ?_
    refine g_iand X0 hx (hb hby at_12) (pc' := 13) rfl ?_
    refine g_i2c X0 hx (hb hby at_13) (pc' := 14) rfl ?_
    obtain ⟨cc, ecc⟩ : ∃ z : Int32, z = (chr ((ushr p4 (1 : Int32)) &&& (255 : Int32))) := ⟨_, rfl⟩
    refine Go.cast (show (mkF m 14 #[.val (.int p0), .val (.int p1), .val (.int p2), .val (.int p3), .val (.int p4), .val (.int (1 : Int32)), .unset, .unset, .unset, .unset, .unset] [(.int (chr ((ushr p4 (1 : Int32)) &&& (255 : Int32))))]) = (mkF m 14 #[.val (.int p0), .val (.int p1), .val (.int p2), .val (.int p3), .val (.int p4), .val (.int (1 : Int32)), .unset, .unset, .unset, .unset, .unset] [(.int cc)]) from by rw [ecc]) ?_
    have kc : ¬ 255 < cc := by rw [ecc]; exact own_ch _
    obtain ⟨v318, T318, h318, L318, X318, e318, N318, q318, st318⟩ := h_static X0 hx (W := 0) (Ls := #[.val (.int p0), .val (.int p1), .val (.int p2), .val (.int p3), .val (.int p4), .val (.int (1 : Int32)), .unset, .unset, .unset, .unset, .unset]) (argsL := [(.int cc)]) (rest := []) hZ e0 N0 hml hown (rm1 l Z a0 hw cc cs h0 n0 Z0 S1 k0 kc) (hw _ (List.mem_of_getElem? (i := 0) rfl)) (hw _ (List.mem_of_getElem? (i := 1) rfl)) (hw _ (List.mem_of_getElem? (i := 2) rfl)) (hw _ (List.mem_of_getElem? (i := 3) rfl)) (by decide) pd__C_Ljava_lang_String_ rfl rfl (hb hby at_14) rfl (by decide) (by decide) (by decide) (by decide)
    obtain ⟨r318, rfl, ge318, sz318, K318, A318⟩ := q318
    have Z319 : n0 ≤ h318.size := Nat.le_trans Z0 K318.1
    refine Go.movp st318 (mkF m 17 #[.val (.int p0), .val (.int p1), .val (.int p2), .val (.int p3), .val (.int p4), .val (.int (1 : Int32)), .unset, .unset, .unset, .unset, .unset] [(.ref r318)]) rfl ?_
    refine g_astore X318 hx (hb hby at_17) (pc' := 19) rfl rfl (Ls' := #[.val (.int p0), .val (.int p1), .val (.int p2), .val (.int p3), .val (.int p4), .val (.int (1 : Int32)), .val (.ref r318), .unset, .unset, .unset, .unset]) rfl ?_
    refine g_iload X318 hx (hb hby at_19) (pc' := 21) rfl rfl ?_
    refine g_iconst X318 hx (hb hby at_21) (pc' := 22) rfl (z := (1 : Int32)) rfl ?_
    refine g_iand X318 hx (hb hby at_22) (pc' := 23) rfl ?_
    refine g_if_eq X318 hx (hb hby at_23) (pc1 := 26) rfl (by decide) (pc2 := 52) (by decide) (fun hc23 => ?_) (fun hc23 => ?_)
    · skip
      refine g_iload X318 hx (hb hby at_52) (pc' := 54) rfl rfl ?_
      refine g_iloadN X318 hx (hb hby at_54) (pc' := 55) rfl rfl ?_
      refine g_iloadN X318 hx (hb hby at_55) (pc' := 56) rfl rfl ?_
      refine g_iloadN X318 hx (hb hby at_56) (pc' := 57) rfl rfl ?_
      obtain ⟨v320, T320, h320, L320, X320, e320, N320, q320, st320⟩ := h_static X318 hx (W := 0) (Ls := #[.val (.int p0), .val (.int p1), .val (.int p2), .val (.int p3), .val (.int p4), .val (.int (1 : Int32)), .val (.ref r318), .unset, .unset, .unset, .unset]) (argsL := [(.int (1 : Int32)), (.int p0), (.int p1), (.int p2)]) (rest := []) hZ e318 N318 hml hown (rm6_1 l Z a0 hw p0 p1 p2 h318 n0 Z319) (hw _ (List.mem_of_getElem? (i := 26) rfl)) (hw _ (List.mem_of_getElem? (i := 27) rfl)) (hw _ (List.mem_of_getElem? (i := 28) rfl)) (hw _ (List.mem_of_getElem? (i := 29) rfl)) (by decide) pd__IIII__B rfl rfl (hb hby at_57) rfl (by decide) (by decide) (by decide) (by decide)
      obtain ⟨r320, rfl, ge320, sz320, K320, V320, B320⟩ := q320
      have f321 := A318.keep K320
      have Z322 : n0 ≤ h320.size := Nat.le_trans Z319 K320.1
      have ne323 : r318 ≠ r320 := Nat.ne_of_lt (Nat.lt_of_lt_of_le A318.lt sz320)
      refine Go.movp st320 (mkF m 60 #[.val (.int p0), .val (.int p1), .val (.int p2), .val (.int p3), .val (.int p4), .val (.int (1 : Int32)), .val (.ref r318), .unset, .unset, .unset, .unset] [(.ref r320)]) rfl ?_
      refine g_astore X320 hx (hb hby at_60) (pc' := 62) rfl rfl (Ls' := #[.val (.int p0), .val (.int p1), .val (.int p2), .val (.int p3), .val (.int p4), .val (.int (1 : Int32)), .val (.ref r318), .val (.ref r320), .unset, .unset, .unset]) rfl ?_
      obtain ⟨T324, h324, X324, e324, E324, A324, D324, -, st324⟩ := newO X320 hx hZ hown (hw _ (List.mem_of_getElem? (i := 30) rfl)) (hw _ (List.mem_of_getElem? (i := 31) rfl)) (hw _ (List.mem_of_getElem? (i := 32) rfl)) e320 (g := (mkF m 62 #[.val (.int p0), .val (.int p1), .val (.int p2), .val (.int p3), .val (.int p4), .val (.int (1 : Int32)), .val (.ref r318), .val (.ref r320), .unset, .unset, .unset] [])) rfl (hb hby at_62) (by decide) (by decide)
      obtain ⟨b324, g324⟩ : ∃ z, z = h320.size := ⟨_, rfl⟩
      rw [← g324] at A324 D324 st324
      have ne325 : r318 ≠ b324 := Nat.ne_of_lt (g324 ▸ f321.lt)
      have ne326 : r320 ≠ b324 := Nat.ne_of_lt (g324 ▸ V320.lt)
      have ge327 : n0 ≤ b324 := g324 ▸ Z322
      have f328 := Exa.ext E324 f321
      have f329 := V320.ext E324
      have f330 := Exa.ext E324 B320
      have Z331 : n0 ≤ h324.size := Nat.le_trans Z322 E324.1
      have f332 : Fld Z h324 b324 "com/example/stream_log_client/streamlogclient/protocol/Header" "key" "Ljava/lang/String;" .null := D324 (Or.inr (hw _ (List.mem_of_getElem? (i := 46) rfl))) (ty := (.object "java/lang/String")) (by decide)
      have f333 : Fld Z h324 b324 "com/example/stream_log_client/streamlogclient/protocol/Header" "value" "[B" .null := D324 (Or.inr (hw _ (List.mem_of_getElem? (i := 57) rfl))) (ty := (.array .byte)) (by decide)
      refine Go.movp st324 (mkF m 65 #[.val (.int p0), .val (.int p1), .val (.int p2), .val (.int p3), .val (.int p4), .val (.int (1 : Int32)), .val (.ref r318), .val (.ref r320), .unset, .unset, .unset] [(.ref b324)]) rfl ?_
      refine g_dup X324 hx (hb hby at_65) (pc' := 66) rfl rfl ?_
      refine g_aload X324 hx (hb hby at_66) (pc' := 68) rfl rfl rfl ?_
      refine g_aload X324 hx (hb hby at_68) (pc' := 70) rfl rfl rfl ?_
      obtain ⟨v334, T334, h334, L334, X334, e334, N334, q334, S334, hZ, hown, st334⟩ := h_specialS (a := b324) X324 hx (W := 1) (Ls := #[.val (.int p0), .val (.int p1), .val (.int p2), .val (.int p3), .val (.int p4), .val (.int (1 : Int32)), .val (.ref r318), .val (.ref r320), .unset, .unset, .unset]) (argsL := [(.ref r318), (.ref r320)]) (rest := [(.ref b324)]) hZ e324 N320 hml hown rfl (rm7a l Z a0 hw b324 r318 r320 [(.int (byt p0))] h324 n0 Z331 f332 f333 A324 ge327 f328 ne325 f329 f330 ne326 (own_f1 p0 p1 p2) (by simp)) (hw _ (List.mem_of_getElem? (i := 33) rfl)) (hw _ (List.mem_of_getElem? (i := 34) rfl)) (hw _ (List.mem_of_getElem? (i := 32) rfl)) (hw _ (List.mem_of_getElem? (i := 35) rfl)) (by decide) pd__Ljava_lang_String__B_V rfl rfl (hb hby at_70) rfl (by decide) (by decide) (by decide) (by decide)
      obtain ⟨r334, rfl, ge334, sz334, K334, A334, F334, V334, B334⟩ := q334
      have f335 := f328.keep K334
      have f336 := f329.keep K334 (ninS ne326 nin0)
      have f337 := f330.keep K334
      have f338 := A324.keep K334
      have Z339 : n0 ≤ h334.size := Nat.le_trans Z331 K334.1
      have ne340 : r318 ≠ r334 := Nat.ne_of_lt (Nat.lt_of_lt_of_le f328.lt sz334)
      have ne341 : r320 ≠ r334 := Nat.ne_of_lt (Nat.lt_of_lt_of_le f329.lt sz334)
      have ne342 : b324 ≠ r334 := Nat.ne_of_lt (Nat.lt_of_lt_of_le A324.lt sz334)
      refine Go.movp st334 (mkF m 73 #[.val (.int p0), .val (.int p1), .val (.int p2), .val (.int p3), .val (.int p4), .val (.int (1 : Int32)), .val (.ref r318), .val (.ref r320), .unset, .unset, .unset] [(.ref b324)]) rfl ?_
      refine g_astore X334 hx (hb hby at_73) (pc' := 75) rfl rfl (Ls' := #[.val (.int p0), .val (.int p1), .val (.int p2), .val (.int p3), .val (.int p4), .val (.int (1 : Int32)), .val (.ref r318), .val (.ref r320), .val (.ref b324), .unset, .unset]) rfl ?_
      refine g_aload X334 hx (hb hby at_75) (pc' := 77) rfl rfl rfl ?_
      refine g_iload X334 hx (hb hby at_77) (pc' := 79) rfl rfl ?_
      obtain ⟨v343, T343, h343, L343, X343, e343, N343, q343, st343⟩ := h_static X334 hx (W := 0) (Ls := #[.val (.int p0), .val (.int p1), .val (.int p2), .val (.int p3), .val (.int p4), .val (.int (1 : Int32)), .val (.ref r318), .val (.ref r320), .val (.ref b324), .unset, .unset]) (argsL := [(.ref r320), (.int (1 : Int32))]) (rest := []) hZ e334 N334 hml hown (rm9_1 l Z a0 hw r320 (byt p0) h334 n0 Z339 f336 ge320) (hw _ (List.mem_of_getElem? (i := 58) rfl)) (hw _ (List.mem_of_getElem? (i := 59) rfl)) (hw _ (List.mem_of_getElem? (i := 28) rfl)) (hw _ (List.mem_of_getElem? (i := 60) rfl)) (by decide) pd___BI_V rfl rfl (hb hby at_79) rfl (by decide) (by decide) (by decide) (by decide)
      obtain ⟨rfl, K343, V343⟩ := q343
      have f344 := f335.keep K343
      have f345 := f337.keep K343
      have f346 := A334.keep K343
      have f347 := Nat.le_trans (Nat.le_refl _) K343.1
      have f348 := F334.keep K343 (ninS (Ne.symm ne326) nin0)
      have f349 := V334.keep K343 (ninS (Ne.symm ne341) nin0)
      have f350 := B334.keep K343
      have Z351 : n0 ≤ h343.size := Nat.le_trans Z339 K343.1
      refine Go.movp st343 (mkF m 82 #[.val (.int p0), .val (.int p1), .val (.int p2), .val (.int p3), .val (.int p4), .val (.int (1 : Int32)), .val (.ref r318), .val (.ref r320), .val (.ref b324), .unset, .unset] []) rfl ?_
      refine g_aload X343 hx (hb hby at_82) (pc' := 84) rfl rfl rfl ?_
      obtain ⟨v352, T352, h352, L352, X352, e352, N352, q352, st352⟩ := h_virtual (a := b324) (z := (⟨"com/example/stream_log_client/streamlogclient/protocol/Header", "value", "()[B"⟩ : MethodName)) X343 hx (W := 0) (Ls := #[.val (.int p0), .val (.int p1), .val (.int p2), .val (.int p3), .val (.int p4), .val (.int (1 : Int32)), .val (.ref r318), .val (.ref r320), .val (.ref b324), .unset, .unset]) (argsL := []) (rest := []) hZ e343 N343 hml hown (rm10a l Z a0 hw b324 r334 [(.int (byt p0))] h343 n0 Z351 f348 f349 f350 (own_f1 p0 p1 p2) (by simp)) f346 (hw _ (List.mem_of_getElem? (i := 61) rfl)) (hw _ (List.mem_of_getElem? (i := 62) rfl)) (notFace_of_selects (args := #[]) (mvT hZ (hw _ (List.mem_of_getElem? (i := 64) rfl)))) (hw _ (List.mem_of_getElem? (i := 64) rfl)) (hw _ (List.mem_of_getElem? (i := 63) rfl)) (hw _ (List.mem_of_getElem? (i := 32) rfl)) (hw _ (List.mem_of_getElem? (i := 65) rfl)) (by decide) pd____B rfl rfl (hb hby at_84) rfl (by decide) (by decide) (by decide) (by decide)
      obtain ⟨r352, rfl, ge352, sz352, K352, V352, B352⟩ := q352
      have f353 := f344.keep K352
      have f354 := f345.keep K352
      have f355 := f346.keep K352
      have f356 := Nat.le_trans f347 K352.1
      have f357 := f348.keep K352 nin0
      have f358 := f349.keep K352 nin0
      have f359 := f350.keep K352
      have f360 := V343.keep K352 nin0
      have Z361 : n0 ≤ h352.size := Nat.le_trans Z351 K352.1
      have ne362 : r318 ≠ r352 := Nat.ne_of_lt (Nat.lt_of_lt_of_le f344.lt sz352)
      have ne363 : r320 ≠ r352 := Nat.ne_of_lt (Nat.lt_of_lt_of_le f345.lt sz352)
      have ne364 : b324 ≠ r352 := Nat.ne_of_lt (Nat.lt_of_lt_of_le f346.lt sz352)
      have ne365 : r334 ≠ r352 := Nat.ne_of_lt (Nat.lt_of_lt_of_le f349.lt sz352)
      refine Go.movp st352 (mkF m 87 #[.val (.int p0), .val (.int p1), .val (.int p2), .val (.int p3), .val (.int p4), .val (.int (1 : Int32)), .val (.ref r318), .val (.ref r320), .val (.ref b324), .unset, .unset] [(.ref r352)]) rfl ?_
      refine g_astore X352 hx (hb hby at_87) (pc' := 89) rfl rfl (Ls' := #[.val (.int p0), .val (.int p1), .val (.int p2), .val (.int p3), .val (.int p4), .val (.int (1 : Int32)), .val (.ref r318), .val (.ref r320), .val (.ref b324), .val (.ref r352), .unset]) rfl ?_
      refine g_aload X352 hx (hb hby at_89) (pc' := 91) rfl rfl rfl ?_
      refine g_iload X352 hx (hb hby at_91) (pc' := 93) rfl rfl ?_
      refine g_iloadN X352 hx (hb hby at_93) (pc' := 94) rfl rfl ?_
      refine g_iloadN X352 hx (hb hby at_94) (pc' := 95) rfl rfl ?_
      refine g_iloadN X352 hx (hb hby at_95) (pc' := 96) rfl rfl ?_
      obtain ⟨v366, T366, h366, L366, X366, e366, N366, q366, st366⟩ := h_static X352 hx (W := 0) (Ls := #[.val (.int p0), .val (.int p1), .val (.int p2), .val (.int p3), .val (.int p4), .val (.int (1 : Int32)), .val (.ref r318), .val (.ref r320), .val (.ref b324), .val (.ref r352), .unset]) (argsL := [(.ref r352), (.int (1 : Int32)), (.int p0), (.int p1), (.int p2)]) (rest := []) hZ e352 N352 hml hown (rm11_1 l Z a0 hw r352 p0 p1 p2 h352 n0 Z361 V352) (hw _ (List.mem_of_getElem? (i := 66) rfl)) (hw _ (List.mem_of_getElem? (i := 67) rfl)) (hw _ (List.mem_of_getElem? (i := 28) rfl)) (hw _ (List.mem_of_getElem? (i := 68) rfl)) (by decide) pd___BIIII_Z rfl rfl (hb hby at_96) rfl (by decide) (by decide) (by decide) (by decide)
      obtain ⟨rfl, rfl⟩ := q366
      refine Go.movp st366 (mkF m 99 #[.val (.int p0), .val (.int p1), .val (.int p2), .val (.int p3), .val (.int p4), .val (.int (1 : Int32)), .val (.ref r318), .val (.ref r320), .val (.ref b324), .val (.ref r352), .unset] [(.int (1 : Int32))]) rfl ?_
      refine g_if_ne X366 hx (hb hby at_99) (pc1 := 102) rfl (by decide) (pc2 := 104) (by decide) (fun hc99 => ?_) (fun hc99 => absurd hc99 (by decide))
      refine g_aload X366 hx (hb hby at_104) (pc' := 106) rfl rfl rfl ?_
      refine g_aload X366 hx (hb hby at_106) (pc' := 108) rfl rfl rfl ?_
      refine g_acmp_ne X366 hx (hb hby at_108) rfl rfl (pc1 := 111) rfl (by decide) (pc2 := 113) (by decide) (fun hc108 => ?_) (fun hc108 => absurd hc108 (fun q => (Ne.symm ne363) (Value.ref.inj q)))
      refine g_aload X366 hx (hb hby at_113) (pc' := 115) rfl rfl rfl ?_
      refine g_iload X366 hx (hb hby at_115) (pc' := 117) rfl rfl ?_
      obtain ⟨v367, T367, h367, L367, X367, e367, N367, q367, st367⟩ := h_static X366 hx (W := 0) (Ls := #[.val (.int p0), .val (.int p1), .val (.int p2), .val (.int p3), .val (.int p4), .val (.int (1 : Int32)), .val (.ref r318), .val (.ref r320), .val (.ref b324), .val (.ref r352), .unset]) (argsL := [(.ref r352), (.int (1 : Int32))]) (rest := []) hZ e366 N366 hml hown (rm9_1 l Z a0 hw r352 (byt p0) h352 n0 Z361 V352 ge352) (hw _ (List.mem_of_getElem? (i := 58) rfl)) (hw _ (List.mem_of_getElem? (i := 59) rfl)) (hw _ (List.mem_of_getElem? (i := 28) rfl)) (hw _ (List.mem_of_getElem? (i := 60) rfl)) (by decide) pd___BI_V rfl rfl (hb hby at_117) rfl (by decide) (by decide) (by decide) (by decide)
      obtain ⟨rfl, K367, V367⟩ := q367
      have f368 := f353.keep K367
      have f369 := f354.keep K367
      have f370 := f355.keep K367
      have f371 := Nat.le_trans f356 K367.1
      have f372 := f357.keep K367 (ninS ne364 nin0)
      have f373 := f358.keep K367 (ninS ne365 nin0)
      have f374 := f359.keep K367
      have f375 := f360.keep K367 (ninS ne363 nin0)
      have f376 := B352.keep K367
      have Z377 : n0 ≤ h367.size := Nat.le_trans Z361 K367.1
      refine Go.movp st367 (mkF m 120 #[.val (.int p0), .val (.int p1), .val (.int p2), .val (.int p3), .val (.int p4), .val (.int (1 : Int32)), .val (.ref r318), .val (.ref r320), .val (.ref b324), .val (.ref r352), .unset] []) rfl ?_
      refine g_aload X367 hx (hb hby at_120) (pc' := 122) rfl rfl rfl ?_
      obtain ⟨v378, T378, h378, L378, X378, e378, N378, q378, st378⟩ := h_virtual (a := b324) (z := (⟨"com/example/stream_log_client/streamlogclient/protocol/Header", "value", "()[B"⟩ : MethodName)) X367 hx (W := 0) (Ls := #[.val (.int p0), .val (.int p1), .val (.int p2), .val (.int p3), .val (.int p4), .val (.int (1 : Int32)), .val (.ref r318), .val (.ref r320), .val (.ref b324), .val (.ref r352), .unset]) (argsL := []) (rest := []) hZ e367 N367 hml hown (rm10a l Z a0 hw b324 r334 [(.int (byt p0))] h367 n0 Z377 f372 f373 f374 (own_f1 p0 p1 p2) (by simp)) f370 (hw _ (List.mem_of_getElem? (i := 61) rfl)) (hw _ (List.mem_of_getElem? (i := 62) rfl)) (notFace_of_selects (args := #[]) (mvT hZ (hw _ (List.mem_of_getElem? (i := 64) rfl)))) (hw _ (List.mem_of_getElem? (i := 64) rfl)) (hw _ (List.mem_of_getElem? (i := 63) rfl)) (hw _ (List.mem_of_getElem? (i := 32) rfl)) (hw _ (List.mem_of_getElem? (i := 65) rfl)) (by decide) pd____B rfl rfl (hb hby at_122) rfl (by decide) (by decide) (by decide) (by decide)
      obtain ⟨r378, rfl, ge378, sz378, K378, V378, B378⟩ := q378
      have f379 := f368.keep K378
      have f380 := f369.keep K378
      have f381 := f370.keep K378
      have f382 := Nat.le_trans f371 K378.1
      have f383 := f372.keep K378 nin0
      have f384 := f373.keep K378 nin0
      have f385 := f374.keep K378
      have f386 := f375.keep K378 nin0
      have f387 := f376.keep K378
      have f388 := V367.keep K378 nin0
      have Z389 : n0 ≤ h378.size := Nat.le_trans Z377 K378.1
      have ne390 : r318 ≠ r378 := Nat.ne_of_lt (Nat.lt_of_lt_of_le f368.lt sz378)
      have ne391 : r320 ≠ r378 := Nat.ne_of_lt (Nat.lt_of_lt_of_le f369.lt sz378)
      have ne392 : b324 ≠ r378 := Nat.ne_of_lt (Nat.lt_of_lt_of_le f370.lt sz378)
      have ne393 : r334 ≠ r378 := Nat.ne_of_lt (Nat.lt_of_lt_of_le f373.lt sz378)
      have ne394 : r352 ≠ r378 := Nat.ne_of_lt (Nat.lt_of_lt_of_le f376.lt sz378)
      refine Go.movp st378 (mkF m 125 #[.val (.int p0), .val (.int p1), .val (.int p2), .val (.int p3), .val (.int p4), .val (.int (1 : Int32)), .val (.ref r318), .val (.ref r320), .val (.ref b324), .val (.ref r352), .unset] [(.ref r378)]) rfl ?_
      refine g_astore X378 hx (hb hby at_125) (pc' := 127) rfl rfl (Ls' := #[.val (.int p0), .val (.int p1), .val (.int p2), .val (.int p3), .val (.int p4), .val (.int (1 : Int32)), .val (.ref r318), .val (.ref r320), .val (.ref b324), .val (.ref r352), .val (.ref r378)]) rfl ?_
      refine g_aload X378 hx (hb hby at_127) (pc' := 129) rfl rfl rfl ?_
      refine g_aload X378 hx (hb hby at_129) (pc' := 131) rfl rfl rfl ?_
      refine g_acmp_ne X378 hx (hb hby at_131) rfl rfl (pc1 := 134) rfl (by decide) (pc2 := 136) (by decide) (fun hc131 => ?_) (fun hc131 => absurd hc131 (fun q => (Ne.symm ne394) (Value.ref.inj q)))
      refine g_aload X378 hx (hb hby at_136) (pc' := 138) rfl rfl rfl ?_
      refine g_iload X378 hx (hb hby at_138) (pc' := 140) rfl rfl ?_
      refine g_iloadN X378 hx (hb hby at_140) (pc' := 141) rfl rfl ?_
      refine g_iloadN X378 hx (hb hby at_141) (pc' := 142) rfl rfl ?_
      refine g_iloadN X378 hx (hb hby at_142) (pc' := 143) rfl rfl ?_
      obtain ⟨v395, T395, h395, L395, X395, e395, N395, q395, st395⟩ := h_static X378 hx (W := 0) (Ls := #[.val (.int p0), .val (.int p1), .val (.int p2), .val (.int p3), .val (.int p4), .val (.int (1 : Int32)), .val (.ref r318), .val (.ref r320), .val (.ref b324), .val (.ref r352), .val (.ref r378)]) (argsL := [(.ref r378), (.int (1 : Int32)), (.int p0), (.int p1), (.int p2)]) (rest := []) hZ e378 N378 hml hown (rm11_1 l Z a0 hw r378 p0 p1 p2 h378 n0 Z389 V378) (hw _ (List.mem_of_getElem? (i := 66) rfl)) (hw _ (List.mem_of_getElem? (i := 67) rfl)) (hw _ (List.mem_of_getElem? (i := 28) rfl)) (hw _ (List.mem_of_getElem? (i := 68) rfl)) (by decide) pd___BIIII_Z rfl rfl (hb hby at_143) rfl (by decide) (by decide) (by decide) (by decide)
      obtain ⟨rfl, rfl⟩ := q395
      refine Go.movp st395 (mkF m 146 #[.val (.int p0), .val (.int p1), .val (.int p2), .val (.int p3), .val (.int p4), .val (.int (1 : Int32)), .val (.ref r318), .val (.ref r320), .val (.ref b324), .val (.ref r352), .val (.ref r378)] [(.int (1 : Int32))]) rfl ?_
      exact g_zreturn X395 hx rfl hret (hb hby at_146) N395 hlk (fun v t => endW S334 (show _ ≤ T395.heap.size by rw [e395]; exact f382) (by decide) (by decide) v) (by rw [e395]; exact rfl)
    · skip
      obtain ⟨T396, h396, X396, e396, E396, A396, D396, -, st396⟩ := newO X318 hx hZ hown (hw _ (List.mem_of_getElem? (i := 30) rfl)) (hw _ (List.mem_of_getElem? (i := 31) rfl)) (hw _ (List.mem_of_getElem? (i := 32) rfl)) e318 (g := (mkF m 26 #[.val (.int p0), .val (.int p1), .val (.int p2), .val (.int p3), .val (.int p4), .val (.int (1 : Int32)), .val (.ref r318), .unset, .unset, .unset, .unset] [])) rfl (hb hby at_26) (by decide) (by decide)
      obtain ⟨b396, g396⟩ : ∃ z, z = h318.size := ⟨_, rfl⟩
      rw [← g396] at A396 D396 st396
      have ne397 : r318 ≠ b396 := Nat.ne_of_lt (g396 ▸ A318.lt)
      have ge398 : n0 ≤ b396 := g396 ▸ Z319
      have f399 := Exa.ext E396 A318
      have Z400 : n0 ≤ h396.size := Nat.le_trans Z319 E396.1
      have f401 : Fld Z h396 b396 "com/example/stream_log_client/streamlogclient/protocol/Header" "key" "Ljava/lang/String;" .null := D396 (Or.inr (hw _ (List.mem_of_getElem? (i := 46) rfl))) (ty := (.object "java/lang/String")) (by decide)
      have f402 : Fld Z h396 b396 "com/example/stream_log_client/streamlogclient/protocol/Header" "value" "[B" .null := D396 (Or.inr (hw _ (List.mem_of_getElem? (i := 57) rfl))) (ty := (.array .byte)) (by decide)
      refine Go.movp st396 (mkF m 29 #[.val (.int p0), .val (.int p1), .val (.int p2), .val (.int p3), .val (.int p4), .val (.int (1 : Int32)), .val (.ref r318), .unset, .unset, .unset, .unset] [(.ref b396)]) rfl ?_
      refine g_dup X396 hx (hb hby at_29) (pc' := 30) rfl rfl ?_
      refine g_aload X396 hx (hb hby at_30) (pc' := 32) rfl rfl rfl ?_
      refine g_aconst_null X396 hx (hb hby at_32) (pc' := 33) rfl ?_
      obtain ⟨v403, T403, h403, L403, X403, e403, N403, q403, S403, hZ, hown, st403⟩ := h_specialS (a := b396) X396 hx (W := 1) (Ls := #[.val (.int p0), .val (.int p1), .val (.int p2), .val (.int p3), .val (.int p4), .val (.int (1 : Int32)), .val (.ref r318), .unset, .unset, .unset, .unset]) (argsL := [(.ref r318), .null]) (rest := [(.ref b396)]) hZ e396 N318 hml hown rfl (rm7n l Z a0 hw b396 r318 h396 n0 Z400 f401 f402 A396 ge398 f399 ne397) (hw _ (List.mem_of_getElem? (i := 33) rfl)) (hw _ (List.mem_of_getElem? (i := 34) rfl)) (hw _ (List.mem_of_getElem? (i := 32) rfl)) (hw _ (List.mem_of_getElem? (i := 35) rfl)) (by decide) pd__Ljava_lang_String__B_V rfl rfl (hb hby at_33) rfl (by decide) (by decide) (by decide) (by decide)
      obtain ⟨rfl, K403, A403, F403⟩ := q403
      have f404 := f399.keep K403
      have f405 := A396.keep K403
      have Z406 : n0 ≤ h403.size := Nat.le_trans Z400 K403.1
      refine Go.movp st403 (mkF m 36 #[.val (.int p0), .val (.int p1), .val (.int p2), .val (.int p3), .val (.int p4), .val (.int (1 : Int32)), .val (.ref r318), .unset, .unset, .unset, .unset] [(.ref b396)]) rfl ?_
      refine g_astore X403 hx (hb hby at_36) (pc' := 38) rfl rfl (Ls' := #[.val (.int p0), .val (.int p1), .val (.int p2), .val (.int p3), .val (.int p4), .val (.int (1 : Int32)), .val (.ref r318), .val (.ref b396), .unset, .unset, .unset]) rfl ?_
      refine g_aload X403 hx (hb hby at_38) (pc' := 40) rfl rfl rfl ?_
      obtain ⟨v407, T407, h407, L407, X407, e407, N407, q407, st407⟩ := h_virtual (a := b396) (z := (⟨"com/example/stream_log_client/streamlogclient/protocol/Header", "value", "()[B"⟩ : MethodName)) X403 hx (W := 0) (Ls := #[.val (.int p0), .val (.int p1), .val (.int p2), .val (.int p3), .val (.int p4), .val (.int (1 : Int32)), .val (.ref r318), .val (.ref b396), .unset, .unset, .unset]) (argsL := []) (rest := []) hZ e403 N403 hml hown (rm10n l Z a0 hw b396 h403 n0 Z406 F403) A403 (hw _ (List.mem_of_getElem? (i := 61) rfl)) (hw _ (List.mem_of_getElem? (i := 62) rfl)) (notFace_of_selects (args := #[]) (mvT hZ (hw _ (List.mem_of_getElem? (i := 64) rfl)))) (hw _ (List.mem_of_getElem? (i := 64) rfl)) (hw _ (List.mem_of_getElem? (i := 63) rfl)) (hw _ (List.mem_of_getElem? (i := 32) rfl)) (hw _ (List.mem_of_getElem? (i := 65) rfl)) (by decide) pd____B rfl rfl (hb hby at_40) rfl (by decide) (by decide) (by decide) (by decide)
      obtain ⟨rfl, rfl⟩ := q407
      refine Go.movp st407 (mkF m 43 #[.val (.int p0), .val (.int p1), .val (.int p2), .val (.int p3), .val (.int p4), .val (.int (1 : Int32)), .val (.ref r318), .val (.ref b396), .unset, .unset, .unset] [.null]) rfl ?_
      refine g_ifnonnull_n X407 hx (hb hby at_43) (pc' := 46) rfl ?_
      refine g_iconst X407 hx (hb hby at_46) (pc' := 47) rfl (z := (1 : Int32)) rfl ?_
      refine g_goto X407 hx (hb hby at_47) (by decide) (pc' := 51) (by decide) ?_
      exact g_zreturn X407 hx rfl hret (hb hby at_51) N407 hlk (fun v t => endW S403 (show _ ≤ T407.heap.size by rw [e407]; exact (Nat.le_refl _)) (by decide) (by decide) v) (by rw [e407]; exact rfl)
  · skip
    refine Go.cast (show (mkF m 3 #[.val (.int p0), .val (.int p1), .val (.int p2), .val (.int p3), .val (.int p4), .unset, .unset, .unset, .unset, .unset, .unset] [(.int (p3 &&& (3 : Int32)))]) = (mkF m 3 #[.val (.int p0), .val (.int p1), .val (.int p2), .val (.int p3), .val (.int p4), .unset, .unset, .unset, .unset, .unset, .unset] [(.int (2 : Int32))]) from by rw [show (p3 &&& (3 : Int32)) = (2 : Int32) from qn]) ?_
    refine g_istore X0 hx (hb hby at_3) (pc' := 5) rfl (Ls' := #[.val (.int p0), .val (.int p1), .val (.int p2), .val (.int p3), .val (.int p4), .val (.int (2 : Int32)), .unset, .unset, .unset, .unset, .unset]) rfl ?_
    refine g_iload X0 hx (hb hby at_5) (pc' := 7) rfl rfl ?_
    refine g_iconst X0 hx (hb hby at_7) (pc' := 8) rfl (z := (1 : Int32)) rfl ?_
    refine g_iushr X0 hx (hb hby at_8) (pc' := 9) rfl ?_
    refine g_sipush X0 hx (hb hby at_9) (pc' := 12) rfl (z := (255 : Int32)) rfl ?_
    refine g_iand X0 hx (hb hby at_12) (pc' := 13) rfl ?_
    refine g_i2c X0 hx (hb hby at_13) (pc' := 14) rfl ?_
    obtain ⟨cc, ecc⟩ : ∃ z : Int32, z = (chr ((ushr p4 (1 : Int32)) &&& (255 : Int32))) := ⟨_, rfl⟩
    refine Go.cast (show (mkF m 14 #[.val (.int p0), .val (.int p1), .val (.int p2), .val (.int p3), .val (.int p4), .val (.int (2 : Int32)), .unset, .unset, .unset, .unset, .unset] [(.int (chr ((ushr p4 (1 : Int32)) &&& (255 : Int32))))]) = (mkF m 14 #[.val (.int p0), .val (.int p1), .val (.int p2), .val (.int p3), .val (.int p4), .val (.int (2 : Int32)), .unset, .unset, .unset, .unset, .unset] [(.int cc)]) from by rw [ecc]) ?_
    have kc : ¬ 255 < cc := by rw [ecc]; exact own_ch _
    obtain ⟨v408, T408, h408, L408, X408, e408, N408, q408, st408⟩ := h_static X0 hx (W := 0) (Ls := #[.val (.int p0), .val (.int p1), .val (.int p2), .val (.int p3), .val (.int p4), .val (.int (2 : Int32)), .unset, .unset, .unset, .unset, .unset]) (argsL := [(.int cc)]) (rest := []) hZ e0 N0 hml hown (rm1 l Z a0 hw cc cs h0 n0 Z0 S1 k0 kc) (hw _ (List.mem_of_getElem? (i := 0) rfl)) (hw _ (List.mem_of_getElem? (i := 1) rfl)) (hw _ (List.mem_of_getElem? (i := 2) rfl)) (hw _ (List.mem_of_getElem? (i := 3) rfl)) (by decide) pd__C_Ljava_lang_String_ rfl rfl (hb hby at_14) rfl (by decide) (by decide) (by decide) (by decide)
    obtain ⟨r408, rfl, ge408, sz408, K408, A408⟩ := q408
    have Z409 : n0 ≤ h408.size := Nat.le_trans Z0 K408.1
    refine Go.movp st408 (mkF m 17 #[.val (.int p0), .val (.int p1), .val (.int p2), .val (.int p3), .val (.int p4), .val (.int (2 : Int32)), .unset, .unset, .unset, .unset, .unset] [(.ref r408)]) rfl ?_
    refine g_astore X408 hx (hb hby at_17) (pc' := 19) rfl rfl (Ls' := #[.val (.int p0), .val (.int p1), .val (.int p2), .val (.int p3), .val (.int p4), .val (.int (2 : Int32)), .val (.ref r408), .unset, .unset, .unset, .unset]) rfl ?_
    refine g_iload X408 hx (hb hby at_19) (pc' := 21) rfl rfl ?_
    refine g_iconst X408 hx (hb hby at_21) (pc' := 22) rfl (z := (1 : Int32)) rfl ?_
    refine g_iand X408 hx (hb hby at_22) (pc' := 23) rfl ?_
    refine g_if_eq X408 hx (hb hby at_23) (pc1 := 26) rfl (by decide) (pc2 := 52) (by decide) (fun hc23 => ?_) (fun hc23 => ?_)
    · skip
      refine g_iload X408 hx (hb hby at_52) (pc' := 54) rfl rfl ?_
      refine g_iloadN X408 hx (hb hby at_54) (pc' := 55) rfl rfl ?_
      refine g_iloadN X408 hx (hb hby at_55) (pc' := 56) rfl rfl ?_
      refine g_iloadN X408 hx (hb hby at_56) (pc' := 57) rfl rfl ?_
      obtain ⟨v410, T410, h410, L410, X410, e410, N410, q410, st410⟩ := h_static X408 hx (W := 0) (Ls := #[.val (.int p0), .val (.int p1), .val (.int p2), .val (.int p3), .val (.int p4), .val (.int (2 : Int32)), .val (.ref r408), .unset, .unset, .unset, .unset]) (argsL := [(.int (2 : Int32)), (.int p0), (.int p1), (.int p2)]) (rest := []) hZ e408 N408 hml hown (rm6_2 l Z a0 hw p0 p1 p2 h408 n0 Z409) (hw _ (List.mem_of_getElem? (i := 26) rfl)) (hw _ (List.mem_of_getElem? (i := 27) rfl)) (hw _ (List.mem_of_getElem? (i := 28) rfl)) (hw _ (List.mem_of_getElem? (i := 29) rfl)) (by decide) pd__IIII__B rfl rfl (hb hby at_57) rfl (by decide) (by decide) (by decide) (by decide)
      obtain ⟨r410, rfl, ge410, sz410, K410, V410, B410⟩ := q410
      have f411 := A408.keep K410
      have Z412 : n0 ≤ h410.size := Nat.le_trans Z409 K410.1
      have ne413 : r408 ≠ r410 := Nat.ne_of_lt (Nat.lt_of_lt_of_le A408.lt sz410)
      refine Go.movp st410 (mkF m 60 #[.val (.int p0), .val (.int p1), .val (.int p2), .val (.int p3), .val (.int p4), .val (.int (2 : Int32)), .val (.ref r408), .unset, .unset, .unset, .unset] [(.ref r410)]) rfl ?_
      refine g_astore X410 hx (hb hby at_60) (pc' := 62) rfl rfl (Ls' := #[.val (.int p0), .val (.int p1), .val (.int p2), .val (.int p3), .val (.int p4), .val (.int (2 : Int32)), .val (.ref r408), .val (.ref r410), .unset, .unset, .unset]) rfl ?_
      obtain ⟨T414, h414, X414, e414, E414, A414, D414, -, st414⟩ := newO X410 hx hZ hown (hw _ (List.mem_of_getElem? (i := 30) rfl)) (hw _ (List.mem_of_getElem? (i := 31) rfl)) (hw _ (List.mem_of_getElem? (i := 32) rfl)) e410 (g := (mkF m 62 #[.val (.int p0), .val (.int p1), .val (.int p2), .val (.int p3), .val (.int p4), .val (.int (2 : Int32)), .val (.ref r408), .val (.ref r410), .unset, .unset, .unset] [])) rfl (hb hby at_62) (by decide) (by decide)
      obtain ⟨b414, g414⟩ : ∃ z, z = h410.size := ⟨_, rfl⟩
      rw [← g414] at A414 D414 st414
      have ne415 : r408 ≠ b414 := Nat.ne_of_lt (g414 ▸ f411.lt)
      have ne416 : r410 ≠ b414 := Nat.ne_of_lt (g414 ▸ V410.lt)
      have ge417 : n0 ≤ b414 := g414 ▸ Z412
      have f418 := Exa.ext E414 f411
      have f419 := V410.ext E414
      have f420 := Exa.ext E414 B410
      have Z421 : n0 ≤ h414.size := Nat.le_trans Z412 E414.1
      have f422 : Fld Z h414 b414 "com/example/stream_log_client/streamlogclient/protocol/Header" "key" "Ljava/lang/String;" .null := D414 (Or.inr (hw _ (List.mem_of_getElem? (i := 46) rfl))) (ty := (.object "java/lang/String")) (by decide)
      have f423 : Fld Z h414 b414 "com/example/stream_log_client/streamlogclient/protocol/Header" "value" "[B" .null := D414 (Or.inr (hw _ (List.mem_of_getElem? (i := 57) rfl))) (ty := (.array .byte)) (by decide)
      refine Go.movp st414 (mkF m 65 #[.val (.int p0), .val (.int p1), .val (.int p2), .val (.int p3), .val (.int p4), .val (.int (2 : Int32)), .val (.ref r408), .val (.ref r410), .unset, .unset, .unset] [(.ref b414)]) rfl ?_
      refine g_dup X414 hx (hb hby at_65) (pc' := 66) rfl rfl ?_
      refine g_aload X414 hx (hb hby at_66) (pc' := 68) rfl rfl rfl ?_
      refine g_aload X414 hx (hb hby at_68) (pc' := 70) rfl rfl rfl ?_
      obtain ⟨v424, T424, h424, L424, X424, e424, N424, q424, S424, hZ, hown, st424⟩ := h_specialS (a := b414) X414 hx (W := 1) (Ls := #[.val (.int p0), .val (.int p1), .val (.int p2), .val (.int p3), .val (.int p4), .val (.int (2 : Int32)), .val (.ref r408), .val (.ref r410), .unset, .unset, .unset]) (argsL := [(.ref r408), (.ref r410)]) (rest := [(.ref b414)]) hZ e414 N410 hml hown rfl (rm7a l Z a0 hw b414 r408 r410 [(.int (byt p0)), (.int (byt p1))] h414 n0 Z421 f422 f423 A414 ge417 f418 ne415 f419 f420 ne416 (own_f2 p0 p1 p2) (by simp)) (hw _ (List.mem_of_getElem? (i := 33) rfl)) (hw _ (List.mem_of_getElem? (i := 34) rfl)) (hw _ (List.mem_of_getElem? (i := 32) rfl)) (hw _ (List.mem_of_getElem? (i := 35) rfl)) (by decide) pd__Ljava_lang_String__B_V rfl rfl (hb hby at_70) rfl (by decide) (by decide) (by decide) (by decide)
      obtain ⟨r424, rfl, ge424, sz424, K424, A424, F424, V424, B424⟩ := q424
      have f425 := f418.keep K424
      have f426 := f419.keep K424 (ninS ne416 nin0)
      have f427 := f420.keep K424
      have f428 := A414.keep K424
      have Z429 : n0 ≤ h424.size := Nat.le_trans Z421 K424.1
      have ne430 : r408 ≠ r424 := Nat.ne_of_lt (Nat.lt_of_lt_of_le f418.lt sz424)
      have ne431 : r410 ≠ r424 := Nat.ne_of_lt (Nat.lt_of_lt_of_le f419.lt sz424)
      have ne432 : b414 ≠ r424 := Nat.ne_of_lt (Nat.lt_of_lt_of_le A414.lt sz424)
      refine Go.movp st424 (mkF m 73 #[.val (.int p0), .val (.int p1), .val (.int p2), .val (.int p3), .val (.int p4), .val (.int (2 : Int32)), .val (.ref r408), .val (.ref r410), .unset, .unset, .unset] [(.ref b414)]) rfl ?_
      refine g_astore X424 hx (hb hby at_73) (pc' := 75) rfl rfl (Ls' := #[.val (.int p0), .val (.int p1), .val (.int p2), .val (.int p3), .val (.int p4), .val (.int (2 : Int32)), .val (.ref r408), .val (.ref r410), .val (.ref b414), .unset, .unset]) rfl ?_
      refine g_aload X424 hx (hb hby at_75) (pc' := 77) rfl rfl rfl ?_
      refine g_iload X424 hx (hb hby at_77) (pc' := 79) rfl rfl ?_
      obtain ⟨v433, T433, h433, L433, X433, e433, N433, q433, st433⟩ := h_static X424 hx (W := 0) (Ls := #[.val (.int p0), .val (.int p1), .val (.int p2), .val (.int p3), .val (.int p4), .val (.int (2 : Int32)), .val (.ref r408), .val (.ref r410), .val (.ref b414), .unset, .unset]) (argsL := [(.ref r410), (.int (2 : Int32))]) (rest := []) hZ e424 N424 hml hown (rm9_2 l Z a0 hw r410 (byt p0) (byt p1) h424 n0 Z429 f426 ge410) (hw _ (List.mem_of_getElem? (i := 58) rfl)) (hw _ (List.mem_of_getElem? (i := 59) rfl)) (hw _ (List.mem_of_getElem? (i := 28) rfl)) (hw _ (List.mem_of_getElem? (i := 60) rfl)) (by decide) pd___BI_V rfl rfl (hb hby at_79) rfl (by decide) (by decide) (by decide) (by decide)
      obtain ⟨rfl, K433, V433⟩ := q433
      have f434 := f425.keep K433
      have f435 := f427.keep K433
      have f436 := A424.keep K433
      have f437 := Nat.le_trans (Nat.le_refl _) K433.1
      have f438 := F424.keep K433 (ninS (Ne.symm ne416) nin0)
      have f439 := V424.keep K433 (ninS (Ne.symm ne431) nin0)
      have f440 := B424.keep K433
      have Z441 : n0 ≤ h433.size := Nat.le_trans Z429 K433.1
      refine Go.movp st433 (mkF m 82 #[.val (.int p0), .val (.int p1), .val (.int p2), .val (.int p3), .val (.int p4), .val (.int (2 : Int32)), .val (.ref r408), .val (.ref r410), .val (.ref b414), .unset, .unset] []) rfl ?_
      refine g_aload X433 hx (hb hby at_82) (pc' := 84) rfl rfl rfl ?_
      obtain ⟨v442, T442, h442, L442, X442, e442, N442, q442, st442⟩ := h_virtual (a := b414) (z := (⟨"com/example/stream_log_client/streamlogclient/protocol/Header", "value", "()[B"⟩ : MethodName)) X433 hx (W := 0) (Ls := #[.val (.int p0), .val (.int p1), .val (.int p2), .val (.int p3), .val (.int p4), .val (.int (2 : Int32)), .val (.ref r408), .val (.ref r410), .val (.ref b414), .unset, .unset]) (argsL := []) (rest := []) hZ e433 N433 hml hown (rm10a l Z a0 hw b414 r424 [(.int (byt p0)), (.int (byt p1))] h433 n0 Z441 f438 f439 f440 (own_f2 p0 p1 p2) (by simp)) f436 (hw _ (List.mem_of_getElem? (i := 61) rfl)) (hw _ (List.mem_of_getElem? (i := 62) rfl)) (notFace_of_selects (args := #[]) (mvT hZ (hw _ (List.mem_of_getElem? (i := 64) rfl)))) (hw _ (List.mem_of_getElem? (i := 64) rfl)) (hw _ (List.mem_of_getElem? (i := 63) rfl)) (hw _ (List.mem_of_getElem? (i := 32) rfl)) (hw _ (List.mem_of_getElem? (i := 65) rfl)) (by decide) pd____B rfl rfl (hb hby at_84) rfl (by decide) (by decide) (by decide) (by decide)
      obtain ⟨r442, rfl, ge442, sz442, K442, V442, B442⟩ := q442
      have f443 := f434.keep K442
      have f444 := f435.keep K442
      have f445 := f436.keep K442
      have f446 := Nat.le_trans f437 K442.1
      have f447 := f438.keep K442 nin0
      have f448 := f439.keep K442 nin0
      have f449 := f440.keep K442
      have f450 := V433.keep K442 nin0
      have Z451 : n0 ≤ h442.size := Nat.le_trans Z441 K442.1
      have ne452 : r408 ≠ r442 := Nat.ne_of_lt (Nat.lt_of_lt_of_le f434.lt sz442)
      have ne453 : r410 ≠ r442 := Nat.ne_of_lt (Nat.lt_of_lt_of_le f435.lt sz442)
      have ne454 : b414 ≠ r442 := Nat.ne_of_lt (Nat.lt_of_lt_of_le f436.lt sz442)
      have ne455 : r424 ≠ r442 := Nat.ne_of_lt (Nat.lt_of_lt_of_le f439.lt sz442)
      refine Go.movp st442 (mkF m 87 #[.val (.int p0), .val (.int p1), .val (.int p2), .val (.int p3), .val (.int p4), .val (.int (2 : Int32)), .val (.ref r408), .val (.ref r410), .val (.ref b414), .unset, .unset] [(.ref r442)]) rfl ?_
      refine g_astore X442 hx (hb hby at_87) (pc' := 89) rfl rfl (Ls' := #[.val (.int p0), .val (.int p1), .val (.int p2), .val (.int p3), .val (.int p4), .val (.int (2 : Int32)), .val (.ref r408), .val (.ref r410), .val (.ref b414), .val (.ref r442), .unset]) rfl ?_
      refine g_aload X442 hx (hb hby at_89) (pc' := 91) rfl rfl rfl ?_
      refine g_iload X442 hx (hb hby at_91) (pc' := 93) rfl rfl ?_
      refine g_iloadN X442 hx (hb hby at_93) (pc' := 94) rfl rfl ?_
      refine g_iloadN X442 hx (hb hby at_94) (pc' := 95) rfl rfl ?_
      refine g_iloadN X442 hx (hb hby at_95) (pc' := 96) rfl rfl ?_
      obtain ⟨v456, T456, h456, L456, X456, e456, N456, q456, st456⟩ := h_static X442 hx (W := 0) (Ls := #[.val (.int p0), .val (.int p1), .val (.int p2), .val (.int p3), .val (.int p4), .val (.int (2 : Int32)), .val (.ref r408), .val (.ref r410), .val (.ref b414), .val (.ref r442), .unset]) (argsL := [(.ref r442), (.int (2 : Int32)), (.int p0), (.int p1), (.int p2)]) (rest := []) hZ e442 N442 hml hown (rm11_2 l Z a0 hw r442 p0 p1 p2 h442 n0 Z451 V442) (hw _ (List.mem_of_getElem? (i := 66) rfl)) (hw _ (List.mem_of_getElem? (i := 67) rfl)) (hw _ (List.mem_of_getElem? (i := 28) rfl)) (hw _ (List.mem_of_getElem? (i := 68) rfl)) (by decide) pd___BIIII_Z rfl rfl (hb hby at_96) rfl (by decide) (by decide) (by decide) (by decide)
      obtain ⟨rfl, rfl⟩ := q456
      refine Go.movp st456 (mkF m 99 #[.val (.int p0), .val (.int p1), .val (.int p2), .val (.int p3), .val (.int p4), .val (.int (2 : Int32)), .val (.ref r408), .val (.ref r410), .val (.ref b414), .val (.ref r442), .unset] [(.int (1 : Int32))]) rfl ?_
      refine g_if_ne X456 hx (hb hby at_99) (pc1 := 102) rfl (by decide) (pc2 := 104) (by decide) (fun hc99 => ?_) (fun hc99 => absurd hc99 (by decide))
      refine g_aload X456 hx (hb hby at_104) (pc' := 106) rfl rfl rfl ?_
      refine g_aload X456 hx (hb hby at_106) (pc' := 108) rfl rfl rfl ?_
      refine g_acmp_ne X456 hx (hb hby at_108) rfl rfl (pc1 := 111) rfl (by decide) (pc2 := 113) (by decide) (fun hc108 => ?_) (fun hc108 => absurd hc108 (fun q => (Ne.symm ne453) (Value.ref.inj q)))
      refine g_aload X456 hx (hb hby at_113) (pc' := 115) rfl rfl rfl ?_
      refine g_iload X456 hx (hb hby at_115) (pc' := 117) rfl rfl ?_
      obtain ⟨v457, T457, h457, L457, X457, e457, N457, q457, st457⟩ := h_static X456 hx (W := 0) (Ls := #[.val (.int p0), .val (.int p1), .val (.int p2), .val (.int p3), .val (.int p4), .val (.int (2 : Int32)), .val (.ref r408), .val (.ref r410), .val (.ref b414), .val (.ref r442), .unset]) (argsL := [(.ref r442), (.int (2 : Int32))]) (rest := []) hZ e456 N456 hml hown (rm9_2 l Z a0 hw r442 (byt p0) (byt p1) h442 n0 Z451 V442 ge442) (hw _ (List.mem_of_getElem? (i := 58) rfl)) (hw _ (List.mem_of_getElem? (i := 59) rfl)) (hw _ (List.mem_of_getElem? (i := 28) rfl)) (hw _ (List.mem_of_getElem? (i := 60) rfl)) (by decide) pd___BI_V rfl rfl (hb hby at_117) rfl (by decide) (by decide) (by decide) (by decide)
      obtain ⟨rfl, K457, V457⟩ := q457
      have f458 := f443.keep K457
      have f459 := f444.keep K457
      have f460 := f445.keep K457
      have f461 := Nat.le_trans f446 K457.1
      have f462 := f447.keep K457 (ninS ne454 nin0)
      have f463 := f448.keep K457 (ninS ne455 nin0)
      have f464 := f449.keep K457
      have f465 := f450.keep K457 (ninS ne453 nin0)
      have f466 := B442.keep K457
      have Z467 : n0 ≤ h457.size := Nat.le_trans Z451 K457.1
      refine Go.movp st457 (mkF m 120 #[.val (.int p0), .val (.int p1), .val (.int p2), .val (.int p3), .val (.int p4), .val (.int (2 : Int32)), .val (.ref r408), .val (.ref r410), .val (.ref b414), .val (.ref r442), .unset] []) rfl ?_
      refine g_aload X457 hx (hb hby at_120) (pc' := 122) rfl rfl rfl ?_
      obtain ⟨v468, T468, h468, L468, X468, e468, N468, q468, st468⟩ := h_virtual (a := b414) (z := (⟨"com/example/stream_log_client/streamlogclient/protocol/Header", "value", "()[B"⟩ : MethodName)) X457 hx (W := 0) (Ls := #[.val (.int p0), .val (.int p1), .val (.int p2), .val (.int p3), .val (.int p4), .val (.int (2 : Int32)), .val (.ref r408), .val (.ref r410), .val (.ref b414), .val (.ref r442), .unset]) (argsL := []) (rest := []) hZ e457 N457 hml hown (rm10a l Z a0 hw b414 r424 [(.int (byt p0)), (.int (byt p1))] h457 n0 Z467 f462 f463 f464 (own_f2 p0 p1 p2) (by simp)) f460 (hw _ (List.mem_of_getElem? (i := 61) rfl)) (hw _ (List.mem_of_getElem? (i := 62) rfl)) (notFace_of_selects (args := #[]) (mvT hZ (hw _ (List.mem_of_getElem? (i := 64) rfl)))) (hw _ (List.mem_of_getElem? (i := 64) rfl)) (hw _ (List.mem_of_getElem? (i := 63) rfl)) (hw _ (List.mem_of_getElem? (i := 32) rfl)) (hw _ (List.mem_of_getElem? (i := 65) rfl)) (by decide) pd____B rfl rfl (hb hby at_122) rfl (by decide) (by decide) (by decide) (by decide)
      obtain ⟨r468, rfl, ge468, sz468, K468, V468, B468⟩ := q468
      have f469 := f458.keep K468
      have f470 := f459.keep K468
      have f471 := f460.keep K468
      have f472 := Nat.le_trans f461 K468.1
      have f473 := f462.keep K468 nin0
      have f474 := f463.keep K468 nin0
      have f475 := f464.keep K468
      have f476 := f465.keep K468 nin0
      have f477 := f466.keep K468
      have f478 := V457.keep K468 nin0
      have Z479 : n0 ≤ h468.size := Nat.le_trans Z467 K468.1
      have ne480 : r408 ≠ r468 := Nat.ne_of_lt (Nat.lt_of_lt_of_le f458.lt sz468)
      have ne481 : r410 ≠ r468 := Nat.ne_of_lt (Nat.lt_of_lt_of_le f459.lt sz468)
      have ne482 : b414 ≠ r468 := Nat.ne_of_lt (Nat.lt_of_lt_of_le f460.lt sz468)
      have ne483 : r424 ≠ r468 := Nat.ne_of_lt (Nat.lt_of_lt_of_le f463.lt sz468)
      have ne484 : r442 ≠ r468 := Nat.ne_of_lt (Nat.lt_of_lt_of_le f466.lt sz468)
      refine Go.movp st468 (mkF m 125 #[.val (.int p0), .val (.int p1), .val (.int p2), .val (.int p3), .val (.int p4), .val (.int (2 : Int32)), .val (.ref r408), .val (.ref r410), .val (.ref b414), .val (.ref r442), .unset] [(.ref r468)]) rfl ?_
      refine g_astore X468 hx (hb hby at_125) (pc' := 127) rfl rfl (Ls' := #[.val (.int p0), .val (.int p1), .val (.int p2), .val (.int p3), .val (.int p4), .val (.int (2 : Int32)), .val (.ref r408), .val (.ref r410), .val (.ref b414), .val (.ref r442), .val (.ref r468)]) rfl ?_
      refine g_aload X468 hx (hb hby at_127) (pc' := 129) rfl rfl rfl ?_
      refine g_aload X468 hx (hb hby at_129) (pc' := 131) rfl rfl rfl ?_
      refine g_acmp_ne X468 hx (hb hby at_131) rfl rfl (pc1 := 134) rfl (by decide) (pc2 := 136) (by decide) (fun hc131 => ?_) (fun hc131 => absurd hc131 (fun q => (Ne.symm ne484) (Value.ref.inj q)))
      refine g_aload X468 hx (hb hby at_136) (pc' := 138) rfl rfl rfl ?_
      refine g_iload X468 hx (hb hby at_138) (pc' := 140) rfl rfl ?_
      refine g_iloadN X468 hx (hb hby at_140) (pc' := 141) rfl rfl ?_
      refine g_iloadN X468 hx (hb hby at_141) (pc' := 142) rfl rfl ?_
      refine g_iloadN X468 hx (hb hby at_142) (pc' := 143) rfl rfl ?_
      obtain ⟨v485, T485, h485, L485, X485, e485, N485, q485, st485⟩ := h_static X468 hx (W := 0) (Ls := #[.val (.int p0), .val (.int p1), .val (.int p2), .val (.int p3), .val (.int p4), .val (.int (2 : Int32)), .val (.ref r408), .val (.ref r410), .val (.ref b414), .val (.ref r442), .val (.ref r468)]) (argsL := [(.ref r468), (.int (2 : Int32)), (.int p0), (.int p1), (.int p2)]) (rest := []) hZ e468 N468 hml hown (rm11_2 l Z a0 hw r468 p0 p1 p2 h468 n0 Z479 V468) (hw _ (List.mem_of_getElem? (i := 66) rfl)) (hw _ (List.mem_of_getElem? (i := 67) rfl)) (hw _ (List.mem_of_getElem? (i := 28) rfl)) (hw _ (List.mem_of_getElem? (i := 68) rfl)) (by decide) pd___BIIII_Z rfl rfl (hb hby at_143) rfl (by decide) (by decide) (by decide) (by decide)
      obtain ⟨rfl, rfl⟩ := q485
      refine Go.movp st485 (mkF m 146 #[.val (.int p0), .val (.int p1), .val (.int p2), .val (.int p3), .val (.int p4), .val (.int (2 : Int32)), .val (.ref r408), .val (.ref r410), .val (.ref b414), .val (.ref r442), .val (.ref r468)] [(.int (1 : Int32))]) rfl ?_
      exact g_zreturn X485 hx rfl hret (hb hby at_146) N485 hlk (fun v t => endW S424 (show _ ≤ T485.heap.size by rw [e485]; exact f472) (by decide) (by decide) v) (by rw [e485]; exact rfl)
    · skip
      obtain ⟨T486, h486, X486, e486, E486, A486, D486, -, st486⟩ := newO X408 hx hZ hown (hw _ (List.mem_of_getElem? (i := 30) rfl)) (hw _ (List.mem_of_getElem? (i := 31) rfl)) (hw _ (List.mem_of_getElem? (i := 32) rfl)) e408 (g := (mkF m 26 #[.val (.int p0), .val (.int p1), .val (.int p2), .val (.int p3), .val (.int p4), .val (.int (2 : Int32)), .val (.ref r408), .unset, .unset, .unset, .unset] [])) rfl (hb hby at_26) (by decide) (by decide)
      obtain ⟨b486, g486⟩ : ∃ z, z = h408.size := ⟨_, rfl⟩
      rw [← g486] at A486 D486 st486
      have ne487 : r408 ≠ b486 := Nat.ne_of_lt (g486 ▸ A408.lt)
      have ge488 : n0 ≤ b486 := g486 ▸ Z409
      have f489 := Exa.ext E486 A408
      have Z490 : n0 ≤ h486.size := Nat.le_trans Z409 E486.1
      have f491 : Fld Z h486 b486 "com/example/stream_log_client/streamlogclient/protocol/Header" "key" "Ljava/lang/String;" .null := D486 (Or.inr (hw _ (List.mem_of_getElem? (i := 46) rfl))) (ty := (.object "java/lang/String")) (by decide)
      have f492 : Fld Z h486 b486 "com/example/stream_log_client/streamlogclient/protocol/Header" "value" "[B" .null := D486 (Or.inr (hw _ (List.mem_of_getElem? (i := 57) rfl))) (ty := (.array .byte)) (by decide)
      refine Go.movp st486 (mkF m 29 #[.val (.int p0), .val (.int p1), .val (.int p2), .val (.int p3), .val (.int p4), .val (.int (2 : Int32)), .val (.ref r408), .unset, .unset, .unset, .unset] [(.ref b486)]) rfl ?_
      refine g_dup X486 hx (hb hby at_29) (pc' := 30) rfl rfl ?_
      refine g_aload X486 hx (hb hby at_30) (pc' := 32) rfl rfl rfl ?_
      refine g_aconst_null X486 hx (hb hby at_32) (pc' := 33) rfl ?_
      obtain ⟨v493, T493, h493, L493, X493, e493, N493, q493, S493, hZ, hown, st493⟩ := h_specialS (a := b486) X486 hx (W := 1) (Ls := #[.val (.int p0), .val (.int p1), .val (.int p2), .val (.int p3), .val (.int p4), .val (.int (2 : Int32)), .val (.ref r408), .unset, .unset, .unset, .unset]) (argsL := [(.ref r408), .null]) (rest := [(.ref b486)]) hZ e486 N408 hml hown rfl (rm7n l Z a0 hw b486 r408 h486 n0 Z490 f491 f492 A486 ge488 f489 ne487) (hw _ (List.mem_of_getElem? (i := 33) rfl)) (hw _ (List.mem_of_getElem? (i := 34) rfl)) (hw _ (List.mem_of_getElem? (i := 32) rfl)) (hw _ (List.mem_of_getElem? (i := 35) rfl)) (by decide) pd__Ljava_lang_String__B_V rfl rfl (hb hby at_33) rfl (by decide) (by decide) (by decide) (by decide)
      obtain ⟨rfl, K493, A493, F493⟩ := q493
      have f494 := f489.keep K493
      have f495 := A486.keep K493
      have Z496 : n0 ≤ h493.size := Nat.le_trans Z490 K493.1
      refine Go.movp st493 (mkF m 36 #[.val (.int p0), .val (.int p1), .val (.int p2), .val (.int p3), .val (.int p4), .val (.int (2 : Int32)), .val (.ref r408), .unset, .unset, .unset, .unset] [(.ref b486)]) rfl ?_
      refine g_astore X493 hx (hb hby at_36) (pc' := 38) rfl rfl (Ls' := #[.val (.int p0), .val (.int p1), .val (.int p2), .val (.int p3), .val (.int p4), .val (.int (2 : Int32)), .val (.ref r408), .val (.ref b486), .unset, .unset, .unset]) rfl ?_
      refine g_aload X493 hx (hb hby at_38) (pc' := 40) rfl rfl rfl ?_
      obtain ⟨v497, T497, h497, L497, X497, e497, N497, q497, st497⟩ := h_virtual (a := b486) (z := (⟨"com/example/stream_log_client/streamlogclient/protocol/Header", "value", "()[B"⟩ : MethodName)) X493 hx (W := 0) (Ls := #[.val (.int p0), .val (.int p1), .val (.int p2), .val (.int p3), .val (.int p4), .val (.int (2 : Int32)), .val (.ref r408), .val (.ref b486), .unset, .unset, .unset]) (argsL := []) (rest := []) hZ e493 N493 hml hown (rm10n l Z a0 hw b486 h493 n0 Z496 F493) A493 (hw _ (List.mem_of_getElem? (i := 61) rfl)) (hw _ (List.mem_of_getElem? (i := 62) rfl)) (notFace_of_selects (args := #[]) (mvT hZ (hw _ (List.mem_of_getElem? (i := 64) rfl)))) (hw _ (List.mem_of_getElem? (i := 64) rfl)) (hw _ (List.mem_of_getElem? (i := 63) rfl)) (hw _ (List.mem_of_getElem? (i := 32) rfl)) (hw _ (List.mem_of_getElem? (i := 65) rfl)) (by decide) pd____B rfl rfl (hb hby at_40) rfl (by decide) (by decide) (by decide) (by decide)
      obtain ⟨rfl, rfl⟩ := q497
      refine Go.movp st497 (mkF m 43 #[.val (.int p0), .val (.int p1), .val (.int p2), .val (.int p3), .val (.int p4), .val (.int (2 : Int32)), .val (.ref r408), .val (.ref b486), .unset, .unset, .unset] [.null]) rfl ?_
      refine g_ifnonnull_n X497 hx (hb hby at_43) (pc' := 46) rfl ?_
      refine g_iconst X497 hx (hb hby at_46) (pc' := 47) rfl (z := (1 : Int32)) rfl ?_
      refine g_goto X497 hx (hb hby at_47) (by decide) (pc' := 51) (by decide) ?_
      exact g_zreturn X497 hx rfl hret (hb hby at_51) N497 hlk (fun v t => endW S493 (show _ ≤ T497.heap.size by rw [e497]; exact (Nat.le_refl _)) (by decide) (by decide) v) (by rw [e497]; exact rfl)
  · skip
    refine Go.cast (show (mkF m 3 #[.val (.int p0), .val (.int p1), .val (.int p2), .val (.int p3), .val (.int p4), .unset, .unset, .unset, .unset, .unset, .unset] [(.int (p3 &&& (3 : Int32)))]) = (mkF m 3 #[.val (.int p0), .val (.int p1), .val (.int p2), .val (.int p3), .val (.int p4), .unset, .unset, .unset, .unset, .unset, .unset] [(.int (3 : Int32))]) from by rw [show (p3 &&& (3 : Int32)) = (3 : Int32) from qn]) ?_
    refine g_istore X0 hx (hb hby at_3) (pc' := 5) rfl (Ls' := #[.val (.int p0), .val (.int p1), .val (.int p2), .val (.int p3), .val (.int p4), .val (.int (3 : Int32)), .unset, .unset, .unset, .unset, .unset]) rfl ?_
    refine g_iload X0 hx (hb hby at_5) (pc' := 7) rfl rfl ?_
    refine g_iconst X0 hx (hb hby at_7) (pc' := 8) rfl (z := (1 : Int32)) rfl ?_
    refine g_iushr X0 hx (hb hby at_8) (pc' := 9) rfl ?_
    refine g_sipush X0 hx (hb hby at_9) (pc' := 12) rfl (z := (255 : Int32)) rfl ?_
    refine g_iand X0 hx (hb hby at_12) (pc' := 13) rfl ?_
    refine g_i2c X0 hx (hb hby at_13) (pc' := 14) rfl ?_
    obtain ⟨cc, ecc⟩ : ∃ z : Int32, z = (chr ((ushr p4 (1 : Int32)) &&& (255 : Int32))) := ⟨_, rfl⟩
    refine Go.cast (show (mkF m 14 #[.val (.int p0), .val (.int p1), .val (.int p2), .val (.int p3), .val (.int p4), .val (.int (3 : Int32)), .unset, .unset, .unset, .unset, .unset] [(.int (chr ((ushr p4 (1 : Int32)) &&& (255 : Int32))))]) = (mkF m 14 #[.val (.int p0), .val (.int p1), .val (.int p2), .val (.int p3), .val (.int p4), .val (.int (3 : Int32)), .unset, .unset, .unset, .unset, .unset] [(.int cc)]) from by rw [ecc]) ?_
    have kc : ¬ 255 < cc := by rw [ecc]; exact own_ch _
    obtain ⟨v498, T498, h498, L498, X498, e498, N498, q498, st498⟩ := h_static X0 hx (W := 0) (Ls := #[.val (.int p0), .val (.int p1), .val (.int p2), .val (.int p3), .val (.int p4), .val (.int (3 : Int32)), .unset, .unset, .unset, .unset, .unset]) (argsL := [(.int cc)]) (rest := []) hZ e0 N0 hml hown (rm1 l Z a0 hw cc cs h0 n0 Z0 S1 k0 kc) (hw _ (List.mem_of_getElem? (i := 0) rfl)) (hw _ (List.mem_of_getElem? (i := 1) rfl)) (hw _ (List.mem_of_getElem? (i := 2) rfl)) (hw _ (List.mem_of_getElem? (i := 3) rfl)) (by decide) pd__C_Ljava_lang_String_ rfl rfl (hb hby at_14) rfl (by decide) (by decide) (by decide) (by decide)
    obtain ⟨r498, rfl, ge498, sz498, K498, A498⟩ := q498
    have Z499 : n0 ≤ h498.size := Nat.le_trans Z0 K498.1
    refine Go.movp st498 (mkF m 17 #[.val (.int p0), .val (.int p1), .val (.int p2), .val (.int p3), .val (.int p4), .val (.int (3 : Int32)), .unset, .unset, .unset, .unset, .unset] [(.ref r498)]) rfl ?_
    refine g_astore X498 hx (hb hby at_17) (pc' := 19) rfl rfl (Ls' := #[.val (.int p0), .val (.int p1), .val (.int p2), .val (.int p3), .val (.int p4), .val (.int (3 : Int32)), .val (.ref r498), .unset, .unset, .unset, .unset]) rfl ?_
    refine g_iload X498 hx (hb hby at_19) (pc' := 21) rfl rfl ?_
    refine g_iconst X498 hx (hb hby at_21) (pc' := 22) rfl (z := (1 : Int32)) rfl ?_
    refine g_iand X498 hx (hb hby at_22) (pc' := 23) rfl ?_
    refine g_if_eq X498 hx (hb hby at_23) (pc1 := 26) rfl (by decide) (pc2 := 52) (by decide) (fun hc23 => ?_) (fun hc23 => ?_)
    · skip
      refine g_iload X498 hx (hb hby at_52) (pc' := 54) rfl rfl ?_
      refine g_iloadN X498 hx (hb hby at_54) (pc' := 55) rfl rfl ?_
      refine g_iloadN X498 hx (hb hby at_55) (pc' := 56) rfl rfl ?_
      refine g_iloadN X498 hx (hb hby at_56) (pc' := 57) rfl rfl ?_
      obtain ⟨v500, T500, h500, L500, X500, e500, N500, q500, st500⟩ := h_static X498 hx (W := 0) (Ls := #[.val (.int p0), .val (.int p1), .val (.int p2), .val (.int p3), .val (.int p4), .val (.int (3 : Int32)), .val (.ref r498), .unset, .unset, .unset, .unset]) (argsL := [(.int (3 : Int32)), (.int p0), (.int p1), (.int p2)]) (rest := []) hZ e498 N498 hml hown (rm6_3 l Z a0 hw p0 p1 p2 h498 n0 Z499) (hw _ (List.mem_of_getElem? (i := 26) rfl)) (hw _ (List.mem_of_getElem? (i := 27) rfl)) (hw _ (List.mem_of_getElem? (i := 28) rfl)) (hw _ (List.mem_of_getElem? (i := 29) rfl)) (by decide) pd__IIII__B rfl rfl (hb hby at_57) rfl (by decide) (by decide) (by decide) (by decide)
      obtain ⟨r500, rfl, ge500, sz500, K500, V500, B500⟩ := q500
      have f501 := A498.keep K500
      have Z502 : n0 ≤ h500.size := Nat.le_trans Z499 K500.1
      have ne503 : r498 ≠ r500 := Nat.ne_of_lt (Nat.lt_of_lt_of_le A498.lt sz500)
      refine Go.movp st500 (mkF m 60 #[.val (.int p0), .val (.int p1), .val (.int p2), .val (.int p3), .val (.int p4), .val (.int (3 : Int32)), .val (.ref r498), .unset, .unset, .unset, .unset] [(.ref r500)]) rfl ?_
      refine g_astore X500 hx (hb hby at_60) (pc' := 62) rfl rfl (Ls' := #[.val (.int p0), .val (.int p1), .val (.int p2), .val (.int p3), .val (.int p4), .val (.int (3 : Int32)), .val (.ref r498), .val (.ref r500), .unset, .unset, .unset]) rfl ?_
      obtain ⟨T504, h504, X504, e504, E504, A504, D504, -, st504⟩ := newO X500 hx hZ hown (hw _ (List.mem_of_getElem? (i := 30) rfl)) (hw _ (List.mem_of_getElem? (i := 31) rfl)) (hw _ (List.mem_of_getElem? (i := 32) rfl)) e500 (g := (mkF m 62 #[.val (.int p0), .val (.int p1), .val (.int p2), .val (.int p3), .val (.int p4), .val (.int (3 : Int32)), .val (.ref r498), .val (.ref r500), .unset, .unset, .unset] [])) rfl (hb hby at_62) (by decide) (by decide)
      obtain ⟨b504, g504⟩ : ∃ z, z = h500.size := ⟨_, rfl⟩
      rw [← g504] at A504 D504 st504
      have ne505 : r498 ≠ b504 := Nat.ne_of_lt (g504 ▸ f501.lt)
      have ne506 : r500 ≠ b504 := Nat.ne_of_lt (g504 ▸ V500.lt)
      have ge507 : n0 ≤ b504 := g504 ▸ Z502
      have f508 := Exa.ext E504 f501
      have f509 := V500.ext E504
      have f510 := Exa.ext E504 B500
      have Z511 : n0 ≤ h504.size := Nat.le_trans Z502 E504.1
      have f512 : Fld Z h504 b504 "com/example/stream_log_client/streamlogclient/protocol/Header" "key" "Ljava/lang/String;" .null := D504 (Or.inr (hw _ (List.mem_of_getElem? (i := 46) rfl))) (ty := (.object "java/lang/String")) (by decide)
      have f513 : Fld Z h504 b504 "com/example/stream_log_client/streamlogclient/protocol/Header" "value" "[B" .null := D504 (Or.inr (hw _ (List.mem_of_getElem? (i := 57) rfl))) (ty := (.array .byte)) (by decide)
      refine Go.movp st504 (mkF m 65 #[.val (.int p0), .val (.int p1), .val (.int p2), .val (.int p3), .val (.int p4), .val (.int (3 : Int32)), .val (.ref r498), .val (.ref r500), .unset, .unset, .unset] [(.ref b504)]) rfl ?_
      refine g_dup X504 hx (hb hby at_65) (pc' := 66) rfl rfl ?_
      refine g_aload X504 hx (hb hby at_66) (pc' := 68) rfl rfl rfl ?_
      refine g_aload X504 hx (hb hby at_68) (pc' := 70) rfl rfl rfl ?_
      obtain ⟨v514, T514, h514, L514, X514, e514, N514, q514, S514, hZ, hown, st514⟩ := h_specialS (a := b504) X504 hx (W := 1) (Ls := #[.val (.int p0), .val (.int p1), .val (.int p2), .val (.int p3), .val (.int p4), .val (.int (3 : Int32)), .val (.ref r498), .val (.ref r500), .unset, .unset, .unset]) (argsL := [(.ref r498), (.ref r500)]) (rest := [(.ref b504)]) hZ e504 N500 hml hown rfl (rm7a l Z a0 hw b504 r498 r500 [(.int (byt p0)), (.int (byt p1)), (.int (byt p2))] h504 n0 Z511 f512 f513 A504 ge507 f508 ne505 f509 f510 ne506 (own_f3 p0 p1 p2) (by simp)) (hw _ (List.mem_of_getElem? (i := 33) rfl)) (hw _ (List.mem_of_getElem? (i := 34) rfl)) (hw _ (List.mem_of_getElem? (i := 32) rfl)) (hw _ (List.mem_of_getElem? (i := 35) rfl)) (by decide) pd__Ljava_lang_String__B_V rfl rfl (hb hby at_70) rfl (by decide) (by decide) (by decide) (by decide)
      obtain ⟨r514, rfl, ge514, sz514, K514, A514, F514, V514, B514⟩ := q514
      have f515 := f508.keep K514
      have f516 := f509.keep K514 (ninS ne506 nin0)
      have f517 := f510.keep K514
      have f518 := A504.keep K514
      have Z519 : n0 ≤ h514.size := Nat.le_trans Z511 K514.1
      have ne520 : r498 ≠ r514 := Nat.ne_of_lt (Nat.lt_of_lt_of_le f508.lt sz514)
      have ne521 : r500 ≠ r514 := Nat.ne_of_lt (Nat.lt_of_lt_of_le f509.lt sz514)
      have ne522 : b504 ≠ r514 := Nat.ne_of_lt (Nat.lt_of_lt_of_le A504.lt sz514)
      refine Go.movp st514 (mkF m 73 #[.val (.int p0), .val (.int p1), .val (.int p2), .val (.int p3), .val (.int p4), .val (.int (3 : Int32)), .val (.ref r498), .val (.ref r500), .unset, .unset, .unset] [(.ref b504)]) rfl ?_
      refine g_astore X514 hx (hb hby at_73) (pc' := 75) rfl rfl (Ls' := #[.val (.int p0), .val (.int p1), .val (.int p2), .val (.int p3), .val (.int p4), .val (.int (3 : Int32)), .val (.ref r498), .val (.ref r500), .val (.ref b504), .unset, .unset]) rfl ?_
      refine g_aload X514 hx (hb hby at_75) (pc' := 77) rfl rfl rfl ?_
      refine g_iload X514 hx (hb hby at_77) (pc' := 79) rfl rfl ?_
      obtain ⟨v523, T523, h523, L523, X523, e523, N523, q523, st523⟩ := h_static X514 hx (W := 0) (Ls := #[.val (.int p0), .val (.int p1), .val (.int p2), .val (.int p3), .val (.int p4), .val (.int (3 : Int32)), .val (.ref r498), .val (.ref r500), .val (.ref b504), .unset, .unset]) (argsL := [(.ref r500), (.int (3 : Int32))]) (rest := []) hZ e514 N514 hml hown (rm9_3 l Z a0 hw r500 (byt p0) (byt p1) (byt p2) h514 n0 Z519 f516 ge500) (hw _ (List.mem_of_getElem? (i := 58) rfl)) (hw _ (List.mem_of_getElem? (i := 59) rfl)) (hw _ (List.mem_of_getElem? (i := 28) rfl)) (hw _ (List.mem_of_getElem? (i := 60) rfl)) (by decide) pd___BI_V rfl rfl (hb hby at_79) rfl (by decide) (by decide) (by decide) (by decide)
      obtain ⟨rfl, K523, V523⟩ := q523
      have f524 := f515.keep K523
      have f525 := f517.keep K523
      have f526 := A514.keep K523
      have f527 := Nat.le_trans (Nat.le_refl _) K523.1
      have f528 := F514.keep K523 (ninS (Ne.symm ne506) nin0)
      have f529 := V514.keep K523 (ninS (Ne.symm ne521) nin0)
      have f530 := B514.keep K523
      have Z531 : n0 ≤ h523.size := Nat.le_trans Z519 K523.1
      refine Go.movp st523 (mkF m 82 #[.val (.int p0), .val (.int p1), .val (.int p2), .val (.int p3), .val (.int p4), .val (.int (3 : Int32)), .val (.ref r498), .val (.ref r500), .val (.ref b504), .unset, .unset] []) rfl ?_
      refine g_aload X523 hx (hb hby at_82) (pc' := 84) rfl rfl rfl ?_
      obtain ⟨v532, T532, h532, L532, X532, e532, N532, q532, st532⟩ := h_virtual (a := b504) (z := (⟨"com/example/stream_log_client/streamlogclient/protocol/Header", "value", "()[B"⟩ : MethodName)) X523 hx (W := 0) (Ls := #[.val (.int p0), .val (.int p1), .val (.int p2), .val (.int p3), .val (.int p4), .val (.int (3 : Int32)), .val (.ref r498), .val (.ref r500), .val (.ref b504), .unset, .unset]) (argsL := []) (rest := []) hZ e523 N523 hml hown (rm10a l Z a0 hw b504 r514 [(.int (byt p0)), (.int (byt p1)), (.int (byt p2))] h523 n0 Z531 f528 f529 f530 (own_f3 p0 p1 p2) (by simp)) f526 (hw _ (List.mem_of_getElem? (i := 61) rfl)) (hw _ (List.mem_of_getElem? (i := 62) rfl)) (notFace_of_selects (args := #[]) (mvT hZ (hw _ (List.mem_of_getElem? (i := 64) rfl)))) (hw _ (List.mem_of_getElem? (i := 64) rfl)) (hw _ (List.mem_of_getElem? (i := 63) rfl)) (hw _ (List.mem_of_getElem? (i := 32) rfl)) (hw _ (List.mem_of_getElem? (i := 65) rfl)) (by decide) pd____B rfl rfl (hb hby at_84) rfl (by decide) (by decide) (by decide) (by decide)
      obtain ⟨r532, rfl, ge532, sz532, K532, V532, B532⟩ := q532
      have f533 := f524.keep K532
      have f534 := f525.keep K532
      have f535 := f526.keep K532
      have f536 := Nat.le_trans f527 K532.1
      have f537 := f528.keep K532 nin0
      have f538 := f529.keep K532 nin0
      have f539 := f530.keep K532
      have f540 := V523.keep K532 nin0
      have Z541 : n0 ≤ h532.size := Nat.le_trans Z531 K532.1
      have ne542 : r498 ≠ r532 := Nat.ne_of_lt (Nat.lt_of_lt_of_le f524.lt sz532)
      have ne543 : r500 ≠ r532 := Nat.ne_of_lt (Nat.lt_of_lt_of_le f525.lt sz532)
      have ne544 : b504 ≠ r532 := Nat.ne_of_lt (Nat.lt_of_lt_of_le f526.lt sz532)
      have ne545 : r514 ≠ r532 := Nat.ne_of_lt (Nat.lt_of_lt_of_le f529.lt sz532)
      refine Go.movp st532 (mkF m 87 #[.val (.int p0), .val (.int p1), .val (.int p2), .val (.int p3), .val (.int p4), .val (.int (3 : Int32)), .val (.ref r498), .val (.ref r500), .val (.ref b504), .unset, .unset] [(.ref r532)]) rfl ?_
      refine g_astore X532 hx (hb hby at_87) (pc' := 89) rfl rfl (Ls' := #[.val (.int p0), .val (.int p1), .val (.int p2), .val (.int p3), .val (.int p4), .val (.int (3 : Int32)), .val (.ref r498), .val (.ref r500), .val (.ref b504), .val (.ref r532), .unset]) rfl ?_
      refine g_aload X532 hx (hb hby at_89) (pc' := 91) rfl rfl rfl ?_
      refine g_iload X532 hx (hb hby at_91) (pc' := 93) rfl rfl ?_
      refine g_iloadN X532 hx (hb hby at_93) (pc' := 94) rfl rfl ?_
      refine g_iloadN X532 hx (hb hby at_94) (pc' := 95) rfl rfl ?_
      refine g_iloadN X532 hx (hb hby at_95) (pc' := 96) rfl rfl ?_
      obtain ⟨v546, T546, h546, L546, X546, e546, N546, q546, st546⟩ := h_static X532 hx (W := 0) (Ls := #[.val (.int p0), .val (.int p1), .val (.int p2), .val (.int p3), .val (.int p4), .val (.int (3 : Int32)), .val (.ref r498), .val (.ref r500), .val (.ref b504), .val (.ref r532), .unset]) (argsL := [(.ref r532), (.int (3 : Int32)), (.int p0), (.int p1), (.int p2)]) (rest := []) hZ e532 N532 hml hown (rm11_3 l Z a0 hw r532 p0 p1 p2 h532 n0 Z541 V532) (hw _ (List.mem_of_getElem? (i := 66) rfl)) (hw _ (List.mem_of_getElem? (i := 67) rfl)) (hw _ (List.mem_of_getElem? (i := 28) rfl)) (hw _ (List.mem_of_getElem? (i := 68) rfl)) (by decide) pd___BIIII_Z rfl rfl (hb hby at_96) rfl (by decide) (by decide) (by decide) (by decide)
      obtain ⟨rfl, rfl⟩ := q546
      refine Go.movp st546 (mkF m 99 #[.val (.int p0), .val (.int p1), .val (.int p2), .val (.int p3), .val (.int p4), .val (.int (3 : Int32)), .val (.ref r498), .val (.ref r500), .val (.ref b504), .val (.ref r532), .unset] [(.int (1 : Int32))]) rfl ?_
      refine g_if_ne X546 hx (hb hby at_99) (pc1 := 102) rfl (by decide) (pc2 := 104) (by decide) (fun hc99 => ?_) (fun hc99 => absurd hc99 (by decide))
      refine g_aload X546 hx (hb hby at_104) (pc' := 106) rfl rfl rfl ?_
      refine g_aload X546 hx (hb hby at_106) (pc' := 108) rfl rfl rfl ?_
      refine g_acmp_ne X546 hx (hb hby at_108) rfl rfl (pc1 := 111) rfl (by decide) (pc2 := 113) (by decide) (fun hc108 => ?_) (fun hc108 => absurd hc108 (fun q => (Ne.symm ne543) (Value.ref.inj q)))
      refine g_aload X546 hx (hb hby at_113) (pc' := 115) rfl rfl rfl ?_
      refine g_iload X546 hx (hb hby at_115) (pc' := 117) rfl rfl ?_
      obtain ⟨v547, T547, h547, L547, X547, e547, N547, q547, st547⟩ := h_static X546 hx (W := 0) (Ls := #[.val (.int p0), .val (.int p1), .val (.int p2), .val (.int p3), .val (.int p4), .val (.int (3 : Int32)), .val (.ref r498), .val (.ref r500), .val (.ref b504), .val (.ref r532), .unset]) (argsL := [(.ref r532), (.int (3 : Int32))]) (rest := []) hZ e546 N546 hml hown (rm9_3 l Z a0 hw r532 (byt p0) (byt p1) (byt p2) h532 n0 Z541 V532 ge532) (hw _ (List.mem_of_getElem? (i := 58) rfl)) (hw _ (List.mem_of_getElem? (i := 59) rfl)) (hw _ (List.mem_of_getElem? (i := 28) rfl)) (hw _ (List.mem_of_getElem? (i := 60) rfl)) (by decide) pd___BI_V rfl rfl (hb hby at_117) rfl (by decide) (by decide) (by decide) (by decide)
      obtain ⟨rfl, K547, V547⟩ := q547
      have f548 := f533.keep K547
      have f549 := f534.keep K547
      have f550 := f535.keep K547
      have f551 := Nat.le_trans f536 K547.1
      have f552 := f537.keep K547 (ninS ne544 nin0)
      have f553 := f538.keep K547 (ninS ne545 nin0)
      have f554 := f539.keep K547
      have f555 := f540.keep K547 (ninS ne543 nin0)
      have f556 := B532.keep K547
      have Z557 : n0 ≤ h547.size := Nat.le_trans Z541 K547.1
      refine Go.movp st547 (mkF m 120 #[.val (.int p0), .val (.int p1), .val (.int p2), .val (.int p3), .val (.int p4), .val (.int (3 : Int32)), .val (.ref r498), .val (.ref r500), .val (.ref b504), .val (.ref r532), .unset] []) rfl ?_
      refine g_aload X547 hx (hb hby at_120) (pc' := 122) rfl rfl rfl ?_
      obtain ⟨v558, T558, h558, L558, X558, e558, N558, q558, st558⟩ := h_virtual (a := b504) (z := (⟨"com/example/stream_log_client/streamlogclient/protocol/Header", "value", "()[B"⟩ : MethodName)) X547 hx (W := 0) (Ls := #[.val (.int p0), .val (.int p1), .val (.int p2), .val (.int p3), .val (.int p4), .val (.int (3 : Int32)), .val (.ref r498), .val (.ref r500), .val (.ref b504), .val (.ref r532), .unset]) (argsL := []) (rest := []) hZ e547 N547 hml hown (rm10a l Z a0 hw b504 r514 [(.int (byt p0)), (.int (byt p1)), (.int (byt p2))] h547 n0 Z557 f552 f553 f554 (own_f3 p0 p1 p2) (by simp)) f550 (hw _ (List.mem_of_getElem? (i := 61) rfl)) (hw _ (List.mem_of_getElem? (i := 62) rfl)) (notFace_of_selects (args := #[]) (mvT hZ (hw _ (List.mem_of_getElem? (i := 64) rfl)))) (hw _ (List.mem_of_getElem? (i := 64) rfl)) (hw _ (List.mem_of_getElem? (i := 63) rfl)) (hw _ (List.mem_of_getElem? (i := 32) rfl)) (hw _ (List.mem_of_getElem? (i := 65) rfl)) (by decide) pd____B rfl rfl (hb hby at_122) rfl (by decide) (by decide) (by decide) (by decide)
      obtain ⟨r558, rfl, ge558, sz558, K558, V558, B558⟩ := q558
      have f559 := f548.keep K558
      have f560 := f549.keep K558
      have f561 := f550.keep K558
      have f562 := Nat.le_trans f551 K558.1
      have f563 := f552.keep K558 nin0
      have f564 := f553.keep K558 nin0
      have f565 := f554.keep K558
      have f566 := f555.keep K558 nin0
      have f567 := f556.keep K558
      have f568 := V547.keep K558 nin0
      have Z569 : n0 ≤ h558.size := Nat.le_trans Z557 K558.1
      have ne570 : r498 ≠ r558 := Nat.ne_of_lt (Nat.lt_of_lt_of_le f548.lt sz558)
      have ne571 : r500 ≠ r558 := Nat.ne_of_lt (Nat.lt_of_lt_of_le f549.lt sz558)
      have ne572 : b504 ≠ r558 := Nat.ne_of_lt (Nat.lt_of_lt_of_le f550.lt sz558)
      have ne573 : r514 ≠ r558 := Nat.ne_of_lt (Nat.lt_of_lt_of_le f553.lt sz558)
      have ne574 : r532 ≠ r558 := Nat.ne_of_lt (Nat.lt_of_lt_of_le f556.lt sz558)
      refine Go.movp st558 (mkF m 125 #[.val (.int p0), .val (.int p1), .val (.int p2), .val (.int p3), .val (.int p4), .val (.int (3 : Int32)), .val (.ref r498), .val (.ref r500), .val (.ref b504), .val (.ref r532), .unset] [(.ref r558)]) rfl ?_
      refine g_astore X558 hx (hb hby at_125) (pc' := 127) rfl rfl (Ls' := #[.val (.int p0), .val (.int p1), .val (.int p2), .val (.int p3), .val (.int p4), .val (.int (3 : Int32)), .val (.ref r498), .val (.ref r500), .val (.ref b504), .val (.ref r532), .val (.ref r558)]) rfl ?_
      refine g_aload X558 hx (hb hby at_127) (pc' := 129) rfl rfl rfl ?_
      refine g_aload X558 hx (hb hby at_129) (pc' := 131) rfl rfl rfl ?_
      refine g_acmp_ne X558 hx (hb hby at_131) rfl rfl (pc1 := 134) rfl (by decide) (pc2 := 136) (by decide) (fun hc131 => ?_) (fun hc131 => absurd hc131 (fun q => (Ne.symm ne574) (Value.ref.inj q)))
      refine g_aload X558 hx (hb hby at_136) (pc' := 138) rfl rfl rfl ?_
      refine g_iload X558 hx (hb hby at_138) (pc' := 140) rfl rfl ?_
      refine g_iloadN X558 hx (hb hby at_140) (pc' := 141) rfl rfl ?_
      refine g_iloadN X558 hx (hb hby at_141) (pc' := 142) rfl rfl ?_
      refine g_iloadN X558 hx (hb hby at_142) (pc' := 143) rfl rfl ?_
      obtain ⟨v575, T575, h575, L575, X575, e575, N575, q575, st575⟩ := h_static X558 hx (W := 0) (Ls := #[.val (.int p0), .val (.int p1), .val (.int p2), .val (.int p3), .val (.int p4), .val (.int (3 : Int32)), .val (.ref r498), .val (.ref r500), .val (.ref b504), .val (.ref r532), .val (.ref r558)]) (argsL := [(.ref r558), (.int (3 : Int32)), (.int p0), (.int p1), (.int p2)]) (rest := []) hZ e558 N558 hml hown (rm11_3 l Z a0 hw r558 p0 p1 p2 h558 n0 Z569 V558) (hw _ (List.mem_of_getElem? (i := 66) rfl)) (hw _ (List.mem_of_getElem? (i := 67) rfl)) (hw _ (List.mem_of_getElem? (i := 28) rfl)) (hw _ (List.mem_of_getElem? (i := 68) rfl)) (by decide) pd___BIIII_Z rfl rfl (hb hby at_143) rfl (by decide) (by decide) (by decide) (by decide)
      obtain ⟨rfl, rfl⟩ := q575
      refine Go.movp st575 (mkF m 146 #[.val (.int p0), .val (.int p1), .val (.int p2), .val (.int p3), .val (.int p4), .val (.int (3 : Int32)), .val (.ref r498), .val (.ref r500), .val (.ref b504), .val (.ref r532), .val (.ref r558)] [(.int (1 : Int32))]) rfl ?_
      exact g_zreturn X575 hx rfl hret (hb hby at_146) N575 hlk (fun v t => endW S514 (show _ ≤ T575.heap.size by rw [e575]; exact f562) (by decide) (by decide) v) (by rw [e575]; exact rfl)
    · skip
      obtain ⟨T576, h576, X576, e576, E576, A576, D576, -, st576⟩ := newO X498 hx hZ hown (hw _ (List.mem_of_getElem? (i := 30) rfl)) (hw _ (List.mem_of_getElem? (i := 31) rfl)) (hw _ (List.mem_of_getElem? (i := 32) rfl)) e498 (g := (mkF m 26 #[.val (.int p0), .val (.int p1), .val (.int p2), .val (.int p3), .val (.int p4), .val (.int (3 : Int32)), .val (.ref r498), .unset, .unset, .unset, .unset] [])) rfl (hb hby at_26) (by decide) (by decide)
      obtain ⟨b576, g576⟩ : ∃ z, z = h498.size := ⟨_, rfl⟩
      rw [← g576] at A576 D576 st576
      have ne577 : r498 ≠ b576 := Nat.ne_of_lt (g576 ▸ A498.lt)
      have ge578 : n0 ≤ b576 := g576 ▸ Z499
      have f579 := Exa.ext E576 A498
      have Z580 : n0 ≤ h576.size := Nat.le_trans Z499 E576.1
      have f581 : Fld Z h576 b576 "com/example/stream_log_client/streamlogclient/protocol/Header" "key" "Ljava/lang/String;" .null := D576 (Or.inr (hw _ (List.mem_of_getElem? (i := 46) rfl))) (ty := (.object "java/lang/String")) (by decide)
      have f582 : Fld Z h576 b576 "com/example/stream_log_client/streamlogclient/protocol/Header" "value" "[B" .null := D576 (Or.inr (hw _ (List.mem_of_getElem? (i := 57) rfl))) (ty := (.array .byte)) (by decide)
      refine Go.movp st576 (mkF m 29 #[.val (.int p0), .val (.int p1), .val (.int p2), .val (.int p3), .val (.int p4), .val (.int (3 : Int32)), .val (.ref r498), .unset, .unset, .unset, .unset] [(.ref b576)]) rfl ?_
      refine g_dup X576 hx (hb hby at_29) (pc' := 30) rfl rfl ?_
      refine g_aload X576 hx (hb hby at_30) (pc' := 32) rfl rfl rfl ?_
      refine g_aconst_null X576 hx (hb hby at_32) (pc' := 33) rfl ?_
      obtain ⟨v583, T583, h583, L583, X583, e583, N583, q583, S583, hZ, hown, st583⟩ := h_specialS (a := b576) X576 hx (W := 1) (Ls := #[.val (.int p0), .val (.int p1), .val (.int p2), .val (.int p3), .val (.int p4), .val (.int (3 : Int32)), .val (.ref r498), .unset, .unset, .unset, .unset]) (argsL := [(.ref r498), .null]) (rest := [(.ref b576)]) hZ e576 N498 hml hown rfl (rm7n l Z a0 hw b576 r498 h576 n0 Z580 f581 f582 A576 ge578 f579 ne577) (hw _ (List.mem_of_getElem? (i := 33) rfl)) (hw _ (List.mem_of_getElem? (i := 34) rfl)) (hw _ (List.mem_of_getElem? (i := 32) rfl)) (hw _ (List.mem_of_getElem? (i := 35) rfl)) (by decide) pd__Ljava_lang_String__B_V rfl rfl (hb hby at_33) rfl (by decide) (by decide) (by decide) (by decide)
      obtain ⟨rfl, K583, A583, F583⟩ := q583
      have f584 := f579.keep K583
      have f585 := A576.keep K583
      have Z586 : n0 ≤ h583.size := Nat.le_trans Z580 K583.1
      refine Go.movp st583 (mkF m 36 #[.val (.int p0), .val (.int p1), .val (.int p2), .val (.int p3), .val (.int p4), .val (.int (3 : Int32)), .val (.ref r498), .unset, .unset, .unset, .unset] [(.ref b576)]) rfl ?_
      refine g_astore X583 hx (hb hby at_36) (pc' := 38) rfl rfl (Ls' := #[.val (.int p0), .val (.int p1), .val (.int p2), .val (.int p3), .val (.int p4), .val (.int (3 : Int32)), .val (.ref r498), .val (.ref b576), .unset, .unset, .unset]) rfl ?_
      refine g_aload X583 hx (hb hby at_38) (pc' := 40) rfl rfl rfl ?_
      obtain ⟨v587, T587, h587, L587, X587, e587, N587, q587, st587⟩ := h_virtual (a := b576) (z := (⟨"com/example/stream_log_client/streamlogclient/protocol/Header", "value", "()[B"⟩ : MethodName)) X583 hx (W := 0) (Ls := #[.val (.int p0), .val (.int p1), .val (.int p2), .val (.int p3), .val (.int p4), .val (.int (3 : Int32)), .val (.ref r498), .val (.ref b576), .unset, .unset, .unset]) (argsL := []) (rest := []) hZ e583 N583 hml hown (rm10n l Z a0 hw b576 h583 n0 Z586 F583) A583 (hw _ (List.mem_of_getElem? (i := 61) rfl)) (hw _ (List.mem_of_getElem? (i := 62) rfl)) (notFace_of_selects (args := #[]) (mvT hZ (hw _ (List.mem_of_getElem? (i := 64) rfl)))) (hw _ (List.mem_of_getElem? (i := 64) rfl)) (hw _ (List.mem_of_getElem? (i := 63) rfl)) (hw _ (List.mem_of_getElem? (i := 32) rfl)) (hw _ (List.mem_of_getElem? (i := 65) rfl)) (by decide) pd____B rfl rfl (hb hby at_40) rfl (by decide) (by decide) (by decide) (by decide)
      obtain ⟨rfl, rfl⟩ := q587
      refine Go.movp st587 (mkF m 43 #[.val (.int p0), .val (.int p1), .val (.int p2), .val (.int p3), .val (.int p4), .val (.int (3 : Int32)), .val (.ref r498), .val (.ref b576), .unset, .unset, .unset] [.null]) rfl ?_
      refine g_ifnonnull_n X587 hx (hb hby at_43) (pc' := 46) rfl ?_
      refine g_iconst X587 hx (hb hby at_46) (pc' := 47) rfl (z := (1 : Int32)) rfl ?_
      refine g_goto X587 hx (hb hby at_47) (by decide) (pc' := 51) (by decide) ?_
      exact g_zreturn X587 hx rfl hret (hb hby at_51) N587 hlk (fun v t => endW S583 (show _ ≤ T587.heap.size by rw [e587]; exact (Nat.le_refl _)) (by decide) (by decide) v) (by rw [e587]; exact rfl)
theorem own_cs {s : State} {a0 : Array Value} (hs : ∀ w ∈ jdkStatics_1, w.before a0 s = true) : ∃ cs : Int32, Sta s s.heap "java/lang/String" "COMPACT_STRINGS" "Z" (.int cs) ∧ ¬ cs = 0 := by
  have h0 := hs _ (List.mem_of_getElem? (i := 0) rfl)
  have h1 := Cond.before_iff.mp (hs _ (List.mem_of_getElem? (i := 1) rfl))
  have h2 := Cond.before_iff.mp (hs _ (List.mem_of_getElem? (i := 2) rfl))
  obtain ⟨cs, ev⟩ := is_v h1
  refine ⟨cs, Sta.start ev (Or.inl h0), fun q => ?_⟩
  have e := Cond.eq_ints ev (Term.int_eval (first := s) (args := a0) (o := none) (idx := []) (s := s) 0)
  have h3 : ((Jvm.Cond.eq (.static "java/lang/String" "COMPACT_STRINGS" "Z") (.int 0)).value a0 s none s []).map (!·) = some true := h2
  rw [e, q] at h3
  exact absurd h3 (by decide)
set_option maxRecDepth 65536 in
set_option maxHeartbeats 40000000 in
theorem comes_1 {Post : Tables → Env → Array Value → State → Outcome → State → Prop} (hpost : ∀ tb e args s v u, (limb_1_1.after args s (.returned v) u = true ∧ limb_1_2.after args s (.returned v) u = true ∧ True) → ReturnedEndW s (.returned v) u (Jvm.fieldLocs frame_1_writes args s ++ Jvm.arrayLocs frame_1_arrays args s ++ Jvm.staticLocs frame_1_statics s) 24 1152 → Post tb e args s (.returned v) u) :
    ArmFor flags0 classFile x code maxLocals ret World_1 tables_1 room_1 Calls_1 rest_1 Pre_1 Post := by
  intro l hfl _ _ p e ha hc hk s m args below hf hA hF happ hP
  obtain ⟨hcalls, hrest, hpre⟩ := hP
  obtain ⟨-, -, -, hnamed, -, -, -, hat⟩ := (Spec.applies_iff hf).mp happ
  obtain ⟨hg, hn⟩ := and_e (Cond.before_iff.mp (show (Jvm.Cond.and given_1 narrow_1).before args s = true from hpre))
  obtain ⟨g1, g2⟩ := and_e hg
  obtain ⟨g3, g4⟩ := and_e g2
  obtain ⟨g5, g6⟩ := and_e g4
  obtain ⟨g7, g8⟩ := and_e g6
  obtain ⟨g9, g10⟩ := and_e g8
  obtain ⟨w0, w1, w2, w3, w4, rfl⟩ : ∃ w0 w1 w2 w3 w4 : Value, args = #[w0, w1, w2, w3, w4] := by
    have hs : args.size = 5 := by simpa [Cond.value, given_1] using g1
    obtain ⟨L⟩ := args
    match L, hs with
    | [w0, w1, w2, w3, w4], _ => exact ⟨w0, w1, w2, w3, w4, rfl⟩
  have hw := fun d (hd : d ∈ tables_1) => atoms_spec (ws := Jvm.Cond.code x code maxLocals ret :: tables_1) hat d (List.mem_cons_of_mem _ hd)
  have hfit : Fit s := fun {y c} hc i hi => by
    obtain ⟨ha, rfl⟩ := Array.getElem?_eq_some_iff.mp hc
    have q := List.all_eq_true.mp ((Array.all_eq_true_iff_forall_mem.mp hF) _ (Array.getElem_mem ha)) i (List.mem_range.mpr hi)
    simpa [Array.getElem?_eq_getElem hi] using q
  obtain ⟨hsets, hown0⟩ := atoms_of _ (rest_1_c_eq ▸ (show rest_1_c.before _ s = true from hrest))
  have hr0 := Cond.before_iff.mp hown0
  obtain ⟨i0, ei0⟩ := is_v g3
  obtain rfl : w0 = (.int i0) := Option.some.inj ei0
  obtain ⟨i1, ei1⟩ := is_v g5
  obtain rfl : w1 = (.int i1) := Option.some.inj ei1
  obtain ⟨i2, ei2⟩ := is_v g7
  obtain rfl : w2 = (.int i2) := Option.some.inj ei2
  obtain ⟨i3, ei3⟩ := is_v g9
  obtain rfl : w3 = (.int i3) := Option.some.inj ei3
  obtain ⟨i4, ei4⟩ := is_v g10
  obtain rfl : w4 = (.int i4) := Option.some.inj ei4
  obtain ⟨cs, sCS, nCS⟩ := own_cs hsets
  obtain ⟨n, o, h1, h2, h3, _, L, rfl, ⟨rfl, N⟩, hq⟩ := rm0 l s _ hw i0 i1 i2 i3 i4 cs s.heap s.heap.size (Nat.le_refl _) sCS nCS tables_1 p e ha hc hk s m _ below hf ((Spec.applies_iff_loose hf).mp happ).1 ⟨rfl, State.Warmed39.refl s, rfl⟩ trivial
  refine ⟨n, _, h1, h2, h3, hpost _ _ _ _ _ _ ⟨Cond.after_iff.mpr rfl, Cond.after_iff.mpr (eq_i res_at (Term.int_eval (1)) rfl), trivial⟩ ⟨hq.1, hq.2.1, hq.2.2.1, (hq.2.2.2.sift fun y hy => Or.inr (N y hy)).mono (by decide) (by decide)⟩⟩
theorem main_1_1 : Claimed_1_1 := comes_1 fun _ _ _ _ _ _ h hF => ⟨h.1, hF⟩
theorem main_1_2 : Claimed_1_2 := comes_1 fun _ _ _ _ _ _ h hF => ⟨h.2.1, hF⟩
end Jvm.Pilot.@@N@@
namespace Jvm.Pilot.@@N@@
open Jvm Jvm.ClassFile Sem Op Lib Jvm.Free Jvm.Stand Jvm.Pilot.@@N@@.Jvm.D
/-! MADE BY PROGRAM (witnessworld.py) out of the Statement's table words and the real class files: 18 classes; the members and pool entries that the words name. The judged class is class 1, her method 1. -/
namespace start1
open Jvm.ClassFile
def u (s : String) : CpInfo := .utf8 (stringToUtf16 s)
/-- a pool by its gaps: so many unusable entries, then the entry; so many at the end -/
def gap : Nat → List CpInfo → List CpInfo
  | 0, r => r
  | n + 1, r => .unusable :: gap n r
def poolList (es : List (Nat × CpInfo)) (last : Nat) : List CpInfo := es.foldr (fun e r => gap e.1 (e.2 :: r)) (gap last [])
def pool (es : List (Nat × CpInfo)) (last : Nat) : Array CpInfo := ⟨poolList es last⟩
def fileOf (pool : Array CpInfo) (this : Nat) (attrs : Array Attribute := #[]) (ms : Array MethodInfo := #[]) (fl : Nat := 33) (sup : Nat := 0) (ifs : Array Nat := #[]) (fds : Array FieldInfo := #[]) : ClassFile where
  minorVersion := 0
  majorVersion := 65
  constantPool := pool
  accessFlags := fl
  thisClass := this
  superClass := sup
  interfaces := ifs
  fields := fds
  methods := ms
  attributes := attrs
def plain (name : String) (sup : Option ClassId) : Class where
  name := name
  kind := .ordinary
  loader := none
  accessFlags := 33
  super := sup
  interfaces := #[]
  cf := none
  fields := #[]
  methods := #[]
  instanceTypes := #[]
  staticTypes := #[]
  resolved := #[]
  callSites := []
  init := .initialized
  statics := none
  mirror := none

def pool0 : Array CpInfo := pool [(5, u "<init>"), (0, u "()V"), (1, .class_ 10), (1, u "java/lang/Object"), (85, u "clone"), (0, u "()Ljava/lang/Object;")] 26

def k0c0 : Code := { maxStack := 0, maxLocals := 1, code := object_method_1_code, exceptionTable := #[], attributes := #[] }
def k0m0 : Method := { name := "<init>", desc := "()V", sig := { parameters := [], returnType := none }, accessFlags := 1, code := some k0c0 }
def k0m1 : Method := { name := "clone", desc := "()Ljava/lang/Object;", sig := { parameters := [], returnType := some (.object "java/lang/Object") }, accessFlags := 260, code := none }
/-- java/lang/Object -/
def k0 : Class := { plain "java/lang/Object" none with
  accessFlags := 33
  interfaces := #[]
  cf := some (fileOf pool0 8 #[] #[{ accessFlags := 1, nameIndex := 5, descriptorIndex := 6, attributes := #[] }, { accessFlags := 260, nameIndex := 96, descriptorIndex := 97, attributes := #[] }] 33 0 #[] #[])
  fields := #[]
  methods := #[k0m0, k0m1]
  instanceTypes := #[]
  staticTypes := #[]
  resolved := Array.replicate 124 none
  statics := none }

def pool1 : Array CpInfo := pool [(2, .class_ 4), (1, u "java/lang/Object"), (0, u "<init>"), (0, u "()V"), (0, .methodref 8 9), (0, .class_ 10), (0, .nameAndType 11 12), (0, u "java/lang/String"), (0, u "valueOf"), (0, u "(C)Ljava/lang/String;"), (0, .class_ 14), (0, u "com/example/stream_log_client/streamlogclient/protocol/Header"), (0, .methodref 13 16), (0, .nameAndType 5 17), (0, u "(Ljava/lang/String;[B)V"), (0, .methodref 13 19), (0, .nameAndType 20 21), (0, u "value"), (0, u "()[B"), (0, .methodref 23 24), (0, .class_ 25), (0, .nameAndType 26 27), (0, u "com/example/stream_log_client/streamlogclient/protocol/HeaderValuePinLaw"), (0, u "mk"), (0, u "(IIII)[B"), (0, .methodref 23 29), (0, .nameAndType 30 31), (0, u "flip"), (0, u "([BI)V"), (0, .methodref 23 33), (0, .nameAndType 34 35), (0, u "matches"), (0, u "([BIIII)Z"), (2, u "law"), (0, u "(IIIII)Z")] 5

def k1m0 : Method := { name := "<init>", desc := "()V", sig := { parameters := [], returnType := none }, accessFlags := 1, code := none }
def k1c1 : Code := { maxStack := 5, maxLocals := 11, code := code, exceptionTable := #[], attributes := #[] }
def k1m1 : Method := { name := "law", desc := "(IIIII)Z", sig := { parameters := [.int, .int, .int, .int, .int], returnType := some .boolean }, accessFlags := 9, code := some k1c1 }
def k1c2 : Code := { maxStack := 4, maxLocals := 4, code := method_3_code, exceptionTable := #[], attributes := #[] }
def k1m2 : Method := { name := "mk", desc := "(IIII)[B", sig := { parameters := [.int, .int, .int, .int], returnType := some (.array .byte) }, accessFlags := 10, code := some k1c2 }
def k1c3 : Code := { maxStack := 4, maxLocals := 2, code := method_4_code, exceptionTable := #[], attributes := #[] }
def k1m3 : Method := { name := "flip", desc := "([BI)V", sig := { parameters := [(.array .byte), .int], returnType := none }, accessFlags := 10, code := some k1c3 }
def k1c4 : Code := { maxStack := 2, maxLocals := 5, code := method_5_code, exceptionTable := #[], attributes := #[] }
def k1m4 : Method := { name := "matches", desc := "([BIIII)Z", sig := { parameters := [(.array .byte), .int, .int, .int, .int], returnType := some .boolean }, accessFlags := 10, code := some k1c4 }
/-- com/example/stream_log_client/streamlogclient/protocol/HeaderValuePinLaw -/
def k1 : Class := { plain "com/example/stream_log_client/streamlogclient/protocol/HeaderValuePinLaw" (some 0) with
  accessFlags := 49
  interfaces := #[]
  cf := some (fileOf pool1 23 #[] #[{ accessFlags := 1, nameIndex := 5, descriptorIndex := 6, attributes := #[] }, { accessFlags := 9, nameIndex := 38, descriptorIndex := 39, attributes := #[] }, { accessFlags := 10, nameIndex := 26, descriptorIndex := 27, attributes := #[] }, { accessFlags := 10, nameIndex := 30, descriptorIndex := 31, attributes := #[] }, { accessFlags := 10, nameIndex := 34, descriptorIndex := 35, attributes := #[] }] 49 2 #[] #[])
  fields := #[]
  methods := #[k1m0, k1m1, k1m2, k1m3, k1m4]
  instanceTypes := #[]
  staticTypes := #[]
  resolved := Array.replicate 45 none
  statics := none }

def pool2 : Array CpInfo := pool [(1, .class_ 2), (0, u "java/io/Serializable"), (0, .class_ 4), (0, u "java/lang/Object")] 2

/-- java/io/Serializable -/
def k2 : Class := { plain "java/io/Serializable" (some 0) with
  accessFlags := 1537
  interfaces := #[]
  cf := some (fileOf pool2 1 #[] #[] 1537 3 #[] #[])
  fields := #[]
  methods := #[]
  instanceTypes := #[]
  staticTypes := #[]
  resolved := Array.replicate 7 none
  statics := none }

def pool3 : Array CpInfo := pool [(1, .class_ 2), (0, u "java/lang/Comparable"), (0, .class_ 4), (0, u "java/lang/Object")] 7

/-- java/lang/Comparable -/
def k3 : Class := { plain "java/lang/Comparable" (some 0) with
  accessFlags := 1537
  interfaces := #[]
  cf := some (fileOf pool3 1 #[] #[] 1537 3 #[] #[])
  fields := #[]
  methods := #[]
  instanceTypes := #[]
  staticTypes := #[]
  resolved := Array.replicate 12 none
  statics := none }

def pool4 : Array CpInfo := pool [(2, .class_ 4), (1, u "java/lang/CharSequence"), (42, .class_ 48), (0, u "java/lang/CharSequence$1CodePointIterator"), (10, .class_ 60), (0, u "java/lang/CharSequence$1CharIterator"), (5, .class_ 67), (0, u "java/lang/Object")] 63

/-- java/lang/CharSequence -/
def k4 : Class := { plain "java/lang/CharSequence" (some 0) with
  accessFlags := 1537
  interfaces := #[]
  cf := some (fileOf pool4 2 #[.nestMembers #[47, 59]] #[] 1537 66 #[] #[])
  fields := #[]
  methods := #[]
  instanceTypes := #[]
  staticTypes := #[]
  resolved := Array.replicate 131 none
  statics := none }

def pool5 : Array CpInfo := pool [(1, .class_ 2), (0, u "java/lang/constant/Constable"), (0, .class_ 4), (0, u "java/lang/Object")] 6

/-- java/lang/constant/Constable -/
def k5 : Class := { plain "java/lang/constant/Constable" (some 0) with
  accessFlags := 1537
  interfaces := #[]
  cf := some (fileOf pool5 1 #[] #[] 1537 3 #[] #[])
  fields := #[]
  methods := #[]
  instanceTypes := #[]
  staticTypes := #[]
  resolved := Array.replicate 11 none
  statics := none }

def pool6 : Array CpInfo := pool [(1, .class_ 2), (0, u "java/lang/constant/ConstantDesc"), (0, .class_ 4), (0, u "java/lang/Object")] 32

/-- java/lang/constant/ConstantDesc -/
def k6 : Class := { plain "java/lang/constant/ConstantDesc" (some 0) with
  accessFlags := 1537
  interfaces := #[]
  cf := some (fileOf pool6 1 #[] #[] 1537 3 #[] #[])
  fields := #[]
  methods := #[]
  instanceTypes := #[]
  staticTypes := #[]
  resolved := Array.replicate 37 none
  statics := none }

def pool7 : Array CpInfo := pool [(1, .methodref 2 3), (0, .class_ 4), (0, .nameAndType 5 6), (0, u "java/lang/Object"), (0, u "<init>"), (0, u "()V"), (2, .fieldref 10 11), (0, .class_ 12), (0, .nameAndType 13 14), (0, u "java/lang/String"), (0, u "value"), (0, u "[B"), (0, .fieldref 10 16), (0, .nameAndType 17 18), (0, u "coder"), (0, u "B"), (2, u "hash"), (0, u "I"), (2, u "hashIsZero"), (0, u "Z"), (11, .fieldref 10 39), (0, .nameAndType 40 26), (0, u "COMPACT_STRINGS"), (12, u "toBytes"), (53, .class_ 109), (1, u "java/lang/StringLatin1"), (99, .methodref 10 210), (0, .nameAndType 5 211), (0, u "([BB)V"), (157, u "(C)Z"), (205, .class_ 576), (0, u "java/lang/CharSequence"), (22, u "CASE_INSENSITIVE_ORDER"), (0, u "Ljava/util/Comparator;"), (181, u "valueOf"), (0, u "(C)Ljava/lang/String;"), (231, .methodref 107 1016), (0, .nameAndType 1017 369), (0, u "canEncode"), (0, .methodref 107 1019), (0, .nameAndType 53 1020), (0, u "(C)[B"), (80, u "serialPersistentFields"), (0, u "[Ljava/io/ObjectStreamField;"), (0, .class_ 1104), (0, u "java/lang/String$CaseInsensitiveComparator"), (1, .class_ 1107), (0, u "java/io/Serializable"), (0, .class_ 1109), (0, u "java/lang/Comparable"), (0, .class_ 1111), (0, u "java/lang/constant/Constable"), (0, .class_ 1113), (0, u "java/lang/constant/ConstantDesc"), (2, u "serialVersionUID"), (0, u "J"), (3, u "REPL"), (0, u "C"), (2, u "LATIN1"), (1, u "UTF16")] 323

def k7m0 : Method := { name := "<init>", desc := "()V", sig := { parameters := [], returnType := none }, accessFlags := 1, code := none }
def k7c1 : Code := { maxStack := 4, maxLocals := 1, code := jdk_42_method_139_code, exceptionTable := #[], attributes := #[] }
def k7m1 : Method := { name := "valueOf", desc := "(C)Ljava/lang/String;", sig := { parameters := [.char], returnType := some (.object "java/lang/String") }, accessFlags := 9, code := some k7c1 }
def k7c2 : Code := { maxStack := 2, maxLocals := 3, code := jdk_42_method_151_code, exceptionTable := #[], attributes := #[] }
def k7m2 : Method := { name := "<init>", desc := "([BB)V", sig := { parameters := [(.array .byte), .byte], returnType := none }, accessFlags := 0, code := some k7c2 }
/-- java/lang/String -/
def k7 : Class := { plain "java/lang/String" (some 0) with
  accessFlags := 49
  interfaces := #[2, 3, 4, 5, 6]
  cf := some (fileOf pool7 10 #[.nestMembers #[1103]] #[{ accessFlags := 1, nameIndex := 5, descriptorIndex := 6, attributes := #[] }, { accessFlags := 9, nameIndex := 782, descriptorIndex := 783, attributes := #[] }, { accessFlags := 0, nameIndex := 5, descriptorIndex := 211, attributes := #[] }] 49 2 #[1106, 1108, 575, 1110, 1112] #[{ accessFlags := 18, nameIndex := 13, descriptorIndex := 14, attributes := #[] }, { accessFlags := 18, nameIndex := 17, descriptorIndex := 18, attributes := #[] }, { accessFlags := 2, nameIndex := 21, descriptorIndex := 22, attributes := #[] }, { accessFlags := 2, nameIndex := 25, descriptorIndex := 26, attributes := #[] }, { accessFlags := 26, nameIndex := 1116, descriptorIndex := 1117, attributes := #[] }, { accessFlags := 24, nameIndex := 40, descriptorIndex := 26, attributes := #[] }, { accessFlags := 26, nameIndex := 1101, descriptorIndex := 1102, attributes := #[] }, { accessFlags := 26, nameIndex := 1121, descriptorIndex := 1122, attributes := #[] }, { accessFlags := 25, nameIndex := 599, descriptorIndex := 600, attributes := #[] }, { accessFlags := 24, nameIndex := 1125, descriptorIndex := 18, attributes := #[] }, { accessFlags := 24, nameIndex := 1127, descriptorIndex := 18, attributes := #[] }])
  fields := #[{ name := "value", type := (.array .byte), accessFlags := 18, slot := 0, constantValue := 0 }, { name := "coder", type := .byte, accessFlags := 18, slot := 1, constantValue := 0 }, { name := "hash", type := .int, accessFlags := 2, slot := 2, constantValue := 0 }, { name := "hashIsZero", type := .boolean, accessFlags := 2, slot := 3, constantValue := 0 }, { name := "serialVersionUID", type := .long, accessFlags := 26, slot := 0, constantValue := 0 }, { name := "COMPACT_STRINGS", type := .boolean, accessFlags := 24, slot := 1, constantValue := 0 }, { name := "serialPersistentFields", type := (.array (.object "java/io/ObjectStreamField")), accessFlags := 26, slot := 2, constantValue := 0 }, { name := "REPL", type := .char, accessFlags := 26, slot := 3, constantValue := 0 }, { name := "CASE_INSENSITIVE_ORDER", type := (.object "java/util/Comparator"), accessFlags := 25, slot := 4, constantValue := 0 }, { name := "LATIN1", type := .byte, accessFlags := 24, slot := 5, constantValue := 0 }, { name := "UTF16", type := .byte, accessFlags := 24, slot := 6, constantValue := 0 }]
  methods := #[k7m0, k7m1, k7m2]
  instanceTypes := #[(.array .byte), .byte, .int, .boolean]
  staticTypes := #[.long, .boolean, (.array (.object "java/io/ObjectStreamField")), .char, (.object "java/util/Comparator"), .byte, .byte]
  resolved := Array.replicate 1451 none
  statics := some 0 }

def pool8 : Array CpInfo := pool [(4, .class_ 6), (1, u "java/lang/Object"), (0, u "<init>"), (0, u "()V"), (5, .class_ 16), (1, u "java/lang/StringLatin1"), (73, u "canEncode"), (14, u "(C)Z"), (15, u "$assertionsDisabled"), (0, u "Z"), (98, .class_ 223), (1, u "java/lang/StringLatin1$LinesSpliterator"), (156, u "toBytes"), (1, u "(C)[B"), (7, .class_ 391), (0, u "java/lang/StringLatin1$CharsSpliterator")] 3

def k8m0 : Method := { name := "<init>", desc := "()V", sig := { parameters := [], returnType := none }, accessFlags := 0, code := none }
def k8c1 : Code := { maxStack := 2, maxLocals := 1, code := jdk_43_method_3_code, exceptionTable := #[], attributes := #[] }
def k8m1 : Method := { name := "canEncode", desc := "(C)Z", sig := { parameters := [.char], returnType := some .boolean }, accessFlags := 9, code := some k8c1 }
def k8c2 : Code := { maxStack := 4, maxLocals := 1, code := jdk_43_method_46_code, exceptionTable := #[], attributes := #[] }
def k8m2 : Method := { name := "toBytes", desc := "(C)[B", sig := { parameters := [.char], returnType := some (.array .byte) }, accessFlags := 9, code := some k8c2 }
/-- java/lang/StringLatin1 -/
def k8 : Class := { plain "java/lang/StringLatin1" (some 0) with
  accessFlags := 48
  interfaces := #[]
  cf := some (fileOf pool8 14 #[.nestMembers #[390, 221]] #[{ accessFlags := 0, nameIndex := 7, descriptorIndex := 8, attributes := #[] }, { accessFlags := 9, nameIndex := 90, descriptorIndex := 105, attributes := #[] }, { accessFlags := 9, nameIndex := 380, descriptorIndex := 382, attributes := #[] }] 48 4 #[] #[{ accessFlags := 4120, nameIndex := 121, descriptorIndex := 122, attributes := #[] }])
  fields := #[{ name := "$assertionsDisabled", type := .boolean, accessFlags := 4120, slot := 0, constantValue := 0 }]
  methods := #[k8m0, k8m1, k8m2]
  instanceTypes := #[]
  staticTypes := #[.boolean]
  resolved := Array.replicate 395 none
  statics := none }

def pool9 : Array CpInfo := pool [(1, .methodref 2 3), (0, .class_ 4), (0, .nameAndType 5 6), (0, u "java/lang/Object"), (0, u "<init>"), (0, u "()V"), (0, .string 8), (0, u "key"), (0, .methodref 10 11), (0, .class_ 12), (0, .nameAndType 13 14), (0, u "java/util/Objects"), (0, u "requireNonNull"), (0, u "(Ljava/lang/Object;Ljava/lang/String;)Ljava/lang/Object;"), (0, .class_ 16), (0, u "java/lang/String"), (0, .fieldref 18 19), (0, .class_ 20), (0, .nameAndType 8 21), (0, u "com/example/stream_log_client/streamlogclient/protocol/Header"), (0, u "Ljava/lang/String;"), (0, .methodref 23 24), (0, .class_ 25), (0, .nameAndType 26 27), (0, u "[B"), (0, u "clone"), (0, u "()Ljava/lang/Object;"), (0, .fieldref 18 29), (0, .nameAndType 30 25), (0, u "value"), (31, u "(Ljava/lang/String;[B)V"), (4, u "()[B")] 18

def k9c0 : Code := { maxStack := 3, maxLocals := 3, code := prog_95_method_1_code, exceptionTable := #[], attributes := #[] }
def k9m0 : Method := { name := "<init>", desc := "(Ljava/lang/String;[B)V", sig := { parameters := [(.object "java/lang/String"), (.array .byte)], returnType := none }, accessFlags := 1, code := some k9c0 }
def k9c1 : Code := { maxStack := 1, maxLocals := 1, code := prog_95_method_3_code, exceptionTable := #[], attributes := #[] }
def k9m1 : Method := { name := "value", desc := "()[B", sig := { parameters := [], returnType := some (.array .byte) }, accessFlags := 1, code := some k9c1 }
/-- com/example/stream_log_client/streamlogclient/protocol/Header -/
def k9 : Class := { plain "com/example/stream_log_client/streamlogclient/protocol/Header" (some 0) with
  accessFlags := 49
  interfaces := #[]
  cf := some (fileOf pool9 18 #[] #[{ accessFlags := 1, nameIndex := 5, descriptorIndex := 62, attributes := #[] }, { accessFlags := 1, nameIndex := 30, descriptorIndex := 67, attributes := #[] }] 49 2 #[] #[{ accessFlags := 18, nameIndex := 8, descriptorIndex := 21, attributes := #[] }, { accessFlags := 18, nameIndex := 30, descriptorIndex := 25, attributes := #[] }])
  fields := #[{ name := "key", type := (.object "java/lang/String"), accessFlags := 18, slot := 0, constantValue := 0 }, { name := "value", type := (.array .byte), accessFlags := 18, slot := 1, constantValue := 0 }]
  methods := #[k9m0, k9m1]
  instanceTypes := #[(.object "java/lang/String"), (.array .byte)]
  staticTypes := #[]
  resolved := Array.replicate 86 none
  statics := none }

def pool10 : Array CpInfo := pool [(2, .class_ 4), (1, u "java/lang/Object"), (0, u "<init>"), (0, u "()V"), (35, .class_ 44), (1, u "java/util/Objects"), (0, u "requireNonNull"), (48, u "(Ljava/lang/Object;Ljava/lang/String;)Ljava/lang/Object;")] 89

def k10m0 : Method := { name := "<init>", desc := "()V", sig := { parameters := [], returnType := none }, accessFlags := 2, code := none }
def k10c1 : Code := { maxStack := 3, maxLocals := 2, code := jdk_31_method_11_code, exceptionTable := #[], attributes := #[] }
def k10m1 : Method := { name := "requireNonNull", desc := "(Ljava/lang/Object;Ljava/lang/String;)Ljava/lang/Object;", sig := { parameters := [(.object "java/lang/Object"), (.object "java/lang/String")], returnType := some (.object "java/lang/Object") }, accessFlags := 9, code := some k10c1 }
/-- java/util/Objects -/
def k10 : Class := { plain "java/util/Objects" (some 0) with
  accessFlags := 49
  interfaces := #[]
  cf := some (fileOf pool10 42 #[] #[{ accessFlags := 2, nameIndex := 5, descriptorIndex := 6, attributes := #[] }, { accessFlags := 9, nameIndex := 45, descriptorIndex := 94, attributes := #[] }] 49 2 #[] #[])
  fields := #[]
  methods := #[k10m0, k10m1]
  instanceTypes := #[]
  staticTypes := #[]
  resolved := Array.replicate 184 none
  statics := none }

def pool11 : Array CpInfo := pool [(1, .class_ 2), (0, u "java/lang/Cloneable"), (0, .class_ 4), (0, u "java/lang/Object")] 2

/-- java/lang/Cloneable -/
def k11 : Class := { plain "java/lang/Cloneable" (some 0) with
  accessFlags := 1537
  interfaces := #[]
  cf := some (fileOf pool11 1 #[] #[] 1537 3 #[] #[])
  fields := #[]
  methods := #[]
  instanceTypes := #[]
  staticTypes := #[]
  resolved := Array.replicate 7 none
  statics := none }

def pool12 : Array CpInfo := pool [(2, .class_ 4), (1, u "java/lang/Object"), (0, u "<init>"), (0, u "()V"), (17, .class_ 26), (1, u "jdk/internal/util/Preconditions"), (28, .class_ 56), (0, u "jdk/internal/util/Preconditions$4"), (57, .class_ 115), (0, u "jdk/internal/util/Preconditions$1"), (7, u "SIOOBE_FORMATTER"), (0, u "Ljava/util/function/BiFunction;"), (0, .class_ 126), (0, u "jdk/internal/util/Preconditions$2"), (3, u "AIOOBE_FORMATTER"), (0, .class_ 132), (0, u "jdk/internal/util/Preconditions$3"), (3, u "IOOBE_FORMATTER")] 57

def k12m0 : Method := { name := "<init>", desc := "()V", sig := { parameters := [], returnType := none }, accessFlags := 1, code := none }
/-- jdk/internal/util/Preconditions -/
def k12 : Class := { plain "jdk/internal/util/Preconditions" (some 0) with
  accessFlags := 33
  interfaces := #[]
  cf := some (fileOf pool12 24 #[.nestMembers #[55, 131, 125, 114]] #[{ accessFlags := 1, nameIndex := 5, descriptorIndex := 6, attributes := #[] }] 33 2 #[] #[{ accessFlags := 25, nameIndex := 123, descriptorIndex := 124, attributes := #[] }, { accessFlags := 25, nameIndex := 130, descriptorIndex := 124, attributes := #[] }, { accessFlags := 25, nameIndex := 136, descriptorIndex := 124, attributes := #[] }])
  fields := #[{ name := "SIOOBE_FORMATTER", type := (.object "java/util/function/BiFunction"), accessFlags := 25, slot := 0, constantValue := 0 }, { name := "AIOOBE_FORMATTER", type := (.object "java/util/function/BiFunction"), accessFlags := 25, slot := 1, constantValue := 0 }, { name := "IOOBE_FORMATTER", type := (.object "java/util/function/BiFunction"), accessFlags := 25, slot := 2, constantValue := 0 }]
  methods := #[k12m0]
  instanceTypes := #[]
  staticTypes := #[(.object "java/util/function/BiFunction"), (.object "java/util/function/BiFunction"), (.object "java/util/function/BiFunction")]
  resolved := Array.replicate 194 none
  statics := some 1 }

def pool13 : Array CpInfo := pool [(9, u "<init>"), (6, .class_ 18), (1, u "java/lang/Object"), (0, u "()V"), (1, .class_ 23), (1, u "jdk/internal/util/ArraysSupport"), (0, u "LOG2_ARRAY_LONG_INDEX_SCALE"), (0, u "I"), (2, u "U"), (0, u "Ljdk/internal/misc/Unsafe;"), (8, u "BIG_ENDIAN"), (0, u "Z"), (8, u "LOG2_BYTE_BIT_SIZE"), (4, u "LOG2_ARRAY_INT_INDEX_SCALE"), (54, u "JLA"), (0, u "Ljdk/internal/access/JavaLangAccess;"), (11, u "LOG2_ARRAY_BOOLEAN_INDEX_SCALE"), (9, u "LOG2_ARRAY_BYTE_INDEX_SCALE"), (5, u "LOG2_ARRAY_CHAR_INDEX_SCALE"), (5, u "LOG2_ARRAY_SHORT_INDEX_SCALE"), (18, u "LOG2_ARRAY_FLOAT_INDEX_SCALE"), (24, u "LOG2_ARRAY_DOUBLE_INDEX_SCALE"), (89, u "T_BOOLEAN"), (2, u "T_CHAR"), (1, u "T_FLOAT"), (1, u "T_DOUBLE"), (1, u "T_BYTE"), (1, u "T_SHORT"), (1, u "T_INT"), (1, u "T_LONG"), (1, u "SOFT_MAX_ARRAY_LENGTH")] 83

def k13m0 : Method := { name := "<init>", desc := "()V", sig := { parameters := [], returnType := none }, accessFlags := 2, code := none }
/-- jdk/internal/util/ArraysSupport -/
def k13 : Class := { plain "jdk/internal/util/ArraysSupport" (some 0) with
  accessFlags := 33
  interfaces := #[]
  cf := some (fileOf pool13 21 #[] #[{ accessFlags := 2, nameIndex := 9, descriptorIndex := 19, attributes := #[] }] 33 16 #[] #[{ accessFlags := 24, nameIndex := 28, descriptorIndex := 29, attributes := #[] }, { accessFlags := 26, nameIndex := 38, descriptorIndex := 39, attributes := #[] }, { accessFlags := 25, nameIndex := 121, descriptorIndex := 25, attributes := #[] }, { accessFlags := 25, nameIndex := 131, descriptorIndex := 25, attributes := #[] }, { accessFlags := 25, nameIndex := 137, descriptorIndex := 25, attributes := #[] }, { accessFlags := 25, nameIndex := 143, descriptorIndex := 25, attributes := #[] }, { accessFlags := 25, nameIndex := 53, descriptorIndex := 25, attributes := #[] }, { accessFlags := 25, nameIndex := 24, descriptorIndex := 25, attributes := #[] }, { accessFlags := 25, nameIndex := 162, descriptorIndex := 25, attributes := #[] }, { accessFlags := 25, nameIndex := 187, descriptorIndex := 25, attributes := #[] }, { accessFlags := 26, nameIndex := 48, descriptorIndex := 25, attributes := #[] }, { accessFlags := 25, nameIndex := 277, descriptorIndex := 25, attributes := #[] }, { accessFlags := 25, nameIndex := 280, descriptorIndex := 25, attributes := #[] }, { accessFlags := 25, nameIndex := 282, descriptorIndex := 25, attributes := #[] }, { accessFlags := 25, nameIndex := 284, descriptorIndex := 25, attributes := #[] }, { accessFlags := 25, nameIndex := 286, descriptorIndex := 25, attributes := #[] }, { accessFlags := 25, nameIndex := 288, descriptorIndex := 25, attributes := #[] }, { accessFlags := 25, nameIndex := 290, descriptorIndex := 25, attributes := #[] }, { accessFlags := 25, nameIndex := 292, descriptorIndex := 25, attributes := #[] }, { accessFlags := 26, nameIndex := 108, descriptorIndex := 109, attributes := #[] }, { accessFlags := 25, nameIndex := 294, descriptorIndex := 25, attributes := #[] }])
  fields := #[{ name := "U", type := (.object "jdk/internal/misc/Unsafe"), accessFlags := 24, slot := 0, constantValue := 0 }, { name := "BIG_ENDIAN", type := .boolean, accessFlags := 26, slot := 1, constantValue := 0 }, { name := "LOG2_ARRAY_BOOLEAN_INDEX_SCALE", type := .int, accessFlags := 25, slot := 2, constantValue := 0 }, { name := "LOG2_ARRAY_BYTE_INDEX_SCALE", type := .int, accessFlags := 25, slot := 3, constantValue := 0 }, { name := "LOG2_ARRAY_CHAR_INDEX_SCALE", type := .int, accessFlags := 25, slot := 4, constantValue := 0 }, { name := "LOG2_ARRAY_SHORT_INDEX_SCALE", type := .int, accessFlags := 25, slot := 5, constantValue := 0 }, { name := "LOG2_ARRAY_INT_INDEX_SCALE", type := .int, accessFlags := 25, slot := 6, constantValue := 0 }, { name := "LOG2_ARRAY_LONG_INDEX_SCALE", type := .int, accessFlags := 25, slot := 7, constantValue := 0 }, { name := "LOG2_ARRAY_FLOAT_INDEX_SCALE", type := .int, accessFlags := 25, slot := 8, constantValue := 0 }, { name := "LOG2_ARRAY_DOUBLE_INDEX_SCALE", type := .int, accessFlags := 25, slot := 9, constantValue := 0 }, { name := "LOG2_BYTE_BIT_SIZE", type := .int, accessFlags := 26, slot := 10, constantValue := 0 }, { name := "T_BOOLEAN", type := .int, accessFlags := 25, slot := 11, constantValue := 0 }, { name := "T_CHAR", type := .int, accessFlags := 25, slot := 12, constantValue := 0 }, { name := "T_FLOAT", type := .int, accessFlags := 25, slot := 13, constantValue := 0 }, { name := "T_DOUBLE", type := .int, accessFlags := 25, slot := 14, constantValue := 0 }, { name := "T_BYTE", type := .int, accessFlags := 25, slot := 15, constantValue := 0 }, { name := "T_SHORT", type := .int, accessFlags := 25, slot := 16, constantValue := 0 }, { name := "T_INT", type := .int, accessFlags := 25, slot := 17, constantValue := 0 }, { name := "T_LONG", type := .int, accessFlags := 25, slot := 18, constantValue := 0 }, { name := "JLA", type := (.object "jdk/internal/access/JavaLangAccess"), accessFlags := 26, slot := 19, constantValue := 0 }, { name := "SOFT_MAX_ARRAY_LENGTH", type := .int, accessFlags := 25, slot := 20, constantValue := 0 }]
  methods := #[k13m0]
  instanceTypes := #[]
  staticTypes := #[(.object "jdk/internal/misc/Unsafe"), .boolean, .int, .int, .int, .int, .int, .int, .int, .int, .int, .int, .int, .int, .int, .int, .int, .int, .int, (.object "jdk/internal/access/JavaLangAccess"), .int]
  resolved := Array.replicate 378 none
  statics := none }

/-- the primitive byte -/
def k14 : Class := { plain "byte" none with kind := .primitive 'B', accessFlags := 0x411 }
/-- [B -/
def k15 : Class := { plain "[B" (some 0) with kind := .array 14 .byte, interfaces := #[11, 2], accessFlags := 1041 }

/-- the primitive int -/
def k16 : Class := { plain "int" none with kind := .primitive 'I', accessFlags := 0x411 }
/-- [I -/
def k17 : Class := { plain "[I" (some 0) with kind := .array 16 .int, interfaces := #[11, 2], accessFlags := 1041 }

def heap : Heap := #[{ cls := 7, slots := #[.long 0, .int 1, .null, .int 0, .null, .int 0, .int 0], vm := .statics 7 },
  { cls := 12, slots := #[.null, .null, .null], vm := .statics 12 }]
def classes : Array Class := #[k0, k1, k2, k3, k4, k5, k6, k7, k8, k9, k10, k11, k12, k13, k14, k15, k16, k17]
def interned : List (Array UInt16 × Addr) := []
def slotsUsed : Nat := 10
def theMethod : MethodId := ⟨1, 1⟩
def args0 : Array Value := #[.int 5, .int 6, .int 7, .int 8, .int 9]
def aboutOver (below : List Frame) : State where
  vm := { classes := classes, interned := interned.toArray }
  heap := heap
  slotsUsed := slotsUsed
  threads := #[{ frames := .invoking theMethod args0 :: below }]
def below0 : List Frame := [.native { method := ⟨0, 0⟩, args := #[] }]
def about1 : State := aboutOver below0
def p0 : Program := .bare "" "" ""
def e0 : Env := launch0.env 0 0 0
theorem w_frames : about1.frames = Frame.invoking theMethod args0 :: below0 := rfl
set_option maxRecDepth 65536 in
theorem w_args : argsFit about1.vm theMethod args0 = true := by decide +kernel
set_option maxRecDepth 65536 in
theorem w_heap : heapFits about1 = true := by decide +kernel
set_option maxRecDepth 65536 in
theorem w_runnable : about1.curStatus? = some .runnable := by decide +kernel
set_option maxRecDepth 65536 in
theorem w_alone : about1.alone = true := by decide +kernel
set_option maxRecDepth 65536 in
theorem w_named : about1.methodNamed? x = some theMethod := by decide +kernel
set_option maxRecDepth 65536 in
theorem w_hears : about1.hears theMethod below0 = true := by decide +kernel
set_option maxRecDepth 65536 in
theorem w_ripe : about1.ripe theMethod args0 below0 = true := by decide +kernel
theorem w_running : about1.status = .running := rfl
set_option maxRecDepth 65536 in
theorem w_room : about1.hasRoom e0.platform room_1 = true :=
  launch0.hasRoom_least _ room_1 (by decide +kernel) (by decide +kernel) (by decide +kernel) (by decide +kernel) (by decide +kernel) (by decide +kernel)
theorem allAtoms_all (ts : List Jvm.Cond) (a : Array Jvm.Value) (st : Jvm.State) : (allAtoms ts).before a st = ts.all (fun c => c.before a st) := by
  induction ts with
  | nil => rfl
  | cons c t ih =>
    show (Jvm.Cond.and c (allAtoms t)).before a st = _
    rw [Jvm.Cond.before_and, ih, List.all_cons]
def words1 : List Jvm.Cond := Jvm.Cond.code x code maxLocals ret :: tables_1
/-- a 'code' word, met by the world's own term for the bytes: nothing is compared byte by byte -/
theorem code_word {y : MethodName} {bytes : ByteArray} {mx : Nat} {rt : Option FieldType} {a : Array Value} {s : State} {m : MethodId} {meth : Method} {c : Code} (h1 : s.methodNamed? y = some m) (h2 : s.vm.method? m = some meth) (h3 : meth.code = some c) (h4 : c.code = bytes)
    (h5 : (c.maxLocals == mx && c.exceptionTable.isEmpty && decide (c.maxStack ≤ mostOperands) && decide (meth.sig.returnType = rt) && !meth.locks && decide (parseMethodDescriptor y.desc = some meth.sig)) = true) : (Jvm.Cond.code y bytes mx rt).before a s = true := by
  simp only [Bool.and_eq_true, beq_iff_eq, Bool.not_eq_true', decide_eq_true_eq] at h5
  obtain ⟨⟨⟨⟨⟨g1, g2⟩, g3⟩, g4⟩, g5⟩, g6⟩ := h5
  simp [Cond.before, Cond.holds, Cond.value, h1, h2, h3, h4, g1, g2, g3, g4, g5, g6]
def isCode : Jvm.Cond → Bool
  | .code _ _ _ _ => true
  | _ => false
theorem all_split {L : List Jvm.Cond} {P : Jvm.Cond → Bool} (h1 : L.all (fun c => isCode c || P c) = true) (h2 : ∀ c ∈ L.filter isCode, P c = true) : L.all P = true := by
  refine List.all_eq_true.mpr fun c hc => ?_
  have h := List.all_eq_true.mp h1 c hc
  rcases Bool.eq_false_or_eq_true (isCode c) with hi | hi
  · exact h2 c (List.mem_filter.mpr ⟨hc, hi⟩)
  · simpa [hi] using h
set_option maxRecDepth 65536 in
theorem w_c0 : (Jvm.Cond.code x code maxLocals ret).before args0 about1 = true := code_word (m := ⟨1, 1⟩) (meth := k1m1) (c := k1c1) (by decide +kernel) rfl rfl rfl (by decide +kernel)
set_option maxRecDepth 65536 in
theorem w_c1 : (Jvm.Cond.code ({ cls := "java/lang/String", name := "valueOf", desc := "(C)Ljava/lang/String;" } : Jvm.MethodName) jdk_42_method_139_code (1 : Nat) (Option.some (Jvm.ClassFile.FieldType.object "java/lang/String"))).before args0 about1 = true := code_word (m := ⟨7, 1⟩) (meth := k7m1) (c := k7c1) (by decide +kernel) rfl rfl rfl (by decide +kernel)
set_option maxRecDepth 65536 in
theorem w_c2 : (Jvm.Cond.code ({ cls := "java/lang/StringLatin1", name := "canEncode", desc := "(C)Z" } : Jvm.MethodName) jdk_43_method_3_code (1 : Nat) (Option.some Jvm.ClassFile.FieldType.boolean)).before args0 about1 = true := code_word (m := ⟨8, 1⟩) (meth := k8m1) (c := k8c1) (by decide +kernel) rfl rfl rfl (by decide +kernel)
set_option maxRecDepth 65536 in
theorem w_c3 : (Jvm.Cond.code ({ cls := "java/lang/StringLatin1", name := "toBytes", desc := "(C)[B" } : Jvm.MethodName) jdk_43_method_46_code (1 : Nat) (Option.some (Jvm.ClassFile.FieldType.array Jvm.ClassFile.FieldType.byte))).before args0 about1 = true := code_word (m := ⟨8, 2⟩) (meth := k8m2) (c := k8c2) (by decide +kernel) rfl rfl rfl (by decide +kernel)
set_option maxRecDepth 65536 in
theorem w_c4 : (Jvm.Cond.code ({ cls := "java/lang/String", name := "<init>", desc := "([BB)V" } : Jvm.MethodName) jdk_42_method_151_code (3 : Nat) (Option.none : Option Jvm.ClassFile.FieldType)).before args0 about1 = true := code_word (m := ⟨7, 2⟩) (meth := k7m2) (c := k7c2) (by decide +kernel) rfl rfl rfl (by decide +kernel)
set_option maxRecDepth 65536 in
theorem w_c5 : (Jvm.Cond.code ({ cls := "java/lang/Object", name := "<init>", desc := "()V" } : Jvm.MethodName) object_method_1_code (1 : Nat) (Option.none : Option Jvm.ClassFile.FieldType)).before args0 about1 = true := code_word (m := ⟨0, 0⟩) (meth := k0m0) (c := k0c0) (by decide +kernel) rfl rfl rfl (by decide +kernel)
set_option maxRecDepth 65536 in
theorem w_c6 : (Jvm.Cond.code ({ cls := "com/example/stream_log_client/streamlogclient/protocol/HeaderValuePinLaw", name := "mk", desc := "(IIII)[B" } : Jvm.MethodName) method_3_code (4 : Nat) (Option.some (Jvm.ClassFile.FieldType.array Jvm.ClassFile.FieldType.byte))).before args0 about1 = true := code_word (m := ⟨1, 2⟩) (meth := k1m2) (c := k1c2) (by decide +kernel) rfl rfl rfl (by decide +kernel)
set_option maxRecDepth 65536 in
theorem w_c7 : (Jvm.Cond.code ({ cls := "com/example/stream_log_client/streamlogclient/protocol/Header", name := "<init>", desc := "(Ljava/lang/String;[B)V" } : Jvm.MethodName) prog_95_method_1_code (3 : Nat) (Option.none : Option Jvm.ClassFile.FieldType)).before args0 about1 = true := code_word (m := ⟨9, 0⟩) (meth := k9m0) (c := k9c0) (by decide +kernel) rfl rfl rfl (by decide +kernel)
set_option maxRecDepth 65536 in
theorem w_c8 : (Jvm.Cond.code ({ cls := "java/util/Objects", name := "requireNonNull", desc := "(Ljava/lang/Object;Ljava/lang/String;)Ljava/lang/Object;" } : Jvm.MethodName) jdk_31_method_11_code (2 : Nat) (Option.some (Jvm.ClassFile.FieldType.object "java/lang/Object"))).before args0 about1 = true := code_word (m := ⟨10, 1⟩) (meth := k10m1) (c := k10c1) (by decide +kernel) rfl rfl rfl (by decide +kernel)
set_option maxRecDepth 65536 in
theorem w_c9 : (Jvm.Cond.code ({ cls := "com/example/stream_log_client/streamlogclient/protocol/HeaderValuePinLaw", name := "flip", desc := "([BI)V" } : Jvm.MethodName) method_4_code (2 : Nat) (Option.none : Option Jvm.ClassFile.FieldType)).before args0 about1 = true := code_word (m := ⟨1, 3⟩) (meth := k1m3) (c := k1c3) (by decide +kernel) rfl rfl rfl (by decide +kernel)
set_option maxRecDepth 65536 in
theorem w_c10 : (Jvm.Cond.code ({ cls := "com/example/stream_log_client/streamlogclient/protocol/Header", name := "value", desc := "()[B" } : Jvm.MethodName) prog_95_method_3_code (1 : Nat) (Option.some (Jvm.ClassFile.FieldType.array Jvm.ClassFile.FieldType.byte))).before args0 about1 = true := code_word (m := ⟨9, 1⟩) (meth := k9m1) (c := k9c1) (by decide +kernel) rfl rfl rfl (by decide +kernel)
set_option maxRecDepth 65536 in
theorem w_c11 : (Jvm.Cond.code ({ cls := "com/example/stream_log_client/streamlogclient/protocol/HeaderValuePinLaw", name := "matches", desc := "([BIIII)Z" } : Jvm.MethodName) method_5_code (5 : Nat) (Option.some Jvm.ClassFile.FieldType.boolean)).before args0 about1 = true := code_word (m := ⟨1, 4⟩) (meth := k1m4) (c := k1c4) (by decide +kernel) rfl rfl rfl (by decide +kernel)
def codes1 : List Jvm.Cond := [Jvm.Cond.code x code maxLocals ret, Jvm.Cond.code ({ cls := "java/lang/String", name := "valueOf", desc := "(C)Ljava/lang/String;" } : Jvm.MethodName) jdk_42_method_139_code (1 : Nat) (Option.some (Jvm.ClassFile.FieldType.object "java/lang/String")), Jvm.Cond.code ({ cls := "java/lang/StringLatin1", name := "canEncode", desc := "(C)Z" } : Jvm.MethodName) jdk_43_method_3_code (1 : Nat) (Option.some Jvm.ClassFile.FieldType.boolean), Jvm.Cond.code ({ cls := "java/lang/StringLatin1", name := "toBytes", desc := "(C)[B" } : Jvm.MethodName) jdk_43_method_46_code (1 : Nat) (Option.some (Jvm.ClassFile.FieldType.array Jvm.ClassFile.FieldType.byte)), Jvm.Cond.code ({ cls := "java/lang/String", name := "<init>", desc := "([BB)V" } : Jvm.MethodName) jdk_42_method_151_code (3 : Nat) (Option.none : Option Jvm.ClassFile.FieldType), Jvm.Cond.code ({ cls := "java/lang/Object", name := "<init>", desc := "()V" } : Jvm.MethodName) object_method_1_code (1 : Nat) (Option.none : Option Jvm.ClassFile.FieldType), Jvm.Cond.code ({ cls := "com/example/stream_log_client/streamlogclient/protocol/HeaderValuePinLaw", name := "mk", desc := "(IIII)[B" } : Jvm.MethodName) method_3_code (4 : Nat) (Option.some (Jvm.ClassFile.FieldType.array Jvm.ClassFile.FieldType.byte)), Jvm.Cond.code ({ cls := "com/example/stream_log_client/streamlogclient/protocol/Header", name := "<init>", desc := "(Ljava/lang/String;[B)V" } : Jvm.MethodName) prog_95_method_1_code (3 : Nat) (Option.none : Option Jvm.ClassFile.FieldType), Jvm.Cond.code ({ cls := "java/util/Objects", name := "requireNonNull", desc := "(Ljava/lang/Object;Ljava/lang/String;)Ljava/lang/Object;" } : Jvm.MethodName) jdk_31_method_11_code (2 : Nat) (Option.some (Jvm.ClassFile.FieldType.object "java/lang/Object")), Jvm.Cond.code ({ cls := "com/example/stream_log_client/streamlogclient/protocol/HeaderValuePinLaw", name := "flip", desc := "([BI)V" } : Jvm.MethodName) method_4_code (2 : Nat) (Option.none : Option Jvm.ClassFile.FieldType), Jvm.Cond.code ({ cls := "com/example/stream_log_client/streamlogclient/protocol/Header", name := "value", desc := "()[B" } : Jvm.MethodName) prog_95_method_3_code (1 : Nat) (Option.some (Jvm.ClassFile.FieldType.array Jvm.ClassFile.FieldType.byte)), Jvm.Cond.code ({ cls := "com/example/stream_log_client/streamlogclient/protocol/HeaderValuePinLaw", name := "matches", desc := "([BIIII)Z" } : Jvm.MethodName) method_5_code (5 : Nat) (Option.some Jvm.ClassFile.FieldType.boolean)]
set_option maxRecDepth 65536 in
theorem codes_eq : words1.filter isCode = codes1 := rfl
theorem w_codes : ∀ c ∈ words1.filter isCode, c.before args0 about1 = true := by
  rw [codes_eq]
  intro c hc
  simp only [codes1, List.mem_cons, List.not_mem_nil, or_false] at hc
  rcases hc with rfl | rfl | rfl | rfl | rfl | rfl | rfl | rfl | rfl | rfl | rfl | rfl
  · exact w_c0
  · exact w_c1
  · exact w_c2
  · exact w_c3
  · exact w_c4
  · exact w_c5
  · exact w_c6
  · exact w_c7
  · exact w_c8
  · exact w_c9
  · exact w_c10
  · exact w_c11
set_option maxRecDepth 65536 in
theorem w_t1 : (words1.take 24).all (fun c => isCode c || c.before args0 about1) = true := by decide +kernel
set_option maxRecDepth 65536 in
theorem w_t2 : ((words1.drop 24).take 24).all (fun c => isCode c || c.before args0 about1) = true := by decide +kernel
set_option maxRecDepth 65536 in
theorem w_t3 : ((words1.drop 24).drop 24).all (fun c => isCode c || c.before args0 about1) = true := by decide +kernel
theorem w_tables : (allAtoms (Jvm.Cond.code x code maxLocals ret :: tables_1)).before args0 about1 = true := by
  rw [allAtoms_all]
  show words1.all (fun c => c.before args0 about1) = true
  refine all_split ?_ w_codes
  rw [← List.take_append_drop 24 words1, List.all_append, w_t1, ← List.take_append_drop 24 (words1.drop 24), List.all_append, w_t2, w_t3]
  rfl
set_option maxRecDepth 65536 in
theorem w_rest : rest_1_c.before args0 about1 = true := by decide +kernel
set_option maxRecDepth 65536 in
theorem w_case : (Jvm.Cond.and given_1 narrow_1).before args0 about1 = true := by decide +kernel
theorem w_applies : (headSpec (Jvm.Cond.code x code maxLocals ret :: tables_1) room_1).applies x e0.platform about1 = true :=
  (Spec.applies_iff w_frames).mpr ⟨w_running, w_runnable, w_alone, w_named, w_hears, w_ripe, w_room, w_tables⟩
theorem atStart : AtStart classFile x code maxLocals ret World_1 tables_1 room_1 Calls_1 rest_1 Pre_1 launch0 p0 e0 about1 theMethod args0 below0 :=
  ⟨lists_1, trivial, launch0.admits_env _ _ _, launch0.least_env, fairChoices_fair.cas, fairChoices_fair.clock, w_frames, w_args, w_heap, w_applies, trivial, w_rest, w_case⟩
end start1
theorem witness_1 : WitnessClaimed_1 := ⟨start1.p0, start1.e0, start1.about1, start1.theMethod, start1.args0, start1.below0, start1.atStart⟩
end Jvm.Pilot.@@N@@
