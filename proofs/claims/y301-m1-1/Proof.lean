import JvmDerived
import JvmDerived.Pilot.@@N@@Statement
import JvmDerived.Pilot.@@N@@Code
set_option linter.unusedVariables false
set_option linter.unusedSimpArgs false
namespace Jvm.OwnKit
open Sem ClassFile Op Lib Jvm.Stand Jvm.Free Jvm.LawKit Jvm.RoadKit
/-! int and long operations, named -/
def ushr (x y : Int32) : Int32 := (x.toUInt32 >>> (y &&& 31).toUInt32).toInt32
def shl (x y : Int32) : Int32 := x <<< (y &&& 31)
def shr (x y : Int32) : Int32 := x >>> (y &&& 31)
def lushr (x : Int64) (y : Int32) : Int64 := (x.toUInt64 >>> (y &&& 0x3f).toInt64.toUInt64).toInt64
def lshl (x : Int64) (y : Int32) : Int64 := x <<< (y &&& 0x3f).toInt64
def lshr (x : Int64) (y : Int32) : Int64 := x >>> (y &&& 0x3f).toInt64
def chr (x : Int32) : Int32 := x.toUInt32.toUInt16.toUInt32.toInt32
def byt (x : Int32) : Int32 := x.toInt8.toInt32
def sht (x : Int32) : Int32 := x.toInt16.toInt32
theorem narrow_byt (x : Int32) : narrow .byte (.int (byt x)) = .int (byt x) := by simp [narrow, byt]
theorem chr_chr (x : Int32) : chr (chr x) = chr x := by unfold chr; simp only [UInt32.toUInt32_toInt32, UInt16.toUInt16_toUInt32]
theorem byt_byt (x : Int32) : byt (byt x) = byt x := by simp [byt]
theorem narrow_chr (x : Int32) : narrow .char (.int (chr x)) = .int (chr x) := congrArg Value.int (chr_chr x)
/-- what a contract says at the end -/
def CQ (Q : Option Value → Heap → Prop) (n0 : Nat) (v : Option Value) (h : Heap) (L : List Loc) : Prop := Q v h ∧ Fr n0 L
/-- from this frame on the run ends as asked -/
def Go (p : Program) (e : Env) (below : List Frame) (En : Option Value → State → List Loc → Prop) (n0 : Nat) (Q : Option Value → Heap → Prop) (T : State) (g : JFrame) : Prop :=
  ∃ s₂ o, Steps p.tables e below (T.setTop g) s₂ ∧ s₂.status = .running ∧ Ended s₂ below o ∧ ∃ v L, o = .returned v ∧ CQ Q n0 v s₂.heap L ∧ En v s₂ L
/-- the plain end: nothing interned -/
def EndF (s : State) (C S : Nat) (v : Option Value) (t : State) (L : List Loc) : Prop := FrameEnd s (.returned v) t L C S
theorem endF {s : State} {C S cells slots : Nat} {t : State} {L : List Loc} {h : Heap} (hc : cells ≤ C) (hs : slots ≤ S) (v : Option Value) (_ : t.heap = h) (hW : s.WarmedH t.vm) (hsm : s.sameButNew ({ t with vm := s.vm } : State) L cells slots) : EndF s C S v t L := ⟨⟨_, rfl⟩, hW, hsm.mono hc hs⟩
/-- a method's contract -/
def Ctr (l : Launch) (Z : State) (y : MethodName) (bytes : ByteArray) (maxL : Nat) (ret : Option FieldType) (rm : Room) (as' : Array Value) (h0 : Heap) (n0 : Nat) (Q : Option Value → Heap → Prop) : Prop :=
  ∀ ws : List Jvm.Cond, MetFree l y (head1 (Jvm.Cond.code y bytes maxL ret :: ws) rm) (fun a U => a = as' ∧ Z.Warmed39 U.vm ∧ U.heap = h0) (fun _ _ _ _ _ => True) (fun _ U o U' => ∃ v L, o = .returned v ∧ CQ Q n0 v U'.heap L ∧ FrameEnd U o U' L rm.cells rm.slots)
theorem Ctr.of {l : Launch} {Z : State} {y : MethodName} {bytes : ByteArray} {maxL : Nat} {ret : Option FieldType} {rm : Room} {as' : Array Value} {h0 : Heap} {n0 : Nat} {Q : Option Value → Heap → Prop} {Ls : Array Slot}
    (hpl : plainFor y = true) (hef : ∀ m, entryFrame m as' maxL = mkF m 0 Ls [])
    (body : ∀ (p : Program) (e : Env) (s : State) (m : MethodId) (below : List Frame) (meth : Method) (c : Code) (T : State), p.tables.exec = Jvm.exec → c.code = bytes → c.maxLocals = maxL → s.vm.findClass y.cls = some m.cls → meth.name = y.name → meth.sig.returnType = ret → meth.locks = false → Z.Warmed39 s.vm →
      Stand p l e rm s m as' below meth c T [] 0 0 → T.heap = h0 → Go p e below (EndF s rm.cells rm.slots) n0 Q T (mkF m 0 Ls [])) : Ctr l Z y bytes maxL ret rm as' h0 n0 Q := by
  intro ws
  refine MetFree.of_bodySF hpl hisR ?_
  intro p e s m args below meth c s₁ Bd hml0 hP hK
  obtain ⟨rfl, hZ, hh⟩ := hP
  have hown : s.vm.findClass y.cls = some m.cls := findClass_of_methodNamed Bd.named
  have hnm := (name_of_methodNamed Bd.named Bd.method).1
  have e0 : s₁.heap = h0 := by rw [← hh, Bd.state]; rfl
  rw [hef]
  obtain ⟨s₂, o, h1, h2, h3, v, L, rfl, h5, h6⟩ := body p e s m below meth c s₁ Bd.exec Bd.bytes hml0 hown hnm Bd.returns Bd.notSynchronized hZ (Stand.of_body Bd) e0
  exact ⟨s₂, _, h1, h2, h3, v, L, rfl, h5, h6⟩
section Go
variable {p : Program} {l : Launch} {e : Env} {R : Room} {s : State} {m : MethodId} {args : Array Value} {below : List Frame} {meth : Method} {c : Code} {T : State} {locs : List Loc} {cells slots : Nat} {Z : State} {a0 : Array Value} {h h' : Heap} {n0 : Nat} {En : Option Value → State → List Loc → Prop} {Q : Option Value → Heap → Prop}
variable {pc pc' pc1 pc2 : Nat} {Ls Ls' : Array Slot} {st : List Value}
theorem Go.mov {T' : State} {g g' : JFrame} (k : ∀ target, Steps p.tables e below (T'.setTop g') target → Steps p.tables e below (T.setTop g) target) (G : Go p e below En n0 Q T' g') : Go p e below En n0 Q T g := by
  obtain ⟨s₂, o, h1, r⟩ := G
  exact ⟨s₂, o, k _ h1, r⟩
theorem Go.movp {T' : State} {g g' : JFrame} (k : ∀ target, Steps p.tables e below (T'.setTop g') target → Steps p.tables e below (T.setTop g) target) (g'' : JFrame) (q : g' = g'') (G : Go p e below En n0 Q T' g'') : Go p e below En n0 Q T g := Go.mov k (q ▸ G)
theorem Go.cast {g g' : JFrame} (q : g = g') (G : Go p e below En n0 Q T g') : Go p e below En n0 Q T g := q ▸ G
theorem Go.imp {Q' : Option Value → Heap → Prop} {g : JFrame} (q : ∀ v h, Q v h → Q' v h) (G : Go p e below En n0 Q T g) : Go p e below En n0 Q' T g := by
  obtain ⟨s₂, o, h1, h2, h3, v, L, h4, ⟨h5, h6⟩, h7⟩ := G
  exact ⟨s₂, o, h1, h2, h3, v, L, h4, ⟨q _ _ h5, h6⟩, h7⟩
theorem g_iload (X : Stand p l e R s m args below meth c T locs cells slots) (hx : p.tables.exec = Jvm.exec) {k : Nat} {v : Int32} (hd : decode c.code pc = .ok (.iload k, 2)) (hp : pc + 2 = pc') (hl : Ls[k]? = some (.val (.int v))) (G : Go p e below En n0 Q T (mkF m pc' Ls (.int v :: st))) : Go p e below En n0 Q T (mkF m pc Ls (st)) := by
  subst hp
  exact Go.mov (fun _ k => XS.iload X.here hx rfl hd hl k) G
theorem g_iloadN (X : Stand p l e R s m args below meth c T locs cells slots) (hx : p.tables.exec = Jvm.exec) {k : Fin 4} {v : Int32} (hd : decode c.code pc = .ok (.iload_n k, 1)) (hp : pc + 1 = pc') (hl : Ls[k.val]? = some (.val (.int v))) (G : Go p e below En n0 Q T (mkF m pc' Ls (.int v :: st))) : Go p e below En n0 Q T (mkF m pc Ls (st)) := by
  subst hp
  exact Go.mov (fun _ k => XS.iloadN X.here hx rfl hd hl k) G
theorem g_lload (X : Stand p l e R s m args below meth c T locs cells slots) (hx : p.tables.exec = Jvm.exec) {k : Nat} {v : Int64} (hd : decode c.code pc = .ok (.lload k, 2)) (hp : pc + 2 = pc') (hl : Ls[k]? = some (.val (.long v))) (G : Go p e below En n0 Q T (mkF m pc' Ls (.long v :: st))) : Go p e below En n0 Q T (mkF m pc Ls (st)) := by
  subst hp
  exact Go.mov (fun _ k => XS.lload X.here hx rfl hd hl k) G
theorem g_lloadN (X : Stand p l e R s m args below meth c T locs cells slots) (hx : p.tables.exec = Jvm.exec) {k : Fin 4} {v : Int64} (hd : decode c.code pc = .ok (.lload_n k, 1)) (hp : pc + 1 = pc') (hl : Ls[k.val]? = some (.val (.long v))) (G : Go p e below En n0 Q T (mkF m pc' Ls (.long v :: st))) : Go p e below En n0 Q T (mkF m pc Ls (st)) := by
  subst hp
  exact Go.mov (fun _ k => XS.lloadN X.here hx rfl hd hl k) G
theorem g_aload (X : Stand p l e R s m args below meth c T locs cells slots) (hx : p.tables.exec = Jvm.exec) {k : Nat} {v : Value} (hd : decode c.code pc = .ok (.aload k, 2)) (hp : pc + 2 = pc') (hl : Ls[k]? = some (.val v)) (hv : v.isRef = true) (G : Go p e below En n0 Q T (mkF m pc' Ls (v :: st))) : Go p e below En n0 Q T (mkF m pc Ls (st)) := by
  subst hp
  exact Go.mov (fun _ k => XS.aload X.here hx rfl hd hl hv k) G
theorem g_aloadN (X : Stand p l e R s m args below meth c T locs cells slots) (hx : p.tables.exec = Jvm.exec) {k : Fin 4} {v : Value} (hd : decode c.code pc = .ok (.aload_n k, 1)) (hp : pc + 1 = pc') (hl : Ls[k.val]? = some (.val v)) (hv : v.isRef = true) (G : Go p e below En n0 Q T (mkF m pc' Ls (v :: st))) : Go p e below En n0 Q T (mkF m pc Ls (st)) := by
  subst hp
  exact Go.mov (fun _ k => XS.aloadN X.here hx rfl hd hl hv k) G
theorem g_istore (X : Stand p l e R s m args below meth c T locs cells slots) (hx : p.tables.exec = Jvm.exec) {k : Nat} {v : Int32} (hd : decode c.code pc = .ok (.istore k, 2)) (hp : pc + 2 = pc') (hl : storeLocals Ls k (.int v) = some Ls') (G : Go p e below En n0 Q T (mkF m pc' Ls' (st))) : Go p e below En n0 Q T (mkF m pc Ls (.int v :: st)) := by
  subst hp
  exact Go.mov (fun _ k => XS.istore X.here hx rfl hd rfl hl k) G
theorem g_istoreN (X : Stand p l e R s m args below meth c T locs cells slots) (hx : p.tables.exec = Jvm.exec) {k : Fin 4} {v : Int32} (hd : decode c.code pc = .ok (.istore_n k, 1)) (hp : pc + 1 = pc') (hl : storeLocals Ls k.val (.int v) = some Ls') (G : Go p e below En n0 Q T (mkF m pc' Ls' (st))) : Go p e below En n0 Q T (mkF m pc Ls (.int v :: st)) := by
  subst hp
  exact Go.mov (fun _ k => XS.istoreN X.here hx rfl hd rfl hl k) G
theorem g_lstore (X : Stand p l e R s m args below meth c T locs cells slots) (hx : p.tables.exec = Jvm.exec) {k : Nat} {v : Int64} (hd : decode c.code pc = .ok (.lstore k, 2)) (hp : pc + 2 = pc') (hl : storeLocals Ls k (.long v) = some Ls') (G : Go p e below En n0 Q T (mkF m pc' Ls' (st))) : Go p e below En n0 Q T (mkF m pc Ls (.long v :: st)) := by
  subst hp
  exact Go.mov (fun _ k => XS.lstore X.here hx rfl hd rfl hl k) G
theorem g_lstoreN (X : Stand p l e R s m args below meth c T locs cells slots) (hx : p.tables.exec = Jvm.exec) {k : Fin 4} {v : Int64} (hd : decode c.code pc = .ok (.lstore_n k, 1)) (hp : pc + 1 = pc') (hl : storeLocals Ls k.val (.long v) = some Ls') (G : Go p e below En n0 Q T (mkF m pc' Ls' (st))) : Go p e below En n0 Q T (mkF m pc Ls (.long v :: st)) := by
  subst hp
  exact Go.mov (fun _ k => XS.lstoreN X.here hx rfl hd rfl hl k) G
theorem g_astore (X : Stand p l e R s m args below meth c T locs cells slots) (hx : p.tables.exec = Jvm.exec) {k : Nat} {v : Value} (hd : decode c.code pc = .ok (.astore k, 2)) (hp : pc + 2 = pc') (hv : v.isRef = true) (hl : storeLocals Ls k v = some Ls') (G : Go p e below En n0 Q T (mkF m pc' Ls' (st))) : Go p e below En n0 Q T (mkF m pc Ls (v :: st)) := by
  subst hp
  exact Go.mov (fun _ k => XS.astore X.here hx rfl hd rfl hv hl k) G
theorem g_astoreN (X : Stand p l e R s m args below meth c T locs cells slots) (hx : p.tables.exec = Jvm.exec) {k : Fin 4} {v : Value} (hd : decode c.code pc = .ok (.astore_n k, 1)) (hp : pc + 1 = pc') (hv : v.isRef = true) (hl : storeLocals Ls k.val v = some Ls') (G : Go p e below En n0 Q T (mkF m pc' Ls' (st))) : Go p e below En n0 Q T (mkF m pc Ls (v :: st)) := by
  subst hp
  exact Go.mov (fun _ k => XS.astoreN X.here hx rfl hd rfl hv hl k) G
theorem g_iconst (X : Stand p l e R s m args below meth c T locs cells slots) (hx : p.tables.exec = Jvm.exec) {i : Int} {z : Int32} (hd : decode c.code pc = .ok (.iconst i, 1)) (hp : pc + 1 = pc') (hz : Int32.ofInt i = z) (G : Go p e below En n0 Q T (mkF m pc' Ls (.int z :: st))) : Go p e below En n0 Q T (mkF m pc Ls st) := by
  subst hp hz
  exact Go.mov (fun _ k => XS.iconst X.here hx rfl hd k) G
theorem g_bipush (X : Stand p l e R s m args below meth c T locs cells slots) (hx : p.tables.exec = Jvm.exec) {i : Int} {z : Int32} (hd : decode c.code pc = .ok (.bipush i, 2)) (hp : pc + 2 = pc') (hz : (Int8.ofInt i).toInt32 = z) (G : Go p e below En n0 Q T (mkF m pc' Ls (.int z :: st))) : Go p e below En n0 Q T (mkF m pc Ls st) := by
  subst hp hz
  exact Go.mov (fun _ k => XS.bipush X.here hx rfl hd k) G
theorem g_sipush (X : Stand p l e R s m args below meth c T locs cells slots) (hx : p.tables.exec = Jvm.exec) {i : Int} {z : Int32} (hd : decode c.code pc = .ok (.sipush i, 3)) (hp : pc + 3 = pc') (hz : (Int16.ofInt i).toInt32 = z) (G : Go p e below En n0 Q T (mkF m pc' Ls (.int z :: st))) : Go p e below En n0 Q T (mkF m pc Ls st) := by
  subst hp hz
  exact Go.mov (fun _ k => XS.sipush X.here hx rfl hd k) G
theorem g_lconst (X : Stand p l e R s m args below meth c T locs cells slots) (hx : p.tables.exec = Jvm.exec) {i : Fin 2} {z : Int64} (hd : decode c.code pc = .ok (.lconst i, 1)) (hp : pc + 1 = pc') (hz : Int64.ofNat i = z) (G : Go p e below En n0 Q T (mkF m pc' Ls (.long z :: st))) : Go p e below En n0 Q T (mkF m pc Ls st) := by
  subst hp hz
  exact Go.mov (fun _ k => XS.lconst X.here hx rfl hd k) G
theorem g_aconst_null (X : Stand p l e R s m args below meth c T locs cells slots) (hx : p.tables.exec = Jvm.exec)  (hd : decode c.code pc = .ok (.aconst_null, 1)) (hp : pc + 1 = pc') (G : Go p e below En n0 Q T (mkF m pc' Ls (.null :: st))) : Go p e below En n0 Q T (mkF m pc Ls (st)) := by
  subst hp
  exact Go.mov (fun _ k => XS.aconstNull X.here hx rfl hd k) G
theorem g_iadd (X : Stand p l e R s m args below meth c T locs cells slots) (hx : p.tables.exec = Jvm.exec) {x y : Int32} (hd : decode c.code pc = .ok (.iadd, 1)) (hp : pc + 1 = pc') (G : Go p e below En n0 Q T (mkF m pc' Ls (.int (x + y) :: st))) : Go p e below En n0 Q T (mkF m pc Ls (.int y :: .int x :: st)) := by
  subst hp
  exact Go.mov (fun _ k => XS.iadd X.here hx rfl hd rfl k) G
theorem g_ladd (X : Stand p l e R s m args below meth c T locs cells slots) (hx : p.tables.exec = Jvm.exec) {x y : Int64} (hd : decode c.code pc = .ok (.ladd, 1)) (hp : pc + 1 = pc') (G : Go p e below En n0 Q T (mkF m pc' Ls (.long (x + y) :: st))) : Go p e below En n0 Q T (mkF m pc Ls (.long y :: .long x :: st)) := by
  subst hp
  exact Go.mov (fun _ k => XS.ladd X.here hx rfl hd rfl k) G
theorem g_isub (X : Stand p l e R s m args below meth c T locs cells slots) (hx : p.tables.exec = Jvm.exec) {x y : Int32} (hd : decode c.code pc = .ok (.isub, 1)) (hp : pc + 1 = pc') (G : Go p e below En n0 Q T (mkF m pc' Ls (.int (x - y) :: st))) : Go p e below En n0 Q T (mkF m pc Ls (.int y :: .int x :: st)) := by
  subst hp
  exact Go.mov (fun _ k => XS.isub X.here hx rfl hd rfl k) G
theorem g_lsub (X : Stand p l e R s m args below meth c T locs cells slots) (hx : p.tables.exec = Jvm.exec) {x y : Int64} (hd : decode c.code pc = .ok (.lsub, 1)) (hp : pc + 1 = pc') (G : Go p e below En n0 Q T (mkF m pc' Ls (.long (x - y) :: st))) : Go p e below En n0 Q T (mkF m pc Ls (.long y :: .long x :: st)) := by
  subst hp
  exact Go.mov (fun _ k => XS.lsub X.here hx rfl hd rfl k) G
theorem g_imul (X : Stand p l e R s m args below meth c T locs cells slots) (hx : p.tables.exec = Jvm.exec) {x y : Int32} (hd : decode c.code pc = .ok (.imul, 1)) (hp : pc + 1 = pc') (G : Go p e below En n0 Q T (mkF m pc' Ls (.int (x * y) :: st))) : Go p e below En n0 Q T (mkF m pc Ls (.int y :: .int x :: st)) := by
  subst hp
  exact Go.mov (fun _ k => XS.imul X.here hx rfl hd rfl k) G
theorem g_lmul (X : Stand p l e R s m args below meth c T locs cells slots) (hx : p.tables.exec = Jvm.exec) {x y : Int64} (hd : decode c.code pc = .ok (.lmul, 1)) (hp : pc + 1 = pc') (G : Go p e below En n0 Q T (mkF m pc' Ls (.long (x * y) :: st))) : Go p e below En n0 Q T (mkF m pc Ls (.long y :: .long x :: st)) := by
  subst hp
  exact Go.mov (fun _ k => XS.lmul X.here hx rfl hd rfl k) G
theorem g_iand (X : Stand p l e R s m args below meth c T locs cells slots) (hx : p.tables.exec = Jvm.exec) {x y : Int32} (hd : decode c.code pc = .ok (.iand, 1)) (hp : pc + 1 = pc') (G : Go p e below En n0 Q T (mkF m pc' Ls (.int (x &&& y) :: st))) : Go p e below En n0 Q T (mkF m pc Ls (.int y :: .int x :: st)) := by
  subst hp
  exact Go.mov (fun _ k => XS.iand X.here hx rfl hd rfl k) G
theorem g_land (X : Stand p l e R s m args below meth c T locs cells slots) (hx : p.tables.exec = Jvm.exec) {x y : Int64} (hd : decode c.code pc = .ok (.land, 1)) (hp : pc + 1 = pc') (G : Go p e below En n0 Q T (mkF m pc' Ls (.long (x &&& y) :: st))) : Go p e below En n0 Q T (mkF m pc Ls (.long y :: .long x :: st)) := by
  subst hp
  exact Go.mov (fun _ k => XS.land X.here hx rfl hd rfl k) G
theorem g_ior (X : Stand p l e R s m args below meth c T locs cells slots) (hx : p.tables.exec = Jvm.exec) {x y : Int32} (hd : decode c.code pc = .ok (.ior, 1)) (hp : pc + 1 = pc') (G : Go p e below En n0 Q T (mkF m pc' Ls (.int (x ||| y) :: st))) : Go p e below En n0 Q T (mkF m pc Ls (.int y :: .int x :: st)) := by
  subst hp
  exact Go.mov (fun _ k => XS.ior X.here hx rfl hd rfl k) G
theorem g_lor (X : Stand p l e R s m args below meth c T locs cells slots) (hx : p.tables.exec = Jvm.exec) {x y : Int64} (hd : decode c.code pc = .ok (.lor, 1)) (hp : pc + 1 = pc') (G : Go p e below En n0 Q T (mkF m pc' Ls (.long (x ||| y) :: st))) : Go p e below En n0 Q T (mkF m pc Ls (.long y :: .long x :: st)) := by
  subst hp
  exact Go.mov (fun _ k => XS.lor X.here hx rfl hd rfl k) G
theorem g_ixor (X : Stand p l e R s m args below meth c T locs cells slots) (hx : p.tables.exec = Jvm.exec) {x y : Int32} (hd : decode c.code pc = .ok (.ixor, 1)) (hp : pc + 1 = pc') (G : Go p e below En n0 Q T (mkF m pc' Ls (.int (x ^^^ y) :: st))) : Go p e below En n0 Q T (mkF m pc Ls (.int y :: .int x :: st)) := by
  subst hp
  exact Go.mov (fun _ k => XS.ixor X.here hx rfl hd rfl k) G
theorem g_lxor (X : Stand p l e R s m args below meth c T locs cells slots) (hx : p.tables.exec = Jvm.exec) {x y : Int64} (hd : decode c.code pc = .ok (.lxor, 1)) (hp : pc + 1 = pc') (G : Go p e below En n0 Q T (mkF m pc' Ls (.long (x ^^^ y) :: st))) : Go p e below En n0 Q T (mkF m pc Ls (.long y :: .long x :: st)) := by
  subst hp
  exact Go.mov (fun _ k => XS.lxor X.here hx rfl hd rfl k) G
theorem g_ishl (X : Stand p l e R s m args below meth c T locs cells slots) (hx : p.tables.exec = Jvm.exec) {x y : Int32} (hd : decode c.code pc = .ok (.ishl, 1)) (hp : pc + 1 = pc') (G : Go p e below En n0 Q T (mkF m pc' Ls (.int (shl x y) :: st))) : Go p e below En n0 Q T (mkF m pc Ls (.int y :: .int x :: st)) := by
  subst hp
  exact Go.mov (fun _ k => XS.ishl X.here hx rfl hd rfl k) G
theorem g_lshl (X : Stand p l e R s m args below meth c T locs cells slots) (hx : p.tables.exec = Jvm.exec) {x : Int64} {y : Int32} (hd : decode c.code pc = .ok (.lshl, 1)) (hp : pc + 1 = pc') (G : Go p e below En n0 Q T (mkF m pc' Ls (.long (lshl x y) :: st))) : Go p e below En n0 Q T (mkF m pc Ls (.int y :: .long x :: st)) := by
  subst hp
  exact Go.mov (fun _ k => XS.lshl X.here hx rfl hd rfl k) G
theorem g_ishr (X : Stand p l e R s m args below meth c T locs cells slots) (hx : p.tables.exec = Jvm.exec) {x y : Int32} (hd : decode c.code pc = .ok (.ishr, 1)) (hp : pc + 1 = pc') (G : Go p e below En n0 Q T (mkF m pc' Ls (.int (shr x y) :: st))) : Go p e below En n0 Q T (mkF m pc Ls (.int y :: .int x :: st)) := by
  subst hp
  exact Go.mov (fun _ k => XS.ishr X.here hx rfl hd rfl k) G
theorem g_lshr (X : Stand p l e R s m args below meth c T locs cells slots) (hx : p.tables.exec = Jvm.exec) {x : Int64} {y : Int32} (hd : decode c.code pc = .ok (.lshr, 1)) (hp : pc + 1 = pc') (G : Go p e below En n0 Q T (mkF m pc' Ls (.long (lshr x y) :: st))) : Go p e below En n0 Q T (mkF m pc Ls (.int y :: .long x :: st)) := by
  subst hp
  exact Go.mov (fun _ k => XS.lshr X.here hx rfl hd rfl k) G
theorem g_iushr (X : Stand p l e R s m args below meth c T locs cells slots) (hx : p.tables.exec = Jvm.exec) {x y : Int32} (hd : decode c.code pc = .ok (.iushr, 1)) (hp : pc + 1 = pc') (G : Go p e below En n0 Q T (mkF m pc' Ls (.int (ushr x y) :: st))) : Go p e below En n0 Q T (mkF m pc Ls (.int y :: .int x :: st)) := by
  subst hp
  exact Go.mov (fun _ k => XS.iushr X.here hx rfl hd rfl k) G
theorem g_lushr (X : Stand p l e R s m args below meth c T locs cells slots) (hx : p.tables.exec = Jvm.exec) {x : Int64} {y : Int32} (hd : decode c.code pc = .ok (.lushr, 1)) (hp : pc + 1 = pc') (G : Go p e below En n0 Q T (mkF m pc' Ls (.long (lushr x y) :: st))) : Go p e below En n0 Q T (mkF m pc Ls (.int y :: .long x :: st)) := by
  subst hp
  exact Go.mov (fun _ k => XS.lushr X.here hx rfl hd rfl k) G
theorem g_i2b (X : Stand p l e R s m args below meth c T locs cells slots) (hx : p.tables.exec = Jvm.exec) {x : Int32} (hd : decode c.code pc = .ok (.i2b, 1)) (hp : pc + 1 = pc') (G : Go p e below En n0 Q T (mkF m pc' Ls (.int (byt x) :: st))) : Go p e below En n0 Q T (mkF m pc Ls (.int x :: st)) := by
  subst hp
  exact Go.mov (fun _ k => XS.i2b X.here hx rfl hd rfl k) G
theorem g_i2c (X : Stand p l e R s m args below meth c T locs cells slots) (hx : p.tables.exec = Jvm.exec) {x : Int32} (hd : decode c.code pc = .ok (.i2c, 1)) (hp : pc + 1 = pc') (G : Go p e below En n0 Q T (mkF m pc' Ls (.int (chr x) :: st))) : Go p e below En n0 Q T (mkF m pc Ls (.int x :: st)) := by
  subst hp
  exact Go.mov (fun _ k => XS.i2c X.here hx rfl hd rfl k) G
theorem g_i2s (X : Stand p l e R s m args below meth c T locs cells slots) (hx : p.tables.exec = Jvm.exec) {x : Int32} (hd : decode c.code pc = .ok (.i2s, 1)) (hp : pc + 1 = pc') (G : Go p e below En n0 Q T (mkF m pc' Ls (.int (sht x) :: st))) : Go p e below En n0 Q T (mkF m pc Ls (.int x :: st)) := by
  subst hp
  exact Go.mov (fun _ k => XS.i2s X.here hx rfl hd rfl k) G
theorem g_i2l (X : Stand p l e R s m args below meth c T locs cells slots) (hx : p.tables.exec = Jvm.exec) {x : Int32} (hd : decode c.code pc = .ok (.i2l, 1)) (hp : pc + 1 = pc') (G : Go p e below En n0 Q T (mkF m pc' Ls (.long x.toInt64 :: st))) : Go p e below En n0 Q T (mkF m pc Ls (.int x :: st)) := by
  subst hp
  exact Go.mov (fun _ k => XS.i2l X.here hx rfl hd rfl k) G
theorem g_l2i (X : Stand p l e R s m args below meth c T locs cells slots) (hx : p.tables.exec = Jvm.exec) {x : Int64} (hd : decode c.code pc = .ok (.l2i, 1)) (hp : pc + 1 = pc') (G : Go p e below En n0 Q T (mkF m pc' Ls (.int x.toInt32 :: st))) : Go p e below En n0 Q T (mkF m pc Ls (.long x :: st)) := by
  subst hp
  exact Go.mov (fun _ k => XS.l2i X.here hx rfl hd rfl k) G
theorem g_ineg (X : Stand p l e R s m args below meth c T locs cells slots) (hx : p.tables.exec = Jvm.exec) {x : Int32} (hd : decode c.code pc = .ok (.ineg, 1)) (hp : pc + 1 = pc') (G : Go p e below En n0 Q T (mkF m pc' Ls (.int (-x) :: st))) : Go p e below En n0 Q T (mkF m pc Ls (.int x :: st)) := by
  subst hp
  exact Go.mov (fun _ k => XS.ineg X.here hx rfl hd rfl k) G
theorem g_lneg (X : Stand p l e R s m args below meth c T locs cells slots) (hx : p.tables.exec = Jvm.exec) {x : Int64} (hd : decode c.code pc = .ok (.lneg, 1)) (hp : pc + 1 = pc') (G : Go p e below En n0 Q T (mkF m pc' Ls (.long (-x) :: st))) : Go p e below En n0 Q T (mkF m pc Ls (.long x :: st)) := by
  subst hp
  exact Go.mov (fun _ k => XS.lneg X.here hx rfl hd rfl k) G
theorem g_idiv (X : Stand p l e R s m args below meth c T locs cells slots) (hx : p.tables.exec = Jvm.exec) {x y : Int32} (hd : decode c.code pc = .ok (.idiv, 1)) (hp : pc + 1 = pc') (hy : y ≠ 0) (G : Go p e below En n0 Q T (mkF m pc' Ls (.int (x / y) :: st))) : Go p e below En n0 Q T (mkF m pc Ls (.int y :: .int x :: st)) := by
  subst hp
  exact Go.mov (fun _ k => XS.idiv X.here hx rfl hd rfl hy k) G
theorem g_ldiv (X : Stand p l e R s m args below meth c T locs cells slots) (hx : p.tables.exec = Jvm.exec) {x y : Int64} (hd : decode c.code pc = .ok (.ldiv, 1)) (hp : pc + 1 = pc') (hy : y ≠ 0) (G : Go p e below En n0 Q T (mkF m pc' Ls (.long (x / y) :: st))) : Go p e below En n0 Q T (mkF m pc Ls (.long y :: .long x :: st)) := by
  subst hp
  exact Go.mov (fun _ k => XS.ldiv X.here hx rfl hd rfl hy k) G
theorem g_irem (X : Stand p l e R s m args below meth c T locs cells slots) (hx : p.tables.exec = Jvm.exec) {x y : Int32} (hd : decode c.code pc = .ok (.irem, 1)) (hp : pc + 1 = pc') (hy : y ≠ 0) (G : Go p e below En n0 Q T (mkF m pc' Ls (.int (x % y) :: st))) : Go p e below En n0 Q T (mkF m pc Ls (.int y :: .int x :: st)) := by
  subst hp
  exact Go.mov (fun _ k => iremM X hx rfl hd rfl hy k) G
theorem g_lcmp (X : Stand p l e R s m args below meth c T locs cells slots) (hx : p.tables.exec = Jvm.exec) {x y : Int64} (hd : decode c.code pc = .ok (.lcmp, 1)) (hp : pc + 1 = pc') (G : Go p e below En n0 Q T (mkF m pc' Ls (.int (lcmpW x y) :: st))) : Go p e below En n0 Q T (mkF m pc Ls (.long y :: .long x :: st)) := by
  subst hp
  exact Go.mov (fun _ k => XS.lcmp X.here hx rfl hd rfl k) G
theorem g_dup (X : Stand p l e R s m args below meth c T locs cells slots) (hx : p.tables.exec = Jvm.exec) {x : Value} (hd : decode c.code pc = .ok (.dup, 1)) (hp : pc + 1 = pc') (hc : x.category = 1) (G : Go p e below En n0 Q T (mkF m pc' Ls (x :: x :: st))) : Go p e below En n0 Q T (mkF m pc Ls (x :: st)) := by
  subst hp
  exact Go.mov (fun _ k => XS.dup X.here hx rfl hd rfl hc k) G
theorem g_dup_x1 (X : Stand p l e R s m args below meth c T locs cells slots) (hx : p.tables.exec = Jvm.exec) {x y : Value} (hd : decode c.code pc = .ok (.dup_x1, 1)) (hp : pc + 1 = pc') (hc : x.category = 1) (hc2 : y.category = 1) (G : Go p e below En n0 Q T (mkF m pc' Ls (x :: y :: x :: st))) : Go p e below En n0 Q T (mkF m pc Ls (x :: y :: st)) := by
  subst hp
  exact Go.mov (fun _ k => XS.dupX1 X.here hx rfl hd rfl hc hc2 k) G
theorem g_pop (X : Stand p l e R s m args below meth c T locs cells slots) (hx : p.tables.exec = Jvm.exec) {x : Value} (hd : decode c.code pc = .ok (.pop, 1)) (hp : pc + 1 = pc') (hc : x.category = 1) (G : Go p e below En n0 Q T (mkF m pc' Ls (st))) : Go p e below En n0 Q T (mkF m pc Ls (x :: st)) := by
  subst hp
  exact Go.mov (fun _ k => XS.pop X.here hx rfl hd rfl hc k) G
theorem g_iinc (X : Stand p l e R s m args below meth c T locs cells slots) (hx : p.tables.exec = Jvm.exec) {k : Nat} {cst : Int} {v z : Int32} (hd : decode c.code pc = .ok (.iinc k cst, 3)) (hp : pc + 3 = pc') (hl : Ls[k]? = some (.val (.int v))) (hz : Int32.ofInt cst = z) (hl' : storeLocals Ls k (.int (v + z)) = some Ls') (G : Go p e below En n0 Q T (mkF m pc' Ls' st)) : Go p e below En n0 Q T (mkF m pc Ls st) := by
  subst hp hz
  exact Go.mov (fun _ k => XS.iinc X.here hx rfl hd hl hl' k) G
theorem g_goto (X : Stand p l e R s m args below meth c T locs cells slots) (hx : p.tables.exec = Jvm.exec) {o : Int} (hd : decode c.code pc = .ok (.goto o, 3)) (ho : 0 ≤ (pc : Int) + o) (hp : ((pc : Int) + o).toNat = pc') (G : Go p e below En n0 Q T (mkF m pc' Ls st)) : Go p e below En n0 Q T (mkF m pc Ls st) :=
  Go.mov (fun _ k => XS.goto X.here hx rfl rfl hd ho hp k) G
theorem g_icmp_lt (X : Stand p l e R s m args below meth c T locs cells slots) (hx : p.tables.exec = Jvm.exec) {x y : Int32} {o : Int} (hd : decode c.code pc = .ok (.if_icmp .lt o, 3)) (hp1 : pc1 = pc + 3) (ho : 0 ≤ (pc : Int) + o) (hp2 : ((pc : Int) + o).toNat = pc2) (G2 : (x < y) → Go p e below En n0 Q T (mkF m pc2 Ls st)) (G1 : (¬ x < y) → Go p e below En n0 Q T (mkF m pc1 Ls st)) : Go p e below En n0 Q T (mkF m pc Ls (.int y :: .int x :: st)) := by
  by_cases q : x < y
  · exact Go.mov (fun _ k => XS.icmpYes X.here hx rfl rfl hd rfl (tlt q).1 ho hp2 k) (G2 q)
  · exact Go.mov (fun _ k => XS.icmpNo X.here hx rfl hd rfl (flt q).1 (hp1 ▸ k)) (G1 q)
theorem g_if_lt (X : Stand p l e R s m args below meth c T locs cells slots) (hx : p.tables.exec = Jvm.exec) {x : Int32} {o : Int} (hd : decode c.code pc = .ok (.ifCond .lt o, 3)) (hp1 : pc1 = pc + 3) (ho : 0 ≤ (pc : Int) + o) (hp2 : ((pc : Int) + o).toNat = pc2) (G2 : (x < (0 : Int32)) → Go p e below En n0 Q T (mkF m pc2 Ls st)) (G1 : (¬ x < (0 : Int32)) → Go p e below En n0 Q T (mkF m pc1 Ls st)) : Go p e below En n0 Q T (mkF m pc Ls (.int x :: st)) := by
  by_cases q : x < (0 : Int32)
  · exact Go.mov (fun _ k => XS.ifYes X.here hx rfl rfl hd rfl ((if0 _ _).trans (tlt q).1) ho hp2 k) (G2 q)
  · exact Go.mov (fun _ k => XS.ifNo X.here hx rfl hd rfl ((if0 _ _).trans (flt q).1) (hp1 ▸ k)) (G1 q)
theorem g_lcmp_lt (X : Stand p l e R s m args below meth c T locs cells slots) (hx : p.tables.exec = Jvm.exec) {x y : Int64} {o : Int} (hd0 : decode c.code pc = .ok (.lcmp, 1)) (hp0 : pc + 1 = pc') (hd : decode c.code pc' = .ok (.ifCond .lt o, 3)) (hp1 : pc1 = pc' + 3) (ho : 0 ≤ (pc' : Int) + o) (hp2 : ((pc' : Int) + o).toNat = pc2) (G2 : (x < y) → Go p e below En n0 Q T (mkF m pc2 Ls st)) (G1 : (¬ x < y) → Go p e below En n0 Q T (mkF m pc1 Ls st)) : Go p e below En n0 Q T (mkF m pc Ls (.long y :: .long x :: st)) :=
  g_lcmp X hx hd0 hp0 (g_if_lt X hx hd hp1 ho hp2 (fun q => G2 ((lw_lt x y).mp q)) (fun q => G1 (fun r => q ((lw_lt x y).mpr r))))
theorem g_icmp_ge (X : Stand p l e R s m args below meth c T locs cells slots) (hx : p.tables.exec = Jvm.exec) {x y : Int32} {o : Int} (hd : decode c.code pc = .ok (.if_icmp .ge o, 3)) (hp1 : pc1 = pc + 3) (ho : 0 ≤ (pc : Int) + o) (hp2 : ((pc : Int) + o).toNat = pc2) (G2 : (¬ x < y) → Go p e below En n0 Q T (mkF m pc2 Ls st)) (G1 : (x < y) → Go p e below En n0 Q T (mkF m pc1 Ls st)) : Go p e below En n0 Q T (mkF m pc Ls (.int y :: .int x :: st)) := by
  by_cases q : x < y
  · exact Go.mov (fun _ k => XS.icmpNo X.here hx rfl hd rfl (tlt q).2.1 (hp1 ▸ k)) (G1 q)
  · exact Go.mov (fun _ k => XS.icmpYes X.here hx rfl rfl hd rfl (flt q).2.1 ho hp2 k) (G2 q)
theorem g_if_ge (X : Stand p l e R s m args below meth c T locs cells slots) (hx : p.tables.exec = Jvm.exec) {x : Int32} {o : Int} (hd : decode c.code pc = .ok (.ifCond .ge o, 3)) (hp1 : pc1 = pc + 3) (ho : 0 ≤ (pc : Int) + o) (hp2 : ((pc : Int) + o).toNat = pc2) (G2 : (¬ x < (0 : Int32)) → Go p e below En n0 Q T (mkF m pc2 Ls st)) (G1 : (x < (0 : Int32)) → Go p e below En n0 Q T (mkF m pc1 Ls st)) : Go p e below En n0 Q T (mkF m pc Ls (.int x :: st)) := by
  by_cases q : x < (0 : Int32)
  · exact Go.mov (fun _ k => XS.ifNo X.here hx rfl hd rfl ((if0 _ _).trans (tlt q).2.1) (hp1 ▸ k)) (G1 q)
  · exact Go.mov (fun _ k => XS.ifYes X.here hx rfl rfl hd rfl ((if0 _ _).trans (flt q).2.1) ho hp2 k) (G2 q)
theorem g_lcmp_ge (X : Stand p l e R s m args below meth c T locs cells slots) (hx : p.tables.exec = Jvm.exec) {x y : Int64} {o : Int} (hd0 : decode c.code pc = .ok (.lcmp, 1)) (hp0 : pc + 1 = pc') (hd : decode c.code pc' = .ok (.ifCond .ge o, 3)) (hp1 : pc1 = pc' + 3) (ho : 0 ≤ (pc' : Int) + o) (hp2 : ((pc' : Int) + o).toNat = pc2) (G2 : (¬ x < y) → Go p e below En n0 Q T (mkF m pc2 Ls st)) (G1 : (x < y) → Go p e below En n0 Q T (mkF m pc1 Ls st)) : Go p e below En n0 Q T (mkF m pc Ls (.long y :: .long x :: st)) :=
  g_lcmp X hx hd0 hp0 (g_if_ge X hx hd hp1 ho hp2 (fun q => G2 (fun r => q ((lw_lt x y).mpr r))) (fun q => G1 ((lw_lt x y).mp q)))
theorem g_icmp_gt (X : Stand p l e R s m args below meth c T locs cells slots) (hx : p.tables.exec = Jvm.exec) {x y : Int32} {o : Int} (hd : decode c.code pc = .ok (.if_icmp .gt o, 3)) (hp1 : pc1 = pc + 3) (ho : 0 ≤ (pc : Int) + o) (hp2 : ((pc : Int) + o).toNat = pc2) (G2 : (y < x) → Go p e below En n0 Q T (mkF m pc2 Ls st)) (G1 : (¬ y < x) → Go p e below En n0 Q T (mkF m pc1 Ls st)) : Go p e below En n0 Q T (mkF m pc Ls (.int y :: .int x :: st)) := by
  by_cases q : y < x
  · exact Go.mov (fun _ k => XS.icmpYes X.here hx rfl rfl hd rfl (tlt q).2.2.1 ho hp2 k) (G2 q)
  · exact Go.mov (fun _ k => XS.icmpNo X.here hx rfl hd rfl (flt q).2.2.1 (hp1 ▸ k)) (G1 q)
theorem g_if_gt (X : Stand p l e R s m args below meth c T locs cells slots) (hx : p.tables.exec = Jvm.exec) {x : Int32} {o : Int} (hd : decode c.code pc = .ok (.ifCond .gt o, 3)) (hp1 : pc1 = pc + 3) (ho : 0 ≤ (pc : Int) + o) (hp2 : ((pc : Int) + o).toNat = pc2) (G2 : ((0 : Int32) < x) → Go p e below En n0 Q T (mkF m pc2 Ls st)) (G1 : (¬ (0 : Int32) < x) → Go p e below En n0 Q T (mkF m pc1 Ls st)) : Go p e below En n0 Q T (mkF m pc Ls (.int x :: st)) := by
  by_cases q : (0 : Int32) < x
  · exact Go.mov (fun _ k => XS.ifYes X.here hx rfl rfl hd rfl ((if0 _ _).trans (tlt q).2.2.1) ho hp2 k) (G2 q)
  · exact Go.mov (fun _ k => XS.ifNo X.here hx rfl hd rfl ((if0 _ _).trans (flt q).2.2.1) (hp1 ▸ k)) (G1 q)
theorem g_lcmp_gt (X : Stand p l e R s m args below meth c T locs cells slots) (hx : p.tables.exec = Jvm.exec) {x y : Int64} {o : Int} (hd0 : decode c.code pc = .ok (.lcmp, 1)) (hp0 : pc + 1 = pc') (hd : decode c.code pc' = .ok (.ifCond .gt o, 3)) (hp1 : pc1 = pc' + 3) (ho : 0 ≤ (pc' : Int) + o) (hp2 : ((pc' : Int) + o).toNat = pc2) (G2 : (y < x) → Go p e below En n0 Q T (mkF m pc2 Ls st)) (G1 : (¬ y < x) → Go p e below En n0 Q T (mkF m pc1 Ls st)) : Go p e below En n0 Q T (mkF m pc Ls (.long y :: .long x :: st)) :=
  g_lcmp X hx hd0 hp0 (g_if_gt X hx hd hp1 ho hp2 (fun q => G2 ((lw_gt x y).mp q)) (fun q => G1 (fun r => q ((lw_gt x y).mpr r))))
theorem g_icmp_le (X : Stand p l e R s m args below meth c T locs cells slots) (hx : p.tables.exec = Jvm.exec) {x y : Int32} {o : Int} (hd : decode c.code pc = .ok (.if_icmp .le o, 3)) (hp1 : pc1 = pc + 3) (ho : 0 ≤ (pc : Int) + o) (hp2 : ((pc : Int) + o).toNat = pc2) (G2 : (¬ y < x) → Go p e below En n0 Q T (mkF m pc2 Ls st)) (G1 : (y < x) → Go p e below En n0 Q T (mkF m pc1 Ls st)) : Go p e below En n0 Q T (mkF m pc Ls (.int y :: .int x :: st)) := by
  by_cases q : y < x
  · exact Go.mov (fun _ k => XS.icmpNo X.here hx rfl hd rfl (tlt q).2.2.2 (hp1 ▸ k)) (G1 q)
  · exact Go.mov (fun _ k => XS.icmpYes X.here hx rfl rfl hd rfl (flt q).2.2.2 ho hp2 k) (G2 q)
theorem g_if_le (X : Stand p l e R s m args below meth c T locs cells slots) (hx : p.tables.exec = Jvm.exec) {x : Int32} {o : Int} (hd : decode c.code pc = .ok (.ifCond .le o, 3)) (hp1 : pc1 = pc + 3) (ho : 0 ≤ (pc : Int) + o) (hp2 : ((pc : Int) + o).toNat = pc2) (G2 : (¬ (0 : Int32) < x) → Go p e below En n0 Q T (mkF m pc2 Ls st)) (G1 : ((0 : Int32) < x) → Go p e below En n0 Q T (mkF m pc1 Ls st)) : Go p e below En n0 Q T (mkF m pc Ls (.int x :: st)) := by
  by_cases q : (0 : Int32) < x
  · exact Go.mov (fun _ k => XS.ifNo X.here hx rfl hd rfl ((if0 _ _).trans (tlt q).2.2.2) (hp1 ▸ k)) (G1 q)
  · exact Go.mov (fun _ k => XS.ifYes X.here hx rfl rfl hd rfl ((if0 _ _).trans (flt q).2.2.2) ho hp2 k) (G2 q)
theorem g_lcmp_le (X : Stand p l e R s m args below meth c T locs cells slots) (hx : p.tables.exec = Jvm.exec) {x y : Int64} {o : Int} (hd0 : decode c.code pc = .ok (.lcmp, 1)) (hp0 : pc + 1 = pc') (hd : decode c.code pc' = .ok (.ifCond .le o, 3)) (hp1 : pc1 = pc' + 3) (ho : 0 ≤ (pc' : Int) + o) (hp2 : ((pc' : Int) + o).toNat = pc2) (G2 : (¬ y < x) → Go p e below En n0 Q T (mkF m pc2 Ls st)) (G1 : (y < x) → Go p e below En n0 Q T (mkF m pc1 Ls st)) : Go p e below En n0 Q T (mkF m pc Ls (.long y :: .long x :: st)) :=
  g_lcmp X hx hd0 hp0 (g_if_le X hx hd hp1 ho hp2 (fun q => G2 (fun r => q ((lw_gt x y).mpr r))) (fun q => G1 ((lw_gt x y).mp q)))
theorem g_icmp_eq (X : Stand p l e R s m args below meth c T locs cells slots) (hx : p.tables.exec = Jvm.exec) {x y : Int32} {o : Int} (hd : decode c.code pc = .ok (.if_icmp .eq o, 3)) (hp1 : pc1 = pc + 3) (ho : 0 ≤ (pc : Int) + o) (hp2 : ((pc : Int) + o).toNat = pc2) (G2 : (x = y) → Go p e below En n0 Q T (mkF m pc2 Ls st)) (G1 : (¬ x = y) → Go p e below En n0 Q T (mkF m pc1 Ls st)) : Go p e below En n0 Q T (mkF m pc Ls (.int y :: .int x :: st)) := by
  by_cases q : x = y
  · exact Go.mov (fun _ k => XS.icmpYes X.here hx rfl rfl hd rfl (teq q).1 ho hp2 k) (G2 q)
  · exact Go.mov (fun _ k => XS.icmpNo X.here hx rfl hd rfl (feq q).1 (hp1 ▸ k)) (G1 q)
theorem g_if_eq (X : Stand p l e R s m args below meth c T locs cells slots) (hx : p.tables.exec = Jvm.exec) {x : Int32} {o : Int} (hd : decode c.code pc = .ok (.ifCond .eq o, 3)) (hp1 : pc1 = pc + 3) (ho : 0 ≤ (pc : Int) + o) (hp2 : ((pc : Int) + o).toNat = pc2) (G2 : (x = (0 : Int32)) → Go p e below En n0 Q T (mkF m pc2 Ls st)) (G1 : (¬ x = (0 : Int32)) → Go p e below En n0 Q T (mkF m pc1 Ls st)) : Go p e below En n0 Q T (mkF m pc Ls (.int x :: st)) := by
  by_cases q : x = (0 : Int32)
  · exact Go.mov (fun _ k => XS.ifYes X.here hx rfl rfl hd rfl ((if0 _ _).trans (teq q).1) ho hp2 k) (G2 q)
  · exact Go.mov (fun _ k => XS.ifNo X.here hx rfl hd rfl ((if0 _ _).trans (feq q).1) (hp1 ▸ k)) (G1 q)
theorem g_lcmp_eq (X : Stand p l e R s m args below meth c T locs cells slots) (hx : p.tables.exec = Jvm.exec) {x y : Int64} {o : Int} (hd0 : decode c.code pc = .ok (.lcmp, 1)) (hp0 : pc + 1 = pc') (hd : decode c.code pc' = .ok (.ifCond .eq o, 3)) (hp1 : pc1 = pc' + 3) (ho : 0 ≤ (pc' : Int) + o) (hp2 : ((pc' : Int) + o).toNat = pc2) (G2 : (x = y) → Go p e below En n0 Q T (mkF m pc2 Ls st)) (G1 : (¬ x = y) → Go p e below En n0 Q T (mkF m pc1 Ls st)) : Go p e below En n0 Q T (mkF m pc Ls (.long y :: .long x :: st)) :=
  g_lcmp X hx hd0 hp0 (g_if_eq X hx hd hp1 ho hp2 (fun q => G2 ((lw_eq x y).mp q)) (fun q => G1 (fun r => q ((lw_eq x y).mpr r))))
theorem g_icmp_ne (X : Stand p l e R s m args below meth c T locs cells slots) (hx : p.tables.exec = Jvm.exec) {x y : Int32} {o : Int} (hd : decode c.code pc = .ok (.if_icmp .ne o, 3)) (hp1 : pc1 = pc + 3) (ho : 0 ≤ (pc : Int) + o) (hp2 : ((pc : Int) + o).toNat = pc2) (G2 : (¬ x = y) → Go p e below En n0 Q T (mkF m pc2 Ls st)) (G1 : (x = y) → Go p e below En n0 Q T (mkF m pc1 Ls st)) : Go p e below En n0 Q T (mkF m pc Ls (.int y :: .int x :: st)) := by
  by_cases q : x = y
  · exact Go.mov (fun _ k => XS.icmpNo X.here hx rfl hd rfl (teq q).2 (hp1 ▸ k)) (G1 q)
  · exact Go.mov (fun _ k => XS.icmpYes X.here hx rfl rfl hd rfl (feq q).2 ho hp2 k) (G2 q)
theorem g_if_ne (X : Stand p l e R s m args below meth c T locs cells slots) (hx : p.tables.exec = Jvm.exec) {x : Int32} {o : Int} (hd : decode c.code pc = .ok (.ifCond .ne o, 3)) (hp1 : pc1 = pc + 3) (ho : 0 ≤ (pc : Int) + o) (hp2 : ((pc : Int) + o).toNat = pc2) (G2 : (¬ x = (0 : Int32)) → Go p e below En n0 Q T (mkF m pc2 Ls st)) (G1 : (x = (0 : Int32)) → Go p e below En n0 Q T (mkF m pc1 Ls st)) : Go p e below En n0 Q T (mkF m pc Ls (.int x :: st)) := by
  by_cases q : x = (0 : Int32)
  · exact Go.mov (fun _ k => XS.ifNo X.here hx rfl hd rfl ((if0 _ _).trans (teq q).2) (hp1 ▸ k)) (G1 q)
  · exact Go.mov (fun _ k => XS.ifYes X.here hx rfl rfl hd rfl ((if0 _ _).trans (feq q).2) ho hp2 k) (G2 q)
theorem g_lcmp_ne (X : Stand p l e R s m args below meth c T locs cells slots) (hx : p.tables.exec = Jvm.exec) {x y : Int64} {o : Int} (hd0 : decode c.code pc = .ok (.lcmp, 1)) (hp0 : pc + 1 = pc') (hd : decode c.code pc' = .ok (.ifCond .ne o, 3)) (hp1 : pc1 = pc' + 3) (ho : 0 ≤ (pc' : Int) + o) (hp2 : ((pc' : Int) + o).toNat = pc2) (G2 : (¬ x = y) → Go p e below En n0 Q T (mkF m pc2 Ls st)) (G1 : (x = y) → Go p e below En n0 Q T (mkF m pc1 Ls st)) : Go p e below En n0 Q T (mkF m pc Ls (.long y :: .long x :: st)) :=
  g_lcmp X hx hd0 hp0 (g_if_ne X hx hd hp1 ho hp2 (fun q => G2 (fun r => q ((lw_eq x y).mpr r))) (fun q => G1 ((lw_eq x y).mp q)))
theorem g_ifnull_n (X : Stand p l e R s m args below meth c T locs cells slots) (hx : p.tables.exec = Jvm.exec) {b : Addr} {o : Int} (hd : decode c.code pc = .ok (.ifnull o, 3)) (hp : pc + 3 = pc') (G : Go p e below En n0 Q T (mkF m pc' Ls st)) : Go p e below En n0 Q T (mkF m pc Ls (.ref b :: st)) := by
  subst hp
  exact Go.mov (fun _ k => XS.ifnullNo X.here hx rfl hd rfl k) G
theorem g_ifnull_y (X : Stand p l e R s m args below meth c T locs cells slots) (hx : p.tables.exec = Jvm.exec) {o : Int} (hd : decode c.code pc = .ok (.ifnull o, 3)) (ho : 0 ≤ (pc : Int) + o) (hp : ((pc : Int) + o).toNat = pc') (G : Go p e below En n0 Q T (mkF m pc' Ls st)) : Go p e below En n0 Q T (mkF m pc Ls (.null :: st)) :=
  Go.mov (fun _ k => XS.ifnullYes X.here hx rfl rfl hd rfl ho hp k) G
theorem g_ifnonnull_y (X : Stand p l e R s m args below meth c T locs cells slots) (hx : p.tables.exec = Jvm.exec) {b : Addr} {o : Int} (hd : decode c.code pc = .ok (.ifnonnull o, 3)) (ho : 0 ≤ (pc : Int) + o) (hp : ((pc : Int) + o).toNat = pc') (G : Go p e below En n0 Q T (mkF m pc' Ls st)) : Go p e below En n0 Q T (mkF m pc Ls (.ref b :: st)) :=
  Go.mov (fun _ k => XS.ifnonnullYes X.here hx rfl rfl hd rfl ho hp k) G
theorem g_ifnonnull_n (X : Stand p l e R s m args below meth c T locs cells slots) (hx : p.tables.exec = Jvm.exec) {o : Int} (hd : decode c.code pc = .ok (.ifnonnull o, 3)) (hp : pc + 3 = pc') (G : Go p e below En n0 Q T (mkF m pc' Ls st)) : Go p e below En n0 Q T (mkF m pc Ls (.null :: st)) := by
  subst hp
  exact Go.mov (fun _ k => XS.ifnonnullNo X.here hx rfl hd rfl k) G
theorem g_acmp_eq (X : Stand p l e R s m args below meth c T locs cells slots) (hx : p.tables.exec = Jvm.exec) {x y : Value} {o : Int} (hd : decode c.code pc = .ok (.if_acmp .eq o, 3)) (hx1 : x.isRef = true) (hy1 : y.isRef = true) (hp1 : pc1 = pc + 3) (ho : 0 ≤ (pc : Int) + o) (hp2 : ((pc : Int) + o).toNat = pc2) (G2 : (x = y) → Go p e below En n0 Q T (mkF m pc2 Ls st)) (G1 : (¬ x = y) → Go p e below En n0 Q T (mkF m pc1 Ls st)) : Go p e below En n0 Q T (mkF m pc Ls (y :: x :: st)) := by
  subst hp1 hp2
  by_cases q : x = y
  · exact Go.mov (fun _ k => acmp X hx rfl hx1 hy1 rfl hd rfl (same := true) (decide_eq_true q) ho rfl k) (G2 q)
  · exact Go.mov (fun _ k => acmp X hx rfl hx1 hy1 rfl hd rfl (same := false) (decide_eq_false q) ho rfl k) (G1 q)
theorem g_acmp_ne (X : Stand p l e R s m args below meth c T locs cells slots) (hx : p.tables.exec = Jvm.exec) {x y : Value} {o : Int} (hd : decode c.code pc = .ok (.if_acmp .ne o, 3)) (hx1 : x.isRef = true) (hy1 : y.isRef = true) (hp1 : pc1 = pc + 3) (ho : 0 ≤ (pc : Int) + o) (hp2 : ((pc : Int) + o).toNat = pc2) (G2 : (¬ x = y) → Go p e below En n0 Q T (mkF m pc2 Ls st)) (G1 : (x = y) → Go p e below En n0 Q T (mkF m pc1 Ls st)) : Go p e below En n0 Q T (mkF m pc Ls (y :: x :: st)) := by
  subst hp1 hp2
  by_cases q : x = y
  · exact Go.mov (fun _ k => acmp X hx rfl hx1 hy1 rfl hd rfl (same := true) (decide_eq_true q) ho rfl k) (G1 q)
  · exact Go.mov (fun _ k => acmp X hx rfl hx1 hy1 rfl hd rfl (same := false) (decide_eq_false q) ho rfl k) (G2 q)
theorem g_ldc (X : Stand p l e R s m args below meth c T locs cells slots) (hx : p.tables.exec = Jvm.exec) (hZ : Z.Warmed39 s.vm) {own : String} {i : Nat} {v : Int32} (hown : s.vm.findClass own = some m.cls) (w : (Jvm.Cond.constant own i v).before a0 Z = true) (hd : decode c.code pc = .ok (.ldc i, 2)) (hp : pc + 2 = pc') (G : Go p e below En n0 Q T (mkF m pc' Ls (.int v :: st))) : Go p e below En n0 Q T (mkF m pc Ls st) := by
  subst hp
  exact Go.mov (X.ldcInt hx hown (mvT hZ w) rfl hd) G
theorem g_ldc_w (X : Stand p l e R s m args below meth c T locs cells slots) (hx : p.tables.exec = Jvm.exec) (hZ : Z.Warmed39 s.vm) {own : String} {i : Nat} {v : Int32} (hown : s.vm.findClass own = some m.cls) (w : (Jvm.Cond.constant own i v).before a0 Z = true) (hd : decode c.code pc = .ok (.ldc_w i, 3)) (hp : pc + 3 = pc') (G : Go p e below En n0 Q T (mkF m pc' Ls (.int v :: st))) : Go p e below En n0 Q T (mkF m pc Ls st) := by
  subst hp
  exact Go.mov (X.ldcwInt hx hown (mvT hZ w) rfl hd) G
theorem g_ldc2_w (X : Stand p l e R s m args below meth c T locs cells slots) (hx : p.tables.exec = Jvm.exec) (hZ : Z.Warmed39 s.vm) {own : String} {i : Nat} {v : Int64} (hown : s.vm.findClass own = some m.cls) (w : (Jvm.Cond.constantLong own i v).before a0 Z = true) (hd : decode c.code pc = .ok (.ldc2_w i, 3)) (hp : pc + 3 = pc') (G : Go p e below En n0 Q T (mkF m pc' Ls (.long v :: st))) : Go p e below En n0 Q T (mkF m pc Ls st) := by
  subst hp
  exact Go.mov (X.ldc2Long hx hown (mvT hZ w) rfl hd) G
theorem g_return (X : Stand p l e R s m args below meth c T locs cells slots) (hx : p.tables.exec = Jvm.exec) (hr : meth.sig.returnType = none) (hd : decode c.code pc = .ok (.return_, 1)) (N : Fr n0 locs) (hlk : meth.locks = false) (hE : ∀ v t, t.heap = T.heap → s.WarmedH t.vm → s.sameButNew ({ t with vm := s.vm } : State) locs cells slots → En v t locs) (hQ : Q none T.heap) : Go p e below En n0 Q T (mkF m pc Ls []) := by
  obtain ⟨fs, hr1, hrun, hended, hW, hsame⟩ := X.leave (v := none) (fun _ => rfl) hlk
  exact ⟨_, _, X.returnOut hx hr hd hr1, hrun, hended, _, _, rfl, ⟨hQ, N⟩, hE _ _ rfl hW hsame⟩
theorem g_ireturn (X : Stand p l e R s m args below meth c T locs cells slots) (hx : p.tables.exec = Jvm.exec) {z : Int32} (hr : meth.sig.returnType = some .int) (hd : decode c.code pc = .ok (.ireturn, 1)) (N : Fr n0 locs) (hlk : meth.locks = false) (hE : ∀ v t, t.heap = T.heap → s.WarmedH t.vm → s.sameButNew ({ t with vm := s.vm } : State) locs cells slots → En v t locs) (hQ : Q (some (.int z)) T.heap) : Go p e below En n0 Q T (mkF m pc Ls (.int z :: st)) := by
  obtain ⟨fs, hr1, hrun, hended, hW, hsame⟩ := X.leave (v := some (.int z)) (fun h => by rw [hr] at h; cases h) hlk
  exact ⟨_, _, retOut X hx hr rfl (Or.inl ⟨rfl, Or.inl rfl, z, rfl⟩) hd hr1, hrun, hended, _, _, rfl, ⟨hQ, N⟩, hE _ _ rfl hW hsame⟩
theorem g_lreturn (X : Stand p l e R s m args below meth c T locs cells slots) (hx : p.tables.exec = Jvm.exec) {z : Int64} (hr : meth.sig.returnType = some .long) (hd : decode c.code pc = .ok (.lreturn, 1)) (N : Fr n0 locs) (hlk : meth.locks = false) (hE : ∀ v t, t.heap = T.heap → s.WarmedH t.vm → s.sameButNew ({ t with vm := s.vm } : State) locs cells slots → En v t locs) (hQ : Q (some (.long z)) T.heap) : Go p e below En n0 Q T (mkF m pc Ls (.long z :: st)) := by
  obtain ⟨fs, hr1, hrun, hended, hW, hsame⟩ := X.leave (v := some (.long z)) (fun h => by rw [hr] at h; cases h) hlk
  exact ⟨_, _, retOut X hx hr rfl (Or.inr (Or.inl ⟨rfl, rfl, z, rfl⟩)) hd hr1, hrun, hended, _, _, rfl, ⟨hQ, N⟩, hE _ _ rfl hW hsame⟩
theorem g_areturn (X : Stand p l e R s m args below meth c T locs cells slots) (hx : p.tables.exec = Jvm.exec) {v : Value} {t : FieldType} (ht : t.isReference = true) (hv : v.isRef = true) (hr : meth.sig.returnType = some t) (hd : decode c.code pc = .ok (.areturn, 1)) (N : Fr n0 locs) (hlk : meth.locks = false) (hE : ∀ v t, t.heap = T.heap → s.WarmedH t.vm → s.sameButNew ({ t with vm := s.vm } : State) locs cells slots → En v t locs) (hQ : Q (some (v)) T.heap) : Go p e below En n0 Q T (mkF m pc Ls (v :: st)) := by
  obtain ⟨fs, hr1, hrun, hended, hW, hsame⟩ := X.leave (v := some (v)) (fun h => by rw [hr] at h; cases h) hlk
  exact ⟨_, _, retOut X hx hr (by cases t <;> first | rfl | (cases ht; done)) (Or.inr (Or.inr (Or.inr (Or.inr ⟨rfl, ht, hv⟩)))) hd hr1, hrun, hended, _, _, rfl, ⟨hQ, N⟩, hE _ _ rfl hW hsame⟩
theorem g_zreturn (X : Stand p l e R s m args below meth c T locs cells slots) (hx : p.tables.exec = Jvm.exec) {z : Int32} (hn : narrow .boolean (.int z) = .int z) (hr : meth.sig.returnType = some .boolean) (hd : decode c.code pc = .ok (.ireturn, 1)) (N : Fr n0 locs) (hlk : meth.locks = false) (hE : ∀ v t, t.heap = T.heap → s.WarmedH t.vm → s.sameButNew ({ t with vm := s.vm } : State) locs cells slots → En v t locs) (hQ : Q (some (.int z)) T.heap) : Go p e below En n0 Q T (mkF m pc Ls (.int z :: st)) := by
  obtain ⟨fs, hr1, hrun, hended, hW, hsame⟩ := X.leave (v := some (.int z)) (fun h => by rw [hr] at h; cases h) hlk
  exact ⟨_, _, retOut X hx hr hn (Or.inl ⟨rfl, by simp, z, rfl⟩) hd hr1, hrun, hended, _, _, rfl, ⟨hQ, N⟩, hE _ _ rfl hW hsame⟩
theorem g_breturn (X : Stand p l e R s m args below meth c T locs cells slots) (hx : p.tables.exec = Jvm.exec) {z : Int32} (hn : narrow .byte (.int z) = .int z) (hr : meth.sig.returnType = some .byte) (hd : decode c.code pc = .ok (.ireturn, 1)) (N : Fr n0 locs) (hlk : meth.locks = false) (hE : ∀ v t, t.heap = T.heap → s.WarmedH t.vm → s.sameButNew ({ t with vm := s.vm } : State) locs cells slots → En v t locs) (hQ : Q (some (.int z)) T.heap) : Go p e below En n0 Q T (mkF m pc Ls (.int z :: st)) := by
  obtain ⟨fs, hr1, hrun, hended, hW, hsame⟩ := X.leave (v := some (.int z)) (fun h => by rw [hr] at h; cases h) hlk
  exact ⟨_, _, retOut X hx hr hn (Or.inl ⟨rfl, by simp, z, rfl⟩) hd hr1, hrun, hended, _, _, rfl, ⟨hQ, N⟩, hE _ _ rfl hW hsame⟩
theorem g_creturn (X : Stand p l e R s m args below meth c T locs cells slots) (hx : p.tables.exec = Jvm.exec) {z : Int32} (hn : narrow .char (.int z) = .int z) (hr : meth.sig.returnType = some .char) (hd : decode c.code pc = .ok (.ireturn, 1)) (N : Fr n0 locs) (hlk : meth.locks = false) (hE : ∀ v t, t.heap = T.heap → s.WarmedH t.vm → s.sameButNew ({ t with vm := s.vm } : State) locs cells slots → En v t locs) (hQ : Q (some (.int z)) T.heap) : Go p e below En n0 Q T (mkF m pc Ls (.int z :: st)) := by
  obtain ⟨fs, hr1, hrun, hended, hW, hsame⟩ := X.leave (v := some (.int z)) (fun h => by rw [hr] at h; cases h) hlk
  exact ⟨_, _, retOut X hx hr hn (Or.inl ⟨rfl, by simp, z, rfl⟩) hd hr1, hrun, hended, _, _, rfl, ⟨hQ, N⟩, hE _ _ rfl hW hsame⟩
theorem g_sreturn (X : Stand p l e R s m args below meth c T locs cells slots) (hx : p.tables.exec = Jvm.exec) {z : Int32} (hn : narrow .short (.int z) = .int z) (hr : meth.sig.returnType = some .short) (hd : decode c.code pc = .ok (.ireturn, 1)) (N : Fr n0 locs) (hlk : meth.locks = false) (hE : ∀ v t, t.heap = T.heap → s.WarmedH t.vm → s.sameButNew ({ t with vm := s.vm } : State) locs cells slots → En v t locs) (hQ : Q (some (.int z)) T.heap) : Go p e below En n0 Q T (mkF m pc Ls (.int z :: st)) := by
  obtain ⟨fs, hr1, hrun, hended, hW, hsame⟩ := X.leave (v := some (.int z)) (fun h => by rw [hr] at h; cases h) hlk
  exact ⟨_, _, retOut X hx hr hn (Or.inl ⟨rfl, by simp, z, rfl⟩) hd hr1, hrun, hended, _, _, rfl, ⟨hQ, N⟩, hE _ _ rfl hW hsame⟩
end Go
/-! arrays: every component is known -/
def Va (Z : State) (h : Heap) (a : Addr) (ty : FieldType) (vs : List Value) : Prop := ∃ c : Cell, Arr Z h a c ty ∧ c.slots.toList = vs
section Arrays
variable {p : Program} {l : Launch} {e : Env} {R : Room} {s : State} {m : MethodId} {args : Array Value} {below : List Frame} {meth : Method} {c : Code} {T : State} {locs : List Loc} {cells slots : Nat} {Z : State} {a0 : Array Value} {h h' : Heap} {n0 : Nat} {En : Option Value → State → List Loc → Prop} {Q : Option Value → Heap → Prop}
variable {pc pc' : Nat} {Ls : Array Slot} {st : List Value} {a b : Addr} {ty : FieldType} {vs : List Value} {v w : Value} {sl : Nat} {ws : List Addr}
theorem Va.lt (F : Va Z h a ty vs) : a < h.size := by obtain ⟨c, A, -⟩ := F; exact A.lt
theorem Va.ext (F : Va Z h a ty vs) (E : Ext h h') : Va Z h' a ty vs := by obtain ⟨c, A, r⟩ := F; exact ⟨c, A.ext E, r⟩
theorem Va.other (F : Va Z h b ty vs) (W : Wr h h' a sl v) (q : b ≠ a) : Va Z h' b ty vs := by obtain ⟨c, A, r⟩ := F; exact ⟨c, A.other W q, r⟩
theorem Va.keep (F : Va Z h a ty vs) (K : Keep h h' ws) (q : a ∉ ws) : Va Z h' a ty vs := by obtain ⟨c, A, r⟩ := F; exact ⟨c, ⟨K.2.1 a c A.1 q, A.2⟩, r⟩
theorem Va.same (F : Va Z h a ty vs) (W : Wr h h' a sl v) : Va Z h' a ty (vs.set sl v) := by
  obtain ⟨c, A, rfl⟩ := F
  exact ⟨_, A.same W, by simp [Cell.setSlot]⟩
theorem Va.eq (F : Va Z h a ty vs) {vs' : List Value} (q : vs = vs') : Va Z h a ty vs' := q ▸ F
theorem Va.len (F : Va Z h a ty vs) : ∃ c : Cell, Arr Z h a c ty ∧ c.slots.size = vs.length ∧ ∀ i : Nat, c.slots[i]? = vs[i]? := by
  obtain ⟨c, A, rfl⟩ := F
  exact ⟨c, A, by simp, fun i => by simp⟩
theorem Va.new {cA : ClassId} {n : Int32} {k : Nat} (A : Arr Z h a (newA cA ty n) ty) (hk : n.toNatClampNeg = k) : Va Z h a ty (List.replicate k (defaultValue ty)) := ⟨_, A, by simp [newA, hk]⟩
theorem inV {c : Cell} {j : Int32} {i : Nat} (hs : c.slots.size = vs.length) (hj : ¬ j < 0) (hi : j.toNatClampNeg = i) (hv : vs[i]? = some v) : ¬ (j < 0 ∨ c.slots.size ≤ j.toNatClampNeg) := by
  rintro (q | q)
  · exact hj q
  · rw [hs, hi] at q
    rw [List.getElem?_eq_none q] at hv
    cases hv
theorem g_baload (X : Stand p l e R s m args below meth c T locs cells slots) (hx : p.tables.exec = Jvm.exec) (hZ : Z.Warmed39 s.vm) (eT : T.heap = h) (F : Va Z h a .byte vs) {j : Int32} {i : Nat} (hd : decode c.code pc = .ok (.baload, 1)) (hp : pc + 1 = pc') (hj : ¬ j < 0) (hi : j.toNatClampNeg = i) (hv : vs[i]? = some v) (G : Go p e below En n0 Q T (mkF m pc' Ls (v :: st))) : Go p e below En n0 Q T (mkF m pc Ls (.int j :: .ref a :: st)) := by
  subst hp eT
  obtain ⟨cl, A, hs, hat⟩ := F.len
  have hv' : cl.slots[j.toNatClampNeg]? = some v := by rw [hat, hi]; exact hv
  exact Go.mov (fun t k => X.baloadBytes hx (j := j) (v := v) A.1 (State.isArrayOf_alike hZ.alike A.2.1) A.2.2 (inV hs hj hi hv) hv' (g := mkF m pc Ls (.int j :: .ref a :: st)) rfl rfl hd t k) G
theorem g_caload (X : Stand p l e R s m args below meth c T locs cells slots) (hx : p.tables.exec = Jvm.exec) (hZ : Z.Warmed39 s.vm) (eT : T.heap = h) (F : Va Z h a .char vs) {j : Int32} {i : Nat} (hd : decode c.code pc = .ok (.caload, 1)) (hp : pc + 1 = pc') (hj : ¬ j < 0) (hi : j.toNatClampNeg = i) (hv : vs[i]? = some v) (G : Go p e below En n0 Q T (mkF m pc' Ls (v :: st))) : Go p e below En n0 Q T (mkF m pc Ls (.int j :: .ref a :: st)) := by
  subst hp eT
  obtain ⟨cl, A, hs, hat⟩ := F.len
  have hv' : cl.slots[j.toNatClampNeg]? = some v := by rw [hat, hi]; exact hv
  exact Go.mov (fun t k => X.caload hx (j := j) (v := v) A.1 (State.isArrayOf_alike hZ.alike A.2.1) A.2.2 (inV hs hj hi hv) hv' (g := mkF m pc Ls (.int j :: .ref a :: st)) rfl rfl hd t k) G
theorem g_laload (X : Stand p l e R s m args below meth c T locs cells slots) (hx : p.tables.exec = Jvm.exec) (hZ : Z.Warmed39 s.vm) (eT : T.heap = h) (F : Va Z h a .long vs) {j : Int32} {i : Nat} (hd : decode c.code pc = .ok (.laload, 1)) (hp : pc + 1 = pc') (hj : ¬ j < 0) (hi : j.toNatClampNeg = i) (hv : vs[i]? = some v) (G : Go p e below En n0 Q T (mkF m pc' Ls (v :: st))) : Go p e below En n0 Q T (mkF m pc Ls (.int j :: .ref a :: st)) := by
  subst hp eT
  obtain ⟨cl, A, hs, hat⟩ := F.len
  have hv' : cl.slots[j.toNatClampNeg]? = some v := by rw [hat, hi]; exact hv
  exact Go.mov (fun t k => X.laload hx (j := j) (v := v) A.1 (State.isArrayOf_alike hZ.alike A.2.1) A.2.2 (inV hs hj hi hv) hv' (g := mkF m pc Ls (.int j :: .ref a :: st)) rfl rfl hd t k) G
theorem g_iaload (X : Stand p l e R s m args below meth c T locs cells slots) (hx : p.tables.exec = Jvm.exec) (hZ : Z.Warmed39 s.vm) (eT : T.heap = h) (F : Va Z h a .int vs) {j : Int32} {i : Nat} (hd : decode c.code pc = .ok (.iaload, 1)) (hp : pc + 1 = pc') (hj : ¬ j < 0) (hi : j.toNatClampNeg = i) (hv : vs[i]? = some v) (G : Go p e below En n0 Q T (mkF m pc' Ls (v :: st))) : Go p e below En n0 Q T (mkF m pc Ls (.int j :: .ref a :: st)) := by
  subst hp eT
  obtain ⟨cl, A, hs, hat⟩ := F.len
  have hv' : cl.slots[j.toNatClampNeg]? = some v := by rw [hat, hi]; exact hv
  exact Go.mov (fun t k => X.iaload hx (j := j) (v := v) A.1 (State.isArrayOf_alike hZ.alike A.2.1) A.2.2 (inV hs hj hi hv) hv' (g := mkF m pc Ls (.int j :: .ref a :: st)) rfl rfl hd t k) G
theorem g_arraylength (X : Stand p l e R s m args below meth c T locs cells slots) (hx : p.tables.exec = Jvm.exec) (hZ : Z.Warmed39 s.vm) (eT : T.heap = h) (F : Va Z h a ty vs) {z : Int32} (hd : decode c.code pc = .ok (.arraylength, 1)) (hp : pc + 1 = pc') (hz : vs.length.toInt32 = z) (G : Go p e below En n0 Q T (mkF m pc' Ls (.int z :: st))) : Go p e below En n0 Q T (mkF m pc Ls (.ref a :: st)) := by
  subst hp eT
  obtain ⟨cl, A, hs, hat⟩ := F.len
  subst hz
  rw [← hs] at G
  exact Go.mov (fun t k => X.arraylength hx A.1 (State.isArrayOf_alike hZ.alike A.2.1) (g := mkF m pc Ls (.ref a :: st)) rfl rfl hd t k) G
theorem h_bastore (X : Stand p l e R s m args below meth c T locs cells slots) (hx : p.tables.exec = Jvm.exec) (hZ : Z.Warmed39 s.vm) (eT : T.heap = h) (N : Fr n0 locs) (F : Va Z h a .byte vs) (hn : n0 ≤ a) {j : Int32} {i : Nat} {x : Int32} {v : Value} (hd : decode c.code pc = .ok (.bastore, 1)) (hj : ¬ j < 0) (hi : j.toNatClampNeg = i) (hv : vs[i]? = some v) (Ls : Array Slot) (st : List Value) :
    ∃ T' h' L, Stand p l e R s m args below meth c T' L cells slots ∧ T'.heap = h' ∧ Fr n0 L ∧ Wr h h' a i (.int (byt x)) ∧ Va Z h' a .byte (vs.set i (.int (byt x))) ∧ ∀ target, Steps p.tables e below (T'.setTop (mkF m (pc + 1) Ls st)) target → Steps p.tables e below (T.setTop (mkF m pc Ls (.int x :: .int j :: .ref a :: st))) target := by
  obtain ⟨cl, A, hs, hat⟩ := F.len
  obtain ⟨T', h', X', e', W, k⟩ := stB X hx hZ eT A (j := j) (inV hs hj hi hv) (g := mkF m pc Ls (.int x :: .int j :: .ref a :: st)) rfl rfl hd
  subst hi
  exact ⟨T', h', _, X', e', Fr.snoc X' N hn, W, F.same W, k⟩
theorem h_castore (X : Stand p l e R s m args below meth c T locs cells slots) (hx : p.tables.exec = Jvm.exec) (hZ : Z.Warmed39 s.vm) (eT : T.heap = h) (N : Fr n0 locs) (F : Va Z h a .char vs) (hn : n0 ≤ a) {j : Int32} {i : Nat} {x : Int32} {v : Value} (hd : decode c.code pc = .ok (.castore, 1)) (hj : ¬ j < 0) (hi : j.toNatClampNeg = i) (hv : vs[i]? = some v) (Ls : Array Slot) (st : List Value) :
    ∃ T' h' L, Stand p l e R s m args below meth c T' L cells slots ∧ T'.heap = h' ∧ Fr n0 L ∧ Wr h h' a i (.int (chr x)) ∧ Va Z h' a .char (vs.set i (.int (chr x))) ∧ ∀ target, Steps p.tables e below (T'.setTop (mkF m (pc + 1) Ls st)) target → Steps p.tables e below (T.setTop (mkF m pc Ls (.int x :: .int j :: .ref a :: st))) target := by
  obtain ⟨cl, A, hs, hat⟩ := F.len
  obtain ⟨T', h', X', e', W, k⟩ := stC X hx hZ eT A (j := j) (inV hs hj hi hv) (g := mkF m pc Ls (.int x :: .int j :: .ref a :: st)) rfl rfl hd
  subst hi
  exact ⟨T', h', _, X', e', Fr.snoc X' N hn, W, F.same W, k⟩
theorem h_lastore (X : Stand p l e R s m args below meth c T locs cells slots) (hx : p.tables.exec = Jvm.exec) (hZ : Z.Warmed39 s.vm) (eT : T.heap = h) (N : Fr n0 locs) (F : Va Z h a .long vs) (hn : n0 ≤ a) {j : Int32} {i : Nat} {x : Int64} {v : Value} (hd : decode c.code pc = .ok (.lastore, 1)) (hj : ¬ j < 0) (hi : j.toNatClampNeg = i) (hv : vs[i]? = some v) (Ls : Array Slot) (st : List Value) :
    ∃ T' h' L, Stand p l e R s m args below meth c T' L cells slots ∧ T'.heap = h' ∧ Fr n0 L ∧ Wr h h' a i (.long x) ∧ Va Z h' a .long (vs.set i (.long x)) ∧ ∀ target, Steps p.tables e below (T'.setTop (mkF m (pc + 1) Ls st)) target → Steps p.tables e below (T.setTop (mkF m pc Ls (.long x :: .int j :: .ref a :: st))) target := by
  obtain ⟨cl, A, hs, hat⟩ := F.len
  obtain ⟨T', h', X', e', W, k⟩ := stJ X hx hZ eT A (j := j) (inV hs hj hi hv) (g := mkF m pc Ls (.long x :: .int j :: .ref a :: st)) rfl rfl hd
  subst hi
  exact ⟨T', h', _, X', e', Fr.snoc X' N hn, W, F.same W, k⟩
theorem h_iastore (X : Stand p l e R s m args below meth c T locs cells slots) (hx : p.tables.exec = Jvm.exec) (hZ : Z.Warmed39 s.vm) (eT : T.heap = h) (N : Fr n0 locs) (F : Va Z h a .int vs) (hn : n0 ≤ a) {j : Int32} {i : Nat} {x : Int32} {v : Value} (hd : decode c.code pc = .ok (.iastore, 1)) (hj : ¬ j < 0) (hi : j.toNatClampNeg = i) (hv : vs[i]? = some v) (Ls : Array Slot) (st : List Value) :
    ∃ T' h' L, Stand p l e R s m args below meth c T' L cells slots ∧ T'.heap = h' ∧ Fr n0 L ∧ Wr h h' a i (.int x) ∧ Va Z h' a .int (vs.set i (.int x)) ∧ ∀ target, Steps p.tables e below (T'.setTop (mkF m (pc + 1) Ls st)) target → Steps p.tables e below (T.setTop (mkF m pc Ls (.int x :: .int j :: .ref a :: st))) target := by
  obtain ⟨cl, A, hs, hat⟩ := F.len
  obtain ⟨T', h', X', e', W, k⟩ := stI X hx hZ eT A (j := j) (inV hs hj hi hv) (g := mkF m pc Ls (.int x :: .int j :: .ref a :: st)) rfl rfl hd
  subst hi
  exact ⟨T', h', _, X', e', Fr.snoc X' N hn, W, F.same W, k⟩
theorem h_newarray (X : Stand p l e R s m args below meth c T locs cells slots) (hx : p.tables.exec = Jvm.exec) (hZ : Z.Warmed39 s.vm) (eT : T.heap = h) {aty : ArrayType} {ty : FieldType} (hty : newarray.typeOf aty = ty) (w : (Jvm.Cond.arrayClass ty).before a0 Z = true) {n : Int32} {k cap : Nat} (hd : decode c.code pc = .ok (.newarray aty, 2)) (hn : ¬ n < 0) (hk : n.toNatClampNeg = k) (hcap : k ≤ cap) (hb : cap * 8 ≤ 536870912) (hc : cells + 1 ≤ R.cells) (hl : slots + cap ≤ R.slots) {ad : String} (had : "[" ++ ty.toString = ad) (Ls : Array Slot) (st : List Value) :
    ∃ T' h' a, Stand p l e R s m args below meth c T' locs (cells + 1) (slots + cap) ∧ T'.heap = h' ∧ a = h.size ∧ Ext h h' ∧ Va Z h' a ty (List.replicate k (defaultValue ty)) ∧ Exa Z h' a ad ∧ ∀ target, Steps p.tables e below (T'.setTop (mkF m (pc + 2) Ls (.ref a :: st))) target → Steps p.tables e below (T.setTop (mkF m pc Ls (.int n :: st))) target := by
  subst hty
  obtain ⟨T', h', cA, X', e', E, A, Ex, st'⟩ := newPE X hx hZ w eT (g := mkF m pc Ls (.int n :: st)) rfl hd rfl hn (cap := cap) (by rw [hk]; exact hcap) hb hc hl had
  exact ⟨T', h', _, X', e', rfl, E, Va.new A hk, Ex, st'⟩
end Arrays
/-! calls by a contract -/
section Calls
variable {p : Program} {l : Launch} {e : Env} {R : Room} {s : State} {m : MethodId} {args : Array Value} {below : List Frame} {meth : Method} {c : Code} {T : State} {locs : List Loc} {cells slots : Nat} {Z : State} {a0 : Array Value} {h h' : Heap} {n0 : Nat} {Q : Option Value → Heap → Prop}
variable {pc : Nat} {own : String} {i maxL : Nat} {y z : MethodName} {bytes : ByteArray} {ret : Option FieldType} {rm : Room} {as' : Array Value} {ps : List FieldType} {rt : Option FieldType}
theorem h_static (X : Stand p l e R s m args below meth c T locs cells slots) (hx : p.tables.exec = Jvm.exec) {Ls : Array Slot} {W : Nat} {argsL rest : List Value} (hZ : Z.Warmed39 s.vm) (eT : T.heap = h) (N : Fr n0 locs) (hml : c.maxLocals = Ls.size) (hown : s.vm.findClass own = some m.cls) (hK : Ctr l Z y bytes maxL ret rm as' h n0 Q) (w1 : (Jvm.Cond.methodLink own i y).before a0 Z = true) (w2 : (Jvm.Cond.static y).before a0 Z = true) (w3 : (Jvm.Cond.initialized y.cls).before a0 Z = true) (w4 : (Jvm.Cond.code y bytes maxL ret).before a0 Z = true) (hy : y.cls ≠ "java/lang/invoke/MethodHandle" ∧ y.cls ≠ "java/lang/invoke/VarHandle") (pd : parseMethodDescriptor y.desc = some ⟨ps, rt⟩) (hlen : argsL.length = ps.length) (has : as' = argsL.toArray) (hd : decode c.code pc = .ok (.invokestatic i, 3)) (hW : (rest.map fun v => v.category).sum = W) (hf : rm.frames + 1 ≤ R.frames) (hlo : W + (maxL + 11) + rm.locals ≤ R.locals) (hcc : cells + rm.cells ≤ R.cells) (hss : slots + rm.slots ≤ R.slots) :
    ∃ v T' h' L, Stand p l e R s m args below meth c T' L (cells + rm.cells) (slots + rm.slots) ∧ T'.heap = h' ∧ Fr n0 L ∧ Q v h' ∧ ∀ target, Steps p.tables e below (T'.setTop (mkF m (pc + 3) Ls (v.toList ++ rest))) target → Steps p.tables e below (T.setTop (mkF m pc Ls (argsL.reverse ++ rest))) target := by
  obtain ⟨v, _, ⟨T', L', k', n'⟩, -, X', ⟨Lc, hQ, h1, h2, h3⟩, st⟩ := Jvm.LawKit.callS X hx (y := y) hown (mvT hZ w1) (mvT hZ w2) (mvT hZ w3) (mvT hZ w4) hy (backOf (W := W) (hK []) hZ w4 w3 hf hlo) (g := mkF m pc Ls (argsL.reverse ++ rest)) rfl hml.symm (argsL := argsL) (rest := rest) (lenOf pd hlen) rfl (by show 2 * 0 + _ ≤ _; omega) hd (fun _ _ => ⟨has.symm, eT, hcc, hss⟩)
  dsimp only [Pt.U, Pt.locs, Pt.cells, Pt.slots] at X' h1 h2 h3 st hQ
  subst h1 h2 h3
  exact ⟨v, T', _, _, X', rfl, N.app hQ.2, hQ.1, st⟩
theorem h_special (X : Stand p l e R s m args below meth c T locs cells slots) (hx : p.tables.exec = Jvm.exec) {Ls : Array Slot} {W : Nat} {a : Addr} {argsL rest : List Value} (hZ : Z.Warmed39 s.vm) (eT : T.heap = h) (N : Fr n0 locs) (hml : c.maxLocals = Ls.size) (hown : s.vm.findClass own = some m.cls) (hy1 : y.name = "<init>") (hK : Ctr l Z y bytes maxL none rm as' h n0 Q) (w1 : (Jvm.Cond.methodLink own i y).before a0 Z = true) (w2 : (Jvm.Cond.instanceMethod y).before a0 Z = true) (w3 : (Jvm.Cond.initialized y.cls).before a0 Z = true) (w4 : (Jvm.Cond.code y bytes maxL none).before a0 Z = true) (hy : y.cls ≠ "java/lang/invoke/MethodHandle" ∧ y.cls ≠ "java/lang/invoke/VarHandle") (pd : parseMethodDescriptor y.desc = some ⟨ps, rt⟩) (hlen : argsL.length = ps.length) (has : as' = (.ref a :: argsL).toArray) (hd : decode c.code pc = .ok (.invokespecial i, 3)) (hW : (rest.map fun v => v.category).sum = W) (hf : rm.frames + 1 ≤ R.frames) (hlo : W + (maxL + 11) + rm.locals ≤ R.locals) (hcc : cells + rm.cells ≤ R.cells) (hss : slots + rm.slots ≤ R.slots) :
    ∃ v T' h' L, Stand p l e R s m args below meth c T' L (cells + rm.cells) (slots + rm.slots) ∧ T'.heap = h' ∧ Fr n0 L ∧ Q v h' ∧ ∀ target, Steps p.tables e below (T'.setTop (mkF m (pc + 3) Ls (v.toList ++ rest))) target → Steps p.tables e below (T.setTop (mkF m pc Ls (argsL.reverse ++ .ref a :: rest))) target := by
  obtain ⟨v, _, ⟨T', L', k', n'⟩, -, X', ⟨Lc, hQ, h1, h2, h3⟩, st⟩ := X.specialBack hx (y := y) hy1 hown (mvT hZ w1) (mvT hZ w2) (mvT hZ w4) hy (backOf (W := W) (hK []) hZ w4 w3 hf hlo) (g := mkF m pc Ls (argsL.reverse ++ .ref a :: rest)) rfl hml.symm (Steps.refl _) (a := a) (argsL := argsL) (rest := rest) (lenOf pd hlen) rfl (by show 2 * 0 + _ ≤ _; omega) hd (fun _ _ => ⟨has.symm, eT, hcc, hss⟩)
  dsimp only [Pt.U, Pt.locs, Pt.cells, Pt.slots] at X' h1 h2 h3 st hQ
  subst h1 h2 h3
  exact ⟨v, T', _, _, X', rfl, N.app hQ.2, hQ.1, fun t k => st.trans k⟩
theorem h_virtual (X : Stand p l e R s m args below meth c T locs cells slots) (hx : p.tables.exec = Jvm.exec) {Ls : Array Slot} {W : Nat} {a : Addr} {cls : String} {argsL rest : List Value} (hZ : Z.Warmed39 s.vm) (eT : T.heap = h) (N : Fr n0 locs) (hml : c.maxLocals = Ls.size) (hown : s.vm.findClass own = some m.cls) (hK : Ctr l Z z bytes maxL ret rm as' h n0 Q) (E : Exa Z h a cls) (w1 : (Jvm.Cond.methodLink own i y).before a0 Z = true) (w2 : (Jvm.Cond.declares y).before a0 Z = true) (nf : NotFace s y) (w5 : (Jvm.Cond.selects cls y z).before a0 Z = true) (w6 : (Jvm.Cond.instanceMethod z).before a0 Z = true) (w3 : (Jvm.Cond.initialized z.cls).before a0 Z = true) (w4 : (Jvm.Cond.code z bytes maxL ret).before a0 Z = true) (hy : y.cls ≠ "java/lang/invoke/MethodHandle" ∧ y.cls ≠ "java/lang/invoke/VarHandle") (pd : parseMethodDescriptor y.desc = some ⟨ps, rt⟩) (hlen : argsL.length = ps.length) (has : as' = (.ref a :: argsL).toArray) (hd : decode c.code pc = .ok (.invokevirtual i, 3)) (hW : (rest.map fun v => v.category).sum = W) (hf : rm.frames + 1 ≤ R.frames) (hlo : W + (maxL + 11) + rm.locals ≤ R.locals) (hcc : cells + rm.cells ≤ R.cells) (hss : slots + rm.slots ≤ R.slots) :
    ∃ v T' h' L, Stand p l e R s m args below meth c T' L (cells + rm.cells) (slots + rm.slots) ∧ T'.heap = h' ∧ Fr n0 L ∧ Q v h' ∧ ∀ target, Steps p.tables e below (T'.setTop (mkF m (pc + 3) Ls (v.toList ++ rest))) target → Steps p.tables e below (T.setTop (mkF m pc Ls (argsL.reverse ++ .ref a :: rest))) target := by
  obtain ⟨cq, kq, qa, qb, qc⟩ := isOf hZ eT E
  obtain ⟨v, _, ⟨T', L', k', n'⟩, -, X', ⟨Lc, hQ, h1, h2, h3⟩, st⟩ := X.virtualBack hx (y := y) (z := z) hown (mvT hZ w1) (mvT hZ w2) nf (mvT hZ w5) (mvT hZ w6) hy (backOf (W := W) (hK []) hZ w4 w3 hf hlo) qa qc (g := mkF m pc Ls (argsL.reverse ++ .ref a :: rest)) rfl hml.symm (Steps.refl _) (argsL := argsL) (rest := rest) (lenOf pd hlen) rfl (by show 2 * 0 + _ ≤ _; omega) hd (fun _ _ => ⟨has.symm, eT, hcc, hss⟩)
  dsimp only [Pt.U, Pt.locs, Pt.cells, Pt.slots] at X' h1 h2 h3 st hQ
  subst h1 h2 h3
  exact ⟨v, T', _, _, X', rfl, N.app hQ.2, hQ.1, fun t k => st.trans k⟩
theorem h_specialN (X : Stand p l e R s m args below meth c T locs cells slots) (hx : p.tables.exec = Jvm.exec) {Ls : Array Slot} {W : Nat} {a : Addr} {host : String} {argsL rest : List Value} (hZ : Z.Warmed39 s.vm) (eT : T.heap = h) (N : Fr n0 locs) (hml : c.maxLocals = Ls.size) (hown : s.vm.findClass own = some m.cls) (hy1 : y.name = "<init>") (hK : Ctr l Z y bytes maxL none rm as' h n0 Q) (w1 : (Jvm.Cond.methodLinkNest own i y host).before a0 Z = true) (w2 : (Jvm.Cond.instanceMethod y).before a0 Z = true) (w3 : (Jvm.Cond.initialized y.cls).before a0 Z = true) (w4 : (Jvm.Cond.code y bytes maxL none).before a0 Z = true) (hy : y.cls ≠ "java/lang/invoke/MethodHandle" ∧ y.cls ≠ "java/lang/invoke/VarHandle") (pd : parseMethodDescriptor y.desc = some ⟨ps, rt⟩) (hlen : argsL.length = ps.length) (has : as' = (.ref a :: argsL).toArray) (hd : decode c.code pc = .ok (.invokespecial i, 3)) (hW : (rest.map fun v => v.category).sum = W) (hf : rm.frames + 1 ≤ R.frames) (hlo : W + (maxL + 11) + rm.locals ≤ R.locals) (hcc : cells + rm.cells ≤ R.cells) (hss : slots + rm.slots ≤ R.slots) :
    ∃ v T' h' L, Stand p l e R s m args below meth c T' L (cells + rm.cells) (slots + rm.slots) ∧ T'.heap = h' ∧ Fr n0 L ∧ Q v h' ∧ ∀ target, Steps p.tables e below (T'.setTop (mkF m (pc + 3) Ls (v.toList ++ rest))) target → Steps p.tables e below (T.setTop (mkF m pc Ls (argsL.reverse ++ .ref a :: rest))) target := by
  obtain ⟨v, _, ⟨T', L', k', n'⟩, -, X', ⟨Lc, hQ, h1, h2, h3⟩, st⟩ := X.specialBackNest hx (y := y) hy1 hown (Jvm.Cond.methodLinkNest_wide hZ w1) (mvT hZ w2) (mvT hZ w4) hy (backOf (W := W) (hK []) hZ w4 w3 hf hlo) (g := mkF m pc Ls (argsL.reverse ++ .ref a :: rest)) rfl hml.symm (Steps.refl _) (a := a) (argsL := argsL) (rest := rest) (lenOf pd hlen) rfl (by show 2 * 0 + _ ≤ _; omega) hd (fun _ _ => ⟨has.symm, eT, hcc, hss⟩)
  dsimp only [Pt.U, Pt.locs, Pt.cells, Pt.slots] at X' h1 h2 h3 st hQ
  subst h1 h2 h3
  exact ⟨v, T', _, _, X', rfl, N.app hQ.2, hQ.1, fun t k => st.trans k⟩
theorem h_private (X : Stand p l e R s m args below meth c T locs cells slots) (hx : p.tables.exec = Jvm.exec) {Ls : Array Slot} {W : Nat} {a : Addr} {cls : String} {kk : Nat} {argsL rest : List Value} (hZ : Z.Warmed39 s.vm) (eT : T.heap = h) (N : Fr n0 locs) (hml : c.maxLocals = Ls.size) (hown : s.vm.findClass own = some m.cls) (hK : Ctr l Z y bytes maxL ret rm as' h n0 Q) (E : Exa Z h a cls) (w1 : (Jvm.Cond.methodLink own i y).before a0 Z = true) (w2 : (Jvm.Cond.instanceMethod y).before a0 Z = true) (wp : (Jvm.Cond.privateMethod y).before a0 Z = true) (wi : (Jvm.Cond.instantiable y.cls kk).before a0 Z = true) (w3 : (Jvm.Cond.initialized y.cls).before a0 Z = true) (w4 : (Jvm.Cond.code y bytes maxL ret).before a0 Z = true) (hy : y.cls ≠ "java/lang/invoke/MethodHandle" ∧ y.cls ≠ "java/lang/invoke/VarHandle") (pd : parseMethodDescriptor y.desc = some ⟨ps, rt⟩) (hlen : argsL.length = ps.length) (has : as' = (.ref a :: argsL).toArray) (hd : decode c.code pc = .ok (.invokevirtual i, 3)) (hW : (rest.map fun v => v.category).sum = W) (hf : rm.frames + 1 ≤ R.frames) (hlo : W + (maxL + 11) + rm.locals ≤ R.locals) (hcc : cells + rm.cells ≤ R.cells) (hss : slots + rm.slots ≤ R.slots) :
    ∃ v T' h' L, Stand p l e R s m args below meth c T' L (cells + rm.cells) (slots + rm.slots) ∧ T'.heap = h' ∧ Fr n0 L ∧ Q v h' ∧ ∀ target, Steps p.tables e below (T'.setTop (mkF m (pc + 3) Ls (v.toList ++ rest))) target → Steps p.tables e below (T.setTop (mkF m pc Ls (argsL.reverse ++ .ref a :: rest))) target := by
  obtain ⟨cq, q1, q2⟩ := E.cell
  obtain ⟨c2, k2, i1, i2, i3, i4, -⟩ := Jvm.Cond.instantiable_spec (mvT (args := args) (d := .instantiable y.cls kk) hZ wi)
  have hpv := Jvm.Cond.privateMethod_at (mvP hZ wp (args := args))
  have hsel := selects_self_of_private (args := args) i1 i2 (by revert i4; cases k2.isInterface <;> simp) hpv (mvT hZ w2) hy
  obtain ⟨v, _, ⟨T', L', k', n'⟩, -, X', ⟨Lc, hQ, h1, h2, h3⟩, st⟩ := X.privateBack hx (y := y) hown (mvT hZ w1) (mvT hZ w2) hsel hpv (mvT hZ w4) hy (backOf (W := W) (hK []) hZ w4 w3 hf hlo) (g := mkF m pc Ls (argsL.reverse ++ .ref a :: rest)) rfl hml.symm (Steps.refl _) (a := a) (by rw [eT]; exact q1) q2 (argsL := argsL) (rest := rest) (lenOf pd hlen) rfl (by show 2 * 0 + _ ≤ _; omega) hd (fun _ _ => ⟨has.symm, eT, hcc, hss⟩)
  dsimp only [Pt.U, Pt.locs, Pt.cells, Pt.slots] at X' h1 h2 h3 st hQ
  subst h1 h2 h3
  exact ⟨v, T', _, _, X', rfl, N.app hQ.2, hQ.1, fun t k => st.trans k⟩
end Calls
/-! an enum's constant, where the law begins -/
theorem enum_at {C f d : String} {a0 : Array Value} {k : Int32} {s : State} (h1 : (Jvm.Cond.exactly (.static C f d) C).value a0 s none s [] = some true) (h2 : (Jvm.Cond.eq (.field (.static C f d) "java/lang/Enum" "ordinal" "I") (.int k)).value a0 s none s [] = some true)
    (wi : (Jvm.Cond.initialized C).before a0 s = true) (wl : (Jvm.Cond.laysStatic C f d).before a0 s = true) : ∃ a, Sta s s.heap C f d (.ref a) ∧ Exa s s.heap a C ∧ s.fieldOf? a "java/lang/Enum" "ordinal" "I" = some (.int k) := by
  obtain ⟨a, ev⟩ := exa_v h1
  refine ⟨a, Sta.start ev (Or.inr ⟨wi, wl⟩), Exa.start ev h1, ?_⟩
  obtain ⟨x, y, e1, e2, k1, k2⟩ := cmp_v (Or.inl h2)
  have ey : y = .int k := (Option.some.inj ((Term.int_eval k).symm.trans e2)).symm
  subst ey
  obtain ⟨z, rfl⟩ := k2
  have q : (Jvm.Cond.eq (.field (.static C f d) "java/lang/Enum" "ordinal" "I") (.int k)).value a0 s none s [] = some (decide (z = k)) := by simp [Jvm.Cond.value, e1, e2]
  have r := gotT q h2
  subst r
  rw [← fld_at (C := "java/lang/Enum") (n := "ordinal") (dd := "I") ev]
  exact e1
theorem enum_ne {s : State} {a b : Addr} {k k' : Int32} (h1 : s.fieldOf? a "java/lang/Enum" "ordinal" "I" = some (.int k)) (h2 : s.fieldOf? b "java/lang/Enum" "ordinal" "I" = some (.int k')) (q : k ≠ k') : a ≠ b := fun e => by
  subst e
  rw [h1] at h2
  exact q (Value.int.inj (Option.some.inj h2))
end Jvm.OwnKit
namespace Jvm.Pilot.@@N@@
open Jvm Jvm.ClassFile Sem Op Lib Jvm.Free Jvm.Stand Jvm.LawKit Jvm.RoadKit Jvm.OwnKit Bundle Jvm.Pilot.@@N@@.Jvm.D
def mixV (k : Int32) : Int32 := ((k * (1540483477 : Int32)) ^^^ (ushr (k * (1540483477 : Int32)) (24 : Int32))) * (1540483477 : Int32)
def fin1 (h : Int32) : Int32 := h ^^^ (ushr h (13 : Int32))
def fin2 (h : Int32) : Int32 := h ^^^ (ushr h (15 : Int32))
def wordV (x0 x1 x2 x3 : Int32) : Int32 := ((((x0 &&& (255 : Int32)) ||| (shl (x1 &&& (255 : Int32)) (8 : Int32))) ||| (shl (x2 &&& (255 : Int32)) (16 : Int32))) ||| (shl (x3 &&& (255 : Int32)) (24 : Int32)))
theorem d3_0 : decode method_3_code 0 = .ok (.ldc 21, 2) := by decide +kernel
theorem d3_2 : decode method_3_code 2 = .ok (.istore_n 1, 1) := by decide +kernel
theorem d3_3 : decode method_3_code 3 = .ok (.iload_n 0, 1) := by decide +kernel
theorem d3_4 : decode method_3_code 4 = .ok (.iload_n 1, 1) := by decide +kernel
theorem d3_5 : decode method_3_code 5 = .ok (.imul, 1) := by decide +kernel
theorem d3_6 : decode method_3_code 6 = .ok (.istore_n 2, 1) := by decide +kernel
theorem d3_7 : decode method_3_code 7 = .ok (.iload_n 2, 1) := by decide +kernel
theorem d3_8 : decode method_3_code 8 = .ok (.iload_n 2, 1) := by decide +kernel
theorem d3_9 : decode method_3_code 9 = .ok (.bipush 24, 2) := by decide +kernel
theorem d3_11 : decode method_3_code 11 = .ok (.iushr, 1) := by decide +kernel
theorem d3_12 : decode method_3_code 12 = .ok (.ixor, 1) := by decide +kernel
theorem d3_13 : decode method_3_code 13 = .ok (.istore_n 2, 1) := by decide +kernel
theorem d3_14 : decode method_3_code 14 = .ok (.iload_n 2, 1) := by decide +kernel
theorem d3_15 : decode method_3_code 15 = .ok (.iload_n 1, 1) := by decide +kernel
theorem d3_16 : decode method_3_code 16 = .ok (.imul, 1) := by decide +kernel
theorem d3_17 : decode method_3_code 17 = .ok (.istore_n 2, 1) := by decide +kernel
theorem d3_18 : decode method_3_code 18 = .ok (.iload_n 2, 1) := by decide +kernel
theorem d3_19 : decode method_3_code 19 = .ok (.ireturn, 1) := by decide +kernel
theorem pn_3 : plainName "com/example/stream_log_client/streamlogclient/producer/PartitionerMurmur2PinLaw" = true := by first | (simp [plainName, overriddenIn]; done) | decide +kernel
theorem ef_3 (x0 : Int32) (m : MethodId) : entryFrame m #[(.int x0)] 3 = mkF m 0 #[.val (.int x0), .unset, .unset] [] := by first | (simp [entryFrame, mkF, argsToLocals, Value.category]; done) | rfl
def Q3 (Z : State) (p1 : Int32) (h0 : Heap) (n0 : Nat) : Option Value → Heap → Prop := fun v h => v = some (.int (mixV p1)) ∧ h0 = h
set_option maxRecDepth 65536 in
set_option maxHeartbeats 40000000 in
theorem rm3 (l : Launch) (Z : State) (a0 : Array Value) (hw : ∀ d ∈ tables_1, d.before a0 Z = true) (p1 : Int32) (h0 : Heap) (n0 : Nat) (Z0 : n0 ≤ h0.size) : Ctr l Z (⟨"com/example/stream_log_client/streamlogclient/producer/PartitionerMurmur2PinLaw", "mixWord", "(I)I"⟩ : MethodName) method_3_code 3 (some .int) ({ frames := 0, cells := 0, slots := 0, locals := 0 } : Room) #[(.int p1)] h0 n0 (Q3 Z p1 h0 n0) := by
  refine Ctr.of (plainFor_of_name pn_3) (ef_3 p1) ?_
  intro p e s m below meth c T0 hx hby hml hown hnm hret hlk hZ X0 e0
  have N0 := Fr.nil n0
  refine g_ldc X0 hx hZ hown (hw _ (List.mem_of_getElem? (i := 13) rfl)) (hb hby d3_0) (pc' := 2) rfl ?_
  refine g_istoreN X0 hx (hb hby d3_2) (pc' := 3) rfl (Ls' := #[.val (.int p1), .val (.int (1540483477 : Int32)), .unset]) rfl ?_
  refine g_iloadN X0 hx (hb hby d3_3) (pc' := 4) rfl rfl ?_
  refine g_iloadN X0 hx (hb hby d3_4) (pc' := 5) rfl rfl ?_
  refine g_imul X0 hx (hb hby d3_5) (pc' := 6) rfl ?_
  refine g_istoreN X0 hx (hb hby d3_6) (pc' := 7) rfl (Ls' := #[.val (.int p1), .val (.int (1540483477 : Int32)), .val (.int (p1 * (1540483477 : Int32)))]) rfl ?_
  refine g_iloadN X0 hx (hb hby d3_7) (pc' := 8) rfl rfl ?_
  refine g_iloadN X0 hx (hb hby d3_8) (pc' := 9) rfl rfl ?_
  refine g_bipush X0 hx (hb hby d3_9) (pc' := 11) rfl (z := (24 : Int32)) rfl ?_
  refine g_iushr X0 hx (hb hby d3_11) (pc' := 12) rfl ?_
  refine g_ixor X0 hx (hb hby d3_12) (pc' := 13) rfl ?_
  refine g_istoreN X0 hx (hb hby d3_13) (pc' := 14) rfl (Ls' := #[.val (.int p1), .val (.int (1540483477 : Int32)), .val (.int ((p1 * (1540483477 : Int32)) ^^^ (ushr (p1 * (1540483477 : Int32)) (24 : Int32))))]) rfl ?_
  refine g_iloadN X0 hx (hb hby d3_14) (pc' := 15) rfl rfl ?_
  refine g_iloadN X0 hx (hb hby d3_15) (pc' := 16) rfl rfl ?_
  refine g_imul X0 hx (hb hby d3_16) (pc' := 17) rfl ?_
  refine g_istoreN X0 hx (hb hby d3_17) (pc' := 18) rfl (Ls' := #[.val (.int p1), .val (.int (1540483477 : Int32)), .val (.int (((p1 * (1540483477 : Int32)) ^^^ (ushr (p1 * (1540483477 : Int32)) (24 : Int32))) * (1540483477 : Int32)))]) rfl ?_
  refine g_iloadN X0 hx (hb hby d3_18) (pc' := 19) rfl rfl ?_
  exact g_ireturn X0 hx hret (hb hby d3_19) N0 hlk (fun v t => endF (by decide) (by decide) v) (by rw [e0]; exact ⟨rfl, rfl⟩)
theorem d1_0 : decode prog_67_method_3_code 0 = .ok (.aload_n 0, 1) := by decide +kernel
theorem d1_1 : decode prog_67_method_3_code 1 = .ok (.arraylength, 1) := by decide +kernel
theorem d1_2 : decode prog_67_method_3_code 2 = .ok (.istore_n 1, 1) := by decide +kernel
theorem d1_3 : decode prog_67_method_3_code 3 = .ok (.ldc 31, 2) := by decide +kernel
theorem d1_5 : decode prog_67_method_3_code 5 = .ok (.iload_n 1, 1) := by decide +kernel
theorem d1_6 : decode prog_67_method_3_code 6 = .ok (.ixor, 1) := by decide +kernel
theorem d1_7 : decode prog_67_method_3_code 7 = .ok (.istore_n 2, 1) := by decide +kernel
theorem d1_8 : decode prog_67_method_3_code 8 = .ok (.iload_n 1, 1) := by decide +kernel
theorem d1_9 : decode prog_67_method_3_code 9 = .ok (.iload_n 1, 1) := by decide +kernel
theorem d1_10 : decode prog_67_method_3_code 10 = .ok (.iconst 4, 1) := by decide +kernel
theorem d1_11 : decode prog_67_method_3_code 11 = .ok (.irem, 1) := by decide +kernel
theorem d1_12 : decode prog_67_method_3_code 12 = .ok (.isub, 1) := by decide +kernel
theorem d1_13 : decode prog_67_method_3_code 13 = .ok (.istore_n 3, 1) := by decide +kernel
theorem d1_14 : decode prog_67_method_3_code 14 = .ok (.iconst 0, 1) := by decide +kernel
theorem d1_15 : decode prog_67_method_3_code 15 = .ok (.istore 4, 2) := by decide +kernel
theorem d1_17 : decode prog_67_method_3_code 17 = .ok (.iload 4, 2) := by decide +kernel
theorem d1_19 : decode prog_67_method_3_code 19 = .ok (.iload_n 3, 1) := by decide +kernel
theorem d1_20 : decode prog_67_method_3_code 20 = .ok (.if_icmp .ge 95, 3) := by decide +kernel
theorem d1_115 : decode prog_67_method_3_code 115 = .ok (.iload_n 3, 1) := by decide +kernel
theorem d1_116 : decode prog_67_method_3_code 116 = .ok (.istore 4, 2) := by decide +kernel
theorem d1_118 : decode prog_67_method_3_code 118 = .ok (.iload 4, 2) := by decide +kernel
theorem d1_120 : decode prog_67_method_3_code 120 = .ok (.iload_n 1, 1) := by decide +kernel
theorem d1_121 : decode prog_67_method_3_code 121 = .ok (.if_icmp .ge 28, 3) := by decide +kernel
theorem d1_149 : decode prog_67_method_3_code 149 = .ok (.iload_n 3, 1) := by decide +kernel
theorem d1_150 : decode prog_67_method_3_code 150 = .ok (.iload_n 1, 1) := by decide +kernel
theorem d1_151 : decode prog_67_method_3_code 151 = .ok (.if_icmp .ge 8, 3) := by decide +kernel
theorem d1_159 : decode prog_67_method_3_code 159 = .ok (.iload_n 2, 1) := by decide +kernel
theorem d1_160 : decode prog_67_method_3_code 160 = .ok (.iload_n 2, 1) := by decide +kernel
theorem d1_161 : decode prog_67_method_3_code 161 = .ok (.bipush 13, 2) := by decide +kernel
theorem d1_163 : decode prog_67_method_3_code 163 = .ok (.iushr, 1) := by decide +kernel
theorem d1_164 : decode prog_67_method_3_code 164 = .ok (.ixor, 1) := by decide +kernel
theorem d1_165 : decode prog_67_method_3_code 165 = .ok (.istore_n 2, 1) := by decide +kernel
theorem d1_166 : decode prog_67_method_3_code 166 = .ok (.iload_n 2, 1) := by decide +kernel
theorem d1_167 : decode prog_67_method_3_code 167 = .ok (.ldc 32, 2) := by decide +kernel
theorem d1_169 : decode prog_67_method_3_code 169 = .ok (.imul, 1) := by decide +kernel
theorem d1_170 : decode prog_67_method_3_code 170 = .ok (.istore_n 2, 1) := by decide +kernel
theorem d1_171 : decode prog_67_method_3_code 171 = .ok (.iload_n 2, 1) := by decide +kernel
theorem d1_172 : decode prog_67_method_3_code 172 = .ok (.iload_n 2, 1) := by decide +kernel
theorem d1_173 : decode prog_67_method_3_code 173 = .ok (.bipush 15, 2) := by decide +kernel
theorem d1_175 : decode prog_67_method_3_code 175 = .ok (.iushr, 1) := by decide +kernel
theorem d1_176 : decode prog_67_method_3_code 176 = .ok (.ixor, 1) := by decide +kernel
theorem d1_177 : decode prog_67_method_3_code 177 = .ok (.istore_n 2, 1) := by decide +kernel
theorem d1_178 : decode prog_67_method_3_code 178 = .ok (.iload_n 2, 1) := by decide +kernel
theorem d1_179 : decode prog_67_method_3_code 179 = .ok (.ireturn, 1) := by decide +kernel
theorem pn_1 : plainName "com/example/stream_log_client/streamlogclient/producer/Partitioner" = true := by first | (simp [plainName, overriddenIn]; done) | decide +kernel
theorem ef_1_0 (x0 : Addr) (m : MethodId) : entryFrame m #[(.ref x0)] 6 = mkF m 0 #[.val (.ref x0), .unset, .unset, .unset, .unset, .unset] [] := by first | (simp [entryFrame, mkF, argsToLocals, Value.category]; done) | rfl
def Q1_0 (Z : State) (a : Addr) (h0 : Heap) (n0 : Nat) : Option Value → Heap → Prop := fun v h => v = some (.int (fin2 ((fin1 (-1756908916 : Int32)) * (1540483477 : Int32)))) ∧ h0 = h
set_option maxRecDepth 65536 in
set_option maxHeartbeats 40000000 in
theorem rm1_0 (l : Launch) (Z : State) (a0 : Array Value) (hw : ∀ d ∈ tables_1, d.before a0 Z = true) (a : Addr) (h0 : Heap) (n0 : Nat) (Z0 : n0 ≤ h0.size) (V1 : Va Z h0 a .byte []) : Ctr l Z (⟨"com/example/stream_log_client/streamlogclient/producer/Partitioner", "murmur2", "([B)I"⟩ : MethodName) prog_67_method_3_code 6 (some .int) ({ frames := 0, cells := 0, slots := 0, locals := 0 } : Room) #[(.ref a)] h0 n0 (Q1_0 Z a h0 n0) := by
  refine Ctr.of (plainFor_of_name pn_1) (ef_1_0 a) ?_
  intro p e s m below meth c T0 hx hby hml hown hnm hret hlk hZ X0 e0
  have N0 := Fr.nil n0
  refine g_aloadN X0 hx (hb hby d1_0) (pc' := 1) rfl rfl rfl ?_
  refine g_arraylength X0 hx hZ e0 V1 (z := (0 : Int32)) (hb hby d1_1) (pc' := 2) rfl rfl ?_
  refine g_istoreN X0 hx (hb hby d1_2) (pc' := 3) rfl (Ls' := #[.val (.ref a), .val (.int (0 : Int32)), .unset, .unset, .unset, .unset]) rfl ?_
  refine g_ldc X0 hx hZ hown (hw _ (List.mem_of_getElem? (i := 6) rfl)) (hb hby d1_3) (pc' := 5) rfl ?_
  refine g_iloadN X0 hx (hb hby d1_5) (pc' := 6) rfl rfl ?_
  refine g_ixor X0 hx (hb hby d1_6) (pc' := 7) rfl ?_
  refine Go.cast (show (mkF m 7 #[.val (.ref a), .val (.int (0 : Int32)), .unset, .unset, .unset, .unset] [(.int ((-1756908916 : Int32) ^^^ (0 : Int32)))]) = (mkF m 7 #[.val (.ref a), .val (.int (0 : Int32)), .unset, .unset, .unset, .unset] [(.int (-1756908916 : Int32))]) from by rw [show ((-1756908916 : Int32) ^^^ (0 : Int32)) = (-1756908916 : Int32) from (by decide)]) ?_
  refine g_istoreN X0 hx (hb hby d1_7) (pc' := 8) rfl (Ls' := #[.val (.ref a), .val (.int (0 : Int32)), .val (.int (-1756908916 : Int32)), .unset, .unset, .unset]) rfl ?_
  refine g_iloadN X0 hx (hb hby d1_8) (pc' := 9) rfl rfl ?_
  refine g_iloadN X0 hx (hb hby d1_9) (pc' := 10) rfl rfl ?_
  refine g_iconst X0 hx (hb hby d1_10) (pc' := 11) rfl (z := (4 : Int32)) rfl ?_
  refine g_irem X0 hx (hb hby d1_11) (pc' := 12) rfl (by decide) ?_
  refine Go.cast (show (mkF m 12 #[.val (.ref a), .val (.int (0 : Int32)), .val (.int (-1756908916 : Int32)), .unset, .unset, .unset] [(.int ((0 : Int32) % (4 : Int32))), (.int (0 : Int32))]) = (mkF m 12 #[.val (.ref a), .val (.int (0 : Int32)), .val (.int (-1756908916 : Int32)), .unset, .unset, .unset] [(.int (0 : Int32)), (.int (0 : Int32))]) from by rw [show ((0 : Int32) % (4 : Int32)) = (0 : Int32) from (by decide)]) ?_
  refine g_isub X0 hx (hb hby d1_12) (pc' := 13) rfl ?_
  refine Go.cast (show (mkF m 13 #[.val (.ref a), .val (.int (0 : Int32)), .val (.int (-1756908916 : Int32)), .unset, .unset, .unset] [(.int ((0 : Int32) - (0 : Int32)))]) = (mkF m 13 #[.val (.ref a), .val (.int (0 : Int32)), .val (.int (-1756908916 : Int32)), .unset, .unset, .unset] [(.int (0 : Int32))]) from by rw [show ((0 : Int32) - (0 : Int32)) = (0 : Int32) from (by decide)]) ?_
  refine g_istoreN X0 hx (hb hby d1_13) (pc' := 14) rfl (Ls' := #[.val (.ref a), .val (.int (0 : Int32)), .val (.int (-1756908916 : Int32)), .val (.int (0 : Int32)), .unset, .unset]) rfl ?_
  refine g_iconst X0 hx (hb hby d1_14) (pc' := 15) rfl (z := (0 : Int32)) rfl ?_
  refine g_istore X0 hx (hb hby d1_15) (pc' := 17) rfl (Ls' := #[.val (.ref a), .val (.int (0 : Int32)), .val (.int (-1756908916 : Int32)), .val (.int (0 : Int32)), .val (.int (0 : Int32)), .unset]) rfl ?_
  refine g_iload X0 hx (hb hby d1_17) (pc' := 19) rfl rfl ?_
  refine g_iloadN X0 hx (hb hby d1_19) (pc' := 20) rfl rfl ?_
  refine g_icmp_ge X0 hx (hb hby d1_20) (pc1 := 23) rfl (by decide) (pc2 := 115) (by decide) (fun hc20 => ?_) (fun hc20 => absurd hc20 (by decide))
  refine g_iloadN X0 hx (hb hby d1_115) (pc' := 116) rfl rfl ?_
  refine g_istore X0 hx (hb hby d1_116) (pc' := 118) rfl (Ls' := #[.val (.ref a), .val (.int (0 : Int32)), .val (.int (-1756908916 : Int32)), .val (.int (0 : Int32)), .val (.int (0 : Int32)), .unset]) rfl ?_
  refine g_iload X0 hx (hb hby d1_118) (pc' := 120) rfl rfl ?_
  refine g_iloadN X0 hx (hb hby d1_120) (pc' := 121) rfl rfl ?_
  refine g_icmp_ge X0 hx (hb hby d1_121) (pc1 := 124) rfl (by decide) (pc2 := 149) (by decide) (fun hc121 => ?_) (fun hc121 => absurd hc121 (by decide))
  refine g_iloadN X0 hx (hb hby d1_149) (pc' := 150) rfl rfl ?_
  refine g_iloadN X0 hx (hb hby d1_150) (pc' := 151) rfl rfl ?_
  refine g_icmp_ge X0 hx (hb hby d1_151) (pc1 := 154) rfl (by decide) (pc2 := 159) (by decide) (fun hc151 => ?_) (fun hc151 => absurd hc151 (by decide))
  refine g_iloadN X0 hx (hb hby d1_159) (pc' := 160) rfl rfl ?_
  refine g_iloadN X0 hx (hb hby d1_160) (pc' := 161) rfl rfl ?_
  refine g_bipush X0 hx (hb hby d1_161) (pc' := 163) rfl (z := (13 : Int32)) rfl ?_
  refine g_iushr X0 hx (hb hby d1_163) (pc' := 164) rfl ?_
  refine g_ixor X0 hx (hb hby d1_164) (pc' := 165) rfl ?_
  refine Go.cast (show (mkF m 165 #[.val (.ref a), .val (.int (0 : Int32)), .val (.int (-1756908916 : Int32)), .val (.int (0 : Int32)), .val (.int (0 : Int32)), .unset] [(.int ((-1756908916 : Int32) ^^^ (ushr (-1756908916 : Int32) (13 : Int32))))]) = (mkF m 165 #[.val (.ref a), .val (.int (0 : Int32)), .val (.int (-1756908916 : Int32)), .val (.int (0 : Int32)), .val (.int (0 : Int32)), .unset] [(.int (fin1 (-1756908916 : Int32)))]) from by rw [show ((-1756908916 : Int32) ^^^ (ushr (-1756908916 : Int32) (13 : Int32))) = (fin1 (-1756908916 : Int32)) from rfl]) ?_
  refine g_istoreN X0 hx (hb hby d1_165) (pc' := 166) rfl (Ls' := #[.val (.ref a), .val (.int (0 : Int32)), .val (.int (fin1 (-1756908916 : Int32))), .val (.int (0 : Int32)), .val (.int (0 : Int32)), .unset]) rfl ?_
  refine g_iloadN X0 hx (hb hby d1_166) (pc' := 167) rfl rfl ?_
  refine g_ldc X0 hx hZ hown (hw _ (List.mem_of_getElem? (i := 7) rfl)) (hb hby d1_167) (pc' := 169) rfl ?_
  refine g_imul X0 hx (hb hby d1_169) (pc' := 170) rfl ?_
  refine g_istoreN X0 hx (hb hby d1_170) (pc' := 171) rfl (Ls' := #[.val (.ref a), .val (.int (0 : Int32)), .val (.int ((fin1 (-1756908916 : Int32)) * (1540483477 : Int32))), .val (.int (0 : Int32)), .val (.int (0 : Int32)), .unset]) rfl ?_
  refine g_iloadN X0 hx (hb hby d1_171) (pc' := 172) rfl rfl ?_
  refine g_iloadN X0 hx (hb hby d1_172) (pc' := 173) rfl rfl ?_
  refine g_bipush X0 hx (hb hby d1_173) (pc' := 175) rfl (z := (15 : Int32)) rfl ?_
  refine g_iushr X0 hx (hb hby d1_175) (pc' := 176) rfl ?_
  refine g_ixor X0 hx (hb hby d1_176) (pc' := 177) rfl ?_
  refine Go.cast (show (mkF m 177 #[.val (.ref a), .val (.int (0 : Int32)), .val (.int ((fin1 (-1756908916 : Int32)) * (1540483477 : Int32))), .val (.int (0 : Int32)), .val (.int (0 : Int32)), .unset] [(.int (((fin1 (-1756908916 : Int32)) * (1540483477 : Int32)) ^^^ (ushr ((fin1 (-1756908916 : Int32)) * (1540483477 : Int32)) (15 : Int32))))]) = (mkF m 177 #[.val (.ref a), .val (.int (0 : Int32)), .val (.int ((fin1 (-1756908916 : Int32)) * (1540483477 : Int32))), .val (.int (0 : Int32)), .val (.int (0 : Int32)), .unset] [(.int (fin2 ((fin1 (-1756908916 : Int32)) * (1540483477 : Int32))))]) from by rw [show (((fin1 (-1756908916 : Int32)) * (1540483477 : Int32)) ^^^ (ushr ((fin1 (-1756908916 : Int32)) * (1540483477 : Int32)) (15 : Int32))) = (fin2 ((fin1 (-1756908916 : Int32)) * (1540483477 : Int32))) from rfl]) ?_
  refine g_istoreN X0 hx (hb hby d1_177) (pc' := 178) rfl (Ls' := #[.val (.ref a), .val (.int (0 : Int32)), .val (.int (fin2 ((fin1 (-1756908916 : Int32)) * (1540483477 : Int32)))), .val (.int (0 : Int32)), .val (.int (0 : Int32)), .unset]) rfl ?_
  refine g_iloadN X0 hx (hb hby d1_178) (pc' := 179) rfl rfl ?_
  exact g_ireturn X0 hx hret (hb hby d1_179) N0 hlk (fun v t => endF (by decide) (by decide) v) (by rw [e0]; exact ⟨rfl, rfl⟩)
theorem d2_0 : decode method_4_code 0 = .ok (.ldc 21, 2) := by decide +kernel
theorem d2_2 : decode method_4_code 2 = .ok (.istore_n 3, 1) := by decide +kernel
theorem d2_3 : decode method_4_code 3 = .ok (.ldc 22, 2) := by decide +kernel
theorem d2_5 : decode method_4_code 5 = .ok (.iload_n 2, 1) := by decide +kernel
theorem d2_6 : decode method_4_code 6 = .ok (.ixor, 1) := by decide +kernel
theorem d2_7 : decode method_4_code 7 = .ok (.istore 4, 2) := by decide +kernel
theorem d2_9 : decode method_4_code 9 = .ok (.iload_n 2, 1) := by decide +kernel
theorem d2_10 : decode method_4_code 10 = .ok (.iconst 4, 1) := by decide +kernel
theorem d2_11 : decode method_4_code 11 = .ok (.if_icmp .lt 14, 3) := by decide +kernel
theorem d2_25 : decode method_4_code 25 = .ok (.iload_n 2, 1) := by decide +kernel
theorem d2_26 : decode method_4_code 26 = .ok (.bipush 8, 2) := by decide +kernel
theorem d2_28 : decode method_4_code 28 = .ok (.if_icmp .ne 14, 3) := by decide +kernel
theorem d2_42 : decode method_4_code 42 = .ok (.iload_n 2, 1) := by decide +kernel
theorem d2_43 : decode method_4_code 43 = .ok (.iconst 3, 1) := by decide +kernel
theorem d2_44 : decode method_4_code 44 = .ok (.iand, 1) := by decide +kernel
theorem d2_45 : decode method_4_code 45 = .ok (.istore 5, 2) := by decide +kernel
theorem d2_47 : decode method_4_code 47 = .ok (.iload 5, 2) := by decide +kernel
theorem d2_49 : decode method_4_code 49 = .ok (.ifCond .eq 58, 3) := by decide +kernel
theorem d2_107 : decode method_4_code 107 = .ok (.iload 4, 2) := by decide +kernel
theorem d2_109 : decode method_4_code 109 = .ok (.iload 4, 2) := by decide +kernel
theorem d2_111 : decode method_4_code 111 = .ok (.bipush 13, 2) := by decide +kernel
theorem d2_113 : decode method_4_code 113 = .ok (.iushr, 1) := by decide +kernel
theorem d2_114 : decode method_4_code 114 = .ok (.ixor, 1) := by decide +kernel
theorem d2_115 : decode method_4_code 115 = .ok (.istore 4, 2) := by decide +kernel
theorem d2_117 : decode method_4_code 117 = .ok (.iload 4, 2) := by decide +kernel
theorem d2_119 : decode method_4_code 119 = .ok (.iload_n 3, 1) := by decide +kernel
theorem d2_120 : decode method_4_code 120 = .ok (.imul, 1) := by decide +kernel
theorem d2_121 : decode method_4_code 121 = .ok (.istore 4, 2) := by decide +kernel
theorem d2_123 : decode method_4_code 123 = .ok (.iload 4, 2) := by decide +kernel
theorem d2_125 : decode method_4_code 125 = .ok (.iload 4, 2) := by decide +kernel
theorem d2_127 : decode method_4_code 127 = .ok (.bipush 15, 2) := by decide +kernel
theorem d2_129 : decode method_4_code 129 = .ok (.iushr, 1) := by decide +kernel
theorem d2_130 : decode method_4_code 130 = .ok (.ixor, 1) := by decide +kernel
theorem d2_131 : decode method_4_code 131 = .ok (.istore 4, 2) := by decide +kernel
theorem d2_133 : decode method_4_code 133 = .ok (.iload 4, 2) := by decide +kernel
theorem d2_135 : decode method_4_code 135 = .ok (.ireturn, 1) := by decide +kernel
theorem ef_2_0 (x0 : Int32) (x1 : Int32) (x2 : Int32) (m : MethodId) : entryFrame m #[(.int x0), (.int x1), (.int x2)] 8 = mkF m 0 #[.val (.int x0), .val (.int x1), .val (.int x2), .unset, .unset, .unset, .unset, .unset] [] := by first | (simp [entryFrame, mkF, argsToLocals, Value.category]; done) | rfl
def Q2_0 (Z : State) (p0 : Int32) (p1 : Int32) (h0 : Heap) (n0 : Nat) : Option Value → Heap → Prop := fun v h => v = some (.int (fin2 ((fin1 (-1756908916 : Int32)) * (1540483477 : Int32)))) ∧ h0 = h
set_option maxRecDepth 65536 in
set_option maxHeartbeats 40000000 in
theorem rm2_0 (l : Launch) (Z : State) (a0 : Array Value) (hw : ∀ d ∈ tables_1, d.before a0 Z = true) (p0 : Int32) (p1 : Int32) (h0 : Heap) (n0 : Nat) (Z0 : n0 ≤ h0.size) : Ctr l Z (⟨"com/example/stream_log_client/streamlogclient/producer/PartitionerMurmur2PinLaw", "ref", "(III)I"⟩ : MethodName) method_4_code 8 (some .int) ({ frames := 0, cells := 0, slots := 0, locals := 0 } : Room) #[(.int p0), (.int p1), (.int (0 : Int32))] h0 n0 (Q2_0 Z p0 p1 h0 n0) := by
  refine Ctr.of (plainFor_of_name pn_3) (ef_2_0 p0 p1 (0 : Int32)) ?_
  intro p e s m below meth c T0 hx hby hml hown hnm hret hlk hZ X0 e0
  have N0 := Fr.nil n0
  refine g_ldc X0 hx hZ hown (hw _ (List.mem_of_getElem? (i := 13) rfl)) (hb hby d2_0) (pc' := 2) rfl ?_
  refine g_istoreN X0 hx (hb hby d2_2) (pc' := 3) rfl (Ls' := #[.val (.int p0), .val (.int p1), .val (.int (0 : Int32)), .val (.int (1540483477 : Int32)), .unset, .unset, .unset, .unset]) rfl ?_
  refine g_ldc X0 hx hZ hown (hw _ (List.mem_of_getElem? (i := 14) rfl)) (hb hby d2_3) (pc' := 5) rfl ?_
  refine g_iloadN X0 hx (hb hby d2_5) (pc' := 6) rfl rfl ?_
  refine g_ixor X0 hx (hb hby d2_6) (pc' := 7) rfl ?_
  refine Go.cast (show (mkF m 7 #[.val (.int p0), .val (.int p1), .val (.int (0 : Int32)), .val (.int (1540483477 : Int32)), .unset, .unset, .unset, .unset] [(.int ((-1756908916 : Int32) ^^^ (0 : Int32)))]) = (mkF m 7 #[.val (.int p0), .val (.int p1), .val (.int (0 : Int32)), .val (.int (1540483477 : Int32)), .unset, .unset, .unset, .unset] [(.int (-1756908916 : Int32))]) from by rw [show ((-1756908916 : Int32) ^^^ (0 : Int32)) = (-1756908916 : Int32) from (by decide)]) ?_
  refine g_istore X0 hx (hb hby d2_7) (pc' := 9) rfl (Ls' := #[.val (.int p0), .val (.int p1), .val (.int (0 : Int32)), .val (.int (1540483477 : Int32)), .val (.int (-1756908916 : Int32)), .unset, .unset, .unset]) rfl ?_
  refine g_iloadN X0 hx (hb hby d2_9) (pc' := 10) rfl rfl ?_
  refine g_iconst X0 hx (hb hby d2_10) (pc' := 11) rfl (z := (4 : Int32)) rfl ?_
  refine g_icmp_lt X0 hx (hb hby d2_11) (pc1 := 14) rfl (by decide) (pc2 := 25) (by decide) (fun hc11 => ?_) (fun hc11 => absurd hc11 (by decide))
  refine g_iloadN X0 hx (hb hby d2_25) (pc' := 26) rfl rfl ?_
  refine g_bipush X0 hx (hb hby d2_26) (pc' := 28) rfl (z := (8 : Int32)) rfl ?_
  refine g_icmp_ne X0 hx (hb hby d2_28) (pc1 := 31) rfl (by decide) (pc2 := 42) (by decide) (fun hc28 => ?_) (fun hc28 => absurd hc28 (by decide))
  refine g_iloadN X0 hx (hb hby d2_42) (pc' := 43) rfl rfl ?_
  refine g_iconst X0 hx (hb hby d2_43) (pc' := 44) rfl (z := (3 : Int32)) rfl ?_
  refine g_iand X0 hx (hb hby d2_44) (pc' := 45) rfl ?_
  refine Go.cast (show (mkF m 45 #[.val (.int p0), .val (.int p1), .val (.int (0 : Int32)), .val (.int (1540483477 : Int32)), .val (.int (-1756908916 : Int32)), .unset, .unset, .unset] [(.int ((0 : Int32) &&& (3 : Int32)))]) = (mkF m 45 #[.val (.int p0), .val (.int p1), .val (.int (0 : Int32)), .val (.int (1540483477 : Int32)), .val (.int (-1756908916 : Int32)), .unset, .unset, .unset] [(.int (0 : Int32))]) from by rw [show ((0 : Int32) &&& (3 : Int32)) = (0 : Int32) from (by decide)]) ?_
  refine g_istore X0 hx (hb hby d2_45) (pc' := 47) rfl (Ls' := #[.val (.int p0), .val (.int p1), .val (.int (0 : Int32)), .val (.int (1540483477 : Int32)), .val (.int (-1756908916 : Int32)), .val (.int (0 : Int32)), .unset, .unset]) rfl ?_
  refine g_iload X0 hx (hb hby d2_47) (pc' := 49) rfl rfl ?_
  refine g_if_eq X0 hx (hb hby d2_49) (pc1 := 52) rfl (by decide) (pc2 := 107) (by decide) (fun hc49 => ?_) (fun hc49 => absurd hc49 (by decide))
  refine g_iload X0 hx (hb hby d2_107) (pc' := 109) rfl rfl ?_
  refine g_iload X0 hx (hb hby d2_109) (pc' := 111) rfl rfl ?_
  refine g_bipush X0 hx (hb hby d2_111) (pc' := 113) rfl (z := (13 : Int32)) rfl ?_
  refine g_iushr X0 hx (hb hby d2_113) (pc' := 114) rfl ?_
  refine g_ixor X0 hx (hb hby d2_114) (pc' := 115) rfl ?_
  refine Go.cast (show (mkF m 115 #[.val (.int p0), .val (.int p1), .val (.int (0 : Int32)), .val (.int (1540483477 : Int32)), .val (.int (-1756908916 : Int32)), .val (.int (0 : Int32)), .unset, .unset] [(.int ((-1756908916 : Int32) ^^^ (ushr (-1756908916 : Int32) (13 : Int32))))]) = (mkF m 115 #[.val (.int p0), .val (.int p1), .val (.int (0 : Int32)), .val (.int (1540483477 : Int32)), .val (.int (-1756908916 : Int32)), .val (.int (0 : Int32)), .unset, .unset] [(.int (fin1 (-1756908916 : Int32)))]) from by rw [show ((-1756908916 : Int32) ^^^ (ushr (-1756908916 : Int32) (13 : Int32))) = (fin1 (-1756908916 : Int32)) from rfl]) ?_
  refine g_istore X0 hx (hb hby d2_115) (pc' := 117) rfl (Ls' := #[.val (.int p0), .val (.int p1), .val (.int (0 : Int32)), .val (.int (1540483477 : Int32)), .val (.int (fin1 (-1756908916 : Int32))), .val (.int (0 : Int32)), .unset, .unset]) rfl ?_
  refine g_iload X0 hx (hb hby d2_117) (pc' := 119) rfl rfl ?_
  refine g_iloadN X0 hx (hb hby d2_119) (pc' := 120) rfl rfl ?_
  refine g_imul X0 hx (hb hby d2_120) (pc' := 121) rfl ?_
  refine g_istore X0 hx (hb hby d2_121) (pc' := 123) rfl (Ls' := #[.val (.int p0), .val (.int p1), .val (.int (0 : Int32)), .val (.int (1540483477 : Int32)), .val (.int ((fin1 (-1756908916 : Int32)) * (1540483477 : Int32))), .val (.int (0 : Int32)), .unset, .unset]) rfl ?_
  refine g_iload X0 hx (hb hby d2_123) (pc' := 125) rfl rfl ?_
  refine g_iload X0 hx (hb hby d2_125) (pc' := 127) rfl rfl ?_
  refine g_bipush X0 hx (hb hby d2_127) (pc' := 129) rfl (z := (15 : Int32)) rfl ?_
  refine g_iushr X0 hx (hb hby d2_129) (pc' := 130) rfl ?_
  refine g_ixor X0 hx (hb hby d2_130) (pc' := 131) rfl ?_
  refine Go.cast (show (mkF m 131 #[.val (.int p0), .val (.int p1), .val (.int (0 : Int32)), .val (.int (1540483477 : Int32)), .val (.int ((fin1 (-1756908916 : Int32)) * (1540483477 : Int32))), .val (.int (0 : Int32)), .unset, .unset] [(.int (((fin1 (-1756908916 : Int32)) * (1540483477 : Int32)) ^^^ (ushr ((fin1 (-1756908916 : Int32)) * (1540483477 : Int32)) (15 : Int32))))]) = (mkF m 131 #[.val (.int p0), .val (.int p1), .val (.int (0 : Int32)), .val (.int (1540483477 : Int32)), .val (.int ((fin1 (-1756908916 : Int32)) * (1540483477 : Int32))), .val (.int (0 : Int32)), .unset, .unset] [(.int (fin2 ((fin1 (-1756908916 : Int32)) * (1540483477 : Int32))))]) from by rw [show (((fin1 (-1756908916 : Int32)) * (1540483477 : Int32)) ^^^ (ushr ((fin1 (-1756908916 : Int32)) * (1540483477 : Int32)) (15 : Int32))) = (fin2 ((fin1 (-1756908916 : Int32)) * (1540483477 : Int32))) from rfl]) ?_
  refine g_istore X0 hx (hb hby d2_131) (pc' := 133) rfl (Ls' := #[.val (.int p0), .val (.int p1), .val (.int (0 : Int32)), .val (.int (1540483477 : Int32)), .val (.int (fin2 ((fin1 (-1756908916 : Int32)) * (1540483477 : Int32)))), .val (.int (0 : Int32)), .unset, .unset]) rfl ?_
  refine g_iload X0 hx (hb hby d2_133) (pc' := 135) rfl rfl ?_
  exact g_ireturn X0 hx hret (hb hby d2_135) N0 hlk (fun v t => endF (by decide) (by decide) v) (by rw [e0]; exact ⟨rfl, rfl⟩)
theorem d1_124 : decode prog_67_method_3_code 124 = .ok (.iload_n 2, 1) := by decide +kernel
theorem d1_125 : decode prog_67_method_3_code 125 = .ok (.aload_n 0, 1) := by decide +kernel
theorem d1_126 : decode prog_67_method_3_code 126 = .ok (.iload 4, 2) := by decide +kernel
theorem d1_128 : decode prog_67_method_3_code 128 = .ok (.baload, 1) := by decide +kernel
theorem d1_129 : decode prog_67_method_3_code 129 = .ok (.sipush 255, 3) := by decide +kernel
theorem d1_132 : decode prog_67_method_3_code 132 = .ok (.iand, 1) := by decide +kernel
theorem d1_133 : decode prog_67_method_3_code 133 = .ok (.bipush 8, 2) := by decide +kernel
theorem d1_135 : decode prog_67_method_3_code 135 = .ok (.iload 4, 2) := by decide +kernel
theorem d1_137 : decode prog_67_method_3_code 137 = .ok (.iload_n 3, 1) := by decide +kernel
theorem d1_138 : decode prog_67_method_3_code 138 = .ok (.isub, 1) := by decide +kernel
theorem d1_139 : decode prog_67_method_3_code 139 = .ok (.imul, 1) := by decide +kernel
theorem d1_140 : decode prog_67_method_3_code 140 = .ok (.ishl, 1) := by decide +kernel
theorem d1_141 : decode prog_67_method_3_code 141 = .ok (.ixor, 1) := by decide +kernel
theorem d1_142 : decode prog_67_method_3_code 142 = .ok (.istore_n 2, 1) := by decide +kernel
theorem d1_143 : decode prog_67_method_3_code 143 = .ok (.iinc 4 1, 3) := by decide +kernel
theorem d1_146 : decode prog_67_method_3_code 146 = .ok (.goto (-28), 3) := by decide +kernel
theorem d1_154 : decode prog_67_method_3_code 154 = .ok (.iload_n 2, 1) := by decide +kernel
theorem d1_155 : decode prog_67_method_3_code 155 = .ok (.ldc 32, 2) := by decide +kernel
theorem d1_157 : decode prog_67_method_3_code 157 = .ok (.imul, 1) := by decide +kernel
theorem d1_158 : decode prog_67_method_3_code 158 = .ok (.istore_n 2, 1) := by decide +kernel
theorem ef_1_1 (x0 : Addr) (m : MethodId) : entryFrame m #[(.ref x0)] 6 = mkF m 0 #[.val (.ref x0), .unset, .unset, .unset, .unset, .unset] [] := by first | (simp [entryFrame, mkF, argsToLocals, Value.category]; done) | rfl
def Q1_1 (Z : State) (a : Addr) (x0 : Int32) (h0 : Heap) (n0 : Nat) : Option Value → Heap → Prop := fun v h => v = some (.int (fin2 ((fin1 (((-1756908915 : Int32) ^^^ (shl (x0 &&& (255 : Int32)) (0 : Int32))) * (1540483477 : Int32))) * (1540483477 : Int32)))) ∧ h0 = h
set_option maxRecDepth 65536 in
set_option maxHeartbeats 40000000 in
theorem rm1_1 (l : Launch) (Z : State) (a0 : Array Value) (hw : ∀ d ∈ tables_1, d.before a0 Z = true) (a : Addr) (x0 : Int32) (h0 : Heap) (n0 : Nat) (Z0 : n0 ≤ h0.size) (V1 : Va Z h0 a .byte [(.int x0)]) : Ctr l Z (⟨"com/example/stream_log_client/streamlogclient/producer/Partitioner", "murmur2", "([B)I"⟩ : MethodName) prog_67_method_3_code 6 (some .int) ({ frames := 0, cells := 0, slots := 0, locals := 0 } : Room) #[(.ref a)] h0 n0 (Q1_1 Z a x0 h0 n0) := by
  refine Ctr.of (plainFor_of_name pn_1) (ef_1_1 a) ?_
  intro p e s m below meth c T0 hx hby hml hown hnm hret hlk hZ X0 e0
  have N0 := Fr.nil n0
  refine g_aloadN X0 hx (hb hby d1_0) (pc' := 1) rfl rfl rfl ?_
  refine g_arraylength X0 hx hZ e0 V1 (z := (1 : Int32)) (hb hby d1_1) (pc' := 2) rfl rfl ?_
  refine g_istoreN X0 hx (hb hby d1_2) (pc' := 3) rfl (Ls' := #[.val (.ref a), .val (.int (1 : Int32)), .unset, .unset, .unset, .unset]) rfl ?_
  refine g_ldc X0 hx hZ hown (hw _ (List.mem_of_getElem? (i := 6) rfl)) (hb hby d1_3) (pc' := 5) rfl ?_
  refine g_iloadN X0 hx (hb hby d1_5) (pc' := 6) rfl rfl ?_
  refine g_ixor X0 hx (hb hby d1_6) (pc' := 7) rfl ?_
  refine Go.cast (show (mkF m 7 #[.val (.ref a), .val (.int (1 : Int32)), .unset, .unset, .unset, .unset] [(.int ((-1756908916 : Int32) ^^^ (1 : Int32)))]) = (mkF m 7 #[.val (.ref a), .val (.int (1 : Int32)), .unset, .unset, .unset, .unset] [(.int (-1756908915 : Int32))]) from by rw [show ((-1756908916 : Int32) ^^^ (1 : Int32)) = (-1756908915 : Int32) from (by decide)]) ?_
  refine g_istoreN X0 hx (hb hby d1_7) (pc' := 8) rfl (Ls' := #[.val (.ref a), .val (.int (1 : Int32)), .val (.int (-1756908915 : Int32)), .unset, .unset, .unset]) rfl ?_
  refine g_iloadN X0 hx (hb hby d1_8) (pc' := 9) rfl rfl ?_
  refine g_iloadN X0 hx (hb hby d1_9) (pc' := 10) rfl rfl ?_
  refine g_iconst X0 hx (hb hby d1_10) (pc' := 11) rfl (z := (4 : Int32)) rfl ?_
  refine g_irem X0 hx (hb hby d1_11) (pc' := 12) rfl (by decide) ?_
  refine Go.cast (show (mkF m 12 #[.val (.ref a), .val (.int (1 : Int32)), .val (.int (-1756908915 : Int32)), .unset, .unset, .unset] [(.int ((1 : Int32) % (4 : Int32))), (.int (1 : Int32))]) = (mkF m 12 #[.val (.ref a), .val (.int (1 : Int32)), .val (.int (-1756908915 : Int32)), .unset, .unset, .unset] [(.int (1 : Int32)), (.int (1 : Int32))]) from by rw [show ((1 : Int32) % (4 : Int32)) = (1 : Int32) from (by decide)]) ?_
  refine g_isub X0 hx (hb hby d1_12) (pc' := 13) rfl ?_
  refine Go.cast (show (mkF m 13 #[.val (.ref a), .val (.int (1 : Int32)), .val (.int (-1756908915 : Int32)), .unset, .unset, .unset] [(.int ((1 : Int32) - (1 : Int32)))]) = (mkF m 13 #[.val (.ref a), .val (.int (1 : Int32)), .val (.int (-1756908915 : Int32)), .unset, .unset, .unset] [(.int (0 : Int32))]) from by rw [show ((1 : Int32) - (1 : Int32)) = (0 : Int32) from (by decide)]) ?_
  refine g_istoreN X0 hx (hb hby d1_13) (pc' := 14) rfl (Ls' := #[.val (.ref a), .val (.int (1 : Int32)), .val (.int (-1756908915 : Int32)), .val (.int (0 : Int32)), .unset, .unset]) rfl ?_
  refine g_iconst X0 hx (hb hby d1_14) (pc' := 15) rfl (z := (0 : Int32)) rfl ?_
  refine g_istore X0 hx (hb hby d1_15) (pc' := 17) rfl (Ls' := #[.val (.ref a), .val (.int (1 : Int32)), .val (.int (-1756908915 : Int32)), .val (.int (0 : Int32)), .val (.int (0 : Int32)), .unset]) rfl ?_
  refine g_iload X0 hx (hb hby d1_17) (pc' := 19) rfl rfl ?_
  refine g_iloadN X0 hx (hb hby d1_19) (pc' := 20) rfl rfl ?_
  refine g_icmp_ge X0 hx (hb hby d1_20) (pc1 := 23) rfl (by decide) (pc2 := 115) (by decide) (fun hc20 => ?_) (fun hc20 => absurd hc20 (by decide))
  refine g_iloadN X0 hx (hb hby d1_115) (pc' := 116) rfl rfl ?_
  refine g_istore X0 hx (hb hby d1_116) (pc' := 118) rfl (Ls' := #[.val (.ref a), .val (.int (1 : Int32)), .val (.int (-1756908915 : Int32)), .val (.int (0 : Int32)), .val (.int (0 : Int32)), .unset]) rfl ?_
  refine g_iload X0 hx (hb hby d1_118) (pc' := 120) rfl rfl ?_
  refine g_iloadN X0 hx (hb hby d1_120) (pc' := 121) rfl rfl ?_
  refine g_icmp_ge X0 hx (hb hby d1_121) (pc1 := 124) rfl (by decide) (pc2 := 149) (by decide) (fun hc121 => absurd (by decide) hc121) (fun hc121 => ?_)
  refine g_iloadN X0 hx (hb hby d1_124) (pc' := 125) rfl rfl ?_
  refine g_aloadN X0 hx (hb hby d1_125) (pc' := 126) rfl rfl rfl ?_
  refine g_iload X0 hx (hb hby d1_126) (pc' := 128) rfl rfl ?_
  refine g_baload X0 hx hZ e0 V1 (i := 0) (v := (.int x0)) (hb hby d1_128) (pc' := 129) rfl (by decide) rfl rfl ?_
  refine g_sipush X0 hx (hb hby d1_129) (pc' := 132) rfl (z := (255 : Int32)) rfl ?_
  refine g_iand X0 hx (hb hby d1_132) (pc' := 133) rfl ?_
  refine g_bipush X0 hx (hb hby d1_133) (pc' := 135) rfl (z := (8 : Int32)) rfl ?_
  refine g_iload X0 hx (hb hby d1_135) (pc' := 137) rfl rfl ?_
  refine g_iloadN X0 hx (hb hby d1_137) (pc' := 138) rfl rfl ?_
  refine g_isub X0 hx (hb hby d1_138) (pc' := 139) rfl ?_
  refine Go.cast (show (mkF m 139 #[.val (.ref a), .val (.int (1 : Int32)), .val (.int (-1756908915 : Int32)), .val (.int (0 : Int32)), .val (.int (0 : Int32)), .unset] [(.int ((0 : Int32) - (0 : Int32))), (.int (8 : Int32)), (.int (x0 &&& (255 : Int32))), (.int (-1756908915 : Int32))]) = (mkF m 139 #[.val (.ref a), .val (.int (1 : Int32)), .val (.int (-1756908915 : Int32)), .val (.int (0 : Int32)), .val (.int (0 : Int32)), .unset] [(.int (0 : Int32)), (.int (8 : Int32)), (.int (x0 &&& (255 : Int32))), (.int (-1756908915 : Int32))]) from by rw [show ((0 : Int32) - (0 : Int32)) = (0 : Int32) from (by decide)]) ?_
  refine g_imul X0 hx (hb hby d1_139) (pc' := 140) rfl ?_
  refine Go.cast (show (mkF m 140 #[.val (.ref a), .val (.int (1 : Int32)), .val (.int (-1756908915 : Int32)), .val (.int (0 : Int32)), .val (.int (0 : Int32)), .unset] [(.int ((8 : Int32) * (0 : Int32))), (.int (x0 &&& (255 : Int32))), (.int (-1756908915 : Int32))]) = (mkF m 140 #[.val (.ref a), .val (.int (1 : Int32)), .val (.int (-1756908915 : Int32)), .val (.int (0 : Int32)), .val (.int (0 : Int32)), .unset] [(.int (0 : Int32)), (.int (x0 &&& (255 : Int32))), (.int (-1756908915 : Int32))]) from by rw [show ((8 : Int32) * (0 : Int32)) = (0 : Int32) from (by decide)]) ?_
  refine g_ishl X0 hx (hb hby d1_140) (pc' := 141) rfl ?_
  refine g_ixor X0 hx (hb hby d1_141) (pc' := 142) rfl ?_
  refine g_istoreN X0 hx (hb hby d1_142) (pc' := 143) rfl (Ls' := #[.val (.ref a), .val (.int (1 : Int32)), .val (.int ((-1756908915 : Int32) ^^^ (shl (x0 &&& (255 : Int32)) (0 : Int32)))), .val (.int (0 : Int32)), .val (.int (0 : Int32)), .unset]) rfl ?_
  refine g_iinc X0 hx (hb hby d1_143) (pc' := 146) rfl rfl (z := (1 : Int32)) rfl (Ls' := #[.val (.ref a), .val (.int (1 : Int32)), .val (.int ((-1756908915 : Int32) ^^^ (shl (x0 &&& (255 : Int32)) (0 : Int32)))), .val (.int (0 : Int32)), .val (.int (1 : Int32)), .unset]) rfl ?_
  refine g_goto X0 hx (hb hby d1_146) (by decide) (pc' := 118) (by decide) ?_
  refine g_iload X0 hx (hb hby d1_118) (pc' := 120) rfl rfl ?_
  refine g_iloadN X0 hx (hb hby d1_120) (pc' := 121) rfl rfl ?_
  refine g_icmp_ge X0 hx (hb hby d1_121) (pc1 := 124) rfl (by decide) (pc2 := 149) (by decide) (fun hc121_1 => ?_) (fun hc121_1 => absurd hc121_1 (by decide))
  refine g_iloadN X0 hx (hb hby d1_149) (pc' := 150) rfl rfl ?_
  refine g_iloadN X0 hx (hb hby d1_150) (pc' := 151) rfl rfl ?_
  refine g_icmp_ge X0 hx (hb hby d1_151) (pc1 := 154) rfl (by decide) (pc2 := 159) (by decide) (fun hc151 => absurd (by decide) hc151) (fun hc151 => ?_)
  refine g_iloadN X0 hx (hb hby d1_154) (pc' := 155) rfl rfl ?_
  refine g_ldc X0 hx hZ hown (hw _ (List.mem_of_getElem? (i := 7) rfl)) (hb hby d1_155) (pc' := 157) rfl ?_
  refine g_imul X0 hx (hb hby d1_157) (pc' := 158) rfl ?_
  refine g_istoreN X0 hx (hb hby d1_158) (pc' := 159) rfl (Ls' := #[.val (.ref a), .val (.int (1 : Int32)), .val (.int (((-1756908915 : Int32) ^^^ (shl (x0 &&& (255 : Int32)) (0 : Int32))) * (1540483477 : Int32))), .val (.int (0 : Int32)), .val (.int (1 : Int32)), .unset]) rfl ?_
  refine g_iloadN X0 hx (hb hby d1_159) (pc' := 160) rfl rfl ?_
  refine g_iloadN X0 hx (hb hby d1_160) (pc' := 161) rfl rfl ?_
  refine g_bipush X0 hx (hb hby d1_161) (pc' := 163) rfl (z := (13 : Int32)) rfl ?_
  refine g_iushr X0 hx (hb hby d1_163) (pc' := 164) rfl ?_
  refine g_ixor X0 hx (hb hby d1_164) (pc' := 165) rfl ?_
  refine Go.cast (show (mkF m 165 #[.val (.ref a), .val (.int (1 : Int32)), .val (.int (((-1756908915 : Int32) ^^^ (shl (x0 &&& (255 : Int32)) (0 : Int32))) * (1540483477 : Int32))), .val (.int (0 : Int32)), .val (.int (1 : Int32)), .unset] [(.int ((((-1756908915 : Int32) ^^^ (shl (x0 &&& (255 : Int32)) (0 : Int32))) * (1540483477 : Int32)) ^^^ (ushr (((-1756908915 : Int32) ^^^ (shl (x0 &&& (255 : Int32)) (0 : Int32))) * (1540483477 : Int32)) (13 : Int32))))]) = (mkF m 165 #[.val (.ref a), .val (.int (1 : Int32)), .val (.int (((-1756908915 : Int32) ^^^ (shl (x0 &&& (255 : Int32)) (0 : Int32))) * (1540483477 : Int32))), .val (.int (0 : Int32)), .val (.int (1 : Int32)), .unset] [(.int (fin1 (((-1756908915 : Int32) ^^^ (shl (x0 &&& (255 : Int32)) (0 : Int32))) * (1540483477 : Int32))))]) from by rw [show ((((-1756908915 : Int32) ^^^ (shl (x0 &&& (255 : Int32)) (0 : Int32))) * (1540483477 : Int32)) ^^^ (ushr (((-1756908915 : Int32) ^^^ (shl (x0 &&& (255 : Int32)) (0 : Int32))) * (1540483477 : Int32)) (13 : Int32))) = (fin1 (((-1756908915 : Int32) ^^^ (shl (x0 &&& (255 : Int32)) (0 : Int32))) * (1540483477 : Int32))) from rfl]) ?_
  refine g_istoreN X0 hx (hb hby d1_165) (pc' := 166) rfl (Ls' := #[.val (.ref a), .val (.int (1 : Int32)), .val (.int (fin1 (((-1756908915 : Int32) ^^^ (shl (x0 &&& (255 : Int32)) (0 : Int32))) * (1540483477 : Int32)))), .val (.int (0 : Int32)), .val (.int (1 : Int32)), .unset]) rfl ?_
  refine g_iloadN X0 hx (hb hby d1_166) (pc' := 167) rfl rfl ?_
  refine g_ldc X0 hx hZ hown (hw _ (List.mem_of_getElem? (i := 7) rfl)) (hb hby d1_167) (pc' := 169) rfl ?_
  refine g_imul X0 hx (hb hby d1_169) (pc' := 170) rfl ?_
  refine g_istoreN X0 hx (hb hby d1_170) (pc' := 171) rfl (Ls' := #[.val (.ref a), .val (.int (1 : Int32)), .val (.int ((fin1 (((-1756908915 : Int32) ^^^ (shl (x0 &&& (255 : Int32)) (0 : Int32))) * (1540483477 : Int32))) * (1540483477 : Int32))), .val (.int (0 : Int32)), .val (.int (1 : Int32)), .unset]) rfl ?_
  refine g_iloadN X0 hx (hb hby d1_171) (pc' := 172) rfl rfl ?_
  refine g_iloadN X0 hx (hb hby d1_172) (pc' := 173) rfl rfl ?_
  refine g_bipush X0 hx (hb hby d1_173) (pc' := 175) rfl (z := (15 : Int32)) rfl ?_
  refine g_iushr X0 hx (hb hby d1_175) (pc' := 176) rfl ?_
  refine g_ixor X0 hx (hb hby d1_176) (pc' := 177) rfl ?_
  refine Go.cast (show (mkF m 177 #[.val (.ref a), .val (.int (1 : Int32)), .val (.int ((fin1 (((-1756908915 : Int32) ^^^ (shl (x0 &&& (255 : Int32)) (0 : Int32))) * (1540483477 : Int32))) * (1540483477 : Int32))), .val (.int (0 : Int32)), .val (.int (1 : Int32)), .unset] [(.int (((fin1 (((-1756908915 : Int32) ^^^ (shl (x0 &&& (255 : Int32)) (0 : Int32))) * (1540483477 : Int32))) * (1540483477 : Int32)) ^^^ (ushr ((fin1 (((-1756908915 : Int32) ^^^ (shl (x0 &&& (255 : Int32)) (0 : Int32))) * (1540483477 : Int32))) * (1540483477 : Int32)) (15 : Int32))))]) = (mkF m 177 #[.val (.ref a), .val (.int (1 : Int32)), .val (.int ((fin1 (((-1756908915 : Int32) ^^^ (shl (x0 &&& (255 : Int32)) (0 : Int32))) * (1540483477 : Int32))) * (1540483477 : Int32))), .val (.int (0 : Int32)), .val (.int (1 : Int32)), .unset] [(.int (fin2 ((fin1 (((-1756908915 : Int32) ^^^ (shl (x0 &&& (255 : Int32)) (0 : Int32))) * (1540483477 : Int32))) * (1540483477 : Int32))))]) from by rw [show (((fin1 (((-1756908915 : Int32) ^^^ (shl (x0 &&& (255 : Int32)) (0 : Int32))) * (1540483477 : Int32))) * (1540483477 : Int32)) ^^^ (ushr ((fin1 (((-1756908915 : Int32) ^^^ (shl (x0 &&& (255 : Int32)) (0 : Int32))) * (1540483477 : Int32))) * (1540483477 : Int32)) (15 : Int32))) = (fin2 ((fin1 (((-1756908915 : Int32) ^^^ (shl (x0 &&& (255 : Int32)) (0 : Int32))) * (1540483477 : Int32))) * (1540483477 : Int32))) from rfl]) ?_
  refine g_istoreN X0 hx (hb hby d1_177) (pc' := 178) rfl (Ls' := #[.val (.ref a), .val (.int (1 : Int32)), .val (.int (fin2 ((fin1 (((-1756908915 : Int32) ^^^ (shl (x0 &&& (255 : Int32)) (0 : Int32))) * (1540483477 : Int32))) * (1540483477 : Int32)))), .val (.int (0 : Int32)), .val (.int (1 : Int32)), .unset]) rfl ?_
  refine g_iloadN X0 hx (hb hby d1_178) (pc' := 179) rfl rfl ?_
  exact g_ireturn X0 hx hret (hb hby d1_179) N0 hlk (fun v t => endF (by decide) (by decide) v) (by rw [e0]; exact ⟨rfl, rfl⟩)
theorem d2_52 : decode method_4_code 52 = .ok (.iload_n 2, 1) := by decide +kernel
theorem d2_53 : decode method_4_code 53 = .ok (.iconst 4, 1) := by decide +kernel
theorem d2_54 : decode method_4_code 54 = .ok (.if_icmp .ge 7, 3) := by decide +kernel
theorem d2_57 : decode method_4_code 57 = .ok (.iload_n 0, 1) := by decide +kernel
theorem d2_58 : decode method_4_code 58 = .ok (.goto 4, 3) := by decide +kernel
theorem d2_62 : decode method_4_code 62 = .ok (.istore 6, 2) := by decide +kernel
theorem d2_64 : decode method_4_code 64 = .ok (.iload 5, 2) := by decide +kernel
theorem d2_66 : decode method_4_code 66 = .ok (.iconst 1, 1) := by decide +kernel
theorem d2_67 : decode method_4_code 67 = .ok (.if_icmp .ne 9, 3) := by decide +kernel
theorem d2_70 : decode method_4_code 70 = .ok (.sipush 255, 3) := by decide +kernel
theorem d2_73 : decode method_4_code 73 = .ok (.goto 16, 3) := by decide +kernel
theorem d2_89 : decode method_4_code 89 = .ok (.istore 7, 2) := by decide +kernel
theorem d2_91 : decode method_4_code 91 = .ok (.iload 4, 2) := by decide +kernel
theorem d2_93 : decode method_4_code 93 = .ok (.iload 6, 2) := by decide +kernel
theorem d2_95 : decode method_4_code 95 = .ok (.iload 7, 2) := by decide +kernel
theorem d2_97 : decode method_4_code 97 = .ok (.iand, 1) := by decide +kernel
theorem d2_98 : decode method_4_code 98 = .ok (.ixor, 1) := by decide +kernel
theorem d2_99 : decode method_4_code 99 = .ok (.istore 4, 2) := by decide +kernel
theorem d2_101 : decode method_4_code 101 = .ok (.iload 4, 2) := by decide +kernel
theorem d2_103 : decode method_4_code 103 = .ok (.iload_n 3, 1) := by decide +kernel
theorem d2_104 : decode method_4_code 104 = .ok (.imul, 1) := by decide +kernel
theorem d2_105 : decode method_4_code 105 = .ok (.istore 4, 2) := by decide +kernel
theorem ef_2_1 (x0 : Int32) (x1 : Int32) (x2 : Int32) (m : MethodId) : entryFrame m #[(.int x0), (.int x1), (.int x2)] 8 = mkF m 0 #[.val (.int x0), .val (.int x1), .val (.int x2), .unset, .unset, .unset, .unset, .unset] [] := by first | (simp [entryFrame, mkF, argsToLocals, Value.category]; done) | rfl
def Q2_1 (Z : State) (p0 : Int32) (p1 : Int32) (h0 : Heap) (n0 : Nat) : Option Value → Heap → Prop := fun v h => v = some (.int (fin2 ((fin1 (((-1756908915 : Int32) ^^^ (p0 &&& (255 : Int32))) * (1540483477 : Int32))) * (1540483477 : Int32)))) ∧ h0 = h
set_option maxRecDepth 65536 in
set_option maxHeartbeats 40000000 in
theorem rm2_1 (l : Launch) (Z : State) (a0 : Array Value) (hw : ∀ d ∈ tables_1, d.before a0 Z = true) (p0 : Int32) (p1 : Int32) (h0 : Heap) (n0 : Nat) (Z0 : n0 ≤ h0.size) : Ctr l Z (⟨"com/example/stream_log_client/streamlogclient/producer/PartitionerMurmur2PinLaw", "ref", "(III)I"⟩ : MethodName) method_4_code 8 (some .int) ({ frames := 0, cells := 0, slots := 0, locals := 0 } : Room) #[(.int p0), (.int p1), (.int (1 : Int32))] h0 n0 (Q2_1 Z p0 p1 h0 n0) := by
  refine Ctr.of (plainFor_of_name pn_3) (ef_2_1 p0 p1 (1 : Int32)) ?_
  intro p e s m below meth c T0 hx hby hml hown hnm hret hlk hZ X0 e0
  have N0 := Fr.nil n0
  refine g_ldc X0 hx hZ hown (hw _ (List.mem_of_getElem? (i := 13) rfl)) (hb hby d2_0) (pc' := 2) rfl ?_
  refine g_istoreN X0 hx (hb hby d2_2) (pc' := 3) rfl (Ls' := #[.val (.int p0), .val (.int p1), .val (.int (1 : Int32)), .val (.int (1540483477 : Int32)), .unset, .unset, .unset, .unset]) rfl ?_
  refine g_ldc X0 hx hZ hown (hw _ (List.mem_of_getElem? (i := 14) rfl)) (hb hby d2_3) (pc' := 5) rfl ?_
  refine g_iloadN X0 hx (hb hby d2_5) (pc' := 6) rfl rfl ?_
  refine g_ixor X0 hx (hb hby d2_6) (pc' := 7) rfl ?_
  refine Go.cast (show (mkF m 7 #[.val (.int p0), .val (.int p1), .val (.int (1 : Int32)), .val (.int (1540483477 : Int32)), .unset, .unset, .unset, .unset] [(.int ((-1756908916 : Int32) ^^^ (1 : Int32)))]) = (mkF m 7 #[.val (.int p0), .val (.int p1), .val (.int (1 : Int32)), .val (.int (1540483477 : Int32)), .unset, .unset, .unset, .unset] [(.int (-1756908915 : Int32))]) from by rw [show ((-1756908916 : Int32) ^^^ (1 : Int32)) = (-1756908915 : Int32) from (by decide)]) ?_
  refine g_istore X0 hx (hb hby d2_7) (pc' := 9) rfl (Ls' := #[.val (.int p0), .val (.int p1), .val (.int (1 : Int32)), .val (.int (1540483477 : Int32)), .val (.int (-1756908915 : Int32)), .unset, .unset, .unset]) rfl ?_
  refine g_iloadN X0 hx (hb hby d2_9) (pc' := 10) rfl rfl ?_
  refine g_iconst X0 hx (hb hby d2_10) (pc' := 11) rfl (z := (4 : Int32)) rfl ?_
  refine g_icmp_lt X0 hx (hb hby d2_11) (pc1 := 14) rfl (by decide) (pc2 := 25) (by decide) (fun hc11 => ?_) (fun hc11 => absurd hc11 (by decide))
  refine g_iloadN X0 hx (hb hby d2_25) (pc' := 26) rfl rfl ?_
  refine g_bipush X0 hx (hb hby d2_26) (pc' := 28) rfl (z := (8 : Int32)) rfl ?_
  refine g_icmp_ne X0 hx (hb hby d2_28) (pc1 := 31) rfl (by decide) (pc2 := 42) (by decide) (fun hc28 => ?_) (fun hc28 => absurd hc28 (by decide))
  refine g_iloadN X0 hx (hb hby d2_42) (pc' := 43) rfl rfl ?_
  refine g_iconst X0 hx (hb hby d2_43) (pc' := 44) rfl (z := (3 : Int32)) rfl ?_
  refine g_iand X0 hx (hb hby d2_44) (pc' := 45) rfl ?_
  refine Go.cast (show (mkF m 45 #[.val (.int p0), .val (.int p1), .val (.int (1 : Int32)), .val (.int (1540483477 : Int32)), .val (.int (-1756908915 : Int32)), .unset, .unset, .unset] [(.int ((1 : Int32) &&& (3 : Int32)))]) = (mkF m 45 #[.val (.int p0), .val (.int p1), .val (.int (1 : Int32)), .val (.int (1540483477 : Int32)), .val (.int (-1756908915 : Int32)), .unset, .unset, .unset] [(.int (1 : Int32))]) from by rw [show ((1 : Int32) &&& (3 : Int32)) = (1 : Int32) from (by decide)]) ?_
  refine g_istore X0 hx (hb hby d2_45) (pc' := 47) rfl (Ls' := #[.val (.int p0), .val (.int p1), .val (.int (1 : Int32)), .val (.int (1540483477 : Int32)), .val (.int (-1756908915 : Int32)), .val (.int (1 : Int32)), .unset, .unset]) rfl ?_
  refine g_iload X0 hx (hb hby d2_47) (pc' := 49) rfl rfl ?_
  refine g_if_eq X0 hx (hb hby d2_49) (pc1 := 52) rfl (by decide) (pc2 := 107) (by decide) (fun hc49 => absurd hc49 (by decide)) (fun hc49 => ?_)
  refine g_iloadN X0 hx (hb hby d2_52) (pc' := 53) rfl rfl ?_
  refine g_iconst X0 hx (hb hby d2_53) (pc' := 54) rfl (z := (4 : Int32)) rfl ?_
  refine g_icmp_ge X0 hx (hb hby d2_54) (pc1 := 57) rfl (by decide) (pc2 := 61) (by decide) (fun hc54 => absurd (by decide) hc54) (fun hc54 => ?_)
  refine g_iloadN X0 hx (hb hby d2_57) (pc' := 58) rfl rfl ?_
  refine g_goto X0 hx (hb hby d2_58) (by decide) (pc' := 62) (by decide) ?_
  refine g_istore X0 hx (hb hby d2_62) (pc' := 64) rfl (Ls' := #[.val (.int p0), .val (.int p1), .val (.int (1 : Int32)), .val (.int (1540483477 : Int32)), .val (.int (-1756908915 : Int32)), .val (.int (1 : Int32)), .val (.int p0), .unset]) rfl ?_
  refine g_iload X0 hx (hb hby d2_64) (pc' := 66) rfl rfl ?_
  refine g_iconst X0 hx (hb hby d2_66) (pc' := 67) rfl (z := (1 : Int32)) rfl ?_
  refine g_icmp_ne X0 hx (hb hby d2_67) (pc1 := 70) rfl (by decide) (pc2 := 76) (by decide) (fun hc67 => absurd (by decide) hc67) (fun hc67 => ?_)
  refine g_sipush X0 hx (hb hby d2_70) (pc' := 73) rfl (z := (255 : Int32)) rfl ?_
  refine g_goto X0 hx (hb hby d2_73) (by decide) (pc' := 89) (by decide) ?_
  refine g_istore X0 hx (hb hby d2_89) (pc' := 91) rfl (Ls' := #[.val (.int p0), .val (.int p1), .val (.int (1 : Int32)), .val (.int (1540483477 : Int32)), .val (.int (-1756908915 : Int32)), .val (.int (1 : Int32)), .val (.int p0), .val (.int (255 : Int32))]) rfl ?_
  refine g_iload X0 hx (hb hby d2_91) (pc' := 93) rfl rfl ?_
  refine g_iload X0 hx (hb hby d2_93) (pc' := 95) rfl rfl ?_
  refine g_iload X0 hx (hb hby d2_95) (pc' := 97) rfl rfl ?_
  refine g_iand X0 hx (hb hby d2_97) (pc' := 98) rfl ?_
  refine g_ixor X0 hx (hb hby d2_98) (pc' := 99) rfl ?_
  refine g_istore X0 hx (hb hby d2_99) (pc' := 101) rfl (Ls' := #[.val (.int p0), .val (.int p1), .val (.int (1 : Int32)), .val (.int (1540483477 : Int32)), .val (.int ((-1756908915 : Int32) ^^^ (p0 &&& (255 : Int32)))), .val (.int (1 : Int32)), .val (.int p0), .val (.int (255 : Int32))]) rfl ?_
  refine g_iload X0 hx (hb hby d2_101) (pc' := 103) rfl rfl ?_
  refine g_iloadN X0 hx (hb hby d2_103) (pc' := 104) rfl rfl ?_
  refine g_imul X0 hx (hb hby d2_104) (pc' := 105) rfl ?_
  refine g_istore X0 hx (hb hby d2_105) (pc' := 107) rfl (Ls' := #[.val (.int p0), .val (.int p1), .val (.int (1 : Int32)), .val (.int (1540483477 : Int32)), .val (.int (((-1756908915 : Int32) ^^^ (p0 &&& (255 : Int32))) * (1540483477 : Int32))), .val (.int (1 : Int32)), .val (.int p0), .val (.int (255 : Int32))]) rfl ?_
  refine g_iload X0 hx (hb hby d2_107) (pc' := 109) rfl rfl ?_
  refine g_iload X0 hx (hb hby d2_109) (pc' := 111) rfl rfl ?_
  refine g_bipush X0 hx (hb hby d2_111) (pc' := 113) rfl (z := (13 : Int32)) rfl ?_
  refine g_iushr X0 hx (hb hby d2_113) (pc' := 114) rfl ?_
  refine g_ixor X0 hx (hb hby d2_114) (pc' := 115) rfl ?_
  refine Go.cast (show (mkF m 115 #[.val (.int p0), .val (.int p1), .val (.int (1 : Int32)), .val (.int (1540483477 : Int32)), .val (.int (((-1756908915 : Int32) ^^^ (p0 &&& (255 : Int32))) * (1540483477 : Int32))), .val (.int (1 : Int32)), .val (.int p0), .val (.int (255 : Int32))] [(.int ((((-1756908915 : Int32) ^^^ (p0 &&& (255 : Int32))) * (1540483477 : Int32)) ^^^ (ushr (((-1756908915 : Int32) ^^^ (p0 &&& (255 : Int32))) * (1540483477 : Int32)) (13 : Int32))))]) = (mkF m 115 #[.val (.int p0), .val (.int p1), .val (.int (1 : Int32)), .val (.int (1540483477 : Int32)), .val (.int (((-1756908915 : Int32) ^^^ (p0 &&& (255 : Int32))) * (1540483477 : Int32))), .val (.int (1 : Int32)), .val (.int p0), .val (.int (255 : Int32))] [(.int (fin1 (((-1756908915 : Int32) ^^^ (p0 &&& (255 : Int32))) * (1540483477 : Int32))))]) from by rw [show ((((-1756908915 : Int32) ^^^ (p0 &&& (255 : Int32))) * (1540483477 : Int32)) ^^^ (ushr (((-1756908915 : Int32) ^^^ (p0 &&& (255 : Int32))) * (1540483477 : Int32)) (13 : Int32))) = (fin1 (((-1756908915 : Int32) ^^^ (p0 &&& (255 : Int32))) * (1540483477 : Int32))) from rfl]) ?_
  refine g_istore X0 hx (hb hby d2_115) (pc' := 117) rfl (Ls' := #[.val (.int p0), .val (.int p1), .val (.int (1 : Int32)), .val (.int (1540483477 : Int32)), .val (.int (fin1 (((-1756908915 : Int32) ^^^ (p0 &&& (255 : Int32))) * (1540483477 : Int32)))), .val (.int (1 : Int32)), .val (.int p0), .val (.int (255 : Int32))]) rfl ?_
  refine g_iload X0 hx (hb hby d2_117) (pc' := 119) rfl rfl ?_
  refine g_iloadN X0 hx (hb hby d2_119) (pc' := 120) rfl rfl ?_
  refine g_imul X0 hx (hb hby d2_120) (pc' := 121) rfl ?_
  refine g_istore X0 hx (hb hby d2_121) (pc' := 123) rfl (Ls' := #[.val (.int p0), .val (.int p1), .val (.int (1 : Int32)), .val (.int (1540483477 : Int32)), .val (.int ((fin1 (((-1756908915 : Int32) ^^^ (p0 &&& (255 : Int32))) * (1540483477 : Int32))) * (1540483477 : Int32))), .val (.int (1 : Int32)), .val (.int p0), .val (.int (255 : Int32))]) rfl ?_
  refine g_iload X0 hx (hb hby d2_123) (pc' := 125) rfl rfl ?_
  refine g_iload X0 hx (hb hby d2_125) (pc' := 127) rfl rfl ?_
  refine g_bipush X0 hx (hb hby d2_127) (pc' := 129) rfl (z := (15 : Int32)) rfl ?_
  refine g_iushr X0 hx (hb hby d2_129) (pc' := 130) rfl ?_
  refine g_ixor X0 hx (hb hby d2_130) (pc' := 131) rfl ?_
  refine Go.cast (show (mkF m 131 #[.val (.int p0), .val (.int p1), .val (.int (1 : Int32)), .val (.int (1540483477 : Int32)), .val (.int ((fin1 (((-1756908915 : Int32) ^^^ (p0 &&& (255 : Int32))) * (1540483477 : Int32))) * (1540483477 : Int32))), .val (.int (1 : Int32)), .val (.int p0), .val (.int (255 : Int32))] [(.int (((fin1 (((-1756908915 : Int32) ^^^ (p0 &&& (255 : Int32))) * (1540483477 : Int32))) * (1540483477 : Int32)) ^^^ (ushr ((fin1 (((-1756908915 : Int32) ^^^ (p0 &&& (255 : Int32))) * (1540483477 : Int32))) * (1540483477 : Int32)) (15 : Int32))))]) = (mkF m 131 #[.val (.int p0), .val (.int p1), .val (.int (1 : Int32)), .val (.int (1540483477 : Int32)), .val (.int ((fin1 (((-1756908915 : Int32) ^^^ (p0 &&& (255 : Int32))) * (1540483477 : Int32))) * (1540483477 : Int32))), .val (.int (1 : Int32)), .val (.int p0), .val (.int (255 : Int32))] [(.int (fin2 ((fin1 (((-1756908915 : Int32) ^^^ (p0 &&& (255 : Int32))) * (1540483477 : Int32))) * (1540483477 : Int32))))]) from by rw [show (((fin1 (((-1756908915 : Int32) ^^^ (p0 &&& (255 : Int32))) * (1540483477 : Int32))) * (1540483477 : Int32)) ^^^ (ushr ((fin1 (((-1756908915 : Int32) ^^^ (p0 &&& (255 : Int32))) * (1540483477 : Int32))) * (1540483477 : Int32)) (15 : Int32))) = (fin2 ((fin1 (((-1756908915 : Int32) ^^^ (p0 &&& (255 : Int32))) * (1540483477 : Int32))) * (1540483477 : Int32))) from rfl]) ?_
  refine g_istore X0 hx (hb hby d2_131) (pc' := 133) rfl (Ls' := #[.val (.int p0), .val (.int p1), .val (.int (1 : Int32)), .val (.int (1540483477 : Int32)), .val (.int (fin2 ((fin1 (((-1756908915 : Int32) ^^^ (p0 &&& (255 : Int32))) * (1540483477 : Int32))) * (1540483477 : Int32)))), .val (.int (1 : Int32)), .val (.int p0), .val (.int (255 : Int32))]) rfl ?_
  refine g_iload X0 hx (hb hby d2_133) (pc' := 135) rfl rfl ?_
  exact g_ireturn X0 hx hret (hb hby d2_135) N0 hlk (fun v t => endF (by decide) (by decide) v) (by rw [e0]; exact ⟨rfl, rfl⟩)
theorem ef_1_2 (x0 : Addr) (m : MethodId) : entryFrame m #[(.ref x0)] 6 = mkF m 0 #[.val (.ref x0), .unset, .unset, .unset, .unset, .unset] [] := by first | (simp [entryFrame, mkF, argsToLocals, Value.category]; done) | rfl
def Q1_2 (Z : State) (a : Addr) (x0 : Int32) (x1 : Int32) (h0 : Heap) (n0 : Nat) : Option Value → Heap → Prop := fun v h => v = some (.int (fin2 ((fin1 ((((-1756908914 : Int32) ^^^ (shl (x0 &&& (255 : Int32)) (0 : Int32))) ^^^ (shl (x1 &&& (255 : Int32)) (8 : Int32))) * (1540483477 : Int32))) * (1540483477 : Int32)))) ∧ h0 = h
set_option maxRecDepth 65536 in
set_option maxHeartbeats 40000000 in
theorem rm1_2 (l : Launch) (Z : State) (a0 : Array Value) (hw : ∀ d ∈ tables_1, d.before a0 Z = true) (a : Addr) (x0 : Int32) (x1 : Int32) (h0 : Heap) (n0 : Nat) (Z0 : n0 ≤ h0.size) (V1 : Va Z h0 a .byte [(.int x0), (.int x1)]) : Ctr l Z (⟨"com/example/stream_log_client/streamlogclient/producer/Partitioner", "murmur2", "([B)I"⟩ : MethodName) prog_67_method_3_code 6 (some .int) ({ frames := 0, cells := 0, slots := 0, locals := 0 } : Room) #[(.ref a)] h0 n0 (Q1_2 Z a x0 x1 h0 n0) := by
  refine Ctr.of (plainFor_of_name pn_1) (ef_1_2 a) ?_
  intro p e s m below meth c T0 hx hby hml hown hnm hret hlk hZ X0 e0
  have N0 := Fr.nil n0
  refine g_aloadN X0 hx (hb hby d1_0) (pc' := 1) rfl rfl rfl ?_
  refine g_arraylength X0 hx hZ e0 V1 (z := (2 : Int32)) (hb hby d1_1) (pc' := 2) rfl rfl ?_
  refine g_istoreN X0 hx (hb hby d1_2) (pc' := 3) rfl (Ls' := #[.val (.ref a), .val (.int (2 : Int32)), .unset, .unset, .unset, .unset]) rfl ?_
  refine g_ldc X0 hx hZ hown (hw _ (List.mem_of_getElem? (i := 6) rfl)) (hb hby d1_3) (pc' := 5) rfl ?_
  refine g_iloadN X0 hx (hb hby d1_5) (pc' := 6) rfl rfl ?_
  refine g_ixor X0 hx (hb hby d1_6) (pc' := 7) rfl ?_
  refine Go.cast (show (mkF m 7 #[.val (.ref a), .val (.int (2 : Int32)), .unset, .unset, .unset, .unset] [(.int ((-1756908916 : Int32) ^^^ (2 : Int32)))]) = (mkF m 7 #[.val (.ref a), .val (.int (2 : Int32)), .unset, .unset, .unset, .unset] [(.int (-1756908914 : Int32))]) from by rw [show ((-1756908916 : Int32) ^^^ (2 : Int32)) = (-1756908914 : Int32) from (by decide)]) ?_
  refine g_istoreN X0 hx (hb hby d1_7) (pc' := 8) rfl (Ls' := #[.val (.ref a), .val (.int (2 : Int32)), .val (.int (-1756908914 : Int32)), .unset, .unset, .unset]) rfl ?_
  refine g_iloadN X0 hx (hb hby d1_8) (pc' := 9) rfl rfl ?_
  refine g_iloadN X0 hx (hb hby d1_9) (pc' := 10) rfl rfl ?_
  refine g_iconst X0 hx (hb hby d1_10) (pc' := 11) rfl (z := (4 : Int32)) rfl ?_
  refine g_irem X0 hx (hb hby d1_11) (pc' := 12) rfl (by decide) ?_
  refine Go.cast (show (mkF m 12 #[.val (.ref a), .val (.int (2 : Int32)), .val (.int (-1756908914 : Int32)), .unset, .unset, .unset] [(.int ((2 : Int32) % (4 : Int32))), (.int (2 : Int32))]) = (mkF m 12 #[.val (.ref a), .val (.int (2 : Int32)), .val (.int (-1756908914 : Int32)), .unset, .unset, .unset] [(.int (2 : Int32)), (.int (2 : Int32))]) from by rw [show ((2 : Int32) % (4 : Int32)) = (2 : Int32) from (by decide)]) ?_
  refine g_isub X0 hx (hb hby d1_12) (pc' := 13) rfl ?_
  refine Go.cast (show (mkF m 13 #[.val (.ref a), .val (.int (2 : Int32)), .val (.int (-1756908914 : Int32)), .unset, .unset, .unset] [(.int ((2 : Int32) - (2 : Int32)))]) = (mkF m 13 #[.val (.ref a), .val (.int (2 : Int32)), .val (.int (-1756908914 : Int32)), .unset, .unset, .unset] [(.int (0 : Int32))]) from by rw [show ((2 : Int32) - (2 : Int32)) = (0 : Int32) from (by decide)]) ?_
  refine g_istoreN X0 hx (hb hby d1_13) (pc' := 14) rfl (Ls' := #[.val (.ref a), .val (.int (2 : Int32)), .val (.int (-1756908914 : Int32)), .val (.int (0 : Int32)), .unset, .unset]) rfl ?_
  refine g_iconst X0 hx (hb hby d1_14) (pc' := 15) rfl (z := (0 : Int32)) rfl ?_
  refine g_istore X0 hx (hb hby d1_15) (pc' := 17) rfl (Ls' := #[.val (.ref a), .val (.int (2 : Int32)), .val (.int (-1756908914 : Int32)), .val (.int (0 : Int32)), .val (.int (0 : Int32)), .unset]) rfl ?_
  refine g_iload X0 hx (hb hby d1_17) (pc' := 19) rfl rfl ?_
  refine g_iloadN X0 hx (hb hby d1_19) (pc' := 20) rfl rfl ?_
  refine g_icmp_ge X0 hx (hb hby d1_20) (pc1 := 23) rfl (by decide) (pc2 := 115) (by decide) (fun hc20 => ?_) (fun hc20 => absurd hc20 (by decide))
  refine g_iloadN X0 hx (hb hby d1_115) (pc' := 116) rfl rfl ?_
  refine g_istore X0 hx (hb hby d1_116) (pc' := 118) rfl (Ls' := #[.val (.ref a), .val (.int (2 : Int32)), .val (.int (-1756908914 : Int32)), .val (.int (0 : Int32)), .val (.int (0 : Int32)), .unset]) rfl ?_
  refine g_iload X0 hx (hb hby d1_118) (pc' := 120) rfl rfl ?_
  refine g_iloadN X0 hx (hb hby d1_120) (pc' := 121) rfl rfl ?_
  refine g_icmp_ge X0 hx (hb hby d1_121) (pc1 := 124) rfl (by decide) (pc2 := 149) (by decide) (fun hc121 => absurd (by decide) hc121) (fun hc121 => ?_)
  refine g_iloadN X0 hx (hb hby d1_124) (pc' := 125) rfl rfl ?_
  refine g_aloadN X0 hx (hb hby d1_125) (pc' := 126) rfl rfl rfl ?_
  refine g_iload X0 hx (hb hby d1_126) (pc' := 128) rfl rfl ?_
  refine g_baload X0 hx hZ e0 V1 (i := 0) (v := (.int x0)) (hb hby d1_128) (pc' := 129) rfl (by decide) rfl rfl ?_
  refine g_sipush X0 hx (hb hby d1_129) (pc' := 132) rfl (z := (255 : Int32)) rfl ?_
  refine g_iand X0 hx (hb hby d1_132) (pc' := 133) rfl ?_
  refine g_bipush X0 hx (hb hby d1_133) (pc' := 135) rfl (z := (8 : Int32)) rfl ?_
  refine g_iload X0 hx (hb hby d1_135) (pc' := 137) rfl rfl ?_
  refine g_iloadN X0 hx (hb hby d1_137) (pc' := 138) rfl rfl ?_
  refine g_isub X0 hx (hb hby d1_138) (pc' := 139) rfl ?_
  refine Go.cast (show (mkF m 139 #[.val (.ref a), .val (.int (2 : Int32)), .val (.int (-1756908914 : Int32)), .val (.int (0 : Int32)), .val (.int (0 : Int32)), .unset] [(.int ((0 : Int32) - (0 : Int32))), (.int (8 : Int32)), (.int (x0 &&& (255 : Int32))), (.int (-1756908914 : Int32))]) = (mkF m 139 #[.val (.ref a), .val (.int (2 : Int32)), .val (.int (-1756908914 : Int32)), .val (.int (0 : Int32)), .val (.int (0 : Int32)), .unset] [(.int (0 : Int32)), (.int (8 : Int32)), (.int (x0 &&& (255 : Int32))), (.int (-1756908914 : Int32))]) from by rw [show ((0 : Int32) - (0 : Int32)) = (0 : Int32) from (by decide)]) ?_
  refine g_imul X0 hx (hb hby d1_139) (pc' := 140) rfl ?_
  refine Go.cast (show (mkF m 140 #[.val (.ref a), .val (.int (2 : Int32)), .val (.int (-1756908914 : Int32)), .val (.int (0 : Int32)), .val (.int (0 : Int32)), .unset] [(.int ((8 : Int32) * (0 : Int32))), (.int (x0 &&& (255 : Int32))), (.int (-1756908914 : Int32))]) = (mkF m 140 #[.val (.ref a), .val (.int (2 : Int32)), .val (.int (-1756908914 : Int32)), .val (.int (0 : Int32)), .val (.int (0 : Int32)), .unset] [(.int (0 : Int32)), (.int (x0 &&& (255 : Int32))), (.int (-1756908914 : Int32))]) from by rw [show ((8 : Int32) * (0 : Int32)) = (0 : Int32) from (by decide)]) ?_
  refine g_ishl X0 hx (hb hby d1_140) (pc' := 141) rfl ?_
  refine g_ixor X0 hx (hb hby d1_141) (pc' := 142) rfl ?_
  refine g_istoreN X0 hx (hb hby d1_142) (pc' := 143) rfl (Ls' := #[.val (.ref a), .val (.int (2 : Int32)), .val (.int ((-1756908914 : Int32) ^^^ (shl (x0 &&& (255 : Int32)) (0 : Int32)))), .val (.int (0 : Int32)), .val (.int (0 : Int32)), .unset]) rfl ?_
  refine g_iinc X0 hx (hb hby d1_143) (pc' := 146) rfl rfl (z := (1 : Int32)) rfl (Ls' := #[.val (.ref a), .val (.int (2 : Int32)), .val (.int ((-1756908914 : Int32) ^^^ (shl (x0 &&& (255 : Int32)) (0 : Int32)))), .val (.int (0 : Int32)), .val (.int (1 : Int32)), .unset]) rfl ?_
  refine g_goto X0 hx (hb hby d1_146) (by decide) (pc' := 118) (by decide) ?_
  refine g_iload X0 hx (hb hby d1_118) (pc' := 120) rfl rfl ?_
  refine g_iloadN X0 hx (hb hby d1_120) (pc' := 121) rfl rfl ?_
  refine g_icmp_ge X0 hx (hb hby d1_121) (pc1 := 124) rfl (by decide) (pc2 := 149) (by decide) (fun hc121_1 => absurd (by decide) hc121_1) (fun hc121_1 => ?_)
  refine g_iloadN X0 hx (hb hby d1_124) (pc' := 125) rfl rfl ?_
  refine g_aloadN X0 hx (hb hby d1_125) (pc' := 126) rfl rfl rfl ?_
  refine g_iload X0 hx (hb hby d1_126) (pc' := 128) rfl rfl ?_
  refine g_baload X0 hx hZ e0 V1 (i := 1) (v := (.int x1)) (hb hby d1_128) (pc' := 129) rfl (by decide) rfl rfl ?_
  refine g_sipush X0 hx (hb hby d1_129) (pc' := 132) rfl (z := (255 : Int32)) rfl ?_
  refine g_iand X0 hx (hb hby d1_132) (pc' := 133) rfl ?_
  refine g_bipush X0 hx (hb hby d1_133) (pc' := 135) rfl (z := (8 : Int32)) rfl ?_
  refine g_iload X0 hx (hb hby d1_135) (pc' := 137) rfl rfl ?_
  refine g_iloadN X0 hx (hb hby d1_137) (pc' := 138) rfl rfl ?_
  refine g_isub X0 hx (hb hby d1_138) (pc' := 139) rfl ?_
  refine Go.cast (show (mkF m 139 #[.val (.ref a), .val (.int (2 : Int32)), .val (.int ((-1756908914 : Int32) ^^^ (shl (x0 &&& (255 : Int32)) (0 : Int32)))), .val (.int (0 : Int32)), .val (.int (1 : Int32)), .unset] [(.int ((1 : Int32) - (0 : Int32))), (.int (8 : Int32)), (.int (x1 &&& (255 : Int32))), (.int ((-1756908914 : Int32) ^^^ (shl (x0 &&& (255 : Int32)) (0 : Int32))))]) = (mkF m 139 #[.val (.ref a), .val (.int (2 : Int32)), .val (.int ((-1756908914 : Int32) ^^^ (shl (x0 &&& (255 : Int32)) (0 : Int32)))), .val (.int (0 : Int32)), .val (.int (1 : Int32)), .unset] [(.int (1 : Int32)), (.int (8 : Int32)), (.int (x1 &&& (255 : Int32))), (.int ((-1756908914 : Int32) ^^^ (shl (x0 &&& (255 : Int32)) (0 : Int32))))]) from by rw [show ((1 : Int32) - (0 : Int32)) = (1 : Int32) from (by decide)]) ?_
  refine g_imul X0 hx (hb hby d1_139) (pc' := 140) rfl ?_
  refine Go.cast (show (mkF m 140 #[.val (.ref a), .val (.int (2 : Int32)), .val (.int ((-1756908914 : Int32) ^^^ (shl (x0 &&& (255 : Int32)) (0 : Int32)))), .val (.int (0 : Int32)), .val (.int (1 : Int32)), .unset] [(.int ((8 : Int32) * (1 : Int32))), (.int (x1 &&& (255 : Int32))), (.int ((-1756908914 : Int32) ^^^ (shl (x0 &&& (255 : Int32)) (0 : Int32))))]) = (mkF m 140 #[.val (.ref a), .val (.int (2 : Int32)), .val (.int ((-1756908914 : Int32) ^^^ (shl (x0 &&& (255 : Int32)) (0 : Int32)))), .val (.int (0 : Int32)), .val (.int (1 : Int32)), .unset] [(.int (8 : Int32)), (.int (x1 &&& (255 : Int32))), (.int ((-1756908914 : Int32) ^^^ (shl (x0 &&& (255 : Int32)) (0 : Int32))))]) from by rw [show ((8 : Int32) * (1 : Int32)) = (8 : Int32) from (by decide)]) ?_
  refine g_ishl X0 hx (hb hby d1_140) (pc' := 141) rfl ?_
  refine g_ixor X0 hx (hb hby d1_141) (pc' := 142) rfl ?_
  refine g_istoreN X0 hx (hb hby d1_142) (pc' := 143) rfl (Ls' := #[.val (.ref a), .val (.int (2 : Int32)), .val (.int (((-1756908914 : Int32) ^^^ (shl (x0 &&& (255 : Int32)) (0 : Int32))) ^^^ (shl (x1 &&& (255 : Int32)) (8 : Int32)))), .val (.int (0 : Int32)), .val (.int (1 : Int32)), .unset]) rfl ?_
  refine g_iinc X0 hx (hb hby d1_143) (pc' := 146) rfl rfl (z := (1 : Int32)) rfl (Ls' := #[.val (.ref a), .val (.int (2 : Int32)), .val (.int (((-1756908914 : Int32) ^^^ (shl (x0 &&& (255 : Int32)) (0 : Int32))) ^^^ (shl (x1 &&& (255 : Int32)) (8 : Int32)))), .val (.int (0 : Int32)), .val (.int (2 : Int32)), .unset]) rfl ?_
  refine g_goto X0 hx (hb hby d1_146) (by decide) (pc' := 118) (by decide) ?_
  refine g_iload X0 hx (hb hby d1_118) (pc' := 120) rfl rfl ?_
  refine g_iloadN X0 hx (hb hby d1_120) (pc' := 121) rfl rfl ?_
  refine g_icmp_ge X0 hx (hb hby d1_121) (pc1 := 124) rfl (by decide) (pc2 := 149) (by decide) (fun hc121_2 => ?_) (fun hc121_2 => absurd hc121_2 (by decide))
  refine g_iloadN X0 hx (hb hby d1_149) (pc' := 150) rfl rfl ?_
  refine g_iloadN X0 hx (hb hby d1_150) (pc' := 151) rfl rfl ?_
  refine g_icmp_ge X0 hx (hb hby d1_151) (pc1 := 154) rfl (by decide) (pc2 := 159) (by decide) (fun hc151 => absurd (by decide) hc151) (fun hc151 => ?_)
  refine g_iloadN X0 hx (hb hby d1_154) (pc' := 155) rfl rfl ?_
  refine g_ldc X0 hx hZ hown (hw _ (List.mem_of_getElem? (i := 7) rfl)) (hb hby d1_155) (pc' := 157) rfl ?_
  refine g_imul X0 hx (hb hby d1_157) (pc' := 158) rfl ?_
  refine g_istoreN X0 hx (hb hby d1_158) (pc' := 159) rfl (Ls' := #[.val (.ref a), .val (.int (2 : Int32)), .val (.int ((((-1756908914 : Int32) ^^^ (shl (x0 &&& (255 : Int32)) (0 : Int32))) ^^^ (shl (x1 &&& (255 : Int32)) (8 : Int32))) * (1540483477 : Int32))), .val (.int (0 : Int32)), .val (.int (2 : Int32)), .unset]) rfl ?_
  refine g_iloadN X0 hx (hb hby d1_159) (pc' := 160) rfl rfl ?_
  refine g_iloadN X0 hx (hb hby d1_160) (pc' := 161) rfl rfl ?_
  refine g_bipush X0 hx (hb hby d1_161) (pc' := 163) rfl (z := (13 : Int32)) rfl ?_
  refine g_iushr X0 hx (hb hby d1_163) (pc' := 164) rfl ?_
  refine g_ixor X0 hx (hb hby d1_164) (pc' := 165) rfl ?_
  refine Go.cast (show (mkF m 165 #[.val (.ref a), .val (.int (2 : Int32)), .val (.int ((((-1756908914 : Int32) ^^^ (shl (x0 &&& (255 : Int32)) (0 : Int32))) ^^^ (shl (x1 &&& (255 : Int32)) (8 : Int32))) * (1540483477 : Int32))), .val (.int (0 : Int32)), .val (.int (2 : Int32)), .unset] [(.int (((((-1756908914 : Int32) ^^^ (shl (x0 &&& (255 : Int32)) (0 : Int32))) ^^^ (shl (x1 &&& (255 : Int32)) (8 : Int32))) * (1540483477 : Int32)) ^^^ (ushr ((((-1756908914 : Int32) ^^^ (shl (x0 &&& (255 : Int32)) (0 : Int32))) ^^^ (shl (x1 &&& (255 : Int32)) (8 : Int32))) * (1540483477 : Int32)) (13 : Int32))))]) = (mkF m 165 #[.val (.ref a), .val (.int (2 : Int32)), .val (.int ((((-1756908914 : Int32) ^^^ (shl (x0 &&& (255 : Int32)) (0 : Int32))) ^^^ (shl (x1 &&& (255 : Int32)) (8 : Int32))) * (1540483477 : Int32))), .val (.int (0 : Int32)), .val (.int (2 : Int32)), .unset] [(.int (fin1 ((((-1756908914 : Int32) ^^^ (shl (x0 &&& (255 : Int32)) (0 : Int32))) ^^^ (shl (x1 &&& (255 : Int32)) (8 : Int32))) * (1540483477 : Int32))))]) from by rw [show (((((-1756908914 : Int32) ^^^ (shl (x0 &&& (255 : Int32)) (0 : Int32))) ^^^ (shl (x1 &&& (255 : Int32)) (8 : Int32))) * (1540483477 : Int32)) ^^^ (ushr ((((-1756908914 : Int32) ^^^ (shl (x0 &&& (255 : Int32)) (0 : Int32))) ^^^ (shl (x1 &&& (255 : Int32)) (8 : Int32))) * (1540483477 : Int32)) (13 : Int32))) = (fin1 ((((-1756908914 : Int32) ^^^ (shl (x0 &&& (255 : Int32)) (0 : Int32))) ^^^ (shl (x1 &&& (255 : Int32)) (8 : Int32))) * (1540483477 : Int32))) from rfl]) ?_
  refine g_istoreN X0 hx (hb hby d1_165) (pc' := 166) rfl (Ls' := #[.val (.ref a), .val (.int (2 : Int32)), .val (.int (fin1 ((((-1756908914 : Int32) ^^^ (shl (x0 &&& (255 : Int32)) (0 : Int32))) ^^^ (shl (x1 &&& (255 : Int32)) (8 : Int32))) * (1540483477 : Int32)))), .val (.int (0 : Int32)), .val (.int (2 : Int32)), .unset]) rfl ?_
  refine g_iloadN X0 hx (hb hby d1_166) (pc' := 167) rfl rfl ?_
  refine g_ldc X0 hx hZ hown (hw _ (List.mem_of_getElem? (i := 7) rfl)) (hb hby d1_167) (pc' := 169) rfl ?_
  refine g_imul X0 hx (hb hby d1_169) (pc' := 170) rfl ?_
  refine g_istoreN X0 hx (hb hby d1_170) (pc' := 171) rfl (Ls' := #[.val (.ref a), .val (.int (2 : Int32)), .val (.int ((fin1 ((((-1756908914 : Int32) ^^^ (shl (x0 &&& (255 : Int32)) (0 : Int32))) ^^^ (shl (x1 &&& (255 : Int32)) (8 : Int32))) * (1540483477 : Int32))) * (1540483477 : Int32))), .val (.int (0 : Int32)), .val (.int (2 : Int32)), .unset]) rfl ?_
  refine g_iloadN X0 hx (hb hby d1_171) (pc' := 172) rfl rfl ?_
  refine g_iloadN X0 hx (hb hby d1_172) (pc' := 173) rfl rfl ?_
  refine g_bipush X0 hx (hb hby d1_173) (pc' := 175) rfl (z := (15 : Int32)) rfl ?_
  refine g_iushr X0 hx (hb hby d1_175) (pc' := 176) rfl ?_
  refine g_ixor X0 hx (hb hby d1_176) (pc' := 177) rfl ?_
  refine Go.cast (show (mkF m 177 #[.val (.ref a), .val (.int (2 : Int32)), .val (.int ((fin1 ((((-1756908914 : Int32) ^^^ (shl (x0 &&& (255 : Int32)) (0 : Int32))) ^^^ (shl (x1 &&& (255 : Int32)) (8 : Int32))) * (1540483477 : Int32))) * (1540483477 : Int32))), .val (.int (0 : Int32)), .val (.int (2 : Int32)), .unset] [(.int (((fin1 ((((-1756908914 : Int32) ^^^ (shl (x0 &&& (255 : Int32)) (0 : Int32))) ^^^ (shl (x1 &&& (255 : Int32)) (8 : Int32))) * (1540483477 : Int32))) * (1540483477 : Int32)) ^^^ (ushr ((fin1 ((((-1756908914 : Int32) ^^^ (shl (x0 &&& (255 : Int32)) (0 : Int32))) ^^^ (shl (x1 &&& (255 : Int32)) (8 : Int32))) * (1540483477 : Int32))) * (1540483477 : Int32)) (15 : Int32))))]) = (mkF m 177 #[.val (.ref a), .val (.int (2 : Int32)), .val (.int ((fin1 ((((-1756908914 : Int32) ^^^ (shl (x0 &&& (255 : Int32)) (0 : Int32))) ^^^ (shl (x1 &&& (255 : Int32)) (8 : Int32))) * (1540483477 : Int32))) * (1540483477 : Int32))), .val (.int (0 : Int32)), .val (.int (2 : Int32)), .unset] [(.int (fin2 ((fin1 ((((-1756908914 : Int32) ^^^ (shl (x0 &&& (255 : Int32)) (0 : Int32))) ^^^ (shl (x1 &&& (255 : Int32)) (8 : Int32))) * (1540483477 : Int32))) * (1540483477 : Int32))))]) from by rw [show (((fin1 ((((-1756908914 : Int32) ^^^ (shl (x0 &&& (255 : Int32)) (0 : Int32))) ^^^ (shl (x1 &&& (255 : Int32)) (8 : Int32))) * (1540483477 : Int32))) * (1540483477 : Int32)) ^^^ (ushr ((fin1 ((((-1756908914 : Int32) ^^^ (shl (x0 &&& (255 : Int32)) (0 : Int32))) ^^^ (shl (x1 &&& (255 : Int32)) (8 : Int32))) * (1540483477 : Int32))) * (1540483477 : Int32)) (15 : Int32))) = (fin2 ((fin1 ((((-1756908914 : Int32) ^^^ (shl (x0 &&& (255 : Int32)) (0 : Int32))) ^^^ (shl (x1 &&& (255 : Int32)) (8 : Int32))) * (1540483477 : Int32))) * (1540483477 : Int32))) from rfl]) ?_
  refine g_istoreN X0 hx (hb hby d1_177) (pc' := 178) rfl (Ls' := #[.val (.ref a), .val (.int (2 : Int32)), .val (.int (fin2 ((fin1 ((((-1756908914 : Int32) ^^^ (shl (x0 &&& (255 : Int32)) (0 : Int32))) ^^^ (shl (x1 &&& (255 : Int32)) (8 : Int32))) * (1540483477 : Int32))) * (1540483477 : Int32)))), .val (.int (0 : Int32)), .val (.int (2 : Int32)), .unset]) rfl ?_
  refine g_iloadN X0 hx (hb hby d1_178) (pc' := 179) rfl rfl ?_
  exact g_ireturn X0 hx hret (hb hby d1_179) N0 hlk (fun v t => endF (by decide) (by decide) v) (by rw [e0]; exact ⟨rfl, rfl⟩)
theorem d2_76 : decode method_4_code 76 = .ok (.iload 5, 2) := by decide +kernel
theorem d2_78 : decode method_4_code 78 = .ok (.iconst 2, 1) := by decide +kernel
theorem d2_79 : decode method_4_code 79 = .ok (.if_icmp .ne 8, 3) := by decide +kernel
theorem d2_82 : decode method_4_code 82 = .ok (.ldc 27, 2) := by decide +kernel
theorem d2_84 : decode method_4_code 84 = .ok (.goto 5, 3) := by decide +kernel
theorem ef_2_2 (x0 : Int32) (x1 : Int32) (x2 : Int32) (m : MethodId) : entryFrame m #[(.int x0), (.int x1), (.int x2)] 8 = mkF m 0 #[.val (.int x0), .val (.int x1), .val (.int x2), .unset, .unset, .unset, .unset, .unset] [] := by first | (simp [entryFrame, mkF, argsToLocals, Value.category]; done) | rfl
def Q2_2 (Z : State) (p0 : Int32) (p1 : Int32) (h0 : Heap) (n0 : Nat) : Option Value → Heap → Prop := fun v h => v = some (.int (fin2 ((fin1 (((-1756908914 : Int32) ^^^ (p0 &&& (65535 : Int32))) * (1540483477 : Int32))) * (1540483477 : Int32)))) ∧ h0 = h
set_option maxRecDepth 65536 in
set_option maxHeartbeats 40000000 in
theorem rm2_2 (l : Launch) (Z : State) (a0 : Array Value) (hw : ∀ d ∈ tables_1, d.before a0 Z = true) (p0 : Int32) (p1 : Int32) (h0 : Heap) (n0 : Nat) (Z0 : n0 ≤ h0.size) : Ctr l Z (⟨"com/example/stream_log_client/streamlogclient/producer/PartitionerMurmur2PinLaw", "ref", "(III)I"⟩ : MethodName) method_4_code 8 (some .int) ({ frames := 0, cells := 0, slots := 0, locals := 0 } : Room) #[(.int p0), (.int p1), (.int (2 : Int32))] h0 n0 (Q2_2 Z p0 p1 h0 n0) := by
  refine Ctr.of (plainFor_of_name pn_3) (ef_2_2 p0 p1 (2 : Int32)) ?_
  intro p e s m below meth c T0 hx hby hml hown hnm hret hlk hZ X0 e0
  have N0 := Fr.nil n0
  refine g_ldc X0 hx hZ hown (hw _ (List.mem_of_getElem? (i := 13) rfl)) (hb hby d2_0) (pc' := 2) rfl ?_
  refine g_istoreN X0 hx (hb hby d2_2) (pc' := 3) rfl (Ls' := #[.val (.int p0), .val (.int p1), .val (.int (2 : Int32)), .val (.int (1540483477 : Int32)), .unset, .unset, .unset, .unset]) rfl ?_
  refine g_ldc X0 hx hZ hown (hw _ (List.mem_of_getElem? (i := 14) rfl)) (hb hby d2_3) (pc' := 5) rfl ?_
  refine g_iloadN X0 hx (hb hby d2_5) (pc' := 6) rfl rfl ?_
  refine g_ixor X0 hx (hb hby d2_6) (pc' := 7) rfl ?_
  refine Go.cast (show (mkF m 7 #[.val (.int p0), .val (.int p1), .val (.int (2 : Int32)), .val (.int (1540483477 : Int32)), .unset, .unset, .unset, .unset] [(.int ((-1756908916 : Int32) ^^^ (2 : Int32)))]) = (mkF m 7 #[.val (.int p0), .val (.int p1), .val (.int (2 : Int32)), .val (.int (1540483477 : Int32)), .unset, .unset, .unset, .unset] [(.int (-1756908914 : Int32))]) from by rw [show ((-1756908916 : Int32) ^^^ (2 : Int32)) = (-1756908914 : Int32) from (by decide)]) ?_
  refine g_istore X0 hx (hb hby d2_7) (pc' := 9) rfl (Ls' := #[.val (.int p0), .val (.int p1), .val (.int (2 : Int32)), .val (.int (1540483477 : Int32)), .val (.int (-1756908914 : Int32)), .unset, .unset, .unset]) rfl ?_
  refine g_iloadN X0 hx (hb hby d2_9) (pc' := 10) rfl rfl ?_
  refine g_iconst X0 hx (hb hby d2_10) (pc' := 11) rfl (z := (4 : Int32)) rfl ?_
  refine g_icmp_lt X0 hx (hb hby d2_11) (pc1 := 14) rfl (by decide) (pc2 := 25) (by decide) (fun hc11 => ?_) (fun hc11 => absurd hc11 (by decide))
  refine g_iloadN X0 hx (hb hby d2_25) (pc' := 26) rfl rfl ?_
  refine g_bipush X0 hx (hb hby d2_26) (pc' := 28) rfl (z := (8 : Int32)) rfl ?_
  refine g_icmp_ne X0 hx (hb hby d2_28) (pc1 := 31) rfl (by decide) (pc2 := 42) (by decide) (fun hc28 => ?_) (fun hc28 => absurd hc28 (by decide))
  refine g_iloadN X0 hx (hb hby d2_42) (pc' := 43) rfl rfl ?_
  refine g_iconst X0 hx (hb hby d2_43) (pc' := 44) rfl (z := (3 : Int32)) rfl ?_
  refine g_iand X0 hx (hb hby d2_44) (pc' := 45) rfl ?_
  refine Go.cast (show (mkF m 45 #[.val (.int p0), .val (.int p1), .val (.int (2 : Int32)), .val (.int (1540483477 : Int32)), .val (.int (-1756908914 : Int32)), .unset, .unset, .unset] [(.int ((2 : Int32) &&& (3 : Int32)))]) = (mkF m 45 #[.val (.int p0), .val (.int p1), .val (.int (2 : Int32)), .val (.int (1540483477 : Int32)), .val (.int (-1756908914 : Int32)), .unset, .unset, .unset] [(.int (2 : Int32))]) from by rw [show ((2 : Int32) &&& (3 : Int32)) = (2 : Int32) from (by decide)]) ?_
  refine g_istore X0 hx (hb hby d2_45) (pc' := 47) rfl (Ls' := #[.val (.int p0), .val (.int p1), .val (.int (2 : Int32)), .val (.int (1540483477 : Int32)), .val (.int (-1756908914 : Int32)), .val (.int (2 : Int32)), .unset, .unset]) rfl ?_
  refine g_iload X0 hx (hb hby d2_47) (pc' := 49) rfl rfl ?_
  refine g_if_eq X0 hx (hb hby d2_49) (pc1 := 52) rfl (by decide) (pc2 := 107) (by decide) (fun hc49 => absurd hc49 (by decide)) (fun hc49 => ?_)
  refine g_iloadN X0 hx (hb hby d2_52) (pc' := 53) rfl rfl ?_
  refine g_iconst X0 hx (hb hby d2_53) (pc' := 54) rfl (z := (4 : Int32)) rfl ?_
  refine g_icmp_ge X0 hx (hb hby d2_54) (pc1 := 57) rfl (by decide) (pc2 := 61) (by decide) (fun hc54 => absurd (by decide) hc54) (fun hc54 => ?_)
  refine g_iloadN X0 hx (hb hby d2_57) (pc' := 58) rfl rfl ?_
  refine g_goto X0 hx (hb hby d2_58) (by decide) (pc' := 62) (by decide) ?_
  refine g_istore X0 hx (hb hby d2_62) (pc' := 64) rfl (Ls' := #[.val (.int p0), .val (.int p1), .val (.int (2 : Int32)), .val (.int (1540483477 : Int32)), .val (.int (-1756908914 : Int32)), .val (.int (2 : Int32)), .val (.int p0), .unset]) rfl ?_
  refine g_iload X0 hx (hb hby d2_64) (pc' := 66) rfl rfl ?_
  refine g_iconst X0 hx (hb hby d2_66) (pc' := 67) rfl (z := (1 : Int32)) rfl ?_
  refine g_icmp_ne X0 hx (hb hby d2_67) (pc1 := 70) rfl (by decide) (pc2 := 76) (by decide) (fun hc67 => ?_) (fun hc67 => absurd hc67 (by decide))
  refine g_iload X0 hx (hb hby d2_76) (pc' := 78) rfl rfl ?_
  refine g_iconst X0 hx (hb hby d2_78) (pc' := 79) rfl (z := (2 : Int32)) rfl ?_
  refine g_icmp_ne X0 hx (hb hby d2_79) (pc1 := 82) rfl (by decide) (pc2 := 87) (by decide) (fun hc79 => absurd (by decide) hc79) (fun hc79 => ?_)
  refine g_ldc X0 hx hZ hown (hw _ (List.mem_of_getElem? (i := 15) rfl)) (hb hby d2_82) (pc' := 84) rfl ?_
  refine g_goto X0 hx (hb hby d2_84) (by decide) (pc' := 89) (by decide) ?_
  refine g_istore X0 hx (hb hby d2_89) (pc' := 91) rfl (Ls' := #[.val (.int p0), .val (.int p1), .val (.int (2 : Int32)), .val (.int (1540483477 : Int32)), .val (.int (-1756908914 : Int32)), .val (.int (2 : Int32)), .val (.int p0), .val (.int (65535 : Int32))]) rfl ?_
  refine g_iload X0 hx (hb hby d2_91) (pc' := 93) rfl rfl ?_
  refine g_iload X0 hx (hb hby d2_93) (pc' := 95) rfl rfl ?_
  refine g_iload X0 hx (hb hby d2_95) (pc' := 97) rfl rfl ?_
  refine g_iand X0 hx (hb hby d2_97) (pc' := 98) rfl ?_
  refine g_ixor X0 hx (hb hby d2_98) (pc' := 99) rfl ?_
  refine g_istore X0 hx (hb hby d2_99) (pc' := 101) rfl (Ls' := #[.val (.int p0), .val (.int p1), .val (.int (2 : Int32)), .val (.int (1540483477 : Int32)), .val (.int ((-1756908914 : Int32) ^^^ (p0 &&& (65535 : Int32)))), .val (.int (2 : Int32)), .val (.int p0), .val (.int (65535 : Int32))]) rfl ?_
  refine g_iload X0 hx (hb hby d2_101) (pc' := 103) rfl rfl ?_
  refine g_iloadN X0 hx (hb hby d2_103) (pc' := 104) rfl rfl ?_
  refine g_imul X0 hx (hb hby d2_104) (pc' := 105) rfl ?_
  refine g_istore X0 hx (hb hby d2_105) (pc' := 107) rfl (Ls' := #[.val (.int p0), .val (.int p1), .val (.int (2 : Int32)), .val (.int (1540483477 : Int32)), .val (.int (((-1756908914 : Int32) ^^^ (p0 &&& (65535 : Int32))) * (1540483477 : Int32))), .val (.int (2 : Int32)), .val (.int p0), .val (.int (65535 : Int32))]) rfl ?_
  refine g_iload X0 hx (hb hby d2_107) (pc' := 109) rfl rfl ?_
  refine g_iload X0 hx (hb hby d2_109) (pc' := 111) rfl rfl ?_
  refine g_bipush X0 hx (hb hby d2_111) (pc' := 113) rfl (z := (13 : Int32)) rfl ?_
  refine g_iushr X0 hx (hb hby d2_113) (pc' := 114) rfl ?_
  refine g_ixor X0 hx (hb hby d2_114) (pc' := 115) rfl ?_
  refine Go.cast (show (mkF m 115 #[.val (.int p0), .val (.int p1), .val (.int (2 : Int32)), .val (.int (1540483477 : Int32)), .val (.int (((-1756908914 : Int32) ^^^ (p0 &&& (65535 : Int32))) * (1540483477 : Int32))), .val (.int (2 : Int32)), .val (.int p0), .val (.int (65535 : Int32))] [(.int ((((-1756908914 : Int32) ^^^ (p0 &&& (65535 : Int32))) * (1540483477 : Int32)) ^^^ (ushr (((-1756908914 : Int32) ^^^ (p0 &&& (65535 : Int32))) * (1540483477 : Int32)) (13 : Int32))))]) = (mkF m 115 #[.val (.int p0), .val (.int p1), .val (.int (2 : Int32)), .val (.int (1540483477 : Int32)), .val (.int (((-1756908914 : Int32) ^^^ (p0 &&& (65535 : Int32))) * (1540483477 : Int32))), .val (.int (2 : Int32)), .val (.int p0), .val (.int (65535 : Int32))] [(.int (fin1 (((-1756908914 : Int32) ^^^ (p0 &&& (65535 : Int32))) * (1540483477 : Int32))))]) from by rw [show ((((-1756908914 : Int32) ^^^ (p0 &&& (65535 : Int32))) * (1540483477 : Int32)) ^^^ (ushr (((-1756908914 : Int32) ^^^ (p0 &&& (65535 : Int32))) * (1540483477 : Int32)) (13 : Int32))) = (fin1 (((-1756908914 : Int32) ^^^ (p0 &&& (65535 : Int32))) * (1540483477 : Int32))) from rfl]) ?_
  refine g_istore X0 hx (hb hby d2_115) (pc' := 117) rfl (Ls' := #[.val (.int p0), .val (.int p1), .val (.int (2 : Int32)), .val (.int (1540483477 : Int32)), .val (.int (fin1 (((-1756908914 : Int32) ^^^ (p0 &&& (65535 : Int32))) * (1540483477 : Int32)))), .val (.int (2 : Int32)), .val (.int p0), .val (.int (65535 : Int32))]) rfl ?_
  refine g_iload X0 hx (hb hby d2_117) (pc' := 119) rfl rfl ?_
  refine g_iloadN X0 hx (hb hby d2_119) (pc' := 120) rfl rfl ?_
  refine g_imul X0 hx (hb hby d2_120) (pc' := 121) rfl ?_
  refine g_istore X0 hx (hb hby d2_121) (pc' := 123) rfl (Ls' := #[.val (.int p0), .val (.int p1), .val (.int (2 : Int32)), .val (.int (1540483477 : Int32)), .val (.int ((fin1 (((-1756908914 : Int32) ^^^ (p0 &&& (65535 : Int32))) * (1540483477 : Int32))) * (1540483477 : Int32))), .val (.int (2 : Int32)), .val (.int p0), .val (.int (65535 : Int32))]) rfl ?_
  refine g_iload X0 hx (hb hby d2_123) (pc' := 125) rfl rfl ?_
  refine g_iload X0 hx (hb hby d2_125) (pc' := 127) rfl rfl ?_
  refine g_bipush X0 hx (hb hby d2_127) (pc' := 129) rfl (z := (15 : Int32)) rfl ?_
  refine g_iushr X0 hx (hb hby d2_129) (pc' := 130) rfl ?_
  refine g_ixor X0 hx (hb hby d2_130) (pc' := 131) rfl ?_
  refine Go.cast (show (mkF m 131 #[.val (.int p0), .val (.int p1), .val (.int (2 : Int32)), .val (.int (1540483477 : Int32)), .val (.int ((fin1 (((-1756908914 : Int32) ^^^ (p0 &&& (65535 : Int32))) * (1540483477 : Int32))) * (1540483477 : Int32))), .val (.int (2 : Int32)), .val (.int p0), .val (.int (65535 : Int32))] [(.int (((fin1 (((-1756908914 : Int32) ^^^ (p0 &&& (65535 : Int32))) * (1540483477 : Int32))) * (1540483477 : Int32)) ^^^ (ushr ((fin1 (((-1756908914 : Int32) ^^^ (p0 &&& (65535 : Int32))) * (1540483477 : Int32))) * (1540483477 : Int32)) (15 : Int32))))]) = (mkF m 131 #[.val (.int p0), .val (.int p1), .val (.int (2 : Int32)), .val (.int (1540483477 : Int32)), .val (.int ((fin1 (((-1756908914 : Int32) ^^^ (p0 &&& (65535 : Int32))) * (1540483477 : Int32))) * (1540483477 : Int32))), .val (.int (2 : Int32)), .val (.int p0), .val (.int (65535 : Int32))] [(.int (fin2 ((fin1 (((-1756908914 : Int32) ^^^ (p0 &&& (65535 : Int32))) * (1540483477 : Int32))) * (1540483477 : Int32))))]) from by rw [show (((fin1 (((-1756908914 : Int32) ^^^ (p0 &&& (65535 : Int32))) * (1540483477 : Int32))) * (1540483477 : Int32)) ^^^ (ushr ((fin1 (((-1756908914 : Int32) ^^^ (p0 &&& (65535 : Int32))) * (1540483477 : Int32))) * (1540483477 : Int32)) (15 : Int32))) = (fin2 ((fin1 (((-1756908914 : Int32) ^^^ (p0 &&& (65535 : Int32))) * (1540483477 : Int32))) * (1540483477 : Int32))) from rfl]) ?_
  refine g_istore X0 hx (hb hby d2_131) (pc' := 133) rfl (Ls' := #[.val (.int p0), .val (.int p1), .val (.int (2 : Int32)), .val (.int (1540483477 : Int32)), .val (.int (fin2 ((fin1 (((-1756908914 : Int32) ^^^ (p0 &&& (65535 : Int32))) * (1540483477 : Int32))) * (1540483477 : Int32)))), .val (.int (2 : Int32)), .val (.int p0), .val (.int (65535 : Int32))]) rfl ?_
  refine g_iload X0 hx (hb hby d2_133) (pc' := 135) rfl rfl ?_
  exact g_ireturn X0 hx hret (hb hby d2_135) N0 hlk (fun v t => endF (by decide) (by decide) v) (by rw [e0]; exact ⟨rfl, rfl⟩)
theorem ef_1_3 (x0 : Addr) (m : MethodId) : entryFrame m #[(.ref x0)] 6 = mkF m 0 #[.val (.ref x0), .unset, .unset, .unset, .unset, .unset] [] := by first | (simp [entryFrame, mkF, argsToLocals, Value.category]; done) | rfl
def Q1_3 (Z : State) (a : Addr) (x0 : Int32) (x1 : Int32) (x2 : Int32) (h0 : Heap) (n0 : Nat) : Option Value → Heap → Prop := fun v h => v = some (.int (fin2 ((fin1 (((((-1756908913 : Int32) ^^^ (shl (x0 &&& (255 : Int32)) (0 : Int32))) ^^^ (shl (x1 &&& (255 : Int32)) (8 : Int32))) ^^^ (shl (x2 &&& (255 : Int32)) (16 : Int32))) * (1540483477 : Int32))) * (1540483477 : Int32)))) ∧ h0 = h
set_option maxRecDepth 65536 in
set_option maxHeartbeats 40000000 in
theorem rm1_3 (l : Launch) (Z : State) (a0 : Array Value) (hw : ∀ d ∈ tables_1, d.before a0 Z = true) (a : Addr) (x0 : Int32) (x1 : Int32) (x2 : Int32) (h0 : Heap) (n0 : Nat) (Z0 : n0 ≤ h0.size) (V1 : Va Z h0 a .byte [(.int x0), (.int x1), (.int x2)]) : Ctr l Z (⟨"com/example/stream_log_client/streamlogclient/producer/Partitioner", "murmur2", "([B)I"⟩ : MethodName) prog_67_method_3_code 6 (some .int) ({ frames := 0, cells := 0, slots := 0, locals := 0 } : Room) #[(.ref a)] h0 n0 (Q1_3 Z a x0 x1 x2 h0 n0) := by
  refine Ctr.of (plainFor_of_name pn_1) (ef_1_3 a) ?_
  intro p e s m below meth c T0 hx hby hml hown hnm hret hlk hZ X0 e0
  have N0 := Fr.nil n0
  refine g_aloadN X0 hx (hb hby d1_0) (pc' := 1) rfl rfl rfl ?_
  refine g_arraylength X0 hx hZ e0 V1 (z := (3 : Int32)) (hb hby d1_1) (pc' := 2) rfl rfl ?_
  refine g_istoreN X0 hx (hb hby d1_2) (pc' := 3) rfl (Ls' := #[.val (.ref a), .val (.int (3 : Int32)), .unset, .unset, .unset, .unset]) rfl ?_
  refine g_ldc X0 hx hZ hown (hw _ (List.mem_of_getElem? (i := 6) rfl)) (hb hby d1_3) (pc' := 5) rfl ?_
  refine g_iloadN X0 hx (hb hby d1_5) (pc' := 6) rfl rfl ?_
  refine g_ixor X0 hx (hb hby d1_6) (pc' := 7) rfl ?_
  refine Go.cast (show (mkF m 7 #[.val (.ref a), .val (.int (3 : Int32)), .unset, .unset, .unset, .unset] [(.int ((-1756908916 : Int32) ^^^ (3 : Int32)))]) = (mkF m 7 #[.val (.ref a), .val (.int (3 : Int32)), .unset, .unset, .unset, .unset] [(.int (-1756908913 : Int32))]) from by rw [show ((-1756908916 : Int32) ^^^ (3 : Int32)) = (-1756908913 : Int32) from (by decide)]) ?_
  refine g_istoreN X0 hx (hb hby d1_7) (pc' := 8) rfl (Ls' := #[.val (.ref a), .val (.int (3 : Int32)), .val (.int (-1756908913 : Int32)), .unset, .unset, .unset]) rfl ?_
  refine g_iloadN X0 hx (hb hby d1_8) (pc' := 9) rfl rfl ?_
  refine g_iloadN X0 hx (hb hby d1_9) (pc' := 10) rfl rfl ?_
  refine g_iconst X0 hx (hb hby d1_10) (pc' := 11) rfl (z := (4 : Int32)) rfl ?_
  refine g_irem X0 hx (hb hby d1_11) (pc' := 12) rfl (by decide) ?_
  refine Go.cast (show (mkF m 12 #[.val (.ref a), .val (.int (3 : Int32)), .val (.int (-1756908913 : Int32)), .unset, .unset, .unset] [(.int ((3 : Int32) % (4 : Int32))), (.int (3 : Int32))]) = (mkF m 12 #[.val (.ref a), .val (.int (3 : Int32)), .val (.int (-1756908913 : Int32)), .unset, .unset, .unset] [(.int (3 : Int32)), (.int (3 : Int32))]) from by rw [show ((3 : Int32) % (4 : Int32)) = (3 : Int32) from (by decide)]) ?_
  refine g_isub X0 hx (hb hby d1_12) (pc' := 13) rfl ?_
  refine Go.cast (show (mkF m 13 #[.val (.ref a), .val (.int (3 : Int32)), .val (.int (-1756908913 : Int32)), .unset, .unset, .unset] [(.int ((3 : Int32) - (3 : Int32)))]) = (mkF m 13 #[.val (.ref a), .val (.int (3 : Int32)), .val (.int (-1756908913 : Int32)), .unset, .unset, .unset] [(.int (0 : Int32))]) from by rw [show ((3 : Int32) - (3 : Int32)) = (0 : Int32) from (by decide)]) ?_
  refine g_istoreN X0 hx (hb hby d1_13) (pc' := 14) rfl (Ls' := #[.val (.ref a), .val (.int (3 : Int32)), .val (.int (-1756908913 : Int32)), .val (.int (0 : Int32)), .unset, .unset]) rfl ?_
  refine g_iconst X0 hx (hb hby d1_14) (pc' := 15) rfl (z := (0 : Int32)) rfl ?_
  refine g_istore X0 hx (hb hby d1_15) (pc' := 17) rfl (Ls' := #[.val (.ref a), .val (.int (3 : Int32)), .val (.int (-1756908913 : Int32)), .val (.int (0 : Int32)), .val (.int (0 : Int32)), .unset]) rfl ?_
  refine g_iload X0 hx (hb hby d1_17) (pc' := 19) rfl rfl ?_
  refine g_iloadN X0 hx (hb hby d1_19) (pc' := 20) rfl rfl ?_
  refine g_icmp_ge X0 hx (hb hby d1_20) (pc1 := 23) rfl (by decide) (pc2 := 115) (by decide) (fun hc20 => ?_) (fun hc20 => absurd hc20 (by decide))
  refine g_iloadN X0 hx (hb hby d1_115) (pc' := 116) rfl rfl ?_
  refine g_istore X0 hx (hb hby d1_116) (pc' := 118) rfl (Ls' := #[.val (.ref a), .val (.int (3 : Int32)), .val (.int (-1756908913 : Int32)), .val (.int (0 : Int32)), .val (.int (0 : Int32)), .unset]) rfl ?_
  refine g_iload X0 hx (hb hby d1_118) (pc' := 120) rfl rfl ?_
  refine g_iloadN X0 hx (hb hby d1_120) (pc' := 121) rfl rfl ?_
  refine g_icmp_ge X0 hx (hb hby d1_121) (pc1 := 124) rfl (by decide) (pc2 := 149) (by decide) (fun hc121 => absurd (by decide) hc121) (fun hc121 => ?_)
  refine g_iloadN X0 hx (hb hby d1_124) (pc' := 125) rfl rfl ?_
  refine g_aloadN X0 hx (hb hby d1_125) (pc' := 126) rfl rfl rfl ?_
  refine g_iload X0 hx (hb hby d1_126) (pc' := 128) rfl rfl ?_
  refine g_baload X0 hx hZ e0 V1 (i := 0) (v := (.int x0)) (hb hby d1_128) (pc' := 129) rfl (by decide) rfl rfl ?_
  refine g_sipush X0 hx (hb hby d1_129) (pc' := 132) rfl (z := (255 : Int32)) rfl ?_
  refine g_iand X0 hx (hb hby d1_132) (pc' := 133) rfl ?_
  refine g_bipush X0 hx (hb hby d1_133) (pc' := 135) rfl (z := (8 : Int32)) rfl ?_
  refine g_iload X0 hx (hb hby d1_135) (pc' := 137) rfl rfl ?_
  refine g_iloadN X0 hx (hb hby d1_137) (pc' := 138) rfl rfl ?_
  refine g_isub X0 hx (hb hby d1_138) (pc' := 139) rfl ?_
  refine Go.cast (show (mkF m 139 #[.val (.ref a), .val (.int (3 : Int32)), .val (.int (-1756908913 : Int32)), .val (.int (0 : Int32)), .val (.int (0 : Int32)), .unset] [(.int ((0 : Int32) - (0 : Int32))), (.int (8 : Int32)), (.int (x0 &&& (255 : Int32))), (.int (-1756908913 : Int32))]) = (mkF m 139 #[.val (.ref a), .val (.int (3 : Int32)), .val (.int (-1756908913 : Int32)), .val (.int (0 : Int32)), .val (.int (0 : Int32)), .unset] [(.int (0 : Int32)), (.int (8 : Int32)), (.int (x0 &&& (255 : Int32))), (.int (-1756908913 : Int32))]) from by rw [show ((0 : Int32) - (0 : Int32)) = (0 : Int32) from (by decide)]) ?_
  refine g_imul X0 hx (hb hby d1_139) (pc' := 140) rfl ?_
  refine Go.cast (show (mkF m 140 #[.val (.ref a), .val (.int (3 : Int32)), .val (.int (-1756908913 : Int32)), .val (.int (0 : Int32)), .val (.int (0 : Int32)), .unset] [(.int ((8 : Int32) * (0 : Int32))), (.int (x0 &&& (255 : Int32))), (.int (-1756908913 : Int32))]) = (mkF m 140 #[.val (.ref a), .val (.int (3 : Int32)), .val (.int (-1756908913 : Int32)), .val (.int (0 : Int32)), .val (.int (0 : Int32)), .unset] [(.int (0 : Int32)), (.int (x0 &&& (255 : Int32))), (.int (-1756908913 : Int32))]) from by rw [show ((8 : Int32) * (0 : Int32)) = (0 : Int32) from (by decide)]) ?_
  refine g_ishl X0 hx (hb hby d1_140) (pc' := 141) rfl ?_
  refine g_ixor X0 hx (hb hby d1_141) (pc' := 142) rfl ?_
  refine g_istoreN X0 hx (hb hby d1_142) (pc' := 143) rfl (Ls' := #[.val (.ref a), .val (.int (3 : Int32)), .val (.int ((-1756908913 : Int32) ^^^ (shl (x0 &&& (255 : Int32)) (0 : Int32)))), .val (.int (0 : Int32)), .val (.int (0 : Int32)), .unset]) rfl ?_
  refine g_iinc X0 hx (hb hby d1_143) (pc' := 146) rfl rfl (z := (1 : Int32)) rfl (Ls' := #[.val (.ref a), .val (.int (3 : Int32)), .val (.int ((-1756908913 : Int32) ^^^ (shl (x0 &&& (255 : Int32)) (0 : Int32)))), .val (.int (0 : Int32)), .val (.int (1 : Int32)), .unset]) rfl ?_
  refine g_goto X0 hx (hb hby d1_146) (by decide) (pc' := 118) (by decide) ?_
  refine g_iload X0 hx (hb hby d1_118) (pc' := 120) rfl rfl ?_
  refine g_iloadN X0 hx (hb hby d1_120) (pc' := 121) rfl rfl ?_
  refine g_icmp_ge X0 hx (hb hby d1_121) (pc1 := 124) rfl (by decide) (pc2 := 149) (by decide) (fun hc121_1 => absurd (by decide) hc121_1) (fun hc121_1 => ?_)
  refine g_iloadN X0 hx (hb hby d1_124) (pc' := 125) rfl rfl ?_
  refine g_aloadN X0 hx (hb hby d1_125) (pc' := 126) rfl rfl rfl ?_
  refine g_iload X0 hx (hb hby d1_126) (pc' := 128) rfl rfl ?_
  refine g_baload X0 hx hZ e0 V1 (i := 1) (v := (.int x1)) (hb hby d1_128) (pc' := 129) rfl (by decide) rfl rfl ?_
  refine g_sipush X0 hx (hb hby d1_129) (pc' := 132) rfl (z := (255 : Int32)) rfl ?_
  refine g_iand X0 hx (hb hby d1_132) (pc' := 133) rfl ?_
  refine g_bipush X0 hx (hb hby d1_133) (pc' := 135) rfl (z := (8 : Int32)) rfl ?_
  refine g_iload X0 hx (hb hby d1_135) (pc' := 137) rfl rfl ?_
  refine g_iloadN X0 hx (hb hby d1_137) (pc' := 138) rfl rfl ?_
  refine g_isub X0 hx (hb hby d1_138) (pc' := 139) rfl ?_
  refine Go.cast (show (mkF m 139 #[.val (.ref a), .val (.int (3 : Int32)), .val (.int ((-1756908913 : Int32) ^^^ (shl (x0 &&& (255 : Int32)) (0 : Int32)))), .val (.int (0 : Int32)), .val (.int (1 : Int32)), .unset] [(.int ((1 : Int32) - (0 : Int32))), (.int (8 : Int32)), (.int (x1 &&& (255 : Int32))), (.int ((-1756908913 : Int32) ^^^ (shl (x0 &&& (255 : Int32)) (0 : Int32))))]) = (mkF m 139 #[.val (.ref a), .val (.int (3 : Int32)), .val (.int ((-1756908913 : Int32) ^^^ (shl (x0 &&& (255 : Int32)) (0 : Int32)))), .val (.int (0 : Int32)), .val (.int (1 : Int32)), .unset] [(.int (1 : Int32)), (.int (8 : Int32)), (.int (x1 &&& (255 : Int32))), (.int ((-1756908913 : Int32) ^^^ (shl (x0 &&& (255 : Int32)) (0 : Int32))))]) from by rw [show ((1 : Int32) - (0 : Int32)) = (1 : Int32) from (by decide)]) ?_
  refine g_imul X0 hx (hb hby d1_139) (pc' := 140) rfl ?_
  refine Go.cast (show (mkF m 140 #[.val (.ref a), .val (.int (3 : Int32)), .val (.int ((-1756908913 : Int32) ^^^ (shl (x0 &&& (255 : Int32)) (0 : Int32)))), .val (.int (0 : Int32)), .val (.int (1 : Int32)), .unset] [(.int ((8 : Int32) * (1 : Int32))), (.int (x1 &&& (255 : Int32))), (.int ((-1756908913 : Int32) ^^^ (shl (x0 &&& (255 : Int32)) (0 : Int32))))]) = (mkF m 140 #[.val (.ref a), .val (.int (3 : Int32)), .val (.int ((-1756908913 : Int32) ^^^ (shl (x0 &&& (255 : Int32)) (0 : Int32)))), .val (.int (0 : Int32)), .val (.int (1 : Int32)), .unset] [(.int (8 : Int32)), (.int (x1 &&& (255 : Int32))), (.int ((-1756908913 : Int32) ^^^ (shl (x0 &&& (255 : Int32)) (0 : Int32))))]) from by rw [show ((8 : Int32) * (1 : Int32)) = (8 : Int32) from (by decide)]) ?_
  refine g_ishl X0 hx (hb hby d1_140) (pc' := 141) rfl ?_
  refine g_ixor X0 hx (hb hby d1_141) (pc' := 142) rfl ?_
  refine g_istoreN X0 hx (hb hby d1_142) (pc' := 143) rfl (Ls' := #[.val (.ref a), .val (.int (3 : Int32)), .val (.int (((-1756908913 : Int32) ^^^ (shl (x0 &&& (255 : Int32)) (0 : Int32))) ^^^ (shl (x1 &&& (255 : Int32)) (8 : Int32)))), .val (.int (0 : Int32)), .val (.int (1 : Int32)), .unset]) rfl ?_
  refine g_iinc X0 hx (hb hby d1_143) (pc' := 146) rfl rfl (z := (1 : Int32)) rfl (Ls' := #[.val (.ref a), .val (.int (3 : Int32)), .val (.int (((-1756908913 : Int32) ^^^ (shl (x0 &&& (255 : Int32)) (0 : Int32))) ^^^ (shl (x1 &&& (255 : Int32)) (8 : Int32)))), .val (.int (0 : Int32)), .val (.int (2 : Int32)), .unset]) rfl ?_
  refine g_goto X0 hx (hb hby d1_146) (by decide) (pc' := 118) (by decide) ?_
  refine g_iload X0 hx (hb hby d1_118) (pc' := 120) rfl rfl ?_
  refine g_iloadN X0 hx (hb hby d1_120) (pc' := 121) rfl rfl ?_
  refine g_icmp_ge X0 hx (hb hby d1_121) (pc1 := 124) rfl (by decide) (pc2 := 149) (by decide) (fun hc121_2 => absurd (by decide) hc121_2) (fun hc121_2 => ?_)
  refine g_iloadN X0 hx (hb hby d1_124) (pc' := 125) rfl rfl ?_
  refine g_aloadN X0 hx (hb hby d1_125) (pc' := 126) rfl rfl rfl ?_
  refine g_iload X0 hx (hb hby d1_126) (pc' := 128) rfl rfl ?_
  refine g_baload X0 hx hZ e0 V1 (i := 2) (v := (.int x2)) (hb hby d1_128) (pc' := 129) rfl (by decide) rfl rfl ?_
  refine g_sipush X0 hx (hb hby d1_129) (pc' := 132) rfl (z := (255 : Int32)) rfl ?_
  refine g_iand X0 hx (hb hby d1_132) (pc' := 133) rfl ?_
  refine g_bipush X0 hx (hb hby d1_133) (pc' := 135) rfl (z := (8 : Int32)) rfl ?_
  refine g_iload X0 hx (hb hby d1_135) (pc' := 137) rfl rfl ?_
  refine g_iloadN X0 hx (hb hby d1_137) (pc' := 138) rfl rfl ?_
  refine g_isub X0 hx (hb hby d1_138) (pc' := 139) rfl ?_
  refine Go.cast (show (mkF m 139 #[.val (.ref a), .val (.int (3 : Int32)), .val (.int (((-1756908913 : Int32) ^^^ (shl (x0 &&& (255 : Int32)) (0 : Int32))) ^^^ (shl (x1 &&& (255 : Int32)) (8 : Int32)))), .val (.int (0 : Int32)), .val (.int (2 : Int32)), .unset] [(.int ((2 : Int32) - (0 : Int32))), (.int (8 : Int32)), (.int (x2 &&& (255 : Int32))), (.int (((-1756908913 : Int32) ^^^ (shl (x0 &&& (255 : Int32)) (0 : Int32))) ^^^ (shl (x1 &&& (255 : Int32)) (8 : Int32))))]) = (mkF m 139 #[.val (.ref a), .val (.int (3 : Int32)), .val (.int (((-1756908913 : Int32) ^^^ (shl (x0 &&& (255 : Int32)) (0 : Int32))) ^^^ (shl (x1 &&& (255 : Int32)) (8 : Int32)))), .val (.int (0 : Int32)), .val (.int (2 : Int32)), .unset] [(.int (2 : Int32)), (.int (8 : Int32)), (.int (x2 &&& (255 : Int32))), (.int (((-1756908913 : Int32) ^^^ (shl (x0 &&& (255 : Int32)) (0 : Int32))) ^^^ (shl (x1 &&& (255 : Int32)) (8 : Int32))))]) from by rw [show ((2 : Int32) - (0 : Int32)) = (2 : Int32) from (by decide)]) ?_
  refine g_imul X0 hx (hb hby d1_139) (pc' := 140) rfl ?_
  refine Go.cast (show (mkF m 140 #[.val (.ref a), .val (.int (3 : Int32)), .val (.int (((-1756908913 : Int32) ^^^ (shl (x0 &&& (255 : Int32)) (0 : Int32))) ^^^ (shl (x1 &&& (255 : Int32)) (8 : Int32)))), .val (.int (0 : Int32)), .val (.int (2 : Int32)), .unset] [(.int ((8 : Int32) * (2 : Int32))), (.int (x2 &&& (255 : Int32))), (.int (((-1756908913 : Int32) ^^^ (shl (x0 &&& (255 : Int32)) (0 : Int32))) ^^^ (shl (x1 &&& (255 : Int32)) (8 : Int32))))]) = (mkF m 140 #[.val (.ref a), .val (.int (3 : Int32)), .val (.int (((-1756908913 : Int32) ^^^ (shl (x0 &&& (255 : Int32)) (0 : Int32))) ^^^ (shl (x1 &&& (255 : Int32)) (8 : Int32)))), .val (.int (0 : Int32)), .val (.int (2 : Int32)), .unset] [(.int (16 : Int32)), (.int (x2 &&& (255 : Int32))), (.int (((-1756908913 : Int32) ^^^ (shl (x0 &&& (255 : Int32)) (0 : Int32))) ^^^ (shl (x1 &&& (255 : Int32)) (8 : Int32))))]) from by rw [show ((8 : Int32) * (2 : Int32)) = (16 : Int32) from (by decide)]) ?_
  refine g_ishl X0 hx (hb hby d1_140) (pc' := 141) rfl ?_
  refine g_ixor X0 hx (hb hby d1_141) (pc' := 142) rfl ?_
  refine g_istoreN X0 hx (hb hby d1_142) (pc' := 143) rfl (Ls' := #[.val (.ref a), .val (.int (3 : Int32)), .val (.int ((((-1756908913 : Int32) ^^^ (shl (x0 &&& (255 : Int32)) (0 : Int32))) ^^^ (shl (x1 &&& (255 : Int32)) (8 : Int32))) ^^^ (shl (x2 &&& (255 : Int32)) (16 : Int32)))), .val (.int (0 : Int32)), .val (.int (2 : Int32)), .unset]) rfl ?_
  refine g_iinc X0 hx (hb hby d1_143) (pc' := 146) rfl rfl (z := (1 : Int32)) rfl (Ls' := #[.val (.ref a), .val (.int (3 : Int32)), .val (.int ((((-1756908913 : Int32) ^^^ (shl (x0 &&& (255 : Int32)) (0 : Int32))) ^^^ (shl (x1 &&& (255 : Int32)) (8 : Int32))) ^^^ (shl (x2 &&& (255 : Int32)) (16 : Int32)))), .val (.int (0 : Int32)), .val (.int (3 : Int32)), .unset]) rfl ?_
  refine g_goto X0 hx (hb hby d1_146) (by decide) (pc' := 118) (by decide) ?_
  refine g_iload X0 hx (hb hby d1_118) (pc' := 120) rfl rfl ?_
  refine g_iloadN X0 hx (hb hby d1_120) (pc' := 121) rfl rfl ?_
  refine g_icmp_ge X0 hx (hb hby d1_121) (pc1 := 124) rfl (by decide) (pc2 := 149) (by decide) (fun hc121_3 => ?_) (fun hc121_3 => absurd hc121_3 (by decide))
  refine g_iloadN X0 hx (hb hby d1_149) (pc' := 150) rfl rfl ?_
  refine g_iloadN X0 hx (hb hby d1_150) (pc' := 151) rfl rfl ?_
  refine g_icmp_ge X0 hx (hb hby d1_151) (pc1 := 154) rfl (by decide) (pc2 := 159) (by decide) (fun hc151 => absurd (by decide) hc151) (fun hc151 => ?_)
  refine g_iloadN X0 hx (hb hby d1_154) (pc' := 155) rfl rfl ?_
  refine g_ldc X0 hx hZ hown (hw _ (List.mem_of_getElem? (i := 7) rfl)) (hb hby d1_155) (pc' := 157) rfl ?_
  refine g_imul X0 hx (hb hby d1_157) (pc' := 158) rfl ?_
  refine g_istoreN X0 hx (hb hby d1_158) (pc' := 159) rfl (Ls' := #[.val (.ref a), .val (.int (3 : Int32)), .val (.int (((((-1756908913 : Int32) ^^^ (shl (x0 &&& (255 : Int32)) (0 : Int32))) ^^^ (shl (x1 &&& (255 : Int32)) (8 : Int32))) ^^^ (shl (x2 &&& (255 : Int32)) (16 : Int32))) * (1540483477 : Int32))), .val (.int (0 : Int32)), .val (.int (3 : Int32)), .unset]) rfl ?_
  refine g_iloadN X0 hx (hb hby d1_159) (pc' := 160) rfl rfl ?_
  refine g_iloadN X0 hx (hb hby d1_160) (pc' := 161) rfl rfl ?_
  refine g_bipush X0 hx (hb hby d1_161) (pc' := 163) rfl (z := (13 : Int32)) rfl ?_
  refine g_iushr X0 hx (hb hby d1_163) (pc' := 164) rfl ?_
  refine g_ixor X0 hx (hb hby d1_164) (pc' := 165) rfl ?_
  refine Go.cast (show (mkF m 165 #[.val (.ref a), .val (.int (3 : Int32)), .val (.int (((((-1756908913 : Int32) ^^^ (shl (x0 &&& (255 : Int32)) (0 : Int32))) ^^^ (shl (x1 &&& (255 : Int32)) (8 : Int32))) ^^^ (shl (x2 &&& (255 : Int32)) (16 : Int32))) * (1540483477 : Int32))), .val (.int (0 : Int32)), .val (.int (3 : Int32)), .unset] [(.int ((((((-1756908913 : Int32) ^^^ (shl (x0 &&& (255 : Int32)) (0 : Int32))) ^^^ (shl (x1 &&& (255 : Int32)) (8 : Int32))) ^^^ (shl (x2 &&& (255 : Int32)) (16 : Int32))) * (1540483477 : Int32)) ^^^ (ushr (((((-1756908913 : Int32) ^^^ (shl (x0 &&& (255 : Int32)) (0 : Int32))) ^^^ (shl (x1 &&& (255 : Int32)) (8 : Int32))) ^^^ (shl (x2 &&& (255 : Int32)) (16 : Int32))) * (1540483477 : Int32)) (13 : Int32))))]) = (mkF m 165 #[.val (.ref a), .val (.int (3 : Int32)), .val (.int (((((-1756908913 : Int32) ^^^ (shl (x0 &&& (255 : Int32)) (0 : Int32))) ^^^ (shl (x1 &&& (255 : Int32)) (8 : Int32))) ^^^ (shl (x2 &&& (255 : Int32)) (16 : Int32))) * (1540483477 : Int32))), .val (.int (0 : Int32)), .val (.int (3 : Int32)), .unset] [(.int (fin1 (((((-1756908913 : Int32) ^^^ (shl (x0 &&& (255 : Int32)) (0 : Int32))) ^^^ (shl (x1 &&& (255 : Int32)) (8 : Int32))) ^^^ (shl (x2 &&& (255 : Int32)) (16 : Int32))) * (1540483477 : Int32))))]) from by rw [show ((((((-1756908913 : Int32) ^^^ (shl (x0 &&& (255 : Int32)) (0 : Int32))) ^^^ (shl (x1 &&& (255 : Int32)) (8 : Int32))) ^^^ (shl (x2 &&& (255 : Int32)) (16 : Int32))) * (1540483477 : Int32)) ^^^ (ushr (((((-1756908913 : Int32) ^^^ (shl (x0 &&& (255 : Int32)) (0 : Int32))) ^^^ (shl (x1 &&& (255 : Int32)) (8 : Int32))) ^^^ (shl (x2 &&& (255 : Int32)) (16 : Int32))) * (1540483477 : Int32)) (13 : Int32))) = (fin1 (((((-1756908913 : Int32) ^^^ (shl (x0 &&& (255 : Int32)) (0 : Int32))) ^^^ (shl (x1 &&& (255 : Int32)) (8 : Int32))) ^^^ (shl (x2 &&& (255 : Int32)) (16 : Int32))) * (1540483477 : Int32))) from rfl]) ?_
  refine g_istoreN X0 hx (hb hby d1_165) (pc' := 166) rfl (Ls' := #[.val (.ref a), .val (.int (3 : Int32)), .val (.int (fin1 (((((-1756908913 : Int32) ^^^ (shl (x0 &&& (255 : Int32)) (0 : Int32))) ^^^ (shl (x1 &&& (255 : Int32)) (8 : Int32))) ^^^ (shl (x2 &&& (255 : Int32)) (16 : Int32))) * (1540483477 : Int32)))), .val (.int (0 : Int32)), .val (.int (3 : Int32)), .unset]) rfl ?_
  refine g_iloadN X0 hx (hb hby d1_166) (pc' := 167) rfl rfl ?_
  refine g_ldc X0 hx hZ hown (hw _ (List.mem_of_getElem? (i := 7) rfl)) (hb hby d1_167) (pc' := 169) rfl ?_
  refine g_imul X0 hx (hb hby d1_169) (pc' := 170) rfl ?_
  refine g_istoreN X0 hx (hb hby d1_170) (pc' := 171) rfl (Ls' := #[.val (.ref a), .val (.int (3 : Int32)), .val (.int ((fin1 (((((-1756908913 : Int32) ^^^ (shl (x0 &&& (255 : Int32)) (0 : Int32))) ^^^ (shl (x1 &&& (255 : Int32)) (8 : Int32))) ^^^ (shl (x2 &&& (255 : Int32)) (16 : Int32))) * (1540483477 : Int32))) * (1540483477 : Int32))), .val (.int (0 : Int32)), .val (.int (3 : Int32)), .unset]) rfl ?_
  refine g_iloadN X0 hx (hb hby d1_171) (pc' := 172) rfl rfl ?_
  refine g_iloadN X0 hx (hb hby d1_172) (pc' := 173) rfl rfl ?_
  refine g_bipush X0 hx (hb hby d1_173) (pc' := 175) rfl (z := (15 : Int32)) rfl ?_
  refine g_iushr X0 hx (hb hby d1_175) (pc' := 176) rfl ?_
  refine g_ixor X0 hx (hb hby d1_176) (pc' := 177) rfl ?_
  refine Go.cast (show (mkF m 177 #[.val (.ref a), .val (.int (3 : Int32)), .val (.int ((fin1 (((((-1756908913 : Int32) ^^^ (shl (x0 &&& (255 : Int32)) (0 : Int32))) ^^^ (shl (x1 &&& (255 : Int32)) (8 : Int32))) ^^^ (shl (x2 &&& (255 : Int32)) (16 : Int32))) * (1540483477 : Int32))) * (1540483477 : Int32))), .val (.int (0 : Int32)), .val (.int (3 : Int32)), .unset] [(.int (((fin1 (((((-1756908913 : Int32) ^^^ (shl (x0 &&& (255 : Int32)) (0 : Int32))) ^^^ (shl (x1 &&& (255 : Int32)) (8 : Int32))) ^^^ (shl (x2 &&& (255 : Int32)) (16 : Int32))) * (1540483477 : Int32))) * (1540483477 : Int32)) ^^^ (ushr ((fin1 (((((-1756908913 : Int32) ^^^ (shl (x0 &&& (255 : Int32)) (0 : Int32))) ^^^ (shl (x1 &&& (255 : Int32)) (8 : Int32))) ^^^ (shl (x2 &&& (255 : Int32)) (16 : Int32))) * (1540483477 : Int32))) * (1540483477 : Int32)) (15 : Int32))))]) = (mkF m 177 #[.val (.ref a), .val (.int (3 : Int32)), .val (.int ((fin1 (((((-1756908913 : Int32) ^^^ (shl (x0 &&& (255 : Int32)) (0 : Int32))) ^^^ (shl (x1 &&& (255 : Int32)) (8 : Int32))) ^^^ (shl (x2 &&& (255 : Int32)) (16 : Int32))) * (1540483477 : Int32))) * (1540483477 : Int32))), .val (.int (0 : Int32)), .val (.int (3 : Int32)), .unset] [(.int (fin2 ((fin1 (((((-1756908913 : Int32) ^^^ (shl (x0 &&& (255 : Int32)) (0 : Int32))) ^^^ (shl (x1 &&& (255 : Int32)) (8 : Int32))) ^^^ (shl (x2 &&& (255 : Int32)) (16 : Int32))) * (1540483477 : Int32))) * (1540483477 : Int32))))]) from by rw [show (((fin1 (((((-1756908913 : Int32) ^^^ (shl (x0 &&& (255 : Int32)) (0 : Int32))) ^^^ (shl (x1 &&& (255 : Int32)) (8 : Int32))) ^^^ (shl (x2 &&& (255 : Int32)) (16 : Int32))) * (1540483477 : Int32))) * (1540483477 : Int32)) ^^^ (ushr ((fin1 (((((-1756908913 : Int32) ^^^ (shl (x0 &&& (255 : Int32)) (0 : Int32))) ^^^ (shl (x1 &&& (255 : Int32)) (8 : Int32))) ^^^ (shl (x2 &&& (255 : Int32)) (16 : Int32))) * (1540483477 : Int32))) * (1540483477 : Int32)) (15 : Int32))) = (fin2 ((fin1 (((((-1756908913 : Int32) ^^^ (shl (x0 &&& (255 : Int32)) (0 : Int32))) ^^^ (shl (x1 &&& (255 : Int32)) (8 : Int32))) ^^^ (shl (x2 &&& (255 : Int32)) (16 : Int32))) * (1540483477 : Int32))) * (1540483477 : Int32))) from rfl]) ?_
  refine g_istoreN X0 hx (hb hby d1_177) (pc' := 178) rfl (Ls' := #[.val (.ref a), .val (.int (3 : Int32)), .val (.int (fin2 ((fin1 (((((-1756908913 : Int32) ^^^ (shl (x0 &&& (255 : Int32)) (0 : Int32))) ^^^ (shl (x1 &&& (255 : Int32)) (8 : Int32))) ^^^ (shl (x2 &&& (255 : Int32)) (16 : Int32))) * (1540483477 : Int32))) * (1540483477 : Int32)))), .val (.int (0 : Int32)), .val (.int (3 : Int32)), .unset]) rfl ?_
  refine g_iloadN X0 hx (hb hby d1_178) (pc' := 179) rfl rfl ?_
  exact g_ireturn X0 hx hret (hb hby d1_179) N0 hlk (fun v t => endF (by decide) (by decide) v) (by rw [e0]; exact ⟨rfl, rfl⟩)
theorem d2_87 : decode method_4_code 87 = .ok (.ldc 28, 2) := by decide +kernel
theorem ef_2_3 (x0 : Int32) (x1 : Int32) (x2 : Int32) (m : MethodId) : entryFrame m #[(.int x0), (.int x1), (.int x2)] 8 = mkF m 0 #[.val (.int x0), .val (.int x1), .val (.int x2), .unset, .unset, .unset, .unset, .unset] [] := by first | (simp [entryFrame, mkF, argsToLocals, Value.category]; done) | rfl
def Q2_3 (Z : State) (p0 : Int32) (p1 : Int32) (h0 : Heap) (n0 : Nat) : Option Value → Heap → Prop := fun v h => v = some (.int (fin2 ((fin1 (((-1756908913 : Int32) ^^^ (p0 &&& (16777215 : Int32))) * (1540483477 : Int32))) * (1540483477 : Int32)))) ∧ h0 = h
set_option maxRecDepth 65536 in
set_option maxHeartbeats 40000000 in
theorem rm2_3 (l : Launch) (Z : State) (a0 : Array Value) (hw : ∀ d ∈ tables_1, d.before a0 Z = true) (p0 : Int32) (p1 : Int32) (h0 : Heap) (n0 : Nat) (Z0 : n0 ≤ h0.size) : Ctr l Z (⟨"com/example/stream_log_client/streamlogclient/producer/PartitionerMurmur2PinLaw", "ref", "(III)I"⟩ : MethodName) method_4_code 8 (some .int) ({ frames := 0, cells := 0, slots := 0, locals := 0 } : Room) #[(.int p0), (.int p1), (.int (3 : Int32))] h0 n0 (Q2_3 Z p0 p1 h0 n0) := by
  refine Ctr.of (plainFor_of_name pn_3) (ef_2_3 p0 p1 (3 : Int32)) ?_
  intro p e s m below meth c T0 hx hby hml hown hnm hret hlk hZ X0 e0
  have N0 := Fr.nil n0
  refine g_ldc X0 hx hZ hown (hw _ (List.mem_of_getElem? (i := 13) rfl)) (hb hby d2_0) (pc' := 2) rfl ?_
  refine g_istoreN X0 hx (hb hby d2_2) (pc' := 3) rfl (Ls' := #[.val (.int p0), .val (.int p1), .val (.int (3 : Int32)), .val (.int (1540483477 : Int32)), .unset, .unset, .unset, .unset]) rfl ?_
  refine g_ldc X0 hx hZ hown (hw _ (List.mem_of_getElem? (i := 14) rfl)) (hb hby d2_3) (pc' := 5) rfl ?_
  refine g_iloadN X0 hx (hb hby d2_5) (pc' := 6) rfl rfl ?_
  refine g_ixor X0 hx (hb hby d2_6) (pc' := 7) rfl ?_
  refine Go.cast (show (mkF m 7 #[.val (.int p0), .val (.int p1), .val (.int (3 : Int32)), .val (.int (1540483477 : Int32)), .unset, .unset, .unset, .unset] [(.int ((-1756908916 : Int32) ^^^ (3 : Int32)))]) = (mkF m 7 #[.val (.int p0), .val (.int p1), .val (.int (3 : Int32)), .val (.int (1540483477 : Int32)), .unset, .unset, .unset, .unset] [(.int (-1756908913 : Int32))]) from by rw [show ((-1756908916 : Int32) ^^^ (3 : Int32)) = (-1756908913 : Int32) from (by decide)]) ?_
  refine g_istore X0 hx (hb hby d2_7) (pc' := 9) rfl (Ls' := #[.val (.int p0), .val (.int p1), .val (.int (3 : Int32)), .val (.int (1540483477 : Int32)), .val (.int (-1756908913 : Int32)), .unset, .unset, .unset]) rfl ?_
  refine g_iloadN X0 hx (hb hby d2_9) (pc' := 10) rfl rfl ?_
  refine g_iconst X0 hx (hb hby d2_10) (pc' := 11) rfl (z := (4 : Int32)) rfl ?_
  refine g_icmp_lt X0 hx (hb hby d2_11) (pc1 := 14) rfl (by decide) (pc2 := 25) (by decide) (fun hc11 => ?_) (fun hc11 => absurd hc11 (by decide))
  refine g_iloadN X0 hx (hb hby d2_25) (pc' := 26) rfl rfl ?_
  refine g_bipush X0 hx (hb hby d2_26) (pc' := 28) rfl (z := (8 : Int32)) rfl ?_
  refine g_icmp_ne X0 hx (hb hby d2_28) (pc1 := 31) rfl (by decide) (pc2 := 42) (by decide) (fun hc28 => ?_) (fun hc28 => absurd hc28 (by decide))
  refine g_iloadN X0 hx (hb hby d2_42) (pc' := 43) rfl rfl ?_
  refine g_iconst X0 hx (hb hby d2_43) (pc' := 44) rfl (z := (3 : Int32)) rfl ?_
  refine g_iand X0 hx (hb hby d2_44) (pc' := 45) rfl ?_
  refine Go.cast (show (mkF m 45 #[.val (.int p0), .val (.int p1), .val (.int (3 : Int32)), .val (.int (1540483477 : Int32)), .val (.int (-1756908913 : Int32)), .unset, .unset, .unset] [(.int ((3 : Int32) &&& (3 : Int32)))]) = (mkF m 45 #[.val (.int p0), .val (.int p1), .val (.int (3 : Int32)), .val (.int (1540483477 : Int32)), .val (.int (-1756908913 : Int32)), .unset, .unset, .unset] [(.int (3 : Int32))]) from by rw [show ((3 : Int32) &&& (3 : Int32)) = (3 : Int32) from (by decide)]) ?_
  refine g_istore X0 hx (hb hby d2_45) (pc' := 47) rfl (Ls' := #[.val (.int p0), .val (.int p1), .val (.int (3 : Int32)), .val (.int (1540483477 : Int32)), .val (.int (-1756908913 : Int32)), .val (.int (3 : Int32)), .unset, .unset]) rfl ?_
  refine g_iload X0 hx (hb hby d2_47) (pc' := 49) rfl rfl ?_
  refine g_if_eq X0 hx (hb hby d2_49) (pc1 := 52) rfl (by decide) (pc2 := 107) (by decide) (fun hc49 => absurd hc49 (by decide)) (fun hc49 => ?_)
  refine g_iloadN X0 hx (hb hby d2_52) (pc' := 53) rfl rfl ?_
  refine g_iconst X0 hx (hb hby d2_53) (pc' := 54) rfl (z := (4 : Int32)) rfl ?_
  refine g_icmp_ge X0 hx (hb hby d2_54) (pc1 := 57) rfl (by decide) (pc2 := 61) (by decide) (fun hc54 => absurd (by decide) hc54) (fun hc54 => ?_)
  refine g_iloadN X0 hx (hb hby d2_57) (pc' := 58) rfl rfl ?_
  refine g_goto X0 hx (hb hby d2_58) (by decide) (pc' := 62) (by decide) ?_
  refine g_istore X0 hx (hb hby d2_62) (pc' := 64) rfl (Ls' := #[.val (.int p0), .val (.int p1), .val (.int (3 : Int32)), .val (.int (1540483477 : Int32)), .val (.int (-1756908913 : Int32)), .val (.int (3 : Int32)), .val (.int p0), .unset]) rfl ?_
  refine g_iload X0 hx (hb hby d2_64) (pc' := 66) rfl rfl ?_
  refine g_iconst X0 hx (hb hby d2_66) (pc' := 67) rfl (z := (1 : Int32)) rfl ?_
  refine g_icmp_ne X0 hx (hb hby d2_67) (pc1 := 70) rfl (by decide) (pc2 := 76) (by decide) (fun hc67 => ?_) (fun hc67 => absurd hc67 (by decide))
  refine g_iload X0 hx (hb hby d2_76) (pc' := 78) rfl rfl ?_
  refine g_iconst X0 hx (hb hby d2_78) (pc' := 79) rfl (z := (2 : Int32)) rfl ?_
  refine g_icmp_ne X0 hx (hb hby d2_79) (pc1 := 82) rfl (by decide) (pc2 := 87) (by decide) (fun hc79 => ?_) (fun hc79 => absurd hc79 (by decide))
  refine g_ldc X0 hx hZ hown (hw _ (List.mem_of_getElem? (i := 16) rfl)) (hb hby d2_87) (pc' := 89) rfl ?_
  refine g_istore X0 hx (hb hby d2_89) (pc' := 91) rfl (Ls' := #[.val (.int p0), .val (.int p1), .val (.int (3 : Int32)), .val (.int (1540483477 : Int32)), .val (.int (-1756908913 : Int32)), .val (.int (3 : Int32)), .val (.int p0), .val (.int (16777215 : Int32))]) rfl ?_
  refine g_iload X0 hx (hb hby d2_91) (pc' := 93) rfl rfl ?_
  refine g_iload X0 hx (hb hby d2_93) (pc' := 95) rfl rfl ?_
  refine g_iload X0 hx (hb hby d2_95) (pc' := 97) rfl rfl ?_
  refine g_iand X0 hx (hb hby d2_97) (pc' := 98) rfl ?_
  refine g_ixor X0 hx (hb hby d2_98) (pc' := 99) rfl ?_
  refine g_istore X0 hx (hb hby d2_99) (pc' := 101) rfl (Ls' := #[.val (.int p0), .val (.int p1), .val (.int (3 : Int32)), .val (.int (1540483477 : Int32)), .val (.int ((-1756908913 : Int32) ^^^ (p0 &&& (16777215 : Int32)))), .val (.int (3 : Int32)), .val (.int p0), .val (.int (16777215 : Int32))]) rfl ?_
  refine g_iload X0 hx (hb hby d2_101) (pc' := 103) rfl rfl ?_
  refine g_iloadN X0 hx (hb hby d2_103) (pc' := 104) rfl rfl ?_
  refine g_imul X0 hx (hb hby d2_104) (pc' := 105) rfl ?_
  refine g_istore X0 hx (hb hby d2_105) (pc' := 107) rfl (Ls' := #[.val (.int p0), .val (.int p1), .val (.int (3 : Int32)), .val (.int (1540483477 : Int32)), .val (.int (((-1756908913 : Int32) ^^^ (p0 &&& (16777215 : Int32))) * (1540483477 : Int32))), .val (.int (3 : Int32)), .val (.int p0), .val (.int (16777215 : Int32))]) rfl ?_
  refine g_iload X0 hx (hb hby d2_107) (pc' := 109) rfl rfl ?_
  refine g_iload X0 hx (hb hby d2_109) (pc' := 111) rfl rfl ?_
  refine g_bipush X0 hx (hb hby d2_111) (pc' := 113) rfl (z := (13 : Int32)) rfl ?_
  refine g_iushr X0 hx (hb hby d2_113) (pc' := 114) rfl ?_
  refine g_ixor X0 hx (hb hby d2_114) (pc' := 115) rfl ?_
  refine Go.cast (show (mkF m 115 #[.val (.int p0), .val (.int p1), .val (.int (3 : Int32)), .val (.int (1540483477 : Int32)), .val (.int (((-1756908913 : Int32) ^^^ (p0 &&& (16777215 : Int32))) * (1540483477 : Int32))), .val (.int (3 : Int32)), .val (.int p0), .val (.int (16777215 : Int32))] [(.int ((((-1756908913 : Int32) ^^^ (p0 &&& (16777215 : Int32))) * (1540483477 : Int32)) ^^^ (ushr (((-1756908913 : Int32) ^^^ (p0 &&& (16777215 : Int32))) * (1540483477 : Int32)) (13 : Int32))))]) = (mkF m 115 #[.val (.int p0), .val (.int p1), .val (.int (3 : Int32)), .val (.int (1540483477 : Int32)), .val (.int (((-1756908913 : Int32) ^^^ (p0 &&& (16777215 : Int32))) * (1540483477 : Int32))), .val (.int (3 : Int32)), .val (.int p0), .val (.int (16777215 : Int32))] [(.int (fin1 (((-1756908913 : Int32) ^^^ (p0 &&& (16777215 : Int32))) * (1540483477 : Int32))))]) from by rw [show ((((-1756908913 : Int32) ^^^ (p0 &&& (16777215 : Int32))) * (1540483477 : Int32)) ^^^ (ushr (((-1756908913 : Int32) ^^^ (p0 &&& (16777215 : Int32))) * (1540483477 : Int32)) (13 : Int32))) = (fin1 (((-1756908913 : Int32) ^^^ (p0 &&& (16777215 : Int32))) * (1540483477 : Int32))) from rfl]) ?_
  refine g_istore X0 hx (hb hby d2_115) (pc' := 117) rfl (Ls' := #[.val (.int p0), .val (.int p1), .val (.int (3 : Int32)), .val (.int (1540483477 : Int32)), .val (.int (fin1 (((-1756908913 : Int32) ^^^ (p0 &&& (16777215 : Int32))) * (1540483477 : Int32)))), .val (.int (3 : Int32)), .val (.int p0), .val (.int (16777215 : Int32))]) rfl ?_
  refine g_iload X0 hx (hb hby d2_117) (pc' := 119) rfl rfl ?_
  refine g_iloadN X0 hx (hb hby d2_119) (pc' := 120) rfl rfl ?_
  refine g_imul X0 hx (hb hby d2_120) (pc' := 121) rfl ?_
  refine g_istore X0 hx (hb hby d2_121) (pc' := 123) rfl (Ls' := #[.val (.int p0), .val (.int p1), .val (.int (3 : Int32)), .val (.int (1540483477 : Int32)), .val (.int ((fin1 (((-1756908913 : Int32) ^^^ (p0 &&& (16777215 : Int32))) * (1540483477 : Int32))) * (1540483477 : Int32))), .val (.int (3 : Int32)), .val (.int p0), .val (.int (16777215 : Int32))]) rfl ?_
  refine g_iload X0 hx (hb hby d2_123) (pc' := 125) rfl rfl ?_
  refine g_iload X0 hx (hb hby d2_125) (pc' := 127) rfl rfl ?_
  refine g_bipush X0 hx (hb hby d2_127) (pc' := 129) rfl (z := (15 : Int32)) rfl ?_
  refine g_iushr X0 hx (hb hby d2_129) (pc' := 130) rfl ?_
  refine g_ixor X0 hx (hb hby d2_130) (pc' := 131) rfl ?_
  refine Go.cast (show (mkF m 131 #[.val (.int p0), .val (.int p1), .val (.int (3 : Int32)), .val (.int (1540483477 : Int32)), .val (.int ((fin1 (((-1756908913 : Int32) ^^^ (p0 &&& (16777215 : Int32))) * (1540483477 : Int32))) * (1540483477 : Int32))), .val (.int (3 : Int32)), .val (.int p0), .val (.int (16777215 : Int32))] [(.int (((fin1 (((-1756908913 : Int32) ^^^ (p0 &&& (16777215 : Int32))) * (1540483477 : Int32))) * (1540483477 : Int32)) ^^^ (ushr ((fin1 (((-1756908913 : Int32) ^^^ (p0 &&& (16777215 : Int32))) * (1540483477 : Int32))) * (1540483477 : Int32)) (15 : Int32))))]) = (mkF m 131 #[.val (.int p0), .val (.int p1), .val (.int (3 : Int32)), .val (.int (1540483477 : Int32)), .val (.int ((fin1 (((-1756908913 : Int32) ^^^ (p0 &&& (16777215 : Int32))) * (1540483477 : Int32))) * (1540483477 : Int32))), .val (.int (3 : Int32)), .val (.int p0), .val (.int (16777215 : Int32))] [(.int (fin2 ((fin1 (((-1756908913 : Int32) ^^^ (p0 &&& (16777215 : Int32))) * (1540483477 : Int32))) * (1540483477 : Int32))))]) from by rw [show (((fin1 (((-1756908913 : Int32) ^^^ (p0 &&& (16777215 : Int32))) * (1540483477 : Int32))) * (1540483477 : Int32)) ^^^ (ushr ((fin1 (((-1756908913 : Int32) ^^^ (p0 &&& (16777215 : Int32))) * (1540483477 : Int32))) * (1540483477 : Int32)) (15 : Int32))) = (fin2 ((fin1 (((-1756908913 : Int32) ^^^ (p0 &&& (16777215 : Int32))) * (1540483477 : Int32))) * (1540483477 : Int32))) from rfl]) ?_
  refine g_istore X0 hx (hb hby d2_131) (pc' := 133) rfl (Ls' := #[.val (.int p0), .val (.int p1), .val (.int (3 : Int32)), .val (.int (1540483477 : Int32)), .val (.int (fin2 ((fin1 (((-1756908913 : Int32) ^^^ (p0 &&& (16777215 : Int32))) * (1540483477 : Int32))) * (1540483477 : Int32)))), .val (.int (3 : Int32)), .val (.int p0), .val (.int (16777215 : Int32))]) rfl ?_
  refine g_iload X0 hx (hb hby d2_133) (pc' := 135) rfl rfl ?_
  exact g_ireturn X0 hx hret (hb hby d2_135) N0 hlk (fun v t => endF (by decide) (by decide) v) (by rw [e0]; exact ⟨rfl, rfl⟩)
theorem d1_23 : decode prog_67_method_3_code 23 = .ok (.aload_n 0, 1) := by decide +kernel
theorem d1_24 : decode prog_67_method_3_code 24 = .ok (.iload 4, 2) := by decide +kernel
theorem d1_26 : decode prog_67_method_3_code 26 = .ok (.baload, 1) := by decide +kernel
theorem d1_27 : decode prog_67_method_3_code 27 = .ok (.sipush 255, 3) := by decide +kernel
theorem d1_30 : decode prog_67_method_3_code 30 = .ok (.iand, 1) := by decide +kernel
theorem d1_31 : decode prog_67_method_3_code 31 = .ok (.aload_n 0, 1) := by decide +kernel
theorem d1_32 : decode prog_67_method_3_code 32 = .ok (.iload 4, 2) := by decide +kernel
theorem d1_34 : decode prog_67_method_3_code 34 = .ok (.iconst 1, 1) := by decide +kernel
theorem d1_35 : decode prog_67_method_3_code 35 = .ok (.iadd, 1) := by decide +kernel
theorem d1_36 : decode prog_67_method_3_code 36 = .ok (.baload, 1) := by decide +kernel
theorem d1_37 : decode prog_67_method_3_code 37 = .ok (.sipush 255, 3) := by decide +kernel
theorem d1_40 : decode prog_67_method_3_code 40 = .ok (.iand, 1) := by decide +kernel
theorem d1_41 : decode prog_67_method_3_code 41 = .ok (.bipush 8, 2) := by decide +kernel
theorem d1_43 : decode prog_67_method_3_code 43 = .ok (.ishl, 1) := by decide +kernel
theorem d1_44 : decode prog_67_method_3_code 44 = .ok (.ior, 1) := by decide +kernel
theorem d1_45 : decode prog_67_method_3_code 45 = .ok (.aload_n 0, 1) := by decide +kernel
theorem d1_46 : decode prog_67_method_3_code 46 = .ok (.iload 4, 2) := by decide +kernel
theorem d1_48 : decode prog_67_method_3_code 48 = .ok (.iconst 2, 1) := by decide +kernel
theorem d1_49 : decode prog_67_method_3_code 49 = .ok (.iadd, 1) := by decide +kernel
theorem d1_50 : decode prog_67_method_3_code 50 = .ok (.baload, 1) := by decide +kernel
theorem d1_51 : decode prog_67_method_3_code 51 = .ok (.sipush 255, 3) := by decide +kernel
theorem d1_54 : decode prog_67_method_3_code 54 = .ok (.iand, 1) := by decide +kernel
theorem d1_55 : decode prog_67_method_3_code 55 = .ok (.bipush 16, 2) := by decide +kernel
theorem d1_57 : decode prog_67_method_3_code 57 = .ok (.ishl, 1) := by decide +kernel
theorem d1_58 : decode prog_67_method_3_code 58 = .ok (.ior, 1) := by decide +kernel
theorem d1_59 : decode prog_67_method_3_code 59 = .ok (.aload_n 0, 1) := by decide +kernel
theorem d1_60 : decode prog_67_method_3_code 60 = .ok (.iload 4, 2) := by decide +kernel
theorem d1_62 : decode prog_67_method_3_code 62 = .ok (.iconst 3, 1) := by decide +kernel
theorem d1_63 : decode prog_67_method_3_code 63 = .ok (.iadd, 1) := by decide +kernel
theorem d1_64 : decode prog_67_method_3_code 64 = .ok (.baload, 1) := by decide +kernel
theorem d1_65 : decode prog_67_method_3_code 65 = .ok (.sipush 255, 3) := by decide +kernel
theorem d1_68 : decode prog_67_method_3_code 68 = .ok (.iand, 1) := by decide +kernel
theorem d1_69 : decode prog_67_method_3_code 69 = .ok (.bipush 24, 2) := by decide +kernel
theorem d1_71 : decode prog_67_method_3_code 71 = .ok (.ishl, 1) := by decide +kernel
theorem d1_72 : decode prog_67_method_3_code 72 = .ok (.ior, 1) := by decide +kernel
theorem d1_73 : decode prog_67_method_3_code 73 = .ok (.istore 5, 2) := by decide +kernel
theorem d1_75 : decode prog_67_method_3_code 75 = .ok (.iload 5, 2) := by decide +kernel
theorem d1_77 : decode prog_67_method_3_code 77 = .ok (.ldc 32, 2) := by decide +kernel
theorem d1_79 : decode prog_67_method_3_code 79 = .ok (.imul, 1) := by decide +kernel
theorem d1_80 : decode prog_67_method_3_code 80 = .ok (.istore 5, 2) := by decide +kernel
theorem d1_82 : decode prog_67_method_3_code 82 = .ok (.iload 5, 2) := by decide +kernel
theorem d1_84 : decode prog_67_method_3_code 84 = .ok (.iload 5, 2) := by decide +kernel
theorem d1_86 : decode prog_67_method_3_code 86 = .ok (.bipush 24, 2) := by decide +kernel
theorem d1_88 : decode prog_67_method_3_code 88 = .ok (.iushr, 1) := by decide +kernel
theorem d1_89 : decode prog_67_method_3_code 89 = .ok (.ixor, 1) := by decide +kernel
theorem d1_90 : decode prog_67_method_3_code 90 = .ok (.istore 5, 2) := by decide +kernel
theorem d1_92 : decode prog_67_method_3_code 92 = .ok (.iload 5, 2) := by decide +kernel
theorem d1_94 : decode prog_67_method_3_code 94 = .ok (.ldc 32, 2) := by decide +kernel
theorem d1_96 : decode prog_67_method_3_code 96 = .ok (.imul, 1) := by decide +kernel
theorem d1_97 : decode prog_67_method_3_code 97 = .ok (.istore 5, 2) := by decide +kernel
theorem d1_99 : decode prog_67_method_3_code 99 = .ok (.iload_n 2, 1) := by decide +kernel
theorem d1_100 : decode prog_67_method_3_code 100 = .ok (.ldc 32, 2) := by decide +kernel
theorem d1_102 : decode prog_67_method_3_code 102 = .ok (.imul, 1) := by decide +kernel
theorem d1_103 : decode prog_67_method_3_code 103 = .ok (.istore_n 2, 1) := by decide +kernel
theorem d1_104 : decode prog_67_method_3_code 104 = .ok (.iload_n 2, 1) := by decide +kernel
theorem d1_105 : decode prog_67_method_3_code 105 = .ok (.iload 5, 2) := by decide +kernel
theorem d1_107 : decode prog_67_method_3_code 107 = .ok (.ixor, 1) := by decide +kernel
theorem d1_108 : decode prog_67_method_3_code 108 = .ok (.istore_n 2, 1) := by decide +kernel
theorem d1_109 : decode prog_67_method_3_code 109 = .ok (.iinc 4 4, 3) := by decide +kernel
theorem d1_112 : decode prog_67_method_3_code 112 = .ok (.goto (-95), 3) := by decide +kernel
theorem ef_1_4 (x0 : Addr) (m : MethodId) : entryFrame m #[(.ref x0)] 6 = mkF m 0 #[.val (.ref x0), .unset, .unset, .unset, .unset, .unset] [] := by first | (simp [entryFrame, mkF, argsToLocals, Value.category]; done) | rfl
def Q1_4 (Z : State) (a : Addr) (x0 : Int32) (x1 : Int32) (x2 : Int32) (x3 : Int32) (h0 : Heap) (n0 : Nat) : Option Value → Heap → Prop := fun v h => v = some (.int (fin2 ((fin1 ((1732292904 : Int32) ^^^ (mixV (wordV x0 x1 x2 x3)))) * (1540483477 : Int32)))) ∧ h0 = h
set_option maxRecDepth 65536 in
set_option maxHeartbeats 40000000 in
theorem rm1_4 (l : Launch) (Z : State) (a0 : Array Value) (hw : ∀ d ∈ tables_1, d.before a0 Z = true) (a : Addr) (x0 : Int32) (x1 : Int32) (x2 : Int32) (x3 : Int32) (h0 : Heap) (n0 : Nat) (Z0 : n0 ≤ h0.size) (V1 : Va Z h0 a .byte [(.int x0), (.int x1), (.int x2), (.int x3)]) : Ctr l Z (⟨"com/example/stream_log_client/streamlogclient/producer/Partitioner", "murmur2", "([B)I"⟩ : MethodName) prog_67_method_3_code 6 (some .int) ({ frames := 0, cells := 0, slots := 0, locals := 0 } : Room) #[(.ref a)] h0 n0 (Q1_4 Z a x0 x1 x2 x3 h0 n0) := by
  refine Ctr.of (plainFor_of_name pn_1) (ef_1_4 a) ?_
  intro p e s m below meth c T0 hx hby hml hown hnm hret hlk hZ X0 e0
  have N0 := Fr.nil n0
  refine g_aloadN X0 hx (hb hby d1_0) (pc' := 1) rfl rfl rfl ?_
  refine g_arraylength X0 hx hZ e0 V1 (z := (4 : Int32)) (hb hby d1_1) (pc' := 2) rfl rfl ?_
  refine g_istoreN X0 hx (hb hby d1_2) (pc' := 3) rfl (Ls' := #[.val (.ref a), .val (.int (4 : Int32)), .unset, .unset, .unset, .unset]) rfl ?_
  refine g_ldc X0 hx hZ hown (hw _ (List.mem_of_getElem? (i := 6) rfl)) (hb hby d1_3) (pc' := 5) rfl ?_
  refine g_iloadN X0 hx (hb hby d1_5) (pc' := 6) rfl rfl ?_
  refine g_ixor X0 hx (hb hby d1_6) (pc' := 7) rfl ?_
  refine Go.cast (show (mkF m 7 #[.val (.ref a), .val (.int (4 : Int32)), .unset, .unset, .unset, .unset] [(.int ((-1756908916 : Int32) ^^^ (4 : Int32)))]) = (mkF m 7 #[.val (.ref a), .val (.int (4 : Int32)), .unset, .unset, .unset, .unset] [(.int (-1756908920 : Int32))]) from by rw [show ((-1756908916 : Int32) ^^^ (4 : Int32)) = (-1756908920 : Int32) from (by decide)]) ?_
  refine g_istoreN X0 hx (hb hby d1_7) (pc' := 8) rfl (Ls' := #[.val (.ref a), .val (.int (4 : Int32)), .val (.int (-1756908920 : Int32)), .unset, .unset, .unset]) rfl ?_
  refine g_iloadN X0 hx (hb hby d1_8) (pc' := 9) rfl rfl ?_
  refine g_iloadN X0 hx (hb hby d1_9) (pc' := 10) rfl rfl ?_
  refine g_iconst X0 hx (hb hby d1_10) (pc' := 11) rfl (z := (4 : Int32)) rfl ?_
  refine g_irem X0 hx (hb hby d1_11) (pc' := 12) rfl (by decide) ?_
  refine Go.cast (show (mkF m 12 #[.val (.ref a), .val (.int (4 : Int32)), .val (.int (-1756908920 : Int32)), .unset, .unset, .unset] [(.int ((4 : Int32) % (4 : Int32))), (.int (4 : Int32))]) = (mkF m 12 #[.val (.ref a), .val (.int (4 : Int32)), .val (.int (-1756908920 : Int32)), .unset, .unset, .unset] [(.int (0 : Int32)), (.int (4 : Int32))]) from by rw [show ((4 : Int32) % (4 : Int32)) = (0 : Int32) from (by decide)]) ?_
  refine g_isub X0 hx (hb hby d1_12) (pc' := 13) rfl ?_
  refine Go.cast (show (mkF m 13 #[.val (.ref a), .val (.int (4 : Int32)), .val (.int (-1756908920 : Int32)), .unset, .unset, .unset] [(.int ((4 : Int32) - (0 : Int32)))]) = (mkF m 13 #[.val (.ref a), .val (.int (4 : Int32)), .val (.int (-1756908920 : Int32)), .unset, .unset, .unset] [(.int (4 : Int32))]) from by rw [show ((4 : Int32) - (0 : Int32)) = (4 : Int32) from (by decide)]) ?_
  refine g_istoreN X0 hx (hb hby d1_13) (pc' := 14) rfl (Ls' := #[.val (.ref a), .val (.int (4 : Int32)), .val (.int (-1756908920 : Int32)), .val (.int (4 : Int32)), .unset, .unset]) rfl ?_
  refine g_iconst X0 hx (hb hby d1_14) (pc' := 15) rfl (z := (0 : Int32)) rfl ?_
  refine g_istore X0 hx (hb hby d1_15) (pc' := 17) rfl (Ls' := #[.val (.ref a), .val (.int (4 : Int32)), .val (.int (-1756908920 : Int32)), .val (.int (4 : Int32)), .val (.int (0 : Int32)), .unset]) rfl ?_
  refine g_iload X0 hx (hb hby d1_17) (pc' := 19) rfl rfl ?_
  refine g_iloadN X0 hx (hb hby d1_19) (pc' := 20) rfl rfl ?_
  refine g_icmp_ge X0 hx (hb hby d1_20) (pc1 := 23) rfl (by decide) (pc2 := 115) (by decide) (fun hc20 => absurd (by decide) hc20) (fun hc20 => ?_)
  refine g_aloadN X0 hx (hb hby d1_23) (pc' := 24) rfl rfl rfl ?_
  refine g_iload X0 hx (hb hby d1_24) (pc' := 26) rfl rfl ?_
  refine g_baload X0 hx hZ e0 V1 (i := 0) (v := (.int x0)) (hb hby d1_26) (pc' := 27) rfl (by decide) rfl rfl ?_
  refine g_sipush X0 hx (hb hby d1_27) (pc' := 30) rfl (z := (255 : Int32)) rfl ?_
  refine g_iand X0 hx (hb hby d1_30) (pc' := 31) rfl ?_
  refine g_aloadN X0 hx (hb hby d1_31) (pc' := 32) rfl rfl rfl ?_
  refine g_iload X0 hx (hb hby d1_32) (pc' := 34) rfl rfl ?_
  refine g_iconst X0 hx (hb hby d1_34) (pc' := 35) rfl (z := (1 : Int32)) rfl ?_
  refine g_iadd X0 hx (hb hby d1_35) (pc' := 36) rfl ?_
  refine Go.cast (show (mkF m 36 #[.val (.ref a), .val (.int (4 : Int32)), .val (.int (-1756908920 : Int32)), .val (.int (4 : Int32)), .val (.int (0 : Int32)), .unset] [(.int ((0 : Int32) + (1 : Int32))), (.ref a), (.int (x0 &&& (255 : Int32)))]) = (mkF m 36 #[.val (.ref a), .val (.int (4 : Int32)), .val (.int (-1756908920 : Int32)), .val (.int (4 : Int32)), .val (.int (0 : Int32)), .unset] [(.int (1 : Int32)), (.ref a), (.int (x0 &&& (255 : Int32)))]) from by rw [show ((0 : Int32) + (1 : Int32)) = (1 : Int32) from (by decide)]) ?_
  refine g_baload X0 hx hZ e0 V1 (i := 1) (v := (.int x1)) (hb hby d1_36) (pc' := 37) rfl (by decide) rfl rfl ?_
  refine g_sipush X0 hx (hb hby d1_37) (pc' := 40) rfl (z := (255 : Int32)) rfl ?_
  refine g_iand X0 hx (hb hby d1_40) (pc' := 41) rfl ?_
  refine g_bipush X0 hx (hb hby d1_41) (pc' := 43) rfl (z := (8 : Int32)) rfl ?_
  refine g_ishl X0 hx (hb hby d1_43) (pc' := 44) rfl ?_
  refine g_ior X0 hx (hb hby d1_44) (pc' := 45) rfl ?_
  refine g_aloadN X0 hx (hb hby d1_45) (pc' := 46) rfl rfl rfl ?_
  refine g_iload X0 hx (hb hby d1_46) (pc' := 48) rfl rfl ?_
  refine g_iconst X0 hx (hb hby d1_48) (pc' := 49) rfl (z := (2 : Int32)) rfl ?_
  refine g_iadd X0 hx (hb hby d1_49) (pc' := 50) rfl ?_
  refine Go.cast (show (mkF m 50 #[.val (.ref a), .val (.int (4 : Int32)), .val (.int (-1756908920 : Int32)), .val (.int (4 : Int32)), .val (.int (0 : Int32)), .unset] [(.int ((0 : Int32) + (2 : Int32))), (.ref a), (.int ((x0 &&& (255 : Int32)) ||| (shl (x1 &&& (255 : Int32)) (8 : Int32))))]) = (mkF m 50 #[.val (.ref a), .val (.int (4 : Int32)), .val (.int (-1756908920 : Int32)), .val (.int (4 : Int32)), .val (.int (0 : Int32)), .unset] [(.int (2 : Int32)), (.ref a), (.int ((x0 &&& (255 : Int32)) ||| (shl (x1 &&& (255 : Int32)) (8 : Int32))))]) from by rw [show ((0 : Int32) + (2 : Int32)) = (2 : Int32) from (by decide)]) ?_
  refine g_baload X0 hx hZ e0 V1 (i := 2) (v := (.int x2)) (hb hby d1_50) (pc' := 51) rfl (by decide) rfl rfl ?_
  refine g_sipush X0 hx (hb hby d1_51) (pc' := 54) rfl (z := (255 : Int32)) rfl ?_
  refine g_iand X0 hx (hb hby d1_54) (pc' := 55) rfl ?_
  refine g_bipush X0 hx (hb hby d1_55) (pc' := 57) rfl (z := (16 : Int32)) rfl ?_
  refine g_ishl X0 hx (hb hby d1_57) (pc' := 58) rfl ?_
  refine g_ior X0 hx (hb hby d1_58) (pc' := 59) rfl ?_
  refine g_aloadN X0 hx (hb hby d1_59) (pc' := 60) rfl rfl rfl ?_
  refine g_iload X0 hx (hb hby d1_60) (pc' := 62) rfl rfl ?_
  refine g_iconst X0 hx (hb hby d1_62) (pc' := 63) rfl (z := (3 : Int32)) rfl ?_
  refine g_iadd X0 hx (hb hby d1_63) (pc' := 64) rfl ?_
  refine Go.cast (show (mkF m 64 #[.val (.ref a), .val (.int (4 : Int32)), .val (.int (-1756908920 : Int32)), .val (.int (4 : Int32)), .val (.int (0 : Int32)), .unset] [(.int ((0 : Int32) + (3 : Int32))), (.ref a), (.int (((x0 &&& (255 : Int32)) ||| (shl (x1 &&& (255 : Int32)) (8 : Int32))) ||| (shl (x2 &&& (255 : Int32)) (16 : Int32))))]) = (mkF m 64 #[.val (.ref a), .val (.int (4 : Int32)), .val (.int (-1756908920 : Int32)), .val (.int (4 : Int32)), .val (.int (0 : Int32)), .unset] [(.int (3 : Int32)), (.ref a), (.int (((x0 &&& (255 : Int32)) ||| (shl (x1 &&& (255 : Int32)) (8 : Int32))) ||| (shl (x2 &&& (255 : Int32)) (16 : Int32))))]) from by rw [show ((0 : Int32) + (3 : Int32)) = (3 : Int32) from (by decide)]) ?_
  refine g_baload X0 hx hZ e0 V1 (i := 3) (v := (.int x3)) (hb hby d1_64) (pc' := 65) rfl (by decide) rfl rfl ?_
  refine g_sipush X0 hx (hb hby d1_65) (pc' := 68) rfl (z := (255 : Int32)) rfl ?_
  refine g_iand X0 hx (hb hby d1_68) (pc' := 69) rfl ?_
  refine g_bipush X0 hx (hb hby d1_69) (pc' := 71) rfl (z := (24 : Int32)) rfl ?_
  refine g_ishl X0 hx (hb hby d1_71) (pc' := 72) rfl ?_
  refine g_ior X0 hx (hb hby d1_72) (pc' := 73) rfl ?_
  refine Go.cast (show (mkF m 73 #[.val (.ref a), .val (.int (4 : Int32)), .val (.int (-1756908920 : Int32)), .val (.int (4 : Int32)), .val (.int (0 : Int32)), .unset] [(.int ((((x0 &&& (255 : Int32)) ||| (shl (x1 &&& (255 : Int32)) (8 : Int32))) ||| (shl (x2 &&& (255 : Int32)) (16 : Int32))) ||| (shl (x3 &&& (255 : Int32)) (24 : Int32))))]) = (mkF m 73 #[.val (.ref a), .val (.int (4 : Int32)), .val (.int (-1756908920 : Int32)), .val (.int (4 : Int32)), .val (.int (0 : Int32)), .unset] [(.int (wordV x0 x1 x2 x3))]) from by rw [show ((((x0 &&& (255 : Int32)) ||| (shl (x1 &&& (255 : Int32)) (8 : Int32))) ||| (shl (x2 &&& (255 : Int32)) (16 : Int32))) ||| (shl (x3 &&& (255 : Int32)) (24 : Int32))) = (wordV x0 x1 x2 x3) from rfl]) ?_
  refine g_istore X0 hx (hb hby d1_73) (pc' := 75) rfl (Ls' := #[.val (.ref a), .val (.int (4 : Int32)), .val (.int (-1756908920 : Int32)), .val (.int (4 : Int32)), .val (.int (0 : Int32)), .val (.int (wordV x0 x1 x2 x3))]) rfl ?_
  refine g_iload X0 hx (hb hby d1_75) (pc' := 77) rfl rfl ?_
  refine g_ldc X0 hx hZ hown (hw _ (List.mem_of_getElem? (i := 7) rfl)) (hb hby d1_77) (pc' := 79) rfl ?_
  refine g_imul X0 hx (hb hby d1_79) (pc' := 80) rfl ?_
  refine g_istore X0 hx (hb hby d1_80) (pc' := 82) rfl (Ls' := #[.val (.ref a), .val (.int (4 : Int32)), .val (.int (-1756908920 : Int32)), .val (.int (4 : Int32)), .val (.int (0 : Int32)), .val (.int ((wordV x0 x1 x2 x3) * (1540483477 : Int32)))]) rfl ?_
  refine g_iload X0 hx (hb hby d1_82) (pc' := 84) rfl rfl ?_
  refine g_iload X0 hx (hb hby d1_84) (pc' := 86) rfl rfl ?_
  refine g_bipush X0 hx (hb hby d1_86) (pc' := 88) rfl (z := (24 : Int32)) rfl ?_
  refine g_iushr X0 hx (hb hby d1_88) (pc' := 89) rfl ?_
  refine g_ixor X0 hx (hb hby d1_89) (pc' := 90) rfl ?_
  refine g_istore X0 hx (hb hby d1_90) (pc' := 92) rfl (Ls' := #[.val (.ref a), .val (.int (4 : Int32)), .val (.int (-1756908920 : Int32)), .val (.int (4 : Int32)), .val (.int (0 : Int32)), .val (.int (((wordV x0 x1 x2 x3) * (1540483477 : Int32)) ^^^ (ushr ((wordV x0 x1 x2 x3) * (1540483477 : Int32)) (24 : Int32))))]) rfl ?_
  refine g_iload X0 hx (hb hby d1_92) (pc' := 94) rfl rfl ?_
  refine g_ldc X0 hx hZ hown (hw _ (List.mem_of_getElem? (i := 7) rfl)) (hb hby d1_94) (pc' := 96) rfl ?_
  refine g_imul X0 hx (hb hby d1_96) (pc' := 97) rfl ?_
  refine Go.cast (show (mkF m 97 #[.val (.ref a), .val (.int (4 : Int32)), .val (.int (-1756908920 : Int32)), .val (.int (4 : Int32)), .val (.int (0 : Int32)), .val (.int (((wordV x0 x1 x2 x3) * (1540483477 : Int32)) ^^^ (ushr ((wordV x0 x1 x2 x3) * (1540483477 : Int32)) (24 : Int32))))] [(.int ((((wordV x0 x1 x2 x3) * (1540483477 : Int32)) ^^^ (ushr ((wordV x0 x1 x2 x3) * (1540483477 : Int32)) (24 : Int32))) * (1540483477 : Int32)))]) = (mkF m 97 #[.val (.ref a), .val (.int (4 : Int32)), .val (.int (-1756908920 : Int32)), .val (.int (4 : Int32)), .val (.int (0 : Int32)), .val (.int (((wordV x0 x1 x2 x3) * (1540483477 : Int32)) ^^^ (ushr ((wordV x0 x1 x2 x3) * (1540483477 : Int32)) (24 : Int32))))] [(.int (mixV (wordV x0 x1 x2 x3)))]) from by rw [show ((((wordV x0 x1 x2 x3) * (1540483477 : Int32)) ^^^ (ushr ((wordV x0 x1 x2 x3) * (1540483477 : Int32)) (24 : Int32))) * (1540483477 : Int32)) = (mixV (wordV x0 x1 x2 x3)) from rfl]) ?_
  refine g_istore X0 hx (hb hby d1_97) (pc' := 99) rfl (Ls' := #[.val (.ref a), .val (.int (4 : Int32)), .val (.int (-1756908920 : Int32)), .val (.int (4 : Int32)), .val (.int (0 : Int32)), .val (.int (mixV (wordV x0 x1 x2 x3)))]) rfl ?_
  refine g_iloadN X0 hx (hb hby d1_99) (pc' := 100) rfl rfl ?_
  refine g_ldc X0 hx hZ hown (hw _ (List.mem_of_getElem? (i := 7) rfl)) (hb hby d1_100) (pc' := 102) rfl ?_
  refine g_imul X0 hx (hb hby d1_102) (pc' := 103) rfl ?_
  refine Go.cast (show (mkF m 103 #[.val (.ref a), .val (.int (4 : Int32)), .val (.int (-1756908920 : Int32)), .val (.int (4 : Int32)), .val (.int (0 : Int32)), .val (.int (mixV (wordV x0 x1 x2 x3)))] [(.int ((-1756908920 : Int32) * (1540483477 : Int32)))]) = (mkF m 103 #[.val (.ref a), .val (.int (4 : Int32)), .val (.int (-1756908920 : Int32)), .val (.int (4 : Int32)), .val (.int (0 : Int32)), .val (.int (mixV (wordV x0 x1 x2 x3)))] [(.int (1732292904 : Int32))]) from by rw [show ((-1756908920 : Int32) * (1540483477 : Int32)) = (1732292904 : Int32) from (by decide)]) ?_
  refine g_istoreN X0 hx (hb hby d1_103) (pc' := 104) rfl (Ls' := #[.val (.ref a), .val (.int (4 : Int32)), .val (.int (1732292904 : Int32)), .val (.int (4 : Int32)), .val (.int (0 : Int32)), .val (.int (mixV (wordV x0 x1 x2 x3)))]) rfl ?_
  refine g_iloadN X0 hx (hb hby d1_104) (pc' := 105) rfl rfl ?_
  refine g_iload X0 hx (hb hby d1_105) (pc' := 107) rfl rfl ?_
  refine g_ixor X0 hx (hb hby d1_107) (pc' := 108) rfl ?_
  refine g_istoreN X0 hx (hb hby d1_108) (pc' := 109) rfl (Ls' := #[.val (.ref a), .val (.int (4 : Int32)), .val (.int ((1732292904 : Int32) ^^^ (mixV (wordV x0 x1 x2 x3)))), .val (.int (4 : Int32)), .val (.int (0 : Int32)), .val (.int (mixV (wordV x0 x1 x2 x3)))]) rfl ?_
  refine g_iinc X0 hx (hb hby d1_109) (pc' := 112) rfl rfl (z := (4 : Int32)) rfl (Ls' := #[.val (.ref a), .val (.int (4 : Int32)), .val (.int ((1732292904 : Int32) ^^^ (mixV (wordV x0 x1 x2 x3)))), .val (.int (4 : Int32)), .val (.int (4 : Int32)), .val (.int (mixV (wordV x0 x1 x2 x3)))]) rfl ?_
  refine g_goto X0 hx (hb hby d1_112) (by decide) (pc' := 17) (by decide) ?_
  refine g_iload X0 hx (hb hby d1_17) (pc' := 19) rfl rfl ?_
  refine g_iloadN X0 hx (hb hby d1_19) (pc' := 20) rfl rfl ?_
  refine g_icmp_ge X0 hx (hb hby d1_20) (pc1 := 23) rfl (by decide) (pc2 := 115) (by decide) (fun hc20_1 => ?_) (fun hc20_1 => absurd hc20_1 (by decide))
  refine g_iloadN X0 hx (hb hby d1_115) (pc' := 116) rfl rfl ?_
  refine g_istore X0 hx (hb hby d1_116) (pc' := 118) rfl (Ls' := #[.val (.ref a), .val (.int (4 : Int32)), .val (.int ((1732292904 : Int32) ^^^ (mixV (wordV x0 x1 x2 x3)))), .val (.int (4 : Int32)), .val (.int (4 : Int32)), .val (.int (mixV (wordV x0 x1 x2 x3)))]) rfl ?_
  refine g_iload X0 hx (hb hby d1_118) (pc' := 120) rfl rfl ?_
  refine g_iloadN X0 hx (hb hby d1_120) (pc' := 121) rfl rfl ?_
  refine g_icmp_ge X0 hx (hb hby d1_121) (pc1 := 124) rfl (by decide) (pc2 := 149) (by decide) (fun hc121 => ?_) (fun hc121 => absurd hc121 (by decide))
  refine g_iloadN X0 hx (hb hby d1_149) (pc' := 150) rfl rfl ?_
  refine g_iloadN X0 hx (hb hby d1_150) (pc' := 151) rfl rfl ?_
  refine g_icmp_ge X0 hx (hb hby d1_151) (pc1 := 154) rfl (by decide) (pc2 := 159) (by decide) (fun hc151 => ?_) (fun hc151 => absurd hc151 (by decide))
  refine g_iloadN X0 hx (hb hby d1_159) (pc' := 160) rfl rfl ?_
  refine g_iloadN X0 hx (hb hby d1_160) (pc' := 161) rfl rfl ?_
  refine g_bipush X0 hx (hb hby d1_161) (pc' := 163) rfl (z := (13 : Int32)) rfl ?_
  refine g_iushr X0 hx (hb hby d1_163) (pc' := 164) rfl ?_
  refine g_ixor X0 hx (hb hby d1_164) (pc' := 165) rfl ?_
  refine Go.cast (show (mkF m 165 #[.val (.ref a), .val (.int (4 : Int32)), .val (.int ((1732292904 : Int32) ^^^ (mixV (wordV x0 x1 x2 x3)))), .val (.int (4 : Int32)), .val (.int (4 : Int32)), .val (.int (mixV (wordV x0 x1 x2 x3)))] [(.int (((1732292904 : Int32) ^^^ (mixV (wordV x0 x1 x2 x3))) ^^^ (ushr ((1732292904 : Int32) ^^^ (mixV (wordV x0 x1 x2 x3))) (13 : Int32))))]) = (mkF m 165 #[.val (.ref a), .val (.int (4 : Int32)), .val (.int ((1732292904 : Int32) ^^^ (mixV (wordV x0 x1 x2 x3)))), .val (.int (4 : Int32)), .val (.int (4 : Int32)), .val (.int (mixV (wordV x0 x1 x2 x3)))] [(.int (fin1 ((1732292904 : Int32) ^^^ (mixV (wordV x0 x1 x2 x3)))))]) from by rw [show (((1732292904 : Int32) ^^^ (mixV (wordV x0 x1 x2 x3))) ^^^ (ushr ((1732292904 : Int32) ^^^ (mixV (wordV x0 x1 x2 x3))) (13 : Int32))) = (fin1 ((1732292904 : Int32) ^^^ (mixV (wordV x0 x1 x2 x3)))) from rfl]) ?_
  refine g_istoreN X0 hx (hb hby d1_165) (pc' := 166) rfl (Ls' := #[.val (.ref a), .val (.int (4 : Int32)), .val (.int (fin1 ((1732292904 : Int32) ^^^ (mixV (wordV x0 x1 x2 x3))))), .val (.int (4 : Int32)), .val (.int (4 : Int32)), .val (.int (mixV (wordV x0 x1 x2 x3)))]) rfl ?_
  refine g_iloadN X0 hx (hb hby d1_166) (pc' := 167) rfl rfl ?_
  refine g_ldc X0 hx hZ hown (hw _ (List.mem_of_getElem? (i := 7) rfl)) (hb hby d1_167) (pc' := 169) rfl ?_
  refine g_imul X0 hx (hb hby d1_169) (pc' := 170) rfl ?_
  refine g_istoreN X0 hx (hb hby d1_170) (pc' := 171) rfl (Ls' := #[.val (.ref a), .val (.int (4 : Int32)), .val (.int ((fin1 ((1732292904 : Int32) ^^^ (mixV (wordV x0 x1 x2 x3)))) * (1540483477 : Int32))), .val (.int (4 : Int32)), .val (.int (4 : Int32)), .val (.int (mixV (wordV x0 x1 x2 x3)))]) rfl ?_
  refine g_iloadN X0 hx (hb hby d1_171) (pc' := 172) rfl rfl ?_
  refine g_iloadN X0 hx (hb hby d1_172) (pc' := 173) rfl rfl ?_
  refine g_bipush X0 hx (hb hby d1_173) (pc' := 175) rfl (z := (15 : Int32)) rfl ?_
  refine g_iushr X0 hx (hb hby d1_175) (pc' := 176) rfl ?_
  refine g_ixor X0 hx (hb hby d1_176) (pc' := 177) rfl ?_
  refine Go.cast (show (mkF m 177 #[.val (.ref a), .val (.int (4 : Int32)), .val (.int ((fin1 ((1732292904 : Int32) ^^^ (mixV (wordV x0 x1 x2 x3)))) * (1540483477 : Int32))), .val (.int (4 : Int32)), .val (.int (4 : Int32)), .val (.int (mixV (wordV x0 x1 x2 x3)))] [(.int (((fin1 ((1732292904 : Int32) ^^^ (mixV (wordV x0 x1 x2 x3)))) * (1540483477 : Int32)) ^^^ (ushr ((fin1 ((1732292904 : Int32) ^^^ (mixV (wordV x0 x1 x2 x3)))) * (1540483477 : Int32)) (15 : Int32))))]) = (mkF m 177 #[.val (.ref a), .val (.int (4 : Int32)), .val (.int ((fin1 ((1732292904 : Int32) ^^^ (mixV (wordV x0 x1 x2 x3)))) * (1540483477 : Int32))), .val (.int (4 : Int32)), .val (.int (4 : Int32)), .val (.int (mixV (wordV x0 x1 x2 x3)))] [(.int (fin2 ((fin1 ((1732292904 : Int32) ^^^ (mixV (wordV x0 x1 x2 x3)))) * (1540483477 : Int32))))]) from by rw [show (((fin1 ((1732292904 : Int32) ^^^ (mixV (wordV x0 x1 x2 x3)))) * (1540483477 : Int32)) ^^^ (ushr ((fin1 ((1732292904 : Int32) ^^^ (mixV (wordV x0 x1 x2 x3)))) * (1540483477 : Int32)) (15 : Int32))) = (fin2 ((fin1 ((1732292904 : Int32) ^^^ (mixV (wordV x0 x1 x2 x3)))) * (1540483477 : Int32))) from rfl]) ?_
  refine g_istoreN X0 hx (hb hby d1_177) (pc' := 178) rfl (Ls' := #[.val (.ref a), .val (.int (4 : Int32)), .val (.int (fin2 ((fin1 ((1732292904 : Int32) ^^^ (mixV (wordV x0 x1 x2 x3)))) * (1540483477 : Int32)))), .val (.int (4 : Int32)), .val (.int (4 : Int32)), .val (.int (mixV (wordV x0 x1 x2 x3)))]) rfl ?_
  refine g_iloadN X0 hx (hb hby d1_178) (pc' := 179) rfl rfl ?_
  exact g_ireturn X0 hx hret (hb hby d1_179) N0 hlk (fun v t => endF (by decide) (by decide) v) (by rw [e0]; exact ⟨rfl, rfl⟩)
theorem pd__I_I : parseMethodDescriptor "(I)I" = some ⟨[.int], some .int⟩ := by decide +kernel
theorem d2_14 : decode method_4_code 14 = .ok (.iload 4, 2) := by decide +kernel
theorem d2_16 : decode method_4_code 16 = .ok (.iload_n 3, 1) := by decide +kernel
theorem d2_17 : decode method_4_code 17 = .ok (.imul, 1) := by decide +kernel
theorem d2_18 : decode method_4_code 18 = .ok (.iload_n 0, 1) := by decide +kernel
theorem d2_19 : decode method_4_code 19 = .ok (.invokestatic 23, 3) := by decide +kernel
theorem d2_22 : decode method_4_code 22 = .ok (.ixor, 1) := by decide +kernel
theorem d2_23 : decode method_4_code 23 = .ok (.istore 4, 2) := by decide +kernel
theorem ef_2_4 (x0 : Int32) (x1 : Int32) (x2 : Int32) (m : MethodId) : entryFrame m #[(.int x0), (.int x1), (.int x2)] 8 = mkF m 0 #[.val (.int x0), .val (.int x1), .val (.int x2), .unset, .unset, .unset, .unset, .unset] [] := by first | (simp [entryFrame, mkF, argsToLocals, Value.category]; done) | rfl
def Q2_4 (Z : State) (p0 : Int32) (p1 : Int32) (h0 : Heap) (n0 : Nat) : Option Value → Heap → Prop := fun v h => v = some (.int (fin2 ((fin1 ((1732292904 : Int32) ^^^ (mixV p0))) * (1540483477 : Int32)))) ∧ h0 = h
set_option maxRecDepth 65536 in
set_option maxHeartbeats 40000000 in
theorem rm2_4 (l : Launch) (Z : State) (a0 : Array Value) (hw : ∀ d ∈ tables_1, d.before a0 Z = true) (p0 : Int32) (p1 : Int32) (h0 : Heap) (n0 : Nat) (Z0 : n0 ≤ h0.size) : Ctr l Z (⟨"com/example/stream_log_client/streamlogclient/producer/PartitionerMurmur2PinLaw", "ref", "(III)I"⟩ : MethodName) method_4_code 8 (some .int) ({ frames := 1, cells := 0, slots := 0, locals := 15 } : Room) #[(.int p0), (.int p1), (.int (4 : Int32))] h0 n0 (Q2_4 Z p0 p1 h0 n0) := by
  refine Ctr.of (plainFor_of_name pn_3) (ef_2_4 p0 p1 (4 : Int32)) ?_
  intro p e s m below meth c T0 hx hby hml hown hnm hret hlk hZ X0 e0
  have N0 := Fr.nil n0
  refine g_ldc X0 hx hZ hown (hw _ (List.mem_of_getElem? (i := 13) rfl)) (hb hby d2_0) (pc' := 2) rfl ?_
  refine g_istoreN X0 hx (hb hby d2_2) (pc' := 3) rfl (Ls' := #[.val (.int p0), .val (.int p1), .val (.int (4 : Int32)), .val (.int (1540483477 : Int32)), .unset, .unset, .unset, .unset]) rfl ?_
  refine g_ldc X0 hx hZ hown (hw _ (List.mem_of_getElem? (i := 14) rfl)) (hb hby d2_3) (pc' := 5) rfl ?_
  refine g_iloadN X0 hx (hb hby d2_5) (pc' := 6) rfl rfl ?_
  refine g_ixor X0 hx (hb hby d2_6) (pc' := 7) rfl ?_
  refine Go.cast (show (mkF m 7 #[.val (.int p0), .val (.int p1), .val (.int (4 : Int32)), .val (.int (1540483477 : Int32)), .unset, .unset, .unset, .unset] [(.int ((-1756908916 : Int32) ^^^ (4 : Int32)))]) = (mkF m 7 #[.val (.int p0), .val (.int p1), .val (.int (4 : Int32)), .val (.int (1540483477 : Int32)), .unset, .unset, .unset, .unset] [(.int (-1756908920 : Int32))]) from by rw [show ((-1756908916 : Int32) ^^^ (4 : Int32)) = (-1756908920 : Int32) from (by decide)]) ?_
  refine g_istore X0 hx (hb hby d2_7) (pc' := 9) rfl (Ls' := #[.val (.int p0), .val (.int p1), .val (.int (4 : Int32)), .val (.int (1540483477 : Int32)), .val (.int (-1756908920 : Int32)), .unset, .unset, .unset]) rfl ?_
  refine g_iloadN X0 hx (hb hby d2_9) (pc' := 10) rfl rfl ?_
  refine g_iconst X0 hx (hb hby d2_10) (pc' := 11) rfl (z := (4 : Int32)) rfl ?_
  refine g_icmp_lt X0 hx (hb hby d2_11) (pc1 := 14) rfl (by decide) (pc2 := 25) (by decide) (fun hc11 => absurd hc11 (by decide)) (fun hc11 => ?_)
  refine g_iload X0 hx (hb hby d2_14) (pc' := 16) rfl rfl ?_
  refine g_iloadN X0 hx (hb hby d2_16) (pc' := 17) rfl rfl ?_
  refine g_imul X0 hx (hb hby d2_17) (pc' := 18) rfl ?_
  refine Go.cast (show (mkF m 18 #[.val (.int p0), .val (.int p1), .val (.int (4 : Int32)), .val (.int (1540483477 : Int32)), .val (.int (-1756908920 : Int32)), .unset, .unset, .unset] [(.int ((-1756908920 : Int32) * (1540483477 : Int32)))]) = (mkF m 18 #[.val (.int p0), .val (.int p1), .val (.int (4 : Int32)), .val (.int (1540483477 : Int32)), .val (.int (-1756908920 : Int32)), .unset, .unset, .unset] [(.int (1732292904 : Int32))]) from by rw [show ((-1756908920 : Int32) * (1540483477 : Int32)) = (1732292904 : Int32) from (by decide)]) ?_
  refine g_iloadN X0 hx (hb hby d2_18) (pc' := 19) rfl rfl ?_
  obtain ⟨v1, T1, h1, L1, X1, e1, N1, q1, st1⟩ := h_static X0 hx (W := 1) (Ls := #[.val (.int p0), .val (.int p1), .val (.int (4 : Int32)), .val (.int (1540483477 : Int32)), .val (.int (-1756908920 : Int32)), .unset, .unset, .unset]) (argsL := [(.int p0)]) (rest := [(.int (1732292904 : Int32))]) hZ e0 N0 hml hown (rm3 l Z a0 hw p0 h0 n0 Z0) (hw _ (List.mem_of_getElem? (i := 17) rfl)) (hw _ (List.mem_of_getElem? (i := 18) rfl)) (hw _ (List.mem_of_getElem? (i := 11) rfl)) (hw _ (List.mem_of_getElem? (i := 19) rfl)) (by decide) pd__I_I rfl rfl (hb hby d2_19) rfl (by decide) (by decide) (by decide) (by decide)
  obtain ⟨rfl, rfl⟩ := q1
  refine Go.movp st1 (mkF m 22 #[.val (.int p0), .val (.int p1), .val (.int (4 : Int32)), .val (.int (1540483477 : Int32)), .val (.int (-1756908920 : Int32)), .unset, .unset, .unset] [(.int (mixV p0)), (.int (1732292904 : Int32))]) rfl ?_
  refine g_ixor X1 hx (hb hby d2_22) (pc' := 23) rfl ?_
  refine g_istore X1 hx (hb hby d2_23) (pc' := 25) rfl (Ls' := #[.val (.int p0), .val (.int p1), .val (.int (4 : Int32)), .val (.int (1540483477 : Int32)), .val (.int ((1732292904 : Int32) ^^^ (mixV p0))), .unset, .unset, .unset]) rfl ?_
  refine g_iloadN X1 hx (hb hby d2_25) (pc' := 26) rfl rfl ?_
  refine g_bipush X1 hx (hb hby d2_26) (pc' := 28) rfl (z := (8 : Int32)) rfl ?_
  refine g_icmp_ne X1 hx (hb hby d2_28) (pc1 := 31) rfl (by decide) (pc2 := 42) (by decide) (fun hc28 => ?_) (fun hc28 => absurd hc28 (by decide))
  refine g_iloadN X1 hx (hb hby d2_42) (pc' := 43) rfl rfl ?_
  refine g_iconst X1 hx (hb hby d2_43) (pc' := 44) rfl (z := (3 : Int32)) rfl ?_
  refine g_iand X1 hx (hb hby d2_44) (pc' := 45) rfl ?_
  refine Go.cast (show (mkF m 45 #[.val (.int p0), .val (.int p1), .val (.int (4 : Int32)), .val (.int (1540483477 : Int32)), .val (.int ((1732292904 : Int32) ^^^ (mixV p0))), .unset, .unset, .unset] [(.int ((4 : Int32) &&& (3 : Int32)))]) = (mkF m 45 #[.val (.int p0), .val (.int p1), .val (.int (4 : Int32)), .val (.int (1540483477 : Int32)), .val (.int ((1732292904 : Int32) ^^^ (mixV p0))), .unset, .unset, .unset] [(.int (0 : Int32))]) from by rw [show ((4 : Int32) &&& (3 : Int32)) = (0 : Int32) from (by decide)]) ?_
  refine g_istore X1 hx (hb hby d2_45) (pc' := 47) rfl (Ls' := #[.val (.int p0), .val (.int p1), .val (.int (4 : Int32)), .val (.int (1540483477 : Int32)), .val (.int ((1732292904 : Int32) ^^^ (mixV p0))), .val (.int (0 : Int32)), .unset, .unset]) rfl ?_
  refine g_iload X1 hx (hb hby d2_47) (pc' := 49) rfl rfl ?_
  refine g_if_eq X1 hx (hb hby d2_49) (pc1 := 52) rfl (by decide) (pc2 := 107) (by decide) (fun hc49 => ?_) (fun hc49 => absurd hc49 (by decide))
  refine g_iload X1 hx (hb hby d2_107) (pc' := 109) rfl rfl ?_
  refine g_iload X1 hx (hb hby d2_109) (pc' := 111) rfl rfl ?_
  refine g_bipush X1 hx (hb hby d2_111) (pc' := 113) rfl (z := (13 : Int32)) rfl ?_
  refine g_iushr X1 hx (hb hby d2_113) (pc' := 114) rfl ?_
  refine g_ixor X1 hx (hb hby d2_114) (pc' := 115) rfl ?_
  refine Go.cast (show (mkF m 115 #[.val (.int p0), .val (.int p1), .val (.int (4 : Int32)), .val (.int (1540483477 : Int32)), .val (.int ((1732292904 : Int32) ^^^ (mixV p0))), .val (.int (0 : Int32)), .unset, .unset] [(.int (((1732292904 : Int32) ^^^ (mixV p0)) ^^^ (ushr ((1732292904 : Int32) ^^^ (mixV p0)) (13 : Int32))))]) = (mkF m 115 #[.val (.int p0), .val (.int p1), .val (.int (4 : Int32)), .val (.int (1540483477 : Int32)), .val (.int ((1732292904 : Int32) ^^^ (mixV p0))), .val (.int (0 : Int32)), .unset, .unset] [(.int (fin1 ((1732292904 : Int32) ^^^ (mixV p0))))]) from by rw [show (((1732292904 : Int32) ^^^ (mixV p0)) ^^^ (ushr ((1732292904 : Int32) ^^^ (mixV p0)) (13 : Int32))) = (fin1 ((1732292904 : Int32) ^^^ (mixV p0))) from rfl]) ?_
  refine g_istore X1 hx (hb hby d2_115) (pc' := 117) rfl (Ls' := #[.val (.int p0), .val (.int p1), .val (.int (4 : Int32)), .val (.int (1540483477 : Int32)), .val (.int (fin1 ((1732292904 : Int32) ^^^ (mixV p0)))), .val (.int (0 : Int32)), .unset, .unset]) rfl ?_
  refine g_iload X1 hx (hb hby d2_117) (pc' := 119) rfl rfl ?_
  refine g_iloadN X1 hx (hb hby d2_119) (pc' := 120) rfl rfl ?_
  refine g_imul X1 hx (hb hby d2_120) (pc' := 121) rfl ?_
  refine g_istore X1 hx (hb hby d2_121) (pc' := 123) rfl (Ls' := #[.val (.int p0), .val (.int p1), .val (.int (4 : Int32)), .val (.int (1540483477 : Int32)), .val (.int ((fin1 ((1732292904 : Int32) ^^^ (mixV p0))) * (1540483477 : Int32))), .val (.int (0 : Int32)), .unset, .unset]) rfl ?_
  refine g_iload X1 hx (hb hby d2_123) (pc' := 125) rfl rfl ?_
  refine g_iload X1 hx (hb hby d2_125) (pc' := 127) rfl rfl ?_
  refine g_bipush X1 hx (hb hby d2_127) (pc' := 129) rfl (z := (15 : Int32)) rfl ?_
  refine g_iushr X1 hx (hb hby d2_129) (pc' := 130) rfl ?_
  refine g_ixor X1 hx (hb hby d2_130) (pc' := 131) rfl ?_
  refine Go.cast (show (mkF m 131 #[.val (.int p0), .val (.int p1), .val (.int (4 : Int32)), .val (.int (1540483477 : Int32)), .val (.int ((fin1 ((1732292904 : Int32) ^^^ (mixV p0))) * (1540483477 : Int32))), .val (.int (0 : Int32)), .unset, .unset] [(.int (((fin1 ((1732292904 : Int32) ^^^ (mixV p0))) * (1540483477 : Int32)) ^^^ (ushr ((fin1 ((1732292904 : Int32) ^^^ (mixV p0))) * (1540483477 : Int32)) (15 : Int32))))]) = (mkF m 131 #[.val (.int p0), .val (.int p1), .val (.int (4 : Int32)), .val (.int (1540483477 : Int32)), .val (.int ((fin1 ((1732292904 : Int32) ^^^ (mixV p0))) * (1540483477 : Int32))), .val (.int (0 : Int32)), .unset, .unset] [(.int (fin2 ((fin1 ((1732292904 : Int32) ^^^ (mixV p0))) * (1540483477 : Int32))))]) from by rw [show (((fin1 ((1732292904 : Int32) ^^^ (mixV p0))) * (1540483477 : Int32)) ^^^ (ushr ((fin1 ((1732292904 : Int32) ^^^ (mixV p0))) * (1540483477 : Int32)) (15 : Int32))) = (fin2 ((fin1 ((1732292904 : Int32) ^^^ (mixV p0))) * (1540483477 : Int32))) from rfl]) ?_
  refine g_istore X1 hx (hb hby d2_131) (pc' := 133) rfl (Ls' := #[.val (.int p0), .val (.int p1), .val (.int (4 : Int32)), .val (.int (1540483477 : Int32)), .val (.int (fin2 ((fin1 ((1732292904 : Int32) ^^^ (mixV p0))) * (1540483477 : Int32)))), .val (.int (0 : Int32)), .unset, .unset]) rfl ?_
  refine g_iload X1 hx (hb hby d2_133) (pc' := 135) rfl rfl ?_
  exact g_ireturn X1 hx hret (hb hby d2_135) N1 hlk (fun v t => endF (by decide) (by decide) v) (by rw [e1]; exact ⟨rfl, rfl⟩)
theorem ef_1_5 (x0 : Addr) (m : MethodId) : entryFrame m #[(.ref x0)] 6 = mkF m 0 #[.val (.ref x0), .unset, .unset, .unset, .unset, .unset] [] := by first | (simp [entryFrame, mkF, argsToLocals, Value.category]; done) | rfl
def Q1_5 (Z : State) (a : Addr) (x0 : Int32) (x1 : Int32) (x2 : Int32) (x3 : Int32) (x4 : Int32) (h0 : Heap) (n0 : Nat) : Option Value → Heap → Prop := fun v h => v = some (.int (fin2 ((fin1 ((((-1022190915 : Int32) ^^^ (mixV (wordV x0 x1 x2 x3))) ^^^ (shl (x4 &&& (255 : Int32)) (0 : Int32))) * (1540483477 : Int32))) * (1540483477 : Int32)))) ∧ h0 = h
set_option maxRecDepth 65536 in
set_option maxHeartbeats 40000000 in
theorem rm1_5 (l : Launch) (Z : State) (a0 : Array Value) (hw : ∀ d ∈ tables_1, d.before a0 Z = true) (a : Addr) (x0 : Int32) (x1 : Int32) (x2 : Int32) (x3 : Int32) (x4 : Int32) (h0 : Heap) (n0 : Nat) (Z0 : n0 ≤ h0.size) (V1 : Va Z h0 a .byte [(.int x0), (.int x1), (.int x2), (.int x3), (.int x4)]) : Ctr l Z (⟨"com/example/stream_log_client/streamlogclient/producer/Partitioner", "murmur2", "([B)I"⟩ : MethodName) prog_67_method_3_code 6 (some .int) ({ frames := 0, cells := 0, slots := 0, locals := 0 } : Room) #[(.ref a)] h0 n0 (Q1_5 Z a x0 x1 x2 x3 x4 h0 n0) := by
  refine Ctr.of (plainFor_of_name pn_1) (ef_1_5 a) ?_
  intro p e s m below meth c T0 hx hby hml hown hnm hret hlk hZ X0 e0
  have N0 := Fr.nil n0
  refine g_aloadN X0 hx (hb hby d1_0) (pc' := 1) rfl rfl rfl ?_
  refine g_arraylength X0 hx hZ e0 V1 (z := (5 : Int32)) (hb hby d1_1) (pc' := 2) rfl rfl ?_
  refine g_istoreN X0 hx (hb hby d1_2) (pc' := 3) rfl (Ls' := #[.val (.ref a), .val (.int (5 : Int32)), .unset, .unset, .unset, .unset]) rfl ?_
  refine g_ldc X0 hx hZ hown (hw _ (List.mem_of_getElem? (i := 6) rfl)) (hb hby d1_3) (pc' := 5) rfl ?_
  refine g_iloadN X0 hx (hb hby d1_5) (pc' := 6) rfl rfl ?_
  refine g_ixor X0 hx (hb hby d1_6) (pc' := 7) rfl ?_
  refine Go.cast (show (mkF m 7 #[.val (.ref a), .val (.int (5 : Int32)), .unset, .unset, .unset, .unset] [(.int ((-1756908916 : Int32) ^^^ (5 : Int32)))]) = (mkF m 7 #[.val (.ref a), .val (.int (5 : Int32)), .unset, .unset, .unset, .unset] [(.int (-1756908919 : Int32))]) from by rw [show ((-1756908916 : Int32) ^^^ (5 : Int32)) = (-1756908919 : Int32) from (by decide)]) ?_
  refine g_istoreN X0 hx (hb hby d1_7) (pc' := 8) rfl (Ls' := #[.val (.ref a), .val (.int (5 : Int32)), .val (.int (-1756908919 : Int32)), .unset, .unset, .unset]) rfl ?_
  refine g_iloadN X0 hx (hb hby d1_8) (pc' := 9) rfl rfl ?_
  refine g_iloadN X0 hx (hb hby d1_9) (pc' := 10) rfl rfl ?_
  refine g_iconst X0 hx (hb hby d1_10) (pc' := 11) rfl (z := (4 : Int32)) rfl ?_
  refine g_irem X0 hx (hb hby d1_11) (pc' := 12) rfl (by decide) ?_
  refine Go.cast (show (mkF m 12 #[.val (.ref a), .val (.int (5 : Int32)), .val (.int (-1756908919 : Int32)), .unset, .unset, .unset] [(.int ((5 : Int32) % (4 : Int32))), (.int (5 : Int32))]) = (mkF m 12 #[.val (.ref a), .val (.int (5 : Int32)), .val (.int (-1756908919 : Int32)), .unset, .unset, .unset] [(.int (1 : Int32)), (.int (5 : Int32))]) from by rw [show ((5 : Int32) % (4 : Int32)) = (1 : Int32) from (by decide)]) ?_
  refine g_isub X0 hx (hb hby d1_12) (pc' := 13) rfl ?_
  refine Go.cast (show (mkF m 13 #[.val (.ref a), .val (.int (5 : Int32)), .val (.int (-1756908919 : Int32)), .unset, .unset, .unset] [(.int ((5 : Int32) - (1 : Int32)))]) = (mkF m 13 #[.val (.ref a), .val (.int (5 : Int32)), .val (.int (-1756908919 : Int32)), .unset, .unset, .unset] [(.int (4 : Int32))]) from by rw [show ((5 : Int32) - (1 : Int32)) = (4 : Int32) from (by decide)]) ?_
  refine g_istoreN X0 hx (hb hby d1_13) (pc' := 14) rfl (Ls' := #[.val (.ref a), .val (.int (5 : Int32)), .val (.int (-1756908919 : Int32)), .val (.int (4 : Int32)), .unset, .unset]) rfl ?_
  refine g_iconst X0 hx (hb hby d1_14) (pc' := 15) rfl (z := (0 : Int32)) rfl ?_
  refine g_istore X0 hx (hb hby d1_15) (pc' := 17) rfl (Ls' := #[.val (.ref a), .val (.int (5 : Int32)), .val (.int (-1756908919 : Int32)), .val (.int (4 : Int32)), .val (.int (0 : Int32)), .unset]) rfl ?_
  refine g_iload X0 hx (hb hby d1_17) (pc' := 19) rfl rfl ?_
  refine g_iloadN X0 hx (hb hby d1_19) (pc' := 20) rfl rfl ?_
  refine g_icmp_ge X0 hx (hb hby d1_20) (pc1 := 23) rfl (by decide) (pc2 := 115) (by decide) (fun hc20 => absurd (by decide) hc20) (fun hc20 => ?_)
  refine g_aloadN X0 hx (hb hby d1_23) (pc' := 24) rfl rfl rfl ?_
  refine g_iload X0 hx (hb hby d1_24) (pc' := 26) rfl rfl ?_
  refine g_baload X0 hx hZ e0 V1 (i := 0) (v := (.int x0)) (hb hby d1_26) (pc' := 27) rfl (by decide) rfl rfl ?_
  refine g_sipush X0 hx (hb hby d1_27) (pc' := 30) rfl (z := (255 : Int32)) rfl ?_
  refine g_iand X0 hx (hb hby d1_30) (pc' := 31) rfl ?_
  refine g_aloadN X0 hx (hb hby d1_31) (pc' := 32) rfl rfl rfl ?_
  refine g_iload X0 hx (hb hby d1_32) (pc' := 34) rfl rfl ?_
  refine g_iconst X0 hx (hb hby d1_34) (pc' := 35) rfl (z := (1 : Int32)) rfl ?_
  refine g_iadd X0 hx (hb hby d1_35) (pc' := 36) rfl ?_
  refine Go.cast (show (mkF m 36 #[.val (.ref a), .val (.int (5 : Int32)), .val (.int (-1756908919 : Int32)), .val (.int (4 : Int32)), .val (.int (0 : Int32)), .unset] [(.int ((0 : Int32) + (1 : Int32))), (.ref a), (.int (x0 &&& (255 : Int32)))]) = (mkF m 36 #[.val (.ref a), .val (.int (5 : Int32)), .val (.int (-1756908919 : Int32)), .val (.int (4 : Int32)), .val (.int (0 : Int32)), .unset] [(.int (1 : Int32)), (.ref a), (.int (x0 &&& (255 : Int32)))]) from by rw [show ((0 : Int32) + (1 : Int32)) = (1 : Int32) from (by decide)]) ?_
  refine g_baload X0 hx hZ e0 V1 (i := 1) (v := (.int x1)) (hb hby d1_36) (pc' := 37) rfl (by decide) rfl rfl ?_
  refine g_sipush X0 hx (hb hby d1_37) (pc' := 40) rfl (z := (255 : Int32)) rfl ?_
  refine g_iand X0 hx (hb hby d1_40) (pc' := 41) rfl ?_
  refine g_bipush X0 hx (hb hby d1_41) (pc' := 43) rfl (z := (8 : Int32)) rfl ?_
  refine g_ishl X0 hx (hb hby d1_43) (pc' := 44) rfl ?_
  refine g_ior X0 hx (hb hby d1_44) (pc' := 45) rfl ?_
  refine g_aloadN X0 hx (hb hby d1_45) (pc' := 46) rfl rfl rfl ?_
  refine g_iload X0 hx (hb hby d1_46) (pc' := 48) rfl rfl ?_
  refine g_iconst X0 hx (hb hby d1_48) (pc' := 49) rfl (z := (2 : Int32)) rfl ?_
  refine g_iadd X0 hx (hb hby d1_49) (pc' := 50) rfl ?_
  refine Go.cast (show (mkF m 50 #[.val (.ref a), .val (.int (5 : Int32)), .val (.int (-1756908919 : Int32)), .val (.int (4 : Int32)), .val (.int (0 : Int32)), .unset] [(.int ((0 : Int32) + (2 : Int32))), (.ref a), (.int ((x0 &&& (255 : Int32)) ||| (shl (x1 &&& (255 : Int32)) (8 : Int32))))]) = (mkF m 50 #[.val (.ref a), .val (.int (5 : Int32)), .val (.int (-1756908919 : Int32)), .val (.int (4 : Int32)), .val (.int (0 : Int32)), .unset] [(.int (2 : Int32)), (.ref a), (.int ((x0 &&& (255 : Int32)) ||| (shl (x1 &&& (255 : Int32)) (8 : Int32))))]) from by rw [show ((0 : Int32) + (2 : Int32)) = (2 : Int32) from (by decide)]) ?_
  refine g_baload X0 hx hZ e0 V1 (i := 2) (v := (.int x2)) (hb hby d1_50) (pc' := 51) rfl (by decide) rfl rfl ?_
  refine g_sipush X0 hx (hb hby d1_51) (pc' := 54) rfl (z := (255 : Int32)) rfl ?_
  refine g_iand X0 hx (hb hby d1_54) (pc' := 55) rfl ?_
  refine g_bipush X0 hx (hb hby d1_55) (pc' := 57) rfl (z := (16 : Int32)) rfl ?_
  refine g_ishl X0 hx (hb hby d1_57) (pc' := 58) rfl ?_
  refine g_ior X0 hx (hb hby d1_58) (pc' := 59) rfl ?_
  refine g_aloadN X0 hx (hb hby d1_59) (pc' := 60) rfl rfl rfl ?_
  refine g_iload X0 hx (hb hby d1_60) (pc' := 62) rfl rfl ?_
  refine g_iconst X0 hx (hb hby d1_62) (pc' := 63) rfl (z := (3 : Int32)) rfl ?_
  refine g_iadd X0 hx (hb hby d1_63) (pc' := 64) rfl ?_
  refine Go.cast (show (mkF m 64 #[.val (.ref a), .val (.int (5 : Int32)), .val (.int (-1756908919 : Int32)), .val (.int (4 : Int32)), .val (.int (0 : Int32)), .unset] [(.int ((0 : Int32) + (3 : Int32))), (.ref a), (.int (((x0 &&& (255 : Int32)) ||| (shl (x1 &&& (255 : Int32)) (8 : Int32))) ||| (shl (x2 &&& (255 : Int32)) (16 : Int32))))]) = (mkF m 64 #[.val (.ref a), .val (.int (5 : Int32)), .val (.int (-1756908919 : Int32)), .val (.int (4 : Int32)), .val (.int (0 : Int32)), .unset] [(.int (3 : Int32)), (.ref a), (.int (((x0 &&& (255 : Int32)) ||| (shl (x1 &&& (255 : Int32)) (8 : Int32))) ||| (shl (x2 &&& (255 : Int32)) (16 : Int32))))]) from by rw [show ((0 : Int32) + (3 : Int32)) = (3 : Int32) from (by decide)]) ?_
  refine g_baload X0 hx hZ e0 V1 (i := 3) (v := (.int x3)) (hb hby d1_64) (pc' := 65) rfl (by decide) rfl rfl ?_
  refine g_sipush X0 hx (hb hby d1_65) (pc' := 68) rfl (z := (255 : Int32)) rfl ?_
  refine g_iand X0 hx (hb hby d1_68) (pc' := 69) rfl ?_
  refine g_bipush X0 hx (hb hby d1_69) (pc' := 71) rfl (z := (24 : Int32)) rfl ?_
  refine g_ishl X0 hx (hb hby d1_71) (pc' := 72) rfl ?_
  refine g_ior X0 hx (hb hby d1_72) (pc' := 73) rfl ?_
  refine Go.cast (show (mkF m 73 #[.val (.ref a), .val (.int (5 : Int32)), .val (.int (-1756908919 : Int32)), .val (.int (4 : Int32)), .val (.int (0 : Int32)), .unset] [(.int ((((x0 &&& (255 : Int32)) ||| (shl (x1 &&& (255 : Int32)) (8 : Int32))) ||| (shl (x2 &&& (255 : Int32)) (16 : Int32))) ||| (shl (x3 &&& (255 : Int32)) (24 : Int32))))]) = (mkF m 73 #[.val (.ref a), .val (.int (5 : Int32)), .val (.int (-1756908919 : Int32)), .val (.int (4 : Int32)), .val (.int (0 : Int32)), .unset] [(.int (wordV x0 x1 x2 x3))]) from by rw [show ((((x0 &&& (255 : Int32)) ||| (shl (x1 &&& (255 : Int32)) (8 : Int32))) ||| (shl (x2 &&& (255 : Int32)) (16 : Int32))) ||| (shl (x3 &&& (255 : Int32)) (24 : Int32))) = (wordV x0 x1 x2 x3) from rfl]) ?_
  refine g_istore X0 hx (hb hby d1_73) (pc' := 75) rfl (Ls' := #[.val (.ref a), .val (.int (5 : Int32)), .val (.int (-1756908919 : Int32)), .val (.int (4 : Int32)), .val (.int (0 : Int32)), .val (.int (wordV x0 x1 x2 x3))]) rfl ?_
  refine g_iload X0 hx (hb hby d1_75) (pc' := 77) rfl rfl ?_
  refine g_ldc X0 hx hZ hown (hw _ (List.mem_of_getElem? (i := 7) rfl)) (hb hby d1_77) (pc' := 79) rfl ?_
  refine g_imul X0 hx (hb hby d1_79) (pc' := 80) rfl ?_
  refine g_istore X0 hx (hb hby d1_80) (pc' := 82) rfl (Ls' := #[.val (.ref a), .val (.int (5 : Int32)), .val (.int (-1756908919 : Int32)), .val (.int (4 : Int32)), .val (.int (0 : Int32)), .val (.int ((wordV x0 x1 x2 x3) * (1540483477 : Int32)))]) rfl ?_
  refine g_iload X0 hx (hb hby d1_82) (pc' := 84) rfl rfl ?_
  refine g_iload X0 hx (hb hby d1_84) (pc' := 86) rfl rfl ?_
  refine g_bipush X0 hx (hb hby d1_86) (pc' := 88) rfl (z := (24 : Int32)) rfl ?_
  refine g_iushr X0 hx (hb hby d1_88) (pc' := 89) rfl ?_
  refine g_ixor X0 hx (hb hby d1_89) (pc' := 90) rfl ?_
  refine g_istore X0 hx (hb hby d1_90) (pc' := 92) rfl (Ls' := #[.val (.ref a), .val (.int (5 : Int32)), .val (.int (-1756908919 : Int32)), .val (.int (4 : Int32)), .val (.int (0 : Int32)), .val (.int (((wordV x0 x1 x2 x3) * (1540483477 : Int32)) ^^^ (ushr ((wordV x0 x1 x2 x3) * (1540483477 : Int32)) (24 : Int32))))]) rfl ?_
  refine g_iload X0 hx (hb hby d1_92) (pc' := 94) rfl rfl ?_
  refine g_ldc X0 hx hZ hown (hw _ (List.mem_of_getElem? (i := 7) rfl)) (hb hby d1_94) (pc' := 96) rfl ?_
  refine g_imul X0 hx (hb hby d1_96) (pc' := 97) rfl ?_
  refine Go.cast (show (mkF m 97 #[.val (.ref a), .val (.int (5 : Int32)), .val (.int (-1756908919 : Int32)), .val (.int (4 : Int32)), .val (.int (0 : Int32)), .val (.int (((wordV x0 x1 x2 x3) * (1540483477 : Int32)) ^^^ (ushr ((wordV x0 x1 x2 x3) * (1540483477 : Int32)) (24 : Int32))))] [(.int ((((wordV x0 x1 x2 x3) * (1540483477 : Int32)) ^^^ (ushr ((wordV x0 x1 x2 x3) * (1540483477 : Int32)) (24 : Int32))) * (1540483477 : Int32)))]) = (mkF m 97 #[.val (.ref a), .val (.int (5 : Int32)), .val (.int (-1756908919 : Int32)), .val (.int (4 : Int32)), .val (.int (0 : Int32)), .val (.int (((wordV x0 x1 x2 x3) * (1540483477 : Int32)) ^^^ (ushr ((wordV x0 x1 x2 x3) * (1540483477 : Int32)) (24 : Int32))))] [(.int (mixV (wordV x0 x1 x2 x3)))]) from by rw [show ((((wordV x0 x1 x2 x3) * (1540483477 : Int32)) ^^^ (ushr ((wordV x0 x1 x2 x3) * (1540483477 : Int32)) (24 : Int32))) * (1540483477 : Int32)) = (mixV (wordV x0 x1 x2 x3)) from rfl]) ?_
  refine g_istore X0 hx (hb hby d1_97) (pc' := 99) rfl (Ls' := #[.val (.ref a), .val (.int (5 : Int32)), .val (.int (-1756908919 : Int32)), .val (.int (4 : Int32)), .val (.int (0 : Int32)), .val (.int (mixV (wordV x0 x1 x2 x3)))]) rfl ?_
  refine g_iloadN X0 hx (hb hby d1_99) (pc' := 100) rfl rfl ?_
  refine g_ldc X0 hx hZ hown (hw _ (List.mem_of_getElem? (i := 7) rfl)) (hb hby d1_100) (pc' := 102) rfl ?_
  refine g_imul X0 hx (hb hby d1_102) (pc' := 103) rfl ?_
  refine Go.cast (show (mkF m 103 #[.val (.ref a), .val (.int (5 : Int32)), .val (.int (-1756908919 : Int32)), .val (.int (4 : Int32)), .val (.int (0 : Int32)), .val (.int (mixV (wordV x0 x1 x2 x3)))] [(.int ((-1756908919 : Int32) * (1540483477 : Int32)))]) = (mkF m 103 #[.val (.ref a), .val (.int (5 : Int32)), .val (.int (-1756908919 : Int32)), .val (.int (4 : Int32)), .val (.int (0 : Int32)), .val (.int (mixV (wordV x0 x1 x2 x3)))] [(.int (-1022190915 : Int32))]) from by rw [show ((-1756908919 : Int32) * (1540483477 : Int32)) = (-1022190915 : Int32) from (by decide)]) ?_
  refine g_istoreN X0 hx (hb hby d1_103) (pc' := 104) rfl (Ls' := #[.val (.ref a), .val (.int (5 : Int32)), .val (.int (-1022190915 : Int32)), .val (.int (4 : Int32)), .val (.int (0 : Int32)), .val (.int (mixV (wordV x0 x1 x2 x3)))]) rfl ?_
  refine g_iloadN X0 hx (hb hby d1_104) (pc' := 105) rfl rfl ?_
  refine g_iload X0 hx (hb hby d1_105) (pc' := 107) rfl rfl ?_
  refine g_ixor X0 hx (hb hby d1_107) (pc' := 108) rfl ?_
  refine g_istoreN X0 hx (hb hby d1_108) (pc' := 109) rfl (Ls' := #[.val (.ref a), .val (.int (5 : Int32)), .val (.int ((-1022190915 : Int32) ^^^ (mixV (wordV x0 x1 x2 x3)))), .val (.int (4 : Int32)), .val (.int (0 : Int32)), .val (.int (mixV (wordV x0 x1 x2 x3)))]) rfl ?_
  refine g_iinc X0 hx (hb hby d1_109) (pc' := 112) rfl rfl (z := (4 : Int32)) rfl (Ls' := #[.val (.ref a), .val (.int (5 : Int32)), .val (.int ((-1022190915 : Int32) ^^^ (mixV (wordV x0 x1 x2 x3)))), .val (.int (4 : Int32)), .val (.int (4 : Int32)), .val (.int (mixV (wordV x0 x1 x2 x3)))]) rfl ?_
  refine g_goto X0 hx (hb hby d1_112) (by decide) (pc' := 17) (by decide) ?_
  refine g_iload X0 hx (hb hby d1_17) (pc' := 19) rfl rfl ?_
  refine g_iloadN X0 hx (hb hby d1_19) (pc' := 20) rfl rfl ?_
  refine g_icmp_ge X0 hx (hb hby d1_20) (pc1 := 23) rfl (by decide) (pc2 := 115) (by decide) (fun hc20_1 => ?_) (fun hc20_1 => absurd hc20_1 (by decide))
  refine g_iloadN X0 hx (hb hby d1_115) (pc' := 116) rfl rfl ?_
  refine g_istore X0 hx (hb hby d1_116) (pc' := 118) rfl (Ls' := #[.val (.ref a), .val (.int (5 : Int32)), .val (.int ((-1022190915 : Int32) ^^^ (mixV (wordV x0 x1 x2 x3)))), .val (.int (4 : Int32)), .val (.int (4 : Int32)), .val (.int (mixV (wordV x0 x1 x2 x3)))]) rfl ?_
  refine g_iload X0 hx (hb hby d1_118) (pc' := 120) rfl rfl ?_
  refine g_iloadN X0 hx (hb hby d1_120) (pc' := 121) rfl rfl ?_
  refine g_icmp_ge X0 hx (hb hby d1_121) (pc1 := 124) rfl (by decide) (pc2 := 149) (by decide) (fun hc121 => absurd (by decide) hc121) (fun hc121 => ?_)
  refine g_iloadN X0 hx (hb hby d1_124) (pc' := 125) rfl rfl ?_
  refine g_aloadN X0 hx (hb hby d1_125) (pc' := 126) rfl rfl rfl ?_
  refine g_iload X0 hx (hb hby d1_126) (pc' := 128) rfl rfl ?_
  refine g_baload X0 hx hZ e0 V1 (i := 4) (v := (.int x4)) (hb hby d1_128) (pc' := 129) rfl (by decide) rfl rfl ?_
  refine g_sipush X0 hx (hb hby d1_129) (pc' := 132) rfl (z := (255 : Int32)) rfl ?_
  refine g_iand X0 hx (hb hby d1_132) (pc' := 133) rfl ?_
  refine g_bipush X0 hx (hb hby d1_133) (pc' := 135) rfl (z := (8 : Int32)) rfl ?_
  refine g_iload X0 hx (hb hby d1_135) (pc' := 137) rfl rfl ?_
  refine g_iloadN X0 hx (hb hby d1_137) (pc' := 138) rfl rfl ?_
  refine g_isub X0 hx (hb hby d1_138) (pc' := 139) rfl ?_
  refine Go.cast (show (mkF m 139 #[.val (.ref a), .val (.int (5 : Int32)), .val (.int ((-1022190915 : Int32) ^^^ (mixV (wordV x0 x1 x2 x3)))), .val (.int (4 : Int32)), .val (.int (4 : Int32)), .val (.int (mixV (wordV x0 x1 x2 x3)))] [(.int ((4 : Int32) - (4 : Int32))), (.int (8 : Int32)), (.int (x4 &&& (255 : Int32))), (.int ((-1022190915 : Int32) ^^^ (mixV (wordV x0 x1 x2 x3))))]) = (mkF m 139 #[.val (.ref a), .val (.int (5 : Int32)), .val (.int ((-1022190915 : Int32) ^^^ (mixV (wordV x0 x1 x2 x3)))), .val (.int (4 : Int32)), .val (.int (4 : Int32)), .val (.int (mixV (wordV x0 x1 x2 x3)))] [(.int (0 : Int32)), (.int (8 : Int32)), (.int (x4 &&& (255 : Int32))), (.int ((-1022190915 : Int32) ^^^ (mixV (wordV x0 x1 x2 x3))))]) from by rw [show ((4 : Int32) - (4 : Int32)) = (0 : Int32) from (by decide)]) ?_
  refine g_imul X0 hx (hb hby d1_139) (pc' := 140) rfl ?_
  refine Go.cast (show (mkF m 140 #[.val (.ref a), .val (.int (5 : Int32)), .val (.int ((-1022190915 : Int32) ^^^ (mixV (wordV x0 x1 x2 x3)))), .val (.int (4 : Int32)), .val (.int (4 : Int32)), .val (.int (mixV (wordV x0 x1 x2 x3)))] [(.int ((8 : Int32) * (0 : Int32))), (.int (x4 &&& (255 : Int32))), (.int ((-1022190915 : Int32) ^^^ (mixV (wordV x0 x1 x2 x3))))]) = (mkF m 140 #[.val (.ref a), .val (.int (5 : Int32)), .val (.int ((-1022190915 : Int32) ^^^ (mixV (wordV x0 x1 x2 x3)))), .val (.int (4 : Int32)), .val (.int (4 : Int32)), .val (.int (mixV (wordV x0 x1 x2 x3)))] [(.int (0 : Int32)), (.int (x4 &&& (255 : Int32))), (.int ((-1022190915 : Int32) ^^^ (mixV (wordV x0 x1 x2 x3))))]) from by rw [show ((8 : Int32) * (0 : Int32)) = (0 : Int32) from (by decide)]) ?_
  refine g_ishl X0 hx (hb hby d1_140) (pc' := 141) rfl ?_
  refine g_ixor X0 hx (hb hby d1_141) (pc' := 142) rfl ?_
  refine g_istoreN X0 hx (hb hby d1_142) (pc' := 143) rfl (Ls' := #[.val (.ref a), .val (.int (5 : Int32)), .val (.int (((-1022190915 : Int32) ^^^ (mixV (wordV x0 x1 x2 x3))) ^^^ (shl (x4 &&& (255 : Int32)) (0 : Int32)))), .val (.int (4 : Int32)), .val (.int (4 : Int32)), .val (.int (mixV (wordV x0 x1 x2 x3)))]) rfl ?_
  refine g_iinc X0 hx (hb hby d1_143) (pc' := 146) rfl rfl (z := (1 : Int32)) rfl (Ls' := #[.val (.ref a), .val (.int (5 : Int32)), .val (.int (((-1022190915 : Int32) ^^^ (mixV (wordV x0 x1 x2 x3))) ^^^ (shl (x4 &&& (255 : Int32)) (0 : Int32)))), .val (.int (4 : Int32)), .val (.int (5 : Int32)), .val (.int (mixV (wordV x0 x1 x2 x3)))]) rfl ?_
  refine g_goto X0 hx (hb hby d1_146) (by decide) (pc' := 118) (by decide) ?_
  refine g_iload X0 hx (hb hby d1_118) (pc' := 120) rfl rfl ?_
  refine g_iloadN X0 hx (hb hby d1_120) (pc' := 121) rfl rfl ?_
  refine g_icmp_ge X0 hx (hb hby d1_121) (pc1 := 124) rfl (by decide) (pc2 := 149) (by decide) (fun hc121_1 => ?_) (fun hc121_1 => absurd hc121_1 (by decide))
  refine g_iloadN X0 hx (hb hby d1_149) (pc' := 150) rfl rfl ?_
  refine g_iloadN X0 hx (hb hby d1_150) (pc' := 151) rfl rfl ?_
  refine g_icmp_ge X0 hx (hb hby d1_151) (pc1 := 154) rfl (by decide) (pc2 := 159) (by decide) (fun hc151 => absurd (by decide) hc151) (fun hc151 => ?_)
  refine g_iloadN X0 hx (hb hby d1_154) (pc' := 155) rfl rfl ?_
  refine g_ldc X0 hx hZ hown (hw _ (List.mem_of_getElem? (i := 7) rfl)) (hb hby d1_155) (pc' := 157) rfl ?_
  refine g_imul X0 hx (hb hby d1_157) (pc' := 158) rfl ?_
  refine g_istoreN X0 hx (hb hby d1_158) (pc' := 159) rfl (Ls' := #[.val (.ref a), .val (.int (5 : Int32)), .val (.int ((((-1022190915 : Int32) ^^^ (mixV (wordV x0 x1 x2 x3))) ^^^ (shl (x4 &&& (255 : Int32)) (0 : Int32))) * (1540483477 : Int32))), .val (.int (4 : Int32)), .val (.int (5 : Int32)), .val (.int (mixV (wordV x0 x1 x2 x3)))]) rfl ?_
  refine g_iloadN X0 hx (hb hby d1_159) (pc' := 160) rfl rfl ?_
  refine g_iloadN X0 hx (hb hby d1_160) (pc' := 161) rfl rfl ?_
  refine g_bipush X0 hx (hb hby d1_161) (pc' := 163) rfl (z := (13 : Int32)) rfl ?_
  refine g_iushr X0 hx (hb hby d1_163) (pc' := 164) rfl ?_
  refine g_ixor X0 hx (hb hby d1_164) (pc' := 165) rfl ?_
  refine Go.cast (show (mkF m 165 #[.val (.ref a), .val (.int (5 : Int32)), .val (.int ((((-1022190915 : Int32) ^^^ (mixV (wordV x0 x1 x2 x3))) ^^^ (shl (x4 &&& (255 : Int32)) (0 : Int32))) * (1540483477 : Int32))), .val (.int (4 : Int32)), .val (.int (5 : Int32)), .val (.int (mixV (wordV x0 x1 x2 x3)))] [(.int (((((-1022190915 : Int32) ^^^ (mixV (wordV x0 x1 x2 x3))) ^^^ (shl (x4 &&& (255 : Int32)) (0 : Int32))) * (1540483477 : Int32)) ^^^ (ushr ((((-1022190915 : Int32) ^^^ (mixV (wordV x0 x1 x2 x3))) ^^^ (shl (x4 &&& (255 : Int32)) (0 : Int32))) * (1540483477 : Int32)) (13 : Int32))))]) = (mkF m 165 #[.val (.ref a), .val (.int (5 : Int32)), .val (.int ((((-1022190915 : Int32) ^^^ (mixV (wordV x0 x1 x2 x3))) ^^^ (shl (x4 &&& (255 : Int32)) (0 : Int32))) * (1540483477 : Int32))), .val (.int (4 : Int32)), .val (.int (5 : Int32)), .val (.int (mixV (wordV x0 x1 x2 x3)))] [(.int (fin1 ((((-1022190915 : Int32) ^^^ (mixV (wordV x0 x1 x2 x3))) ^^^ (shl (x4 &&& (255 : Int32)) (0 : Int32))) * (1540483477 : Int32))))]) from by rw [show (((((-1022190915 : Int32) ^^^ (mixV (wordV x0 x1 x2 x3))) ^^^ (shl (x4 &&& (255 : Int32)) (0 : Int32))) * (1540483477 : Int32)) ^^^ (ushr ((((-1022190915 : Int32) ^^^ (mixV (wordV x0 x1 x2 x3))) ^^^ (shl (x4 &&& (255 : Int32)) (0 : Int32))) * (1540483477 : Int32)) (13 : Int32))) = (fin1 ((((-1022190915 : Int32) ^^^ (mixV (wordV x0 x1 x2 x3))) ^^^ (shl (x4 &&& (255 : Int32)) (0 : Int32))) * (1540483477 : Int32))) from rfl]) ?_
  refine g_istoreN X0 hx (hb hby d1_165) (pc' := 166) rfl (Ls' := #[.val (.ref a), .val (.int (5 : Int32)), .val (.int (fin1 ((((-1022190915 : Int32) ^^^ (mixV (wordV x0 x1 x2 x3))) ^^^ (shl (x4 &&& (255 : Int32)) (0 : Int32))) * (1540483477 : Int32)))), .val (.int (4 : Int32)), .val (.int (5 : Int32)), .val (.int (mixV (wordV x0 x1 x2 x3)))]) rfl ?_
  refine g_iloadN X0 hx (hb hby d1_166) (pc' := 167) rfl rfl ?_
  refine g_ldc X0 hx hZ hown (hw _ (List.mem_of_getElem? (i := 7) rfl)) (hb hby d1_167) (pc' := 169) rfl ?_
  refine g_imul X0 hx (hb hby d1_169) (pc' := 170) rfl ?_
  refine g_istoreN X0 hx (hb hby d1_170) (pc' := 171) rfl (Ls' := #[.val (.ref a), .val (.int (5 : Int32)), .val (.int ((fin1 ((((-1022190915 : Int32) ^^^ (mixV (wordV x0 x1 x2 x3))) ^^^ (shl (x4 &&& (255 : Int32)) (0 : Int32))) * (1540483477 : Int32))) * (1540483477 : Int32))), .val (.int (4 : Int32)), .val (.int (5 : Int32)), .val (.int (mixV (wordV x0 x1 x2 x3)))]) rfl ?_
  refine g_iloadN X0 hx (hb hby d1_171) (pc' := 172) rfl rfl ?_
  refine g_iloadN X0 hx (hb hby d1_172) (pc' := 173) rfl rfl ?_
  refine g_bipush X0 hx (hb hby d1_173) (pc' := 175) rfl (z := (15 : Int32)) rfl ?_
  refine g_iushr X0 hx (hb hby d1_175) (pc' := 176) rfl ?_
  refine g_ixor X0 hx (hb hby d1_176) (pc' := 177) rfl ?_
  refine Go.cast (show (mkF m 177 #[.val (.ref a), .val (.int (5 : Int32)), .val (.int ((fin1 ((((-1022190915 : Int32) ^^^ (mixV (wordV x0 x1 x2 x3))) ^^^ (shl (x4 &&& (255 : Int32)) (0 : Int32))) * (1540483477 : Int32))) * (1540483477 : Int32))), .val (.int (4 : Int32)), .val (.int (5 : Int32)), .val (.int (mixV (wordV x0 x1 x2 x3)))] [(.int (((fin1 ((((-1022190915 : Int32) ^^^ (mixV (wordV x0 x1 x2 x3))) ^^^ (shl (x4 &&& (255 : Int32)) (0 : Int32))) * (1540483477 : Int32))) * (1540483477 : Int32)) ^^^ (ushr ((fin1 ((((-1022190915 : Int32) ^^^ (mixV (wordV x0 x1 x2 x3))) ^^^ (shl (x4 &&& (255 : Int32)) (0 : Int32))) * (1540483477 : Int32))) * (1540483477 : Int32)) (15 : Int32))))]) = (mkF m 177 #[.val (.ref a), .val (.int (5 : Int32)), .val (.int ((fin1 ((((-1022190915 : Int32) ^^^ (mixV (wordV x0 x1 x2 x3))) ^^^ (shl (x4 &&& (255 : Int32)) (0 : Int32))) * (1540483477 : Int32))) * (1540483477 : Int32))), .val (.int (4 : Int32)), .val (.int (5 : Int32)), .val (.int (mixV (wordV x0 x1 x2 x3)))] [(.int (fin2 ((fin1 ((((-1022190915 : Int32) ^^^ (mixV (wordV x0 x1 x2 x3))) ^^^ (shl (x4 &&& (255 : Int32)) (0 : Int32))) * (1540483477 : Int32))) * (1540483477 : Int32))))]) from by rw [show (((fin1 ((((-1022190915 : Int32) ^^^ (mixV (wordV x0 x1 x2 x3))) ^^^ (shl (x4 &&& (255 : Int32)) (0 : Int32))) * (1540483477 : Int32))) * (1540483477 : Int32)) ^^^ (ushr ((fin1 ((((-1022190915 : Int32) ^^^ (mixV (wordV x0 x1 x2 x3))) ^^^ (shl (x4 &&& (255 : Int32)) (0 : Int32))) * (1540483477 : Int32))) * (1540483477 : Int32)) (15 : Int32))) = (fin2 ((fin1 ((((-1022190915 : Int32) ^^^ (mixV (wordV x0 x1 x2 x3))) ^^^ (shl (x4 &&& (255 : Int32)) (0 : Int32))) * (1540483477 : Int32))) * (1540483477 : Int32))) from rfl]) ?_
  refine g_istoreN X0 hx (hb hby d1_177) (pc' := 178) rfl (Ls' := #[.val (.ref a), .val (.int (5 : Int32)), .val (.int (fin2 ((fin1 ((((-1022190915 : Int32) ^^^ (mixV (wordV x0 x1 x2 x3))) ^^^ (shl (x4 &&& (255 : Int32)) (0 : Int32))) * (1540483477 : Int32))) * (1540483477 : Int32)))), .val (.int (4 : Int32)), .val (.int (5 : Int32)), .val (.int (mixV (wordV x0 x1 x2 x3)))]) rfl ?_
  refine g_iloadN X0 hx (hb hby d1_178) (pc' := 179) rfl rfl ?_
  exact g_ireturn X0 hx hret (hb hby d1_179) N0 hlk (fun v t => endF (by decide) (by decide) v) (by rw [e0]; exact ⟨rfl, rfl⟩)
theorem d2_61 : decode method_4_code 61 = .ok (.iload_n 1, 1) := by decide +kernel
theorem ef_2_5 (x0 : Int32) (x1 : Int32) (x2 : Int32) (m : MethodId) : entryFrame m #[(.int x0), (.int x1), (.int x2)] 8 = mkF m 0 #[.val (.int x0), .val (.int x1), .val (.int x2), .unset, .unset, .unset, .unset, .unset] [] := by first | (simp [entryFrame, mkF, argsToLocals, Value.category]; done) | rfl
def Q2_5 (Z : State) (p0 : Int32) (p1 : Int32) (h0 : Heap) (n0 : Nat) : Option Value → Heap → Prop := fun v h => v = some (.int (fin2 ((fin1 ((((-1022190915 : Int32) ^^^ (mixV p0)) ^^^ (p1 &&& (255 : Int32))) * (1540483477 : Int32))) * (1540483477 : Int32)))) ∧ h0 = h
set_option maxRecDepth 65536 in
set_option maxHeartbeats 40000000 in
theorem rm2_5 (l : Launch) (Z : State) (a0 : Array Value) (hw : ∀ d ∈ tables_1, d.before a0 Z = true) (p0 : Int32) (p1 : Int32) (h0 : Heap) (n0 : Nat) (Z0 : n0 ≤ h0.size) : Ctr l Z (⟨"com/example/stream_log_client/streamlogclient/producer/PartitionerMurmur2PinLaw", "ref", "(III)I"⟩ : MethodName) method_4_code 8 (some .int) ({ frames := 1, cells := 0, slots := 0, locals := 15 } : Room) #[(.int p0), (.int p1), (.int (5 : Int32))] h0 n0 (Q2_5 Z p0 p1 h0 n0) := by
  refine Ctr.of (plainFor_of_name pn_3) (ef_2_5 p0 p1 (5 : Int32)) ?_
  intro p e s m below meth c T0 hx hby hml hown hnm hret hlk hZ X0 e0
  have N0 := Fr.nil n0
  refine g_ldc X0 hx hZ hown (hw _ (List.mem_of_getElem? (i := 13) rfl)) (hb hby d2_0) (pc' := 2) rfl ?_
  refine g_istoreN X0 hx (hb hby d2_2) (pc' := 3) rfl (Ls' := #[.val (.int p0), .val (.int p1), .val (.int (5 : Int32)), .val (.int (1540483477 : Int32)), .unset, .unset, .unset, .unset]) rfl ?_
  refine g_ldc X0 hx hZ hown (hw _ (List.mem_of_getElem? (i := 14) rfl)) (hb hby d2_3) (pc' := 5) rfl ?_
  refine g_iloadN X0 hx (hb hby d2_5) (pc' := 6) rfl rfl ?_
  refine g_ixor X0 hx (hb hby d2_6) (pc' := 7) rfl ?_
  refine Go.cast (show (mkF m 7 #[.val (.int p0), .val (.int p1), .val (.int (5 : Int32)), .val (.int (1540483477 : Int32)), .unset, .unset, .unset, .unset] [(.int ((-1756908916 : Int32) ^^^ (5 : Int32)))]) = (mkF m 7 #[.val (.int p0), .val (.int p1), .val (.int (5 : Int32)), .val (.int (1540483477 : Int32)), .unset, .unset, .unset, .unset] [(.int (-1756908919 : Int32))]) from by rw [show ((-1756908916 : Int32) ^^^ (5 : Int32)) = (-1756908919 : Int32) from (by decide)]) ?_
  refine g_istore X0 hx (hb hby d2_7) (pc' := 9) rfl (Ls' := #[.val (.int p0), .val (.int p1), .val (.int (5 : Int32)), .val (.int (1540483477 : Int32)), .val (.int (-1756908919 : Int32)), .unset, .unset, .unset]) rfl ?_
  refine g_iloadN X0 hx (hb hby d2_9) (pc' := 10) rfl rfl ?_
  refine g_iconst X0 hx (hb hby d2_10) (pc' := 11) rfl (z := (4 : Int32)) rfl ?_
  refine g_icmp_lt X0 hx (hb hby d2_11) (pc1 := 14) rfl (by decide) (pc2 := 25) (by decide) (fun hc11 => absurd hc11 (by decide)) (fun hc11 => ?_)
  refine g_iload X0 hx (hb hby d2_14) (pc' := 16) rfl rfl ?_
  refine g_iloadN X0 hx (hb hby d2_16) (pc' := 17) rfl rfl ?_
  refine g_imul X0 hx (hb hby d2_17) (pc' := 18) rfl ?_
  refine Go.cast (show (mkF m 18 #[.val (.int p0), .val (.int p1), .val (.int (5 : Int32)), .val (.int (1540483477 : Int32)), .val (.int (-1756908919 : Int32)), .unset, .unset, .unset] [(.int ((-1756908919 : Int32) * (1540483477 : Int32)))]) = (mkF m 18 #[.val (.int p0), .val (.int p1), .val (.int (5 : Int32)), .val (.int (1540483477 : Int32)), .val (.int (-1756908919 : Int32)), .unset, .unset, .unset] [(.int (-1022190915 : Int32))]) from by rw [show ((-1756908919 : Int32) * (1540483477 : Int32)) = (-1022190915 : Int32) from (by decide)]) ?_
  refine g_iloadN X0 hx (hb hby d2_18) (pc' := 19) rfl rfl ?_
  obtain ⟨v2, T2, h2, L2, X2, e2, N2, q2, st2⟩ := h_static X0 hx (W := 1) (Ls := #[.val (.int p0), .val (.int p1), .val (.int (5 : Int32)), .val (.int (1540483477 : Int32)), .val (.int (-1756908919 : Int32)), .unset, .unset, .unset]) (argsL := [(.int p0)]) (rest := [(.int (-1022190915 : Int32))]) hZ e0 N0 hml hown (rm3 l Z a0 hw p0 h0 n0 Z0) (hw _ (List.mem_of_getElem? (i := 17) rfl)) (hw _ (List.mem_of_getElem? (i := 18) rfl)) (hw _ (List.mem_of_getElem? (i := 11) rfl)) (hw _ (List.mem_of_getElem? (i := 19) rfl)) (by decide) pd__I_I rfl rfl (hb hby d2_19) rfl (by decide) (by decide) (by decide) (by decide)
  obtain ⟨rfl, rfl⟩ := q2
  refine Go.movp st2 (mkF m 22 #[.val (.int p0), .val (.int p1), .val (.int (5 : Int32)), .val (.int (1540483477 : Int32)), .val (.int (-1756908919 : Int32)), .unset, .unset, .unset] [(.int (mixV p0)), (.int (-1022190915 : Int32))]) rfl ?_
  refine g_ixor X2 hx (hb hby d2_22) (pc' := 23) rfl ?_
  refine g_istore X2 hx (hb hby d2_23) (pc' := 25) rfl (Ls' := #[.val (.int p0), .val (.int p1), .val (.int (5 : Int32)), .val (.int (1540483477 : Int32)), .val (.int ((-1022190915 : Int32) ^^^ (mixV p0))), .unset, .unset, .unset]) rfl ?_
  refine g_iloadN X2 hx (hb hby d2_25) (pc' := 26) rfl rfl ?_
  refine g_bipush X2 hx (hb hby d2_26) (pc' := 28) rfl (z := (8 : Int32)) rfl ?_
  refine g_icmp_ne X2 hx (hb hby d2_28) (pc1 := 31) rfl (by decide) (pc2 := 42) (by decide) (fun hc28 => ?_) (fun hc28 => absurd hc28 (by decide))
  refine g_iloadN X2 hx (hb hby d2_42) (pc' := 43) rfl rfl ?_
  refine g_iconst X2 hx (hb hby d2_43) (pc' := 44) rfl (z := (3 : Int32)) rfl ?_
  refine g_iand X2 hx (hb hby d2_44) (pc' := 45) rfl ?_
  refine Go.cast (show (mkF m 45 #[.val (.int p0), .val (.int p1), .val (.int (5 : Int32)), .val (.int (1540483477 : Int32)), .val (.int ((-1022190915 : Int32) ^^^ (mixV p0))), .unset, .unset, .unset] [(.int ((5 : Int32) &&& (3 : Int32)))]) = (mkF m 45 #[.val (.int p0), .val (.int p1), .val (.int (5 : Int32)), .val (.int (1540483477 : Int32)), .val (.int ((-1022190915 : Int32) ^^^ (mixV p0))), .unset, .unset, .unset] [(.int (1 : Int32))]) from by rw [show ((5 : Int32) &&& (3 : Int32)) = (1 : Int32) from (by decide)]) ?_
  refine g_istore X2 hx (hb hby d2_45) (pc' := 47) rfl (Ls' := #[.val (.int p0), .val (.int p1), .val (.int (5 : Int32)), .val (.int (1540483477 : Int32)), .val (.int ((-1022190915 : Int32) ^^^ (mixV p0))), .val (.int (1 : Int32)), .unset, .unset]) rfl ?_
  refine g_iload X2 hx (hb hby d2_47) (pc' := 49) rfl rfl ?_
  refine g_if_eq X2 hx (hb hby d2_49) (pc1 := 52) rfl (by decide) (pc2 := 107) (by decide) (fun hc49 => absurd hc49 (by decide)) (fun hc49 => ?_)
  refine g_iloadN X2 hx (hb hby d2_52) (pc' := 53) rfl rfl ?_
  refine g_iconst X2 hx (hb hby d2_53) (pc' := 54) rfl (z := (4 : Int32)) rfl ?_
  refine g_icmp_ge X2 hx (hb hby d2_54) (pc1 := 57) rfl (by decide) (pc2 := 61) (by decide) (fun hc54 => ?_) (fun hc54 => absurd hc54 (by decide))
  refine g_iloadN X2 hx (hb hby d2_61) (pc' := 62) rfl rfl ?_
  refine g_istore X2 hx (hb hby d2_62) (pc' := 64) rfl (Ls' := #[.val (.int p0), .val (.int p1), .val (.int (5 : Int32)), .val (.int (1540483477 : Int32)), .val (.int ((-1022190915 : Int32) ^^^ (mixV p0))), .val (.int (1 : Int32)), .val (.int p1), .unset]) rfl ?_
  refine g_iload X2 hx (hb hby d2_64) (pc' := 66) rfl rfl ?_
  refine g_iconst X2 hx (hb hby d2_66) (pc' := 67) rfl (z := (1 : Int32)) rfl ?_
  refine g_icmp_ne X2 hx (hb hby d2_67) (pc1 := 70) rfl (by decide) (pc2 := 76) (by decide) (fun hc67 => absurd (by decide) hc67) (fun hc67 => ?_)
  refine g_sipush X2 hx (hb hby d2_70) (pc' := 73) rfl (z := (255 : Int32)) rfl ?_
  refine g_goto X2 hx (hb hby d2_73) (by decide) (pc' := 89) (by decide) ?_
  refine g_istore X2 hx (hb hby d2_89) (pc' := 91) rfl (Ls' := #[.val (.int p0), .val (.int p1), .val (.int (5 : Int32)), .val (.int (1540483477 : Int32)), .val (.int ((-1022190915 : Int32) ^^^ (mixV p0))), .val (.int (1 : Int32)), .val (.int p1), .val (.int (255 : Int32))]) rfl ?_
  refine g_iload X2 hx (hb hby d2_91) (pc' := 93) rfl rfl ?_
  refine g_iload X2 hx (hb hby d2_93) (pc' := 95) rfl rfl ?_
  refine g_iload X2 hx (hb hby d2_95) (pc' := 97) rfl rfl ?_
  refine g_iand X2 hx (hb hby d2_97) (pc' := 98) rfl ?_
  refine g_ixor X2 hx (hb hby d2_98) (pc' := 99) rfl ?_
  refine g_istore X2 hx (hb hby d2_99) (pc' := 101) rfl (Ls' := #[.val (.int p0), .val (.int p1), .val (.int (5 : Int32)), .val (.int (1540483477 : Int32)), .val (.int (((-1022190915 : Int32) ^^^ (mixV p0)) ^^^ (p1 &&& (255 : Int32)))), .val (.int (1 : Int32)), .val (.int p1), .val (.int (255 : Int32))]) rfl ?_
  refine g_iload X2 hx (hb hby d2_101) (pc' := 103) rfl rfl ?_
  refine g_iloadN X2 hx (hb hby d2_103) (pc' := 104) rfl rfl ?_
  refine g_imul X2 hx (hb hby d2_104) (pc' := 105) rfl ?_
  refine g_istore X2 hx (hb hby d2_105) (pc' := 107) rfl (Ls' := #[.val (.int p0), .val (.int p1), .val (.int (5 : Int32)), .val (.int (1540483477 : Int32)), .val (.int ((((-1022190915 : Int32) ^^^ (mixV p0)) ^^^ (p1 &&& (255 : Int32))) * (1540483477 : Int32))), .val (.int (1 : Int32)), .val (.int p1), .val (.int (255 : Int32))]) rfl ?_
  refine g_iload X2 hx (hb hby d2_107) (pc' := 109) rfl rfl ?_
  refine g_iload X2 hx (hb hby d2_109) (pc' := 111) rfl rfl ?_
  refine g_bipush X2 hx (hb hby d2_111) (pc' := 113) rfl (z := (13 : Int32)) rfl ?_
  refine g_iushr X2 hx (hb hby d2_113) (pc' := 114) rfl ?_
  refine g_ixor X2 hx (hb hby d2_114) (pc' := 115) rfl ?_
  refine Go.cast (show (mkF m 115 #[.val (.int p0), .val (.int p1), .val (.int (5 : Int32)), .val (.int (1540483477 : Int32)), .val (.int ((((-1022190915 : Int32) ^^^ (mixV p0)) ^^^ (p1 &&& (255 : Int32))) * (1540483477 : Int32))), .val (.int (1 : Int32)), .val (.int p1), .val (.int (255 : Int32))] [(.int (((((-1022190915 : Int32) ^^^ (mixV p0)) ^^^ (p1 &&& (255 : Int32))) * (1540483477 : Int32)) ^^^ (ushr ((((-1022190915 : Int32) ^^^ (mixV p0)) ^^^ (p1 &&& (255 : Int32))) * (1540483477 : Int32)) (13 : Int32))))]) = (mkF m 115 #[.val (.int p0), .val (.int p1), .val (.int (5 : Int32)), .val (.int (1540483477 : Int32)), .val (.int ((((-1022190915 : Int32) ^^^ (mixV p0)) ^^^ (p1 &&& (255 : Int32))) * (1540483477 : Int32))), .val (.int (1 : Int32)), .val (.int p1), .val (.int (255 : Int32))] [(.int (fin1 ((((-1022190915 : Int32) ^^^ (mixV p0)) ^^^ (p1 &&& (255 : Int32))) * (1540483477 : Int32))))]) from by rw [show (((((-1022190915 : Int32) ^^^ (mixV p0)) ^^^ (p1 &&& (255 : Int32))) * (1540483477 : Int32)) ^^^ (ushr ((((-1022190915 : Int32) ^^^ (mixV p0)) ^^^ (p1 &&& (255 : Int32))) * (1540483477 : Int32)) (13 : Int32))) = (fin1 ((((-1022190915 : Int32) ^^^ (mixV p0)) ^^^ (p1 &&& (255 : Int32))) * (1540483477 : Int32))) from rfl]) ?_
  refine g_istore X2 hx (hb hby d2_115) (pc' := 117) rfl (Ls' := #[.val (.int p0), .val (.int p1), .val (.int (5 : Int32)), .val (.int (1540483477 : Int32)), .val (.int (fin1 ((((-1022190915 : Int32) ^^^ (mixV p0)) ^^^ (p1 &&& (255 : Int32))) * (1540483477 : Int32)))), .val (.int (1 : Int32)), .val (.int p1), .val (.int (255 : Int32))]) rfl ?_
  refine g_iload X2 hx (hb hby d2_117) (pc' := 119) rfl rfl ?_
  refine g_iloadN X2 hx (hb hby d2_119) (pc' := 120) rfl rfl ?_
  refine g_imul X2 hx (hb hby d2_120) (pc' := 121) rfl ?_
  refine g_istore X2 hx (hb hby d2_121) (pc' := 123) rfl (Ls' := #[.val (.int p0), .val (.int p1), .val (.int (5 : Int32)), .val (.int (1540483477 : Int32)), .val (.int ((fin1 ((((-1022190915 : Int32) ^^^ (mixV p0)) ^^^ (p1 &&& (255 : Int32))) * (1540483477 : Int32))) * (1540483477 : Int32))), .val (.int (1 : Int32)), .val (.int p1), .val (.int (255 : Int32))]) rfl ?_
  refine g_iload X2 hx (hb hby d2_123) (pc' := 125) rfl rfl ?_
  refine g_iload X2 hx (hb hby d2_125) (pc' := 127) rfl rfl ?_
  refine g_bipush X2 hx (hb hby d2_127) (pc' := 129) rfl (z := (15 : Int32)) rfl ?_
  refine g_iushr X2 hx (hb hby d2_129) (pc' := 130) rfl ?_
  refine g_ixor X2 hx (hb hby d2_130) (pc' := 131) rfl ?_
  refine Go.cast (show (mkF m 131 #[.val (.int p0), .val (.int p1), .val (.int (5 : Int32)), .val (.int (1540483477 : Int32)), .val (.int ((fin1 ((((-1022190915 : Int32) ^^^ (mixV p0)) ^^^ (p1 &&& (255 : Int32))) * (1540483477 : Int32))) * (1540483477 : Int32))), .val (.int (1 : Int32)), .val (.int p1), .val (.int (255 : Int32))] [(.int (((fin1 ((((-1022190915 : Int32) ^^^ (mixV p0)) ^^^ (p1 &&& (255 : Int32))) * (1540483477 : Int32))) * (1540483477 : Int32)) ^^^ (ushr ((fin1 ((((-1022190915 : Int32) ^^^ (mixV p0)) ^^^ (p1 &&& (255 : Int32))) * (1540483477 : Int32))) * (1540483477 : Int32)) (15 : Int32))))]) = (mkF m 131 #[.val (.int p0), .val (.int p1), .val (.int (5 : Int32)), .val (.int (1540483477 : Int32)), .val (.int ((fin1 ((((-1022190915 : Int32) ^^^ (mixV p0)) ^^^ (p1 &&& (255 : Int32))) * (1540483477 : Int32))) * (1540483477 : Int32))), .val (.int (1 : Int32)), .val (.int p1), .val (.int (255 : Int32))] [(.int (fin2 ((fin1 ((((-1022190915 : Int32) ^^^ (mixV p0)) ^^^ (p1 &&& (255 : Int32))) * (1540483477 : Int32))) * (1540483477 : Int32))))]) from by rw [show (((fin1 ((((-1022190915 : Int32) ^^^ (mixV p0)) ^^^ (p1 &&& (255 : Int32))) * (1540483477 : Int32))) * (1540483477 : Int32)) ^^^ (ushr ((fin1 ((((-1022190915 : Int32) ^^^ (mixV p0)) ^^^ (p1 &&& (255 : Int32))) * (1540483477 : Int32))) * (1540483477 : Int32)) (15 : Int32))) = (fin2 ((fin1 ((((-1022190915 : Int32) ^^^ (mixV p0)) ^^^ (p1 &&& (255 : Int32))) * (1540483477 : Int32))) * (1540483477 : Int32))) from rfl]) ?_
  refine g_istore X2 hx (hb hby d2_131) (pc' := 133) rfl (Ls' := #[.val (.int p0), .val (.int p1), .val (.int (5 : Int32)), .val (.int (1540483477 : Int32)), .val (.int (fin2 ((fin1 ((((-1022190915 : Int32) ^^^ (mixV p0)) ^^^ (p1 &&& (255 : Int32))) * (1540483477 : Int32))) * (1540483477 : Int32)))), .val (.int (1 : Int32)), .val (.int p1), .val (.int (255 : Int32))]) rfl ?_
  refine g_iload X2 hx (hb hby d2_133) (pc' := 135) rfl rfl ?_
  exact g_ireturn X2 hx hret (hb hby d2_135) N2 hlk (fun v t => endF (by decide) (by decide) v) (by rw [e2]; exact ⟨rfl, rfl⟩)
theorem ef_1_6 (x0 : Addr) (m : MethodId) : entryFrame m #[(.ref x0)] 6 = mkF m 0 #[.val (.ref x0), .unset, .unset, .unset, .unset, .unset] [] := by first | (simp [entryFrame, mkF, argsToLocals, Value.category]; done) | rfl
def Q1_6 (Z : State) (a : Addr) (x0 : Int32) (x1 : Int32) (x2 : Int32) (x3 : Int32) (x4 : Int32) (x5 : Int32) (h0 : Heap) (n0 : Nat) : Option Value → Heap → Prop := fun v h => v = some (.int (fin2 ((fin1 (((((518292562 : Int32) ^^^ (mixV (wordV x0 x1 x2 x3))) ^^^ (shl (x4 &&& (255 : Int32)) (0 : Int32))) ^^^ (shl (x5 &&& (255 : Int32)) (8 : Int32))) * (1540483477 : Int32))) * (1540483477 : Int32)))) ∧ h0 = h
set_option maxRecDepth 65536 in
set_option maxHeartbeats 40000000 in
theorem rm1_6 (l : Launch) (Z : State) (a0 : Array Value) (hw : ∀ d ∈ tables_1, d.before a0 Z = true) (a : Addr) (x0 : Int32) (x1 : Int32) (x2 : Int32) (x3 : Int32) (x4 : Int32) (x5 : Int32) (h0 : Heap) (n0 : Nat) (Z0 : n0 ≤ h0.size) (V1 : Va Z h0 a .byte [(.int x0), (.int x1), (.int x2), (.int x3), (.int x4), (.int x5)]) : Ctr l Z (⟨"com/example/stream_log_client/streamlogclient/producer/Partitioner", "murmur2", "([B)I"⟩ : MethodName) prog_67_method_3_code 6 (some .int) ({ frames := 0, cells := 0, slots := 0, locals := 0 } : Room) #[(.ref a)] h0 n0 (Q1_6 Z a x0 x1 x2 x3 x4 x5 h0 n0) := by
  refine Ctr.of (plainFor_of_name pn_1) (ef_1_6 a) ?_
  intro p e s m below meth c T0 hx hby hml hown hnm hret hlk hZ X0 e0
  have N0 := Fr.nil n0
  refine g_aloadN X0 hx (hb hby d1_0) (pc' := 1) rfl rfl rfl ?_
  refine g_arraylength X0 hx hZ e0 V1 (z := (6 : Int32)) (hb hby d1_1) (pc' := 2) rfl rfl ?_
  refine g_istoreN X0 hx (hb hby d1_2) (pc' := 3) rfl (Ls' := #[.val (.ref a), .val (.int (6 : Int32)), .unset, .unset, .unset, .unset]) rfl ?_
  refine g_ldc X0 hx hZ hown (hw _ (List.mem_of_getElem? (i := 6) rfl)) (hb hby d1_3) (pc' := 5) rfl ?_
  refine g_iloadN X0 hx (hb hby d1_5) (pc' := 6) rfl rfl ?_
  refine g_ixor X0 hx (hb hby d1_6) (pc' := 7) rfl ?_
  refine Go.cast (show (mkF m 7 #[.val (.ref a), .val (.int (6 : Int32)), .unset, .unset, .unset, .unset] [(.int ((-1756908916 : Int32) ^^^ (6 : Int32)))]) = (mkF m 7 #[.val (.ref a), .val (.int (6 : Int32)), .unset, .unset, .unset, .unset] [(.int (-1756908918 : Int32))]) from by rw [show ((-1756908916 : Int32) ^^^ (6 : Int32)) = (-1756908918 : Int32) from (by decide)]) ?_
  refine g_istoreN X0 hx (hb hby d1_7) (pc' := 8) rfl (Ls' := #[.val (.ref a), .val (.int (6 : Int32)), .val (.int (-1756908918 : Int32)), .unset, .unset, .unset]) rfl ?_
  refine g_iloadN X0 hx (hb hby d1_8) (pc' := 9) rfl rfl ?_
  refine g_iloadN X0 hx (hb hby d1_9) (pc' := 10) rfl rfl ?_
  refine g_iconst X0 hx (hb hby d1_10) (pc' := 11) rfl (z := (4 : Int32)) rfl ?_
  refine g_irem X0 hx (hb hby d1_11) (pc' := 12) rfl (by decide) ?_
  refine Go.cast (show (mkF m 12 #[.val (.ref a), .val (.int (6 : Int32)), .val (.int (-1756908918 : Int32)), .unset, .unset, .unset] [(.int ((6 : Int32) % (4 : Int32))), (.int (6 : Int32))]) = (mkF m 12 #[.val (.ref a), .val (.int (6 : Int32)), .val (.int (-1756908918 : Int32)), .unset, .unset, .unset] [(.int (2 : Int32)), (.int (6 : Int32))]) from by rw [show ((6 : Int32) % (4 : Int32)) = (2 : Int32) from (by decide)]) ?_
  refine g_isub X0 hx (hb hby d1_12) (pc' := 13) rfl ?_
  refine Go.cast (show (mkF m 13 #[.val (.ref a), .val (.int (6 : Int32)), .val (.int (-1756908918 : Int32)), .unset, .unset, .unset] [(.int ((6 : Int32) - (2 : Int32)))]) = (mkF m 13 #[.val (.ref a), .val (.int (6 : Int32)), .val (.int (-1756908918 : Int32)), .unset, .unset, .unset] [(.int (4 : Int32))]) from by rw [show ((6 : Int32) - (2 : Int32)) = (4 : Int32) from (by decide)]) ?_
  refine g_istoreN X0 hx (hb hby d1_13) (pc' := 14) rfl (Ls' := #[.val (.ref a), .val (.int (6 : Int32)), .val (.int (-1756908918 : Int32)), .val (.int (4 : Int32)), .unset, .unset]) rfl ?_
  refine g_iconst X0 hx (hb hby d1_14) (pc' := 15) rfl (z := (0 : Int32)) rfl ?_
  refine g_istore X0 hx (hb hby d1_15) (pc' := 17) rfl (Ls' := #[.val (.ref a), .val (.int (6 : Int32)), .val (.int (-1756908918 : Int32)), .val (.int (4 : Int32)), .val (.int (0 : Int32)), .unset]) rfl ?_
  refine g_iload X0 hx (hb hby d1_17) (pc' := 19) rfl rfl ?_
  refine g_iloadN X0 hx (hb hby d1_19) (pc' := 20) rfl rfl ?_
  refine g_icmp_ge X0 hx (hb hby d1_20) (pc1 := 23) rfl (by decide) (pc2 := 115) (by decide) (fun hc20 => absurd (by decide) hc20) (fun hc20 => ?_)
  refine g_aloadN X0 hx (hb hby d1_23) (pc' := 24) rfl rfl rfl ?_
  refine g_iload X0 hx (hb hby d1_24) (pc' := 26) rfl rfl ?_
  refine g_baload X0 hx hZ e0 V1 (i := 0) (v := (.int x0)) (hb hby d1_26) (pc' := 27) rfl (by decide) rfl rfl ?_
  refine g_sipush X0 hx (hb hby d1_27) (pc' := 30) rfl (z := (255 : Int32)) rfl ?_
  refine g_iand X0 hx (hb hby d1_30) (pc' := 31) rfl ?_
  refine g_aloadN X0 hx (hb hby d1_31) (pc' := 32) rfl rfl rfl ?_
  refine g_iload X0 hx (hb hby d1_32) (pc' := 34) rfl rfl ?_
  refine g_iconst X0 hx (hb hby d1_34) (pc' := 35) rfl (z := (1 : Int32)) rfl ?_
  refine g_iadd X0 hx (hb hby d1_35) (pc' := 36) rfl ?_
  refine Go.cast (show (mkF m 36 #[.val (.ref a), .val (.int (6 : Int32)), .val (.int (-1756908918 : Int32)), .val (.int (4 : Int32)), .val (.int (0 : Int32)), .unset] [(.int ((0 : Int32) + (1 : Int32))), (.ref a), (.int (x0 &&& (255 : Int32)))]) = (mkF m 36 #[.val (.ref a), .val (.int (6 : Int32)), .val (.int (-1756908918 : Int32)), .val (.int (4 : Int32)), .val (.int (0 : Int32)), .unset] [(.int (1 : Int32)), (.ref a), (.int (x0 &&& (255 : Int32)))]) from by rw [show ((0 : Int32) + (1 : Int32)) = (1 : Int32) from (by decide)]) ?_
  refine g_baload X0 hx hZ e0 V1 (i := 1) (v := (.int x1)) (hb hby d1_36) (pc' := 37) rfl (by decide) rfl rfl ?_
  refine g_sipush X0 hx (hb hby d1_37) (pc' := 40) rfl (z := (255 : Int32)) rfl ?_
  refine g_iand X0 hx (hb hby d1_40) (pc' := 41) rfl ?_
  refine g_bipush X0 hx (hb hby d1_41) (pc' := 43) rfl (z := (8 : Int32)) rfl ?_
  refine g_ishl X0 hx (hb hby d1_43) (pc' := 44) rfl ?_
  refine g_ior X0 hx (hb hby d1_44) (pc' := 45) rfl ?_
  refine g_aloadN X0 hx (hb hby d1_45) (pc' := 46) rfl rfl rfl ?_
  refine g_iload X0 hx (hb hby d1_46) (pc' := 48) rfl rfl ?_
  refine g_iconst X0 hx (hb hby d1_48) (pc' := 49) rfl (z := (2 : Int32)) rfl ?_
  refine g_iadd X0 hx (hb hby d1_49) (pc' := 50) rfl ?_
  refine Go.cast (show (mkF m 50 #[.val (.ref a), .val (.int (6 : Int32)), .val (.int (-1756908918 : Int32)), .val (.int (4 : Int32)), .val (.int (0 : Int32)), .unset] [(.int ((0 : Int32) + (2 : Int32))), (.ref a), (.int ((x0 &&& (255 : Int32)) ||| (shl (x1 &&& (255 : Int32)) (8 : Int32))))]) = (mkF m 50 #[.val (.ref a), .val (.int (6 : Int32)), .val (.int (-1756908918 : Int32)), .val (.int (4 : Int32)), .val (.int (0 : Int32)), .unset] [(.int (2 : Int32)), (.ref a), (.int ((x0 &&& (255 : Int32)) ||| (shl (x1 &&& (255 : Int32)) (8 : Int32))))]) from by rw [show ((0 : Int32) + (2 : Int32)) = (2 : Int32) from (by decide)]) ?_
  refine g_baload X0 hx hZ e0 V1 (i := 2) (v := (.int x2)) (hb hby d1_50) (pc' := 51) rfl (by decide) rfl rfl ?_
  refine g_sipush X0 hx (hb hby d1_51) (pc' := 54) rfl (z := (255 : Int32)) rfl ?_
  refine g_iand X0 hx (hb hby d1_54) (pc' := 55) rfl ?_
  refine g_bipush X0 hx (hb hby d1_55) (pc' := 57) rfl (z := (16 : Int32)) rfl ?_
  refine g_ishl X0 hx (hb hby d1_57) (pc' := 58) rfl ?_
  refine g_ior X0 hx (hb hby d1_58) (pc' := 59) rfl ?_
  refine g_aloadN X0 hx (hb hby d1_59) (pc' := 60) rfl rfl rfl ?_
  refine g_iload X0 hx (hb hby d1_60) (pc' := 62) rfl rfl ?_
  refine g_iconst X0 hx (hb hby d1_62) (pc' := 63) rfl (z := (3 : Int32)) rfl ?_
  refine g_iadd X0 hx (hb hby d1_63) (pc' := 64) rfl ?_
  refine Go.cast (show (mkF m 64 #[.val (.ref a), .val (.int (6 : Int32)), .val (.int (-1756908918 : Int32)), .val (.int (4 : Int32)), .val (.int (0 : Int32)), .unset] [(.int ((0 : Int32) + (3 : Int32))), (.ref a), (.int (((x0 &&& (255 : Int32)) ||| (shl (x1 &&& (255 : Int32)) (8 : Int32))) ||| (shl (x2 &&& (255 : Int32)) (16 : Int32))))]) = (mkF m 64 #[.val (.ref a), .val (.int (6 : Int32)), .val (.int (-1756908918 : Int32)), .val (.int (4 : Int32)), .val (.int (0 : Int32)), .unset] [(.int (3 : Int32)), (.ref a), (.int (((x0 &&& (255 : Int32)) ||| (shl (x1 &&& (255 : Int32)) (8 : Int32))) ||| (shl (x2 &&& (255 : Int32)) (16 : Int32))))]) from by rw [show ((0 : Int32) + (3 : Int32)) = (3 : Int32) from (by decide)]) ?_
  refine g_baload X0 hx hZ e0 V1 (i := 3) (v := (.int x3)) (hb hby d1_64) (pc' := 65) rfl (by decide) rfl rfl ?_
  refine g_sipush X0 hx (hb hby d1_65) (pc' := 68) rfl (z := (255 : Int32)) rfl ?_
  refine g_iand X0 hx (hb hby d1_68) (pc' := 69) rfl ?_
  refine g_bipush X0 hx (hb hby d1_69) (pc' := 71) rfl (z := (24 : Int32)) rfl ?_
  refine g_ishl X0 hx (hb hby d1_71) (pc' := 72) rfl ?_
  refine g_ior X0 hx (hb hby d1_72) (pc' := 73) rfl ?_
  refine Go.cast (show (mkF m 73 #[.val (.ref a), .val (.int (6 : Int32)), .val (.int (-1756908918 : Int32)), .val (.int (4 : Int32)), .val (.int (0 : Int32)), .unset] [(.int ((((x0 &&& (255 : Int32)) ||| (shl (x1 &&& (255 : Int32)) (8 : Int32))) ||| (shl (x2 &&& (255 : Int32)) (16 : Int32))) ||| (shl (x3 &&& (255 : Int32)) (24 : Int32))))]) = (mkF m 73 #[.val (.ref a), .val (.int (6 : Int32)), .val (.int (-1756908918 : Int32)), .val (.int (4 : Int32)), .val (.int (0 : Int32)), .unset] [(.int (wordV x0 x1 x2 x3))]) from by rw [show ((((x0 &&& (255 : Int32)) ||| (shl (x1 &&& (255 : Int32)) (8 : Int32))) ||| (shl (x2 &&& (255 : Int32)) (16 : Int32))) ||| (shl (x3 &&& (255 : Int32)) (24 : Int32))) = (wordV x0 x1 x2 x3) from rfl]) ?_
  refine g_istore X0 hx (hb hby d1_73) (pc' := 75) rfl (Ls' := #[.val (.ref a), .val (.int (6 : Int32)), .val (.int (-1756908918 : Int32)), .val (.int (4 : Int32)), .val (.int (0 : Int32)), .val (.int (wordV x0 x1 x2 x3))]) rfl ?_
  refine g_iload X0 hx (hb hby d1_75) (pc' := 77) rfl rfl ?_
  refine g_ldc X0 hx hZ hown (hw _ (List.mem_of_getElem? (i := 7) rfl)) (hb hby d1_77) (pc' := 79) rfl ?_
  refine g_imul X0 hx (hb hby d1_79) (pc' := 80) rfl ?_
  refine g_istore X0 hx (hb hby d1_80) (pc' := 82) rfl (Ls' := #[.val (.ref a), .val (.int (6 : Int32)), .val (.int (-1756908918 : Int32)), .val (.int (4 : Int32)), .val (.int (0 : Int32)), .val (.int ((wordV x0 x1 x2 x3) * (1540483477 : Int32)))]) rfl ?_
  refine g_iload X0 hx (hb hby d1_82) (pc' := 84) rfl rfl ?_
  refine g_iload X0 hx (hb hby d1_84) (pc' := 86) rfl rfl ?_
  refine g_bipush X0 hx (hb hby d1_86) (pc' := 88) rfl (z := (24 : Int32)) rfl ?_
  refine g_iushr X0 hx (hb hby d1_88) (pc' := 89) rfl ?_
  refine g_ixor X0 hx (hb hby d1_89) (pc' := 90) rfl ?_
  refine g_istore X0 hx (hb hby d1_90) (pc' := 92) rfl (Ls' := #[.val (.ref a), .val (.int (6 : Int32)), .val (.int (-1756908918 : Int32)), .val (.int (4 : Int32)), .val (.int (0 : Int32)), .val (.int (((wordV x0 x1 x2 x3) * (1540483477 : Int32)) ^^^ (ushr ((wordV x0 x1 x2 x3) * (1540483477 : Int32)) (24 : Int32))))]) rfl ?_
  refine g_iload X0 hx (hb hby d1_92) (pc' := 94) rfl rfl ?_
  refine g_ldc X0 hx hZ hown (hw _ (List.mem_of_getElem? (i := 7) rfl)) (hb hby d1_94) (pc' := 96) rfl ?_
  refine g_imul X0 hx (hb hby d1_96) (pc' := 97) rfl ?_
  refine Go.cast (show (mkF m 97 #[.val (.ref a), .val (.int (6 : Int32)), .val (.int (-1756908918 : Int32)), .val (.int (4 : Int32)), .val (.int (0 : Int32)), .val (.int (((wordV x0 x1 x2 x3) * (1540483477 : Int32)) ^^^ (ushr ((wordV x0 x1 x2 x3) * (1540483477 : Int32)) (24 : Int32))))] [(.int ((((wordV x0 x1 x2 x3) * (1540483477 : Int32)) ^^^ (ushr ((wordV x0 x1 x2 x3) * (1540483477 : Int32)) (24 : Int32))) * (1540483477 : Int32)))]) = (mkF m 97 #[.val (.ref a), .val (.int (6 : Int32)), .val (.int (-1756908918 : Int32)), .val (.int (4 : Int32)), .val (.int (0 : Int32)), .val (.int (((wordV x0 x1 x2 x3) * (1540483477 : Int32)) ^^^ (ushr ((wordV x0 x1 x2 x3) * (1540483477 : Int32)) (24 : Int32))))] [(.int (mixV (wordV x0 x1 x2 x3)))]) from by rw [show ((((wordV x0 x1 x2 x3) * (1540483477 : Int32)) ^^^ (ushr ((wordV x0 x1 x2 x3) * (1540483477 : Int32)) (24 : Int32))) * (1540483477 : Int32)) = (mixV (wordV x0 x1 x2 x3)) from rfl]) ?_
  refine g_istore X0 hx (hb hby d1_97) (pc' := 99) rfl (Ls' := #[.val (.ref a), .val (.int (6 : Int32)), .val (.int (-1756908918 : Int32)), .val (.int (4 : Int32)), .val (.int (0 : Int32)), .val (.int (mixV (wordV x0 x1 x2 x3)))]) rfl ?_
  refine g_iloadN X0 hx (hb hby d1_99) (pc' := 100) rfl rfl ?_
  refine g_ldc X0 hx hZ hown (hw _ (List.mem_of_getElem? (i := 7) rfl)) (hb hby d1_100) (pc' := 102) rfl ?_
  refine g_imul X0 hx (hb hby d1_102) (pc' := 103) rfl ?_
  refine Go.cast (show (mkF m 103 #[.val (.ref a), .val (.int (6 : Int32)), .val (.int (-1756908918 : Int32)), .val (.int (4 : Int32)), .val (.int (0 : Int32)), .val (.int (mixV (wordV x0 x1 x2 x3)))] [(.int ((-1756908918 : Int32) * (1540483477 : Int32)))]) = (mkF m 103 #[.val (.ref a), .val (.int (6 : Int32)), .val (.int (-1756908918 : Int32)), .val (.int (4 : Int32)), .val (.int (0 : Int32)), .val (.int (mixV (wordV x0 x1 x2 x3)))] [(.int (518292562 : Int32))]) from by rw [show ((-1756908918 : Int32) * (1540483477 : Int32)) = (518292562 : Int32) from (by decide)]) ?_
  refine g_istoreN X0 hx (hb hby d1_103) (pc' := 104) rfl (Ls' := #[.val (.ref a), .val (.int (6 : Int32)), .val (.int (518292562 : Int32)), .val (.int (4 : Int32)), .val (.int (0 : Int32)), .val (.int (mixV (wordV x0 x1 x2 x3)))]) rfl ?_
  refine g_iloadN X0 hx (hb hby d1_104) (pc' := 105) rfl rfl ?_
  refine g_iload X0 hx (hb hby d1_105) (pc' := 107) rfl rfl ?_
  refine g_ixor X0 hx (hb hby d1_107) (pc' := 108) rfl ?_
  refine g_istoreN X0 hx (hb hby d1_108) (pc' := 109) rfl (Ls' := #[.val (.ref a), .val (.int (6 : Int32)), .val (.int ((518292562 : Int32) ^^^ (mixV (wordV x0 x1 x2 x3)))), .val (.int (4 : Int32)), .val (.int (0 : Int32)), .val (.int (mixV (wordV x0 x1 x2 x3)))]) rfl ?_
  refine g_iinc X0 hx (hb hby d1_109) (pc' := 112) rfl rfl (z := (4 : Int32)) rfl (Ls' := #[.val (.ref a), .val (.int (6 : Int32)), .val (.int ((518292562 : Int32) ^^^ (mixV (wordV x0 x1 x2 x3)))), .val (.int (4 : Int32)), .val (.int (4 : Int32)), .val (.int (mixV (wordV x0 x1 x2 x3)))]) rfl ?_
  refine g_goto X0 hx (hb hby d1_112) (by decide) (pc' := 17) (by decide) ?_
  refine g_iload X0 hx (hb hby d1_17) (pc' := 19) rfl rfl ?_
  refine g_iloadN X0 hx (hb hby d1_19) (pc' := 20) rfl rfl ?_
  refine g_icmp_ge X0 hx (hb hby d1_20) (pc1 := 23) rfl (by decide) (pc2 := 115) (by decide) (fun hc20_1 => ?_) (fun hc20_1 => absurd hc20_1 (by decide))
  refine g_iloadN X0 hx (hb hby d1_115) (pc' := 116) rfl rfl ?_
  refine g_istore X0 hx (hb hby d1_116) (pc' := 118) rfl (Ls' := #[.val (.ref a), .val (.int (6 : Int32)), .val (.int ((518292562 : Int32) ^^^ (mixV (wordV x0 x1 x2 x3)))), .val (.int (4 : Int32)), .val (.int (4 : Int32)), .val (.int (mixV (wordV x0 x1 x2 x3)))]) rfl ?_
  refine g_iload X0 hx (hb hby d1_118) (pc' := 120) rfl rfl ?_
  refine g_iloadN X0 hx (hb hby d1_120) (pc' := 121) rfl rfl ?_
  refine g_icmp_ge X0 hx (hb hby d1_121) (pc1 := 124) rfl (by decide) (pc2 := 149) (by decide) (fun hc121 => absurd (by decide) hc121) (fun hc121 => ?_)
  refine g_iloadN X0 hx (hb hby d1_124) (pc' := 125) rfl rfl ?_
  refine g_aloadN X0 hx (hb hby d1_125) (pc' := 126) rfl rfl rfl ?_
  refine g_iload X0 hx (hb hby d1_126) (pc' := 128) rfl rfl ?_
  refine g_baload X0 hx hZ e0 V1 (i := 4) (v := (.int x4)) (hb hby d1_128) (pc' := 129) rfl (by decide) rfl rfl ?_
  refine g_sipush X0 hx (hb hby d1_129) (pc' := 132) rfl (z := (255 : Int32)) rfl ?_
  refine g_iand X0 hx (hb hby d1_132) (pc' := 133) rfl ?_
  refine g_bipush X0 hx (hb hby d1_133) (pc' := 135) rfl (z := (8 : Int32)) rfl ?_
  refine g_iload X0 hx (hb hby d1_135) (pc' := 137) rfl rfl ?_
  refine g_iloadN X0 hx (hb hby d1_137) (pc' := 138) rfl rfl ?_
  refine g_isub X0 hx (hb hby d1_138) (pc' := 139) rfl ?_
  refine Go.cast (show (mkF m 139 #[.val (.ref a), .val (.int (6 : Int32)), .val (.int ((518292562 : Int32) ^^^ (mixV (wordV x0 x1 x2 x3)))), .val (.int (4 : Int32)), .val (.int (4 : Int32)), .val (.int (mixV (wordV x0 x1 x2 x3)))] [(.int ((4 : Int32) - (4 : Int32))), (.int (8 : Int32)), (.int (x4 &&& (255 : Int32))), (.int ((518292562 : Int32) ^^^ (mixV (wordV x0 x1 x2 x3))))]) = (mkF m 139 #[.val (.ref a), .val (.int (6 : Int32)), .val (.int ((518292562 : Int32) ^^^ (mixV (wordV x0 x1 x2 x3)))), .val (.int (4 : Int32)), .val (.int (4 : Int32)), .val (.int (mixV (wordV x0 x1 x2 x3)))] [(.int (0 : Int32)), (.int (8 : Int32)), (.int (x4 &&& (255 : Int32))), (.int ((518292562 : Int32) ^^^ (mixV (wordV x0 x1 x2 x3))))]) from by rw [show ((4 : Int32) - (4 : Int32)) = (0 : Int32) from (by decide)]) ?_
  refine g_imul X0 hx (hb hby d1_139) (pc' := 140) rfl ?_
  refine Go.cast (show (mkF m 140 #[.val (.ref a), .val (.int (6 : Int32)), .val (.int ((518292562 : Int32) ^^^ (mixV (wordV x0 x1 x2 x3)))), .val (.int (4 : Int32)), .val (.int (4 : Int32)), .val (.int (mixV (wordV x0 x1 x2 x3)))] [(.int ((8 : Int32) * (0 : Int32))), (.int (x4 &&& (255 : Int32))), (.int ((518292562 : Int32) ^^^ (mixV (wordV x0 x1 x2 x3))))]) = (mkF m 140 #[.val (.ref a), .val (.int (6 : Int32)), .val (.int ((518292562 : Int32) ^^^ (mixV (wordV x0 x1 x2 x3)))), .val (.int (4 : Int32)), .val (.int (4 : Int32)), .val (.int (mixV (wordV x0 x1 x2 x3)))] [(.int (0 : Int32)), (.int (x4 &&& (255 : Int32))), (.int ((518292562 : Int32) ^^^ (mixV (wordV x0 x1 x2 x3))))]) from by rw [show ((8 : Int32) * (0 : Int32)) = (0 : Int32) from (by decide)]) ?_
  refine g_ishl X0 hx (hb hby d1_140) (pc' := 141) rfl ?_
  refine g_ixor X0 hx (hb hby d1_141) (pc' := 142) rfl ?_
  refine g_istoreN X0 hx (hb hby d1_142) (pc' := 143) rfl (Ls' := #[.val (.ref a), .val (.int (6 : Int32)), .val (.int (((518292562 : Int32) ^^^ (mixV (wordV x0 x1 x2 x3))) ^^^ (shl (x4 &&& (255 : Int32)) (0 : Int32)))), .val (.int (4 : Int32)), .val (.int (4 : Int32)), .val (.int (mixV (wordV x0 x1 x2 x3)))]) rfl ?_
  refine g_iinc X0 hx (hb hby d1_143) (pc' := 146) rfl rfl (z := (1 : Int32)) rfl (Ls' := #[.val (.ref a), .val (.int (6 : Int32)), .val (.int (((518292562 : Int32) ^^^ (mixV (wordV x0 x1 x2 x3))) ^^^ (shl (x4 &&& (255 : Int32)) (0 : Int32)))), .val (.int (4 : Int32)), .val (.int (5 : Int32)), .val (.int (mixV (wordV x0 x1 x2 x3)))]) rfl ?_
  refine g_goto X0 hx (hb hby d1_146) (by decide) (pc' := 118) (by decide) ?_
  refine g_iload X0 hx (hb hby d1_118) (pc' := 120) rfl rfl ?_
  refine g_iloadN X0 hx (hb hby d1_120) (pc' := 121) rfl rfl ?_
  refine g_icmp_ge X0 hx (hb hby d1_121) (pc1 := 124) rfl (by decide) (pc2 := 149) (by decide) (fun hc121_1 => absurd (by decide) hc121_1) (fun hc121_1 => ?_)
  refine g_iloadN X0 hx (hb hby d1_124) (pc' := 125) rfl rfl ?_
  refine g_aloadN X0 hx (hb hby d1_125) (pc' := 126) rfl rfl rfl ?_
  refine g_iload X0 hx (hb hby d1_126) (pc' := 128) rfl rfl ?_
  refine g_baload X0 hx hZ e0 V1 (i := 5) (v := (.int x5)) (hb hby d1_128) (pc' := 129) rfl (by decide) rfl rfl ?_
  refine g_sipush X0 hx (hb hby d1_129) (pc' := 132) rfl (z := (255 : Int32)) rfl ?_
  refine g_iand X0 hx (hb hby d1_132) (pc' := 133) rfl ?_
  refine g_bipush X0 hx (hb hby d1_133) (pc' := 135) rfl (z := (8 : Int32)) rfl ?_
  refine g_iload X0 hx (hb hby d1_135) (pc' := 137) rfl rfl ?_
  refine g_iloadN X0 hx (hb hby d1_137) (pc' := 138) rfl rfl ?_
  refine g_isub X0 hx (hb hby d1_138) (pc' := 139) rfl ?_
  refine Go.cast (show (mkF m 139 #[.val (.ref a), .val (.int (6 : Int32)), .val (.int (((518292562 : Int32) ^^^ (mixV (wordV x0 x1 x2 x3))) ^^^ (shl (x4 &&& (255 : Int32)) (0 : Int32)))), .val (.int (4 : Int32)), .val (.int (5 : Int32)), .val (.int (mixV (wordV x0 x1 x2 x3)))] [(.int ((5 : Int32) - (4 : Int32))), (.int (8 : Int32)), (.int (x5 &&& (255 : Int32))), (.int (((518292562 : Int32) ^^^ (mixV (wordV x0 x1 x2 x3))) ^^^ (shl (x4 &&& (255 : Int32)) (0 : Int32))))]) = (mkF m 139 #[.val (.ref a), .val (.int (6 : Int32)), .val (.int (((518292562 : Int32) ^^^ (mixV (wordV x0 x1 x2 x3))) ^^^ (shl (x4 &&& (255 : Int32)) (0 : Int32)))), .val (.int (4 : Int32)), .val (.int (5 : Int32)), .val (.int (mixV (wordV x0 x1 x2 x3)))] [(.int (1 : Int32)), (.int (8 : Int32)), (.int (x5 &&& (255 : Int32))), (.int (((518292562 : Int32) ^^^ (mixV (wordV x0 x1 x2 x3))) ^^^ (shl (x4 &&& (255 : Int32)) (0 : Int32))))]) from by rw [show ((5 : Int32) - (4 : Int32)) = (1 : Int32) from (by decide)]) ?_
  refine g_imul X0 hx (hb hby d1_139) (pc' := 140) rfl ?_
  refine Go.cast (show (mkF m 140 #[.val (.ref a), .val (.int (6 : Int32)), .val (.int (((518292562 : Int32) ^^^ (mixV (wordV x0 x1 x2 x3))) ^^^ (shl (x4 &&& (255 : Int32)) (0 : Int32)))), .val (.int (4 : Int32)), .val (.int (5 : Int32)), .val (.int (mixV (wordV x0 x1 x2 x3)))] [(.int ((8 : Int32) * (1 : Int32))), (.int (x5 &&& (255 : Int32))), (.int (((518292562 : Int32) ^^^ (mixV (wordV x0 x1 x2 x3))) ^^^ (shl (x4 &&& (255 : Int32)) (0 : Int32))))]) = (mkF m 140 #[.val (.ref a), .val (.int (6 : Int32)), .val (.int (((518292562 : Int32) ^^^ (mixV (wordV x0 x1 x2 x3))) ^^^ (shl (x4 &&& (255 : Int32)) (0 : Int32)))), .val (.int (4 : Int32)), .val (.int (5 : Int32)), .val (.int (mixV (wordV x0 x1 x2 x3)))] [(.int (8 : Int32)), (.int (x5 &&& (255 : Int32))), (.int (((518292562 : Int32) ^^^ (mixV (wordV x0 x1 x2 x3))) ^^^ (shl (x4 &&& (255 : Int32)) (0 : Int32))))]) from by rw [show ((8 : Int32) * (1 : Int32)) = (8 : Int32) from (by decide)]) ?_
  refine g_ishl X0 hx (hb hby d1_140) (pc' := 141) rfl ?_
  refine g_ixor X0 hx (hb hby d1_141) (pc' := 142) rfl ?_
  refine g_istoreN X0 hx (hb hby d1_142) (pc' := 143) rfl (Ls' := #[.val (.ref a), .val (.int (6 : Int32)), .val (.int ((((518292562 : Int32) ^^^ (mixV (wordV x0 x1 x2 x3))) ^^^ (shl (x4 &&& (255 : Int32)) (0 : Int32))) ^^^ (shl (x5 &&& (255 : Int32)) (8 : Int32)))), .val (.int (4 : Int32)), .val (.int (5 : Int32)), .val (.int (mixV (wordV x0 x1 x2 x3)))]) rfl ?_
  refine g_iinc X0 hx (hb hby d1_143) (pc' := 146) rfl rfl (z := (1 : Int32)) rfl (Ls' := #[.val (.ref a), .val (.int (6 : Int32)), .val (.int ((((518292562 : Int32) ^^^ (mixV (wordV x0 x1 x2 x3))) ^^^ (shl (x4 &&& (255 : Int32)) (0 : Int32))) ^^^ (shl (x5 &&& (255 : Int32)) (8 : Int32)))), .val (.int (4 : Int32)), .val (.int (6 : Int32)), .val (.int (mixV (wordV x0 x1 x2 x3)))]) rfl ?_
  refine g_goto X0 hx (hb hby d1_146) (by decide) (pc' := 118) (by decide) ?_
  refine g_iload X0 hx (hb hby d1_118) (pc' := 120) rfl rfl ?_
  refine g_iloadN X0 hx (hb hby d1_120) (pc' := 121) rfl rfl ?_
  refine g_icmp_ge X0 hx (hb hby d1_121) (pc1 := 124) rfl (by decide) (pc2 := 149) (by decide) (fun hc121_2 => ?_) (fun hc121_2 => absurd hc121_2 (by decide))
  refine g_iloadN X0 hx (hb hby d1_149) (pc' := 150) rfl rfl ?_
  refine g_iloadN X0 hx (hb hby d1_150) (pc' := 151) rfl rfl ?_
  refine g_icmp_ge X0 hx (hb hby d1_151) (pc1 := 154) rfl (by decide) (pc2 := 159) (by decide) (fun hc151 => absurd (by decide) hc151) (fun hc151 => ?_)
  refine g_iloadN X0 hx (hb hby d1_154) (pc' := 155) rfl rfl ?_
  refine g_ldc X0 hx hZ hown (hw _ (List.mem_of_getElem? (i := 7) rfl)) (hb hby d1_155) (pc' := 157) rfl ?_
  refine g_imul X0 hx (hb hby d1_157) (pc' := 158) rfl ?_
  refine g_istoreN X0 hx (hb hby d1_158) (pc' := 159) rfl (Ls' := #[.val (.ref a), .val (.int (6 : Int32)), .val (.int (((((518292562 : Int32) ^^^ (mixV (wordV x0 x1 x2 x3))) ^^^ (shl (x4 &&& (255 : Int32)) (0 : Int32))) ^^^ (shl (x5 &&& (255 : Int32)) (8 : Int32))) * (1540483477 : Int32))), .val (.int (4 : Int32)), .val (.int (6 : Int32)), .val (.int (mixV (wordV x0 x1 x2 x3)))]) rfl ?_
  refine g_iloadN X0 hx (hb hby d1_159) (pc' := 160) rfl rfl ?_
  refine g_iloadN X0 hx (hb hby d1_160) (pc' := 161) rfl rfl ?_
  refine g_bipush X0 hx (hb hby d1_161) (pc' := 163) rfl (z := (13 : Int32)) rfl ?_
  refine g_iushr X0 hx (hb hby d1_163) (pc' := 164) rfl ?_
  refine g_ixor X0 hx (hb hby d1_164) (pc' := 165) rfl ?_
  refine Go.cast (show (mkF m 165 #[.val (.ref a), .val (.int (6 : Int32)), .val (.int (((((518292562 : Int32) ^^^ (mixV (wordV x0 x1 x2 x3))) ^^^ (shl (x4 &&& (255 : Int32)) (0 : Int32))) ^^^ (shl (x5 &&& (255 : Int32)) (8 : Int32))) * (1540483477 : Int32))), .val (.int (4 : Int32)), .val (.int (6 : Int32)), .val (.int (mixV (wordV x0 x1 x2 x3)))] [(.int ((((((518292562 : Int32) ^^^ (mixV (wordV x0 x1 x2 x3))) ^^^ (shl (x4 &&& (255 : Int32)) (0 : Int32))) ^^^ (shl (x5 &&& (255 : Int32)) (8 : Int32))) * (1540483477 : Int32)) ^^^ (ushr (((((518292562 : Int32) ^^^ (mixV (wordV x0 x1 x2 x3))) ^^^ (shl (x4 &&& (255 : Int32)) (0 : Int32))) ^^^ (shl (x5 &&& (255 : Int32)) (8 : Int32))) * (1540483477 : Int32)) (13 : Int32))))]) = (mkF m 165 #[.val (.ref a), .val (.int (6 : Int32)), .val (.int (((((518292562 : Int32) ^^^ (mixV (wordV x0 x1 x2 x3))) ^^^ (shl (x4 &&& (255 : Int32)) (0 : Int32))) ^^^ (shl (x5 &&& (255 : Int32)) (8 : Int32))) * (1540483477 : Int32))), .val (.int (4 : Int32)), .val (.int (6 : Int32)), .val (.int (mixV (wordV x0 x1 x2 x3)))] [(.int (fin1 (((((518292562 : Int32) ^^^ (mixV (wordV x0 x1 x2 x3))) ^^^ (shl (x4 &&& (255 : Int32)) (0 : Int32))) ^^^ (shl (x5 &&& (255 : Int32)) (8 : Int32))) * (1540483477 : Int32))))]) from by rw [show ((((((518292562 : Int32) ^^^ (mixV (wordV x0 x1 x2 x3))) ^^^ (shl (x4 &&& (255 : Int32)) (0 : Int32))) ^^^ (shl (x5 &&& (255 : Int32)) (8 : Int32))) * (1540483477 : Int32)) ^^^ (ushr (((((518292562 : Int32) ^^^ (mixV (wordV x0 x1 x2 x3))) ^^^ (shl (x4 &&& (255 : Int32)) (0 : Int32))) ^^^ (shl (x5 &&& (255 : Int32)) (8 : Int32))) * (1540483477 : Int32)) (13 : Int32))) = (fin1 (((((518292562 : Int32) ^^^ (mixV (wordV x0 x1 x2 x3))) ^^^ (shl (x4 &&& (255 : Int32)) (0 : Int32))) ^^^ (shl (x5 &&& (255 : Int32)) (8 : Int32))) * (1540483477 : Int32))) from rfl]) ?_
  refine g_istoreN X0 hx (hb hby d1_165) (pc' := 166) rfl (Ls' := #[.val (.ref a), .val (.int (6 : Int32)), .val (.int (fin1 (((((518292562 : Int32) ^^^ (mixV (wordV x0 x1 x2 x3))) ^^^ (shl (x4 &&& (255 : Int32)) (0 : Int32))) ^^^ (shl (x5 &&& (255 : Int32)) (8 : Int32))) * (1540483477 : Int32)))), .val (.int (4 : Int32)), .val (.int (6 : Int32)), .val (.int (mixV (wordV x0 x1 x2 x3)))]) rfl ?_
  refine g_iloadN X0 hx (hb hby d1_166) (pc' := 167) rfl rfl ?_
  refine g_ldc X0 hx hZ hown (hw _ (List.mem_of_getElem? (i := 7) rfl)) (hb hby d1_167) (pc' := 169) rfl ?_
  refine g_imul X0 hx (hb hby d1_169) (pc' := 170) rfl ?_
  refine g_istoreN X0 hx (hb hby d1_170) (pc' := 171) rfl (Ls' := #[.val (.ref a), .val (.int (6 : Int32)), .val (.int ((fin1 (((((518292562 : Int32) ^^^ (mixV (wordV x0 x1 x2 x3))) ^^^ (shl (x4 &&& (255 : Int32)) (0 : Int32))) ^^^ (shl (x5 &&& (255 : Int32)) (8 : Int32))) * (1540483477 : Int32))) * (1540483477 : Int32))), .val (.int (4 : Int32)), .val (.int (6 : Int32)), .val (.int (mixV (wordV x0 x1 x2 x3)))]) rfl ?_
  refine g_iloadN X0 hx (hb hby d1_171) (pc' := 172) rfl rfl ?_
  refine g_iloadN X0 hx (hb hby d1_172) (pc' := 173) rfl rfl ?_
  refine g_bipush X0 hx (hb hby d1_173) (pc' := 175) rfl (z := (15 : Int32)) rfl ?_
  refine g_iushr X0 hx (hb hby d1_175) (pc' := 176) rfl ?_
  refine g_ixor X0 hx (hb hby d1_176) (pc' := 177) rfl ?_
  refine Go.cast (show (mkF m 177 #[.val (.ref a), .val (.int (6 : Int32)), .val (.int ((fin1 (((((518292562 : Int32) ^^^ (mixV (wordV x0 x1 x2 x3))) ^^^ (shl (x4 &&& (255 : Int32)) (0 : Int32))) ^^^ (shl (x5 &&& (255 : Int32)) (8 : Int32))) * (1540483477 : Int32))) * (1540483477 : Int32))), .val (.int (4 : Int32)), .val (.int (6 : Int32)), .val (.int (mixV (wordV x0 x1 x2 x3)))] [(.int (((fin1 (((((518292562 : Int32) ^^^ (mixV (wordV x0 x1 x2 x3))) ^^^ (shl (x4 &&& (255 : Int32)) (0 : Int32))) ^^^ (shl (x5 &&& (255 : Int32)) (8 : Int32))) * (1540483477 : Int32))) * (1540483477 : Int32)) ^^^ (ushr ((fin1 (((((518292562 : Int32) ^^^ (mixV (wordV x0 x1 x2 x3))) ^^^ (shl (x4 &&& (255 : Int32)) (0 : Int32))) ^^^ (shl (x5 &&& (255 : Int32)) (8 : Int32))) * (1540483477 : Int32))) * (1540483477 : Int32)) (15 : Int32))))]) = (mkF m 177 #[.val (.ref a), .val (.int (6 : Int32)), .val (.int ((fin1 (((((518292562 : Int32) ^^^ (mixV (wordV x0 x1 x2 x3))) ^^^ (shl (x4 &&& (255 : Int32)) (0 : Int32))) ^^^ (shl (x5 &&& (255 : Int32)) (8 : Int32))) * (1540483477 : Int32))) * (1540483477 : Int32))), .val (.int (4 : Int32)), .val (.int (6 : Int32)), .val (.int (mixV (wordV x0 x1 x2 x3)))] [(.int (fin2 ((fin1 (((((518292562 : Int32) ^^^ (mixV (wordV x0 x1 x2 x3))) ^^^ (shl (x4 &&& (255 : Int32)) (0 : Int32))) ^^^ (shl (x5 &&& (255 : Int32)) (8 : Int32))) * (1540483477 : Int32))) * (1540483477 : Int32))))]) from by rw [show (((fin1 (((((518292562 : Int32) ^^^ (mixV (wordV x0 x1 x2 x3))) ^^^ (shl (x4 &&& (255 : Int32)) (0 : Int32))) ^^^ (shl (x5 &&& (255 : Int32)) (8 : Int32))) * (1540483477 : Int32))) * (1540483477 : Int32)) ^^^ (ushr ((fin1 (((((518292562 : Int32) ^^^ (mixV (wordV x0 x1 x2 x3))) ^^^ (shl (x4 &&& (255 : Int32)) (0 : Int32))) ^^^ (shl (x5 &&& (255 : Int32)) (8 : Int32))) * (1540483477 : Int32))) * (1540483477 : Int32)) (15 : Int32))) = (fin2 ((fin1 (((((518292562 : Int32) ^^^ (mixV (wordV x0 x1 x2 x3))) ^^^ (shl (x4 &&& (255 : Int32)) (0 : Int32))) ^^^ (shl (x5 &&& (255 : Int32)) (8 : Int32))) * (1540483477 : Int32))) * (1540483477 : Int32))) from rfl]) ?_
  refine g_istoreN X0 hx (hb hby d1_177) (pc' := 178) rfl (Ls' := #[.val (.ref a), .val (.int (6 : Int32)), .val (.int (fin2 ((fin1 (((((518292562 : Int32) ^^^ (mixV (wordV x0 x1 x2 x3))) ^^^ (shl (x4 &&& (255 : Int32)) (0 : Int32))) ^^^ (shl (x5 &&& (255 : Int32)) (8 : Int32))) * (1540483477 : Int32))) * (1540483477 : Int32)))), .val (.int (4 : Int32)), .val (.int (6 : Int32)), .val (.int (mixV (wordV x0 x1 x2 x3)))]) rfl ?_
  refine g_iloadN X0 hx (hb hby d1_178) (pc' := 179) rfl rfl ?_
  exact g_ireturn X0 hx hret (hb hby d1_179) N0 hlk (fun v t => endF (by decide) (by decide) v) (by rw [e0]; exact ⟨rfl, rfl⟩)
theorem ef_2_6 (x0 : Int32) (x1 : Int32) (x2 : Int32) (m : MethodId) : entryFrame m #[(.int x0), (.int x1), (.int x2)] 8 = mkF m 0 #[.val (.int x0), .val (.int x1), .val (.int x2), .unset, .unset, .unset, .unset, .unset] [] := by first | (simp [entryFrame, mkF, argsToLocals, Value.category]; done) | rfl
def Q2_6 (Z : State) (p0 : Int32) (p1 : Int32) (h0 : Heap) (n0 : Nat) : Option Value → Heap → Prop := fun v h => v = some (.int (fin2 ((fin1 ((((518292562 : Int32) ^^^ (mixV p0)) ^^^ (p1 &&& (65535 : Int32))) * (1540483477 : Int32))) * (1540483477 : Int32)))) ∧ h0 = h
set_option maxRecDepth 65536 in
set_option maxHeartbeats 40000000 in
theorem rm2_6 (l : Launch) (Z : State) (a0 : Array Value) (hw : ∀ d ∈ tables_1, d.before a0 Z = true) (p0 : Int32) (p1 : Int32) (h0 : Heap) (n0 : Nat) (Z0 : n0 ≤ h0.size) : Ctr l Z (⟨"com/example/stream_log_client/streamlogclient/producer/PartitionerMurmur2PinLaw", "ref", "(III)I"⟩ : MethodName) method_4_code 8 (some .int) ({ frames := 1, cells := 0, slots := 0, locals := 15 } : Room) #[(.int p0), (.int p1), (.int (6 : Int32))] h0 n0 (Q2_6 Z p0 p1 h0 n0) := by
  refine Ctr.of (plainFor_of_name pn_3) (ef_2_6 p0 p1 (6 : Int32)) ?_
  intro p e s m below meth c T0 hx hby hml hown hnm hret hlk hZ X0 e0
  have N0 := Fr.nil n0
  refine g_ldc X0 hx hZ hown (hw _ (List.mem_of_getElem? (i := 13) rfl)) (hb hby d2_0) (pc' := 2) rfl ?_
  refine g_istoreN X0 hx (hb hby d2_2) (pc' := 3) rfl (Ls' := #[.val (.int p0), .val (.int p1), .val (.int (6 : Int32)), .val (.int (1540483477 : Int32)), .unset, .unset, .unset, .unset]) rfl ?_
  refine g_ldc X0 hx hZ hown (hw _ (List.mem_of_getElem? (i := 14) rfl)) (hb hby d2_3) (pc' := 5) rfl ?_
  refine g_iloadN X0 hx (hb hby d2_5) (pc' := 6) rfl rfl ?_
  refine g_ixor X0 hx (hb hby d2_6) (pc' := 7) rfl ?_
  refine Go.cast (show (mkF m 7 #[.val (.int p0), .val (.int p1), .val (.int (6 : Int32)), .val (.int (1540483477 : Int32)), .unset, .unset, .unset, .unset] [(.int ((-1756908916 : Int32) ^^^ (6 : Int32)))]) = (mkF m 7 #[.val (.int p0), .val (.int p1), .val (.int (6 : Int32)), .val (.int (1540483477 : Int32)), .unset, .unset, .unset, .unset] [(.int (-1756908918 : Int32))]) from by rw [show ((-1756908916 : Int32) ^^^ (6 : Int32)) = (-1756908918 : Int32) from (by decide)]) ?_
  refine g_istore X0 hx (hb hby d2_7) (pc' := 9) rfl (Ls' := #[.val (.int p0), .val (.int p1), .val (.int (6 : Int32)), .val (.int (1540483477 : Int32)), .val (.int (-1756908918 : Int32)), .unset, .unset, .unset]) rfl ?_
  refine g_iloadN X0 hx (hb hby d2_9) (pc' := 10) rfl rfl ?_
  refine g_iconst X0 hx (hb hby d2_10) (pc' := 11) rfl (z := (4 : Int32)) rfl ?_
  refine g_icmp_lt X0 hx (hb hby d2_11) (pc1 := 14) rfl (by decide) (pc2 := 25) (by decide) (fun hc11 => absurd hc11 (by decide)) (fun hc11 => ?_)
  refine g_iload X0 hx (hb hby d2_14) (pc' := 16) rfl rfl ?_
  refine g_iloadN X0 hx (hb hby d2_16) (pc' := 17) rfl rfl ?_
  refine g_imul X0 hx (hb hby d2_17) (pc' := 18) rfl ?_
  refine Go.cast (show (mkF m 18 #[.val (.int p0), .val (.int p1), .val (.int (6 : Int32)), .val (.int (1540483477 : Int32)), .val (.int (-1756908918 : Int32)), .unset, .unset, .unset] [(.int ((-1756908918 : Int32) * (1540483477 : Int32)))]) = (mkF m 18 #[.val (.int p0), .val (.int p1), .val (.int (6 : Int32)), .val (.int (1540483477 : Int32)), .val (.int (-1756908918 : Int32)), .unset, .unset, .unset] [(.int (518292562 : Int32))]) from by rw [show ((-1756908918 : Int32) * (1540483477 : Int32)) = (518292562 : Int32) from (by decide)]) ?_
  refine g_iloadN X0 hx (hb hby d2_18) (pc' := 19) rfl rfl ?_
  obtain ⟨v3, T3, h3, L3, X3, e3, N3, q3, st3⟩ := h_static X0 hx (W := 1) (Ls := #[.val (.int p0), .val (.int p1), .val (.int (6 : Int32)), .val (.int (1540483477 : Int32)), .val (.int (-1756908918 : Int32)), .unset, .unset, .unset]) (argsL := [(.int p0)]) (rest := [(.int (518292562 : Int32))]) hZ e0 N0 hml hown (rm3 l Z a0 hw p0 h0 n0 Z0) (hw _ (List.mem_of_getElem? (i := 17) rfl)) (hw _ (List.mem_of_getElem? (i := 18) rfl)) (hw _ (List.mem_of_getElem? (i := 11) rfl)) (hw _ (List.mem_of_getElem? (i := 19) rfl)) (by decide) pd__I_I rfl rfl (hb hby d2_19) rfl (by decide) (by decide) (by decide) (by decide)
  obtain ⟨rfl, rfl⟩ := q3
  refine Go.movp st3 (mkF m 22 #[.val (.int p0), .val (.int p1), .val (.int (6 : Int32)), .val (.int (1540483477 : Int32)), .val (.int (-1756908918 : Int32)), .unset, .unset, .unset] [(.int (mixV p0)), (.int (518292562 : Int32))]) rfl ?_
  refine g_ixor X3 hx (hb hby d2_22) (pc' := 23) rfl ?_
  refine g_istore X3 hx (hb hby d2_23) (pc' := 25) rfl (Ls' := #[.val (.int p0), .val (.int p1), .val (.int (6 : Int32)), .val (.int (1540483477 : Int32)), .val (.int ((518292562 : Int32) ^^^ (mixV p0))), .unset, .unset, .unset]) rfl ?_
  refine g_iloadN X3 hx (hb hby d2_25) (pc' := 26) rfl rfl ?_
  refine g_bipush X3 hx (hb hby d2_26) (pc' := 28) rfl (z := (8 : Int32)) rfl ?_
  refine g_icmp_ne X3 hx (hb hby d2_28) (pc1 := 31) rfl (by decide) (pc2 := 42) (by decide) (fun hc28 => ?_) (fun hc28 => absurd hc28 (by decide))
  refine g_iloadN X3 hx (hb hby d2_42) (pc' := 43) rfl rfl ?_
  refine g_iconst X3 hx (hb hby d2_43) (pc' := 44) rfl (z := (3 : Int32)) rfl ?_
  refine g_iand X3 hx (hb hby d2_44) (pc' := 45) rfl ?_
  refine Go.cast (show (mkF m 45 #[.val (.int p0), .val (.int p1), .val (.int (6 : Int32)), .val (.int (1540483477 : Int32)), .val (.int ((518292562 : Int32) ^^^ (mixV p0))), .unset, .unset, .unset] [(.int ((6 : Int32) &&& (3 : Int32)))]) = (mkF m 45 #[.val (.int p0), .val (.int p1), .val (.int (6 : Int32)), .val (.int (1540483477 : Int32)), .val (.int ((518292562 : Int32) ^^^ (mixV p0))), .unset, .unset, .unset] [(.int (2 : Int32))]) from by rw [show ((6 : Int32) &&& (3 : Int32)) = (2 : Int32) from (by decide)]) ?_
  refine g_istore X3 hx (hb hby d2_45) (pc' := 47) rfl (Ls' := #[.val (.int p0), .val (.int p1), .val (.int (6 : Int32)), .val (.int (1540483477 : Int32)), .val (.int ((518292562 : Int32) ^^^ (mixV p0))), .val (.int (2 : Int32)), .unset, .unset]) rfl ?_
  refine g_iload X3 hx (hb hby d2_47) (pc' := 49) rfl rfl ?_
  refine g_if_eq X3 hx (hb hby d2_49) (pc1 := 52) rfl (by decide) (pc2 := 107) (by decide) (fun hc49 => absurd hc49 (by decide)) (fun hc49 => ?_)
  refine g_iloadN X3 hx (hb hby d2_52) (pc' := 53) rfl rfl ?_
  refine g_iconst X3 hx (hb hby d2_53) (pc' := 54) rfl (z := (4 : Int32)) rfl ?_
  refine g_icmp_ge X3 hx (hb hby d2_54) (pc1 := 57) rfl (by decide) (pc2 := 61) (by decide) (fun hc54 => ?_) (fun hc54 => absurd hc54 (by decide))
  refine g_iloadN X3 hx (hb hby d2_61) (pc' := 62) rfl rfl ?_
  refine g_istore X3 hx (hb hby d2_62) (pc' := 64) rfl (Ls' := #[.val (.int p0), .val (.int p1), .val (.int (6 : Int32)), .val (.int (1540483477 : Int32)), .val (.int ((518292562 : Int32) ^^^ (mixV p0))), .val (.int (2 : Int32)), .val (.int p1), .unset]) rfl ?_
  refine g_iload X3 hx (hb hby d2_64) (pc' := 66) rfl rfl ?_
  refine g_iconst X3 hx (hb hby d2_66) (pc' := 67) rfl (z := (1 : Int32)) rfl ?_
  refine g_icmp_ne X3 hx (hb hby d2_67) (pc1 := 70) rfl (by decide) (pc2 := 76) (by decide) (fun hc67 => ?_) (fun hc67 => absurd hc67 (by decide))
  refine g_iload X3 hx (hb hby d2_76) (pc' := 78) rfl rfl ?_
  refine g_iconst X3 hx (hb hby d2_78) (pc' := 79) rfl (z := (2 : Int32)) rfl ?_
  refine g_icmp_ne X3 hx (hb hby d2_79) (pc1 := 82) rfl (by decide) (pc2 := 87) (by decide) (fun hc79 => absurd (by decide) hc79) (fun hc79 => ?_)
  refine g_ldc X3 hx hZ hown (hw _ (List.mem_of_getElem? (i := 15) rfl)) (hb hby d2_82) (pc' := 84) rfl ?_
  refine g_goto X3 hx (hb hby d2_84) (by decide) (pc' := 89) (by decide) ?_
  refine g_istore X3 hx (hb hby d2_89) (pc' := 91) rfl (Ls' := #[.val (.int p0), .val (.int p1), .val (.int (6 : Int32)), .val (.int (1540483477 : Int32)), .val (.int ((518292562 : Int32) ^^^ (mixV p0))), .val (.int (2 : Int32)), .val (.int p1), .val (.int (65535 : Int32))]) rfl ?_
  refine g_iload X3 hx (hb hby d2_91) (pc' := 93) rfl rfl ?_
  refine g_iload X3 hx (hb hby d2_93) (pc' := 95) rfl rfl ?_
  refine g_iload X3 hx (hb hby d2_95) (pc' := 97) rfl rfl ?_
  refine g_iand X3 hx (hb hby d2_97) (pc' := 98) rfl ?_
  refine g_ixor X3 hx (hb hby d2_98) (pc' := 99) rfl ?_
  refine g_istore X3 hx (hb hby d2_99) (pc' := 101) rfl (Ls' := #[.val (.int p0), .val (.int p1), .val (.int (6 : Int32)), .val (.int (1540483477 : Int32)), .val (.int (((518292562 : Int32) ^^^ (mixV p0)) ^^^ (p1 &&& (65535 : Int32)))), .val (.int (2 : Int32)), .val (.int p1), .val (.int (65535 : Int32))]) rfl ?_
  refine g_iload X3 hx (hb hby d2_101) (pc' := 103) rfl rfl ?_
  refine g_iloadN X3 hx (hb hby d2_103) (pc' := 104) rfl rfl ?_
  refine g_imul X3 hx (hb hby d2_104) (pc' := 105) rfl ?_
  refine g_istore X3 hx (hb hby d2_105) (pc' := 107) rfl (Ls' := #[.val (.int p0), .val (.int p1), .val (.int (6 : Int32)), .val (.int (1540483477 : Int32)), .val (.int ((((518292562 : Int32) ^^^ (mixV p0)) ^^^ (p1 &&& (65535 : Int32))) * (1540483477 : Int32))), .val (.int (2 : Int32)), .val (.int p1), .val (.int (65535 : Int32))]) rfl ?_
  refine g_iload X3 hx (hb hby d2_107) (pc' := 109) rfl rfl ?_
  refine g_iload X3 hx (hb hby d2_109) (pc' := 111) rfl rfl ?_
  refine g_bipush X3 hx (hb hby d2_111) (pc' := 113) rfl (z := (13 : Int32)) rfl ?_
  refine g_iushr X3 hx (hb hby d2_113) (pc' := 114) rfl ?_
  refine g_ixor X3 hx (hb hby d2_114) (pc' := 115) rfl ?_
  refine Go.cast (show (mkF m 115 #[.val (.int p0), .val (.int p1), .val (.int (6 : Int32)), .val (.int (1540483477 : Int32)), .val (.int ((((518292562 : Int32) ^^^ (mixV p0)) ^^^ (p1 &&& (65535 : Int32))) * (1540483477 : Int32))), .val (.int (2 : Int32)), .val (.int p1), .val (.int (65535 : Int32))] [(.int (((((518292562 : Int32) ^^^ (mixV p0)) ^^^ (p1 &&& (65535 : Int32))) * (1540483477 : Int32)) ^^^ (ushr ((((518292562 : Int32) ^^^ (mixV p0)) ^^^ (p1 &&& (65535 : Int32))) * (1540483477 : Int32)) (13 : Int32))))]) = (mkF m 115 #[.val (.int p0), .val (.int p1), .val (.int (6 : Int32)), .val (.int (1540483477 : Int32)), .val (.int ((((518292562 : Int32) ^^^ (mixV p0)) ^^^ (p1 &&& (65535 : Int32))) * (1540483477 : Int32))), .val (.int (2 : Int32)), .val (.int p1), .val (.int (65535 : Int32))] [(.int (fin1 ((((518292562 : Int32) ^^^ (mixV p0)) ^^^ (p1 &&& (65535 : Int32))) * (1540483477 : Int32))))]) from by rw [show (((((518292562 : Int32) ^^^ (mixV p0)) ^^^ (p1 &&& (65535 : Int32))) * (1540483477 : Int32)) ^^^ (ushr ((((518292562 : Int32) ^^^ (mixV p0)) ^^^ (p1 &&& (65535 : Int32))) * (1540483477 : Int32)) (13 : Int32))) = (fin1 ((((518292562 : Int32) ^^^ (mixV p0)) ^^^ (p1 &&& (65535 : Int32))) * (1540483477 : Int32))) from rfl]) ?_
  refine g_istore X3 hx (hb hby d2_115) (pc' := 117) rfl (Ls' := #[.val (.int p0), .val (.int p1), .val (.int (6 : Int32)), .val (.int (1540483477 : Int32)), .val (.int (fin1 ((((518292562 : Int32) ^^^ (mixV p0)) ^^^ (p1 &&& (65535 : Int32))) * (1540483477 : Int32)))), .val (.int (2 : Int32)), .val (.int p1), .val (.int (65535 : Int32))]) rfl ?_
  refine g_iload X3 hx (hb hby d2_117) (pc' := 119) rfl rfl ?_
  refine g_iloadN X3 hx (hb hby d2_119) (pc' := 120) rfl rfl ?_
  refine g_imul X3 hx (hb hby d2_120) (pc' := 121) rfl ?_
  refine g_istore X3 hx (hb hby d2_121) (pc' := 123) rfl (Ls' := #[.val (.int p0), .val (.int p1), .val (.int (6 : Int32)), .val (.int (1540483477 : Int32)), .val (.int ((fin1 ((((518292562 : Int32) ^^^ (mixV p0)) ^^^ (p1 &&& (65535 : Int32))) * (1540483477 : Int32))) * (1540483477 : Int32))), .val (.int (2 : Int32)), .val (.int p1), .val (.int (65535 : Int32))]) rfl ?_
  refine g_iload X3 hx (hb hby d2_123) (pc' := 125) rfl rfl ?_
  refine g_iload X3 hx (hb hby d2_125) (pc' := 127) rfl rfl ?_
  refine g_bipush X3 hx (hb hby d2_127) (pc' := 129) rfl (z := (15 : Int32)) rfl ?_
  refine g_iushr X3 hx (hb hby d2_129) (pc' := 130) rfl ?_
  refine g_ixor X3 hx (hb hby d2_130) (pc' := 131) rfl ?_
  refine Go.cast (show (mkF m 131 #[.val (.int p0), .val (.int p1), .val (.int (6 : Int32)), .val (.int (1540483477 : Int32)), .val (.int ((fin1 ((((518292562 : Int32) ^^^ (mixV p0)) ^^^ (p1 &&& (65535 : Int32))) * (1540483477 : Int32))) * (1540483477 : Int32))), .val (.int (2 : Int32)), .val (.int p1), .val (.int (65535 : Int32))] [(.int (((fin1 ((((518292562 : Int32) ^^^ (mixV p0)) ^^^ (p1 &&& (65535 : Int32))) * (1540483477 : Int32))) * (1540483477 : Int32)) ^^^ (ushr ((fin1 ((((518292562 : Int32) ^^^ (mixV p0)) ^^^ (p1 &&& (65535 : Int32))) * (1540483477 : Int32))) * (1540483477 : Int32)) (15 : Int32))))]) = (mkF m 131 #[.val (.int p0), .val (.int p1), .val (.int (6 : Int32)), .val (.int (1540483477 : Int32)), .val (.int ((fin1 ((((518292562 : Int32) ^^^ (mixV p0)) ^^^ (p1 &&& (65535 : Int32))) * (1540483477 : Int32))) * (1540483477 : Int32))), .val (.int (2 : Int32)), .val (.int p1), .val (.int (65535 : Int32))] [(.int (fin2 ((fin1 ((((518292562 : Int32) ^^^ (mixV p0)) ^^^ (p1 &&& (65535 : Int32))) * (1540483477 : Int32))) * (1540483477 : Int32))))]) from by rw [show (((fin1 ((((518292562 : Int32) ^^^ (mixV p0)) ^^^ (p1 &&& (65535 : Int32))) * (1540483477 : Int32))) * (1540483477 : Int32)) ^^^ (ushr ((fin1 ((((518292562 : Int32) ^^^ (mixV p0)) ^^^ (p1 &&& (65535 : Int32))) * (1540483477 : Int32))) * (1540483477 : Int32)) (15 : Int32))) = (fin2 ((fin1 ((((518292562 : Int32) ^^^ (mixV p0)) ^^^ (p1 &&& (65535 : Int32))) * (1540483477 : Int32))) * (1540483477 : Int32))) from rfl]) ?_
  refine g_istore X3 hx (hb hby d2_131) (pc' := 133) rfl (Ls' := #[.val (.int p0), .val (.int p1), .val (.int (6 : Int32)), .val (.int (1540483477 : Int32)), .val (.int (fin2 ((fin1 ((((518292562 : Int32) ^^^ (mixV p0)) ^^^ (p1 &&& (65535 : Int32))) * (1540483477 : Int32))) * (1540483477 : Int32)))), .val (.int (2 : Int32)), .val (.int p1), .val (.int (65535 : Int32))]) rfl ?_
  refine g_iload X3 hx (hb hby d2_133) (pc' := 135) rfl rfl ?_
  exact g_ireturn X3 hx hret (hb hby d2_135) N3 hlk (fun v t => endF (by decide) (by decide) v) (by rw [e3]; exact ⟨rfl, rfl⟩)
theorem ef_1_7 (x0 : Addr) (m : MethodId) : entryFrame m #[(.ref x0)] 6 = mkF m 0 #[.val (.ref x0), .unset, .unset, .unset, .unset, .unset] [] := by first | (simp [entryFrame, mkF, argsToLocals, Value.category]; done) | rfl
def Q1_7 (Z : State) (a : Addr) (x0 : Int32) (x1 : Int32) (x2 : Int32) (x3 : Int32) (x4 : Int32) (x5 : Int32) (x6 : Int32) (h0 : Heap) (n0 : Nat) : Option Value → Heap → Prop := fun v h => v = some (.int (fin2 ((fin1 ((((((2058776039 : Int32) ^^^ (mixV (wordV x0 x1 x2 x3))) ^^^ (shl (x4 &&& (255 : Int32)) (0 : Int32))) ^^^ (shl (x5 &&& (255 : Int32)) (8 : Int32))) ^^^ (shl (x6 &&& (255 : Int32)) (16 : Int32))) * (1540483477 : Int32))) * (1540483477 : Int32)))) ∧ h0 = h
set_option maxRecDepth 65536 in
set_option maxHeartbeats 40000000 in
theorem rm1_7 (l : Launch) (Z : State) (a0 : Array Value) (hw : ∀ d ∈ tables_1, d.before a0 Z = true) (a : Addr) (x0 : Int32) (x1 : Int32) (x2 : Int32) (x3 : Int32) (x4 : Int32) (x5 : Int32) (x6 : Int32) (h0 : Heap) (n0 : Nat) (Z0 : n0 ≤ h0.size) (V1 : Va Z h0 a .byte [(.int x0), (.int x1), (.int x2), (.int x3), (.int x4), (.int x5), (.int x6)]) : Ctr l Z (⟨"com/example/stream_log_client/streamlogclient/producer/Partitioner", "murmur2", "([B)I"⟩ : MethodName) prog_67_method_3_code 6 (some .int) ({ frames := 0, cells := 0, slots := 0, locals := 0 } : Room) #[(.ref a)] h0 n0 (Q1_7 Z a x0 x1 x2 x3 x4 x5 x6 h0 n0) := by
  refine Ctr.of (plainFor_of_name pn_1) (ef_1_7 a) ?_
  intro p e s m below meth c T0 hx hby hml hown hnm hret hlk hZ X0 e0
  have N0 := Fr.nil n0
  refine g_aloadN X0 hx (hb hby d1_0) (pc' := 1) rfl rfl rfl ?_
  refine g_arraylength X0 hx hZ e0 V1 (z := (7 : Int32)) (hb hby d1_1) (pc' := 2) rfl rfl ?_
  refine g_istoreN X0 hx (hb hby d1_2) (pc' := 3) rfl (Ls' := #[.val (.ref a), .val (.int (7 : Int32)), .unset, .unset, .unset, .unset]) rfl ?_
  refine g_ldc X0 hx hZ hown (hw _ (List.mem_of_getElem? (i := 6) rfl)) (hb hby d1_3) (pc' := 5) rfl ?_
  refine g_iloadN X0 hx (hb hby d1_5) (pc' := 6) rfl rfl ?_
  refine g_ixor X0 hx (hb hby d1_6) (pc' := 7) rfl ?_
  refine Go.cast (show (mkF m 7 #[.val (.ref a), .val (.int (7 : Int32)), .unset, .unset, .unset, .unset] [(.int ((-1756908916 : Int32) ^^^ (7 : Int32)))]) = (mkF m 7 #[.val (.ref a), .val (.int (7 : Int32)), .unset, .unset, .unset, .unset] [(.int (-1756908917 : Int32))]) from by rw [show ((-1756908916 : Int32) ^^^ (7 : Int32)) = (-1756908917 : Int32) from (by decide)]) ?_
  refine g_istoreN X0 hx (hb hby d1_7) (pc' := 8) rfl (Ls' := #[.val (.ref a), .val (.int (7 : Int32)), .val (.int (-1756908917 : Int32)), .unset, .unset, .unset]) rfl ?_
  refine g_iloadN X0 hx (hb hby d1_8) (pc' := 9) rfl rfl ?_
  refine g_iloadN X0 hx (hb hby d1_9) (pc' := 10) rfl rfl ?_
  refine g_iconst X0 hx (hb hby d1_10) (pc' := 11) rfl (z := (4 : Int32)) rfl ?_
  refine g_irem X0 hx (hb hby d1_11) (pc' := 12) rfl (by decide) ?_
  refine Go.cast (show (mkF m 12 #[.val (.ref a), .val (.int (7 : Int32)), .val (.int (-1756908917 : Int32)), .unset, .unset, .unset] [(.int ((7 : Int32) % (4 : Int32))), (.int (7 : Int32))]) = (mkF m 12 #[.val (.ref a), .val (.int (7 : Int32)), .val (.int (-1756908917 : Int32)), .unset, .unset, .unset] [(.int (3 : Int32)), (.int (7 : Int32))]) from by rw [show ((7 : Int32) % (4 : Int32)) = (3 : Int32) from (by decide)]) ?_
  refine g_isub X0 hx (hb hby d1_12) (pc' := 13) rfl ?_
  refine Go.cast (show (mkF m 13 #[.val (.ref a), .val (.int (7 : Int32)), .val (.int (-1756908917 : Int32)), .unset, .unset, .unset] [(.int ((7 : Int32) - (3 : Int32)))]) = (mkF m 13 #[.val (.ref a), .val (.int (7 : Int32)), .val (.int (-1756908917 : Int32)), .unset, .unset, .unset] [(.int (4 : Int32))]) from by rw [show ((7 : Int32) - (3 : Int32)) = (4 : Int32) from (by decide)]) ?_
  refine g_istoreN X0 hx (hb hby d1_13) (pc' := 14) rfl (Ls' := #[.val (.ref a), .val (.int (7 : Int32)), .val (.int (-1756908917 : Int32)), .val (.int (4 : Int32)), .unset, .unset]) rfl ?_
  refine g_iconst X0 hx (hb hby d1_14) (pc' := 15) rfl (z := (0 : Int32)) rfl ?_
  refine g_istore X0 hx (hb hby d1_15) (pc' := 17) rfl (Ls' := #[.val (.ref a), .val (.int (7 : Int32)), .val (.int (-1756908917 : Int32)), .val (.int (4 : Int32)), .val (.int (0 : Int32)), .unset]) rfl ?_
  refine g_iload X0 hx (hb hby d1_17) (pc' := 19) rfl rfl ?_
  refine g_iloadN X0 hx (hb hby d1_19) (pc' := 20) rfl rfl ?_
  refine g_icmp_ge X0 hx (hb hby d1_20) (pc1 := 23) rfl (by decide) (pc2 := 115) (by decide) (fun hc20 => absurd (by decide) hc20) (fun hc20 => ?_)
  refine g_aloadN X0 hx (hb hby d1_23) (pc' := 24) rfl rfl rfl ?_
  refine g_iload X0 hx (hb hby d1_24) (pc' := 26) rfl rfl ?_
  refine g_baload X0 hx hZ e0 V1 (i := 0) (v := (.int x0)) (hb hby d1_26) (pc' := 27) rfl (by decide) rfl rfl ?_
  refine g_sipush X0 hx (hb hby d1_27) (pc' := 30) rfl (z := (255 : Int32)) rfl ?_
  refine g_iand X0 hx (hb hby d1_30) (pc' := 31) rfl ?_
  refine g_aloadN X0 hx (hb hby d1_31) (pc' := 32) rfl rfl rfl ?_
  refine g_iload X0 hx (hb hby d1_32) (pc' := 34) rfl rfl ?_
  refine g_iconst X0 hx (hb hby d1_34) (pc' := 35) rfl (z := (1 : Int32)) rfl ?_
  refine g_iadd X0 hx (hb hby d1_35) (pc' := 36) rfl ?_
  refine Go.cast (show (mkF m 36 #[.val (.ref a), .val (.int (7 : Int32)), .val (.int (-1756908917 : Int32)), .val (.int (4 : Int32)), .val (.int (0 : Int32)), .unset] [(.int ((0 : Int32) + (1 : Int32))), (.ref a), (.int (x0 &&& (255 : Int32)))]) = (mkF m 36 #[.val (.ref a), .val (.int (7 : Int32)), .val (.int (-1756908917 : Int32)), .val (.int (4 : Int32)), .val (.int (0 : Int32)), .unset] [(.int (1 : Int32)), (.ref a), (.int (x0 &&& (255 : Int32)))]) from by rw [show ((0 : Int32) + (1 : Int32)) = (1 : Int32) from (by decide)]) ?_
  refine g_baload X0 hx hZ e0 V1 (i := 1) (v := (.int x1)) (hb hby d1_36) (pc' := 37) rfl (by decide) rfl rfl ?_
  refine g_sipush X0 hx (hb hby d1_37) (pc' := 40) rfl (z := (255 : Int32)) rfl ?_
  refine g_iand X0 hx (hb hby d1_40) (pc' := 41) rfl ?_
  refine g_bipush X0 hx (hb hby d1_41) (pc' := 43) rfl (z := (8 : Int32)) rfl ?_
  refine g_ishl X0 hx (hb hby d1_43) (pc' := 44) rfl ?_
  refine g_ior X0 hx (hb hby d1_44) (pc' := 45) rfl ?_
  refine g_aloadN X0 hx (hb hby d1_45) (pc' := 46) rfl rfl rfl ?_
  refine g_iload X0 hx (hb hby d1_46) (pc' := 48) rfl rfl ?_
  refine g_iconst X0 hx (hb hby d1_48) (pc' := 49) rfl (z := (2 : Int32)) rfl ?_
  refine g_iadd X0 hx (hb hby d1_49) (pc' := 50) rfl ?_
  refine Go.cast (show (mkF m 50 #[.val (.ref a), .val (.int (7 : Int32)), .val (.int (-1756908917 : Int32)), .val (.int (4 : Int32)), .val (.int (0 : Int32)), .unset] [(.int ((0 : Int32) + (2 : Int32))), (.ref a), (.int ((x0 &&& (255 : Int32)) ||| (shl (x1 &&& (255 : Int32)) (8 : Int32))))]) = (mkF m 50 #[.val (.ref a), .val (.int (7 : Int32)), .val (.int (-1756908917 : Int32)), .val (.int (4 : Int32)), .val (.int (0 : Int32)), .unset] [(.int (2 : Int32)), (.ref a), (.int ((x0 &&& (255 : Int32)) ||| (shl (x1 &&& (255 : Int32)) (8 : Int32))))]) from by rw [show ((0 : Int32) + (2 : Int32)) = (2 : Int32) from (by decide)]) ?_
  refine g_baload X0 hx hZ e0 V1 (i := 2) (v := (.int x2)) (hb hby d1_50) (pc' := 51) rfl (by decide) rfl rfl ?_
  refine g_sipush X0 hx (hb hby d1_51) (pc' := 54) rfl (z := (255 : Int32)) rfl ?_
  refine g_iand X0 hx (hb hby d1_54) (pc' := 55) rfl ?_
  refine g_bipush X0 hx (hb hby d1_55) (pc' := 57) rfl (z := (16 : Int32)) rfl ?_
  refine g_ishl X0 hx (hb hby d1_57) (pc' := 58) rfl ?_
  refine g_ior X0 hx (hb hby d1_58) (pc' := 59) rfl ?_
  refine g_aloadN X0 hx (hb hby d1_59) (pc' := 60) rfl rfl rfl ?_
  refine g_iload X0 hx (hb hby d1_60) (pc' := 62) rfl rfl ?_
  refine g_iconst X0 hx (hb hby d1_62) (pc' := 63) rfl (z := (3 : Int32)) rfl ?_
  refine g_iadd X0 hx (hb hby d1_63) (pc' := 64) rfl ?_
  refine Go.cast (show (mkF m 64 #[.val (.ref a), .val (.int (7 : Int32)), .val (.int (-1756908917 : Int32)), .val (.int (4 : Int32)), .val (.int (0 : Int32)), .unset] [(.int ((0 : Int32) + (3 : Int32))), (.ref a), (.int (((x0 &&& (255 : Int32)) ||| (shl (x1 &&& (255 : Int32)) (8 : Int32))) ||| (shl (x2 &&& (255 : Int32)) (16 : Int32))))]) = (mkF m 64 #[.val (.ref a), .val (.int (7 : Int32)), .val (.int (-1756908917 : Int32)), .val (.int (4 : Int32)), .val (.int (0 : Int32)), .unset] [(.int (3 : Int32)), (.ref a), (.int (((x0 &&& (255 : Int32)) ||| (shl (x1 &&& (255 : Int32)) (8 : Int32))) ||| (shl (x2 &&& (255 : Int32)) (16 : Int32))))]) from by rw [show ((0 : Int32) + (3 : Int32)) = (3 : Int32) from (by decide)]) ?_
  refine g_baload X0 hx hZ e0 V1 (i := 3) (v := (.int x3)) (hb hby d1_64) (pc' := 65) rfl (by decide) rfl rfl ?_
  refine g_sipush X0 hx (hb hby d1_65) (pc' := 68) rfl (z := (255 : Int32)) rfl ?_
  refine g_iand X0 hx (hb hby d1_68) (pc' := 69) rfl ?_
  refine g_bipush X0 hx (hb hby d1_69) (pc' := 71) rfl (z := (24 : Int32)) rfl ?_
  refine g_ishl X0 hx (hb hby d1_71) (pc' := 72) rfl ?_
  refine g_ior X0 hx (hb hby d1_72) (pc' := 73) rfl ?_
  refine Go.cast (show (mkF m 73 #[.val (.ref a), .val (.int (7 : Int32)), .val (.int (-1756908917 : Int32)), .val (.int (4 : Int32)), .val (.int (0 : Int32)), .unset] [(.int ((((x0 &&& (255 : Int32)) ||| (shl (x1 &&& (255 : Int32)) (8 : Int32))) ||| (shl (x2 &&& (255 : Int32)) (16 : Int32))) ||| (shl (x3 &&& (255 : Int32)) (24 : Int32))))]) = (mkF m 73 #[.val (.ref a), .val (.int (7 : Int32)), .val (.int (-1756908917 : Int32)), .val (.int (4 : Int32)), .val (.int (0 : Int32)), .unset] [(.int (wordV x0 x1 x2 x3))]) from by rw [show ((((x0 &&& (255 : Int32)) ||| (shl (x1 &&& (255 : Int32)) (8 : Int32))) ||| (shl (x2 &&& (255 : Int32)) (16 : Int32))) ||| (shl (x3 &&& (255 : Int32)) (24 : Int32))) = (wordV x0 x1 x2 x3) from rfl]) ?_
  refine g_istore X0 hx (hb hby d1_73) (pc' := 75) rfl (Ls' := #[.val (.ref a), .val (.int (7 : Int32)), .val (.int (-1756908917 : Int32)), .val (.int (4 : Int32)), .val (.int (0 : Int32)), .val (.int (wordV x0 x1 x2 x3))]) rfl ?_
  refine g_iload X0 hx (hb hby d1_75) (pc' := 77) rfl rfl ?_
  refine g_ldc X0 hx hZ hown (hw _ (List.mem_of_getElem? (i := 7) rfl)) (hb hby d1_77) (pc' := 79) rfl ?_
  refine g_imul X0 hx (hb hby d1_79) (pc' := 80) rfl ?_
  refine g_istore X0 hx (hb hby d1_80) (pc' := 82) rfl (Ls' := #[.val (.ref a), .val (.int (7 : Int32)), .val (.int (-1756908917 : Int32)), .val (.int (4 : Int32)), .val (.int (0 : Int32)), .val (.int ((wordV x0 x1 x2 x3) * (1540483477 : Int32)))]) rfl ?_
  refine g_iload X0 hx (hb hby d1_82) (pc' := 84) rfl rfl ?_
  refine g_iload X0 hx (hb hby d1_84) (pc' := 86) rfl rfl ?_
  refine g_bipush X0 hx (hb hby d1_86) (pc' := 88) rfl (z := (24 : Int32)) rfl ?_
  refine g_iushr X0 hx (hb hby d1_88) (pc' := 89) rfl ?_
  refine g_ixor X0 hx (hb hby d1_89) (pc' := 90) rfl ?_
  refine g_istore X0 hx (hb hby d1_90) (pc' := 92) rfl (Ls' := #[.val (.ref a), .val (.int (7 : Int32)), .val (.int (-1756908917 : Int32)), .val (.int (4 : Int32)), .val (.int (0 : Int32)), .val (.int (((wordV x0 x1 x2 x3) * (1540483477 : Int32)) ^^^ (ushr ((wordV x0 x1 x2 x3) * (1540483477 : Int32)) (24 : Int32))))]) rfl ?_
  refine g_iload X0 hx (hb hby d1_92) (pc' := 94) rfl rfl ?_
  refine g_ldc X0 hx hZ hown (hw _ (List.mem_of_getElem? (i := 7) rfl)) (hb hby d1_94) (pc' := 96) rfl ?_
  refine g_imul X0 hx (hb hby d1_96) (pc' := 97) rfl ?_
  refine Go.cast (show (mkF m 97 #[.val (.ref a), .val (.int (7 : Int32)), .val (.int (-1756908917 : Int32)), .val (.int (4 : Int32)), .val (.int (0 : Int32)), .val (.int (((wordV x0 x1 x2 x3) * (1540483477 : Int32)) ^^^ (ushr ((wordV x0 x1 x2 x3) * (1540483477 : Int32)) (24 : Int32))))] [(.int ((((wordV x0 x1 x2 x3) * (1540483477 : Int32)) ^^^ (ushr ((wordV x0 x1 x2 x3) * (1540483477 : Int32)) (24 : Int32))) * (1540483477 : Int32)))]) = (mkF m 97 #[.val (.ref a), .val (.int (7 : Int32)), .val (.int (-1756908917 : Int32)), .val (.int (4 : Int32)), .val (.int (0 : Int32)), .val (.int (((wordV x0 x1 x2 x3) * (1540483477 : Int32)) ^^^ (ushr ((wordV x0 x1 x2 x3) * (1540483477 : Int32)) (24 : Int32))))] [(.int (mixV (wordV x0 x1 x2 x3)))]) from by rw [show ((((wordV x0 x1 x2 x3) * (1540483477 : Int32)) ^^^ (ushr ((wordV x0 x1 x2 x3) * (1540483477 : Int32)) (24 : Int32))) * (1540483477 : Int32)) = (mixV (wordV x0 x1 x2 x3)) from rfl]) ?_
  refine g_istore X0 hx (hb hby d1_97) (pc' := 99) rfl (Ls' := #[.val (.ref a), .val (.int (7 : Int32)), .val (.int (-1756908917 : Int32)), .val (.int (4 : Int32)), .val (.int (0 : Int32)), .val (.int (mixV (wordV x0 x1 x2 x3)))]) rfl ?_
  refine g_iloadN X0 hx (hb hby d1_99) (pc' := 100) rfl rfl ?_
  refine g_ldc X0 hx hZ hown (hw _ (List.mem_of_getElem? (i := 7) rfl)) (hb hby d1_100) (pc' := 102) rfl ?_
  refine g_imul X0 hx (hb hby d1_102) (pc' := 103) rfl ?_
  refine Go.cast (show (mkF m 103 #[.val (.ref a), .val (.int (7 : Int32)), .val (.int (-1756908917 : Int32)), .val (.int (4 : Int32)), .val (.int (0 : Int32)), .val (.int (mixV (wordV x0 x1 x2 x3)))] [(.int ((-1756908917 : Int32) * (1540483477 : Int32)))]) = (mkF m 103 #[.val (.ref a), .val (.int (7 : Int32)), .val (.int (-1756908917 : Int32)), .val (.int (4 : Int32)), .val (.int (0 : Int32)), .val (.int (mixV (wordV x0 x1 x2 x3)))] [(.int (2058776039 : Int32))]) from by rw [show ((-1756908917 : Int32) * (1540483477 : Int32)) = (2058776039 : Int32) from (by decide)]) ?_
  refine g_istoreN X0 hx (hb hby d1_103) (pc' := 104) rfl (Ls' := #[.val (.ref a), .val (.int (7 : Int32)), .val (.int (2058776039 : Int32)), .val (.int (4 : Int32)), .val (.int (0 : Int32)), .val (.int (mixV (wordV x0 x1 x2 x3)))]) rfl ?_
  refine g_iloadN X0 hx (hb hby d1_104) (pc' := 105) rfl rfl ?_
  refine g_iload X0 hx (hb hby d1_105) (pc' := 107) rfl rfl ?_
  refine g_ixor X0 hx (hb hby d1_107) (pc' := 108) rfl ?_
  refine g_istoreN X0 hx (hb hby d1_108) (pc' := 109) rfl (Ls' := #[.val (.ref a), .val (.int (7 : Int32)), .val (.int ((2058776039 : Int32) ^^^ (mixV (wordV x0 x1 x2 x3)))), .val (.int (4 : Int32)), .val (.int (0 : Int32)), .val (.int (mixV (wordV x0 x1 x2 x3)))]) rfl ?_
  refine g_iinc X0 hx (hb hby d1_109) (pc' := 112) rfl rfl (z := (4 : Int32)) rfl (Ls' := #[.val (.ref a), .val (.int (7 : Int32)), .val (.int ((2058776039 : Int32) ^^^ (mixV (wordV x0 x1 x2 x3)))), .val (.int (4 : Int32)), .val (.int (4 : Int32)), .val (.int (mixV (wordV x0 x1 x2 x3)))]) rfl ?_
  refine g_goto X0 hx (hb hby d1_112) (by decide) (pc' := 17) (by decide) ?_
  refine g_iload X0 hx (hb hby d1_17) (pc' := 19) rfl rfl ?_
  refine g_iloadN X0 hx (hb hby d1_19) (pc' := 20) rfl rfl ?_
  refine g_icmp_ge X0 hx (hb hby d1_20) (pc1 := 23) rfl (by decide) (pc2 := 115) (by decide) (fun hc20_1 => ?_) (fun hc20_1 => absurd hc20_1 (by decide))
  refine g_iloadN X0 hx (hb hby d1_115) (pc' := 116) rfl rfl ?_
  refine g_istore X0 hx (hb hby d1_116) (pc' := 118) rfl (Ls' := #[.val (.ref a), .val (.int (7 : Int32)), .val (.int ((2058776039 : Int32) ^^^ (mixV (wordV x0 x1 x2 x3)))), .val (.int (4 : Int32)), .val (.int (4 : Int32)), .val (.int (mixV (wordV x0 x1 x2 x3)))]) rfl ?_
  refine g_iload X0 hx (hb hby d1_118) (pc' := 120) rfl rfl ?_
  refine g_iloadN X0 hx (hb hby d1_120) (pc' := 121) rfl rfl ?_
  refine g_icmp_ge X0 hx (hb hby d1_121) (pc1 := 124) rfl (by decide) (pc2 := 149) (by decide) (fun hc121 => absurd (by decide) hc121) (fun hc121 => ?_)
  refine g_iloadN X0 hx (hb hby d1_124) (pc' := 125) rfl rfl ?_
  refine g_aloadN X0 hx (hb hby d1_125) (pc' := 126) rfl rfl rfl ?_
  refine g_iload X0 hx (hb hby d1_126) (pc' := 128) rfl rfl ?_
  refine g_baload X0 hx hZ e0 V1 (i := 4) (v := (.int x4)) (hb hby d1_128) (pc' := 129) rfl (by decide) rfl rfl ?_
  refine g_sipush X0 hx (hb hby d1_129) (pc' := 132) rfl (z := (255 : Int32)) rfl ?_
  refine g_iand X0 hx (hb hby d1_132) (pc' := 133) rfl ?_
  refine g_bipush X0 hx (hb hby d1_133) (pc' := 135) rfl (z := (8 : Int32)) rfl ?_
  refine g_iload X0 hx (hb hby d1_135) (pc' := 137) rfl rfl ?_
  refine g_iloadN X0 hx (hb hby d1_137) (pc' := 138) rfl rfl ?_
  refine g_isub X0 hx (hb hby d1_138) (pc' := 139) rfl ?_
  refine Go.cast (show (mkF m 139 #[.val (.ref a), .val (.int (7 : Int32)), .val (.int ((2058776039 : Int32) ^^^ (mixV (wordV x0 x1 x2 x3)))), .val (.int (4 : Int32)), .val (.int (4 : Int32)), .val (.int (mixV (wordV x0 x1 x2 x3)))] [(.int ((4 : Int32) - (4 : Int32))), (.int (8 : Int32)), (.int (x4 &&& (255 : Int32))), (.int ((2058776039 : Int32) ^^^ (mixV (wordV x0 x1 x2 x3))))]) = (mkF m 139 #[.val (.ref a), .val (.int (7 : Int32)), .val (.int ((2058776039 : Int32) ^^^ (mixV (wordV x0 x1 x2 x3)))), .val (.int (4 : Int32)), .val (.int (4 : Int32)), .val (.int (mixV (wordV x0 x1 x2 x3)))] [(.int (0 : Int32)), (.int (8 : Int32)), (.int (x4 &&& (255 : Int32))), (.int ((2058776039 : Int32) ^^^ (mixV (wordV x0 x1 x2 x3))))]) from by rw [show ((4 : Int32) - (4 : Int32)) = (0 : Int32) from (by decide)]) ?_
  refine g_imul X0 hx (hb hby d1_139) (pc' := 140) rfl ?_
  refine Go.cast (show (mkF m 140 #[.val (.ref a), .val (.int (7 : Int32)), .val (.int ((2058776039 : Int32) ^^^ (mixV (wordV x0 x1 x2 x3)))), .val (.int (4 : Int32)), .val (.int (4 : Int32)), .val (.int (mixV (wordV x0 x1 x2 x3)))] [(.int ((8 : Int32) * (0 : Int32))), (.int (x4 &&& (255 : Int32))), (.int ((2058776039 : Int32) ^^^ (mixV (wordV x0 x1 x2 x3))))]) = (mkF m 140 #[.val (.ref a), .val (.int (7 : Int32)), .val (.int ((2058776039 : Int32) ^^^ (mixV (wordV x0 x1 x2 x3)))), .val (.int (4 : Int32)), .val (.int (4 : Int32)), .val (.int (mixV (wordV x0 x1 x2 x3)))] [(.int (0 : Int32)), (.int (x4 &&& (255 : Int32))), (.int ((2058776039 : Int32) ^^^ (mixV (wordV x0 x1 x2 x3))))]) from by rw [show ((8 : Int32) * (0 : Int32)) = (0 : Int32) from (by decide)]) ?_
  refine g_ishl X0 hx (hb hby d1_140) (pc' := 141) rfl ?_
  refine g_ixor X0 hx (hb hby d1_141) (pc' := 142) rfl ?_
  refine g_istoreN X0 hx (hb hby d1_142) (pc' := 143) rfl (Ls' := #[.val (.ref a), .val (.int (7 : Int32)), .val (.int (((2058776039 : Int32) ^^^ (mixV (wordV x0 x1 x2 x3))) ^^^ (shl (x4 &&& (255 : Int32)) (0 : Int32)))), .val (.int (4 : Int32)), .val (.int (4 : Int32)), .val (.int (mixV (wordV x0 x1 x2 x3)))]) rfl ?_
  refine g_iinc X0 hx (hb hby d1_143) (pc' := 146) rfl rfl (z := (1 : Int32)) rfl (Ls' := #[.val (.ref a), .val (.int (7 : Int32)), .val (.int (((2058776039 : Int32) ^^^ (mixV (wordV x0 x1 x2 x3))) ^^^ (shl (x4 &&& (255 : Int32)) (0 : Int32)))), .val (.int (4 : Int32)), .val (.int (5 : Int32)), .val (.int (mixV (wordV x0 x1 x2 x3)))]) rfl ?_
  refine g_goto X0 hx (hb hby d1_146) (by decide) (pc' := 118) (by decide) ?_
  refine g_iload X0 hx (hb hby d1_118) (pc' := 120) rfl rfl ?_
  refine g_iloadN X0 hx (hb hby d1_120) (pc' := 121) rfl rfl ?_
  refine g_icmp_ge X0 hx (hb hby d1_121) (pc1 := 124) rfl (by decide) (pc2 := 149) (by decide) (fun hc121_1 => absurd (by decide) hc121_1) (fun hc121_1 => ?_)
  refine g_iloadN X0 hx (hb hby d1_124) (pc' := 125) rfl rfl ?_
  refine g_aloadN X0 hx (hb hby d1_125) (pc' := 126) rfl rfl rfl ?_
  refine g_iload X0 hx (hb hby d1_126) (pc' := 128) rfl rfl ?_
  refine g_baload X0 hx hZ e0 V1 (i := 5) (v := (.int x5)) (hb hby d1_128) (pc' := 129) rfl (by decide) rfl rfl ?_
  refine g_sipush X0 hx (hb hby d1_129) (pc' := 132) rfl (z := (255 : Int32)) rfl ?_
  refine g_iand X0 hx (hb hby d1_132) (pc' := 133) rfl ?_
  refine g_bipush X0 hx (hb hby d1_133) (pc' := 135) rfl (z := (8 : Int32)) rfl ?_
  refine g_iload X0 hx (hb hby d1_135) (pc' := 137) rfl rfl ?_
  refine g_iloadN X0 hx (hb hby d1_137) (pc' := 138) rfl rfl ?_
  refine g_isub X0 hx (hb hby d1_138) (pc' := 139) rfl ?_
  refine Go.cast (show (mkF m 139 #[.val (.ref a), .val (.int (7 : Int32)), .val (.int (((2058776039 : Int32) ^^^ (mixV (wordV x0 x1 x2 x3))) ^^^ (shl (x4 &&& (255 : Int32)) (0 : Int32)))), .val (.int (4 : Int32)), .val (.int (5 : Int32)), .val (.int (mixV (wordV x0 x1 x2 x3)))] [(.int ((5 : Int32) - (4 : Int32))), (.int (8 : Int32)), (.int (x5 &&& (255 : Int32))), (.int (((2058776039 : Int32) ^^^ (mixV (wordV x0 x1 x2 x3))) ^^^ (shl (x4 &&& (255 : Int32)) (0 : Int32))))]) = (mkF m 139 #[.val (.ref a), .val (.int (7 : Int32)), .val (.int (((2058776039 : Int32) ^^^ (mixV (wordV x0 x1 x2 x3))) ^^^ (shl (x4 &&& (255 : Int32)) (0 : Int32)))), .val (.int (4 : Int32)), .val (.int (5 : Int32)), .val (.int (mixV (wordV x0 x1 x2 x3)))] [(.int (1 : Int32)), (.int (8 : Int32)), (.int (x5 &&& (255 : Int32))), (.int (((2058776039 : Int32) ^^^ (mixV (wordV x0 x1 x2 x3))) ^^^ (shl (x4 &&& (255 : Int32)) (0 : Int32))))]) from by rw [show ((5 : Int32) - (4 : Int32)) = (1 : Int32) from (by decide)]) ?_
  refine g_imul X0 hx (hb hby d1_139) (pc' := 140) rfl ?_
  refine Go.cast (show (mkF m 140 #[.val (.ref a), .val (.int (7 : Int32)), .val (.int (((2058776039 : Int32) ^^^ (mixV (wordV x0 x1 x2 x3))) ^^^ (shl (x4 &&& (255 : Int32)) (0 : Int32)))), .val (.int (4 : Int32)), .val (.int (5 : Int32)), .val (.int (mixV (wordV x0 x1 x2 x3)))] [(.int ((8 : Int32) * (1 : Int32))), (.int (x5 &&& (255 : Int32))), (.int (((2058776039 : Int32) ^^^ (mixV (wordV x0 x1 x2 x3))) ^^^ (shl (x4 &&& (255 : Int32)) (0 : Int32))))]) = (mkF m 140 #[.val (.ref a), .val (.int (7 : Int32)), .val (.int (((2058776039 : Int32) ^^^ (mixV (wordV x0 x1 x2 x3))) ^^^ (shl (x4 &&& (255 : Int32)) (0 : Int32)))), .val (.int (4 : Int32)), .val (.int (5 : Int32)), .val (.int (mixV (wordV x0 x1 x2 x3)))] [(.int (8 : Int32)), (.int (x5 &&& (255 : Int32))), (.int (((2058776039 : Int32) ^^^ (mixV (wordV x0 x1 x2 x3))) ^^^ (shl (x4 &&& (255 : Int32)) (0 : Int32))))]) from by rw [show ((8 : Int32) * (1 : Int32)) = (8 : Int32) from (by decide)]) ?_
  refine g_ishl X0 hx (hb hby d1_140) (pc' := 141) rfl ?_
  refine g_ixor X0 hx (hb hby d1_141) (pc' := 142) rfl ?_
  refine g_istoreN X0 hx (hb hby d1_142) (pc' := 143) rfl (Ls' := #[.val (.ref a), .val (.int (7 : Int32)), .val (.int ((((2058776039 : Int32) ^^^ (mixV (wordV x0 x1 x2 x3))) ^^^ (shl (x4 &&& (255 : Int32)) (0 : Int32))) ^^^ (shl (x5 &&& (255 : Int32)) (8 : Int32)))), .val (.int (4 : Int32)), .val (.int (5 : Int32)), .val (.int (mixV (wordV x0 x1 x2 x3)))]) rfl ?_
  refine g_iinc X0 hx (hb hby d1_143) (pc' := 146) rfl rfl (z := (1 : Int32)) rfl (Ls' := #[.val (.ref a), .val (.int (7 : Int32)), .val (.int ((((2058776039 : Int32) ^^^ (mixV (wordV x0 x1 x2 x3))) ^^^ (shl (x4 &&& (255 : Int32)) (0 : Int32))) ^^^ (shl (x5 &&& (255 : Int32)) (8 : Int32)))), .val (.int (4 : Int32)), .val (.int (6 : Int32)), .val (.int (mixV (wordV x0 x1 x2 x3)))]) rfl ?_
  refine g_goto X0 hx (hb hby d1_146) (by decide) (pc' := 118) (by decide) ?_
  refine g_iload X0 hx (hb hby d1_118) (pc' := 120) rfl rfl ?_
  refine g_iloadN X0 hx (hb hby d1_120) (pc' := 121) rfl rfl ?_
  refine g_icmp_ge X0 hx (hb hby d1_121) (pc1 := 124) rfl (by decide) (pc2 := 149) (by decide) (fun hc121_2 => absurd (by decide) hc121_2) (fun hc121_2 => ?_)
  refine g_iloadN X0 hx (hb hby d1_124) (pc' := 125) rfl rfl ?_
  refine g_aloadN X0 hx (hb hby d1_125) (pc' := 126) rfl rfl rfl ?_
  refine g_iload X0 hx (hb hby d1_126) (pc' := 128) rfl rfl ?_
  refine g_baload X0 hx hZ e0 V1 (i := 6) (v := (.int x6)) (hb hby d1_128) (pc' := 129) rfl (by decide) rfl rfl ?_
  refine g_sipush X0 hx (hb hby d1_129) (pc' := 132) rfl (z := (255 : Int32)) rfl ?_
  refine g_iand X0 hx (hb hby d1_132) (pc' := 133) rfl ?_
  refine g_bipush X0 hx (hb hby d1_133) (pc' := 135) rfl (z := (8 : Int32)) rfl ?_
  refine g_iload X0 hx (hb hby d1_135) (pc' := 137) rfl rfl ?_
  refine g_iloadN X0 hx (hb hby d1_137) (pc' := 138) rfl rfl ?_
  refine g_isub X0 hx (hb hby d1_138) (pc' := 139) rfl ?_
  refine Go.cast (show (mkF m 139 #[.val (.ref a), .val (.int (7 : Int32)), .val (.int ((((2058776039 : Int32) ^^^ (mixV (wordV x0 x1 x2 x3))) ^^^ (shl (x4 &&& (255 : Int32)) (0 : Int32))) ^^^ (shl (x5 &&& (255 : Int32)) (8 : Int32)))), .val (.int (4 : Int32)), .val (.int (6 : Int32)), .val (.int (mixV (wordV x0 x1 x2 x3)))] [(.int ((6 : Int32) - (4 : Int32))), (.int (8 : Int32)), (.int (x6 &&& (255 : Int32))), (.int ((((2058776039 : Int32) ^^^ (mixV (wordV x0 x1 x2 x3))) ^^^ (shl (x4 &&& (255 : Int32)) (0 : Int32))) ^^^ (shl (x5 &&& (255 : Int32)) (8 : Int32))))]) = (mkF m 139 #[.val (.ref a), .val (.int (7 : Int32)), .val (.int ((((2058776039 : Int32) ^^^ (mixV (wordV x0 x1 x2 x3))) ^^^ (shl (x4 &&& (255 : Int32)) (0 : Int32))) ^^^ (shl (x5 &&& (255 : Int32)) (8 : Int32)))), .val (.int (4 : Int32)), .val (.int (6 : Int32)), .val (.int (mixV (wordV x0 x1 x2 x3)))] [(.int (2 : Int32)), (.int (8 : Int32)), (.int (x6 &&& (255 : Int32))), (.int ((((2058776039 : Int32) ^^^ (mixV (wordV x0 x1 x2 x3))) ^^^ (shl (x4 &&& (255 : Int32)) (0 : Int32))) ^^^ (shl (x5 &&& (255 : Int32)) (8 : Int32))))]) from by rw [show ((6 : Int32) - (4 : Int32)) = (2 : Int32) from (by decide)]) ?_
  refine g_imul X0 hx (hb hby d1_139) (pc' := 140) rfl ?_
  refine Go.cast (show (mkF m 140 #[.val (.ref a), .val (.int (7 : Int32)), .val (.int ((((2058776039 : Int32) ^^^ (mixV (wordV x0 x1 x2 x3))) ^^^ (shl (x4 &&& (255 : Int32)) (0 : Int32))) ^^^ (shl (x5 &&& (255 : Int32)) (8 : Int32)))), .val (.int (4 : Int32)), .val (.int (6 : Int32)), .val (.int (mixV (wordV x0 x1 x2 x3)))] [(.int ((8 : Int32) * (2 : Int32))), (.int (x6 &&& (255 : Int32))), (.int ((((2058776039 : Int32) ^^^ (mixV (wordV x0 x1 x2 x3))) ^^^ (shl (x4 &&& (255 : Int32)) (0 : Int32))) ^^^ (shl (x5 &&& (255 : Int32)) (8 : Int32))))]) = (mkF m 140 #[.val (.ref a), .val (.int (7 : Int32)), .val (.int ((((2058776039 : Int32) ^^^ (mixV (wordV x0 x1 x2 x3))) ^^^ (shl (x4 &&& (255 : Int32)) (0 : Int32))) ^^^ (shl (x5 &&& (255 : Int32)) (8 : Int32)))), .val (.int (4 : Int32)), .val (.int (6 : Int32)), .val (.int (mixV (wordV x0 x1 x2 x3)))] [(.int (16 : Int32)), (.int (x6 &&& (255 : Int32))), (.int ((((2058776039 : Int32) ^^^ (mixV (wordV x0 x1 x2 x3))) ^^^ (shl (x4 &&& (255 : Int32)) (0 : Int32))) ^^^ (shl (x5 &&& (255 : Int32)) (8 : Int32))))]) from by rw [show ((8 : Int32) * (2 : Int32)) = (16 : Int32) from (by decide)]) ?_
  refine g_ishl X0 hx (hb hby d1_140) (pc' := 141) rfl ?_
  refine g_ixor X0 hx (hb hby d1_141) (pc' := 142) rfl ?_
  refine g_istoreN X0 hx (hb hby d1_142) (pc' := 143) rfl (Ls' := #[.val (.ref a), .val (.int (7 : Int32)), .val (.int (((((2058776039 : Int32) ^^^ (mixV (wordV x0 x1 x2 x3))) ^^^ (shl (x4 &&& (255 : Int32)) (0 : Int32))) ^^^ (shl (x5 &&& (255 : Int32)) (8 : Int32))) ^^^ (shl (x6 &&& (255 : Int32)) (16 : Int32)))), .val (.int (4 : Int32)), .val (.int (6 : Int32)), .val (.int (mixV (wordV x0 x1 x2 x3)))]) rfl ?_
  refine g_iinc X0 hx (hb hby d1_143) (pc' := 146) rfl rfl (z := (1 : Int32)) rfl (Ls' := #[.val (.ref a), .val (.int (7 : Int32)), .val (.int (((((2058776039 : Int32) ^^^ (mixV (wordV x0 x1 x2 x3))) ^^^ (shl (x4 &&& (255 : Int32)) (0 : Int32))) ^^^ (shl (x5 &&& (255 : Int32)) (8 : Int32))) ^^^ (shl (x6 &&& (255 : Int32)) (16 : Int32)))), .val (.int (4 : Int32)), .val (.int (7 : Int32)), .val (.int (mixV (wordV x0 x1 x2 x3)))]) rfl ?_
  refine g_goto X0 hx (hb hby d1_146) (by decide) (pc' := 118) (by decide) ?_
  refine g_iload X0 hx (hb hby d1_118) (pc' := 120) rfl rfl ?_
  refine g_iloadN X0 hx (hb hby d1_120) (pc' := 121) rfl rfl ?_
  refine g_icmp_ge X0 hx (hb hby d1_121) (pc1 := 124) rfl (by decide) (pc2 := 149) (by decide) (fun hc121_3 => ?_) (fun hc121_3 => absurd hc121_3 (by decide))
  refine g_iloadN X0 hx (hb hby d1_149) (pc' := 150) rfl rfl ?_
  refine g_iloadN X0 hx (hb hby d1_150) (pc' := 151) rfl rfl ?_
  refine g_icmp_ge X0 hx (hb hby d1_151) (pc1 := 154) rfl (by decide) (pc2 := 159) (by decide) (fun hc151 => absurd (by decide) hc151) (fun hc151 => ?_)
  refine g_iloadN X0 hx (hb hby d1_154) (pc' := 155) rfl rfl ?_
  refine g_ldc X0 hx hZ hown (hw _ (List.mem_of_getElem? (i := 7) rfl)) (hb hby d1_155) (pc' := 157) rfl ?_
  refine g_imul X0 hx (hb hby d1_157) (pc' := 158) rfl ?_
  refine g_istoreN X0 hx (hb hby d1_158) (pc' := 159) rfl (Ls' := #[.val (.ref a), .val (.int (7 : Int32)), .val (.int ((((((2058776039 : Int32) ^^^ (mixV (wordV x0 x1 x2 x3))) ^^^ (shl (x4 &&& (255 : Int32)) (0 : Int32))) ^^^ (shl (x5 &&& (255 : Int32)) (8 : Int32))) ^^^ (shl (x6 &&& (255 : Int32)) (16 : Int32))) * (1540483477 : Int32))), .val (.int (4 : Int32)), .val (.int (7 : Int32)), .val (.int (mixV (wordV x0 x1 x2 x3)))]) rfl ?_
  refine g_iloadN X0 hx (hb hby d1_159) (pc' := 160) rfl rfl ?_
  refine g_iloadN X0 hx (hb hby d1_160) (pc' := 161) rfl rfl ?_
  refine g_bipush X0 hx (hb hby d1_161) (pc' := 163) rfl (z := (13 : Int32)) rfl ?_
  refine g_iushr X0 hx (hb hby d1_163) (pc' := 164) rfl ?_
  refine g_ixor X0 hx (hb hby d1_164) (pc' := 165) rfl ?_
  refine Go.cast (show (mkF m 165 #[.val (.ref a), .val (.int (7 : Int32)), .val (.int ((((((2058776039 : Int32) ^^^ (mixV (wordV x0 x1 x2 x3))) ^^^ (shl (x4 &&& (255 : Int32)) (0 : Int32))) ^^^ (shl (x5 &&& (255 : Int32)) (8 : Int32))) ^^^ (shl (x6 &&& (255 : Int32)) (16 : Int32))) * (1540483477 : Int32))), .val (.int (4 : Int32)), .val (.int (7 : Int32)), .val (.int (mixV (wordV x0 x1 x2 x3)))] [(.int (((((((2058776039 : Int32) ^^^ (mixV (wordV x0 x1 x2 x3))) ^^^ (shl (x4 &&& (255 : Int32)) (0 : Int32))) ^^^ (shl (x5 &&& (255 : Int32)) (8 : Int32))) ^^^ (shl (x6 &&& (255 : Int32)) (16 : Int32))) * (1540483477 : Int32)) ^^^ (ushr ((((((2058776039 : Int32) ^^^ (mixV (wordV x0 x1 x2 x3))) ^^^ (shl (x4 &&& (255 : Int32)) (0 : Int32))) ^^^ (shl (x5 &&& (255 : Int32)) (8 : Int32))) ^^^ (shl (x6 &&& (255 : Int32)) (16 : Int32))) * (1540483477 : Int32)) (13 : Int32))))]) = (mkF m 165 #[.val (.ref a), .val (.int (7 : Int32)), .val (.int ((((((2058776039 : Int32) ^^^ (mixV (wordV x0 x1 x2 x3))) ^^^ (shl (x4 &&& (255 : Int32)) (0 : Int32))) ^^^ (shl (x5 &&& (255 : Int32)) (8 : Int32))) ^^^ (shl (x6 &&& (255 : Int32)) (16 : Int32))) * (1540483477 : Int32))), .val (.int (4 : Int32)), .val (.int (7 : Int32)), .val (.int (mixV (wordV x0 x1 x2 x3)))] [(.int (fin1 ((((((2058776039 : Int32) ^^^ (mixV (wordV x0 x1 x2 x3))) ^^^ (shl (x4 &&& (255 : Int32)) (0 : Int32))) ^^^ (shl (x5 &&& (255 : Int32)) (8 : Int32))) ^^^ (shl (x6 &&& (255 : Int32)) (16 : Int32))) * (1540483477 : Int32))))]) from by rw [show (((((((2058776039 : Int32) ^^^ (mixV (wordV x0 x1 x2 x3))) ^^^ (shl (x4 &&& (255 : Int32)) (0 : Int32))) ^^^ (shl (x5 &&& (255 : Int32)) (8 : Int32))) ^^^ (shl (x6 &&& (255 : Int32)) (16 : Int32))) * (1540483477 : Int32)) ^^^ (ushr ((((((2058776039 : Int32) ^^^ (mixV (wordV x0 x1 x2 x3))) ^^^ (shl (x4 &&& (255 : Int32)) (0 : Int32))) ^^^ (shl (x5 &&& (255 : Int32)) (8 : Int32))) ^^^ (shl (x6 &&& (255 : Int32)) (16 : Int32))) * (1540483477 : Int32)) (13 : Int32))) = (fin1 ((((((2058776039 : Int32) ^^^ (mixV (wordV x0 x1 x2 x3))) ^^^ (shl (x4 &&& (255 : Int32)) (0 : Int32))) ^^^ (shl (x5 &&& (255 : Int32)) (8 : Int32))) ^^^ (shl (x6 &&& (255 : Int32)) (16 : Int32))) * (1540483477 : Int32))) from rfl]) ?_
  refine g_istoreN X0 hx (hb hby d1_165) (pc' := 166) rfl (Ls' := #[.val (.ref a), .val (.int (7 : Int32)), .val (.int (fin1 ((((((2058776039 : Int32) ^^^ (mixV (wordV x0 x1 x2 x3))) ^^^ (shl (x4 &&& (255 : Int32)) (0 : Int32))) ^^^ (shl (x5 &&& (255 : Int32)) (8 : Int32))) ^^^ (shl (x6 &&& (255 : Int32)) (16 : Int32))) * (1540483477 : Int32)))), .val (.int (4 : Int32)), .val (.int (7 : Int32)), .val (.int (mixV (wordV x0 x1 x2 x3)))]) rfl ?_
  refine g_iloadN X0 hx (hb hby d1_166) (pc' := 167) rfl rfl ?_
  refine g_ldc X0 hx hZ hown (hw _ (List.mem_of_getElem? (i := 7) rfl)) (hb hby d1_167) (pc' := 169) rfl ?_
  refine g_imul X0 hx (hb hby d1_169) (pc' := 170) rfl ?_
  refine g_istoreN X0 hx (hb hby d1_170) (pc' := 171) rfl (Ls' := #[.val (.ref a), .val (.int (7 : Int32)), .val (.int ((fin1 ((((((2058776039 : Int32) ^^^ (mixV (wordV x0 x1 x2 x3))) ^^^ (shl (x4 &&& (255 : Int32)) (0 : Int32))) ^^^ (shl (x5 &&& (255 : Int32)) (8 : Int32))) ^^^ (shl (x6 &&& (255 : Int32)) (16 : Int32))) * (1540483477 : Int32))) * (1540483477 : Int32))), .val (.int (4 : Int32)), .val (.int (7 : Int32)), .val (.int (mixV (wordV x0 x1 x2 x3)))]) rfl ?_
  refine g_iloadN X0 hx (hb hby d1_171) (pc' := 172) rfl rfl ?_
  refine g_iloadN X0 hx (hb hby d1_172) (pc' := 173) rfl rfl ?_
  refine g_bipush X0 hx (hb hby d1_173) (pc' := 175) rfl (z := (15 : Int32)) rfl ?_
  refine g_iushr X0 hx (hb hby d1_175) (pc' := 176) rfl ?_
  refine g_ixor X0 hx (hb hby d1_176) (pc' := 177) rfl ?_
  refine Go.cast (show (mkF m 177 #[.val (.ref a), .val (.int (7 : Int32)), .val (.int ((fin1 ((((((2058776039 : Int32) ^^^ (mixV (wordV x0 x1 x2 x3))) ^^^ (shl (x4 &&& (255 : Int32)) (0 : Int32))) ^^^ (shl (x5 &&& (255 : Int32)) (8 : Int32))) ^^^ (shl (x6 &&& (255 : Int32)) (16 : Int32))) * (1540483477 : Int32))) * (1540483477 : Int32))), .val (.int (4 : Int32)), .val (.int (7 : Int32)), .val (.int (mixV (wordV x0 x1 x2 x3)))] [(.int (((fin1 ((((((2058776039 : Int32) ^^^ (mixV (wordV x0 x1 x2 x3))) ^^^ (shl (x4 &&& (255 : Int32)) (0 : Int32))) ^^^ (shl (x5 &&& (255 : Int32)) (8 : Int32))) ^^^ (shl (x6 &&& (255 : Int32)) (16 : Int32))) * (1540483477 : Int32))) * (1540483477 : Int32)) ^^^ (ushr ((fin1 ((((((2058776039 : Int32) ^^^ (mixV (wordV x0 x1 x2 x3))) ^^^ (shl (x4 &&& (255 : Int32)) (0 : Int32))) ^^^ (shl (x5 &&& (255 : Int32)) (8 : Int32))) ^^^ (shl (x6 &&& (255 : Int32)) (16 : Int32))) * (1540483477 : Int32))) * (1540483477 : Int32)) (15 : Int32))))]) = (mkF m 177 #[.val (.ref a), .val (.int (7 : Int32)), .val (.int ((fin1 ((((((2058776039 : Int32) ^^^ (mixV (wordV x0 x1 x2 x3))) ^^^ (shl (x4 &&& (255 : Int32)) (0 : Int32))) ^^^ (shl (x5 &&& (255 : Int32)) (8 : Int32))) ^^^ (shl (x6 &&& (255 : Int32)) (16 : Int32))) * (1540483477 : Int32))) * (1540483477 : Int32))), .val (.int (4 : Int32)), .val (.int (7 : Int32)), .val (.int (mixV (wordV x0 x1 x2 x3)))] [(.int (fin2 ((fin1 ((((((2058776039 : Int32) ^^^ (mixV (wordV x0 x1 x2 x3))) ^^^ (shl (x4 &&& (255 : Int32)) (0 : Int32))) ^^^ (shl (x5 &&& (255 : Int32)) (8 : Int32))) ^^^ (shl (x6 &&& (255 : Int32)) (16 : Int32))) * (1540483477 : Int32))) * (1540483477 : Int32))))]) from by rw [show (((fin1 ((((((2058776039 : Int32) ^^^ (mixV (wordV x0 x1 x2 x3))) ^^^ (shl (x4 &&& (255 : Int32)) (0 : Int32))) ^^^ (shl (x5 &&& (255 : Int32)) (8 : Int32))) ^^^ (shl (x6 &&& (255 : Int32)) (16 : Int32))) * (1540483477 : Int32))) * (1540483477 : Int32)) ^^^ (ushr ((fin1 ((((((2058776039 : Int32) ^^^ (mixV (wordV x0 x1 x2 x3))) ^^^ (shl (x4 &&& (255 : Int32)) (0 : Int32))) ^^^ (shl (x5 &&& (255 : Int32)) (8 : Int32))) ^^^ (shl (x6 &&& (255 : Int32)) (16 : Int32))) * (1540483477 : Int32))) * (1540483477 : Int32)) (15 : Int32))) = (fin2 ((fin1 ((((((2058776039 : Int32) ^^^ (mixV (wordV x0 x1 x2 x3))) ^^^ (shl (x4 &&& (255 : Int32)) (0 : Int32))) ^^^ (shl (x5 &&& (255 : Int32)) (8 : Int32))) ^^^ (shl (x6 &&& (255 : Int32)) (16 : Int32))) * (1540483477 : Int32))) * (1540483477 : Int32))) from rfl]) ?_
  refine g_istoreN X0 hx (hb hby d1_177) (pc' := 178) rfl (Ls' := #[.val (.ref a), .val (.int (7 : Int32)), .val (.int (fin2 ((fin1 ((((((2058776039 : Int32) ^^^ (mixV (wordV x0 x1 x2 x3))) ^^^ (shl (x4 &&& (255 : Int32)) (0 : Int32))) ^^^ (shl (x5 &&& (255 : Int32)) (8 : Int32))) ^^^ (shl (x6 &&& (255 : Int32)) (16 : Int32))) * (1540483477 : Int32))) * (1540483477 : Int32)))), .val (.int (4 : Int32)), .val (.int (7 : Int32)), .val (.int (mixV (wordV x0 x1 x2 x3)))]) rfl ?_
  refine g_iloadN X0 hx (hb hby d1_178) (pc' := 179) rfl rfl ?_
  exact g_ireturn X0 hx hret (hb hby d1_179) N0 hlk (fun v t => endF (by decide) (by decide) v) (by rw [e0]; exact ⟨rfl, rfl⟩)
theorem ef_2_7 (x0 : Int32) (x1 : Int32) (x2 : Int32) (m : MethodId) : entryFrame m #[(.int x0), (.int x1), (.int x2)] 8 = mkF m 0 #[.val (.int x0), .val (.int x1), .val (.int x2), .unset, .unset, .unset, .unset, .unset] [] := by first | (simp [entryFrame, mkF, argsToLocals, Value.category]; done) | rfl
def Q2_7 (Z : State) (p0 : Int32) (p1 : Int32) (h0 : Heap) (n0 : Nat) : Option Value → Heap → Prop := fun v h => v = some (.int (fin2 ((fin1 ((((2058776039 : Int32) ^^^ (mixV p0)) ^^^ (p1 &&& (16777215 : Int32))) * (1540483477 : Int32))) * (1540483477 : Int32)))) ∧ h0 = h
set_option maxRecDepth 65536 in
set_option maxHeartbeats 40000000 in
theorem rm2_7 (l : Launch) (Z : State) (a0 : Array Value) (hw : ∀ d ∈ tables_1, d.before a0 Z = true) (p0 : Int32) (p1 : Int32) (h0 : Heap) (n0 : Nat) (Z0 : n0 ≤ h0.size) : Ctr l Z (⟨"com/example/stream_log_client/streamlogclient/producer/PartitionerMurmur2PinLaw", "ref", "(III)I"⟩ : MethodName) method_4_code 8 (some .int) ({ frames := 1, cells := 0, slots := 0, locals := 15 } : Room) #[(.int p0), (.int p1), (.int (7 : Int32))] h0 n0 (Q2_7 Z p0 p1 h0 n0) := by
  refine Ctr.of (plainFor_of_name pn_3) (ef_2_7 p0 p1 (7 : Int32)) ?_
  intro p e s m below meth c T0 hx hby hml hown hnm hret hlk hZ X0 e0
  have N0 := Fr.nil n0
  refine g_ldc X0 hx hZ hown (hw _ (List.mem_of_getElem? (i := 13) rfl)) (hb hby d2_0) (pc' := 2) rfl ?_
  refine g_istoreN X0 hx (hb hby d2_2) (pc' := 3) rfl (Ls' := #[.val (.int p0), .val (.int p1), .val (.int (7 : Int32)), .val (.int (1540483477 : Int32)), .unset, .unset, .unset, .unset]) rfl ?_
  refine g_ldc X0 hx hZ hown (hw _ (List.mem_of_getElem? (i := 14) rfl)) (hb hby d2_3) (pc' := 5) rfl ?_
  refine g_iloadN X0 hx (hb hby d2_5) (pc' := 6) rfl rfl ?_
  refine g_ixor X0 hx (hb hby d2_6) (pc' := 7) rfl ?_
  refine Go.cast (show (mkF m 7 #[.val (.int p0), .val (.int p1), .val (.int (7 : Int32)), .val (.int (1540483477 : Int32)), .unset, .unset, .unset, .unset] [(.int ((-1756908916 : Int32) ^^^ (7 : Int32)))]) = (mkF m 7 #[.val (.int p0), .val (.int p1), .val (.int (7 : Int32)), .val (.int (1540483477 : Int32)), .unset, .unset, .unset, .unset] [(.int (-1756908917 : Int32))]) from by rw [show ((-1756908916 : Int32) ^^^ (7 : Int32)) = (-1756908917 : Int32) from (by decide)]) ?_
  refine g_istore X0 hx (hb hby d2_7) (pc' := 9) rfl (Ls' := #[.val (.int p0), .val (.int p1), .val (.int (7 : Int32)), .val (.int (1540483477 : Int32)), .val (.int (-1756908917 : Int32)), .unset, .unset, .unset]) rfl ?_
  refine g_iloadN X0 hx (hb hby d2_9) (pc' := 10) rfl rfl ?_
  refine g_iconst X0 hx (hb hby d2_10) (pc' := 11) rfl (z := (4 : Int32)) rfl ?_
  refine g_icmp_lt X0 hx (hb hby d2_11) (pc1 := 14) rfl (by decide) (pc2 := 25) (by decide) (fun hc11 => absurd hc11 (by decide)) (fun hc11 => ?_)
  refine g_iload X0 hx (hb hby d2_14) (pc' := 16) rfl rfl ?_
  refine g_iloadN X0 hx (hb hby d2_16) (pc' := 17) rfl rfl ?_
  refine g_imul X0 hx (hb hby d2_17) (pc' := 18) rfl ?_
  refine Go.cast (show (mkF m 18 #[.val (.int p0), .val (.int p1), .val (.int (7 : Int32)), .val (.int (1540483477 : Int32)), .val (.int (-1756908917 : Int32)), .unset, .unset, .unset] [(.int ((-1756908917 : Int32) * (1540483477 : Int32)))]) = (mkF m 18 #[.val (.int p0), .val (.int p1), .val (.int (7 : Int32)), .val (.int (1540483477 : Int32)), .val (.int (-1756908917 : Int32)), .unset, .unset, .unset] [(.int (2058776039 : Int32))]) from by rw [show ((-1756908917 : Int32) * (1540483477 : Int32)) = (2058776039 : Int32) from (by decide)]) ?_
  refine g_iloadN X0 hx (hb hby d2_18) (pc' := 19) rfl rfl ?_
  obtain ⟨v4, T4, h4, L4, X4, e4, N4, q4, st4⟩ := h_static X0 hx (W := 1) (Ls := #[.val (.int p0), .val (.int p1), .val (.int (7 : Int32)), .val (.int (1540483477 : Int32)), .val (.int (-1756908917 : Int32)), .unset, .unset, .unset]) (argsL := [(.int p0)]) (rest := [(.int (2058776039 : Int32))]) hZ e0 N0 hml hown (rm3 l Z a0 hw p0 h0 n0 Z0) (hw _ (List.mem_of_getElem? (i := 17) rfl)) (hw _ (List.mem_of_getElem? (i := 18) rfl)) (hw _ (List.mem_of_getElem? (i := 11) rfl)) (hw _ (List.mem_of_getElem? (i := 19) rfl)) (by decide) pd__I_I rfl rfl (hb hby d2_19) rfl (by decide) (by decide) (by decide) (by decide)
  obtain ⟨rfl, rfl⟩ := q4
  refine Go.movp st4 (mkF m 22 #[.val (.int p0), .val (.int p1), .val (.int (7 : Int32)), .val (.int (1540483477 : Int32)), .val (.int (-1756908917 : Int32)), .unset, .unset, .unset] [(.int (mixV p0)), (.int (2058776039 : Int32))]) rfl ?_
  refine g_ixor X4 hx (hb hby d2_22) (pc' := 23) rfl ?_
  refine g_istore X4 hx (hb hby d2_23) (pc' := 25) rfl (Ls' := #[.val (.int p0), .val (.int p1), .val (.int (7 : Int32)), .val (.int (1540483477 : Int32)), .val (.int ((2058776039 : Int32) ^^^ (mixV p0))), .unset, .unset, .unset]) rfl ?_
  refine g_iloadN X4 hx (hb hby d2_25) (pc' := 26) rfl rfl ?_
  refine g_bipush X4 hx (hb hby d2_26) (pc' := 28) rfl (z := (8 : Int32)) rfl ?_
  refine g_icmp_ne X4 hx (hb hby d2_28) (pc1 := 31) rfl (by decide) (pc2 := 42) (by decide) (fun hc28 => ?_) (fun hc28 => absurd hc28 (by decide))
  refine g_iloadN X4 hx (hb hby d2_42) (pc' := 43) rfl rfl ?_
  refine g_iconst X4 hx (hb hby d2_43) (pc' := 44) rfl (z := (3 : Int32)) rfl ?_
  refine g_iand X4 hx (hb hby d2_44) (pc' := 45) rfl ?_
  refine Go.cast (show (mkF m 45 #[.val (.int p0), .val (.int p1), .val (.int (7 : Int32)), .val (.int (1540483477 : Int32)), .val (.int ((2058776039 : Int32) ^^^ (mixV p0))), .unset, .unset, .unset] [(.int ((7 : Int32) &&& (3 : Int32)))]) = (mkF m 45 #[.val (.int p0), .val (.int p1), .val (.int (7 : Int32)), .val (.int (1540483477 : Int32)), .val (.int ((2058776039 : Int32) ^^^ (mixV p0))), .unset, .unset, .unset] [(.int (3 : Int32))]) from by rw [show ((7 : Int32) &&& (3 : Int32)) = (3 : Int32) from (by decide)]) ?_
  refine g_istore X4 hx (hb hby d2_45) (pc' := 47) rfl (Ls' := #[.val (.int p0), .val (.int p1), .val (.int (7 : Int32)), .val (.int (1540483477 : Int32)), .val (.int ((2058776039 : Int32) ^^^ (mixV p0))), .val (.int (3 : Int32)), .unset, .unset]) rfl ?_
  refine g_iload X4 hx (hb hby d2_47) (pc' := 49) rfl rfl ?_
  refine g_if_eq X4 hx (hb hby d2_49) (pc1 := 52) rfl (by decide) (pc2 := 107) (by decide) (fun hc49 => absurd hc49 (by decide)) (fun hc49 => ?_)
  refine g_iloadN X4 hx (hb hby d2_52) (pc' := 53) rfl rfl ?_
  refine g_iconst X4 hx (hb hby d2_53) (pc' := 54) rfl (z := (4 : Int32)) rfl ?_
  refine g_icmp_ge X4 hx (hb hby d2_54) (pc1 := 57) rfl (by decide) (pc2 := 61) (by decide) (fun hc54 => ?_) (fun hc54 => absurd hc54 (by decide))
  refine g_iloadN X4 hx (hb hby d2_61) (pc' := 62) rfl rfl ?_
  refine g_istore X4 hx (hb hby d2_62) (pc' := 64) rfl (Ls' := #[.val (.int p0), .val (.int p1), .val (.int (7 : Int32)), .val (.int (1540483477 : Int32)), .val (.int ((2058776039 : Int32) ^^^ (mixV p0))), .val (.int (3 : Int32)), .val (.int p1), .unset]) rfl ?_
  refine g_iload X4 hx (hb hby d2_64) (pc' := 66) rfl rfl ?_
  refine g_iconst X4 hx (hb hby d2_66) (pc' := 67) rfl (z := (1 : Int32)) rfl ?_
  refine g_icmp_ne X4 hx (hb hby d2_67) (pc1 := 70) rfl (by decide) (pc2 := 76) (by decide) (fun hc67 => ?_) (fun hc67 => absurd hc67 (by decide))
  refine g_iload X4 hx (hb hby d2_76) (pc' := 78) rfl rfl ?_
  refine g_iconst X4 hx (hb hby d2_78) (pc' := 79) rfl (z := (2 : Int32)) rfl ?_
  refine g_icmp_ne X4 hx (hb hby d2_79) (pc1 := 82) rfl (by decide) (pc2 := 87) (by decide) (fun hc79 => ?_) (fun hc79 => absurd hc79 (by decide))
  refine g_ldc X4 hx hZ hown (hw _ (List.mem_of_getElem? (i := 16) rfl)) (hb hby d2_87) (pc' := 89) rfl ?_
  refine g_istore X4 hx (hb hby d2_89) (pc' := 91) rfl (Ls' := #[.val (.int p0), .val (.int p1), .val (.int (7 : Int32)), .val (.int (1540483477 : Int32)), .val (.int ((2058776039 : Int32) ^^^ (mixV p0))), .val (.int (3 : Int32)), .val (.int p1), .val (.int (16777215 : Int32))]) rfl ?_
  refine g_iload X4 hx (hb hby d2_91) (pc' := 93) rfl rfl ?_
  refine g_iload X4 hx (hb hby d2_93) (pc' := 95) rfl rfl ?_
  refine g_iload X4 hx (hb hby d2_95) (pc' := 97) rfl rfl ?_
  refine g_iand X4 hx (hb hby d2_97) (pc' := 98) rfl ?_
  refine g_ixor X4 hx (hb hby d2_98) (pc' := 99) rfl ?_
  refine g_istore X4 hx (hb hby d2_99) (pc' := 101) rfl (Ls' := #[.val (.int p0), .val (.int p1), .val (.int (7 : Int32)), .val (.int (1540483477 : Int32)), .val (.int (((2058776039 : Int32) ^^^ (mixV p0)) ^^^ (p1 &&& (16777215 : Int32)))), .val (.int (3 : Int32)), .val (.int p1), .val (.int (16777215 : Int32))]) rfl ?_
  refine g_iload X4 hx (hb hby d2_101) (pc' := 103) rfl rfl ?_
  refine g_iloadN X4 hx (hb hby d2_103) (pc' := 104) rfl rfl ?_
  refine g_imul X4 hx (hb hby d2_104) (pc' := 105) rfl ?_
  refine g_istore X4 hx (hb hby d2_105) (pc' := 107) rfl (Ls' := #[.val (.int p0), .val (.int p1), .val (.int (7 : Int32)), .val (.int (1540483477 : Int32)), .val (.int ((((2058776039 : Int32) ^^^ (mixV p0)) ^^^ (p1 &&& (16777215 : Int32))) * (1540483477 : Int32))), .val (.int (3 : Int32)), .val (.int p1), .val (.int (16777215 : Int32))]) rfl ?_
  refine g_iload X4 hx (hb hby d2_107) (pc' := 109) rfl rfl ?_
  refine g_iload X4 hx (hb hby d2_109) (pc' := 111) rfl rfl ?_
  refine g_bipush X4 hx (hb hby d2_111) (pc' := 113) rfl (z := (13 : Int32)) rfl ?_
  refine g_iushr X4 hx (hb hby d2_113) (pc' := 114) rfl ?_
  refine g_ixor X4 hx (hb hby d2_114) (pc' := 115) rfl ?_
  refine Go.cast (show (mkF m 115 #[.val (.int p0), .val (.int p1), .val (.int (7 : Int32)), .val (.int (1540483477 : Int32)), .val (.int ((((2058776039 : Int32) ^^^ (mixV p0)) ^^^ (p1 &&& (16777215 : Int32))) * (1540483477 : Int32))), .val (.int (3 : Int32)), .val (.int p1), .val (.int (16777215 : Int32))] [(.int (((((2058776039 : Int32) ^^^ (mixV p0)) ^^^ (p1 &&& (16777215 : Int32))) * (1540483477 : Int32)) ^^^ (ushr ((((2058776039 : Int32) ^^^ (mixV p0)) ^^^ (p1 &&& (16777215 : Int32))) * (1540483477 : Int32)) (13 : Int32))))]) = (mkF m 115 #[.val (.int p0), .val (.int p1), .val (.int (7 : Int32)), .val (.int (1540483477 : Int32)), .val (.int ((((2058776039 : Int32) ^^^ (mixV p0)) ^^^ (p1 &&& (16777215 : Int32))) * (1540483477 : Int32))), .val (.int (3 : Int32)), .val (.int p1), .val (.int (16777215 : Int32))] [(.int (fin1 ((((2058776039 : Int32) ^^^ (mixV p0)) ^^^ (p1 &&& (16777215 : Int32))) * (1540483477 : Int32))))]) from by rw [show (((((2058776039 : Int32) ^^^ (mixV p0)) ^^^ (p1 &&& (16777215 : Int32))) * (1540483477 : Int32)) ^^^ (ushr ((((2058776039 : Int32) ^^^ (mixV p0)) ^^^ (p1 &&& (16777215 : Int32))) * (1540483477 : Int32)) (13 : Int32))) = (fin1 ((((2058776039 : Int32) ^^^ (mixV p0)) ^^^ (p1 &&& (16777215 : Int32))) * (1540483477 : Int32))) from rfl]) ?_
  refine g_istore X4 hx (hb hby d2_115) (pc' := 117) rfl (Ls' := #[.val (.int p0), .val (.int p1), .val (.int (7 : Int32)), .val (.int (1540483477 : Int32)), .val (.int (fin1 ((((2058776039 : Int32) ^^^ (mixV p0)) ^^^ (p1 &&& (16777215 : Int32))) * (1540483477 : Int32)))), .val (.int (3 : Int32)), .val (.int p1), .val (.int (16777215 : Int32))]) rfl ?_
  refine g_iload X4 hx (hb hby d2_117) (pc' := 119) rfl rfl ?_
  refine g_iloadN X4 hx (hb hby d2_119) (pc' := 120) rfl rfl ?_
  refine g_imul X4 hx (hb hby d2_120) (pc' := 121) rfl ?_
  refine g_istore X4 hx (hb hby d2_121) (pc' := 123) rfl (Ls' := #[.val (.int p0), .val (.int p1), .val (.int (7 : Int32)), .val (.int (1540483477 : Int32)), .val (.int ((fin1 ((((2058776039 : Int32) ^^^ (mixV p0)) ^^^ (p1 &&& (16777215 : Int32))) * (1540483477 : Int32))) * (1540483477 : Int32))), .val (.int (3 : Int32)), .val (.int p1), .val (.int (16777215 : Int32))]) rfl ?_
  refine g_iload X4 hx (hb hby d2_123) (pc' := 125) rfl rfl ?_
  refine g_iload X4 hx (hb hby d2_125) (pc' := 127) rfl rfl ?_
  refine g_bipush X4 hx (hb hby d2_127) (pc' := 129) rfl (z := (15 : Int32)) rfl ?_
  refine g_iushr X4 hx (hb hby d2_129) (pc' := 130) rfl ?_
  refine g_ixor X4 hx (hb hby d2_130) (pc' := 131) rfl ?_
  refine Go.cast (show (mkF m 131 #[.val (.int p0), .val (.int p1), .val (.int (7 : Int32)), .val (.int (1540483477 : Int32)), .val (.int ((fin1 ((((2058776039 : Int32) ^^^ (mixV p0)) ^^^ (p1 &&& (16777215 : Int32))) * (1540483477 : Int32))) * (1540483477 : Int32))), .val (.int (3 : Int32)), .val (.int p1), .val (.int (16777215 : Int32))] [(.int (((fin1 ((((2058776039 : Int32) ^^^ (mixV p0)) ^^^ (p1 &&& (16777215 : Int32))) * (1540483477 : Int32))) * (1540483477 : Int32)) ^^^ (ushr ((fin1 ((((2058776039 : Int32) ^^^ (mixV p0)) ^^^ (p1 &&& (16777215 : Int32))) * (1540483477 : Int32))) * (1540483477 : Int32)) (15 : Int32))))]) = (mkF m 131 #[.val (.int p0), .val (.int p1), .val (.int (7 : Int32)), .val (.int (1540483477 : Int32)), .val (.int ((fin1 ((((2058776039 : Int32) ^^^ (mixV p0)) ^^^ (p1 &&& (16777215 : Int32))) * (1540483477 : Int32))) * (1540483477 : Int32))), .val (.int (3 : Int32)), .val (.int p1), .val (.int (16777215 : Int32))] [(.int (fin2 ((fin1 ((((2058776039 : Int32) ^^^ (mixV p0)) ^^^ (p1 &&& (16777215 : Int32))) * (1540483477 : Int32))) * (1540483477 : Int32))))]) from by rw [show (((fin1 ((((2058776039 : Int32) ^^^ (mixV p0)) ^^^ (p1 &&& (16777215 : Int32))) * (1540483477 : Int32))) * (1540483477 : Int32)) ^^^ (ushr ((fin1 ((((2058776039 : Int32) ^^^ (mixV p0)) ^^^ (p1 &&& (16777215 : Int32))) * (1540483477 : Int32))) * (1540483477 : Int32)) (15 : Int32))) = (fin2 ((fin1 ((((2058776039 : Int32) ^^^ (mixV p0)) ^^^ (p1 &&& (16777215 : Int32))) * (1540483477 : Int32))) * (1540483477 : Int32))) from rfl]) ?_
  refine g_istore X4 hx (hb hby d2_131) (pc' := 133) rfl (Ls' := #[.val (.int p0), .val (.int p1), .val (.int (7 : Int32)), .val (.int (1540483477 : Int32)), .val (.int (fin2 ((fin1 ((((2058776039 : Int32) ^^^ (mixV p0)) ^^^ (p1 &&& (16777215 : Int32))) * (1540483477 : Int32))) * (1540483477 : Int32)))), .val (.int (3 : Int32)), .val (.int p1), .val (.int (16777215 : Int32))]) rfl ?_
  refine g_iload X4 hx (hb hby d2_133) (pc' := 135) rfl rfl ?_
  exact g_ireturn X4 hx hret (hb hby d2_135) N4 hlk (fun v t => endF (by decide) (by decide) v) (by rw [e4]; exact ⟨rfl, rfl⟩)
theorem ef_1_8 (x0 : Addr) (m : MethodId) : entryFrame m #[(.ref x0)] 6 = mkF m 0 #[.val (.ref x0), .unset, .unset, .unset, .unset, .unset] [] := by first | (simp [entryFrame, mkF, argsToLocals, Value.category]; done) | rfl
def Q1_8 (Z : State) (a : Addr) (x0 : Int32) (x1 : Int32) (x2 : Int32) (x3 : Int32) (x4 : Int32) (x5 : Int32) (x6 : Int32) (x7 : Int32) (h0 : Heap) (n0 : Nat) : Option Value → Heap → Prop := fun v h => v = some (.int (fin2 ((fin1 ((((-134673708 : Int32) ^^^ (mixV (wordV x0 x1 x2 x3))) * (1540483477 : Int32)) ^^^ (mixV (wordV x4 x5 x6 x7)))) * (1540483477 : Int32)))) ∧ h0 = h
set_option maxRecDepth 65536 in
set_option maxHeartbeats 40000000 in
theorem rm1_8 (l : Launch) (Z : State) (a0 : Array Value) (hw : ∀ d ∈ tables_1, d.before a0 Z = true) (a : Addr) (x0 : Int32) (x1 : Int32) (x2 : Int32) (x3 : Int32) (x4 : Int32) (x5 : Int32) (x6 : Int32) (x7 : Int32) (h0 : Heap) (n0 : Nat) (Z0 : n0 ≤ h0.size) (V1 : Va Z h0 a .byte [(.int x0), (.int x1), (.int x2), (.int x3), (.int x4), (.int x5), (.int x6), (.int x7)]) : Ctr l Z (⟨"com/example/stream_log_client/streamlogclient/producer/Partitioner", "murmur2", "([B)I"⟩ : MethodName) prog_67_method_3_code 6 (some .int) ({ frames := 0, cells := 0, slots := 0, locals := 0 } : Room) #[(.ref a)] h0 n0 (Q1_8 Z a x0 x1 x2 x3 x4 x5 x6 x7 h0 n0) := by
  refine Ctr.of (plainFor_of_name pn_1) (ef_1_8 a) ?_
  intro p e s m below meth c T0 hx hby hml hown hnm hret hlk hZ X0 e0
  have N0 := Fr.nil n0
  refine g_aloadN X0 hx (hb hby d1_0) (pc' := 1) rfl rfl rfl ?_
  refine g_arraylength X0 hx hZ e0 V1 (z := (8 : Int32)) (hb hby d1_1) (pc' := 2) rfl rfl ?_
  refine g_istoreN X0 hx (hb hby d1_2) (pc' := 3) rfl (Ls' := #[.val (.ref a), .val (.int (8 : Int32)), .unset, .unset, .unset, .unset]) rfl ?_
  refine g_ldc X0 hx hZ hown (hw _ (List.mem_of_getElem? (i := 6) rfl)) (hb hby d1_3) (pc' := 5) rfl ?_
  refine g_iloadN X0 hx (hb hby d1_5) (pc' := 6) rfl rfl ?_
  refine g_ixor X0 hx (hb hby d1_6) (pc' := 7) rfl ?_
  refine Go.cast (show (mkF m 7 #[.val (.ref a), .val (.int (8 : Int32)), .unset, .unset, .unset, .unset] [(.int ((-1756908916 : Int32) ^^^ (8 : Int32)))]) = (mkF m 7 #[.val (.ref a), .val (.int (8 : Int32)), .unset, .unset, .unset, .unset] [(.int (-1756908924 : Int32))]) from by rw [show ((-1756908916 : Int32) ^^^ (8 : Int32)) = (-1756908924 : Int32) from (by decide)]) ?_
  refine g_istoreN X0 hx (hb hby d1_7) (pc' := 8) rfl (Ls' := #[.val (.ref a), .val (.int (8 : Int32)), .val (.int (-1756908924 : Int32)), .unset, .unset, .unset]) rfl ?_
  refine g_iloadN X0 hx (hb hby d1_8) (pc' := 9) rfl rfl ?_
  refine g_iloadN X0 hx (hb hby d1_9) (pc' := 10) rfl rfl ?_
  refine g_iconst X0 hx (hb hby d1_10) (pc' := 11) rfl (z := (4 : Int32)) rfl ?_
  refine g_irem X0 hx (hb hby d1_11) (pc' := 12) rfl (by decide) ?_
  refine Go.cast (show (mkF m 12 #[.val (.ref a), .val (.int (8 : Int32)), .val (.int (-1756908924 : Int32)), .unset, .unset, .unset] [(.int ((8 : Int32) % (4 : Int32))), (.int (8 : Int32))]) = (mkF m 12 #[.val (.ref a), .val (.int (8 : Int32)), .val (.int (-1756908924 : Int32)), .unset, .unset, .unset] [(.int (0 : Int32)), (.int (8 : Int32))]) from by rw [show ((8 : Int32) % (4 : Int32)) = (0 : Int32) from (by decide)]) ?_
  refine g_isub X0 hx (hb hby d1_12) (pc' := 13) rfl ?_
  refine Go.cast (show (mkF m 13 #[.val (.ref a), .val (.int (8 : Int32)), .val (.int (-1756908924 : Int32)), .unset, .unset, .unset] [(.int ((8 : Int32) - (0 : Int32)))]) = (mkF m 13 #[.val (.ref a), .val (.int (8 : Int32)), .val (.int (-1756908924 : Int32)), .unset, .unset, .unset] [(.int (8 : Int32))]) from by rw [show ((8 : Int32) - (0 : Int32)) = (8 : Int32) from (by decide)]) ?_
  refine g_istoreN X0 hx (hb hby d1_13) (pc' := 14) rfl (Ls' := #[.val (.ref a), .val (.int (8 : Int32)), .val (.int (-1756908924 : Int32)), .val (.int (8 : Int32)), .unset, .unset]) rfl ?_
  refine g_iconst X0 hx (hb hby d1_14) (pc' := 15) rfl (z := (0 : Int32)) rfl ?_
  refine g_istore X0 hx (hb hby d1_15) (pc' := 17) rfl (Ls' := #[.val (.ref a), .val (.int (8 : Int32)), .val (.int (-1756908924 : Int32)), .val (.int (8 : Int32)), .val (.int (0 : Int32)), .unset]) rfl ?_
  refine g_iload X0 hx (hb hby d1_17) (pc' := 19) rfl rfl ?_
  refine g_iloadN X0 hx (hb hby d1_19) (pc' := 20) rfl rfl ?_
  refine g_icmp_ge X0 hx (hb hby d1_20) (pc1 := 23) rfl (by decide) (pc2 := 115) (by decide) (fun hc20 => absurd (by decide) hc20) (fun hc20 => ?_)
  refine g_aloadN X0 hx (hb hby d1_23) (pc' := 24) rfl rfl rfl ?_
  refine g_iload X0 hx (hb hby d1_24) (pc' := 26) rfl rfl ?_
  refine g_baload X0 hx hZ e0 V1 (i := 0) (v := (.int x0)) (hb hby d1_26) (pc' := 27) rfl (by decide) rfl rfl ?_
  refine g_sipush X0 hx (hb hby d1_27) (pc' := 30) rfl (z := (255 : Int32)) rfl ?_
  refine g_iand X0 hx (hb hby d1_30) (pc' := 31) rfl ?_
  refine g_aloadN X0 hx (hb hby d1_31) (pc' := 32) rfl rfl rfl ?_
  refine g_iload X0 hx (hb hby d1_32) (pc' := 34) rfl rfl ?_
  refine g_iconst X0 hx (hb hby d1_34) (pc' := 35) rfl (z := (1 : Int32)) rfl ?_
  refine g_iadd X0 hx (hb hby d1_35) (pc' := 36) rfl ?_
  refine Go.cast (show (mkF m 36 #[.val (.ref a), .val (.int (8 : Int32)), .val (.int (-1756908924 : Int32)), .val (.int (8 : Int32)), .val (.int (0 : Int32)), .unset] [(.int ((0 : Int32) + (1 : Int32))), (.ref a), (.int (x0 &&& (255 : Int32)))]) = (mkF m 36 #[.val (.ref a), .val (.int (8 : Int32)), .val (.int (-1756908924 : Int32)), .val (.int (8 : Int32)), .val (.int (0 : Int32)), .unset] [(.int (1 : Int32)), (.ref a), (.int (x0 &&& (255 : Int32)))]) from by rw [show ((0 : Int32) + (1 : Int32)) = (1 : Int32) from (by decide)]) ?_
  refine g_baload X0 hx hZ e0 V1 (i := 1) (v := (.int x1)) (hb hby d1_36) (pc' := 37) rfl (by decide) rfl rfl ?_
  refine g_sipush X0 hx (hb hby d1_37) (pc' := 40) rfl (z := (255 : Int32)) rfl ?_
  refine g_iand X0 hx (hb hby d1_40) (pc' := 41) rfl ?_
  refine g_bipush X0 hx (hb hby d1_41) (pc' := 43) rfl (z := (8 : Int32)) rfl ?_
  refine g_ishl X0 hx (hb hby d1_43) (pc' := 44) rfl ?_
  refine g_ior X0 hx (hb hby d1_44) (pc' := 45) rfl ?_
  refine g_aloadN X0 hx (hb hby d1_45) (pc' := 46) rfl rfl rfl ?_
  refine g_iload X0 hx (hb hby d1_46) (pc' := 48) rfl rfl ?_
  refine g_iconst X0 hx (hb hby d1_48) (pc' := 49) rfl (z := (2 : Int32)) rfl ?_
  refine g_iadd X0 hx (hb hby d1_49) (pc' := 50) rfl ?_
  refine Go.cast (show (mkF m 50 #[.val (.ref a), .val (.int (8 : Int32)), .val (.int (-1756908924 : Int32)), .val (.int (8 : Int32)), .val (.int (0 : Int32)), .unset] [(.int ((0 : Int32) + (2 : Int32))), (.ref a), (.int ((x0 &&& (255 : Int32)) ||| (shl (x1 &&& (255 : Int32)) (8 : Int32))))]) = (mkF m 50 #[.val (.ref a), .val (.int (8 : Int32)), .val (.int (-1756908924 : Int32)), .val (.int (8 : Int32)), .val (.int (0 : Int32)), .unset] [(.int (2 : Int32)), (.ref a), (.int ((x0 &&& (255 : Int32)) ||| (shl (x1 &&& (255 : Int32)) (8 : Int32))))]) from by rw [show ((0 : Int32) + (2 : Int32)) = (2 : Int32) from (by decide)]) ?_
  refine g_baload X0 hx hZ e0 V1 (i := 2) (v := (.int x2)) (hb hby d1_50) (pc' := 51) rfl (by decide) rfl rfl ?_
  refine g_sipush X0 hx (hb hby d1_51) (pc' := 54) rfl (z := (255 : Int32)) rfl ?_
  refine g_iand X0 hx (hb hby d1_54) (pc' := 55) rfl ?_
  refine g_bipush X0 hx (hb hby d1_55) (pc' := 57) rfl (z := (16 : Int32)) rfl ?_
  refine g_ishl X0 hx (hb hby d1_57) (pc' := 58) rfl ?_
  refine g_ior X0 hx (hb hby d1_58) (pc' := 59) rfl ?_
  refine g_aloadN X0 hx (hb hby d1_59) (pc' := 60) rfl rfl rfl ?_
  refine g_iload X0 hx (hb hby d1_60) (pc' := 62) rfl rfl ?_
  refine g_iconst X0 hx (hb hby d1_62) (pc' := 63) rfl (z := (3 : Int32)) rfl ?_
  refine g_iadd X0 hx (hb hby d1_63) (pc' := 64) rfl ?_
  refine Go.cast (show (mkF m 64 #[.val (.ref a), .val (.int (8 : Int32)), .val (.int (-1756908924 : Int32)), .val (.int (8 : Int32)), .val (.int (0 : Int32)), .unset] [(.int ((0 : Int32) + (3 : Int32))), (.ref a), (.int (((x0 &&& (255 : Int32)) ||| (shl (x1 &&& (255 : Int32)) (8 : Int32))) ||| (shl (x2 &&& (255 : Int32)) (16 : Int32))))]) = (mkF m 64 #[.val (.ref a), .val (.int (8 : Int32)), .val (.int (-1756908924 : Int32)), .val (.int (8 : Int32)), .val (.int (0 : Int32)), .unset] [(.int (3 : Int32)), (.ref a), (.int (((x0 &&& (255 : Int32)) ||| (shl (x1 &&& (255 : Int32)) (8 : Int32))) ||| (shl (x2 &&& (255 : Int32)) (16 : Int32))))]) from by rw [show ((0 : Int32) + (3 : Int32)) = (3 : Int32) from (by decide)]) ?_
  refine g_baload X0 hx hZ e0 V1 (i := 3) (v := (.int x3)) (hb hby d1_64) (pc' := 65) rfl (by decide) rfl rfl ?_
  refine g_sipush X0 hx (hb hby d1_65) (pc' := 68) rfl (z := (255 : Int32)) rfl ?_
  refine g_iand X0 hx (hb hby d1_68) (pc' := 69) rfl ?_
  refine g_bipush X0 hx (hb hby d1_69) (pc' := 71) rfl (z := (24 : Int32)) rfl ?_
  refine g_ishl X0 hx (hb hby d1_71) (pc' := 72) rfl ?_
  refine g_ior X0 hx (hb hby d1_72) (pc' := 73) rfl ?_
  refine Go.cast (show (mkF m 73 #[.val (.ref a), .val (.int (8 : Int32)), .val (.int (-1756908924 : Int32)), .val (.int (8 : Int32)), .val (.int (0 : Int32)), .unset] [(.int ((((x0 &&& (255 : Int32)) ||| (shl (x1 &&& (255 : Int32)) (8 : Int32))) ||| (shl (x2 &&& (255 : Int32)) (16 : Int32))) ||| (shl (x3 &&& (255 : Int32)) (24 : Int32))))]) = (mkF m 73 #[.val (.ref a), .val (.int (8 : Int32)), .val (.int (-1756908924 : Int32)), .val (.int (8 : Int32)), .val (.int (0 : Int32)), .unset] [(.int (wordV x0 x1 x2 x3))]) from by rw [show ((((x0 &&& (255 : Int32)) ||| (shl (x1 &&& (255 : Int32)) (8 : Int32))) ||| (shl (x2 &&& (255 : Int32)) (16 : Int32))) ||| (shl (x3 &&& (255 : Int32)) (24 : Int32))) = (wordV x0 x1 x2 x3) from rfl]) ?_
  refine g_istore X0 hx (hb hby d1_73) (pc' := 75) rfl (Ls' := #[.val (.ref a), .val (.int (8 : Int32)), .val (.int (-1756908924 : Int32)), .val (.int (8 : Int32)), .val (.int (0 : Int32)), .val (.int (wordV x0 x1 x2 x3))]) rfl ?_
  refine g_iload X0 hx (hb hby d1_75) (pc' := 77) rfl rfl ?_
  refine g_ldc X0 hx hZ hown (hw _ (List.mem_of_getElem? (i := 7) rfl)) (hb hby d1_77) (pc' := 79) rfl ?_
  refine g_imul X0 hx (hb hby d1_79) (pc' := 80) rfl ?_
  refine g_istore X0 hx (hb hby d1_80) (pc' := 82) rfl (Ls' := #[.val (.ref a), .val (.int (8 : Int32)), .val (.int (-1756908924 : Int32)), .val (.int (8 : Int32)), .val (.int (0 : Int32)), .val (.int ((wordV x0 x1 x2 x3) * (1540483477 : Int32)))]) rfl ?_
  refine g_iload X0 hx (hb hby d1_82) (pc' := 84) rfl rfl ?_
  refine g_iload X0 hx (hb hby d1_84) (pc' := 86) rfl rfl ?_
  refine g_bipush X0 hx (hb hby d1_86) (pc' := 88) rfl (z := (24 : Int32)) rfl ?_
  refine g_iushr X0 hx (hb hby d1_88) (pc' := 89) rfl ?_
  refine g_ixor X0 hx (hb hby d1_89) (pc' := 90) rfl ?_
  refine g_istore X0 hx (hb hby d1_90) (pc' := 92) rfl (Ls' := #[.val (.ref a), .val (.int (8 : Int32)), .val (.int (-1756908924 : Int32)), .val (.int (8 : Int32)), .val (.int (0 : Int32)), .val (.int (((wordV x0 x1 x2 x3) * (1540483477 : Int32)) ^^^ (ushr ((wordV x0 x1 x2 x3) * (1540483477 : Int32)) (24 : Int32))))]) rfl ?_
  refine g_iload X0 hx (hb hby d1_92) (pc' := 94) rfl rfl ?_
  refine g_ldc X0 hx hZ hown (hw _ (List.mem_of_getElem? (i := 7) rfl)) (hb hby d1_94) (pc' := 96) rfl ?_
  refine g_imul X0 hx (hb hby d1_96) (pc' := 97) rfl ?_
  refine Go.cast (show (mkF m 97 #[.val (.ref a), .val (.int (8 : Int32)), .val (.int (-1756908924 : Int32)), .val (.int (8 : Int32)), .val (.int (0 : Int32)), .val (.int (((wordV x0 x1 x2 x3) * (1540483477 : Int32)) ^^^ (ushr ((wordV x0 x1 x2 x3) * (1540483477 : Int32)) (24 : Int32))))] [(.int ((((wordV x0 x1 x2 x3) * (1540483477 : Int32)) ^^^ (ushr ((wordV x0 x1 x2 x3) * (1540483477 : Int32)) (24 : Int32))) * (1540483477 : Int32)))]) = (mkF m 97 #[.val (.ref a), .val (.int (8 : Int32)), .val (.int (-1756908924 : Int32)), .val (.int (8 : Int32)), .val (.int (0 : Int32)), .val (.int (((wordV x0 x1 x2 x3) * (1540483477 : Int32)) ^^^ (ushr ((wordV x0 x1 x2 x3) * (1540483477 : Int32)) (24 : Int32))))] [(.int (mixV (wordV x0 x1 x2 x3)))]) from by rw [show ((((wordV x0 x1 x2 x3) * (1540483477 : Int32)) ^^^ (ushr ((wordV x0 x1 x2 x3) * (1540483477 : Int32)) (24 : Int32))) * (1540483477 : Int32)) = (mixV (wordV x0 x1 x2 x3)) from rfl]) ?_
  refine g_istore X0 hx (hb hby d1_97) (pc' := 99) rfl (Ls' := #[.val (.ref a), .val (.int (8 : Int32)), .val (.int (-1756908924 : Int32)), .val (.int (8 : Int32)), .val (.int (0 : Int32)), .val (.int (mixV (wordV x0 x1 x2 x3)))]) rfl ?_
  refine g_iloadN X0 hx (hb hby d1_99) (pc' := 100) rfl rfl ?_
  refine g_ldc X0 hx hZ hown (hw _ (List.mem_of_getElem? (i := 7) rfl)) (hb hby d1_100) (pc' := 102) rfl ?_
  refine g_imul X0 hx (hb hby d1_102) (pc' := 103) rfl ?_
  refine Go.cast (show (mkF m 103 #[.val (.ref a), .val (.int (8 : Int32)), .val (.int (-1756908924 : Int32)), .val (.int (8 : Int32)), .val (.int (0 : Int32)), .val (.int (mixV (wordV x0 x1 x2 x3)))] [(.int ((-1756908924 : Int32) * (1540483477 : Int32)))]) = (mkF m 103 #[.val (.ref a), .val (.int (8 : Int32)), .val (.int (-1756908924 : Int32)), .val (.int (8 : Int32)), .val (.int (0 : Int32)), .val (.int (mixV (wordV x0 x1 x2 x3)))] [(.int (-134673708 : Int32))]) from by rw [show ((-1756908924 : Int32) * (1540483477 : Int32)) = (-134673708 : Int32) from (by decide)]) ?_
  refine g_istoreN X0 hx (hb hby d1_103) (pc' := 104) rfl (Ls' := #[.val (.ref a), .val (.int (8 : Int32)), .val (.int (-134673708 : Int32)), .val (.int (8 : Int32)), .val (.int (0 : Int32)), .val (.int (mixV (wordV x0 x1 x2 x3)))]) rfl ?_
  refine g_iloadN X0 hx (hb hby d1_104) (pc' := 105) rfl rfl ?_
  refine g_iload X0 hx (hb hby d1_105) (pc' := 107) rfl rfl ?_
  refine g_ixor X0 hx (hb hby d1_107) (pc' := 108) rfl ?_
  refine g_istoreN X0 hx (hb hby d1_108) (pc' := 109) rfl (Ls' := #[.val (.ref a), .val (.int (8 : Int32)), .val (.int ((-134673708 : Int32) ^^^ (mixV (wordV x0 x1 x2 x3)))), .val (.int (8 : Int32)), .val (.int (0 : Int32)), .val (.int (mixV (wordV x0 x1 x2 x3)))]) rfl ?_
  refine g_iinc X0 hx (hb hby d1_109) (pc' := 112) rfl rfl (z := (4 : Int32)) rfl (Ls' := #[.val (.ref a), .val (.int (8 : Int32)), .val (.int ((-134673708 : Int32) ^^^ (mixV (wordV x0 x1 x2 x3)))), .val (.int (8 : Int32)), .val (.int (4 : Int32)), .val (.int (mixV (wordV x0 x1 x2 x3)))]) rfl ?_
  refine g_goto X0 hx (hb hby d1_112) (by decide) (pc' := 17) (by decide) ?_
  refine g_iload X0 hx (hb hby d1_17) (pc' := 19) rfl rfl ?_
  refine g_iloadN X0 hx (hb hby d1_19) (pc' := 20) rfl rfl ?_
  refine g_icmp_ge X0 hx (hb hby d1_20) (pc1 := 23) rfl (by decide) (pc2 := 115) (by decide) (fun hc20_1 => absurd (by decide) hc20_1) (fun hc20_1 => ?_)
  refine g_aloadN X0 hx (hb hby d1_23) (pc' := 24) rfl rfl rfl ?_
  refine g_iload X0 hx (hb hby d1_24) (pc' := 26) rfl rfl ?_
  refine g_baload X0 hx hZ e0 V1 (i := 4) (v := (.int x4)) (hb hby d1_26) (pc' := 27) rfl (by decide) rfl rfl ?_
  refine g_sipush X0 hx (hb hby d1_27) (pc' := 30) rfl (z := (255 : Int32)) rfl ?_
  refine g_iand X0 hx (hb hby d1_30) (pc' := 31) rfl ?_
  refine g_aloadN X0 hx (hb hby d1_31) (pc' := 32) rfl rfl rfl ?_
  refine g_iload X0 hx (hb hby d1_32) (pc' := 34) rfl rfl ?_
  refine g_iconst X0 hx (hb hby d1_34) (pc' := 35) rfl (z := (1 : Int32)) rfl ?_
  refine g_iadd X0 hx (hb hby d1_35) (pc' := 36) rfl ?_
  refine Go.cast (show (mkF m 36 #[.val (.ref a), .val (.int (8 : Int32)), .val (.int ((-134673708 : Int32) ^^^ (mixV (wordV x0 x1 x2 x3)))), .val (.int (8 : Int32)), .val (.int (4 : Int32)), .val (.int (mixV (wordV x0 x1 x2 x3)))] [(.int ((4 : Int32) + (1 : Int32))), (.ref a), (.int (x4 &&& (255 : Int32)))]) = (mkF m 36 #[.val (.ref a), .val (.int (8 : Int32)), .val (.int ((-134673708 : Int32) ^^^ (mixV (wordV x0 x1 x2 x3)))), .val (.int (8 : Int32)), .val (.int (4 : Int32)), .val (.int (mixV (wordV x0 x1 x2 x3)))] [(.int (5 : Int32)), (.ref a), (.int (x4 &&& (255 : Int32)))]) from by rw [show ((4 : Int32) + (1 : Int32)) = (5 : Int32) from (by decide)]) ?_
  refine g_baload X0 hx hZ e0 V1 (i := 5) (v := (.int x5)) (hb hby d1_36) (pc' := 37) rfl (by decide) rfl rfl ?_
  refine g_sipush X0 hx (hb hby d1_37) (pc' := 40) rfl (z := (255 : Int32)) rfl ?_
  refine g_iand X0 hx (hb hby d1_40) (pc' := 41) rfl ?_
  refine g_bipush X0 hx (hb hby d1_41) (pc' := 43) rfl (z := (8 : Int32)) rfl ?_
  refine g_ishl X0 hx (hb hby d1_43) (pc' := 44) rfl ?_
  refine g_ior X0 hx (hb hby d1_44) (pc' := 45) rfl ?_
  refine g_aloadN X0 hx (hb hby d1_45) (pc' := 46) rfl rfl rfl ?_
  refine g_iload X0 hx (hb hby d1_46) (pc' := 48) rfl rfl ?_
  refine g_iconst X0 hx (hb hby d1_48) (pc' := 49) rfl (z := (2 : Int32)) rfl ?_
  refine g_iadd X0 hx (hb hby d1_49) (pc' := 50) rfl ?_
  refine Go.cast (show (mkF m 50 #[.val (.ref a), .val (.int (8 : Int32)), .val (.int ((-134673708 : Int32) ^^^ (mixV (wordV x0 x1 x2 x3)))), .val (.int (8 : Int32)), .val (.int (4 : Int32)), .val (.int (mixV (wordV x0 x1 x2 x3)))] [(.int ((4 : Int32) + (2 : Int32))), (.ref a), (.int ((x4 &&& (255 : Int32)) ||| (shl (x5 &&& (255 : Int32)) (8 : Int32))))]) = (mkF m 50 #[.val (.ref a), .val (.int (8 : Int32)), .val (.int ((-134673708 : Int32) ^^^ (mixV (wordV x0 x1 x2 x3)))), .val (.int (8 : Int32)), .val (.int (4 : Int32)), .val (.int (mixV (wordV x0 x1 x2 x3)))] [(.int (6 : Int32)), (.ref a), (.int ((x4 &&& (255 : Int32)) ||| (shl (x5 &&& (255 : Int32)) (8 : Int32))))]) from by rw [show ((4 : Int32) + (2 : Int32)) = (6 : Int32) from (by decide)]) ?_
  refine g_baload X0 hx hZ e0 V1 (i := 6) (v := (.int x6)) (hb hby d1_50) (pc' := 51) rfl (by decide) rfl rfl ?_
  refine g_sipush X0 hx (hb hby d1_51) (pc' := 54) rfl (z := (255 : Int32)) rfl ?_
  refine g_iand X0 hx (hb hby d1_54) (pc' := 55) rfl ?_
  refine g_bipush X0 hx (hb hby d1_55) (pc' := 57) rfl (z := (16 : Int32)) rfl ?_
  refine g_ishl X0 hx (hb hby d1_57) (pc' := 58) rfl ?_
  refine g_ior X0 hx (hb hby d1_58) (pc' := 59) rfl ?_
  refine g_aloadN X0 hx (hb hby d1_59) (pc' := 60) rfl rfl rfl ?_
  refine g_iload X0 hx (hb hby d1_60) (pc' := 62) rfl rfl ?_
  refine g_iconst X0 hx (hb hby d1_62) (pc' := 63) rfl (z := (3 : Int32)) rfl ?_
  refine g_iadd X0 hx (hb hby d1_63) (pc' := 64) rfl ?_
  refine Go.cast (show (mkF m 64 #[.val (.ref a), .val (.int (8 : Int32)), .val (.int ((-134673708 : Int32) ^^^ (mixV (wordV x0 x1 x2 x3)))), .val (.int (8 : Int32)), .val (.int (4 : Int32)), .val (.int (mixV (wordV x0 x1 x2 x3)))] [(.int ((4 : Int32) + (3 : Int32))), (.ref a), (.int (((x4 &&& (255 : Int32)) ||| (shl (x5 &&& (255 : Int32)) (8 : Int32))) ||| (shl (x6 &&& (255 : Int32)) (16 : Int32))))]) = (mkF m 64 #[.val (.ref a), .val (.int (8 : Int32)), .val (.int ((-134673708 : Int32) ^^^ (mixV (wordV x0 x1 x2 x3)))), .val (.int (8 : Int32)), .val (.int (4 : Int32)), .val (.int (mixV (wordV x0 x1 x2 x3)))] [(.int (7 : Int32)), (.ref a), (.int (((x4 &&& (255 : Int32)) ||| (shl (x5 &&& (255 : Int32)) (8 : Int32))) ||| (shl (x6 &&& (255 : Int32)) (16 : Int32))))]) from by rw [show ((4 : Int32) + (3 : Int32)) = (7 : Int32) from (by decide)]) ?_
  refine g_baload X0 hx hZ e0 V1 (i := 7) (v := (.int x7)) (hb hby d1_64) (pc' := 65) rfl (by decide) rfl rfl ?_
  refine g_sipush X0 hx (hb hby d1_65) (pc' := 68) rfl (z := (255 : Int32)) rfl ?_
  refine g_iand X0 hx (hb hby d1_68) (pc' := 69) rfl ?_
  refine g_bipush X0 hx (hb hby d1_69) (pc' := 71) rfl (z := (24 : Int32)) rfl ?_
  refine g_ishl X0 hx (hb hby d1_71) (pc' := 72) rfl ?_
  refine g_ior X0 hx (hb hby d1_72) (pc' := 73) rfl ?_
  refine Go.cast (show (mkF m 73 #[.val (.ref a), .val (.int (8 : Int32)), .val (.int ((-134673708 : Int32) ^^^ (mixV (wordV x0 x1 x2 x3)))), .val (.int (8 : Int32)), .val (.int (4 : Int32)), .val (.int (mixV (wordV x0 x1 x2 x3)))] [(.int ((((x4 &&& (255 : Int32)) ||| (shl (x5 &&& (255 : Int32)) (8 : Int32))) ||| (shl (x6 &&& (255 : Int32)) (16 : Int32))) ||| (shl (x7 &&& (255 : Int32)) (24 : Int32))))]) = (mkF m 73 #[.val (.ref a), .val (.int (8 : Int32)), .val (.int ((-134673708 : Int32) ^^^ (mixV (wordV x0 x1 x2 x3)))), .val (.int (8 : Int32)), .val (.int (4 : Int32)), .val (.int (mixV (wordV x0 x1 x2 x3)))] [(.int (wordV x4 x5 x6 x7))]) from by rw [show ((((x4 &&& (255 : Int32)) ||| (shl (x5 &&& (255 : Int32)) (8 : Int32))) ||| (shl (x6 &&& (255 : Int32)) (16 : Int32))) ||| (shl (x7 &&& (255 : Int32)) (24 : Int32))) = (wordV x4 x5 x6 x7) from rfl]) ?_
  refine g_istore X0 hx (hb hby d1_73) (pc' := 75) rfl (Ls' := #[.val (.ref a), .val (.int (8 : Int32)), .val (.int ((-134673708 : Int32) ^^^ (mixV (wordV x0 x1 x2 x3)))), .val (.int (8 : Int32)), .val (.int (4 : Int32)), .val (.int (wordV x4 x5 x6 x7))]) rfl ?_
  refine g_iload X0 hx (hb hby d1_75) (pc' := 77) rfl rfl ?_
  refine g_ldc X0 hx hZ hown (hw _ (List.mem_of_getElem? (i := 7) rfl)) (hb hby d1_77) (pc' := 79) rfl ?_
  refine g_imul X0 hx (hb hby d1_79) (pc' := 80) rfl ?_
  refine g_istore X0 hx (hb hby d1_80) (pc' := 82) rfl (Ls' := #[.val (.ref a), .val (.int (8 : Int32)), .val (.int ((-134673708 : Int32) ^^^ (mixV (wordV x0 x1 x2 x3)))), .val (.int (8 : Int32)), .val (.int (4 : Int32)), .val (.int ((wordV x4 x5 x6 x7) * (1540483477 : Int32)))]) rfl ?_
  refine g_iload X0 hx (hb hby d1_82) (pc' := 84) rfl rfl ?_
  refine g_iload X0 hx (hb hby d1_84) (pc' := 86) rfl rfl ?_
  refine g_bipush X0 hx (hb hby d1_86) (pc' := 88) rfl (z := (24 : Int32)) rfl ?_
  refine g_iushr X0 hx (hb hby d1_88) (pc' := 89) rfl ?_
  refine g_ixor X0 hx (hb hby d1_89) (pc' := 90) rfl ?_
  refine g_istore X0 hx (hb hby d1_90) (pc' := 92) rfl (Ls' := #[.val (.ref a), .val (.int (8 : Int32)), .val (.int ((-134673708 : Int32) ^^^ (mixV (wordV x0 x1 x2 x3)))), .val (.int (8 : Int32)), .val (.int (4 : Int32)), .val (.int (((wordV x4 x5 x6 x7) * (1540483477 : Int32)) ^^^ (ushr ((wordV x4 x5 x6 x7) * (1540483477 : Int32)) (24 : Int32))))]) rfl ?_
  refine g_iload X0 hx (hb hby d1_92) (pc' := 94) rfl rfl ?_
  refine g_ldc X0 hx hZ hown (hw _ (List.mem_of_getElem? (i := 7) rfl)) (hb hby d1_94) (pc' := 96) rfl ?_
  refine g_imul X0 hx (hb hby d1_96) (pc' := 97) rfl ?_
  refine Go.cast (show (mkF m 97 #[.val (.ref a), .val (.int (8 : Int32)), .val (.int ((-134673708 : Int32) ^^^ (mixV (wordV x0 x1 x2 x3)))), .val (.int (8 : Int32)), .val (.int (4 : Int32)), .val (.int (((wordV x4 x5 x6 x7) * (1540483477 : Int32)) ^^^ (ushr ((wordV x4 x5 x6 x7) * (1540483477 : Int32)) (24 : Int32))))] [(.int ((((wordV x4 x5 x6 x7) * (1540483477 : Int32)) ^^^ (ushr ((wordV x4 x5 x6 x7) * (1540483477 : Int32)) (24 : Int32))) * (1540483477 : Int32)))]) = (mkF m 97 #[.val (.ref a), .val (.int (8 : Int32)), .val (.int ((-134673708 : Int32) ^^^ (mixV (wordV x0 x1 x2 x3)))), .val (.int (8 : Int32)), .val (.int (4 : Int32)), .val (.int (((wordV x4 x5 x6 x7) * (1540483477 : Int32)) ^^^ (ushr ((wordV x4 x5 x6 x7) * (1540483477 : Int32)) (24 : Int32))))] [(.int (mixV (wordV x4 x5 x6 x7)))]) from by rw [show ((((wordV x4 x5 x6 x7) * (1540483477 : Int32)) ^^^ (ushr ((wordV x4 x5 x6 x7) * (1540483477 : Int32)) (24 : Int32))) * (1540483477 : Int32)) = (mixV (wordV x4 x5 x6 x7)) from rfl]) ?_
  refine g_istore X0 hx (hb hby d1_97) (pc' := 99) rfl (Ls' := #[.val (.ref a), .val (.int (8 : Int32)), .val (.int ((-134673708 : Int32) ^^^ (mixV (wordV x0 x1 x2 x3)))), .val (.int (8 : Int32)), .val (.int (4 : Int32)), .val (.int (mixV (wordV x4 x5 x6 x7)))]) rfl ?_
  refine g_iloadN X0 hx (hb hby d1_99) (pc' := 100) rfl rfl ?_
  refine g_ldc X0 hx hZ hown (hw _ (List.mem_of_getElem? (i := 7) rfl)) (hb hby d1_100) (pc' := 102) rfl ?_
  refine g_imul X0 hx (hb hby d1_102) (pc' := 103) rfl ?_
  refine g_istoreN X0 hx (hb hby d1_103) (pc' := 104) rfl (Ls' := #[.val (.ref a), .val (.int (8 : Int32)), .val (.int (((-134673708 : Int32) ^^^ (mixV (wordV x0 x1 x2 x3))) * (1540483477 : Int32))), .val (.int (8 : Int32)), .val (.int (4 : Int32)), .val (.int (mixV (wordV x4 x5 x6 x7)))]) rfl ?_
  refine g_iloadN X0 hx (hb hby d1_104) (pc' := 105) rfl rfl ?_
  refine g_iload X0 hx (hb hby d1_105) (pc' := 107) rfl rfl ?_
  refine g_ixor X0 hx (hb hby d1_107) (pc' := 108) rfl ?_
  refine g_istoreN X0 hx (hb hby d1_108) (pc' := 109) rfl (Ls' := #[.val (.ref a), .val (.int (8 : Int32)), .val (.int ((((-134673708 : Int32) ^^^ (mixV (wordV x0 x1 x2 x3))) * (1540483477 : Int32)) ^^^ (mixV (wordV x4 x5 x6 x7)))), .val (.int (8 : Int32)), .val (.int (4 : Int32)), .val (.int (mixV (wordV x4 x5 x6 x7)))]) rfl ?_
  refine g_iinc X0 hx (hb hby d1_109) (pc' := 112) rfl rfl (z := (4 : Int32)) rfl (Ls' := #[.val (.ref a), .val (.int (8 : Int32)), .val (.int ((((-134673708 : Int32) ^^^ (mixV (wordV x0 x1 x2 x3))) * (1540483477 : Int32)) ^^^ (mixV (wordV x4 x5 x6 x7)))), .val (.int (8 : Int32)), .val (.int (8 : Int32)), .val (.int (mixV (wordV x4 x5 x6 x7)))]) rfl ?_
  refine g_goto X0 hx (hb hby d1_112) (by decide) (pc' := 17) (by decide) ?_
  refine g_iload X0 hx (hb hby d1_17) (pc' := 19) rfl rfl ?_
  refine g_iloadN X0 hx (hb hby d1_19) (pc' := 20) rfl rfl ?_
  refine g_icmp_ge X0 hx (hb hby d1_20) (pc1 := 23) rfl (by decide) (pc2 := 115) (by decide) (fun hc20_2 => ?_) (fun hc20_2 => absurd hc20_2 (by decide))
  refine g_iloadN X0 hx (hb hby d1_115) (pc' := 116) rfl rfl ?_
  refine g_istore X0 hx (hb hby d1_116) (pc' := 118) rfl (Ls' := #[.val (.ref a), .val (.int (8 : Int32)), .val (.int ((((-134673708 : Int32) ^^^ (mixV (wordV x0 x1 x2 x3))) * (1540483477 : Int32)) ^^^ (mixV (wordV x4 x5 x6 x7)))), .val (.int (8 : Int32)), .val (.int (8 : Int32)), .val (.int (mixV (wordV x4 x5 x6 x7)))]) rfl ?_
  refine g_iload X0 hx (hb hby d1_118) (pc' := 120) rfl rfl ?_
  refine g_iloadN X0 hx (hb hby d1_120) (pc' := 121) rfl rfl ?_
  refine g_icmp_ge X0 hx (hb hby d1_121) (pc1 := 124) rfl (by decide) (pc2 := 149) (by decide) (fun hc121 => ?_) (fun hc121 => absurd hc121 (by decide))
  refine g_iloadN X0 hx (hb hby d1_149) (pc' := 150) rfl rfl ?_
  refine g_iloadN X0 hx (hb hby d1_150) (pc' := 151) rfl rfl ?_
  refine g_icmp_ge X0 hx (hb hby d1_151) (pc1 := 154) rfl (by decide) (pc2 := 159) (by decide) (fun hc151 => ?_) (fun hc151 => absurd hc151 (by decide))
  refine g_iloadN X0 hx (hb hby d1_159) (pc' := 160) rfl rfl ?_
  refine g_iloadN X0 hx (hb hby d1_160) (pc' := 161) rfl rfl ?_
  refine g_bipush X0 hx (hb hby d1_161) (pc' := 163) rfl (z := (13 : Int32)) rfl ?_
  refine g_iushr X0 hx (hb hby d1_163) (pc' := 164) rfl ?_
  refine g_ixor X0 hx (hb hby d1_164) (pc' := 165) rfl ?_
  refine Go.cast (show (mkF m 165 #[.val (.ref a), .val (.int (8 : Int32)), .val (.int ((((-134673708 : Int32) ^^^ (mixV (wordV x0 x1 x2 x3))) * (1540483477 : Int32)) ^^^ (mixV (wordV x4 x5 x6 x7)))), .val (.int (8 : Int32)), .val (.int (8 : Int32)), .val (.int (mixV (wordV x4 x5 x6 x7)))] [(.int (((((-134673708 : Int32) ^^^ (mixV (wordV x0 x1 x2 x3))) * (1540483477 : Int32)) ^^^ (mixV (wordV x4 x5 x6 x7))) ^^^ (ushr ((((-134673708 : Int32) ^^^ (mixV (wordV x0 x1 x2 x3))) * (1540483477 : Int32)) ^^^ (mixV (wordV x4 x5 x6 x7))) (13 : Int32))))]) = (mkF m 165 #[.val (.ref a), .val (.int (8 : Int32)), .val (.int ((((-134673708 : Int32) ^^^ (mixV (wordV x0 x1 x2 x3))) * (1540483477 : Int32)) ^^^ (mixV (wordV x4 x5 x6 x7)))), .val (.int (8 : Int32)), .val (.int (8 : Int32)), .val (.int (mixV (wordV x4 x5 x6 x7)))] [(.int (fin1 ((((-134673708 : Int32) ^^^ (mixV (wordV x0 x1 x2 x3))) * (1540483477 : Int32)) ^^^ (mixV (wordV x4 x5 x6 x7)))))]) from by rw [show (((((-134673708 : Int32) ^^^ (mixV (wordV x0 x1 x2 x3))) * (1540483477 : Int32)) ^^^ (mixV (wordV x4 x5 x6 x7))) ^^^ (ushr ((((-134673708 : Int32) ^^^ (mixV (wordV x0 x1 x2 x3))) * (1540483477 : Int32)) ^^^ (mixV (wordV x4 x5 x6 x7))) (13 : Int32))) = (fin1 ((((-134673708 : Int32) ^^^ (mixV (wordV x0 x1 x2 x3))) * (1540483477 : Int32)) ^^^ (mixV (wordV x4 x5 x6 x7)))) from rfl]) ?_
  refine g_istoreN X0 hx (hb hby d1_165) (pc' := 166) rfl (Ls' := #[.val (.ref a), .val (.int (8 : Int32)), .val (.int (fin1 ((((-134673708 : Int32) ^^^ (mixV (wordV x0 x1 x2 x3))) * (1540483477 : Int32)) ^^^ (mixV (wordV x4 x5 x6 x7))))), .val (.int (8 : Int32)), .val (.int (8 : Int32)), .val (.int (mixV (wordV x4 x5 x6 x7)))]) rfl ?_
  refine g_iloadN X0 hx (hb hby d1_166) (pc' := 167) rfl rfl ?_
  refine g_ldc X0 hx hZ hown (hw _ (List.mem_of_getElem? (i := 7) rfl)) (hb hby d1_167) (pc' := 169) rfl ?_
  refine g_imul X0 hx (hb hby d1_169) (pc' := 170) rfl ?_
  refine g_istoreN X0 hx (hb hby d1_170) (pc' := 171) rfl (Ls' := #[.val (.ref a), .val (.int (8 : Int32)), .val (.int ((fin1 ((((-134673708 : Int32) ^^^ (mixV (wordV x0 x1 x2 x3))) * (1540483477 : Int32)) ^^^ (mixV (wordV x4 x5 x6 x7)))) * (1540483477 : Int32))), .val (.int (8 : Int32)), .val (.int (8 : Int32)), .val (.int (mixV (wordV x4 x5 x6 x7)))]) rfl ?_
  refine g_iloadN X0 hx (hb hby d1_171) (pc' := 172) rfl rfl ?_
  refine g_iloadN X0 hx (hb hby d1_172) (pc' := 173) rfl rfl ?_
  refine g_bipush X0 hx (hb hby d1_173) (pc' := 175) rfl (z := (15 : Int32)) rfl ?_
  refine g_iushr X0 hx (hb hby d1_175) (pc' := 176) rfl ?_
  refine g_ixor X0 hx (hb hby d1_176) (pc' := 177) rfl ?_
  refine Go.cast (show (mkF m 177 #[.val (.ref a), .val (.int (8 : Int32)), .val (.int ((fin1 ((((-134673708 : Int32) ^^^ (mixV (wordV x0 x1 x2 x3))) * (1540483477 : Int32)) ^^^ (mixV (wordV x4 x5 x6 x7)))) * (1540483477 : Int32))), .val (.int (8 : Int32)), .val (.int (8 : Int32)), .val (.int (mixV (wordV x4 x5 x6 x7)))] [(.int (((fin1 ((((-134673708 : Int32) ^^^ (mixV (wordV x0 x1 x2 x3))) * (1540483477 : Int32)) ^^^ (mixV (wordV x4 x5 x6 x7)))) * (1540483477 : Int32)) ^^^ (ushr ((fin1 ((((-134673708 : Int32) ^^^ (mixV (wordV x0 x1 x2 x3))) * (1540483477 : Int32)) ^^^ (mixV (wordV x4 x5 x6 x7)))) * (1540483477 : Int32)) (15 : Int32))))]) = (mkF m 177 #[.val (.ref a), .val (.int (8 : Int32)), .val (.int ((fin1 ((((-134673708 : Int32) ^^^ (mixV (wordV x0 x1 x2 x3))) * (1540483477 : Int32)) ^^^ (mixV (wordV x4 x5 x6 x7)))) * (1540483477 : Int32))), .val (.int (8 : Int32)), .val (.int (8 : Int32)), .val (.int (mixV (wordV x4 x5 x6 x7)))] [(.int (fin2 ((fin1 ((((-134673708 : Int32) ^^^ (mixV (wordV x0 x1 x2 x3))) * (1540483477 : Int32)) ^^^ (mixV (wordV x4 x5 x6 x7)))) * (1540483477 : Int32))))]) from by rw [show (((fin1 ((((-134673708 : Int32) ^^^ (mixV (wordV x0 x1 x2 x3))) * (1540483477 : Int32)) ^^^ (mixV (wordV x4 x5 x6 x7)))) * (1540483477 : Int32)) ^^^ (ushr ((fin1 ((((-134673708 : Int32) ^^^ (mixV (wordV x0 x1 x2 x3))) * (1540483477 : Int32)) ^^^ (mixV (wordV x4 x5 x6 x7)))) * (1540483477 : Int32)) (15 : Int32))) = (fin2 ((fin1 ((((-134673708 : Int32) ^^^ (mixV (wordV x0 x1 x2 x3))) * (1540483477 : Int32)) ^^^ (mixV (wordV x4 x5 x6 x7)))) * (1540483477 : Int32))) from rfl]) ?_
  refine g_istoreN X0 hx (hb hby d1_177) (pc' := 178) rfl (Ls' := #[.val (.ref a), .val (.int (8 : Int32)), .val (.int (fin2 ((fin1 ((((-134673708 : Int32) ^^^ (mixV (wordV x0 x1 x2 x3))) * (1540483477 : Int32)) ^^^ (mixV (wordV x4 x5 x6 x7)))) * (1540483477 : Int32)))), .val (.int (8 : Int32)), .val (.int (8 : Int32)), .val (.int (mixV (wordV x4 x5 x6 x7)))]) rfl ?_
  refine g_iloadN X0 hx (hb hby d1_178) (pc' := 179) rfl rfl ?_
  exact g_ireturn X0 hx hret (hb hby d1_179) N0 hlk (fun v t => endF (by decide) (by decide) v) (by rw [e0]; exact ⟨rfl, rfl⟩)
theorem d2_31 : decode method_4_code 31 = .ok (.iload 4, 2) := by decide +kernel
theorem d2_33 : decode method_4_code 33 = .ok (.iload_n 3, 1) := by decide +kernel
theorem d2_34 : decode method_4_code 34 = .ok (.imul, 1) := by decide +kernel
theorem d2_35 : decode method_4_code 35 = .ok (.iload_n 1, 1) := by decide +kernel
theorem d2_36 : decode method_4_code 36 = .ok (.invokestatic 23, 3) := by decide +kernel
theorem d2_39 : decode method_4_code 39 = .ok (.ixor, 1) := by decide +kernel
theorem d2_40 : decode method_4_code 40 = .ok (.istore 4, 2) := by decide +kernel
theorem ef_2_8 (x0 : Int32) (x1 : Int32) (x2 : Int32) (m : MethodId) : entryFrame m #[(.int x0), (.int x1), (.int x2)] 8 = mkF m 0 #[.val (.int x0), .val (.int x1), .val (.int x2), .unset, .unset, .unset, .unset, .unset] [] := by first | (simp [entryFrame, mkF, argsToLocals, Value.category]; done) | rfl
def Q2_8 (Z : State) (p0 : Int32) (p1 : Int32) (h0 : Heap) (n0 : Nat) : Option Value → Heap → Prop := fun v h => v = some (.int (fin2 ((fin1 ((((-134673708 : Int32) ^^^ (mixV p0)) * (1540483477 : Int32)) ^^^ (mixV p1))) * (1540483477 : Int32)))) ∧ h0 = h
set_option maxRecDepth 65536 in
set_option maxHeartbeats 40000000 in
theorem rm2_8 (l : Launch) (Z : State) (a0 : Array Value) (hw : ∀ d ∈ tables_1, d.before a0 Z = true) (p0 : Int32) (p1 : Int32) (h0 : Heap) (n0 : Nat) (Z0 : n0 ≤ h0.size) : Ctr l Z (⟨"com/example/stream_log_client/streamlogclient/producer/PartitionerMurmur2PinLaw", "ref", "(III)I"⟩ : MethodName) method_4_code 8 (some .int) ({ frames := 1, cells := 0, slots := 0, locals := 15 } : Room) #[(.int p0), (.int p1), (.int (8 : Int32))] h0 n0 (Q2_8 Z p0 p1 h0 n0) := by
  refine Ctr.of (plainFor_of_name pn_3) (ef_2_8 p0 p1 (8 : Int32)) ?_
  intro p e s m below meth c T0 hx hby hml hown hnm hret hlk hZ X0 e0
  have N0 := Fr.nil n0
  refine g_ldc X0 hx hZ hown (hw _ (List.mem_of_getElem? (i := 13) rfl)) (hb hby d2_0) (pc' := 2) rfl ?_
  refine g_istoreN X0 hx (hb hby d2_2) (pc' := 3) rfl (Ls' := #[.val (.int p0), .val (.int p1), .val (.int (8 : Int32)), .val (.int (1540483477 : Int32)), .unset, .unset, .unset, .unset]) rfl ?_
  refine g_ldc X0 hx hZ hown (hw _ (List.mem_of_getElem? (i := 14) rfl)) (hb hby d2_3) (pc' := 5) rfl ?_
  refine g_iloadN X0 hx (hb hby d2_5) (pc' := 6) rfl rfl ?_
  refine g_ixor X0 hx (hb hby d2_6) (pc' := 7) rfl ?_
  refine Go.cast (show (mkF m 7 #[.val (.int p0), .val (.int p1), .val (.int (8 : Int32)), .val (.int (1540483477 : Int32)), .unset, .unset, .unset, .unset] [(.int ((-1756908916 : Int32) ^^^ (8 : Int32)))]) = (mkF m 7 #[.val (.int p0), .val (.int p1), .val (.int (8 : Int32)), .val (.int (1540483477 : Int32)), .unset, .unset, .unset, .unset] [(.int (-1756908924 : Int32))]) from by rw [show ((-1756908916 : Int32) ^^^ (8 : Int32)) = (-1756908924 : Int32) from (by decide)]) ?_
  refine g_istore X0 hx (hb hby d2_7) (pc' := 9) rfl (Ls' := #[.val (.int p0), .val (.int p1), .val (.int (8 : Int32)), .val (.int (1540483477 : Int32)), .val (.int (-1756908924 : Int32)), .unset, .unset, .unset]) rfl ?_
  refine g_iloadN X0 hx (hb hby d2_9) (pc' := 10) rfl rfl ?_
  refine g_iconst X0 hx (hb hby d2_10) (pc' := 11) rfl (z := (4 : Int32)) rfl ?_
  refine g_icmp_lt X0 hx (hb hby d2_11) (pc1 := 14) rfl (by decide) (pc2 := 25) (by decide) (fun hc11 => absurd hc11 (by decide)) (fun hc11 => ?_)
  refine g_iload X0 hx (hb hby d2_14) (pc' := 16) rfl rfl ?_
  refine g_iloadN X0 hx (hb hby d2_16) (pc' := 17) rfl rfl ?_
  refine g_imul X0 hx (hb hby d2_17) (pc' := 18) rfl ?_
  refine Go.cast (show (mkF m 18 #[.val (.int p0), .val (.int p1), .val (.int (8 : Int32)), .val (.int (1540483477 : Int32)), .val (.int (-1756908924 : Int32)), .unset, .unset, .unset] [(.int ((-1756908924 : Int32) * (1540483477 : Int32)))]) = (mkF m 18 #[.val (.int p0), .val (.int p1), .val (.int (8 : Int32)), .val (.int (1540483477 : Int32)), .val (.int (-1756908924 : Int32)), .unset, .unset, .unset] [(.int (-134673708 : Int32))]) from by rw [show ((-1756908924 : Int32) * (1540483477 : Int32)) = (-134673708 : Int32) from (by decide)]) ?_
  refine g_iloadN X0 hx (hb hby d2_18) (pc' := 19) rfl rfl ?_
  obtain ⟨v5, T5, h5, L5, X5, e5, N5, q5, st5⟩ := h_static X0 hx (W := 1) (Ls := #[.val (.int p0), .val (.int p1), .val (.int (8 : Int32)), .val (.int (1540483477 : Int32)), .val (.int (-1756908924 : Int32)), .unset, .unset, .unset]) (argsL := [(.int p0)]) (rest := [(.int (-134673708 : Int32))]) hZ e0 N0 hml hown (rm3 l Z a0 hw p0 h0 n0 Z0) (hw _ (List.mem_of_getElem? (i := 17) rfl)) (hw _ (List.mem_of_getElem? (i := 18) rfl)) (hw _ (List.mem_of_getElem? (i := 11) rfl)) (hw _ (List.mem_of_getElem? (i := 19) rfl)) (by decide) pd__I_I rfl rfl (hb hby d2_19) rfl (by decide) (by decide) (by decide) (by decide)
  obtain ⟨rfl, rfl⟩ := q5
  refine Go.movp st5 (mkF m 22 #[.val (.int p0), .val (.int p1), .val (.int (8 : Int32)), .val (.int (1540483477 : Int32)), .val (.int (-1756908924 : Int32)), .unset, .unset, .unset] [(.int (mixV p0)), (.int (-134673708 : Int32))]) rfl ?_
  refine g_ixor X5 hx (hb hby d2_22) (pc' := 23) rfl ?_
  refine g_istore X5 hx (hb hby d2_23) (pc' := 25) rfl (Ls' := #[.val (.int p0), .val (.int p1), .val (.int (8 : Int32)), .val (.int (1540483477 : Int32)), .val (.int ((-134673708 : Int32) ^^^ (mixV p0))), .unset, .unset, .unset]) rfl ?_
  refine g_iloadN X5 hx (hb hby d2_25) (pc' := 26) rfl rfl ?_
  refine g_bipush X5 hx (hb hby d2_26) (pc' := 28) rfl (z := (8 : Int32)) rfl ?_
  refine g_icmp_ne X5 hx (hb hby d2_28) (pc1 := 31) rfl (by decide) (pc2 := 42) (by decide) (fun hc28 => absurd (by decide) hc28) (fun hc28 => ?_)
  refine g_iload X5 hx (hb hby d2_31) (pc' := 33) rfl rfl ?_
  refine g_iloadN X5 hx (hb hby d2_33) (pc' := 34) rfl rfl ?_
  refine g_imul X5 hx (hb hby d2_34) (pc' := 35) rfl ?_
  refine g_iloadN X5 hx (hb hby d2_35) (pc' := 36) rfl rfl ?_
  obtain ⟨v6, T6, h6, L6, X6, e6, N6, q6, st6⟩ := h_static X5 hx (W := 1) (Ls := #[.val (.int p0), .val (.int p1), .val (.int (8 : Int32)), .val (.int (1540483477 : Int32)), .val (.int ((-134673708 : Int32) ^^^ (mixV p0))), .unset, .unset, .unset]) (argsL := [(.int p1)]) (rest := [(.int (((-134673708 : Int32) ^^^ (mixV p0)) * (1540483477 : Int32)))]) hZ e5 N5 hml hown (rm3 l Z a0 hw p1 h0 n0 Z0) (hw _ (List.mem_of_getElem? (i := 17) rfl)) (hw _ (List.mem_of_getElem? (i := 18) rfl)) (hw _ (List.mem_of_getElem? (i := 11) rfl)) (hw _ (List.mem_of_getElem? (i := 19) rfl)) (by decide) pd__I_I rfl rfl (hb hby d2_36) rfl (by decide) (by decide) (by decide) (by decide)
  obtain ⟨rfl, rfl⟩ := q6
  refine Go.movp st6 (mkF m 39 #[.val (.int p0), .val (.int p1), .val (.int (8 : Int32)), .val (.int (1540483477 : Int32)), .val (.int ((-134673708 : Int32) ^^^ (mixV p0))), .unset, .unset, .unset] [(.int (mixV p1)), (.int (((-134673708 : Int32) ^^^ (mixV p0)) * (1540483477 : Int32)))]) rfl ?_
  refine g_ixor X6 hx (hb hby d2_39) (pc' := 40) rfl ?_
  refine g_istore X6 hx (hb hby d2_40) (pc' := 42) rfl (Ls' := #[.val (.int p0), .val (.int p1), .val (.int (8 : Int32)), .val (.int (1540483477 : Int32)), .val (.int ((((-134673708 : Int32) ^^^ (mixV p0)) * (1540483477 : Int32)) ^^^ (mixV p1))), .unset, .unset, .unset]) rfl ?_
  refine g_iloadN X6 hx (hb hby d2_42) (pc' := 43) rfl rfl ?_
  refine g_iconst X6 hx (hb hby d2_43) (pc' := 44) rfl (z := (3 : Int32)) rfl ?_
  refine g_iand X6 hx (hb hby d2_44) (pc' := 45) rfl ?_
  refine Go.cast (show (mkF m 45 #[.val (.int p0), .val (.int p1), .val (.int (8 : Int32)), .val (.int (1540483477 : Int32)), .val (.int ((((-134673708 : Int32) ^^^ (mixV p0)) * (1540483477 : Int32)) ^^^ (mixV p1))), .unset, .unset, .unset] [(.int ((8 : Int32) &&& (3 : Int32)))]) = (mkF m 45 #[.val (.int p0), .val (.int p1), .val (.int (8 : Int32)), .val (.int (1540483477 : Int32)), .val (.int ((((-134673708 : Int32) ^^^ (mixV p0)) * (1540483477 : Int32)) ^^^ (mixV p1))), .unset, .unset, .unset] [(.int (0 : Int32))]) from by rw [show ((8 : Int32) &&& (3 : Int32)) = (0 : Int32) from (by decide)]) ?_
  refine g_istore X6 hx (hb hby d2_45) (pc' := 47) rfl (Ls' := #[.val (.int p0), .val (.int p1), .val (.int (8 : Int32)), .val (.int (1540483477 : Int32)), .val (.int ((((-134673708 : Int32) ^^^ (mixV p0)) * (1540483477 : Int32)) ^^^ (mixV p1))), .val (.int (0 : Int32)), .unset, .unset]) rfl ?_
  refine g_iload X6 hx (hb hby d2_47) (pc' := 49) rfl rfl ?_
  refine g_if_eq X6 hx (hb hby d2_49) (pc1 := 52) rfl (by decide) (pc2 := 107) (by decide) (fun hc49 => ?_) (fun hc49 => absurd hc49 (by decide))
  refine g_iload X6 hx (hb hby d2_107) (pc' := 109) rfl rfl ?_
  refine g_iload X6 hx (hb hby d2_109) (pc' := 111) rfl rfl ?_
  refine g_bipush X6 hx (hb hby d2_111) (pc' := 113) rfl (z := (13 : Int32)) rfl ?_
  refine g_iushr X6 hx (hb hby d2_113) (pc' := 114) rfl ?_
  refine g_ixor X6 hx (hb hby d2_114) (pc' := 115) rfl ?_
  refine Go.cast (show (mkF m 115 #[.val (.int p0), .val (.int p1), .val (.int (8 : Int32)), .val (.int (1540483477 : Int32)), .val (.int ((((-134673708 : Int32) ^^^ (mixV p0)) * (1540483477 : Int32)) ^^^ (mixV p1))), .val (.int (0 : Int32)), .unset, .unset] [(.int (((((-134673708 : Int32) ^^^ (mixV p0)) * (1540483477 : Int32)) ^^^ (mixV p1)) ^^^ (ushr ((((-134673708 : Int32) ^^^ (mixV p0)) * (1540483477 : Int32)) ^^^ (mixV p1)) (13 : Int32))))]) = (mkF m 115 #[.val (.int p0), .val (.int p1), .val (.int (8 : Int32)), .val (.int (1540483477 : Int32)), .val (.int ((((-134673708 : Int32) ^^^ (mixV p0)) * (1540483477 : Int32)) ^^^ (mixV p1))), .val (.int (0 : Int32)), .unset, .unset] [(.int (fin1 ((((-134673708 : Int32) ^^^ (mixV p0)) * (1540483477 : Int32)) ^^^ (mixV p1))))]) from by rw [show (((((-134673708 : Int32) ^^^ (mixV p0)) * (1540483477 : Int32)) ^^^ (mixV p1)) ^^^ (ushr ((((-134673708 : Int32) ^^^ (mixV p0)) * (1540483477 : Int32)) ^^^ (mixV p1)) (13 : Int32))) = (fin1 ((((-134673708 : Int32) ^^^ (mixV p0)) * (1540483477 : Int32)) ^^^ (mixV p1))) from rfl]) ?_
  refine g_istore X6 hx (hb hby d2_115) (pc' := 117) rfl (Ls' := #[.val (.int p0), .val (.int p1), .val (.int (8 : Int32)), .val (.int (1540483477 : Int32)), .val (.int (fin1 ((((-134673708 : Int32) ^^^ (mixV p0)) * (1540483477 : Int32)) ^^^ (mixV p1)))), .val (.int (0 : Int32)), .unset, .unset]) rfl ?_
  refine g_iload X6 hx (hb hby d2_117) (pc' := 119) rfl rfl ?_
  refine g_iloadN X6 hx (hb hby d2_119) (pc' := 120) rfl rfl ?_
  refine g_imul X6 hx (hb hby d2_120) (pc' := 121) rfl ?_
  refine g_istore X6 hx (hb hby d2_121) (pc' := 123) rfl (Ls' := #[.val (.int p0), .val (.int p1), .val (.int (8 : Int32)), .val (.int (1540483477 : Int32)), .val (.int ((fin1 ((((-134673708 : Int32) ^^^ (mixV p0)) * (1540483477 : Int32)) ^^^ (mixV p1))) * (1540483477 : Int32))), .val (.int (0 : Int32)), .unset, .unset]) rfl ?_
  refine g_iload X6 hx (hb hby d2_123) (pc' := 125) rfl rfl ?_
  refine g_iload X6 hx (hb hby d2_125) (pc' := 127) rfl rfl ?_
  refine g_bipush X6 hx (hb hby d2_127) (pc' := 129) rfl (z := (15 : Int32)) rfl ?_
  refine g_iushr X6 hx (hb hby d2_129) (pc' := 130) rfl ?_
  refine g_ixor X6 hx (hb hby d2_130) (pc' := 131) rfl ?_
  refine Go.cast (show (mkF m 131 #[.val (.int p0), .val (.int p1), .val (.int (8 : Int32)), .val (.int (1540483477 : Int32)), .val (.int ((fin1 ((((-134673708 : Int32) ^^^ (mixV p0)) * (1540483477 : Int32)) ^^^ (mixV p1))) * (1540483477 : Int32))), .val (.int (0 : Int32)), .unset, .unset] [(.int (((fin1 ((((-134673708 : Int32) ^^^ (mixV p0)) * (1540483477 : Int32)) ^^^ (mixV p1))) * (1540483477 : Int32)) ^^^ (ushr ((fin1 ((((-134673708 : Int32) ^^^ (mixV p0)) * (1540483477 : Int32)) ^^^ (mixV p1))) * (1540483477 : Int32)) (15 : Int32))))]) = (mkF m 131 #[.val (.int p0), .val (.int p1), .val (.int (8 : Int32)), .val (.int (1540483477 : Int32)), .val (.int ((fin1 ((((-134673708 : Int32) ^^^ (mixV p0)) * (1540483477 : Int32)) ^^^ (mixV p1))) * (1540483477 : Int32))), .val (.int (0 : Int32)), .unset, .unset] [(.int (fin2 ((fin1 ((((-134673708 : Int32) ^^^ (mixV p0)) * (1540483477 : Int32)) ^^^ (mixV p1))) * (1540483477 : Int32))))]) from by rw [show (((fin1 ((((-134673708 : Int32) ^^^ (mixV p0)) * (1540483477 : Int32)) ^^^ (mixV p1))) * (1540483477 : Int32)) ^^^ (ushr ((fin1 ((((-134673708 : Int32) ^^^ (mixV p0)) * (1540483477 : Int32)) ^^^ (mixV p1))) * (1540483477 : Int32)) (15 : Int32))) = (fin2 ((fin1 ((((-134673708 : Int32) ^^^ (mixV p0)) * (1540483477 : Int32)) ^^^ (mixV p1))) * (1540483477 : Int32))) from rfl]) ?_
  refine g_istore X6 hx (hb hby d2_131) (pc' := 133) rfl (Ls' := #[.val (.int p0), .val (.int p1), .val (.int (8 : Int32)), .val (.int (1540483477 : Int32)), .val (.int (fin2 ((fin1 ((((-134673708 : Int32) ^^^ (mixV p0)) * (1540483477 : Int32)) ^^^ (mixV p1))) * (1540483477 : Int32)))), .val (.int (0 : Int32)), .unset, .unset]) rfl ?_
  refine g_iload X6 hx (hb hby d2_133) (pc' := 135) rfl rfl ?_
  exact g_ireturn X6 hx hret (hb hby d2_135) N6 hlk (fun v t => endF (by decide) (by decide) v) (by rw [e6]; exact ⟨rfl, rfl⟩)
theorem bv_shl (x : Int32) : (shl x 0).toBitVec = x.toBitVec ∧ (shl x 8).toBitVec = x.toBitVec <<< 8 ∧ (shl x 16).toBitVec = x.toBitVec <<< 16 ∧ (shl x 24).toBitVec = x.toBitVec <<< 24 := by
  refine ⟨?_, ?_, ?_, ?_⟩
  · show x.toBitVec <<< 0 = x.toBitVec
    simp
  · rfl
  · rfl
  · rfl
theorem bv_ushr (x : Int32) : (ushr x 8).toBitVec = x.toBitVec >>> 8 ∧ (ushr x 16).toBitVec = x.toBitVec >>> 16 ∧ (ushr x 24).toBitVec = x.toBitVec >>> 24 := ⟨rfl, rfl, rfl⟩
theorem bv_byt (x : Int32) : (byt (byt x) &&& 255).toBitVec = x.toBitVec &&& 255#32 := by
  rw [byt_byt]
  show (x.toBitVec.signExtend 8).signExtend 32 &&& 255#32 = _
  apply BitVec.eq_of_getLsbD_eq
  intro i hi
  have m : (255#32).getLsbD i = decide (i < 8) := by
    rw [BitVec.getLsbD_ofNat, show 255 = 2 ^ 8 - 1 from rfl, Nat.testBit_two_pow_sub_one]; simp [hi]
  rw [BitVec.getLsbD_and, BitVec.getLsbD_and, m]
  by_cases q : i < 8
  · rw [BitVec.getLsbD_signExtend, if_pos q, BitVec.getLsbD_signExtend, if_pos hi]; simp [q, hi]
  · simp [q]
theorem m255 {i : Nat} (hi : i < 32) : (255#32).getLsbD i = decide (i < 8) := by
  rw [BitVec.getLsbD_ofNat, show 255 = 2 ^ 8 - 1 from rfl, Nat.testBit_two_pow_sub_one]; simp [hi]
theorem m65535 {i : Nat} (hi : i < 32) : (65535#32).getLsbD i = decide (i < 16) := by
  rw [BitVec.getLsbD_ofNat, show 65535 = 2 ^ 16 - 1 from rfl, Nat.testBit_two_pow_sub_one]; simp [hi]
theorem m24 {i : Nat} (hi : i < 32) : (16777215#32).getLsbD i = decide (i < 24) := by
  rw [BitVec.getLsbD_ofNat, show 16777215 = 2 ^ 24 - 1 from rfl, Nat.testBit_two_pow_sub_one]; simp [hi]
theorem own_w (x : Int32) : wordV (byt (byt x)) (byt (byt (ushr x 8))) (byt (byt (ushr x 16))) (byt (byt (ushr x 24))) = x := by
  apply Int32.toBitVec_inj.mp
  unfold wordV
  rw [Int32.toBitVec_or, Int32.toBitVec_or, Int32.toBitVec_or, (bv_shl _).2.1, (bv_shl _).2.2.1, (bv_shl _).2.2.2, bv_byt, bv_byt, bv_byt, bv_byt, (bv_ushr x).1, (bv_ushr x).2.1, (bv_ushr x).2.2]
  apply BitVec.eq_of_getLsbD_eq
  intro i hi
  simp only [BitVec.getLsbD_or, BitVec.getLsbD_and, BitVec.getLsbD_shiftLeft, BitVec.getLsbD_ushiftRight, m255 hi, hi, decide_true, Bool.true_and]
  by_cases q1 : i < 8
  · have : i < 16 := by omega
    have : i < 24 := by omega
    simp [*]
  by_cases q2 : i < 16
  · have : i < 24 := by omega
    rw [m255 (by omega)]
    have : 8 + (i - 8) = i := by omega
    have : i - 8 < 8 := by omega
    simp [*]
  by_cases q3 : i < 24
  · rw [m255 (by omega), m255 (by omega)]
    have : 16 + (i - 16) = i := by omega
    have : i - 16 < 8 := by omega
    have : ¬ i - 8 < 8 := by omega
    simp [*]
  · rw [m255 (by omega), m255 (by omega), m255 (by omega)]
    have : 24 + (i - 24) = i := by omega
    have : i - 24 < 8 := by omega
    have : ¬ i - 8 < 8 := by omega
    have : ¬ i - 16 < 8 := by omega
    simp [*]
theorem own_1 (h x : Int32) : h ^^^ (shl (byt (byt x) &&& 255) 0) = h ^^^ (x &&& 255) := by
  apply Int32.toBitVec_inj.mp
  rw [Int32.toBitVec_xor, Int32.toBitVec_xor, (bv_shl _).1, bv_byt]; rfl
theorem own_2 (h x : Int32) : (h ^^^ (shl (byt (byt x) &&& 255) 0)) ^^^ (shl (byt (byt (ushr x 8)) &&& 255) 8) = h ^^^ (x &&& 65535) := by
  apply Int32.toBitVec_inj.mp
  rw [Int32.toBitVec_xor, Int32.toBitVec_xor, Int32.toBitVec_xor, (bv_shl _).1, (bv_shl _).2.1, bv_byt, bv_byt, (bv_ushr x).1, BitVec.xor_assoc]
  congr 1
  show _ = x.toBitVec &&& 65535#32
  apply BitVec.eq_of_getLsbD_eq
  intro i hi
  simp only [BitVec.getLsbD_xor, BitVec.getLsbD_and, BitVec.getLsbD_shiftLeft, BitVec.getLsbD_ushiftRight, m255 hi, m65535 hi, hi, decide_true, Bool.true_and]
  by_cases q1 : i < 8
  · have : i < 16 := by omega
    simp [*]
  · rw [m255 (by omega)]
    have : 8 + (i - 8) = i := by omega
    by_cases q2 : i < 16
    · have : i - 8 < 8 := by omega
      simp [*]
    · have : ¬ i - 8 < 8 := by omega
      simp [*]
theorem own_3 (h x : Int32) : ((h ^^^ (shl (byt (byt x) &&& 255) 0)) ^^^ (shl (byt (byt (ushr x 8)) &&& 255) 8)) ^^^ (shl (byt (byt (ushr x 16)) &&& 255) 16) = h ^^^ (x &&& 16777215) := by
  rw [own_2]
  apply Int32.toBitVec_inj.mp
  rw [Int32.toBitVec_xor, Int32.toBitVec_xor, Int32.toBitVec_xor, (bv_shl _).2.2.1, bv_byt, (bv_ushr x).2.1, BitVec.xor_assoc]
  congr 1
  show (x.toBitVec &&& 65535#32) ^^^ _ = x.toBitVec &&& 16777215#32
  apply BitVec.eq_of_getLsbD_eq
  intro i hi
  simp only [BitVec.getLsbD_xor, BitVec.getLsbD_and, BitVec.getLsbD_shiftLeft, BitVec.getLsbD_ushiftRight, m65535 hi, m24 hi, hi, decide_true, Bool.true_and]
  by_cases q1 : i < 16
  · have : i < 24 := by omega
    simp [*]
  · rw [m255 (by omega)]
    have : 16 + (i - 16) = i := by omega
    by_cases q2 : i < 24
    · have : i - 16 < 8 := by omega
      simp [*]
    · have : ¬ i - 16 < 8 := by omega
      simp [*]
theorem own_len (x : Int32) : (x &&& 2147483647) % 9 = 0 ∨ (x &&& 2147483647) % 9 = 1 ∨ (x &&& 2147483647) % 9 = 2 ∨ (x &&& 2147483647) % 9 = 3 ∨ (x &&& 2147483647) % 9 = 4 ∨ (x &&& 2147483647) % 9 = 5 ∨ (x &&& 2147483647) % 9 = 6 ∨ (x &&& 2147483647) % 9 = 7 ∨ (x &&& 2147483647) % 9 = 8 := by
  have h1 := c_mask x 2147483647 31 (by decide) (by decide)
  have h2 := (c_irem (x &&& 2147483647) 9 9 (by decide)).1 (by omega)
  have : ((x &&& 2147483647) % 9).toInt = 0 ∨ ((x &&& 2147483647) % 9).toInt = 1 ∨ ((x &&& 2147483647) % 9).toInt = 2 ∨ ((x &&& 2147483647) % 9).toInt = 3 ∨ ((x &&& 2147483647) % 9).toInt = 4 ∨ ((x &&& 2147483647) % 9).toInt = 5 ∨ ((x &&& 2147483647) % 9).toInt = 6 ∨ ((x &&& 2147483647) % 9).toInt = 7 ∨ ((x &&& 2147483647) % 9).toInt = 8 := by omega
  rcases this with q | q | q | q | q | q | q | q | q
  · exact Or.inl (Int32.toInt_inj.mp q)
  · exact Or.inr (Or.inl (Int32.toInt_inj.mp q))
  · exact Or.inr (Or.inr (Or.inl (Int32.toInt_inj.mp q)))
  · exact Or.inr (Or.inr (Or.inr (Or.inl (Int32.toInt_inj.mp q))))
  · exact Or.inr (Or.inr (Or.inr (Or.inr (Or.inl (Int32.toInt_inj.mp q)))))
  · exact Or.inr (Or.inr (Or.inr (Or.inr (Or.inr (Or.inl (Int32.toInt_inj.mp q))))))
  · exact Or.inr (Or.inr (Or.inr (Or.inr (Or.inr (Or.inr (Or.inl (Int32.toInt_inj.mp q)))))))
  · exact Or.inr (Or.inr (Or.inr (Or.inr (Or.inr (Or.inr (Or.inr (Or.inl (Int32.toInt_inj.mp q))))))))
  · exact Or.inr (Or.inr (Or.inr (Or.inr (Or.inr (Or.inr (Or.inr (Or.inr (Int32.toInt_inj.mp q))))))))
theorem pd___B_I : parseMethodDescriptor "([B)I" = some ⟨[(.array .byte)], some .int⟩ := by decide +kernel
theorem pd__III_I : parseMethodDescriptor "(III)I" = some ⟨[.int, .int, .int], some .int⟩ := by decide +kernel
theorem ef_0 (x0 : Int32) (x1 : Int32) (x2 : Int32) (m : MethodId) : entryFrame m #[(.int x0), (.int x1), (.int x2)] maxLocals = mkF m 0 #[.val (.int x0), .val (.int x1), .val (.int x2), .unset, .unset, .unset, .unset, .unset] [] := by first | (simp [entryFrame, mkF, argsToLocals, Value.category, maxLocals]; done) | rfl
def Q0 (Z : State) (p0 : Int32) (p1 : Int32) (p2 : Int32) (h0 : Heap) (n0 : Nat) : Option Value → Heap → Prop := fun v h => v = some (.int 1)
set_option maxRecDepth 65536 in
set_option maxHeartbeats 40000000 in
theorem rm0 (l : Launch) (Z : State) (a0 : Array Value) (hw : ∀ d ∈ tables_1, d.before a0 Z = true) (p0 : Int32) (p1 : Int32) (p2 : Int32) (h0 : Heap) (n0 : Nat) (Z0 : n0 ≤ h0.size) : Ctr l Z x code maxLocals ret room_1 #[(.int p0), (.int p1), (.int p2)] h0 n0 (Q0 Z p0 p1 p2 h0 n0) := by
  refine Ctr.of (plainFor_of_name pn_3) (ef_0 p0 p1 p2) ?_
  intro p e s m below meth c T0 hx hby hml hown hnm hret hlk hZ X0 e0
  have N0 := Fr.nil n0
  change c.maxLocals = 8 at hml
  change meth.sig.returnType = some .boolean at hret
  refine g_iloadN X0 hx (hb hby at_0) (pc' := 1) rfl rfl ?_
  refine g_ldc X0 hx hZ hown (hw _ (List.mem_of_getElem? (i := 0) rfl)) (hb hby at_1) (pc' := 3) rfl ?_
  refine g_iand X0 hx (hb hby at_3) (pc' := 4) rfl ?_
  refine g_bipush X0 hx (hb hby at_4) (pc' := 6) rfl (z := (9 : Int32)) rfl ?_
  refine g_irem X0 hx (hb hby at_6) (pc' := 7) rfl (by decide) ?_
  rcases own_len p2 with ql | ql | ql | ql | ql | ql | ql | ql | ql
  · skip
    refine Go.cast (show (mkF m 7 #[.val (.int p0), .val (.int p1), .val (.int p2), .unset, .unset, .unset, .unset, .unset] [(.int ((p2 &&& (2147483647 : Int32)) % (9 : Int32)))]) = (mkF m 7 #[.val (.int p0), .val (.int p1), .val (.int p2), .unset, .unset, .unset, .unset, .unset] [(.int (0 : Int32))]) from by rw [show ((p2 &&& (2147483647 : Int32)) % (9 : Int32)) = (0 : Int32) from ql]) ?_
    refine g_istoreN X0 hx (hb hby at_7) (pc' := 8) rfl (Ls' := #[.val (.int p0), .val (.int p1), .val (.int p2), .val (.int (0 : Int32)), .unset, .unset, .unset, .unset]) rfl ?_
    refine g_iloadN X0 hx (hb hby at_8) (pc' := 9) rfl rfl ?_
    obtain ⟨T7, h7, b7, X7, e7, g7, E7, V7, A7, st7⟩ := h_newarray X0 hx hZ e0 (n := (0 : Int32)) (ty := .byte) rfl (hw _ (List.mem_of_getElem? (i := 1) rfl)) (hb hby at_9) (k := 0) (cap := 0) (by decide) rfl (by decide) (by decide) (by decide) (by decide) (ad := "[B") (by decide) #[.val (.int p0), .val (.int p1), .val (.int p2), .val (.int (0 : Int32)), .unset, .unset, .unset, .unset] []
    have ge8 : n0 ≤ b7 := g7 ▸ Z0
    have Z9 : n0 ≤ h7.size := Nat.le_trans Z0 E7.1
    have f10 : Va Z h7 b7 .byte [] := V7
    refine Go.movp st7 (mkF m 11 #[.val (.int p0), .val (.int p1), .val (.int p2), .val (.int (0 : Int32)), .unset, .unset, .unset, .unset] [(.ref b7)]) rfl ?_
    refine g_astore X7 hx (hb hby at_11) (pc' := 13) rfl rfl (Ls' := #[.val (.int p0), .val (.int p1), .val (.int p2), .val (.int (0 : Int32)), .val (.ref b7), .unset, .unset, .unset]) rfl ?_
    refine g_iloadN X7 hx (hb hby at_13) (pc' := 14) rfl rfl ?_
    refine g_if_le X7 hx (hb hby at_14) (pc1 := 17) rfl (by decide) (pc2 := 23) (by decide) (fun hc14 => ?_) (fun hc14 => absurd hc14 (by decide))
    refine g_iloadN X7 hx (hb hby at_23) (pc' := 24) rfl rfl ?_
    refine g_iconst X7 hx (hb hby at_24) (pc' := 25) rfl (z := (1 : Int32)) rfl ?_
    refine g_icmp_le X7 hx (hb hby at_25) (pc1 := 28) rfl (by decide) (pc2 := 37) (by decide) (fun hc25 => ?_) (fun hc25 => absurd hc25 (by decide))
    refine g_iloadN X7 hx (hb hby at_37) (pc' := 38) rfl rfl ?_
    refine g_iconst X7 hx (hb hby at_38) (pc' := 39) rfl (z := (2 : Int32)) rfl ?_
    refine g_icmp_le X7 hx (hb hby at_39) (pc1 := 42) rfl (by decide) (pc2 := 51) (by decide) (fun hc39 => ?_) (fun hc39 => absurd hc39 (by decide))
    refine g_iloadN X7 hx (hb hby at_51) (pc' := 52) rfl rfl ?_
    refine g_iconst X7 hx (hb hby at_52) (pc' := 53) rfl (z := (3 : Int32)) rfl ?_
    refine g_icmp_le X7 hx (hb hby at_53) (pc1 := 56) rfl (by decide) (pc2 := 65) (by decide) (fun hc53 => ?_) (fun hc53 => absurd hc53 (by decide))
    refine g_iloadN X7 hx (hb hby at_65) (pc' := 66) rfl rfl ?_
    refine g_iconst X7 hx (hb hby at_66) (pc' := 67) rfl (z := (4 : Int32)) rfl ?_
    refine g_icmp_le X7 hx (hb hby at_67) (pc1 := 70) rfl (by decide) (pc2 := 76) (by decide) (fun hc67 => ?_) (fun hc67 => absurd hc67 (by decide))
    refine g_iloadN X7 hx (hb hby at_76) (pc' := 77) rfl rfl ?_
    refine g_iconst X7 hx (hb hby at_77) (pc' := 78) rfl (z := (5 : Int32)) rfl ?_
    refine g_icmp_le X7 hx (hb hby at_78) (pc1 := 81) rfl (by decide) (pc2 := 90) (by decide) (fun hc78 => ?_) (fun hc78 => absurd hc78 (by decide))
    refine g_iloadN X7 hx (hb hby at_90) (pc' := 91) rfl rfl ?_
    refine g_bipush X7 hx (hb hby at_91) (pc' := 93) rfl (z := (6 : Int32)) rfl ?_
    refine g_icmp_le X7 hx (hb hby at_93) (pc1 := 96) rfl (by decide) (pc2 := 106) (by decide) (fun hc93 => ?_) (fun hc93 => absurd hc93 (by decide))
    refine g_iloadN X7 hx (hb hby at_106) (pc' := 107) rfl rfl ?_
    refine g_bipush X7 hx (hb hby at_107) (pc' := 109) rfl (z := (7 : Int32)) rfl ?_
    refine g_icmp_le X7 hx (hb hby at_109) (pc1 := 112) rfl (by decide) (pc2 := 122) (by decide) (fun hc109 => ?_) (fun hc109 => absurd hc109 (by decide))
    refine g_iconst X7 hx (hb hby at_122) (pc' := 123) rfl (z := (2 : Int32)) rfl ?_
    obtain ⟨T11, h11, b11, X11, e11, g11, E11, V11, A11, st11⟩ := h_newarray X7 hx hZ e7 (n := (2 : Int32)) (ty := .byte) rfl (hw _ (List.mem_of_getElem? (i := 1) rfl)) (hb hby at_123) (k := 2) (cap := 2) (by decide) rfl (by decide) (by decide) (by decide) (by decide) (ad := "[B") (by decide) #[.val (.int p0), .val (.int p1), .val (.int p2), .val (.int (0 : Int32)), .val (.ref b7), .unset, .unset, .unset] []
    have ne12 : b7 ≠ b11 := Nat.ne_of_lt (g11 ▸ A7.lt)
    have ge13 : n0 ≤ b11 := g11 ▸ Z9
    have f14 := Exa.ext E11 A7
    have f15 := f10.ext E11
    have Z16 : n0 ≤ h11.size := Nat.le_trans Z9 E11.1
    have f17 : Va Z h11 b11 .byte [(.int (0 : Int32)), (.int (0 : Int32))] := V11
    refine Go.movp st11 (mkF m 125 #[.val (.int p0), .val (.int p1), .val (.int p2), .val (.int (0 : Int32)), .val (.ref b7), .unset, .unset, .unset] [(.ref b11)]) rfl ?_
    refine g_dup X11 hx (hb hby at_125) (pc' := 126) rfl rfl ?_
    refine g_iconst X11 hx (hb hby at_126) (pc' := 127) rfl (z := (0 : Int32)) rfl ?_
    refine g_bipush X11 hx (hb hby at_127) (pc' := 129) rfl (z := (50 : Int32)) rfl ?_
    obtain ⟨T18, h18, L18, X18, e18, N18, W18, V18, st18⟩ := h_bastore X11 hx hZ e11 N0 f17 ge13 (j := (0 : Int32)) (i := 0) (x := (50 : Int32)) (hb hby at_129) (by decide) rfl rfl #[.val (.int p0), .val (.int p1), .val (.int p2), .val (.int (0 : Int32)), .val (.ref b7), .unset, .unset, .unset] [(.ref b11)]
    have f19 := Exa.wr W18 f14
    have f20 := f15.other W18 ne12
    have f21 := Exa.wr W18 A11
    have Z22 : n0 ≤ h18.size := Nat.le_trans Z16 (Keep.of_wr W18).1
    have f23 : Va Z h18 b11 .byte [(.int (byt (50 : Int32))), (.int (0 : Int32))] := V18
    refine Go.movp st18 (mkF m 130 #[.val (.int p0), .val (.int p1), .val (.int p2), .val (.int (0 : Int32)), .val (.ref b7), .unset, .unset, .unset] [(.ref b11)]) rfl ?_
    refine g_dup X18 hx (hb hby at_130) (pc' := 131) rfl rfl ?_
    refine g_iconst X18 hx (hb hby at_131) (pc' := 132) rfl (z := (1 : Int32)) rfl ?_
    refine g_bipush X18 hx (hb hby at_132) (pc' := 134) rfl (z := (49 : Int32)) rfl ?_
    obtain ⟨T24, h24, L24, X24, e24, N24, W24, V24, st24⟩ := h_bastore X18 hx hZ e18 N18 f23 ge13 (j := (1 : Int32)) (i := 1) (x := (49 : Int32)) (hb hby at_134) (by decide) rfl rfl #[.val (.int p0), .val (.int p1), .val (.int p2), .val (.int (0 : Int32)), .val (.ref b7), .unset, .unset, .unset] [(.ref b11)]
    have f25 := Exa.wr W24 f19
    have f26 := f20.other W24 ne12
    have f27 := Exa.wr W24 f21
    have Z28 : n0 ≤ h24.size := Nat.le_trans Z22 (Keep.of_wr W24).1
    have f29 : Va Z h24 b11 .byte [(.int (byt (50 : Int32))), (.int (byt (49 : Int32)))] := V24
    refine Go.movp st24 (mkF m 135 #[.val (.int p0), .val (.int p1), .val (.int p2), .val (.int (0 : Int32)), .val (.ref b7), .unset, .unset, .unset] [(.ref b11)]) rfl ?_
    refine g_astore X24 hx (hb hby at_135) (pc' := 137) rfl rfl (Ls' := #[.val (.int p0), .val (.int p1), .val (.int p2), .val (.int (0 : Int32)), .val (.ref b7), .val (.ref b11), .unset, .unset]) rfl ?_
    refine g_aload X24 hx (hb hby at_137) (pc' := 139) rfl rfl rfl ?_
    obtain ⟨v30, T30, h30, L30, X30, e30, N30, q30, st30⟩ := h_static X24 hx (W := 0) (Ls := #[.val (.int p0), .val (.int p1), .val (.int p2), .val (.int (0 : Int32)), .val (.ref b7), .val (.ref b11), .unset, .unset]) (argsL := [(.ref b7)]) (rest := []) hZ e24 N24 hml hown (rm1_0 l Z a0 hw b7  h24 n0 Z28 f26) (hw _ (List.mem_of_getElem? (i := 2) rfl)) (hw _ (List.mem_of_getElem? (i := 3) rfl)) (hw _ (List.mem_of_getElem? (i := 4) rfl)) (hw _ (List.mem_of_getElem? (i := 5) rfl)) (by decide) pd___B_I rfl rfl (hb hby at_139) rfl (by decide) (by decide) (by decide) (by decide)
    obtain ⟨rfl, rfl⟩ := q30
    refine Go.movp st30 (mkF m 142 #[.val (.int p0), .val (.int p1), .val (.int p2), .val (.int (0 : Int32)), .val (.ref b7), .val (.ref b11), .unset, .unset] [(.int (fin2 ((fin1 (-1756908916 : Int32)) * (1540483477 : Int32))))]) rfl ?_
    refine g_istore X30 hx (hb hby at_142) (pc' := 144) rfl (Ls' := #[.val (.int p0), .val (.int p1), .val (.int p2), .val (.int (0 : Int32)), .val (.ref b7), .val (.ref b11), .val (.int (fin2 ((fin1 (-1756908916 : Int32)) * (1540483477 : Int32)))), .unset]) rfl ?_
    refine g_aload X30 hx (hb hby at_144) (pc' := 146) rfl rfl rfl ?_
    obtain ⟨v31, T31, h31, L31, X31, e31, N31, q31, st31⟩ := h_static X30 hx (W := 0) (Ls := #[.val (.int p0), .val (.int p1), .val (.int p2), .val (.int (0 : Int32)), .val (.ref b7), .val (.ref b11), .val (.int (fin2 ((fin1 (-1756908916 : Int32)) * (1540483477 : Int32)))), .unset]) (argsL := [(.ref b11)]) (rest := []) hZ e30 N30 hml hown (rm1_2 l Z a0 hw b11 (byt (50 : Int32)) (byt (49 : Int32)) h24 n0 Z28 f29) (hw _ (List.mem_of_getElem? (i := 2) rfl)) (hw _ (List.mem_of_getElem? (i := 3) rfl)) (hw _ (List.mem_of_getElem? (i := 4) rfl)) (hw _ (List.mem_of_getElem? (i := 5) rfl)) (by decide) pd___B_I rfl rfl (hb hby at_146) rfl (by decide) (by decide) (by decide) (by decide)
    obtain ⟨rfl, rfl⟩ := q31
    refine Go.movp st31 (mkF m 149 #[.val (.int p0), .val (.int p1), .val (.int p2), .val (.int (0 : Int32)), .val (.ref b7), .val (.ref b11), .val (.int (fin2 ((fin1 (-1756908916 : Int32)) * (1540483477 : Int32)))), .unset] [(.int (fin2 ((fin1 ((((-1756908914 : Int32) ^^^ (shl ((byt (50 : Int32)) &&& (255 : Int32)) (0 : Int32))) ^^^ (shl ((byt (49 : Int32)) &&& (255 : Int32)) (8 : Int32))) * (1540483477 : Int32))) * (1540483477 : Int32))))]) rfl ?_
    refine g_istore X31 hx (hb hby at_149) (pc' := 151) rfl (Ls' := #[.val (.int p0), .val (.int p1), .val (.int p2), .val (.int (0 : Int32)), .val (.ref b7), .val (.ref b11), .val (.int (fin2 ((fin1 (-1756908916 : Int32)) * (1540483477 : Int32)))), .val (.int (fin2 ((fin1 ((((-1756908914 : Int32) ^^^ (shl ((byt (50 : Int32)) &&& (255 : Int32)) (0 : Int32))) ^^^ (shl ((byt (49 : Int32)) &&& (255 : Int32)) (8 : Int32))) * (1540483477 : Int32))) * (1540483477 : Int32))))]) rfl ?_
    refine g_iload X31 hx (hb hby at_151) (pc' := 153) rfl rfl ?_
    refine g_ldc X31 hx hZ hown (hw _ (List.mem_of_getElem? (i := 8) rfl)) (hb hby at_153) (pc' := 155) rfl ?_
    refine g_icmp_ne X31 hx (hb hby at_155) (pc1 := 158) rfl (by decide) (pc2 := 173) (by decide) (fun hc155 => absurd (by decide +kernel) hc155) (fun hc155 => ?_)
    refine g_iload X31 hx (hb hby at_158) (pc' := 160) rfl rfl ?_
    refine g_iloadN X31 hx (hb hby at_160) (pc' := 161) rfl rfl ?_
    refine g_iloadN X31 hx (hb hby at_161) (pc' := 162) rfl rfl ?_
    refine g_iloadN X31 hx (hb hby at_162) (pc' := 163) rfl rfl ?_
    obtain ⟨v32, T32, h32, L32, X32, e32, N32, q32, st32⟩ := h_static X31 hx (W := 1) (Ls := #[.val (.int p0), .val (.int p1), .val (.int p2), .val (.int (0 : Int32)), .val (.ref b7), .val (.ref b11), .val (.int (fin2 ((fin1 (-1756908916 : Int32)) * (1540483477 : Int32)))), .val (.int (fin2 ((fin1 ((((-1756908914 : Int32) ^^^ (shl ((byt (50 : Int32)) &&& (255 : Int32)) (0 : Int32))) ^^^ (shl ((byt (49 : Int32)) &&& (255 : Int32)) (8 : Int32))) * (1540483477 : Int32))) * (1540483477 : Int32))))]) (argsL := [(.int p0), (.int p1), (.int (0 : Int32))]) (rest := [(.int (fin2 ((fin1 (-1756908916 : Int32)) * (1540483477 : Int32))))]) hZ e31 N31 hml hown (rm2_0 l Z a0 hw p0 p1 h24 n0 Z28) (hw _ (List.mem_of_getElem? (i := 9) rfl)) (hw _ (List.mem_of_getElem? (i := 10) rfl)) (hw _ (List.mem_of_getElem? (i := 11) rfl)) (hw _ (List.mem_of_getElem? (i := 12) rfl)) (by decide) pd__III_I rfl rfl (hb hby at_163) rfl (by decide) (by decide) (by decide) (by decide)
    obtain ⟨rfl, rfl⟩ := q32
    refine Go.movp st32 (mkF m 166 #[.val (.int p0), .val (.int p1), .val (.int p2), .val (.int (0 : Int32)), .val (.ref b7), .val (.ref b11), .val (.int (fin2 ((fin1 (-1756908916 : Int32)) * (1540483477 : Int32)))), .val (.int (fin2 ((fin1 ((((-1756908914 : Int32) ^^^ (shl ((byt (50 : Int32)) &&& (255 : Int32)) (0 : Int32))) ^^^ (shl ((byt (49 : Int32)) &&& (255 : Int32)) (8 : Int32))) * (1540483477 : Int32))) * (1540483477 : Int32))))] [(.int (fin2 ((fin1 (-1756908916 : Int32)) * (1540483477 : Int32)))), (.int (fin2 ((fin1 (-1756908916 : Int32)) * (1540483477 : Int32))))]) rfl ?_
    refine g_icmp_ne X32 hx (hb hby at_166) (pc1 := 169) rfl (by decide) (pc2 := 173) (by decide) (fun hc166 => absurd rfl hc166) (fun hc166 => ?_)
    refine g_iconst X32 hx (hb hby at_169) (pc' := 170) rfl (z := (1 : Int32)) rfl ?_
    refine g_goto X32 hx (hb hby at_170) (by decide) (pc' := 174) (by decide) ?_
    exact g_zreturn X32 hx rfl hret (hb hby at_174) N32 hlk (fun v t => endF (by decide) (by decide) v) (by rw [e32]; exact rfl)
  · skip
    refine Go.cast (show (mkF m 7 #[.val (.int p0), .val (.int p1), .val (.int p2), .unset, .unset, .unset, .unset, .unset] [(.int ((p2 &&& (2147483647 : Int32)) % (9 : Int32)))]) = (mkF m 7 #[.val (.int p0), .val (.int p1), .val (.int p2), .unset, .unset, .unset, .unset, .unset] [(.int (1 : Int32))]) from by rw [show ((p2 &&& (2147483647 : Int32)) % (9 : Int32)) = (1 : Int32) from ql]) ?_
    refine g_istoreN X0 hx (hb hby at_7) (pc' := 8) rfl (Ls' := #[.val (.int p0), .val (.int p1), .val (.int p2), .val (.int (1 : Int32)), .unset, .unset, .unset, .unset]) rfl ?_
    refine g_iloadN X0 hx (hb hby at_8) (pc' := 9) rfl rfl ?_
    obtain ⟨T33, h33, b33, X33, e33, g33, E33, V33, A33, st33⟩ := h_newarray X0 hx hZ e0 (n := (1 : Int32)) (ty := .byte) rfl (hw _ (List.mem_of_getElem? (i := 1) rfl)) (hb hby at_9) (k := 1) (cap := 1) (by decide) rfl (by decide) (by decide) (by decide) (by decide) (ad := "[B") (by decide) #[.val (.int p0), .val (.int p1), .val (.int p2), .val (.int (1 : Int32)), .unset, .unset, .unset, .unset] []
    have ge34 : n0 ≤ b33 := g33 ▸ Z0
    have Z35 : n0 ≤ h33.size := Nat.le_trans Z0 E33.1
    have f36 : Va Z h33 b33 .byte [(.int (0 : Int32))] := V33
    refine Go.movp st33 (mkF m 11 #[.val (.int p0), .val (.int p1), .val (.int p2), .val (.int (1 : Int32)), .unset, .unset, .unset, .unset] [(.ref b33)]) rfl ?_
    refine g_astore X33 hx (hb hby at_11) (pc' := 13) rfl rfl (Ls' := #[.val (.int p0), .val (.int p1), .val (.int p2), .val (.int (1 : Int32)), .val (.ref b33), .unset, .unset, .unset]) rfl ?_
    refine g_iloadN X33 hx (hb hby at_13) (pc' := 14) rfl rfl ?_
    refine g_if_le X33 hx (hb hby at_14) (pc1 := 17) rfl (by decide) (pc2 := 23) (by decide) (fun hc14 => absurd (by decide) hc14) (fun hc14 => ?_)
    refine g_aload X33 hx (hb hby at_17) (pc' := 19) rfl rfl rfl ?_
    refine g_iconst X33 hx (hb hby at_19) (pc' := 20) rfl (z := (0 : Int32)) rfl ?_
    refine g_iloadN X33 hx (hb hby at_20) (pc' := 21) rfl rfl ?_
    refine g_i2b X33 hx (hb hby at_21) (pc' := 22) rfl ?_
    obtain ⟨T37, h37, L37, X37, e37, N37, W37, V37, st37⟩ := h_bastore X33 hx hZ e33 N0 f36 ge34 (j := (0 : Int32)) (i := 0) (x := (byt p0)) (hb hby at_22) (by decide) rfl rfl #[.val (.int p0), .val (.int p1), .val (.int p2), .val (.int (1 : Int32)), .val (.ref b33), .unset, .unset, .unset] []
    have f38 := Exa.wr W37 A33
    have Z39 : n0 ≤ h37.size := Nat.le_trans Z35 (Keep.of_wr W37).1
    have f40 : Va Z h37 b33 .byte [(.int (byt (byt p0)))] := V37
    refine Go.movp st37 (mkF m 23 #[.val (.int p0), .val (.int p1), .val (.int p2), .val (.int (1 : Int32)), .val (.ref b33), .unset, .unset, .unset] []) rfl ?_
    refine g_iloadN X37 hx (hb hby at_23) (pc' := 24) rfl rfl ?_
    refine g_iconst X37 hx (hb hby at_24) (pc' := 25) rfl (z := (1 : Int32)) rfl ?_
    refine g_icmp_le X37 hx (hb hby at_25) (pc1 := 28) rfl (by decide) (pc2 := 37) (by decide) (fun hc25 => ?_) (fun hc25 => absurd hc25 (by decide))
    refine g_iloadN X37 hx (hb hby at_37) (pc' := 38) rfl rfl ?_
    refine g_iconst X37 hx (hb hby at_38) (pc' := 39) rfl (z := (2 : Int32)) rfl ?_
    refine g_icmp_le X37 hx (hb hby at_39) (pc1 := 42) rfl (by decide) (pc2 := 51) (by decide) (fun hc39 => ?_) (fun hc39 => absurd hc39 (by decide))
    refine g_iloadN X37 hx (hb hby at_51) (pc' := 52) rfl rfl ?_
    refine g_iconst X37 hx (hb hby at_52) (pc' := 53) rfl (z := (3 : Int32)) rfl ?_
    refine g_icmp_le X37 hx (hb hby at_53) (pc1 := 56) rfl (by decide) (pc2 := 65) (by decide) (fun hc53 => ?_) (fun hc53 => absurd hc53 (by decide))
    refine g_iloadN X37 hx (hb hby at_65) (pc' := 66) rfl rfl ?_
    refine g_iconst X37 hx (hb hby at_66) (pc' := 67) rfl (z := (4 : Int32)) rfl ?_
    refine g_icmp_le X37 hx (hb hby at_67) (pc1 := 70) rfl (by decide) (pc2 := 76) (by decide) (fun hc67 => ?_) (fun hc67 => absurd hc67 (by decide))
    refine g_iloadN X37 hx (hb hby at_76) (pc' := 77) rfl rfl ?_
    refine g_iconst X37 hx (hb hby at_77) (pc' := 78) rfl (z := (5 : Int32)) rfl ?_
    refine g_icmp_le X37 hx (hb hby at_78) (pc1 := 81) rfl (by decide) (pc2 := 90) (by decide) (fun hc78 => ?_) (fun hc78 => absurd hc78 (by decide))
    refine g_iloadN X37 hx (hb hby at_90) (pc' := 91) rfl rfl ?_
    refine g_bipush X37 hx (hb hby at_91) (pc' := 93) rfl (z := (6 : Int32)) rfl ?_
    refine g_icmp_le X37 hx (hb hby at_93) (pc1 := 96) rfl (by decide) (pc2 := 106) (by decide) (fun hc93 => ?_) (fun hc93 => absurd hc93 (by decide))
    refine g_iloadN X37 hx (hb hby at_106) (pc' := 107) rfl rfl ?_
    refine g_bipush X37 hx (hb hby at_107) (pc' := 109) rfl (z := (7 : Int32)) rfl ?_
    refine g_icmp_le X37 hx (hb hby at_109) (pc1 := 112) rfl (by decide) (pc2 := 122) (by decide) (fun hc109 => ?_) (fun hc109 => absurd hc109 (by decide))
    refine g_iconst X37 hx (hb hby at_122) (pc' := 123) rfl (z := (2 : Int32)) rfl ?_
    obtain ⟨T41, h41, b41, X41, e41, g41, E41, V41, A41, st41⟩ := h_newarray X37 hx hZ e37 (n := (2 : Int32)) (ty := .byte) rfl (hw _ (List.mem_of_getElem? (i := 1) rfl)) (hb hby at_123) (k := 2) (cap := 2) (by decide) rfl (by decide) (by decide) (by decide) (by decide) (ad := "[B") (by decide) #[.val (.int p0), .val (.int p1), .val (.int p2), .val (.int (1 : Int32)), .val (.ref b33), .unset, .unset, .unset] []
    have ne42 : b33 ≠ b41 := Nat.ne_of_lt (g41 ▸ f38.lt)
    have ge43 : n0 ≤ b41 := g41 ▸ Z39
    have f44 := Exa.ext E41 f38
    have f45 := f40.ext E41
    have Z46 : n0 ≤ h41.size := Nat.le_trans Z39 E41.1
    have f47 : Va Z h41 b41 .byte [(.int (0 : Int32)), (.int (0 : Int32))] := V41
    refine Go.movp st41 (mkF m 125 #[.val (.int p0), .val (.int p1), .val (.int p2), .val (.int (1 : Int32)), .val (.ref b33), .unset, .unset, .unset] [(.ref b41)]) rfl ?_
    refine g_dup X41 hx (hb hby at_125) (pc' := 126) rfl rfl ?_
    refine g_iconst X41 hx (hb hby at_126) (pc' := 127) rfl (z := (0 : Int32)) rfl ?_
    refine g_bipush X41 hx (hb hby at_127) (pc' := 129) rfl (z := (50 : Int32)) rfl ?_
    obtain ⟨T48, h48, L48, X48, e48, N48, W48, V48, st48⟩ := h_bastore X41 hx hZ e41 N37 f47 ge43 (j := (0 : Int32)) (i := 0) (x := (50 : Int32)) (hb hby at_129) (by decide) rfl rfl #[.val (.int p0), .val (.int p1), .val (.int p2), .val (.int (1 : Int32)), .val (.ref b33), .unset, .unset, .unset] [(.ref b41)]
    have f49 := Exa.wr W48 f44
    have f50 := f45.other W48 ne42
    have f51 := Exa.wr W48 A41
    have Z52 : n0 ≤ h48.size := Nat.le_trans Z46 (Keep.of_wr W48).1
    have f53 : Va Z h48 b41 .byte [(.int (byt (50 : Int32))), (.int (0 : Int32))] := V48
    refine Go.movp st48 (mkF m 130 #[.val (.int p0), .val (.int p1), .val (.int p2), .val (.int (1 : Int32)), .val (.ref b33), .unset, .unset, .unset] [(.ref b41)]) rfl ?_
    refine g_dup X48 hx (hb hby at_130) (pc' := 131) rfl rfl ?_
    refine g_iconst X48 hx (hb hby at_131) (pc' := 132) rfl (z := (1 : Int32)) rfl ?_
    refine g_bipush X48 hx (hb hby at_132) (pc' := 134) rfl (z := (49 : Int32)) rfl ?_
    obtain ⟨T54, h54, L54, X54, e54, N54, W54, V54, st54⟩ := h_bastore X48 hx hZ e48 N48 f53 ge43 (j := (1 : Int32)) (i := 1) (x := (49 : Int32)) (hb hby at_134) (by decide) rfl rfl #[.val (.int p0), .val (.int p1), .val (.int p2), .val (.int (1 : Int32)), .val (.ref b33), .unset, .unset, .unset] [(.ref b41)]
    have f55 := Exa.wr W54 f49
    have f56 := f50.other W54 ne42
    have f57 := Exa.wr W54 f51
    have Z58 : n0 ≤ h54.size := Nat.le_trans Z52 (Keep.of_wr W54).1
    have f59 : Va Z h54 b41 .byte [(.int (byt (50 : Int32))), (.int (byt (49 : Int32)))] := V54
    refine Go.movp st54 (mkF m 135 #[.val (.int p0), .val (.int p1), .val (.int p2), .val (.int (1 : Int32)), .val (.ref b33), .unset, .unset, .unset] [(.ref b41)]) rfl ?_
    refine g_astore X54 hx (hb hby at_135) (pc' := 137) rfl rfl (Ls' := #[.val (.int p0), .val (.int p1), .val (.int p2), .val (.int (1 : Int32)), .val (.ref b33), .val (.ref b41), .unset, .unset]) rfl ?_
    refine g_aload X54 hx (hb hby at_137) (pc' := 139) rfl rfl rfl ?_
    obtain ⟨v60, T60, h60, L60, X60, e60, N60, q60, st60⟩ := h_static X54 hx (W := 0) (Ls := #[.val (.int p0), .val (.int p1), .val (.int p2), .val (.int (1 : Int32)), .val (.ref b33), .val (.ref b41), .unset, .unset]) (argsL := [(.ref b33)]) (rest := []) hZ e54 N54 hml hown (rm1_1 l Z a0 hw b33 (byt (byt p0)) h54 n0 Z58 f56) (hw _ (List.mem_of_getElem? (i := 2) rfl)) (hw _ (List.mem_of_getElem? (i := 3) rfl)) (hw _ (List.mem_of_getElem? (i := 4) rfl)) (hw _ (List.mem_of_getElem? (i := 5) rfl)) (by decide) pd___B_I rfl rfl (hb hby at_139) rfl (by decide) (by decide) (by decide) (by decide)
    obtain ⟨rfl, rfl⟩ := q60
    refine Go.movp st60 (mkF m 142 #[.val (.int p0), .val (.int p1), .val (.int p2), .val (.int (1 : Int32)), .val (.ref b33), .val (.ref b41), .unset, .unset] [(.int (fin2 ((fin1 (((-1756908915 : Int32) ^^^ (shl ((byt (byt p0)) &&& (255 : Int32)) (0 : Int32))) * (1540483477 : Int32))) * (1540483477 : Int32))))]) rfl ?_
    refine g_istore X60 hx (hb hby at_142) (pc' := 144) rfl (Ls' := #[.val (.int p0), .val (.int p1), .val (.int p2), .val (.int (1 : Int32)), .val (.ref b33), .val (.ref b41), .val (.int (fin2 ((fin1 (((-1756908915 : Int32) ^^^ (shl ((byt (byt p0)) &&& (255 : Int32)) (0 : Int32))) * (1540483477 : Int32))) * (1540483477 : Int32)))), .unset]) rfl ?_
    refine g_aload X60 hx (hb hby at_144) (pc' := 146) rfl rfl rfl ?_
    obtain ⟨v61, T61, h61, L61, X61, e61, N61, q61, st61⟩ := h_static X60 hx (W := 0) (Ls := #[.val (.int p0), .val (.int p1), .val (.int p2), .val (.int (1 : Int32)), .val (.ref b33), .val (.ref b41), .val (.int (fin2 ((fin1 (((-1756908915 : Int32) ^^^ (shl ((byt (byt p0)) &&& (255 : Int32)) (0 : Int32))) * (1540483477 : Int32))) * (1540483477 : Int32)))), .unset]) (argsL := [(.ref b41)]) (rest := []) hZ e60 N60 hml hown (rm1_2 l Z a0 hw b41 (byt (50 : Int32)) (byt (49 : Int32)) h54 n0 Z58 f59) (hw _ (List.mem_of_getElem? (i := 2) rfl)) (hw _ (List.mem_of_getElem? (i := 3) rfl)) (hw _ (List.mem_of_getElem? (i := 4) rfl)) (hw _ (List.mem_of_getElem? (i := 5) rfl)) (by decide) pd___B_I rfl rfl (hb hby at_146) rfl (by decide) (by decide) (by decide) (by decide)
    obtain ⟨rfl, rfl⟩ := q61
    refine Go.movp st61 (mkF m 149 #[.val (.int p0), .val (.int p1), .val (.int p2), .val (.int (1 : Int32)), .val (.ref b33), .val (.ref b41), .val (.int (fin2 ((fin1 (((-1756908915 : Int32) ^^^ (shl ((byt (byt p0)) &&& (255 : Int32)) (0 : Int32))) * (1540483477 : Int32))) * (1540483477 : Int32)))), .unset] [(.int (fin2 ((fin1 ((((-1756908914 : Int32) ^^^ (shl ((byt (50 : Int32)) &&& (255 : Int32)) (0 : Int32))) ^^^ (shl ((byt (49 : Int32)) &&& (255 : Int32)) (8 : Int32))) * (1540483477 : Int32))) * (1540483477 : Int32))))]) rfl ?_
    refine g_istore X61 hx (hb hby at_149) (pc' := 151) rfl (Ls' := #[.val (.int p0), .val (.int p1), .val (.int p2), .val (.int (1 : Int32)), .val (.ref b33), .val (.ref b41), .val (.int (fin2 ((fin1 (((-1756908915 : Int32) ^^^ (shl ((byt (byt p0)) &&& (255 : Int32)) (0 : Int32))) * (1540483477 : Int32))) * (1540483477 : Int32)))), .val (.int (fin2 ((fin1 ((((-1756908914 : Int32) ^^^ (shl ((byt (50 : Int32)) &&& (255 : Int32)) (0 : Int32))) ^^^ (shl ((byt (49 : Int32)) &&& (255 : Int32)) (8 : Int32))) * (1540483477 : Int32))) * (1540483477 : Int32))))]) rfl ?_
    refine g_iload X61 hx (hb hby at_151) (pc' := 153) rfl rfl ?_
    refine g_ldc X61 hx hZ hown (hw _ (List.mem_of_getElem? (i := 8) rfl)) (hb hby at_153) (pc' := 155) rfl ?_
    refine g_icmp_ne X61 hx (hb hby at_155) (pc1 := 158) rfl (by decide) (pc2 := 173) (by decide) (fun hc155 => absurd (by decide +kernel) hc155) (fun hc155 => ?_)
    refine g_iload X61 hx (hb hby at_158) (pc' := 160) rfl rfl ?_
    refine g_iloadN X61 hx (hb hby at_160) (pc' := 161) rfl rfl ?_
    refine g_iloadN X61 hx (hb hby at_161) (pc' := 162) rfl rfl ?_
    refine g_iloadN X61 hx (hb hby at_162) (pc' := 163) rfl rfl ?_
    obtain ⟨v62, T62, h62, L62, X62, e62, N62, q62, st62⟩ := h_static X61 hx (W := 1) (Ls := #[.val (.int p0), .val (.int p1), .val (.int p2), .val (.int (1 : Int32)), .val (.ref b33), .val (.ref b41), .val (.int (fin2 ((fin1 (((-1756908915 : Int32) ^^^ (shl ((byt (byt p0)) &&& (255 : Int32)) (0 : Int32))) * (1540483477 : Int32))) * (1540483477 : Int32)))), .val (.int (fin2 ((fin1 ((((-1756908914 : Int32) ^^^ (shl ((byt (50 : Int32)) &&& (255 : Int32)) (0 : Int32))) ^^^ (shl ((byt (49 : Int32)) &&& (255 : Int32)) (8 : Int32))) * (1540483477 : Int32))) * (1540483477 : Int32))))]) (argsL := [(.int p0), (.int p1), (.int (1 : Int32))]) (rest := [(.int (fin2 ((fin1 (((-1756908915 : Int32) ^^^ (shl ((byt (byt p0)) &&& (255 : Int32)) (0 : Int32))) * (1540483477 : Int32))) * (1540483477 : Int32))))]) hZ e61 N61 hml hown (rm2_1 l Z a0 hw p0 p1 h54 n0 Z58) (hw _ (List.mem_of_getElem? (i := 9) rfl)) (hw _ (List.mem_of_getElem? (i := 10) rfl)) (hw _ (List.mem_of_getElem? (i := 11) rfl)) (hw _ (List.mem_of_getElem? (i := 12) rfl)) (by decide) pd__III_I rfl rfl (hb hby at_163) rfl (by decide) (by decide) (by decide) (by decide)
    obtain ⟨rfl, rfl⟩ := q62
    refine Go.movp st62 (mkF m 166 #[.val (.int p0), .val (.int p1), .val (.int p2), .val (.int (1 : Int32)), .val (.ref b33), .val (.ref b41), .val (.int (fin2 ((fin1 (((-1756908915 : Int32) ^^^ (shl ((byt (byt p0)) &&& (255 : Int32)) (0 : Int32))) * (1540483477 : Int32))) * (1540483477 : Int32)))), .val (.int (fin2 ((fin1 ((((-1756908914 : Int32) ^^^ (shl ((byt (50 : Int32)) &&& (255 : Int32)) (0 : Int32))) ^^^ (shl ((byt (49 : Int32)) &&& (255 : Int32)) (8 : Int32))) * (1540483477 : Int32))) * (1540483477 : Int32))))] [(.int (fin2 ((fin1 (((-1756908915 : Int32) ^^^ (p0 &&& (255 : Int32))) * (1540483477 : Int32))) * (1540483477 : Int32)))), (.int (fin2 ((fin1 (((-1756908915 : Int32) ^^^ (shl ((byt (byt p0)) &&& (255 : Int32)) (0 : Int32))) * (1540483477 : Int32))) * (1540483477 : Int32))))]) rfl ?_
    refine g_icmp_ne X62 hx (hb hby at_166) (pc1 := 169) rfl (by decide) (pc2 := 173) (by decide) (fun hc166 => absurd (by rw [own_1]) hc166) (fun hc166 => ?_)
    refine g_iconst X62 hx (hb hby at_169) (pc' := 170) rfl (z := (1 : Int32)) rfl ?_
    refine g_goto X62 hx (hb hby at_170) (by decide) (pc' := 174) (by decide) ?_
    exact g_zreturn X62 hx rfl hret (hb hby at_174) N62 hlk (fun v t => endF (by decide) (by decide) v) (by rw [e62]; exact rfl)
  · skip
    refine Go.cast (show (mkF m 7 #[.val (.int p0), .val (.int p1), .val (.int p2), .unset, .unset, .unset, .unset, .unset] [(.int ((p2 &&& (2147483647 : Int32)) % (9 : Int32)))]) = (mkF m 7 #[.val (.int p0), .val (.int p1), .val (.int p2), .unset, .unset, .unset, .unset, .unset] [(.int (2 : Int32))]) from by rw [show ((p2 &&& (2147483647 : Int32)) % (9 : Int32)) = (2 : Int32) from ql]) ?_
    refine g_istoreN X0 hx (hb hby at_7) (pc' := 8) rfl (Ls' := #[.val (.int p0), .val (.int p1), .val (.int p2), .val (.int (2 : Int32)), .unset, .unset, .unset, .unset]) rfl ?_
    refine g_iloadN X0 hx (hb hby at_8) (pc' := 9) rfl rfl ?_
    obtain ⟨T63, h63, b63, X63, e63, g63, E63, V63, A63, st63⟩ := h_newarray X0 hx hZ e0 (n := (2 : Int32)) (ty := .byte) rfl (hw _ (List.mem_of_getElem? (i := 1) rfl)) (hb hby at_9) (k := 2) (cap := 2) (by decide) rfl (by decide) (by decide) (by decide) (by decide) (ad := "[B") (by decide) #[.val (.int p0), .val (.int p1), .val (.int p2), .val (.int (2 : Int32)), .unset, .unset, .unset, .unset] []
    have ge64 : n0 ≤ b63 := g63 ▸ Z0
    have Z65 : n0 ≤ h63.size := Nat.le_trans Z0 E63.1
    have f66 : Va Z h63 b63 .byte [(.int (0 : Int32)), (.int (0 : Int32))] := V63
    refine Go.movp st63 (mkF m 11 #[.val (.int p0), .val (.int p1), .val (.int p2), .val (.int (2 : Int32)), .unset, .unset, .unset, .unset] [(.ref b63)]) rfl ?_
    refine g_astore X63 hx (hb hby at_11) (pc' := 13) rfl rfl (Ls' := #[.val (.int p0), .val (.int p1), .val (.int p2), .val (.int (2 : Int32)), .val (.ref b63), .unset, .unset, .unset]) rfl ?_
    refine g_iloadN X63 hx (hb hby at_13) (pc' := 14) rfl rfl ?_
    refine g_if_le X63 hx (hb hby at_14) (pc1 := 17) rfl (by decide) (pc2 := 23) (by decide) (fun hc14 => absurd (by decide) hc14) (fun hc14 => ?_)
    refine g_aload X63 hx (hb hby at_17) (pc' := 19) rfl rfl rfl ?_
    refine g_iconst X63 hx (hb hby at_19) (pc' := 20) rfl (z := (0 : Int32)) rfl ?_
    refine g_iloadN X63 hx (hb hby at_20) (pc' := 21) rfl rfl ?_
    refine g_i2b X63 hx (hb hby at_21) (pc' := 22) rfl ?_
    obtain ⟨T67, h67, L67, X67, e67, N67, W67, V67, st67⟩ := h_bastore X63 hx hZ e63 N0 f66 ge64 (j := (0 : Int32)) (i := 0) (x := (byt p0)) (hb hby at_22) (by decide) rfl rfl #[.val (.int p0), .val (.int p1), .val (.int p2), .val (.int (2 : Int32)), .val (.ref b63), .unset, .unset, .unset] []
    have f68 := Exa.wr W67 A63
    have Z69 : n0 ≤ h67.size := Nat.le_trans Z65 (Keep.of_wr W67).1
    have f70 : Va Z h67 b63 .byte [(.int (byt (byt p0))), (.int (0 : Int32))] := V67
    refine Go.movp st67 (mkF m 23 #[.val (.int p0), .val (.int p1), .val (.int p2), .val (.int (2 : Int32)), .val (.ref b63), .unset, .unset, .unset] []) rfl ?_
    refine g_iloadN X67 hx (hb hby at_23) (pc' := 24) rfl rfl ?_
    refine g_iconst X67 hx (hb hby at_24) (pc' := 25) rfl (z := (1 : Int32)) rfl ?_
    refine g_icmp_le X67 hx (hb hby at_25) (pc1 := 28) rfl (by decide) (pc2 := 37) (by decide) (fun hc25 => absurd (by decide) hc25) (fun hc25 => ?_)
    refine g_aload X67 hx (hb hby at_28) (pc' := 30) rfl rfl rfl ?_
    refine g_iconst X67 hx (hb hby at_30) (pc' := 31) rfl (z := (1 : Int32)) rfl ?_
    refine g_iloadN X67 hx (hb hby at_31) (pc' := 32) rfl rfl ?_
    refine g_bipush X67 hx (hb hby at_32) (pc' := 34) rfl (z := (8 : Int32)) rfl ?_
    refine g_iushr X67 hx (hb hby at_34) (pc' := 35) rfl ?_
    refine g_i2b X67 hx (hb hby at_35) (pc' := 36) rfl ?_
    obtain ⟨T71, h71, L71, X71, e71, N71, W71, V71, st71⟩ := h_bastore X67 hx hZ e67 N67 f70 ge64 (j := (1 : Int32)) (i := 1) (x := (byt (ushr p0 (8 : Int32)))) (hb hby at_36) (by decide) rfl rfl #[.val (.int p0), .val (.int p1), .val (.int p2), .val (.int (2 : Int32)), .val (.ref b63), .unset, .unset, .unset] []
    have f72 := Exa.wr W71 f68
    have Z73 : n0 ≤ h71.size := Nat.le_trans Z69 (Keep.of_wr W71).1
    have f74 : Va Z h71 b63 .byte [(.int (byt (byt p0))), (.int (byt (byt (ushr p0 (8 : Int32)))))] := V71
    refine Go.movp st71 (mkF m 37 #[.val (.int p0), .val (.int p1), .val (.int p2), .val (.int (2 : Int32)), .val (.ref b63), .unset, .unset, .unset] []) rfl ?_
    refine g_iloadN X71 hx (hb hby at_37) (pc' := 38) rfl rfl ?_
    refine g_iconst X71 hx (hb hby at_38) (pc' := 39) rfl (z := (2 : Int32)) rfl ?_
    refine g_icmp_le X71 hx (hb hby at_39) (pc1 := 42) rfl (by decide) (pc2 := 51) (by decide) (fun hc39 => ?_) (fun hc39 => absurd hc39 (by decide))
    refine g_iloadN X71 hx (hb hby at_51) (pc' := 52) rfl rfl ?_
    refine g_iconst X71 hx (hb hby at_52) (pc' := 53) rfl (z := (3 : Int32)) rfl ?_
    refine g_icmp_le X71 hx (hb hby at_53) (pc1 := 56) rfl (by decide) (pc2 := 65) (by decide) (fun hc53 => ?_) (fun hc53 => absurd hc53 (by decide))
    refine g_iloadN X71 hx (hb hby at_65) (pc' := 66) rfl rfl ?_
    refine g_iconst X71 hx (hb hby at_66) (pc' := 67) rfl (z := (4 : Int32)) rfl ?_
    refine g_icmp_le X71 hx (hb hby at_67) (pc1 := 70) rfl (by decide) (pc2 := 76) (by decide) (fun hc67 => ?_) (fun hc67 => absurd hc67 (by decide))
    refine g_iloadN X71 hx (hb hby at_76) (pc' := 77) rfl rfl ?_
    refine g_iconst X71 hx (hb hby at_77) (pc' := 78) rfl (z := (5 : Int32)) rfl ?_
    refine g_icmp_le X71 hx (hb hby at_78) (pc1 := 81) rfl (by decide) (pc2 := 90) (by decide) (fun hc78 => ?_) (fun hc78 => absurd hc78 (by decide))
    refine g_iloadN X71 hx (hb hby at_90) (pc' := 91) rfl rfl ?_
    refine g_bipush X71 hx (hb hby at_91) (pc' := 93) rfl (z := (6 : Int32)) rfl ?_
    refine g_icmp_le X71 hx (hb hby at_93) (pc1 := 96) rfl (by decide) (pc2 := 106) (by decide) (fun hc93 => ?_) (fun hc93 => absurd hc93 (by decide))
    refine g_iloadN X71 hx (hb hby at_106) (pc' := 107) rfl rfl ?_
    refine g_bipush X71 hx (hb hby at_107) (pc' := 109) rfl (z := (7 : Int32)) rfl ?_
    refine g_icmp_le X71 hx (hb hby at_109) (pc1 := 112) rfl (by decide) (pc2 := 122) (by decide) (fun hc109 => ?_) (fun hc109 => absurd hc109 (by decide))
    refine g_iconst X71 hx (hb hby at_122) (pc' := 123) rfl (z := (2 : Int32)) rfl ?_
    obtain ⟨T75, h75, b75, X75, e75, g75, E75, V75, A75, st75⟩ := h_newarray X71 hx hZ e71 (n := (2 : Int32)) (ty := .byte) rfl (hw _ (List.mem_of_getElem? (i := 1) rfl)) (hb hby at_123) (k := 2) (cap := 2) (by decide) rfl (by decide) (by decide) (by decide) (by decide) (ad := "[B") (by decide) #[.val (.int p0), .val (.int p1), .val (.int p2), .val (.int (2 : Int32)), .val (.ref b63), .unset, .unset, .unset] []
    have ne76 : b63 ≠ b75 := Nat.ne_of_lt (g75 ▸ f72.lt)
    have ge77 : n0 ≤ b75 := g75 ▸ Z73
    have f78 := Exa.ext E75 f72
    have f79 := f74.ext E75
    have Z80 : n0 ≤ h75.size := Nat.le_trans Z73 E75.1
    have f81 : Va Z h75 b75 .byte [(.int (0 : Int32)), (.int (0 : Int32))] := V75
    refine Go.movp st75 (mkF m 125 #[.val (.int p0), .val (.int p1), .val (.int p2), .val (.int (2 : Int32)), .val (.ref b63), .unset, .unset, .unset] [(.ref b75)]) rfl ?_
    refine g_dup X75 hx (hb hby at_125) (pc' := 126) rfl rfl ?_
    refine g_iconst X75 hx (hb hby at_126) (pc' := 127) rfl (z := (0 : Int32)) rfl ?_
    refine g_bipush X75 hx (hb hby at_127) (pc' := 129) rfl (z := (50 : Int32)) rfl ?_
    obtain ⟨T82, h82, L82, X82, e82, N82, W82, V82, st82⟩ := h_bastore X75 hx hZ e75 N71 f81 ge77 (j := (0 : Int32)) (i := 0) (x := (50 : Int32)) (hb hby at_129) (by decide) rfl rfl #[.val (.int p0), .val (.int p1), .val (.int p2), .val (.int (2 : Int32)), .val (.ref b63), .unset, .unset, .unset] [(.ref b75)]
    have f83 := Exa.wr W82 f78
    have f84 := f79.other W82 ne76
    have f85 := Exa.wr W82 A75
    have Z86 : n0 ≤ h82.size := Nat.le_trans Z80 (Keep.of_wr W82).1
    have f87 : Va Z h82 b75 .byte [(.int (byt (50 : Int32))), (.int (0 : Int32))] := V82
    refine Go.movp st82 (mkF m 130 #[.val (.int p0), .val (.int p1), .val (.int p2), .val (.int (2 : Int32)), .val (.ref b63), .unset, .unset, .unset] [(.ref b75)]) rfl ?_
    refine g_dup X82 hx (hb hby at_130) (pc' := 131) rfl rfl ?_
    refine g_iconst X82 hx (hb hby at_131) (pc' := 132) rfl (z := (1 : Int32)) rfl ?_
    refine g_bipush X82 hx (hb hby at_132) (pc' := 134) rfl (z := (49 : Int32)) rfl ?_
    obtain ⟨T88, h88, L88, X88, e88, N88, W88, V88, st88⟩ := h_bastore X82 hx hZ e82 N82 f87 ge77 (j := (1 : Int32)) (i := 1) (x := (49 : Int32)) (hb hby at_134) (by decide) rfl rfl #[.val (.int p0), .val (.int p1), .val (.int p2), .val (.int (2 : Int32)), .val (.ref b63), .unset, .unset, .unset] [(.ref b75)]
    have f89 := Exa.wr W88 f83
    have f90 := f84.other W88 ne76
    have f91 := Exa.wr W88 f85
    have Z92 : n0 ≤ h88.size := Nat.le_trans Z86 (Keep.of_wr W88).1
    have f93 : Va Z h88 b75 .byte [(.int (byt (50 : Int32))), (.int (byt (49 : Int32)))] := V88
    refine Go.movp st88 (mkF m 135 #[.val (.int p0), .val (.int p1), .val (.int p2), .val (.int (2 : Int32)), .val (.ref b63), .unset, .unset, .unset] [(.ref b75)]) rfl ?_
    refine g_astore X88 hx (hb hby at_135) (pc' := 137) rfl rfl (Ls' := #[.val (.int p0), .val (.int p1), .val (.int p2), .val (.int (2 : Int32)), .val (.ref b63), .val (.ref b75), .unset, .unset]) rfl ?_
    refine g_aload X88 hx (hb hby at_137) (pc' := 139) rfl rfl rfl ?_
    obtain ⟨v94, T94, h94, L94, X94, e94, N94, q94, st94⟩ := h_static X88 hx (W := 0) (Ls := #[.val (.int p0), .val (.int p1), .val (.int p2), .val (.int (2 : Int32)), .val (.ref b63), .val (.ref b75), .unset, .unset]) (argsL := [(.ref b63)]) (rest := []) hZ e88 N88 hml hown (rm1_2 l Z a0 hw b63 (byt (byt p0)) (byt (byt (ushr p0 (8 : Int32)))) h88 n0 Z92 f90) (hw _ (List.mem_of_getElem? (i := 2) rfl)) (hw _ (List.mem_of_getElem? (i := 3) rfl)) (hw _ (List.mem_of_getElem? (i := 4) rfl)) (hw _ (List.mem_of_getElem? (i := 5) rfl)) (by decide) pd___B_I rfl rfl (hb hby at_139) rfl (by decide) (by decide) (by decide) (by decide)
    obtain ⟨rfl, rfl⟩ := q94
    refine Go.movp st94 (mkF m 142 #[.val (.int p0), .val (.int p1), .val (.int p2), .val (.int (2 : Int32)), .val (.ref b63), .val (.ref b75), .unset, .unset] [(.int (fin2 ((fin1 ((((-1756908914 : Int32) ^^^ (shl ((byt (byt p0)) &&& (255 : Int32)) (0 : Int32))) ^^^ (shl ((byt (byt (ushr p0 (8 : Int32)))) &&& (255 : Int32)) (8 : Int32))) * (1540483477 : Int32))) * (1540483477 : Int32))))]) rfl ?_
    refine g_istore X94 hx (hb hby at_142) (pc' := 144) rfl (Ls' := #[.val (.int p0), .val (.int p1), .val (.int p2), .val (.int (2 : Int32)), .val (.ref b63), .val (.ref b75), .val (.int (fin2 ((fin1 ((((-1756908914 : Int32) ^^^ (shl ((byt (byt p0)) &&& (255 : Int32)) (0 : Int32))) ^^^ (shl ((byt (byt (ushr p0 (8 : Int32)))) &&& (255 : Int32)) (8 : Int32))) * (1540483477 : Int32))) * (1540483477 : Int32)))), .unset]) rfl ?_
    refine g_aload X94 hx (hb hby at_144) (pc' := 146) rfl rfl rfl ?_
    obtain ⟨v95, T95, h95, L95, X95, e95, N95, q95, st95⟩ := h_static X94 hx (W := 0) (Ls := #[.val (.int p0), .val (.int p1), .val (.int p2), .val (.int (2 : Int32)), .val (.ref b63), .val (.ref b75), .val (.int (fin2 ((fin1 ((((-1756908914 : Int32) ^^^ (shl ((byt (byt p0)) &&& (255 : Int32)) (0 : Int32))) ^^^ (shl ((byt (byt (ushr p0 (8 : Int32)))) &&& (255 : Int32)) (8 : Int32))) * (1540483477 : Int32))) * (1540483477 : Int32)))), .unset]) (argsL := [(.ref b75)]) (rest := []) hZ e94 N94 hml hown (rm1_2 l Z a0 hw b75 (byt (50 : Int32)) (byt (49 : Int32)) h88 n0 Z92 f93) (hw _ (List.mem_of_getElem? (i := 2) rfl)) (hw _ (List.mem_of_getElem? (i := 3) rfl)) (hw _ (List.mem_of_getElem? (i := 4) rfl)) (hw _ (List.mem_of_getElem? (i := 5) rfl)) (by decide) pd___B_I rfl rfl (hb hby at_146) rfl (by decide) (by decide) (by decide) (by decide)
    obtain ⟨rfl, rfl⟩ := q95
    refine Go.movp st95 (mkF m 149 #[.val (.int p0), .val (.int p1), .val (.int p2), .val (.int (2 : Int32)), .val (.ref b63), .val (.ref b75), .val (.int (fin2 ((fin1 ((((-1756908914 : Int32) ^^^ (shl ((byt (byt p0)) &&& (255 : Int32)) (0 : Int32))) ^^^ (shl ((byt (byt (ushr p0 (8 : Int32)))) &&& (255 : Int32)) (8 : Int32))) * (1540483477 : Int32))) * (1540483477 : Int32)))), .unset] [(.int (fin2 ((fin1 ((((-1756908914 : Int32) ^^^ (shl ((byt (50 : Int32)) &&& (255 : Int32)) (0 : Int32))) ^^^ (shl ((byt (49 : Int32)) &&& (255 : Int32)) (8 : Int32))) * (1540483477 : Int32))) * (1540483477 : Int32))))]) rfl ?_
    refine g_istore X95 hx (hb hby at_149) (pc' := 151) rfl (Ls' := #[.val (.int p0), .val (.int p1), .val (.int p2), .val (.int (2 : Int32)), .val (.ref b63), .val (.ref b75), .val (.int (fin2 ((fin1 ((((-1756908914 : Int32) ^^^ (shl ((byt (byt p0)) &&& (255 : Int32)) (0 : Int32))) ^^^ (shl ((byt (byt (ushr p0 (8 : Int32)))) &&& (255 : Int32)) (8 : Int32))) * (1540483477 : Int32))) * (1540483477 : Int32)))), .val (.int (fin2 ((fin1 ((((-1756908914 : Int32) ^^^ (shl ((byt (50 : Int32)) &&& (255 : Int32)) (0 : Int32))) ^^^ (shl ((byt (49 : Int32)) &&& (255 : Int32)) (8 : Int32))) * (1540483477 : Int32))) * (1540483477 : Int32))))]) rfl ?_
    refine g_iload X95 hx (hb hby at_151) (pc' := 153) rfl rfl ?_
    refine g_ldc X95 hx hZ hown (hw _ (List.mem_of_getElem? (i := 8) rfl)) (hb hby at_153) (pc' := 155) rfl ?_
    refine g_icmp_ne X95 hx (hb hby at_155) (pc1 := 158) rfl (by decide) (pc2 := 173) (by decide) (fun hc155 => absurd (by decide +kernel) hc155) (fun hc155 => ?_)
    refine g_iload X95 hx (hb hby at_158) (pc' := 160) rfl rfl ?_
    refine g_iloadN X95 hx (hb hby at_160) (pc' := 161) rfl rfl ?_
    refine g_iloadN X95 hx (hb hby at_161) (pc' := 162) rfl rfl ?_
    refine g_iloadN X95 hx (hb hby at_162) (pc' := 163) rfl rfl ?_
    obtain ⟨v96, T96, h96, L96, X96, e96, N96, q96, st96⟩ := h_static X95 hx (W := 1) (Ls := #[.val (.int p0), .val (.int p1), .val (.int p2), .val (.int (2 : Int32)), .val (.ref b63), .val (.ref b75), .val (.int (fin2 ((fin1 ((((-1756908914 : Int32) ^^^ (shl ((byt (byt p0)) &&& (255 : Int32)) (0 : Int32))) ^^^ (shl ((byt (byt (ushr p0 (8 : Int32)))) &&& (255 : Int32)) (8 : Int32))) * (1540483477 : Int32))) * (1540483477 : Int32)))), .val (.int (fin2 ((fin1 ((((-1756908914 : Int32) ^^^ (shl ((byt (50 : Int32)) &&& (255 : Int32)) (0 : Int32))) ^^^ (shl ((byt (49 : Int32)) &&& (255 : Int32)) (8 : Int32))) * (1540483477 : Int32))) * (1540483477 : Int32))))]) (argsL := [(.int p0), (.int p1), (.int (2 : Int32))]) (rest := [(.int (fin2 ((fin1 ((((-1756908914 : Int32) ^^^ (shl ((byt (byt p0)) &&& (255 : Int32)) (0 : Int32))) ^^^ (shl ((byt (byt (ushr p0 (8 : Int32)))) &&& (255 : Int32)) (8 : Int32))) * (1540483477 : Int32))) * (1540483477 : Int32))))]) hZ e95 N95 hml hown (rm2_2 l Z a0 hw p0 p1 h88 n0 Z92) (hw _ (List.mem_of_getElem? (i := 9) rfl)) (hw _ (List.mem_of_getElem? (i := 10) rfl)) (hw _ (List.mem_of_getElem? (i := 11) rfl)) (hw _ (List.mem_of_getElem? (i := 12) rfl)) (by decide) pd__III_I rfl rfl (hb hby at_163) rfl (by decide) (by decide) (by decide) (by decide)
    obtain ⟨rfl, rfl⟩ := q96
    refine Go.movp st96 (mkF m 166 #[.val (.int p0), .val (.int p1), .val (.int p2), .val (.int (2 : Int32)), .val (.ref b63), .val (.ref b75), .val (.int (fin2 ((fin1 ((((-1756908914 : Int32) ^^^ (shl ((byt (byt p0)) &&& (255 : Int32)) (0 : Int32))) ^^^ (shl ((byt (byt (ushr p0 (8 : Int32)))) &&& (255 : Int32)) (8 : Int32))) * (1540483477 : Int32))) * (1540483477 : Int32)))), .val (.int (fin2 ((fin1 ((((-1756908914 : Int32) ^^^ (shl ((byt (50 : Int32)) &&& (255 : Int32)) (0 : Int32))) ^^^ (shl ((byt (49 : Int32)) &&& (255 : Int32)) (8 : Int32))) * (1540483477 : Int32))) * (1540483477 : Int32))))] [(.int (fin2 ((fin1 (((-1756908914 : Int32) ^^^ (p0 &&& (65535 : Int32))) * (1540483477 : Int32))) * (1540483477 : Int32)))), (.int (fin2 ((fin1 ((((-1756908914 : Int32) ^^^ (shl ((byt (byt p0)) &&& (255 : Int32)) (0 : Int32))) ^^^ (shl ((byt (byt (ushr p0 (8 : Int32)))) &&& (255 : Int32)) (8 : Int32))) * (1540483477 : Int32))) * (1540483477 : Int32))))]) rfl ?_
    refine g_icmp_ne X96 hx (hb hby at_166) (pc1 := 169) rfl (by decide) (pc2 := 173) (by decide) (fun hc166 => absurd (by rw [own_2]) hc166) (fun hc166 => ?_)
    refine g_iconst X96 hx (hb hby at_169) (pc' := 170) rfl (z := (1 : Int32)) rfl ?_
    refine g_goto X96 hx (hb hby at_170) (by decide) (pc' := 174) (by decide) ?_
    exact g_zreturn X96 hx rfl hret (hb hby at_174) N96 hlk (fun v t => endF (by decide) (by decide) v) (by rw [e96]; exact rfl)
  · skip
    refine Go.cast (show (mkF m 7 #[.val (.int p0), .val (.int p1), .val (.int p2), .unset, .unset, .unset, .unset, .unset] [(.int ((p2 &&& (2147483647 : Int32)) % (9 : Int32)))]) = (mkF m 7 #[.val (.int p0), .val (.int p1), .val (.int p2), .unset, .unset, .unset, .unset, .unset] [(.int (3 : Int32))]) from by rw [show ((p2 &&& (2147483647 : Int32)) % (9 : Int32)) = (3 : Int32) from ql]) ?_
    refine g_istoreN X0 hx (hb hby at_7) (pc' := 8) rfl (Ls' := #[.val (.int p0), .val (.int p1), .val (.int p2), .val (.int (3 : Int32)), .unset, .unset, .unset, .unset]) rfl ?_
    refine g_iloadN X0 hx (hb hby at_8) (pc' := 9) rfl rfl ?_
    obtain ⟨T97, h97, b97, X97, e97, g97, E97, V97, A97, st97⟩ := h_newarray X0 hx hZ e0 (n := (3 : Int32)) (ty := .byte) rfl (hw _ (List.mem_of_getElem? (i := 1) rfl)) (hb hby at_9) (k := 3) (cap := 3) (by decide) rfl (by decide) (by decide) (by decide) (by decide) (ad := "[B") (by decide) #[.val (.int p0), .val (.int p1), .val (.int p2), .val (.int (3 : Int32)), .unset, .unset, .unset, .unset] []
    have ge98 : n0 ≤ b97 := g97 ▸ Z0
    have Z99 : n0 ≤ h97.size := Nat.le_trans Z0 E97.1
    have f100 : Va Z h97 b97 .byte [(.int (0 : Int32)), (.int (0 : Int32)), (.int (0 : Int32))] := V97
    refine Go.movp st97 (mkF m 11 #[.val (.int p0), .val (.int p1), .val (.int p2), .val (.int (3 : Int32)), .unset, .unset, .unset, .unset] [(.ref b97)]) rfl ?_
    refine g_astore X97 hx (hb hby at_11) (pc' := 13) rfl rfl (Ls' := #[.val (.int p0), .val (.int p1), .val (.int p2), .val (.int (3 : Int32)), .val (.ref b97), .unset, .unset, .unset]) rfl ?_
    refine g_iloadN X97 hx (hb hby at_13) (pc' := 14) rfl rfl ?_
    refine g_if_le X97 hx (hb hby at_14) (pc1 := 17) rfl (by decide) (pc2 := 23) (by decide) (fun hc14 => absurd (by decide) hc14) (fun hc14 => ?_)
    refine g_aload X97 hx (hb hby at_17) (pc' := 19) rfl rfl rfl ?_
    refine g_iconst X97 hx (hb hby at_19) (pc' := 20) rfl (z := (0 : Int32)) rfl ?_
    refine g_iloadN X97 hx (hb hby at_20) (pc' := 21) rfl rfl ?_
    refine g_i2b X97 hx (hb hby at_21) (pc' := 22) rfl ?_
    obtain ⟨T101, h101, L101, X101, e101, N101, W101, V101, st101⟩ := h_bastore X97 hx hZ e97 N0 f100 ge98 (j := (0 : Int32)) (i := 0) (x := (byt p0)) (hb hby at_22) (by decide) rfl rfl #[.val (.int p0), .val (.int p1), .val (.int p2), .val (.int (3 : Int32)), .val (.ref b97), .unset, .unset, .unset] []
    have f102 := Exa.wr W101 A97
    have Z103 : n0 ≤ h101.size := Nat.le_trans Z99 (Keep.of_wr W101).1
    have f104 : Va Z h101 b97 .byte [(.int (byt (byt p0))), (.int (0 : Int32)), (.int (0 : Int32))] := V101
    refine Go.movp st101 (mkF m 23 #[.val (.int p0), .val (.int p1), .val (.int p2), .val (.int (3 : Int32)), .val (.ref b97), .unset, .unset, .unset] []) rfl ?_
    refine g_iloadN X101 hx (hb hby at_23) (pc' := 24) rfl rfl ?_
    refine g_iconst X101 hx (hb hby at_24) (pc' := 25) rfl (z := (1 : Int32)) rfl ?_
    refine g_icmp_le X101 hx (hb hby at_25) (pc1 := 28) rfl (by decide) (pc2 := 37) (by decide) (fun hc25 => absurd (by decide) hc25) (fun hc25 => ?_)
    refine g_aload X101 hx (hb hby at_28) (pc' := 30) rfl rfl rfl ?_
    refine g_iconst X101 hx (hb hby at_30) (pc' := 31) rfl (z := (1 : Int32)) rfl ?_
    refine g_iloadN X101 hx (hb hby at_31) (pc' := 32) rfl rfl ?_
    refine g_bipush X101 hx (hb hby at_32) (pc' := 34) rfl (z := (8 : Int32)) rfl ?_
    refine g_iushr X101 hx (hb hby at_34) (pc' := 35) rfl ?_
    refine g_i2b X101 hx (hb hby at_35) (pc' := 36) rfl ?_
    obtain ⟨T105, h105, L105, X105, e105, N105, W105, V105, st105⟩ := h_bastore X101 hx hZ e101 N101 f104 ge98 (j := (1 : Int32)) (i := 1) (x := (byt (ushr p0 (8 : Int32)))) (hb hby at_36) (by decide) rfl rfl #[.val (.int p0), .val (.int p1), .val (.int p2), .val (.int (3 : Int32)), .val (.ref b97), .unset, .unset, .unset] []
    have f106 := Exa.wr W105 f102
    have Z107 : n0 ≤ h105.size := Nat.le_trans Z103 (Keep.of_wr W105).1
    have f108 : Va Z h105 b97 .byte [(.int (byt (byt p0))), (.int (byt (byt (ushr p0 (8 : Int32))))), (.int (0 : Int32))] := V105
    refine Go.movp st105 (mkF m 37 #[.val (.int p0), .val (.int p1), .val (.int p2), .val (.int (3 : Int32)), .val (.ref b97), .unset, .unset, .unset] []) rfl ?_
    refine g_iloadN X105 hx (hb hby at_37) (pc' := 38) rfl rfl ?_
    refine g_iconst X105 hx (hb hby at_38) (pc' := 39) rfl (z := (2 : Int32)) rfl ?_
    refine g_icmp_le X105 hx (hb hby at_39) (pc1 := 42) rfl (by decide) (pc2 := 51) (by decide) (fun hc39 => absurd (by decide) hc39) (fun hc39 => ?_)
    refine g_aload X105 hx (hb hby at_42) (pc' := 44) rfl rfl rfl ?_
    refine g_iconst X105 hx (hb hby at_44) (pc' := 45) rfl (z := (2 : Int32)) rfl ?_
    refine g_iloadN X105 hx (hb hby at_45) (pc' := 46) rfl rfl ?_
    refine g_bipush X105 hx (hb hby at_46) (pc' := 48) rfl (z := (16 : Int32)) rfl ?_
    refine g_iushr X105 hx (hb hby at_48) (pc' := 49) rfl ?_
    refine g_i2b X105 hx (hb hby at_49) (pc' := 50) rfl ?_
    obtain ⟨T109, h109, L109, X109, e109, N109, W109, V109, st109⟩ := h_bastore X105 hx hZ e105 N105 f108 ge98 (j := (2 : Int32)) (i := 2) (x := (byt (ushr p0 (16 : Int32)))) (hb hby at_50) (by decide) rfl rfl #[.val (.int p0), .val (.int p1), .val (.int p2), .val (.int (3 : Int32)), .val (.ref b97), .unset, .unset, .unset] []
    have f110 := Exa.wr W109 f106
    have Z111 : n0 ≤ h109.size := Nat.le_trans Z107 (Keep.of_wr W109).1
    have f112 : Va Z h109 b97 .byte [(.int (byt (byt p0))), (.int (byt (byt (ushr p0 (8 : Int32))))), (.int (byt (byt (ushr p0 (16 : Int32)))))] := V109
    refine Go.movp st109 (mkF m 51 #[.val (.int p0), .val (.int p1), .val (.int p2), .val (.int (3 : Int32)), .val (.ref b97), .unset, .unset, .unset] []) rfl ?_
    refine g_iloadN X109 hx (hb hby at_51) (pc' := 52) rfl rfl ?_
    refine g_iconst X109 hx (hb hby at_52) (pc' := 53) rfl (z := (3 : Int32)) rfl ?_
    refine g_icmp_le X109 hx (hb hby at_53) (pc1 := 56) rfl (by decide) (pc2 := 65) (by decide) (fun hc53 => ?_) (fun hc53 => absurd hc53 (by decide))
    refine g_iloadN X109 hx (hb hby at_65) (pc' := 66) rfl rfl ?_
    refine g_iconst X109 hx (hb hby at_66) (pc' := 67) rfl (z := (4 : Int32)) rfl ?_
    refine g_icmp_le X109 hx (hb hby at_67) (pc1 := 70) rfl (by decide) (pc2 := 76) (by decide) (fun hc67 => ?_) (fun hc67 => absurd hc67 (by decide))
    refine g_iloadN X109 hx (hb hby at_76) (pc' := 77) rfl rfl ?_
    refine g_iconst X109 hx (hb hby at_77) (pc' := 78) rfl (z := (5 : Int32)) rfl ?_
    refine g_icmp_le X109 hx (hb hby at_78) (pc1 := 81) rfl (by decide) (pc2 := 90) (by decide) (fun hc78 => ?_) (fun hc78 => absurd hc78 (by decide))
    refine g_iloadN X109 hx (hb hby at_90) (pc' := 91) rfl rfl ?_
    refine g_bipush X109 hx (hb hby at_91) (pc' := 93) rfl (z := (6 : Int32)) rfl ?_
    refine g_icmp_le X109 hx (hb hby at_93) (pc1 := 96) rfl (by decide) (pc2 := 106) (by decide) (fun hc93 => ?_) (fun hc93 => absurd hc93 (by decide))
    refine g_iloadN X109 hx (hb hby at_106) (pc' := 107) rfl rfl ?_
    refine g_bipush X109 hx (hb hby at_107) (pc' := 109) rfl (z := (7 : Int32)) rfl ?_
    refine g_icmp_le X109 hx (hb hby at_109) (pc1 := 112) rfl (by decide) (pc2 := 122) (by decide) (fun hc109 => ?_) (fun hc109 => absurd hc109 (by decide))
    refine g_iconst X109 hx (hb hby at_122) (pc' := 123) rfl (z := (2 : Int32)) rfl ?_
    obtain ⟨T113, h113, b113, X113, e113, g113, E113, V113, A113, st113⟩ := h_newarray X109 hx hZ e109 (n := (2 : Int32)) (ty := .byte) rfl (hw _ (List.mem_of_getElem? (i := 1) rfl)) (hb hby at_123) (k := 2) (cap := 2) (by decide) rfl (by decide) (by decide) (by decide) (by decide) (ad := "[B") (by decide) #[.val (.int p0), .val (.int p1), .val (.int p2), .val (.int (3 : Int32)), .val (.ref b97), .unset, .unset, .unset] []
    have ne114 : b97 ≠ b113 := Nat.ne_of_lt (g113 ▸ f110.lt)
    have ge115 : n0 ≤ b113 := g113 ▸ Z111
    have f116 := Exa.ext E113 f110
    have f117 := f112.ext E113
    have Z118 : n0 ≤ h113.size := Nat.le_trans Z111 E113.1
    have f119 : Va Z h113 b113 .byte [(.int (0 : Int32)), (.int (0 : Int32))] := V113
    refine Go.movp st113 (mkF m 125 #[.val (.int p0), .val (.int p1), .val (.int p2), .val (.int (3 : Int32)), .val (.ref b97), .unset, .unset, .unset] [(.ref b113)]) rfl ?_
    refine g_dup X113 hx (hb hby at_125) (pc' := 126) rfl rfl ?_
    refine g_iconst X113 hx (hb hby at_126) (pc' := 127) rfl (z := (0 : Int32)) rfl ?_
    refine g_bipush X113 hx (hb hby at_127) (pc' := 129) rfl (z := (50 : Int32)) rfl ?_
    obtain ⟨T120, h120, L120, X120, e120, N120, W120, V120, st120⟩ := h_bastore X113 hx hZ e113 N109 f119 ge115 (j := (0 : Int32)) (i := 0) (x := (50 : Int32)) (hb hby at_129) (by decide) rfl rfl #[.val (.int p0), .val (.int p1), .val (.int p2), .val (.int (3 : Int32)), .val (.ref b97), .unset, .unset, .unset] [(.ref b113)]
    have f121 := Exa.wr W120 f116
    have f122 := f117.other W120 ne114
    have f123 := Exa.wr W120 A113
    have Z124 : n0 ≤ h120.size := Nat.le_trans Z118 (Keep.of_wr W120).1
    have f125 : Va Z h120 b113 .byte [(.int (byt (50 : Int32))), (.int (0 : Int32))] := V120
    refine Go.movp st120 (mkF m 130 #[.val (.int p0), .val (.int p1), .val (.int p2), .val (.int (3 : Int32)), .val (.ref b97), .unset, .unset, .unset] [(.ref b113)]) rfl ?_
    refine g_dup X120 hx (hb hby at_130) (pc' := 131) rfl rfl ?_
    refine g_iconst X120 hx (hb hby at_131) (pc' := 132) rfl (z := (1 : Int32)) rfl ?_
    refine g_bipush X120 hx (hb hby at_132) (pc' := 134) rfl (z := (49 : Int32)) rfl ?_
    obtain ⟨T126, h126, L126, X126, e126, N126, W126, V126, st126⟩ := h_bastore X120 hx hZ e120 N120 f125 ge115 (j := (1 : Int32)) (i := 1) (x := (49 : Int32)) (hb hby at_134) (by decide) rfl rfl #[.val (.int p0), .val (.int p1), .val (.int p2), .val (.int (3 : Int32)), .val (.ref b97), .unset, .unset, .unset] [(.ref b113)]
    have f127 := Exa.wr W126 f121
    have f128 := f122.other W126 ne114
    have f129 := Exa.wr W126 f123
    have Z130 : n0 ≤ h126.size := Nat.le_trans Z124 (Keep.of_wr W126).1
    have f131 : Va Z h126 b113 .byte [(.int (byt (50 : Int32))), (.int (byt (49 : Int32)))] := V126
    refine Go.movp st126 (mkF m 135 #[.val (.int p0), .val (.int p1), .val (.int p2), .val (.int (3 : Int32)), .val (.ref b97), .unset, .unset, .unset] [(.ref b113)]) rfl ?_
    refine g_astore X126 hx (hb hby at_135) (pc' := 137) rfl rfl (Ls' := #[.val (.int p0), .val (.int p1), .val (.int p2), .val (.int (3 : Int32)), .val (.ref b97), .val (.ref b113), .unset, .unset]) rfl ?_
    refine g_aload X126 hx (hb hby at_137) (pc' := 139) rfl rfl rfl ?_
    obtain ⟨v132, T132, h132, L132, X132, e132, N132, q132, st132⟩ := h_static X126 hx (W := 0) (Ls := #[.val (.int p0), .val (.int p1), .val (.int p2), .val (.int (3 : Int32)), .val (.ref b97), .val (.ref b113), .unset, .unset]) (argsL := [(.ref b97)]) (rest := []) hZ e126 N126 hml hown (rm1_3 l Z a0 hw b97 (byt (byt p0)) (byt (byt (ushr p0 (8 : Int32)))) (byt (byt (ushr p0 (16 : Int32)))) h126 n0 Z130 f128) (hw _ (List.mem_of_getElem? (i := 2) rfl)) (hw _ (List.mem_of_getElem? (i := 3) rfl)) (hw _ (List.mem_of_getElem? (i := 4) rfl)) (hw _ (List.mem_of_getElem? (i := 5) rfl)) (by decide) pd___B_I rfl rfl (hb hby at_139) rfl (by decide) (by decide) (by decide) (by decide)
    obtain ⟨rfl, rfl⟩ := q132
    refine Go.movp st132 (mkF m 142 #[.val (.int p0), .val (.int p1), .val (.int p2), .val (.int (3 : Int32)), .val (.ref b97), .val (.ref b113), .unset, .unset] [(.int (fin2 ((fin1 (((((-1756908913 : Int32) ^^^ (shl ((byt (byt p0)) &&& (255 : Int32)) (0 : Int32))) ^^^ (shl ((byt (byt (ushr p0 (8 : Int32)))) &&& (255 : Int32)) (8 : Int32))) ^^^ (shl ((byt (byt (ushr p0 (16 : Int32)))) &&& (255 : Int32)) (16 : Int32))) * (1540483477 : Int32))) * (1540483477 : Int32))))]) rfl ?_
    refine g_istore X132 hx (hb hby at_142) (pc' := 144) rfl (Ls' := #[.val (.int p0), .val (.int p1), .val (.int p2), .val (.int (3 : Int32)), .val (.ref b97), .val (.ref b113), .val (.int (fin2 ((fin1 (((((-1756908913 : Int32) ^^^ (shl ((byt (byt p0)) &&& (255 : Int32)) (0 : Int32))) ^^^ (shl ((byt (byt (ushr p0 (8 : Int32)))) &&& (255 : Int32)) (8 : Int32))) ^^^ (shl ((byt (byt (ushr p0 (16 : Int32)))) &&& (255 : Int32)) (16 : Int32))) * (1540483477 : Int32))) * (1540483477 : Int32)))), .unset]) rfl ?_
    refine g_aload X132 hx (hb hby at_144) (pc' := 146) rfl rfl rfl ?_
    obtain ⟨v133, T133, h133, L133, X133, e133, N133, q133, st133⟩ := h_static X132 hx (W := 0) (Ls := #[.val (.int p0), .val (.int p1), .val (.int p2), .val (.int (3 : Int32)), .val (.ref b97), .val (.ref b113), .val (.int (fin2 ((fin1 (((((-1756908913 : Int32) ^^^ (shl ((byt (byt p0)) &&& (255 : Int32)) (0 : Int32))) ^^^ (shl ((byt (byt (ushr p0 (8 : Int32)))) &&& (255 : Int32)) (8 : Int32))) ^^^ (shl ((byt (byt (ushr p0 (16 : Int32)))) &&& (255 : Int32)) (16 : Int32))) * (1540483477 : Int32))) * (1540483477 : Int32)))), .unset]) (argsL := [(.ref b113)]) (rest := []) hZ e132 N132 hml hown (rm1_2 l Z a0 hw b113 (byt (50 : Int32)) (byt (49 : Int32)) h126 n0 Z130 f131) (hw _ (List.mem_of_getElem? (i := 2) rfl)) (hw _ (List.mem_of_getElem? (i := 3) rfl)) (hw _ (List.mem_of_getElem? (i := 4) rfl)) (hw _ (List.mem_of_getElem? (i := 5) rfl)) (by decide) pd___B_I rfl rfl (hb hby at_146) rfl (by decide) (by decide) (by decide) (by decide)
    obtain ⟨rfl, rfl⟩ := q133
    refine Go.movp st133 (mkF m 149 #[.val (.int p0), .val (.int p1), .val (.int p2), .val (.int (3 : Int32)), .val (.ref b97), .val (.ref b113), .val (.int (fin2 ((fin1 (((((-1756908913 : Int32) ^^^ (shl ((byt (byt p0)) &&& (255 : Int32)) (0 : Int32))) ^^^ (shl ((byt (byt (ushr p0 (8 : Int32)))) &&& (255 : Int32)) (8 : Int32))) ^^^ (shl ((byt (byt (ushr p0 (16 : Int32)))) &&& (255 : Int32)) (16 : Int32))) * (1540483477 : Int32))) * (1540483477 : Int32)))), .unset] [(.int (fin2 ((fin1 ((((-1756908914 : Int32) ^^^ (shl ((byt (50 : Int32)) &&& (255 : Int32)) (0 : Int32))) ^^^ (shl ((byt (49 : Int32)) &&& (255 : Int32)) (8 : Int32))) * (1540483477 : Int32))) * (1540483477 : Int32))))]) rfl ?_
    refine g_istore X133 hx (hb hby at_149) (pc' := 151) rfl (Ls' := #[.val (.int p0), .val (.int p1), .val (.int p2), .val (.int (3 : Int32)), .val (.ref b97), .val (.ref b113), .val (.int (fin2 ((fin1 (((((-1756908913 : Int32) ^^^ (shl ((byt (byt p0)) &&& (255 : Int32)) (0 : Int32))) ^^^ (shl ((byt (byt (ushr p0 (8 : Int32)))) &&& (255 : Int32)) (8 : Int32))) ^^^ (shl ((byt (byt (ushr p0 (16 : Int32)))) &&& (255 : Int32)) (16 : Int32))) * (1540483477 : Int32))) * (1540483477 : Int32)))), .val (.int (fin2 ((fin1 ((((-1756908914 : Int32) ^^^ (shl ((byt (50 : Int32)) &&& (255 : Int32)) (0 : Int32))) ^^^ (shl ((byt (49 : Int32)) &&& (255 : Int32)) (8 : Int32))) * (1540483477 : Int32))) * (1540483477 : Int32))))]) rfl ?_
    refine g_iload X133 hx (hb hby at_151) (pc' := 153) rfl rfl ?_
    refine g_ldc X133 hx hZ hown (hw _ (List.mem_of_getElem? (i := 8) rfl)) (hb hby at_153) (pc' := 155) rfl ?_
    refine g_icmp_ne X133 hx (hb hby at_155) (pc1 := 158) rfl (by decide) (pc2 := 173) (by decide) (fun hc155 => absurd (by decide +kernel) hc155) (fun hc155 => ?_)
    refine g_iload X133 hx (hb hby at_158) (pc' := 160) rfl rfl ?_
    refine g_iloadN X133 hx (hb hby at_160) (pc' := 161) rfl rfl ?_
    refine g_iloadN X133 hx (hb hby at_161) (pc' := 162) rfl rfl ?_
    refine g_iloadN X133 hx (hb hby at_162) (pc' := 163) rfl rfl ?_
    obtain ⟨v134, T134, h134, L134, X134, e134, N134, q134, st134⟩ := h_static X133 hx (W := 1) (Ls := #[.val (.int p0), .val (.int p1), .val (.int p2), .val (.int (3 : Int32)), .val (.ref b97), .val (.ref b113), .val (.int (fin2 ((fin1 (((((-1756908913 : Int32) ^^^ (shl ((byt (byt p0)) &&& (255 : Int32)) (0 : Int32))) ^^^ (shl ((byt (byt (ushr p0 (8 : Int32)))) &&& (255 : Int32)) (8 : Int32))) ^^^ (shl ((byt (byt (ushr p0 (16 : Int32)))) &&& (255 : Int32)) (16 : Int32))) * (1540483477 : Int32))) * (1540483477 : Int32)))), .val (.int (fin2 ((fin1 ((((-1756908914 : Int32) ^^^ (shl ((byt (50 : Int32)) &&& (255 : Int32)) (0 : Int32))) ^^^ (shl ((byt (49 : Int32)) &&& (255 : Int32)) (8 : Int32))) * (1540483477 : Int32))) * (1540483477 : Int32))))]) (argsL := [(.int p0), (.int p1), (.int (3 : Int32))]) (rest := [(.int (fin2 ((fin1 (((((-1756908913 : Int32) ^^^ (shl ((byt (byt p0)) &&& (255 : Int32)) (0 : Int32))) ^^^ (shl ((byt (byt (ushr p0 (8 : Int32)))) &&& (255 : Int32)) (8 : Int32))) ^^^ (shl ((byt (byt (ushr p0 (16 : Int32)))) &&& (255 : Int32)) (16 : Int32))) * (1540483477 : Int32))) * (1540483477 : Int32))))]) hZ e133 N133 hml hown (rm2_3 l Z a0 hw p0 p1 h126 n0 Z130) (hw _ (List.mem_of_getElem? (i := 9) rfl)) (hw _ (List.mem_of_getElem? (i := 10) rfl)) (hw _ (List.mem_of_getElem? (i := 11) rfl)) (hw _ (List.mem_of_getElem? (i := 12) rfl)) (by decide) pd__III_I rfl rfl (hb hby at_163) rfl (by decide) (by decide) (by decide) (by decide)
    obtain ⟨rfl, rfl⟩ := q134
    refine Go.movp st134 (mkF m 166 #[.val (.int p0), .val (.int p1), .val (.int p2), .val (.int (3 : Int32)), .val (.ref b97), .val (.ref b113), .val (.int (fin2 ((fin1 (((((-1756908913 : Int32) ^^^ (shl ((byt (byt p0)) &&& (255 : Int32)) (0 : Int32))) ^^^ (shl ((byt (byt (ushr p0 (8 : Int32)))) &&& (255 : Int32)) (8 : Int32))) ^^^ (shl ((byt (byt (ushr p0 (16 : Int32)))) &&& (255 : Int32)) (16 : Int32))) * (1540483477 : Int32))) * (1540483477 : Int32)))), .val (.int (fin2 ((fin1 ((((-1756908914 : Int32) ^^^ (shl ((byt (50 : Int32)) &&& (255 : Int32)) (0 : Int32))) ^^^ (shl ((byt (49 : Int32)) &&& (255 : Int32)) (8 : Int32))) * (1540483477 : Int32))) * (1540483477 : Int32))))] [(.int (fin2 ((fin1 (((-1756908913 : Int32) ^^^ (p0 &&& (16777215 : Int32))) * (1540483477 : Int32))) * (1540483477 : Int32)))), (.int (fin2 ((fin1 (((((-1756908913 : Int32) ^^^ (shl ((byt (byt p0)) &&& (255 : Int32)) (0 : Int32))) ^^^ (shl ((byt (byt (ushr p0 (8 : Int32)))) &&& (255 : Int32)) (8 : Int32))) ^^^ (shl ((byt (byt (ushr p0 (16 : Int32)))) &&& (255 : Int32)) (16 : Int32))) * (1540483477 : Int32))) * (1540483477 : Int32))))]) rfl ?_
    refine g_icmp_ne X134 hx (hb hby at_166) (pc1 := 169) rfl (by decide) (pc2 := 173) (by decide) (fun hc166 => absurd (by rw [own_3]) hc166) (fun hc166 => ?_)
    refine g_iconst X134 hx (hb hby at_169) (pc' := 170) rfl (z := (1 : Int32)) rfl ?_
    refine g_goto X134 hx (hb hby at_170) (by decide) (pc' := 174) (by decide) ?_
    exact g_zreturn X134 hx rfl hret (hb hby at_174) N134 hlk (fun v t => endF (by decide) (by decide) v) (by rw [e134]; exact rfl)
  · skip
    refine Go.cast (show (mkF m 7 #[.val (.int p0), .val (.int p1), .val (.int p2), .unset, .unset, .unset, .unset, .unset] [(.int ((p2 &&& (2147483647 : Int32)) % (9 : Int32)))]) = (mkF m 7 #[.val (.int p0), .val (.int p1), .val (.int p2), .unset, .unset, .unset, .unset, .unset] [(.int (4 : Int32))]) from by rw [show ((p2 &&& (2147483647 : Int32)) % (9 : Int32)) = (4 : Int32) from ql]) ?_
    refine g_istoreN X0 hx (hb hby at_7) (pc' := 8) rfl (Ls' := #[.val (.int p0), .val (.int p1), .val (.int p2), .val (.int (4 : Int32)), .unset, .unset, .unset, .unset]) rfl ?_
    refine g_iloadN X0 hx (hb hby at_8) (pc' := 9) rfl rfl ?_
    obtain ⟨T135, h135, b135, X135, e135, g135, E135, V135, A135, st135⟩ := h_newarray X0 hx hZ e0 (n := (4 : Int32)) (ty := .byte) rfl (hw _ (List.mem_of_getElem? (i := 1) rfl)) (hb hby at_9) (k := 4) (cap := 4) (by decide) rfl (by decide) (by decide) (by decide) (by decide) (ad := "[B") (by decide) #[.val (.int p0), .val (.int p1), .val (.int p2), .val (.int (4 : Int32)), .unset, .unset, .unset, .unset] []
    have ge136 : n0 ≤ b135 := g135 ▸ Z0
    have Z137 : n0 ≤ h135.size := Nat.le_trans Z0 E135.1
    have f138 : Va Z h135 b135 .byte [(.int (0 : Int32)), (.int (0 : Int32)), (.int (0 : Int32)), (.int (0 : Int32))] := V135
    refine Go.movp st135 (mkF m 11 #[.val (.int p0), .val (.int p1), .val (.int p2), .val (.int (4 : Int32)), .unset, .unset, .unset, .unset] [(.ref b135)]) rfl ?_
    refine g_astore X135 hx (hb hby at_11) (pc' := 13) rfl rfl (Ls' := #[.val (.int p0), .val (.int p1), .val (.int p2), .val (.int (4 : Int32)), .val (.ref b135), .unset, .unset, .unset]) rfl ?_
    refine g_iloadN X135 hx (hb hby at_13) (pc' := 14) rfl rfl ?_
    refine g_if_le X135 hx (hb hby at_14) (pc1 := 17) rfl (by decide) (pc2 := 23) (by decide) (fun hc14 => absurd (by decide) hc14) (fun hc14 => ?_)
    refine g_aload X135 hx (hb hby at_17) (pc' := 19) rfl rfl rfl ?_
    refine g_iconst X135 hx (hb hby at_19) (pc' := 20) rfl (z := (0 : Int32)) rfl ?_
    refine g_iloadN X135 hx (hb hby at_20) (pc' := 21) rfl rfl ?_
    refine g_i2b X135 hx (hb hby at_21) (pc' := 22) rfl ?_
    obtain ⟨T139, h139, L139, X139, e139, N139, W139, V139, st139⟩ := h_bastore X135 hx hZ e135 N0 f138 ge136 (j := (0 : Int32)) (i := 0) (x := (byt p0)) (hb hby at_22) (by decide) rfl rfl #[.val (.int p0), .val (.int p1), .val (.int p2), .val (.int (4 : Int32)), .val (.ref b135), .unset, .unset, .unset] []
    have f140 := Exa.wr W139 A135
    have Z141 : n0 ≤ h139.size := Nat.le_trans Z137 (Keep.of_wr W139).1
    have f142 : Va Z h139 b135 .byte [(.int (byt (byt p0))), (.int (0 : Int32)), (.int (0 : Int32)), (.int (0 : Int32))] := V139
    refine Go.movp st139 (mkF m 23 #[.val (.int p0), .val (.int p1), .val (.int p2), .val (.int (4 : Int32)), .val (.ref b135), .unset, .unset, .unset] []) rfl ?_
    refine g_iloadN X139 hx (hb hby at_23) (pc' := 24) rfl rfl ?_
    refine g_iconst X139 hx (hb hby at_24) (pc' := 25) rfl (z := (1 : Int32)) rfl ?_
    refine g_icmp_le X139 hx (hb hby at_25) (pc1 := 28) rfl (by decide) (pc2 := 37) (by decide) (fun hc25 => absurd (by decide) hc25) (fun hc25 => ?_)
    refine g_aload X139 hx (hb hby at_28) (pc' := 30) rfl rfl rfl ?_
    refine g_iconst X139 hx (hb hby at_30) (pc' := 31) rfl (z := (1 : Int32)) rfl ?_
    refine g_iloadN X139 hx (hb hby at_31) (pc' := 32) rfl rfl ?_
    refine g_bipush X139 hx (hb hby at_32) (pc' := 34) rfl (z := (8 : Int32)) rfl ?_
    refine g_iushr X139 hx (hb hby at_34) (pc' := 35) rfl ?_
    refine g_i2b X139 hx (hb hby at_35) (pc' := 36) rfl ?_
    obtain ⟨T143, h143, L143, X143, e143, N143, W143, V143, st143⟩ := h_bastore X139 hx hZ e139 N139 f142 ge136 (j := (1 : Int32)) (i := 1) (x := (byt (ushr p0 (8 : Int32)))) (hb hby at_36) (by decide) rfl rfl #[.val (.int p0), .val (.int p1), .val (.int p2), .val (.int (4 : Int32)), .val (.ref b135), .unset, .unset, .unset] []
    have f144 := Exa.wr W143 f140
    have Z145 : n0 ≤ h143.size := Nat.le_trans Z141 (Keep.of_wr W143).1
    have f146 : Va Z h143 b135 .byte [(.int (byt (byt p0))), (.int (byt (byt (ushr p0 (8 : Int32))))), (.int (0 : Int32)), (.int (0 : Int32))] := V143
    refine Go.movp st143 (mkF m 37 #[.val (.int p0), .val (.int p1), .val (.int p2), .val (.int (4 : Int32)), .val (.ref b135), .unset, .unset, .unset] []) rfl ?_
    refine g_iloadN X143 hx (hb hby at_37) (pc' := 38) rfl rfl ?_
    refine g_iconst X143 hx (hb hby at_38) (pc' := 39) rfl (z := (2 : Int32)) rfl ?_
    refine g_icmp_le X143 hx (hb hby at_39) (pc1 := 42) rfl (by decide) (pc2 := 51) (by decide) (fun hc39 => absurd (by decide) hc39) (fun hc39 => ?_)
    refine g_aload X143 hx (hb hby at_42) (pc' := 44) rfl rfl rfl ?_
    refine g_iconst X143 hx (hb hby at_44) (pc' := 45) rfl (z := (2 : Int32)) rfl ?_
    refine g_iloadN X143 hx (hb hby at_45) (pc' := 46) rfl rfl ?_
    refine g_bipush X143 hx (hb hby at_46) (pc' := 48) rfl (z := (16 : Int32)) rfl ?_
    refine g_iushr X143 hx (hb hby at_48) (pc' := 49) rfl ?_
    refine g_i2b X143 hx (hb hby at_49) (pc' := 50) rfl ?_
    obtain ⟨T147, h147, L147, X147, e147, N147, W147, V147, st147⟩ := h_bastore X143 hx hZ e143 N143 f146 ge136 (j := (2 : Int32)) (i := 2) (x := (byt (ushr p0 (16 : Int32)))) (hb hby at_50) (by decide) rfl rfl #[.val (.int p0), .val (.int p1), .val (.int p2), .val (.int (4 : Int32)), .val (.ref b135), .unset, .unset, .unset] []
    have f148 := Exa.wr W147 f144
    have Z149 : n0 ≤ h147.size := Nat.le_trans Z145 (Keep.of_wr W147).1
    have f150 : Va Z h147 b135 .byte [(.int (byt (byt p0))), (.int (byt (byt (ushr p0 (8 : Int32))))), (.int (byt (byt (ushr p0 (16 : Int32))))), (.int (0 : Int32))] := V147
    refine Go.movp st147 (mkF m 51 #[.val (.int p0), .val (.int p1), .val (.int p2), .val (.int (4 : Int32)), .val (.ref b135), .unset, .unset, .unset] []) rfl ?_
    refine g_iloadN X147 hx (hb hby at_51) (pc' := 52) rfl rfl ?_
    refine g_iconst X147 hx (hb hby at_52) (pc' := 53) rfl (z := (3 : Int32)) rfl ?_
    refine g_icmp_le X147 hx (hb hby at_53) (pc1 := 56) rfl (by decide) (pc2 := 65) (by decide) (fun hc53 => absurd (by decide) hc53) (fun hc53 => ?_)
    refine g_aload X147 hx (hb hby at_56) (pc' := 58) rfl rfl rfl ?_
    refine g_iconst X147 hx (hb hby at_58) (pc' := 59) rfl (z := (3 : Int32)) rfl ?_
    refine g_iloadN X147 hx (hb hby at_59) (pc' := 60) rfl rfl ?_
    refine g_bipush X147 hx (hb hby at_60) (pc' := 62) rfl (z := (24 : Int32)) rfl ?_
    refine g_iushr X147 hx (hb hby at_62) (pc' := 63) rfl ?_
    refine g_i2b X147 hx (hb hby at_63) (pc' := 64) rfl ?_
    obtain ⟨T151, h151, L151, X151, e151, N151, W151, V151, st151⟩ := h_bastore X147 hx hZ e147 N147 f150 ge136 (j := (3 : Int32)) (i := 3) (x := (byt (ushr p0 (24 : Int32)))) (hb hby at_64) (by decide) rfl rfl #[.val (.int p0), .val (.int p1), .val (.int p2), .val (.int (4 : Int32)), .val (.ref b135), .unset, .unset, .unset] []
    have f152 := Exa.wr W151 f148
    have Z153 : n0 ≤ h151.size := Nat.le_trans Z149 (Keep.of_wr W151).1
    have f154 : Va Z h151 b135 .byte [(.int (byt (byt p0))), (.int (byt (byt (ushr p0 (8 : Int32))))), (.int (byt (byt (ushr p0 (16 : Int32))))), (.int (byt (byt (ushr p0 (24 : Int32)))))] := V151
    refine Go.movp st151 (mkF m 65 #[.val (.int p0), .val (.int p1), .val (.int p2), .val (.int (4 : Int32)), .val (.ref b135), .unset, .unset, .unset] []) rfl ?_
    refine g_iloadN X151 hx (hb hby at_65) (pc' := 66) rfl rfl ?_
    refine g_iconst X151 hx (hb hby at_66) (pc' := 67) rfl (z := (4 : Int32)) rfl ?_
    refine g_icmp_le X151 hx (hb hby at_67) (pc1 := 70) rfl (by decide) (pc2 := 76) (by decide) (fun hc67 => ?_) (fun hc67 => absurd hc67 (by decide))
    refine g_iloadN X151 hx (hb hby at_76) (pc' := 77) rfl rfl ?_
    refine g_iconst X151 hx (hb hby at_77) (pc' := 78) rfl (z := (5 : Int32)) rfl ?_
    refine g_icmp_le X151 hx (hb hby at_78) (pc1 := 81) rfl (by decide) (pc2 := 90) (by decide) (fun hc78 => ?_) (fun hc78 => absurd hc78 (by decide))
    refine g_iloadN X151 hx (hb hby at_90) (pc' := 91) rfl rfl ?_
    refine g_bipush X151 hx (hb hby at_91) (pc' := 93) rfl (z := (6 : Int32)) rfl ?_
    refine g_icmp_le X151 hx (hb hby at_93) (pc1 := 96) rfl (by decide) (pc2 := 106) (by decide) (fun hc93 => ?_) (fun hc93 => absurd hc93 (by decide))
    refine g_iloadN X151 hx (hb hby at_106) (pc' := 107) rfl rfl ?_
    refine g_bipush X151 hx (hb hby at_107) (pc' := 109) rfl (z := (7 : Int32)) rfl ?_
    refine g_icmp_le X151 hx (hb hby at_109) (pc1 := 112) rfl (by decide) (pc2 := 122) (by decide) (fun hc109 => ?_) (fun hc109 => absurd hc109 (by decide))
    refine g_iconst X151 hx (hb hby at_122) (pc' := 123) rfl (z := (2 : Int32)) rfl ?_
    obtain ⟨T155, h155, b155, X155, e155, g155, E155, V155, A155, st155⟩ := h_newarray X151 hx hZ e151 (n := (2 : Int32)) (ty := .byte) rfl (hw _ (List.mem_of_getElem? (i := 1) rfl)) (hb hby at_123) (k := 2) (cap := 2) (by decide) rfl (by decide) (by decide) (by decide) (by decide) (ad := "[B") (by decide) #[.val (.int p0), .val (.int p1), .val (.int p2), .val (.int (4 : Int32)), .val (.ref b135), .unset, .unset, .unset] []
    have ne156 : b135 ≠ b155 := Nat.ne_of_lt (g155 ▸ f152.lt)
    have ge157 : n0 ≤ b155 := g155 ▸ Z153
    have f158 := Exa.ext E155 f152
    have f159 := f154.ext E155
    have Z160 : n0 ≤ h155.size := Nat.le_trans Z153 E155.1
    have f161 : Va Z h155 b155 .byte [(.int (0 : Int32)), (.int (0 : Int32))] := V155
    refine Go.movp st155 (mkF m 125 #[.val (.int p0), .val (.int p1), .val (.int p2), .val (.int (4 : Int32)), .val (.ref b135), .unset, .unset, .unset] [(.ref b155)]) rfl ?_
    refine g_dup X155 hx (hb hby at_125) (pc' := 126) rfl rfl ?_
    refine g_iconst X155 hx (hb hby at_126) (pc' := 127) rfl (z := (0 : Int32)) rfl ?_
    refine g_bipush X155 hx (hb hby at_127) (pc' := 129) rfl (z := (50 : Int32)) rfl ?_
    obtain ⟨T162, h162, L162, X162, e162, N162, W162, V162, st162⟩ := h_bastore X155 hx hZ e155 N151 f161 ge157 (j := (0 : Int32)) (i := 0) (x := (50 : Int32)) (hb hby at_129) (by decide) rfl rfl #[.val (.int p0), .val (.int p1), .val (.int p2), .val (.int (4 : Int32)), .val (.ref b135), .unset, .unset, .unset] [(.ref b155)]
    have f163 := Exa.wr W162 f158
    have f164 := f159.other W162 ne156
    have f165 := Exa.wr W162 A155
    have Z166 : n0 ≤ h162.size := Nat.le_trans Z160 (Keep.of_wr W162).1
    have f167 : Va Z h162 b155 .byte [(.int (byt (50 : Int32))), (.int (0 : Int32))] := V162
    refine Go.movp st162 (mkF m 130 #[.val (.int p0), .val (.int p1), .val (.int p2), .val (.int (4 : Int32)), .val (.ref b135), .unset, .unset, .unset] [(.ref b155)]) rfl ?_
    refine g_dup X162 hx (hb hby at_130) (pc' := 131) rfl rfl ?_
    refine g_iconst X162 hx (hb hby at_131) (pc' := 132) rfl (z := (1 : Int32)) rfl ?_
    refine g_bipush X162 hx (hb hby at_132) (pc' := 134) rfl (z := (49 : Int32)) rfl ?_
    obtain ⟨T168, h168, L168, X168, e168, N168, W168, V168, st168⟩ := h_bastore X162 hx hZ e162 N162 f167 ge157 (j := (1 : Int32)) (i := 1) (x := (49 : Int32)) (hb hby at_134) (by decide) rfl rfl #[.val (.int p0), .val (.int p1), .val (.int p2), .val (.int (4 : Int32)), .val (.ref b135), .unset, .unset, .unset] [(.ref b155)]
    have f169 := Exa.wr W168 f163
    have f170 := f164.other W168 ne156
    have f171 := Exa.wr W168 f165
    have Z172 : n0 ≤ h168.size := Nat.le_trans Z166 (Keep.of_wr W168).1
    have f173 : Va Z h168 b155 .byte [(.int (byt (50 : Int32))), (.int (byt (49 : Int32)))] := V168
    refine Go.movp st168 (mkF m 135 #[.val (.int p0), .val (.int p1), .val (.int p2), .val (.int (4 : Int32)), .val (.ref b135), .unset, .unset, .unset] [(.ref b155)]) rfl ?_
    refine g_astore X168 hx (hb hby at_135) (pc' := 137) rfl rfl (Ls' := #[.val (.int p0), .val (.int p1), .val (.int p2), .val (.int (4 : Int32)), .val (.ref b135), .val (.ref b155), .unset, .unset]) rfl ?_
    refine g_aload X168 hx (hb hby at_137) (pc' := 139) rfl rfl rfl ?_
    obtain ⟨v174, T174, h174, L174, X174, e174, N174, q174, st174⟩ := h_static X168 hx (W := 0) (Ls := #[.val (.int p0), .val (.int p1), .val (.int p2), .val (.int (4 : Int32)), .val (.ref b135), .val (.ref b155), .unset, .unset]) (argsL := [(.ref b135)]) (rest := []) hZ e168 N168 hml hown (rm1_4 l Z a0 hw b135 (byt (byt p0)) (byt (byt (ushr p0 (8 : Int32)))) (byt (byt (ushr p0 (16 : Int32)))) (byt (byt (ushr p0 (24 : Int32)))) h168 n0 Z172 f170) (hw _ (List.mem_of_getElem? (i := 2) rfl)) (hw _ (List.mem_of_getElem? (i := 3) rfl)) (hw _ (List.mem_of_getElem? (i := 4) rfl)) (hw _ (List.mem_of_getElem? (i := 5) rfl)) (by decide) pd___B_I rfl rfl (hb hby at_139) rfl (by decide) (by decide) (by decide) (by decide)
    obtain ⟨rfl, rfl⟩ := q174
    refine Go.movp st174 (mkF m 142 #[.val (.int p0), .val (.int p1), .val (.int p2), .val (.int (4 : Int32)), .val (.ref b135), .val (.ref b155), .unset, .unset] [(.int (fin2 ((fin1 ((1732292904 : Int32) ^^^ (mixV (wordV (byt (byt p0)) (byt (byt (ushr p0 (8 : Int32)))) (byt (byt (ushr p0 (16 : Int32)))) (byt (byt (ushr p0 (24 : Int32)))))))) * (1540483477 : Int32))))]) rfl ?_
    refine g_istore X174 hx (hb hby at_142) (pc' := 144) rfl (Ls' := #[.val (.int p0), .val (.int p1), .val (.int p2), .val (.int (4 : Int32)), .val (.ref b135), .val (.ref b155), .val (.int (fin2 ((fin1 ((1732292904 : Int32) ^^^ (mixV (wordV (byt (byt p0)) (byt (byt (ushr p0 (8 : Int32)))) (byt (byt (ushr p0 (16 : Int32)))) (byt (byt (ushr p0 (24 : Int32)))))))) * (1540483477 : Int32)))), .unset]) rfl ?_
    refine g_aload X174 hx (hb hby at_144) (pc' := 146) rfl rfl rfl ?_
    obtain ⟨v175, T175, h175, L175, X175, e175, N175, q175, st175⟩ := h_static X174 hx (W := 0) (Ls := #[.val (.int p0), .val (.int p1), .val (.int p2), .val (.int (4 : Int32)), .val (.ref b135), .val (.ref b155), .val (.int (fin2 ((fin1 ((1732292904 : Int32) ^^^ (mixV (wordV (byt (byt p0)) (byt (byt (ushr p0 (8 : Int32)))) (byt (byt (ushr p0 (16 : Int32)))) (byt (byt (ushr p0 (24 : Int32)))))))) * (1540483477 : Int32)))), .unset]) (argsL := [(.ref b155)]) (rest := []) hZ e174 N174 hml hown (rm1_2 l Z a0 hw b155 (byt (50 : Int32)) (byt (49 : Int32)) h168 n0 Z172 f173) (hw _ (List.mem_of_getElem? (i := 2) rfl)) (hw _ (List.mem_of_getElem? (i := 3) rfl)) (hw _ (List.mem_of_getElem? (i := 4) rfl)) (hw _ (List.mem_of_getElem? (i := 5) rfl)) (by decide) pd___B_I rfl rfl (hb hby at_146) rfl (by decide) (by decide) (by decide) (by decide)
    obtain ⟨rfl, rfl⟩ := q175
    refine Go.movp st175 (mkF m 149 #[.val (.int p0), .val (.int p1), .val (.int p2), .val (.int (4 : Int32)), .val (.ref b135), .val (.ref b155), .val (.int (fin2 ((fin1 ((1732292904 : Int32) ^^^ (mixV (wordV (byt (byt p0)) (byt (byt (ushr p0 (8 : Int32)))) (byt (byt (ushr p0 (16 : Int32)))) (byt (byt (ushr p0 (24 : Int32)))))))) * (1540483477 : Int32)))), .unset] [(.int (fin2 ((fin1 ((((-1756908914 : Int32) ^^^ (shl ((byt (50 : Int32)) &&& (255 : Int32)) (0 : Int32))) ^^^ (shl ((byt (49 : Int32)) &&& (255 : Int32)) (8 : Int32))) * (1540483477 : Int32))) * (1540483477 : Int32))))]) rfl ?_
    refine g_istore X175 hx (hb hby at_149) (pc' := 151) rfl (Ls' := #[.val (.int p0), .val (.int p1), .val (.int p2), .val (.int (4 : Int32)), .val (.ref b135), .val (.ref b155), .val (.int (fin2 ((fin1 ((1732292904 : Int32) ^^^ (mixV (wordV (byt (byt p0)) (byt (byt (ushr p0 (8 : Int32)))) (byt (byt (ushr p0 (16 : Int32)))) (byt (byt (ushr p0 (24 : Int32)))))))) * (1540483477 : Int32)))), .val (.int (fin2 ((fin1 ((((-1756908914 : Int32) ^^^ (shl ((byt (50 : Int32)) &&& (255 : Int32)) (0 : Int32))) ^^^ (shl ((byt (49 : Int32)) &&& (255 : Int32)) (8 : Int32))) * (1540483477 : Int32))) * (1540483477 : Int32))))]) rfl ?_
    refine g_iload X175 hx (hb hby at_151) (pc' := 153) rfl rfl ?_
    refine g_ldc X175 hx hZ hown (hw _ (List.mem_of_getElem? (i := 8) rfl)) (hb hby at_153) (pc' := 155) rfl ?_
    refine g_icmp_ne X175 hx (hb hby at_155) (pc1 := 158) rfl (by decide) (pc2 := 173) (by decide) (fun hc155 => absurd (by decide +kernel) hc155) (fun hc155 => ?_)
    refine g_iload X175 hx (hb hby at_158) (pc' := 160) rfl rfl ?_
    refine g_iloadN X175 hx (hb hby at_160) (pc' := 161) rfl rfl ?_
    refine g_iloadN X175 hx (hb hby at_161) (pc' := 162) rfl rfl ?_
    refine g_iloadN X175 hx (hb hby at_162) (pc' := 163) rfl rfl ?_
    obtain ⟨v176, T176, h176, L176, X176, e176, N176, q176, st176⟩ := h_static X175 hx (W := 1) (Ls := #[.val (.int p0), .val (.int p1), .val (.int p2), .val (.int (4 : Int32)), .val (.ref b135), .val (.ref b155), .val (.int (fin2 ((fin1 ((1732292904 : Int32) ^^^ (mixV (wordV (byt (byt p0)) (byt (byt (ushr p0 (8 : Int32)))) (byt (byt (ushr p0 (16 : Int32)))) (byt (byt (ushr p0 (24 : Int32)))))))) * (1540483477 : Int32)))), .val (.int (fin2 ((fin1 ((((-1756908914 : Int32) ^^^ (shl ((byt (50 : Int32)) &&& (255 : Int32)) (0 : Int32))) ^^^ (shl ((byt (49 : Int32)) &&& (255 : Int32)) (8 : Int32))) * (1540483477 : Int32))) * (1540483477 : Int32))))]) (argsL := [(.int p0), (.int p1), (.int (4 : Int32))]) (rest := [(.int (fin2 ((fin1 ((1732292904 : Int32) ^^^ (mixV (wordV (byt (byt p0)) (byt (byt (ushr p0 (8 : Int32)))) (byt (byt (ushr p0 (16 : Int32)))) (byt (byt (ushr p0 (24 : Int32)))))))) * (1540483477 : Int32))))]) hZ e175 N175 hml hown (rm2_4 l Z a0 hw p0 p1 h168 n0 Z172) (hw _ (List.mem_of_getElem? (i := 9) rfl)) (hw _ (List.mem_of_getElem? (i := 10) rfl)) (hw _ (List.mem_of_getElem? (i := 11) rfl)) (hw _ (List.mem_of_getElem? (i := 12) rfl)) (by decide) pd__III_I rfl rfl (hb hby at_163) rfl (by decide) (by decide) (by decide) (by decide)
    obtain ⟨rfl, rfl⟩ := q176
    refine Go.movp st176 (mkF m 166 #[.val (.int p0), .val (.int p1), .val (.int p2), .val (.int (4 : Int32)), .val (.ref b135), .val (.ref b155), .val (.int (fin2 ((fin1 ((1732292904 : Int32) ^^^ (mixV (wordV (byt (byt p0)) (byt (byt (ushr p0 (8 : Int32)))) (byt (byt (ushr p0 (16 : Int32)))) (byt (byt (ushr p0 (24 : Int32)))))))) * (1540483477 : Int32)))), .val (.int (fin2 ((fin1 ((((-1756908914 : Int32) ^^^ (shl ((byt (50 : Int32)) &&& (255 : Int32)) (0 : Int32))) ^^^ (shl ((byt (49 : Int32)) &&& (255 : Int32)) (8 : Int32))) * (1540483477 : Int32))) * (1540483477 : Int32))))] [(.int (fin2 ((fin1 ((1732292904 : Int32) ^^^ (mixV p0))) * (1540483477 : Int32)))), (.int (fin2 ((fin1 ((1732292904 : Int32) ^^^ (mixV (wordV (byt (byt p0)) (byt (byt (ushr p0 (8 : Int32)))) (byt (byt (ushr p0 (16 : Int32)))) (byt (byt (ushr p0 (24 : Int32)))))))) * (1540483477 : Int32))))]) rfl ?_
    refine g_icmp_ne X176 hx (hb hby at_166) (pc1 := 169) rfl (by decide) (pc2 := 173) (by decide) (fun hc166 => absurd (by rw [own_w]) hc166) (fun hc166 => ?_)
    refine g_iconst X176 hx (hb hby at_169) (pc' := 170) rfl (z := (1 : Int32)) rfl ?_
    refine g_goto X176 hx (hb hby at_170) (by decide) (pc' := 174) (by decide) ?_
    exact g_zreturn X176 hx rfl hret (hb hby at_174) N176 hlk (fun v t => endF (by decide) (by decide) v) (by rw [e176]; exact rfl)
  · skip
    refine Go.cast (show (mkF m 7 #[.val (.int p0), .val (.int p1), .val (.int p2), .unset, .unset, .unset, .unset, .unset] [(.int ((p2 &&& (2147483647 : Int32)) % (9 : Int32)))]) = (mkF m 7 #[.val (.int p0), .val (.int p1), .val (.int p2), .unset, .unset, .unset, .unset, .unset] [(.int (5 : Int32))]) from by rw [show ((p2 &&& (2147483647 : Int32)) % (9 : Int32)) = (5 : Int32) from ql]) ?_
    refine g_istoreN X0 hx (hb hby at_7) (pc' := 8) rfl (Ls' := #[.val (.int p0), .val (.int p1), .val (.int p2), .val (.int (5 : Int32)), .unset, .unset, .unset, .unset]) rfl ?_
    refine g_iloadN X0 hx (hb hby at_8) (pc' := 9) rfl rfl ?_
    obtain ⟨T177, h177, b177, X177, e177, g177, E177, V177, A177, st177⟩ := h_newarray X0 hx hZ e0 (n := (5 : Int32)) (ty := .byte) rfl (hw _ (List.mem_of_getElem? (i := 1) rfl)) (hb hby at_9) (k := 5) (cap := 5) (by decide) rfl (by decide) (by decide) (by decide) (by decide) (ad := "[B") (by decide) #[.val (.int p0), .val (.int p1), .val (.int p2), .val (.int (5 : Int32)), .unset, .unset, .unset, .unset] []
    have ge178 : n0 ≤ b177 := g177 ▸ Z0
    have Z179 : n0 ≤ h177.size := Nat.le_trans Z0 E177.1
    have f180 : Va Z h177 b177 .byte [(.int (0 : Int32)), (.int (0 : Int32)), (.int (0 : Int32)), (.int (0 : Int32)), (.int (0 : Int32))] := V177
    refine Go.movp st177 (mkF m 11 #[.val (.int p0), .val (.int p1), .val (.int p2), .val (.int (5 : Int32)), .unset, .unset, .unset, .unset] [(.ref b177)]) rfl ?_
    refine g_astore X177 hx (hb hby at_11) (pc' := 13) rfl rfl (Ls' := #[.val (.int p0), .val (.int p1), .val (.int p2), .val (.int (5 : Int32)), .val (.ref b177), .unset, .unset, .unset]) rfl ?_
    refine g_iloadN X177 hx (hb hby at_13) (pc' := 14) rfl rfl ?_
    refine g_if_le X177 hx (hb hby at_14) (pc1 := 17) rfl (by decide) (pc2 := 23) (by decide) (fun hc14 => absurd (by decide) hc14) (fun hc14 => ?_)
    refine g_aload X177 hx (hb hby at_17) (pc' := 19) rfl rfl rfl ?_
    refine g_iconst X177 hx (hb hby at_19) (pc' := 20) rfl (z := (0 : Int32)) rfl ?_
    refine g_iloadN X177 hx (hb hby at_20) (pc' := 21) rfl rfl ?_
    refine g_i2b X177 hx (hb hby at_21) (pc' := 22) rfl ?_
    obtain ⟨T181, h181, L181, X181, e181, N181, W181, V181, st181⟩ := h_bastore X177 hx hZ e177 N0 f180 ge178 (j := (0 : Int32)) (i := 0) (x := (byt p0)) (hb hby at_22) (by decide) rfl rfl #[.val (.int p0), .val (.int p1), .val (.int p2), .val (.int (5 : Int32)), .val (.ref b177), .unset, .unset, .unset] []
    have f182 := Exa.wr W181 A177
    have Z183 : n0 ≤ h181.size := Nat.le_trans Z179 (Keep.of_wr W181).1
    have f184 : Va Z h181 b177 .byte [(.int (byt (byt p0))), (.int (0 : Int32)), (.int (0 : Int32)), (.int (0 : Int32)), (.int (0 : Int32))] := V181
    refine Go.movp st181 (mkF m 23 #[.val (.int p0), .val (.int p1), .val (.int p2), .val (.int (5 : Int32)), .val (.ref b177), .unset, .unset, .unset] []) rfl ?_
    refine g_iloadN X181 hx (hb hby at_23) (pc' := 24) rfl rfl ?_
    refine g_iconst X181 hx (hb hby at_24) (pc' := 25) rfl (z := (1 : Int32)) rfl ?_
    refine g_icmp_le X181 hx (hb hby at_25) (pc1 := 28) rfl (by decide) (pc2 := 37) (by decide) (fun hc25 => absurd (by decide) hc25) (fun hc25 => ?_)
    refine g_aload X181 hx (hb hby at_28) (pc' := 30) rfl rfl rfl ?_
    refine g_iconst X181 hx (hb hby at_30) (pc' := 31) rfl (z := (1 : Int32)) rfl ?_
    refine g_iloadN X181 hx (hb hby at_31) (pc' := 32) rfl rfl ?_
    refine g_bipush X181 hx (hb hby at_32) (pc' := 34) rfl (z := (8 : Int32)) rfl ?_
    refine g_iushr X181 hx (hb hby at_34) (pc' := 35) rfl ?_
    refine g_i2b X181 hx (hb hby at_35) (pc' := 36) rfl ?_
    obtain ⟨T185, h185, L185, X185, e185, N185, W185, V185, st185⟩ := h_bastore X181 hx hZ e181 N181 f184 ge178 (j := (1 : Int32)) (i := 1) (x := (byt (ushr p0 (8 : Int32)))) (hb hby at_36) (by decide) rfl rfl #[.val (.int p0), .val (.int p1), .val (.int p2), .val (.int (5 : Int32)), .val (.ref b177), .unset, .unset, .unset] []
    have f186 := Exa.wr W185 f182
    have Z187 : n0 ≤ h185.size := Nat.le_trans Z183 (Keep.of_wr W185).1
    have f188 : Va Z h185 b177 .byte [(.int (byt (byt p0))), (.int (byt (byt (ushr p0 (8 : Int32))))), (.int (0 : Int32)), (.int (0 : Int32)), (.int (0 : Int32))] := V185
    refine Go.movp st185 (mkF m 37 #[.val (.int p0), .val (.int p1), .val (.int p2), .val (.int (5 : Int32)), .val (.ref b177), .unset, .unset, .unset] []) rfl ?_
    refine g_iloadN X185 hx (hb hby at_37) (pc' := 38) rfl rfl ?_
    refine g_iconst X185 hx (hb hby at_38) (pc' := 39) rfl (z := (2 : Int32)) rfl ?_
    refine g_icmp_le X185 hx (hb hby at_39) (pc1 := 42) rfl (by decide) (pc2 := 51) (by decide) (fun hc39 => absurd (by decide) hc39) (fun hc39 => ?_)
    refine g_aload X185 hx (hb hby at_42) (pc' := 44) rfl rfl rfl ?_
    refine g_iconst X185 hx (hb hby at_44) (pc' := 45) rfl (z := (2 : Int32)) rfl ?_
    refine g_iloadN X185 hx (hb hby at_45) (pc' := 46) rfl rfl ?_
    refine g_bipush X185 hx (hb hby at_46) (pc' := 48) rfl (z := (16 : Int32)) rfl ?_
    refine g_iushr X185 hx (hb hby at_48) (pc' := 49) rfl ?_
    refine g_i2b X185 hx (hb hby at_49) (pc' := 50) rfl ?_
    obtain ⟨T189, h189, L189, X189, e189, N189, W189, V189, st189⟩ := h_bastore X185 hx hZ e185 N185 f188 ge178 (j := (2 : Int32)) (i := 2) (x := (byt (ushr p0 (16 : Int32)))) (hb hby at_50) (by decide) rfl rfl #[.val (.int p0), .val (.int p1), .val (.int p2), .val (.int (5 : Int32)), .val (.ref b177), .unset, .unset, .unset] []
    have f190 := Exa.wr W189 f186
    have Z191 : n0 ≤ h189.size := Nat.le_trans Z187 (Keep.of_wr W189).1
    have f192 : Va Z h189 b177 .byte [(.int (byt (byt p0))), (.int (byt (byt (ushr p0 (8 : Int32))))), (.int (byt (byt (ushr p0 (16 : Int32))))), (.int (0 : Int32)), (.int (0 : Int32))] := V189
    refine Go.movp st189 (mkF m 51 #[.val (.int p0), .val (.int p1), .val (.int p2), .val (.int (5 : Int32)), .val (.ref b177), .unset, .unset, .unset] []) rfl ?_
    refine g_iloadN X189 hx (hb hby at_51) (pc' := 52) rfl rfl ?_
    refine g_iconst X189 hx (hb hby at_52) (pc' := 53) rfl (z := (3 : Int32)) rfl ?_
    refine g_icmp_le X189 hx (hb hby at_53) (pc1 := 56) rfl (by decide) (pc2 := 65) (by decide) (fun hc53 => absurd (by decide) hc53) (fun hc53 => ?_)
    refine g_aload X189 hx (hb hby at_56) (pc' := 58) rfl rfl rfl ?_
    refine g_iconst X189 hx (hb hby at_58) (pc' := 59) rfl (z := (3 : Int32)) rfl ?_
    refine g_iloadN X189 hx (hb hby at_59) (pc' := 60) rfl rfl ?_
    refine g_bipush X189 hx (hb hby at_60) (pc' := 62) rfl (z := (24 : Int32)) rfl ?_
    refine g_iushr X189 hx (hb hby at_62) (pc' := 63) rfl ?_
    refine g_i2b X189 hx (hb hby at_63) (pc' := 64) rfl ?_
    obtain ⟨T193, h193, L193, X193, e193, N193, W193, V193, st193⟩ := h_bastore X189 hx hZ e189 N189 f192 ge178 (j := (3 : Int32)) (i := 3) (x := (byt (ushr p0 (24 : Int32)))) (hb hby at_64) (by decide) rfl rfl #[.val (.int p0), .val (.int p1), .val (.int p2), .val (.int (5 : Int32)), .val (.ref b177), .unset, .unset, .unset] []
    have f194 := Exa.wr W193 f190
    have Z195 : n0 ≤ h193.size := Nat.le_trans Z191 (Keep.of_wr W193).1
    have f196 : Va Z h193 b177 .byte [(.int (byt (byt p0))), (.int (byt (byt (ushr p0 (8 : Int32))))), (.int (byt (byt (ushr p0 (16 : Int32))))), (.int (byt (byt (ushr p0 (24 : Int32))))), (.int (0 : Int32))] := V193
    refine Go.movp st193 (mkF m 65 #[.val (.int p0), .val (.int p1), .val (.int p2), .val (.int (5 : Int32)), .val (.ref b177), .unset, .unset, .unset] []) rfl ?_
    refine g_iloadN X193 hx (hb hby at_65) (pc' := 66) rfl rfl ?_
    refine g_iconst X193 hx (hb hby at_66) (pc' := 67) rfl (z := (4 : Int32)) rfl ?_
    refine g_icmp_le X193 hx (hb hby at_67) (pc1 := 70) rfl (by decide) (pc2 := 76) (by decide) (fun hc67 => absurd (by decide) hc67) (fun hc67 => ?_)
    refine g_aload X193 hx (hb hby at_70) (pc' := 72) rfl rfl rfl ?_
    refine g_iconst X193 hx (hb hby at_72) (pc' := 73) rfl (z := (4 : Int32)) rfl ?_
    refine g_iloadN X193 hx (hb hby at_73) (pc' := 74) rfl rfl ?_
    refine g_i2b X193 hx (hb hby at_74) (pc' := 75) rfl ?_
    obtain ⟨T197, h197, L197, X197, e197, N197, W197, V197, st197⟩ := h_bastore X193 hx hZ e193 N193 f196 ge178 (j := (4 : Int32)) (i := 4) (x := (byt p1)) (hb hby at_75) (by decide) rfl rfl #[.val (.int p0), .val (.int p1), .val (.int p2), .val (.int (5 : Int32)), .val (.ref b177), .unset, .unset, .unset] []
    have f198 := Exa.wr W197 f194
    have Z199 : n0 ≤ h197.size := Nat.le_trans Z195 (Keep.of_wr W197).1
    have f200 : Va Z h197 b177 .byte [(.int (byt (byt p0))), (.int (byt (byt (ushr p0 (8 : Int32))))), (.int (byt (byt (ushr p0 (16 : Int32))))), (.int (byt (byt (ushr p0 (24 : Int32))))), (.int (byt (byt p1)))] := V197
    refine Go.movp st197 (mkF m 76 #[.val (.int p0), .val (.int p1), .val (.int p2), .val (.int (5 : Int32)), .val (.ref b177), .unset, .unset, .unset] []) rfl ?_
    refine g_iloadN X197 hx (hb hby at_76) (pc' := 77) rfl rfl ?_
    refine g_iconst X197 hx (hb hby at_77) (pc' := 78) rfl (z := (5 : Int32)) rfl ?_
    refine g_icmp_le X197 hx (hb hby at_78) (pc1 := 81) rfl (by decide) (pc2 := 90) (by decide) (fun hc78 => ?_) (fun hc78 => absurd hc78 (by decide))
    refine g_iloadN X197 hx (hb hby at_90) (pc' := 91) rfl rfl ?_
    refine g_bipush X197 hx (hb hby at_91) (pc' := 93) rfl (z := (6 : Int32)) rfl ?_
    refine g_icmp_le X197 hx (hb hby at_93) (pc1 := 96) rfl (by decide) (pc2 := 106) (by decide) (fun hc93 => ?_) (fun hc93 => absurd hc93 (by decide))
    refine g_iloadN X197 hx (hb hby at_106) (pc' := 107) rfl rfl ?_
    refine g_bipush X197 hx (hb hby at_107) (pc' := 109) rfl (z := (7 : Int32)) rfl ?_
    refine g_icmp_le X197 hx (hb hby at_109) (pc1 := 112) rfl (by decide) (pc2 := 122) (by decide) (fun hc109 => ?_) (fun hc109 => absurd hc109 (by decide))
    refine g_iconst X197 hx (hb hby at_122) (pc' := 123) rfl (z := (2 : Int32)) rfl ?_
    obtain ⟨T201, h201, b201, X201, e201, g201, E201, V201, A201, st201⟩ := h_newarray X197 hx hZ e197 (n := (2 : Int32)) (ty := .byte) rfl (hw _ (List.mem_of_getElem? (i := 1) rfl)) (hb hby at_123) (k := 2) (cap := 2) (by decide) rfl (by decide) (by decide) (by decide) (by decide) (ad := "[B") (by decide) #[.val (.int p0), .val (.int p1), .val (.int p2), .val (.int (5 : Int32)), .val (.ref b177), .unset, .unset, .unset] []
    have ne202 : b177 ≠ b201 := Nat.ne_of_lt (g201 ▸ f198.lt)
    have ge203 : n0 ≤ b201 := g201 ▸ Z199
    have f204 := Exa.ext E201 f198
    have f205 := f200.ext E201
    have Z206 : n0 ≤ h201.size := Nat.le_trans Z199 E201.1
    have f207 : Va Z h201 b201 .byte [(.int (0 : Int32)), (.int (0 : Int32))] := V201
    refine Go.movp st201 (mkF m 125 #[.val (.int p0), .val (.int p1), .val (.int p2), .val (.int (5 : Int32)), .val (.ref b177), .unset, .unset, .unset] [(.ref b201)]) rfl ?_
    refine g_dup X201 hx (hb hby at_125) (pc' := 126) rfl rfl ?_
    refine g_iconst X201 hx (hb hby at_126) (pc' := 127) rfl (z := (0 : Int32)) rfl ?_
    refine g_bipush X201 hx (hb hby at_127) (pc' := 129) rfl (z := (50 : Int32)) rfl ?_
    obtain ⟨T208, h208, L208, X208, e208, N208, W208, V208, st208⟩ := h_bastore X201 hx hZ e201 N197 f207 ge203 (j := (0 : Int32)) (i := 0) (x := (50 : Int32)) (hb hby at_129) (by decide) rfl rfl #[.val (.int p0), .val (.int p1), .val (.int p2), .val (.int (5 : Int32)), .val (.ref b177), .unset, .unset, .unset] [(.ref b201)]
    have f209 := Exa.wr W208 f204
    have f210 := f205.other W208 ne202
    have f211 := Exa.wr W208 A201
    have Z212 : n0 ≤ h208.size := Nat.le_trans Z206 (Keep.of_wr W208).1
    have f213 : Va Z h208 b201 .byte [(.int (byt (50 : Int32))), (.int (0 : Int32))] := V208
    refine Go.movp st208 (mkF m 130 #[.val (.int p0), .val (.int p1), .val (.int p2), .val (.int (5 : Int32)), .val (.ref b177), .unset, .unset, .unset] [(.ref b201)]) rfl ?_
    refine g_dup X208 hx (hb hby at_130) (pc' := 131) rfl rfl ?_
    refine g_iconst X208 hx (hb hby at_131) (pc' := 132) rfl (z := (1 : Int32)) rfl ?_
    refine g_bipush X208 hx (hb hby at_132) (pc' := 134) rfl (z := (49 : Int32)) rfl ?_
    obtain ⟨T214, h214, L214, X214, e214, N214, W214, V214, st214⟩ := h_bastore X208 hx hZ e208 N208 f213 ge203 (j := (1 : Int32)) (i := 1) (x := (49 : Int32)) (hb hby at_134) (by decide) rfl rfl #[.val (.int p0), .val (.int p1), .val (.int p2), .val (.int (5 : Int32)), .val (.ref b177), .unset, .unset, .unset] [(.ref b201)]
    have f215 := Exa.wr W214 f209
    have f216 := f210.other W214 ne202
    have f217 := Exa.wr W214 f211
    have Z218 : n0 ≤ h214.size := Nat.le_trans Z212 (Keep.of_wr W214).1
    have f219 : Va Z h214 b201 .byte [(.int (byt (50 : Int32))), (.int (byt (49 : Int32)))] := V214
    refine Go.movp st214 (mkF m 135 #[.val (.int p0), .val (.int p1), .val (.int p2), .val (.int (5 : Int32)), .val (.ref b177), .unset, .unset, .unset] [(.ref b201)]) rfl ?_
    refine g_astore X214 hx (hb hby at_135) (pc' := 137) rfl rfl (Ls' := #[.val (.int p0), .val (.int p1), .val (.int p2), .val (.int (5 : Int32)), .val (.ref b177), .val (.ref b201), .unset, .unset]) rfl ?_
    refine g_aload X214 hx (hb hby at_137) (pc' := 139) rfl rfl rfl ?_
    obtain ⟨v220, T220, h220, L220, X220, e220, N220, q220, st220⟩ := h_static X214 hx (W := 0) (Ls := #[.val (.int p0), .val (.int p1), .val (.int p2), .val (.int (5 : Int32)), .val (.ref b177), .val (.ref b201), .unset, .unset]) (argsL := [(.ref b177)]) (rest := []) hZ e214 N214 hml hown (rm1_5 l Z a0 hw b177 (byt (byt p0)) (byt (byt (ushr p0 (8 : Int32)))) (byt (byt (ushr p0 (16 : Int32)))) (byt (byt (ushr p0 (24 : Int32)))) (byt (byt p1)) h214 n0 Z218 f216) (hw _ (List.mem_of_getElem? (i := 2) rfl)) (hw _ (List.mem_of_getElem? (i := 3) rfl)) (hw _ (List.mem_of_getElem? (i := 4) rfl)) (hw _ (List.mem_of_getElem? (i := 5) rfl)) (by decide) pd___B_I rfl rfl (hb hby at_139) rfl (by decide) (by decide) (by decide) (by decide)
    obtain ⟨rfl, rfl⟩ := q220
    refine Go.movp st220 (mkF m 142 #[.val (.int p0), .val (.int p1), .val (.int p2), .val (.int (5 : Int32)), .val (.ref b177), .val (.ref b201), .unset, .unset] [(.int (fin2 ((fin1 ((((-1022190915 : Int32) ^^^ (mixV (wordV (byt (byt p0)) (byt (byt (ushr p0 (8 : Int32)))) (byt (byt (ushr p0 (16 : Int32)))) (byt (byt (ushr p0 (24 : Int32))))))) ^^^ (shl ((byt (byt p1)) &&& (255 : Int32)) (0 : Int32))) * (1540483477 : Int32))) * (1540483477 : Int32))))]) rfl ?_
    refine g_istore X220 hx (hb hby at_142) (pc' := 144) rfl (Ls' := #[.val (.int p0), .val (.int p1), .val (.int p2), .val (.int (5 : Int32)), .val (.ref b177), .val (.ref b201), .val (.int (fin2 ((fin1 ((((-1022190915 : Int32) ^^^ (mixV (wordV (byt (byt p0)) (byt (byt (ushr p0 (8 : Int32)))) (byt (byt (ushr p0 (16 : Int32)))) (byt (byt (ushr p0 (24 : Int32))))))) ^^^ (shl ((byt (byt p1)) &&& (255 : Int32)) (0 : Int32))) * (1540483477 : Int32))) * (1540483477 : Int32)))), .unset]) rfl ?_
    refine g_aload X220 hx (hb hby at_144) (pc' := 146) rfl rfl rfl ?_
    obtain ⟨v221, T221, h221, L221, X221, e221, N221, q221, st221⟩ := h_static X220 hx (W := 0) (Ls := #[.val (.int p0), .val (.int p1), .val (.int p2), .val (.int (5 : Int32)), .val (.ref b177), .val (.ref b201), .val (.int (fin2 ((fin1 ((((-1022190915 : Int32) ^^^ (mixV (wordV (byt (byt p0)) (byt (byt (ushr p0 (8 : Int32)))) (byt (byt (ushr p0 (16 : Int32)))) (byt (byt (ushr p0 (24 : Int32))))))) ^^^ (shl ((byt (byt p1)) &&& (255 : Int32)) (0 : Int32))) * (1540483477 : Int32))) * (1540483477 : Int32)))), .unset]) (argsL := [(.ref b201)]) (rest := []) hZ e220 N220 hml hown (rm1_2 l Z a0 hw b201 (byt (50 : Int32)) (byt (49 : Int32)) h214 n0 Z218 f219) (hw _ (List.mem_of_getElem? (i := 2) rfl)) (hw _ (List.mem_of_getElem? (i := 3) rfl)) (hw _ (List.mem_of_getElem? (i := 4) rfl)) (hw _ (List.mem_of_getElem? (i := 5) rfl)) (by decide) pd___B_I rfl rfl (hb hby at_146) rfl (by decide) (by decide) (by decide) (by decide)
    obtain ⟨rfl, rfl⟩ := q221
    refine Go.movp st221 (mkF m 149 #[.val (.int p0), .val (.int p1), .val (.int p2), .val (.int (5 : Int32)), .val (.ref b177), .val (.ref b201), .val (.int (fin2 ((fin1 ((((-1022190915 : Int32) ^^^ (mixV (wordV (byt (byt p0)) (byt (byt (ushr p0 (8 : Int32)))) (byt (byt (ushr p0 (16 : Int32)))) (byt (byt (ushr p0 (24 : Int32))))))) ^^^ (shl ((byt (byt p1)) &&& (255 : Int32)) (0 : Int32))) * (1540483477 : Int32))) * (1540483477 : Int32)))), .unset] [(.int (fin2 ((fin1 ((((-1756908914 : Int32) ^^^ (shl ((byt (50 : Int32)) &&& (255 : Int32)) (0 : Int32))) ^^^ (shl ((byt (49 : Int32)) &&& (255 : Int32)) (8 : Int32))) * (1540483477 : Int32))) * (1540483477 : Int32))))]) rfl ?_
    refine g_istore X221 hx (hb hby at_149) (pc' := 151) rfl (Ls' := #[.val (.int p0), .val (.int p1), .val (.int p2), .val (.int (5 : Int32)), .val (.ref b177), .val (.ref b201), .val (.int (fin2 ((fin1 ((((-1022190915 : Int32) ^^^ (mixV (wordV (byt (byt p0)) (byt (byt (ushr p0 (8 : Int32)))) (byt (byt (ushr p0 (16 : Int32)))) (byt (byt (ushr p0 (24 : Int32))))))) ^^^ (shl ((byt (byt p1)) &&& (255 : Int32)) (0 : Int32))) * (1540483477 : Int32))) * (1540483477 : Int32)))), .val (.int (fin2 ((fin1 ((((-1756908914 : Int32) ^^^ (shl ((byt (50 : Int32)) &&& (255 : Int32)) (0 : Int32))) ^^^ (shl ((byt (49 : Int32)) &&& (255 : Int32)) (8 : Int32))) * (1540483477 : Int32))) * (1540483477 : Int32))))]) rfl ?_
    refine g_iload X221 hx (hb hby at_151) (pc' := 153) rfl rfl ?_
    refine g_ldc X221 hx hZ hown (hw _ (List.mem_of_getElem? (i := 8) rfl)) (hb hby at_153) (pc' := 155) rfl ?_
    refine g_icmp_ne X221 hx (hb hby at_155) (pc1 := 158) rfl (by decide) (pc2 := 173) (by decide) (fun hc155 => absurd (by decide +kernel) hc155) (fun hc155 => ?_)
    refine g_iload X221 hx (hb hby at_158) (pc' := 160) rfl rfl ?_
    refine g_iloadN X221 hx (hb hby at_160) (pc' := 161) rfl rfl ?_
    refine g_iloadN X221 hx (hb hby at_161) (pc' := 162) rfl rfl ?_
    refine g_iloadN X221 hx (hb hby at_162) (pc' := 163) rfl rfl ?_
    obtain ⟨v222, T222, h222, L222, X222, e222, N222, q222, st222⟩ := h_static X221 hx (W := 1) (Ls := #[.val (.int p0), .val (.int p1), .val (.int p2), .val (.int (5 : Int32)), .val (.ref b177), .val (.ref b201), .val (.int (fin2 ((fin1 ((((-1022190915 : Int32) ^^^ (mixV (wordV (byt (byt p0)) (byt (byt (ushr p0 (8 : Int32)))) (byt (byt (ushr p0 (16 : Int32)))) (byt (byt (ushr p0 (24 : Int32))))))) ^^^ (shl ((byt (byt p1)) &&& (255 : Int32)) (0 : Int32))) * (1540483477 : Int32))) * (1540483477 : Int32)))), .val (.int (fin2 ((fin1 ((((-1756908914 : Int32) ^^^ (shl ((byt (50 : Int32)) &&& (255 : Int32)) (0 : Int32))) ^^^ (shl ((byt (49 : Int32)) &&& (255 : Int32)) (8 : Int32))) * (1540483477 : Int32))) * (1540483477 : Int32))))]) (argsL := [(.int p0), (.int p1), (.int (5 : Int32))]) (rest := [(.int (fin2 ((fin1 ((((-1022190915 : Int32) ^^^ (mixV (wordV (byt (byt p0)) (byt (byt (ushr p0 (8 : Int32)))) (byt (byt (ushr p0 (16 : Int32)))) (byt (byt (ushr p0 (24 : Int32))))))) ^^^ (shl ((byt (byt p1)) &&& (255 : Int32)) (0 : Int32))) * (1540483477 : Int32))) * (1540483477 : Int32))))]) hZ e221 N221 hml hown (rm2_5 l Z a0 hw p0 p1 h214 n0 Z218) (hw _ (List.mem_of_getElem? (i := 9) rfl)) (hw _ (List.mem_of_getElem? (i := 10) rfl)) (hw _ (List.mem_of_getElem? (i := 11) rfl)) (hw _ (List.mem_of_getElem? (i := 12) rfl)) (by decide) pd__III_I rfl rfl (hb hby at_163) rfl (by decide) (by decide) (by decide) (by decide)
    obtain ⟨rfl, rfl⟩ := q222
    refine Go.movp st222 (mkF m 166 #[.val (.int p0), .val (.int p1), .val (.int p2), .val (.int (5 : Int32)), .val (.ref b177), .val (.ref b201), .val (.int (fin2 ((fin1 ((((-1022190915 : Int32) ^^^ (mixV (wordV (byt (byt p0)) (byt (byt (ushr p0 (8 : Int32)))) (byt (byt (ushr p0 (16 : Int32)))) (byt (byt (ushr p0 (24 : Int32))))))) ^^^ (shl ((byt (byt p1)) &&& (255 : Int32)) (0 : Int32))) * (1540483477 : Int32))) * (1540483477 : Int32)))), .val (.int (fin2 ((fin1 ((((-1756908914 : Int32) ^^^ (shl ((byt (50 : Int32)) &&& (255 : Int32)) (0 : Int32))) ^^^ (shl ((byt (49 : Int32)) &&& (255 : Int32)) (8 : Int32))) * (1540483477 : Int32))) * (1540483477 : Int32))))] [(.int (fin2 ((fin1 ((((-1022190915 : Int32) ^^^ (mixV p0)) ^^^ (p1 &&& (255 : Int32))) * (1540483477 : Int32))) * (1540483477 : Int32)))), (.int (fin2 ((fin1 ((((-1022190915 : Int32) ^^^ (mixV (wordV (byt (byt p0)) (byt (byt (ushr p0 (8 : Int32)))) (byt (byt (ushr p0 (16 : Int32)))) (byt (byt (ushr p0 (24 : Int32))))))) ^^^ (shl ((byt (byt p1)) &&& (255 : Int32)) (0 : Int32))) * (1540483477 : Int32))) * (1540483477 : Int32))))]) rfl ?_
    refine g_icmp_ne X222 hx (hb hby at_166) (pc1 := 169) rfl (by decide) (pc2 := 173) (by decide) (fun hc166 => absurd (by rw [own_w, own_1]) hc166) (fun hc166 => ?_)
    refine g_iconst X222 hx (hb hby at_169) (pc' := 170) rfl (z := (1 : Int32)) rfl ?_
    refine g_goto X222 hx (hb hby at_170) (by decide) (pc' := 174) (by decide) ?_
    exact g_zreturn X222 hx rfl hret (hb hby at_174) N222 hlk (fun v t => endF (by decide) (by decide) v) (by rw [e222]; exact rfl)
  · skip
    refine Go.cast (show (mkF m 7 #[.val (.int p0), .val (.int p1), .val (.int p2), .unset, .unset, .unset, .unset, .unset] [(.int ((p2 &&& (2147483647 : Int32)) % (9 : Int32)))]) = (mkF m 7 #[.val (.int p0), .val (.int p1), .val (.int p2), .unset, .unset, .unset, .unset, .unset] [(.int (6 : Int32))]) from by rw [show ((p2 &&& (2147483647 : Int32)) % (9 : Int32)) = (6 : Int32) from ql]) ?_
    refine g_istoreN X0 hx (hb hby at_7) (pc' := 8) rfl (Ls' := #[.val (.int p0), .val (.int p1), .val (.int p2), .val (.int (6 : Int32)), .unset, .unset, .unset, .unset]) rfl ?_
    refine g_iloadN X0 hx (hb hby at_8) (pc' := 9) rfl rfl ?_
    obtain ⟨T223, h223, b223, X223, e223, g223, E223, V223, A223, st223⟩ := h_newarray X0 hx hZ e0 (n := (6 : Int32)) (ty := .byte) rfl (hw _ (List.mem_of_getElem? (i := 1) rfl)) (hb hby at_9) (k := 6) (cap := 6) (by decide) rfl (by decide) (by decide) (by decide) (by decide) (ad := "[B") (by decide) #[.val (.int p0), .val (.int p1), .val (.int p2), .val (.int (6 : Int32)), .unset, .unset, .unset, .unset] []
    have ge224 : n0 ≤ b223 := g223 ▸ Z0
    have Z225 : n0 ≤ h223.size := Nat.le_trans Z0 E223.1
    have f226 : Va Z h223 b223 .byte [(.int (0 : Int32)), (.int (0 : Int32)), (.int (0 : Int32)), (.int (0 : Int32)), (.int (0 : Int32)), (.int (0 : Int32))] := V223
    refine Go.movp st223 (mkF m 11 #[.val (.int p0), .val (.int p1), .val (.int p2), .val (.int (6 : Int32)), .unset, .unset, .unset, .unset] [(.ref b223)]) rfl ?_
    refine g_astore X223 hx (hb hby at_11) (pc' := 13) rfl rfl (Ls' := #[.val (.int p0), .val (.int p1), .val (.int p2), .val (.int (6 : Int32)), .val (.ref b223), .unset, .unset, .unset]) rfl ?_
    refine g_iloadN X223 hx (hb hby at_13) (pc' := 14) rfl rfl ?_
    refine g_if_le X223 hx (hb hby at_14) (pc1 := 17) rfl (by decide) (pc2 := 23) (by decide) (fun hc14 => absurd (by decide) hc14) (fun hc14 => ?_)
    refine g_aload X223 hx (hb hby at_17) (pc' := 19) rfl rfl rfl ?_
    refine g_iconst X223 hx (hb hby at_19) (pc' := 20) rfl (z := (0 : Int32)) rfl ?_
    refine g_iloadN X223 hx (hb hby at_20) (pc' := 21) rfl rfl ?_
    refine g_i2b X223 hx (hb hby at_21) (pc' := 22) rfl ?_
    obtain ⟨T227, h227, L227, X227, e227, N227, W227, V227, st227⟩ := h_bastore X223 hx hZ e223 N0 f226 ge224 (j := (0 : Int32)) (i := 0) (x := (byt p0)) (hb hby at_22) (by decide) rfl rfl #[.val (.int p0), .val (.int p1), .val (.int p2), .val (.int (6 : Int32)), .val (.ref b223), .unset, .unset, .unset] []
    have f228 := Exa.wr W227 A223
    have Z229 : n0 ≤ h227.size := Nat.le_trans Z225 (Keep.of_wr W227).1
    have f230 : Va Z h227 b223 .byte [(.int (byt (byt p0))), (.int (0 : Int32)), (.int (0 : Int32)), (.int (0 : Int32)), (.int (0 : Int32)), (.int (0 : Int32))] := V227
    refine Go.movp st227 (mkF m 23 #[.val (.int p0), .val (.int p1), .val (.int p2), .val (.int (6 : Int32)), .val (.ref b223), .unset, .unset, .unset] []) rfl ?_
    refine g_iloadN X227 hx (hb hby at_23) (pc' := 24) rfl rfl ?_
    refine g_iconst X227 hx (hb hby at_24) (pc' := 25) rfl (z := (1 : Int32)) rfl ?_
    refine g_icmp_le X227 hx (hb hby at_25) (pc1 := 28) rfl (by decide) (pc2 := 37) (by decide) (fun hc25 => absurd (by decide) hc25) (fun hc25 => ?_)
    refine g_aload X227 hx (hb hby at_28) (pc' := 30) rfl rfl rfl ?_
    refine g_iconst X227 hx (hb hby at_30) (pc' := 31) rfl (z := (1 : Int32)) rfl ?_
    refine g_iloadN X227 hx (hb hby at_31) (pc' := 32) rfl rfl ?_
    refine g_bipush X227 hx (hb hby at_32) (pc' := 34) rfl (z := (8 : Int32)) rfl ?_
    refine g_iushr X227 hx (hb hby at_34) (pc' := 35) rfl ?_
    refine g_i2b X227 hx (hb hby at_35) (pc' := 36) rfl ?_
    obtain ⟨T231, h231, L231, X231, e231, N231, W231, V231, st231⟩ := h_bastore X227 hx hZ e227 N227 f230 ge224 (j := (1 : Int32)) (i := 1) (x := (byt (ushr p0 (8 : Int32)))) (hb hby at_36) (by decide) rfl rfl #[.val (.int p0), .val (.int p1), .val (.int p2), .val (.int (6 : Int32)), .val (.ref b223), .unset, .unset, .unset] []
    have f232 := Exa.wr W231 f228
    have Z233 : n0 ≤ h231.size := Nat.le_trans Z229 (Keep.of_wr W231).1
    have f234 : Va Z h231 b223 .byte [(.int (byt (byt p0))), (.int (byt (byt (ushr p0 (8 : Int32))))), (.int (0 : Int32)), (.int (0 : Int32)), (.int (0 : Int32)), (.int (0 : Int32))] := V231
    refine Go.movp st231 (mkF m 37 #[.val (.int p0), .val (.int p1), .val (.int p2), .val (.int (6 : Int32)), .val (.ref b223), .unset, .unset, .unset] []) rfl ?_
    refine g_iloadN X231 hx (hb hby at_37) (pc' := 38) rfl rfl ?_
    refine g_iconst X231 hx (hb hby at_38) (pc' := 39) rfl (z := (2 : Int32)) rfl ?_
    refine g_icmp_le X231 hx (hb hby at_39) (pc1 := 42) rfl (by decide) (pc2 := 51) (by decide) (fun hc39 => absurd (by decide) hc39) (fun hc39 => ?_)
    refine g_aload X231 hx (hb hby at_42) (pc' := 44) rfl rfl rfl ?_
    refine g_iconst X231 hx (hb hby at_44) (pc' := 45) rfl (z := (2 : Int32)) rfl ?_
    refine g_iloadN X231 hx (hb hby at_45) (pc' := 46) rfl rfl ?_
    refine g_bipush X231 hx (hb hby at_46) (pc' := 48) rfl (z := (16 : Int32)) rfl ?_
    refine g_iushr X231 hx (hb hby at_48) (pc' := 49) rfl ?_
    refine g_i2b X231 hx (hb hby at_49) (pc' := 50) rfl ?_
    obtain ⟨T235, h235, L235, X235, e235, N235, W235, V235, st235⟩ := h_bastore X231 hx hZ e231 N231 f234 ge224 (j := (2 : Int32)) (i := 2) (x := (byt (ushr p0 (16 : Int32)))) (hb hby at_50) (by decide) rfl rfl #[.val (.int p0), .val (.int p1), .val (.int p2), .val (.int (6 : Int32)), .val (.ref b223), .unset, .unset, .unset] []
    have f236 := Exa.wr W235 f232
    have Z237 : n0 ≤ h235.size := Nat.le_trans Z233 (Keep.of_wr W235).1
    have f238 : Va Z h235 b223 .byte [(.int (byt (byt p0))), (.int (byt (byt (ushr p0 (8 : Int32))))), (.int (byt (byt (ushr p0 (16 : Int32))))), (.int (0 : Int32)), (.int (0 : Int32)), (.int (0 : Int32))] := V235
    refine Go.movp st235 (mkF m 51 #[.val (.int p0), .val (.int p1), .val (.int p2), .val (.int (6 : Int32)), .val (.ref b223), .unset, .unset, .unset] []) rfl ?_
    refine g_iloadN X235 hx (hb hby at_51) (pc' := 52) rfl rfl ?_
    refine g_iconst X235 hx (hb hby at_52) (pc' := 53) rfl (z := (3 : Int32)) rfl ?_
    refine g_icmp_le X235 hx (hb hby at_53) (pc1 := 56) rfl (by decide) (pc2 := 65) (by decide) (fun hc53 => absurd (by decide) hc53) (fun hc53 => ?_)
    refine g_aload X235 hx (hb hby at_56) (pc' := 58) rfl rfl rfl ?_
    refine g_iconst X235 hx (hb hby at_58) (pc' := 59) rfl (z := (3 : Int32)) rfl ?_
    refine g_iloadN X235 hx (hb hby at_59) (pc' := 60) rfl rfl ?_
    refine g_bipush X235 hx (hb hby at_60) (pc' := 62) rfl (z := (24 : Int32)) rfl ?_
    refine g_iushr X235 hx (hb hby at_62) (pc' := 63) rfl ?_
    refine g_i2b X235 hx (hb hby at_63) (pc' := 64) rfl ?_
    obtain ⟨T239, h239, L239, X239, e239, N239, W239, V239, st239⟩ := h_bastore X235 hx hZ e235 N235 f238 ge224 (j := (3 : Int32)) (i := 3) (x := (byt (ushr p0 (24 : Int32)))) (hb hby at_64) (by decide) rfl rfl #[.val (.int p0), .val (.int p1), .val (.int p2), .val (.int (6 : Int32)), .val (.ref b223), .unset, .unset, .unset] []
    have f240 := Exa.wr W239 f236
    have Z241 : n0 ≤ h239.size := Nat.le_trans Z237 (Keep.of_wr W239).1
    have f242 : Va Z h239 b223 .byte [(.int (byt (byt p0))), (.int (byt (byt (ushr p0 (8 : Int32))))), (.int (byt (byt (ushr p0 (16 : Int32))))), (.int (byt (byt (ushr p0 (24 : Int32))))), (.int (0 : Int32)), (.int (0 : Int32))] := V239
    refine Go.movp st239 (mkF m 65 #[.val (.int p0), .val (.int p1), .val (.int p2), .val (.int (6 : Int32)), .val (.ref b223), .unset, .unset, .unset] []) rfl ?_
    refine g_iloadN X239 hx (hb hby at_65) (pc' := 66) rfl rfl ?_
    refine g_iconst X239 hx (hb hby at_66) (pc' := 67) rfl (z := (4 : Int32)) rfl ?_
    refine g_icmp_le X239 hx (hb hby at_67) (pc1 := 70) rfl (by decide) (pc2 := 76) (by decide) (fun hc67 => absurd (by decide) hc67) (fun hc67 => ?_)
    refine g_aload X239 hx (hb hby at_70) (pc' := 72) rfl rfl rfl ?_
    refine g_iconst X239 hx (hb hby at_72) (pc' := 73) rfl (z := (4 : Int32)) rfl ?_
    refine g_iloadN X239 hx (hb hby at_73) (pc' := 74) rfl rfl ?_
    refine g_i2b X239 hx (hb hby at_74) (pc' := 75) rfl ?_
    obtain ⟨T243, h243, L243, X243, e243, N243, W243, V243, st243⟩ := h_bastore X239 hx hZ e239 N239 f242 ge224 (j := (4 : Int32)) (i := 4) (x := (byt p1)) (hb hby at_75) (by decide) rfl rfl #[.val (.int p0), .val (.int p1), .val (.int p2), .val (.int (6 : Int32)), .val (.ref b223), .unset, .unset, .unset] []
    have f244 := Exa.wr W243 f240
    have Z245 : n0 ≤ h243.size := Nat.le_trans Z241 (Keep.of_wr W243).1
    have f246 : Va Z h243 b223 .byte [(.int (byt (byt p0))), (.int (byt (byt (ushr p0 (8 : Int32))))), (.int (byt (byt (ushr p0 (16 : Int32))))), (.int (byt (byt (ushr p0 (24 : Int32))))), (.int (byt (byt p1))), (.int (0 : Int32))] := V243
    refine Go.movp st243 (mkF m 76 #[.val (.int p0), .val (.int p1), .val (.int p2), .val (.int (6 : Int32)), .val (.ref b223), .unset, .unset, .unset] []) rfl ?_
    refine g_iloadN X243 hx (hb hby at_76) (pc' := 77) rfl rfl ?_
    refine g_iconst X243 hx (hb hby at_77) (pc' := 78) rfl (z := (5 : Int32)) rfl ?_
    refine g_icmp_le X243 hx (hb hby at_78) (pc1 := 81) rfl (by decide) (pc2 := 90) (by decide) (fun hc78 => absurd (by decide) hc78) (fun hc78 => ?_)
    refine g_aload X243 hx (hb hby at_81) (pc' := 83) rfl rfl rfl ?_
    refine g_iconst X243 hx (hb hby at_83) (pc' := 84) rfl (z := (5 : Int32)) rfl ?_
    refine g_iloadN X243 hx (hb hby at_84) (pc' := 85) rfl rfl ?_
    refine g_bipush X243 hx (hb hby at_85) (pc' := 87) rfl (z := (8 : Int32)) rfl ?_
    refine g_iushr X243 hx (hb hby at_87) (pc' := 88) rfl ?_
    refine g_i2b X243 hx (hb hby at_88) (pc' := 89) rfl ?_
    obtain ⟨T247, h247, L247, X247, e247, N247, W247, V247, st247⟩ := h_bastore X243 hx hZ e243 N243 f246 ge224 (j := (5 : Int32)) (i := 5) (x := (byt (ushr p1 (8 : Int32)))) (hb hby at_89) (by decide) rfl rfl #[.val (.int p0), .val (.int p1), .val (.int p2), .val (.int (6 : Int32)), .val (.ref b223), .unset, .unset, .unset] []
    have f248 := Exa.wr W247 f244
    have Z249 : n0 ≤ h247.size := Nat.le_trans Z245 (Keep.of_wr W247).1
    have f250 : Va Z h247 b223 .byte [(.int (byt (byt p0))), (.int (byt (byt (ushr p0 (8 : Int32))))), (.int (byt (byt (ushr p0 (16 : Int32))))), (.int (byt (byt (ushr p0 (24 : Int32))))), (.int (byt (byt p1))), (.int (byt (byt (ushr p1 (8 : Int32)))))] := V247
    refine Go.movp st247 (mkF m 90 #[.val (.int p0), .val (.int p1), .val (.int p2), .val (.int (6 : Int32)), .val (.ref b223), .unset, .unset, .unset] []) rfl ?_
    refine g_iloadN X247 hx (hb hby at_90) (pc' := 91) rfl rfl ?_
    refine g_bipush X247 hx (hb hby at_91) (pc' := 93) rfl (z := (6 : Int32)) rfl ?_
    refine g_icmp_le X247 hx (hb hby at_93) (pc1 := 96) rfl (by decide) (pc2 := 106) (by decide) (fun hc93 => ?_) (fun hc93 => absurd hc93 (by decide))
    refine g_iloadN X247 hx (hb hby at_106) (pc' := 107) rfl rfl ?_
    refine g_bipush X247 hx (hb hby at_107) (pc' := 109) rfl (z := (7 : Int32)) rfl ?_
    refine g_icmp_le X247 hx (hb hby at_109) (pc1 := 112) rfl (by decide) (pc2 := 122) (by decide) (fun hc109 => ?_) (fun hc109 => absurd hc109 (by decide))
    refine g_iconst X247 hx (hb hby at_122) (pc' := 123) rfl (z := (2 : Int32)) rfl ?_
    obtain ⟨T251, h251, b251, X251, e251, g251, E251, V251, A251, st251⟩ := h_newarray X247 hx hZ e247 (n := (2 : Int32)) (ty := .byte) rfl (hw _ (List.mem_of_getElem? (i := 1) rfl)) (hb hby at_123) (k := 2) (cap := 2) (by decide) rfl (by decide) (by decide) (by decide) (by decide) (ad := "[B") (by decide) #[.val (.int p0), .val (.int p1), .val (.int p2), .val (.int (6 : Int32)), .val (.ref b223), .unset, .unset, .unset] []
    have ne252 : b223 ≠ b251 := Nat.ne_of_lt (g251 ▸ f248.lt)
    have ge253 : n0 ≤ b251 := g251 ▸ Z249
    have f254 := Exa.ext E251 f248
    have f255 := f250.ext E251
    have Z256 : n0 ≤ h251.size := Nat.le_trans Z249 E251.1
    have f257 : Va Z h251 b251 .byte [(.int (0 : Int32)), (.int (0 : Int32))] := V251
    refine Go.movp st251 (mkF m 125 #[.val (.int p0), .val (.int p1), .val (.int p2), .val (.int (6 : Int32)), .val (.ref b223), .unset, .unset, .unset] [(.ref b251)]) rfl ?_
    refine g_dup X251 hx (hb hby at_125) (pc' := 126) rfl rfl ?_
    refine g_iconst X251 hx (hb hby at_126) (pc' := 127) rfl (z := (0 : Int32)) rfl ?_
    refine g_bipush X251 hx (hb hby at_127) (pc' := 129) rfl (z := (50 : Int32)) rfl ?_
    obtain ⟨T258, h258, L258, X258, e258, N258, W258, V258, st258⟩ := h_bastore X251 hx hZ e251 N247 f257 ge253 (j := (0 : Int32)) (i := 0) (x := (50 : Int32)) (hb hby at_129) (by decide) rfl rfl #[.val (.int p0), .val (.int p1), .val (.int p2), .val (.int (6 : Int32)), .val (.ref b223), .unset, .unset, .unset] [(.ref b251)]
    have f259 := Exa.wr W258 f254
    have f260 := f255.other W258 ne252
    have f261 := Exa.wr W258 A251
    have Z262 : n0 ≤ h258.size := Nat.le_trans Z256 (Keep.of_wr W258).1
    have f263 : Va Z h258 b251 .byte [(.int (byt (50 : Int32))), (.int (0 : Int32))] := V258
    refine Go.movp st258 (mkF m 130 #[.val (.int p0), .val (.int p1), .val (.int p2), .val (.int (6 : Int32)), .val (.ref b223), .unset, .unset, .unset] [(.ref b251)]) rfl ?_
    refine g_dup X258 hx (hb hby at_130) (pc' := 131) rfl rfl ?_
    refine g_iconst X258 hx (hb hby at_131) (pc' := 132) rfl (z := (1 : Int32)) rfl ?_
    refine g_bipush X258 hx (hb hby at_132) (pc' := 134) rfl (z := (49 : Int32)) rfl ?_
    obtain ⟨T264, h264, L264, X264, e264, N264, W264, V264, st264⟩ := h_bastore X258 hx hZ e258 N258 f263 ge253 (j := (1 : Int32)) (i := 1) (x := (49 : Int32)) (hb hby at_134) (by decide) rfl rfl #[.val (.int p0), .val (.int p1), .val (.int p2), .val (.int (6 : Int32)), .val (.ref b223), .unset, .unset, .unset] [(.ref b251)]
    have f265 := Exa.wr W264 f259
    have f266 := f260.other W264 ne252
    have f267 := Exa.wr W264 f261
    have Z268 : n0 ≤ h264.size := Nat.le_trans Z262 (Keep.of_wr W264).1
    have f269 : Va Z h264 b251 .byte [(.int (byt (50 : Int32))), (.int (byt (49 : Int32)))] := V264
    refine Go.movp st264 (mkF m 135 #[.val (.int p0), .val (.int p1), .val (.int p2), .val (.int (6 : Int32)), .val (.ref b223), .unset, .unset, .unset] [(.ref b251)]) rfl ?_
    refine g_astore X264 hx (hb hby at_135) (pc' := 137) rfl rfl (Ls' := #[.val (.int p0), .val (.int p1), .val (.int p2), .val (.int (6 : Int32)), .val (.ref b223), .val (.ref b251), .unset, .unset]) rfl ?_
    refine g_aload X264 hx (hb hby at_137) (pc' := 139) rfl rfl rfl ?_
    obtain ⟨v270, T270, h270, L270, X270, e270, N270, q270, st270⟩ := h_static X264 hx (W := 0) (Ls := #[.val (.int p0), .val (.int p1), .val (.int p2), .val (.int (6 : Int32)), .val (.ref b223), .val (.ref b251), .unset, .unset]) (argsL := [(.ref b223)]) (rest := []) hZ e264 N264 hml hown (rm1_6 l Z a0 hw b223 (byt (byt p0)) (byt (byt (ushr p0 (8 : Int32)))) (byt (byt (ushr p0 (16 : Int32)))) (byt (byt (ushr p0 (24 : Int32)))) (byt (byt p1)) (byt (byt (ushr p1 (8 : Int32)))) h264 n0 Z268 f266) (hw _ (List.mem_of_getElem? (i := 2) rfl)) (hw _ (List.mem_of_getElem? (i := 3) rfl)) (hw _ (List.mem_of_getElem? (i := 4) rfl)) (hw _ (List.mem_of_getElem? (i := 5) rfl)) (by decide) pd___B_I rfl rfl (hb hby at_139) rfl (by decide) (by decide) (by decide) (by decide)
    obtain ⟨rfl, rfl⟩ := q270
    refine Go.movp st270 (mkF m 142 #[.val (.int p0), .val (.int p1), .val (.int p2), .val (.int (6 : Int32)), .val (.ref b223), .val (.ref b251), .unset, .unset] [(.int (fin2 ((fin1 (((((518292562 : Int32) ^^^ (mixV (wordV (byt (byt p0)) (byt (byt (ushr p0 (8 : Int32)))) (byt (byt (ushr p0 (16 : Int32)))) (byt (byt (ushr p0 (24 : Int32))))))) ^^^ (shl ((byt (byt p1)) &&& (255 : Int32)) (0 : Int32))) ^^^ (shl ((byt (byt (ushr p1 (8 : Int32)))) &&& (255 : Int32)) (8 : Int32))) * (1540483477 : Int32))) * (1540483477 : Int32))))]) rfl ?_
    refine g_istore X270 hx (hb hby at_142) (pc' := 144) rfl (Ls' := #[.val (.int p0), .val (.int p1), .val (.int p2), .val (.int (6 : Int32)), .val (.ref b223), .val (.ref b251), .val (.int (fin2 ((fin1 (((((518292562 : Int32) ^^^ (mixV (wordV (byt (byt p0)) (byt (byt (ushr p0 (8 : Int32)))) (byt (byt (ushr p0 (16 : Int32)))) (byt (byt (ushr p0 (24 : Int32))))))) ^^^ (shl ((byt (byt p1)) &&& (255 : Int32)) (0 : Int32))) ^^^ (shl ((byt (byt (ushr p1 (8 : Int32)))) &&& (255 : Int32)) (8 : Int32))) * (1540483477 : Int32))) * (1540483477 : Int32)))), .unset]) rfl ?_
    refine g_aload X270 hx (hb hby at_144) (pc' := 146) rfl rfl rfl ?_
    obtain ⟨v271, T271, h271, L271, X271, e271, N271, q271, st271⟩ := h_static X270 hx (W := 0) (Ls := #[.val (.int p0), .val (.int p1), .val (.int p2), .val (.int (6 : Int32)), .val (.ref b223), .val (.ref b251), .val (.int (fin2 ((fin1 (((((518292562 : Int32) ^^^ (mixV (wordV (byt (byt p0)) (byt (byt (ushr p0 (8 : Int32)))) (byt (byt (ushr p0 (16 : Int32)))) (byt (byt (ushr p0 (24 : Int32))))))) ^^^ (shl ((byt (byt p1)) &&& (255 : Int32)) (0 : Int32))) ^^^ (shl ((byt (byt (ushr p1 (8 : Int32)))) &&& (255 : Int32)) (8 : Int32))) * (1540483477 : Int32))) * (1540483477 : Int32)))), .unset]) (argsL := [(.ref b251)]) (rest := []) hZ e270 N270 hml hown (rm1_2 l Z a0 hw b251 (byt (50 : Int32)) (byt (49 : Int32)) h264 n0 Z268 f269) (hw _ (List.mem_of_getElem? (i := 2) rfl)) (hw _ (List.mem_of_getElem? (i := 3) rfl)) (hw _ (List.mem_of_getElem? (i := 4) rfl)) (hw _ (List.mem_of_getElem? (i := 5) rfl)) (by decide) pd___B_I rfl rfl (hb hby at_146) rfl (by decide) (by decide) (by decide) (by decide)
    obtain ⟨rfl, rfl⟩ := q271
    refine Go.movp st271 (mkF m 149 #[.val (.int p0), .val (.int p1), .val (.int p2), .val (.int (6 : Int32)), .val (.ref b223), .val (.ref b251), .val (.int (fin2 ((fin1 (((((518292562 : Int32) ^^^ (mixV (wordV (byt (byt p0)) (byt (byt (ushr p0 (8 : Int32)))) (byt (byt (ushr p0 (16 : Int32)))) (byt (byt (ushr p0 (24 : Int32))))))) ^^^ (shl ((byt (byt p1)) &&& (255 : Int32)) (0 : Int32))) ^^^ (shl ((byt (byt (ushr p1 (8 : Int32)))) &&& (255 : Int32)) (8 : Int32))) * (1540483477 : Int32))) * (1540483477 : Int32)))), .unset] [(.int (fin2 ((fin1 ((((-1756908914 : Int32) ^^^ (shl ((byt (50 : Int32)) &&& (255 : Int32)) (0 : Int32))) ^^^ (shl ((byt (49 : Int32)) &&& (255 : Int32)) (8 : Int32))) * (1540483477 : Int32))) * (1540483477 : Int32))))]) rfl ?_
    refine g_istore X271 hx (hb hby at_149) (pc' := 151) rfl (Ls' := #[.val (.int p0), .val (.int p1), .val (.int p2), .val (.int (6 : Int32)), .val (.ref b223), .val (.ref b251), .val (.int (fin2 ((fin1 (((((518292562 : Int32) ^^^ (mixV (wordV (byt (byt p0)) (byt (byt (ushr p0 (8 : Int32)))) (byt (byt (ushr p0 (16 : Int32)))) (byt (byt (ushr p0 (24 : Int32))))))) ^^^ (shl ((byt (byt p1)) &&& (255 : Int32)) (0 : Int32))) ^^^ (shl ((byt (byt (ushr p1 (8 : Int32)))) &&& (255 : Int32)) (8 : Int32))) * (1540483477 : Int32))) * (1540483477 : Int32)))), .val (.int (fin2 ((fin1 ((((-1756908914 : Int32) ^^^ (shl ((byt (50 : Int32)) &&& (255 : Int32)) (0 : Int32))) ^^^ (shl ((byt (49 : Int32)) &&& (255 : Int32)) (8 : Int32))) * (1540483477 : Int32))) * (1540483477 : Int32))))]) rfl ?_
    refine g_iload X271 hx (hb hby at_151) (pc' := 153) rfl rfl ?_
    refine g_ldc X271 hx hZ hown (hw _ (List.mem_of_getElem? (i := 8) rfl)) (hb hby at_153) (pc' := 155) rfl ?_
    refine g_icmp_ne X271 hx (hb hby at_155) (pc1 := 158) rfl (by decide) (pc2 := 173) (by decide) (fun hc155 => absurd (by decide +kernel) hc155) (fun hc155 => ?_)
    refine g_iload X271 hx (hb hby at_158) (pc' := 160) rfl rfl ?_
    refine g_iloadN X271 hx (hb hby at_160) (pc' := 161) rfl rfl ?_
    refine g_iloadN X271 hx (hb hby at_161) (pc' := 162) rfl rfl ?_
    refine g_iloadN X271 hx (hb hby at_162) (pc' := 163) rfl rfl ?_
    obtain ⟨v272, T272, h272, L272, X272, e272, N272, q272, st272⟩ := h_static X271 hx (W := 1) (Ls := #[.val (.int p0), .val (.int p1), .val (.int p2), .val (.int (6 : Int32)), .val (.ref b223), .val (.ref b251), .val (.int (fin2 ((fin1 (((((518292562 : Int32) ^^^ (mixV (wordV (byt (byt p0)) (byt (byt (ushr p0 (8 : Int32)))) (byt (byt (ushr p0 (16 : Int32)))) (byt (byt (ushr p0 (24 : Int32))))))) ^^^ (shl ((byt (byt p1)) &&& (255 : Int32)) (0 : Int32))) ^^^ (shl ((byt (byt (ushr p1 (8 : Int32)))) &&& (255 : Int32)) (8 : Int32))) * (1540483477 : Int32))) * (1540483477 : Int32)))), .val (.int (fin2 ((fin1 ((((-1756908914 : Int32) ^^^ (shl ((byt (50 : Int32)) &&& (255 : Int32)) (0 : Int32))) ^^^ (shl ((byt (49 : Int32)) &&& (255 : Int32)) (8 : Int32))) * (1540483477 : Int32))) * (1540483477 : Int32))))]) (argsL := [(.int p0), (.int p1), (.int (6 : Int32))]) (rest := [(.int (fin2 ((fin1 (((((518292562 : Int32) ^^^ (mixV (wordV (byt (byt p0)) (byt (byt (ushr p0 (8 : Int32)))) (byt (byt (ushr p0 (16 : Int32)))) (byt (byt (ushr p0 (24 : Int32))))))) ^^^ (shl ((byt (byt p1)) &&& (255 : Int32)) (0 : Int32))) ^^^ (shl ((byt (byt (ushr p1 (8 : Int32)))) &&& (255 : Int32)) (8 : Int32))) * (1540483477 : Int32))) * (1540483477 : Int32))))]) hZ e271 N271 hml hown (rm2_6 l Z a0 hw p0 p1 h264 n0 Z268) (hw _ (List.mem_of_getElem? (i := 9) rfl)) (hw _ (List.mem_of_getElem? (i := 10) rfl)) (hw _ (List.mem_of_getElem? (i := 11) rfl)) (hw _ (List.mem_of_getElem? (i := 12) rfl)) (by decide) pd__III_I rfl rfl (hb hby at_163) rfl (by decide) (by decide) (by decide) (by decide)
    obtain ⟨rfl, rfl⟩ := q272
    refine Go.movp st272 (mkF m 166 #[.val (.int p0), .val (.int p1), .val (.int p2), .val (.int (6 : Int32)), .val (.ref b223), .val (.ref b251), .val (.int (fin2 ((fin1 (((((518292562 : Int32) ^^^ (mixV (wordV (byt (byt p0)) (byt (byt (ushr p0 (8 : Int32)))) (byt (byt (ushr p0 (16 : Int32)))) (byt (byt (ushr p0 (24 : Int32))))))) ^^^ (shl ((byt (byt p1)) &&& (255 : Int32)) (0 : Int32))) ^^^ (shl ((byt (byt (ushr p1 (8 : Int32)))) &&& (255 : Int32)) (8 : Int32))) * (1540483477 : Int32))) * (1540483477 : Int32)))), .val (.int (fin2 ((fin1 ((((-1756908914 : Int32) ^^^ (shl ((byt (50 : Int32)) &&& (255 : Int32)) (0 : Int32))) ^^^ (shl ((byt (49 : Int32)) &&& (255 : Int32)) (8 : Int32))) * (1540483477 : Int32))) * (1540483477 : Int32))))] [(.int (fin2 ((fin1 ((((518292562 : Int32) ^^^ (mixV p0)) ^^^ (p1 &&& (65535 : Int32))) * (1540483477 : Int32))) * (1540483477 : Int32)))), (.int (fin2 ((fin1 (((((518292562 : Int32) ^^^ (mixV (wordV (byt (byt p0)) (byt (byt (ushr p0 (8 : Int32)))) (byt (byt (ushr p0 (16 : Int32)))) (byt (byt (ushr p0 (24 : Int32))))))) ^^^ (shl ((byt (byt p1)) &&& (255 : Int32)) (0 : Int32))) ^^^ (shl ((byt (byt (ushr p1 (8 : Int32)))) &&& (255 : Int32)) (8 : Int32))) * (1540483477 : Int32))) * (1540483477 : Int32))))]) rfl ?_
    refine g_icmp_ne X272 hx (hb hby at_166) (pc1 := 169) rfl (by decide) (pc2 := 173) (by decide) (fun hc166 => absurd (by rw [own_w, own_2]) hc166) (fun hc166 => ?_)
    refine g_iconst X272 hx (hb hby at_169) (pc' := 170) rfl (z := (1 : Int32)) rfl ?_
    refine g_goto X272 hx (hb hby at_170) (by decide) (pc' := 174) (by decide) ?_
    exact g_zreturn X272 hx rfl hret (hb hby at_174) N272 hlk (fun v t => endF (by decide) (by decide) v) (by rw [e272]; exact rfl)
  · skip
    refine Go.cast (show (mkF m 7 #[.val (.int p0), .val (.int p1), .val (.int p2), .unset, .unset, .unset, .unset, .unset] [(.int ((p2 &&& (2147483647 : Int32)) % (9 : Int32)))]) = (mkF m 7 #[.val (.int p0), .val (.int p1), .val (.int p2), .unset, .unset, .unset, .unset, .unset] [(.int (7 : Int32))]) from by rw [show ((p2 &&& (2147483647 : Int32)) % (9 : Int32)) = (7 : Int32) from ql]) ?_
    refine g_istoreN X0 hx (hb hby at_7) (pc' := 8) rfl (Ls' := #[.val (.int p0), .val (.int p1), .val (.int p2), .val (.int (7 : Int32)), .unset, .unset, .unset, .unset]) rfl ?_
    refine g_iloadN X0 hx (hb hby at_8) (pc' := 9) rfl rfl ?_
    obtain ⟨T273, h273, b273, X273, e273, g273, E273, V273, A273, st273⟩ := h_newarray X0 hx hZ e0 (n := (7 : Int32)) (ty := .byte) rfl (hw _ (List.mem_of_getElem? (i := 1) rfl)) (hb hby at_9) (k := 7) (cap := 7) (by decide) rfl (by decide) (by decide) (by decide) (by decide) (ad := "[B") (by decide) #[.val (.int p0), .val (.int p1), .val (.int p2), .val (.int (7 : Int32)), .unset, .unset, .unset, .unset] []
    have ge274 : n0 ≤ b273 := g273 ▸ Z0
    have Z275 : n0 ≤ h273.size := Nat.le_trans Z0 E273.1
    have f276 : Va Z h273 b273 .byte [(.int (0 : Int32)), (.int (0 : Int32)), (.int (0 : Int32)), (.int (0 : Int32)), (.int (0 : Int32)), (.int (0 : Int32)), (.int (0 : Int32))] := V273
    refine Go.movp st273 (mkF m 11 #[.val (.int p0), .val (.int p1), .val (.int p2), .val (.int (7 : Int32)), .unset, .unset, .unset, .unset] [(.ref b273)]) rfl ?_
    refine g_astore X273 hx (hb hby at_11) (pc' := 13) rfl rfl (Ls' := #[.val (.int p0), .val (.int p1), .val (.int p2), .val (.int (7 : Int32)), .val (.ref b273), .unset, .unset, .unset]) rfl ?_
    refine g_iloadN X273 hx (hb hby at_13) (pc' := 14) rfl rfl ?_
    refine g_if_le X273 hx (hb hby at_14) (pc1 := 17) rfl (by decide) (pc2 := 23) (by decide) (fun hc14 => absurd (by decide) hc14) (fun hc14 => ?_)
    refine g_aload X273 hx (hb hby at_17) (pc' := 19) rfl rfl rfl ?_
    refine g_iconst X273 hx (hb hby at_19) (pc' := 20) rfl (z := (0 : Int32)) rfl ?_
    refine g_iloadN X273 hx (hb hby at_20) (pc' := 21) rfl rfl ?_
    refine g_i2b X273 hx (hb hby at_21) (pc' := 22) rfl ?_
    obtain ⟨T277, h277, L277, X277, e277, N277, W277, V277, st277⟩ := h_bastore X273 hx hZ e273 N0 f276 ge274 (j := (0 : Int32)) (i := 0) (x := (byt p0)) (hb hby at_22) (by decide) rfl rfl #[.val (.int p0), .val (.int p1), .val (.int p2), .val (.int (7 : Int32)), .val (.ref b273), .unset, .unset, .unset] []
    have f278 := Exa.wr W277 A273
    have Z279 : n0 ≤ h277.size := Nat.le_trans Z275 (Keep.of_wr W277).1
    have f280 : Va Z h277 b273 .byte [(.int (byt (byt p0))), (.int (0 : Int32)), (.int (0 : Int32)), (.int (0 : Int32)), (.int (0 : Int32)), (.int (0 : Int32)), (.int (0 : Int32))] := V277
    refine Go.movp st277 (mkF m 23 #[.val (.int p0), .val (.int p1), .val (.int p2), .val (.int (7 : Int32)), .val (.ref b273), .unset, .unset, .unset] []) rfl ?_
    refine g_iloadN X277 hx (hb hby at_23) (pc' := 24) rfl rfl ?_
    refine g_iconst X277 hx (hb hby at_24) (pc' := 25) rfl (z := (1 : Int32)) rfl ?_
    refine g_icmp_le X277 hx (hb hby at_25) (pc1 := 28) rfl (by decide) (pc2 := 37) (by decide) (fun hc25 => absurd (by decide) hc25) (fun hc25 => ?_)
    refine g_aload X277 hx (hb hby at_28) (pc' := 30) rfl rfl rfl ?_
    refine g_iconst X277 hx (hb hby at_30) (pc' := 31) rfl (z := (1 : Int32)) rfl ?_
    refine g_iloadN X277 hx (hb hby at_31) (pc' := 32) rfl rfl ?_
    refine g_bipush X277 hx (hb hby at_32) (pc' := 34) rfl (z := (8 : Int32)) rfl ?_
    refine g_iushr X277 hx (hb hby at_34) (pc' := 35) rfl ?_
    refine g_i2b X277 hx (hb hby at_35) (pc' := 36) rfl ?_
    obtain ⟨T281, h281, L281, X281, e281, N281, W281, V281, st281⟩ := h_bastore X277 hx hZ e277 N277 f280 ge274 (j := (1 : Int32)) (i := 1) (x := (byt (ushr p0 (8 : Int32)))) (hb hby at_36) (by decide) rfl rfl #[.val (.int p0), .val (.int p1), .val (.int p2), .val (.int (7 : Int32)), .val (.ref b273), .unset, .unset, .unset] []
    have f282 := Exa.wr W281 f278
    have Z283 : n0 ≤ h281.size := Nat.le_trans Z279 (Keep.of_wr W281).1
    have f284 : Va Z h281 b273 .byte [(.int (byt (byt p0))), (.int (byt (byt (ushr p0 (8 : Int32))))), (.int (0 : Int32)), (.int (0 : Int32)), (.int (0 : Int32)), (.int (0 : Int32)), (.int (0 : Int32))] := V281
    refine Go.movp st281 (mkF m 37 #[.val (.int p0), .val (.int p1), .val (.int p2), .val (.int (7 : Int32)), .val (.ref b273), .unset, .unset, .unset] []) rfl ?_
    refine g_iloadN X281 hx (hb hby at_37) (pc' := 38) rfl rfl ?_
    refine g_iconst X281 hx (hb hby at_38) (pc' := 39) rfl (z := (2 : Int32)) rfl ?_
    refine g_icmp_le X281 hx (hb hby at_39) (pc1 := 42) rfl (by decide) (pc2 := 51) (by decide) (fun hc39 => absurd (by decide) hc39) (fun hc39 => ?_)
    refine g_aload X281 hx (hb hby at_42) (pc' := 44) rfl rfl rfl ?_
    refine g_iconst X281 hx (hb hby at_44) (pc' := 45) rfl (z := (2 : Int32)) rfl ?_
    refine g_iloadN X281 hx (hb hby at_45) (pc' := 46) rfl rfl ?_
    refine g_bipush X281 hx (hb hby at_46) (pc' := 48) rfl (z := (16 : Int32)) rfl ?_
    refine g_iushr X281 hx (hb hby at_48) (pc' := 49) rfl ?_
    refine g_i2b X281 hx (hb hby at_49) (pc' := 50) rfl ?_
    obtain ⟨T285, h285, L285, X285, e285, N285, W285, V285, st285⟩ := h_bastore X281 hx hZ e281 N281 f284 ge274 (j := (2 : Int32)) (i := 2) (x := (byt (ushr p0 (16 : Int32)))) (hb hby at_50) (by decide) rfl rfl #[.val (.int p0), .val (.int p1), .val (.int p2), .val (.int (7 : Int32)), .val (.ref b273), .unset, .unset, .unset] []
    have f286 := Exa.wr W285 f282
    have Z287 : n0 ≤ h285.size := Nat.le_trans Z283 (Keep.of_wr W285).1
    have f288 : Va Z h285 b273 .byte [(.int (byt (byt p0))), (.int (byt (byt (ushr p0 (8 : Int32))))), (.int (byt (byt (ushr p0 (16 : Int32))))), (.int (0 : Int32)), (.int (0 : Int32)), (.int (0 : Int32)), (.int (0 : Int32))] := V285
    refine Go.movp st285 (mkF m 51 #[.val (.int p0), .val (.int p1), .val (.int p2), .val (.int (7 : Int32)), .val (.ref b273), .unset, .unset, .unset] []) rfl ?_
    refine g_iloadN X285 hx (hb hby at_51) (pc' := 52) rfl rfl ?_
    refine g_iconst X285 hx (hb hby at_52) (pc' := 53) rfl (z := (3 : Int32)) rfl ?_
    refine g_icmp_le X285 hx (hb hby at_53) (pc1 := 56) rfl (by decide) (pc2 := 65) (by decide) (fun hc53 => absurd (by decide) hc53) (fun hc53 => ?_)
    refine g_aload X285 hx (hb hby at_56) (pc' := 58) rfl rfl rfl ?_
    refine g_iconst X285 hx (hb hby at_58) (pc' := 59) rfl (z := (3 : Int32)) rfl ?_
    refine g_iloadN X285 hx (hb hby at_59) (pc' := 60) rfl rfl ?_
    refine g_bipush X285 hx (hb hby at_60) (pc' := 62) rfl (z := (24 : Int32)) rfl ?_
    refine g_iushr X285 hx (hb hby at_62) (pc' := 63) rfl ?_
    refine g_i2b X285 hx (hb hby at_63) (pc' := 64) rfl ?_
    obtain ⟨T289, h289, L289, X289, e289, N289, W289, V289, st289⟩ := h_bastore X285 hx hZ e285 N285 f288 ge274 (j := (3 : Int32)) (i := 3) (x := (byt (ushr p0 (24 : Int32)))) (hb hby at_64) (by decide) rfl rfl #[.val (.int p0), .val (.int p1), .val (.int p2), .val (.int (7 : Int32)), .val (.ref b273), .unset, .unset, .unset] []
    have f290 := Exa.wr W289 f286
    have Z291 : n0 ≤ h289.size := Nat.le_trans Z287 (Keep.of_wr W289).1
    have f292 : Va Z h289 b273 .byte [(.int (byt (byt p0))), (.int (byt (byt (ushr p0 (8 : Int32))))), (.int (byt (byt (ushr p0 (16 : Int32))))), (.int (byt (byt (ushr p0 (24 : Int32))))), (.int (0 : Int32)), (.int (0 : Int32)), (.int (0 : Int32))] := V289
    refine Go.movp st289 (mkF m 65 #[.val (.int p0), .val (.int p1), .val (.int p2), .val (.int (7 : Int32)), .val (.ref b273), .unset, .unset, .unset] []) rfl ?_
    refine g_iloadN X289 hx (hb hby at_65) (pc' := 66) rfl rfl ?_
    refine g_iconst X289 hx (hb hby at_66) (pc' := 67) rfl (z := (4 : Int32)) rfl ?_
    refine g_icmp_le X289 hx (hb hby at_67) (pc1 := 70) rfl (by decide) (pc2 := 76) (by decide) (fun hc67 => absurd (by decide) hc67) (fun hc67 => ?_)
    refine g_aload X289 hx (hb hby at_70) (pc' := 72) rfl rfl rfl ?_
    refine g_iconst X289 hx (hb hby at_72) (pc' := 73) rfl (z := (4 : Int32)) rfl ?_
    refine g_iloadN X289 hx (hb hby at_73) (pc' := 74) rfl rfl ?_
    refine g_i2b X289 hx (hb hby at_74) (pc' := 75) rfl ?_
    obtain ⟨T293, h293, L293, X293, e293, N293, W293, V293, st293⟩ := h_bastore X289 hx hZ e289 N289 f292 ge274 (j := (4 : Int32)) (i := 4) (x := (byt p1)) (hb hby at_75) (by decide) rfl rfl #[.val (.int p0), .val (.int p1), .val (.int p2), .val (.int (7 : Int32)), .val (.ref b273), .unset, .unset, .unset] []
    have f294 := Exa.wr W293 f290
    have Z295 : n0 ≤ h293.size := Nat.le_trans Z291 (Keep.of_wr W293).1
    have f296 : Va Z h293 b273 .byte [(.int (byt (byt p0))), (.int (byt (byt (ushr p0 (8 : Int32))))), (.int (byt (byt (ushr p0 (16 : Int32))))), (.int (byt (byt (ushr p0 (24 : Int32))))), (.int (byt (byt p1))), (.int (0 : Int32)), (.int (0 : Int32))] := V293
    refine Go.movp st293 (mkF m 76 #[.val (.int p0), .val (.int p1), .val (.int p2), .val (.int (7 : Int32)), .val (.ref b273), .unset, .unset, .unset] []) rfl ?_
    refine g_iloadN X293 hx (hb hby at_76) (pc' := 77) rfl rfl ?_
    refine g_iconst X293 hx (hb hby at_77) (pc' := 78) rfl (z := (5 : Int32)) rfl ?_
    refine g_icmp_le X293 hx (hb hby at_78) (pc1 := 81) rfl (by decide) (pc2 := 90) (by decide) (fun hc78 => absurd (by decide) hc78) (fun hc78 => ?_)
    refine g_aload X293 hx (hb hby at_81) (pc' := 83) rfl rfl rfl ?_
    refine g_iconst X293 hx (hb hby at_83) (pc' := 84) rfl (z := (5 : Int32)) rfl ?_
    refine g_iloadN X293 hx (hb hby at_84) (pc' := 85) rfl rfl ?_
    refine g_bipush X293 hx (hb hby at_85) (pc' := 87) rfl (z := (8 : Int32)) rfl ?_
    refine g_iushr X293 hx (hb hby at_87) (pc' := 88) rfl ?_
    refine g_i2b X293 hx (hb hby at_88) (pc' := 89) rfl ?_
    obtain ⟨T297, h297, L297, X297, e297, N297, W297, V297, st297⟩ := h_bastore X293 hx hZ e293 N293 f296 ge274 (j := (5 : Int32)) (i := 5) (x := (byt (ushr p1 (8 : Int32)))) (hb hby at_89) (by decide) rfl rfl #[.val (.int p0), .val (.int p1), .val (.int p2), .val (.int (7 : Int32)), .val (.ref b273), .unset, .unset, .unset] []
    have f298 := Exa.wr W297 f294
    have Z299 : n0 ≤ h297.size := Nat.le_trans Z295 (Keep.of_wr W297).1
    have f300 : Va Z h297 b273 .byte [(.int (byt (byt p0))), (.int (byt (byt (ushr p0 (8 : Int32))))), (.int (byt (byt (ushr p0 (16 : Int32))))), (.int (byt (byt (ushr p0 (24 : Int32))))), (.int (byt (byt p1))), (.int (byt (byt (ushr p1 (8 : Int32))))), (.int (0 : Int32))] := V297
    refine Go.movp st297 (mkF m 90 #[.val (.int p0), .val (.int p1), .val (.int p2), .val (.int (7 : Int32)), .val (.ref b273), .unset, .unset, .unset] []) rfl ?_
    refine g_iloadN X297 hx (hb hby at_90) (pc' := 91) rfl rfl ?_
    refine g_bipush X297 hx (hb hby at_91) (pc' := 93) rfl (z := (6 : Int32)) rfl ?_
    refine g_icmp_le X297 hx (hb hby at_93) (pc1 := 96) rfl (by decide) (pc2 := 106) (by decide) (fun hc93 => absurd (by decide) hc93) (fun hc93 => ?_)
    refine g_aload X297 hx (hb hby at_96) (pc' := 98) rfl rfl rfl ?_
    refine g_bipush X297 hx (hb hby at_98) (pc' := 100) rfl (z := (6 : Int32)) rfl ?_
    refine g_iloadN X297 hx (hb hby at_100) (pc' := 101) rfl rfl ?_
    refine g_bipush X297 hx (hb hby at_101) (pc' := 103) rfl (z := (16 : Int32)) rfl ?_
    refine g_iushr X297 hx (hb hby at_103) (pc' := 104) rfl ?_
    refine g_i2b X297 hx (hb hby at_104) (pc' := 105) rfl ?_
    obtain ⟨T301, h301, L301, X301, e301, N301, W301, V301, st301⟩ := h_bastore X297 hx hZ e297 N297 f300 ge274 (j := (6 : Int32)) (i := 6) (x := (byt (ushr p1 (16 : Int32)))) (hb hby at_105) (by decide) rfl rfl #[.val (.int p0), .val (.int p1), .val (.int p2), .val (.int (7 : Int32)), .val (.ref b273), .unset, .unset, .unset] []
    have f302 := Exa.wr W301 f298
    have Z303 : n0 ≤ h301.size := Nat.le_trans Z299 (Keep.of_wr W301).1
    have f304 : Va Z h301 b273 .byte [(.int (byt (byt p0))), (.int (byt (byt (ushr p0 (8 : Int32))))), (.int (byt (byt (ushr p0 (16 : Int32))))), (.int (byt (byt (ushr p0 (24 : Int32))))), (.int (byt (byt p1))), (.int (byt (byt (ushr p1 (8 : Int32))))), (.int (byt (byt (ushr p1 (16 : Int32)))))] := V301
    refine Go.movp st301 (mkF m 106 #[.val (.int p0), .val (.int p1), .val (.int p2), .val (.int (7 : Int32)), .val (.ref b273), .unset, .unset, .unset] []) rfl ?_
    refine g_iloadN X301 hx (hb hby at_106) (pc' := 107) rfl rfl ?_
    refine g_bipush X301 hx (hb hby at_107) (pc' := 109) rfl (z := (7 : Int32)) rfl ?_
    refine g_icmp_le X301 hx (hb hby at_109) (pc1 := 112) rfl (by decide) (pc2 := 122) (by decide) (fun hc109 => ?_) (fun hc109 => absurd hc109 (by decide))
    refine g_iconst X301 hx (hb hby at_122) (pc' := 123) rfl (z := (2 : Int32)) rfl ?_
    obtain ⟨T305, h305, b305, X305, e305, g305, E305, V305, A305, st305⟩ := h_newarray X301 hx hZ e301 (n := (2 : Int32)) (ty := .byte) rfl (hw _ (List.mem_of_getElem? (i := 1) rfl)) (hb hby at_123) (k := 2) (cap := 2) (by decide) rfl (by decide) (by decide) (by decide) (by decide) (ad := "[B") (by decide) #[.val (.int p0), .val (.int p1), .val (.int p2), .val (.int (7 : Int32)), .val (.ref b273), .unset, .unset, .unset] []
    have ne306 : b273 ≠ b305 := Nat.ne_of_lt (g305 ▸ f302.lt)
    have ge307 : n0 ≤ b305 := g305 ▸ Z303
    have f308 := Exa.ext E305 f302
    have f309 := f304.ext E305
    have Z310 : n0 ≤ h305.size := Nat.le_trans Z303 E305.1
    have f311 : Va Z h305 b305 .byte [(.int (0 : Int32)), (.int (0 : Int32))] := V305
    refine Go.movp st305 (mkF m 125 #[.val (.int p0), .val (.int p1), .val (.int p2), .val (.int (7 : Int32)), .val (.ref b273), .unset, .unset, .unset] [(.ref b305)]) rfl ?_
    refine g_dup X305 hx (hb hby at_125) (pc' := 126) rfl rfl ?_
    refine g_iconst X305 hx (hb hby at_126) (pc' := 127) rfl (z := (0 : Int32)) rfl ?_
    refine g_bipush X305 hx (hb hby at_127) (pc' := 129) rfl (z := (50 : Int32)) rfl ?_
    obtain ⟨T312, h312, L312, X312, e312, N312, W312, V312, st312⟩ := h_bastore X305 hx hZ e305 N301 f311 ge307 (j := (0 : Int32)) (i := 0) (x := (50 : Int32)) (hb hby at_129) (by decide) rfl rfl #[.val (.int p0), .val (.int p1), .val (.int p2), .val (.int (7 : Int32)), .val (.ref b273), .unset, .unset, .unset] [(.ref b305)]
    have f313 := Exa.wr W312 f308
    have f314 := f309.other W312 ne306
    have f315 := Exa.wr W312 A305
    have Z316 : n0 ≤ h312.size := Nat.le_trans Z310 (Keep.of_wr W312).1
    have f317 : Va Z h312 b305 .byte [(.int (byt (50 : Int32))), (.int (0 : Int32))] := V312
    refine Go.movp st312 (mkF m 130 #[.val (.int p0), .val (.int p1), .val (.int p2), .val (.int (7 : Int32)), .val (.ref b273), .unset, .unset, .unset] [(.ref b305)]) rfl ?_
    refine g_dup X312 hx (hb hby at_130) (pc' := 131) rfl rfl ?_
    refine g_iconst X312 hx (hb hby at_131) (pc' := 132) rfl (z := (1 : Int32)) rfl ?_
    refine g_bipush X312 hx (hb hby at_132) (pc' := 134) rfl (z := (49 : Int32)) rfl ?_
    obtain ⟨T318, h318, L318, X318, e318, N318, W318, V318, st318⟩ := h_bastore X312 hx hZ e312 N312 f317 ge307 (j := (1 : Int32)) (i := 1) (x := (49 : Int32)) (hb hby at_134) (by decide) rfl rfl #[.val (.int p0), .val (.int p1), .val (.int p2), .val (.int (7 : Int32)), .val (.ref b273), .unset, .unset, .unset] [(.ref b305)]
    have f319 := Exa.wr W318 f313
    have f320 := f314.other W318 ne306
    have f321 := Exa.wr W318 f315
    have Z322 : n0 ≤ h318.size := Nat.le_trans Z316 (Keep.of_wr W318).1
    have f323 : Va Z h318 b305 .byte [(.int (byt (50 : Int32))), (.int (byt (49 : Int32)))] := V318
    refine Go.movp st318 (mkF m 135 #[.val (.int p0), .val (.int p1), .val (.int p2), .val (.int (7 : Int32)), .val (.ref b273), .unset, .unset, .unset] [(.ref b305)]) rfl ?_
    refine g_astore X318 hx (hb hby at_135) (pc' := 137) rfl rfl (Ls' := #[.val (.int p0), .val (.int p1), .val (.int p2), .val (.int (7 : Int32)), .val (.ref b273), .val (.ref b305), .unset, .unset]) rfl ?_
    refine g_aload X318 hx (hb hby at_137) (pc' := 139) rfl rfl rfl ?_
    obtain ⟨v324, T324, h324, L324, X324, e324, N324, q324, st324⟩ := h_static X318 hx (W := 0) (Ls := #[.val (.int p0), .val (.int p1), .val (.int p2), .val (.int (7 : Int32)), .val (.ref b273), .val (.ref b305), .unset, .unset]) (argsL := [(.ref b273)]) (rest := []) hZ e318 N318 hml hown (rm1_7 l Z a0 hw b273 (byt (byt p0)) (byt (byt (ushr p0 (8 : Int32)))) (byt (byt (ushr p0 (16 : Int32)))) (byt (byt (ushr p0 (24 : Int32)))) (byt (byt p1)) (byt (byt (ushr p1 (8 : Int32)))) (byt (byt (ushr p1 (16 : Int32)))) h318 n0 Z322 f320) (hw _ (List.mem_of_getElem? (i := 2) rfl)) (hw _ (List.mem_of_getElem? (i := 3) rfl)) (hw _ (List.mem_of_getElem? (i := 4) rfl)) (hw _ (List.mem_of_getElem? (i := 5) rfl)) (by decide) pd___B_I rfl rfl (hb hby at_139) rfl (by decide) (by decide) (by decide) (by decide)
    obtain ⟨rfl, rfl⟩ := q324
    refine Go.movp st324 (mkF m 142 #[.val (.int p0), .val (.int p1), .val (.int p2), .val (.int (7 : Int32)), .val (.ref b273), .val (.ref b305), .unset, .unset] [(.int (fin2 ((fin1 ((((((2058776039 : Int32) ^^^ (mixV (wordV (byt (byt p0)) (byt (byt (ushr p0 (8 : Int32)))) (byt (byt (ushr p0 (16 : Int32)))) (byt (byt (ushr p0 (24 : Int32))))))) ^^^ (shl ((byt (byt p1)) &&& (255 : Int32)) (0 : Int32))) ^^^ (shl ((byt (byt (ushr p1 (8 : Int32)))) &&& (255 : Int32)) (8 : Int32))) ^^^ (shl ((byt (byt (ushr p1 (16 : Int32)))) &&& (255 : Int32)) (16 : Int32))) * (1540483477 : Int32))) * (1540483477 : Int32))))]) rfl ?_
    refine g_istore X324 hx (hb hby at_142) (pc' := 144) rfl (Ls' := #[.val (.int p0), .val (.int p1), .val (.int p2), .val (.int (7 : Int32)), .val (.ref b273), .val (.ref b305), .val (.int (fin2 ((fin1 ((((((2058776039 : Int32) ^^^ (mixV (wordV (byt (byt p0)) (byt (byt (ushr p0 (8 : Int32)))) (byt (byt (ushr p0 (16 : Int32)))) (byt (byt (ushr p0 (24 : Int32))))))) ^^^ (shl ((byt (byt p1)) &&& (255 : Int32)) (0 : Int32))) ^^^ (shl ((byt (byt (ushr p1 (8 : Int32)))) &&& (255 : Int32)) (8 : Int32))) ^^^ (shl ((byt (byt (ushr p1 (16 : Int32)))) &&& (255 : Int32)) (16 : Int32))) * (1540483477 : Int32))) * (1540483477 : Int32)))), .unset]) rfl ?_
    refine g_aload X324 hx (hb hby at_144) (pc' := 146) rfl rfl rfl ?_
    obtain ⟨v325, T325, h325, L325, X325, e325, N325, q325, st325⟩ := h_static X324 hx (W := 0) (Ls := #[.val (.int p0), .val (.int p1), .val (.int p2), .val (.int (7 : Int32)), .val (.ref b273), .val (.ref b305), .val (.int (fin2 ((fin1 ((((((2058776039 : Int32) ^^^ (mixV (wordV (byt (byt p0)) (byt (byt (ushr p0 (8 : Int32)))) (byt (byt (ushr p0 (16 : Int32)))) (byt (byt (ushr p0 (24 : Int32))))))) ^^^ (shl ((byt (byt p1)) &&& (255 : Int32)) (0 : Int32))) ^^^ (shl ((byt (byt (ushr p1 (8 : Int32)))) &&& (255 : Int32)) (8 : Int32))) ^^^ (shl ((byt (byt (ushr p1 (16 : Int32)))) &&& (255 : Int32)) (16 : Int32))) * (1540483477 : Int32))) * (1540483477 : Int32)))), .unset]) (argsL := [(.ref b305)]) (rest := []) hZ e324 N324 hml hown (rm1_2 l Z a0 hw b305 (byt (50 : Int32)) (byt (49 : Int32)) h318 n0 Z322 f323) (hw _ (List.mem_of_getElem? (i := 2) rfl)) (hw _ (List.mem_of_getElem? (i := 3) rfl)) (hw _ (List.mem_of_getElem? (i := 4) rfl)) (hw _ (List.mem_of_getElem? (i := 5) rfl)) (by decide) pd___B_I rfl rfl (hb hby at_146) rfl (by decide) (by decide) (by decide) (by decide)
    obtain ⟨rfl, rfl⟩ := q325
    refine Go.movp st325 (mkF m 149 #[.val (.int p0), .val (.int p1), .val (.int p2), .val (.int (7 : Int32)), .val (.ref b273), .val (.ref b305), .val (.int (fin2 ((fin1 ((((((2058776039 : Int32) ^^^ (mixV (wordV (byt (byt p0)) (byt (byt (ushr p0 (8 : Int32)))) (byt (byt (ushr p0 (16 : Int32)))) (byt (byt (ushr p0 (24 : Int32))))))) ^^^ (shl ((byt (byt p1)) &&& (255 : Int32)) (0 : Int32))) ^^^ (shl ((byt (byt (ushr p1 (8 : Int32)))) &&& (255 : Int32)) (8 : Int32))) ^^^ (shl ((byt (byt (ushr p1 (16 : Int32)))) &&& (255 : Int32)) (16 : Int32))) * (1540483477 : Int32))) * (1540483477 : Int32)))), .unset] [(.int (fin2 ((fin1 ((((-1756908914 : Int32) ^^^ (shl ((byt (50 : Int32)) &&& (255 : Int32)) (0 : Int32))) ^^^ (shl ((byt (49 : Int32)) &&& (255 : Int32)) (8 : Int32))) * (1540483477 : Int32))) * (1540483477 : Int32))))]) rfl ?_
    refine g_istore X325 hx (hb hby at_149) (pc' := 151) rfl (Ls' := #[.val (.int p0), .val (.int p1), .val (.int p2), .val (.int (7 : Int32)), .val (.ref b273), .val (.ref b305), .val (.int (fin2 ((fin1 ((((((2058776039 : Int32) ^^^ (mixV (wordV (byt (byt p0)) (byt (byt (ushr p0 (8 : Int32)))) (byt (byt (ushr p0 (16 : Int32)))) (byt (byt (ushr p0 (24 : Int32))))))) ^^^ (shl ((byt (byt p1)) &&& (255 : Int32)) (0 : Int32))) ^^^ (shl ((byt (byt (ushr p1 (8 : Int32)))) &&& (255 : Int32)) (8 : Int32))) ^^^ (shl ((byt (byt (ushr p1 (16 : Int32)))) &&& (255 : Int32)) (16 : Int32))) * (1540483477 : Int32))) * (1540483477 : Int32)))), .val (.int (fin2 ((fin1 ((((-1756908914 : Int32) ^^^ (shl ((byt (50 : Int32)) &&& (255 : Int32)) (0 : Int32))) ^^^ (shl ((byt (49 : Int32)) &&& (255 : Int32)) (8 : Int32))) * (1540483477 : Int32))) * (1540483477 : Int32))))]) rfl ?_
    refine g_iload X325 hx (hb hby at_151) (pc' := 153) rfl rfl ?_
    refine g_ldc X325 hx hZ hown (hw _ (List.mem_of_getElem? (i := 8) rfl)) (hb hby at_153) (pc' := 155) rfl ?_
    refine g_icmp_ne X325 hx (hb hby at_155) (pc1 := 158) rfl (by decide) (pc2 := 173) (by decide) (fun hc155 => absurd (by decide +kernel) hc155) (fun hc155 => ?_)
    refine g_iload X325 hx (hb hby at_158) (pc' := 160) rfl rfl ?_
    refine g_iloadN X325 hx (hb hby at_160) (pc' := 161) rfl rfl ?_
    refine g_iloadN X325 hx (hb hby at_161) (pc' := 162) rfl rfl ?_
    refine g_iloadN X325 hx (hb hby at_162) (pc' := 163) rfl rfl ?_
    obtain ⟨v326, T326, h326, L326, X326, e326, N326, q326, st326⟩ := h_static X325 hx (W := 1) (Ls := #[.val (.int p0), .val (.int p1), .val (.int p2), .val (.int (7 : Int32)), .val (.ref b273), .val (.ref b305), .val (.int (fin2 ((fin1 ((((((2058776039 : Int32) ^^^ (mixV (wordV (byt (byt p0)) (byt (byt (ushr p0 (8 : Int32)))) (byt (byt (ushr p0 (16 : Int32)))) (byt (byt (ushr p0 (24 : Int32))))))) ^^^ (shl ((byt (byt p1)) &&& (255 : Int32)) (0 : Int32))) ^^^ (shl ((byt (byt (ushr p1 (8 : Int32)))) &&& (255 : Int32)) (8 : Int32))) ^^^ (shl ((byt (byt (ushr p1 (16 : Int32)))) &&& (255 : Int32)) (16 : Int32))) * (1540483477 : Int32))) * (1540483477 : Int32)))), .val (.int (fin2 ((fin1 ((((-1756908914 : Int32) ^^^ (shl ((byt (50 : Int32)) &&& (255 : Int32)) (0 : Int32))) ^^^ (shl ((byt (49 : Int32)) &&& (255 : Int32)) (8 : Int32))) * (1540483477 : Int32))) * (1540483477 : Int32))))]) (argsL := [(.int p0), (.int p1), (.int (7 : Int32))]) (rest := [(.int (fin2 ((fin1 ((((((2058776039 : Int32) ^^^ (mixV (wordV (byt (byt p0)) (byt (byt (ushr p0 (8 : Int32)))) (byt (byt (ushr p0 (16 : Int32)))) (byt (byt (ushr p0 (24 : Int32))))))) ^^^ (shl ((byt (byt p1)) &&& (255 : Int32)) (0 : Int32))) ^^^ (shl ((byt (byt (ushr p1 (8 : Int32)))) &&& (255 : Int32)) (8 : Int32))) ^^^ (shl ((byt (byt (ushr p1 (16 : Int32)))) &&& (255 : Int32)) (16 : Int32))) * (1540483477 : Int32))) * (1540483477 : Int32))))]) hZ e325 N325 hml hown (rm2_7 l Z a0 hw p0 p1 h318 n0 Z322) (hw _ (List.mem_of_getElem? (i := 9) rfl)) (hw _ (List.mem_of_getElem? (i := 10) rfl)) (hw _ (List.mem_of_getElem? (i := 11) rfl)) (hw _ (List.mem_of_getElem? (i := 12) rfl)) (by decide) pd__III_I rfl rfl (hb hby at_163) rfl (by decide) (by decide) (by decide) (by decide)
    obtain ⟨rfl, rfl⟩ := q326
    refine Go.movp st326 (mkF m 166 #[.val (.int p0), .val (.int p1), .val (.int p2), .val (.int (7 : Int32)), .val (.ref b273), .val (.ref b305), .val (.int (fin2 ((fin1 ((((((2058776039 : Int32) ^^^ (mixV (wordV (byt (byt p0)) (byt (byt (ushr p0 (8 : Int32)))) (byt (byt (ushr p0 (16 : Int32)))) (byt (byt (ushr p0 (24 : Int32))))))) ^^^ (shl ((byt (byt p1)) &&& (255 : Int32)) (0 : Int32))) ^^^ (shl ((byt (byt (ushr p1 (8 : Int32)))) &&& (255 : Int32)) (8 : Int32))) ^^^ (shl ((byt (byt (ushr p1 (16 : Int32)))) &&& (255 : Int32)) (16 : Int32))) * (1540483477 : Int32))) * (1540483477 : Int32)))), .val (.int (fin2 ((fin1 ((((-1756908914 : Int32) ^^^ (shl ((byt (50 : Int32)) &&& (255 : Int32)) (0 : Int32))) ^^^ (shl ((byt (49 : Int32)) &&& (255 : Int32)) (8 : Int32))) * (1540483477 : Int32))) * (1540483477 : Int32))))] [(.int (fin2 ((fin1 ((((2058776039 : Int32) ^^^ (mixV p0)) ^^^ (p1 &&& (16777215 : Int32))) * (1540483477 : Int32))) * (1540483477 : Int32)))), (.int (fin2 ((fin1 ((((((2058776039 : Int32) ^^^ (mixV (wordV (byt (byt p0)) (byt (byt (ushr p0 (8 : Int32)))) (byt (byt (ushr p0 (16 : Int32)))) (byt (byt (ushr p0 (24 : Int32))))))) ^^^ (shl ((byt (byt p1)) &&& (255 : Int32)) (0 : Int32))) ^^^ (shl ((byt (byt (ushr p1 (8 : Int32)))) &&& (255 : Int32)) (8 : Int32))) ^^^ (shl ((byt (byt (ushr p1 (16 : Int32)))) &&& (255 : Int32)) (16 : Int32))) * (1540483477 : Int32))) * (1540483477 : Int32))))]) rfl ?_
    refine g_icmp_ne X326 hx (hb hby at_166) (pc1 := 169) rfl (by decide) (pc2 := 173) (by decide) (fun hc166 => absurd (by rw [own_w, own_3]) hc166) (fun hc166 => ?_)
    refine g_iconst X326 hx (hb hby at_169) (pc' := 170) rfl (z := (1 : Int32)) rfl ?_
    refine g_goto X326 hx (hb hby at_170) (by decide) (pc' := 174) (by decide) ?_
    exact g_zreturn X326 hx rfl hret (hb hby at_174) N326 hlk (fun v t => endF (by decide) (by decide) v) (by rw [e326]; exact rfl)
  · skip
    refine Go.cast (show (mkF m 7 #[.val (.int p0), .val (.int p1), .val (.int p2), .unset, .unset, .unset, .unset, .unset] [(.int ((p2 &&& (2147483647 : Int32)) % (9 : Int32)))]) = (mkF m 7 #[.val (.int p0), .val (.int p1), .val (.int p2), .unset, .unset, .unset, .unset, .unset] [(.int (8 : Int32))]) from by rw [show ((p2 &&& (2147483647 : Int32)) % (9 : Int32)) = (8 : Int32) from ql]) ?_
    refine g_istoreN X0 hx (hb hby at_7) (pc' := 8) rfl (Ls' := #[.val (.int p0), .val (.int p1), .val (.int p2), .val (.int (8 : Int32)), .unset, .unset, .unset, .unset]) rfl ?_
    refine g_iloadN X0 hx (hb hby at_8) (pc' := 9) rfl rfl ?_
    obtain ⟨T327, h327, b327, X327, e327, g327, E327, V327, A327, st327⟩ := h_newarray X0 hx hZ e0 (n := (8 : Int32)) (ty := .byte) rfl (hw _ (List.mem_of_getElem? (i := 1) rfl)) (hb hby at_9) (k := 8) (cap := 8) (by decide) rfl (by decide) (by decide) (by decide) (by decide) (ad := "[B") (by decide) #[.val (.int p0), .val (.int p1), .val (.int p2), .val (.int (8 : Int32)), .unset, .unset, .unset, .unset] []
    have ge328 : n0 ≤ b327 := g327 ▸ Z0
    have Z329 : n0 ≤ h327.size := Nat.le_trans Z0 E327.1
    have f330 : Va Z h327 b327 .byte [(.int (0 : Int32)), (.int (0 : Int32)), (.int (0 : Int32)), (.int (0 : Int32)), (.int (0 : Int32)), (.int (0 : Int32)), (.int (0 : Int32)), (.int (0 : Int32))] := V327
    refine Go.movp st327 (mkF m 11 #[.val (.int p0), .val (.int p1), .val (.int p2), .val (.int (8 : Int32)), .unset, .unset, .unset, .unset] [(.ref b327)]) rfl ?_
    refine g_astore X327 hx (hb hby at_11) (pc' := 13) rfl rfl (Ls' := #[.val (.int p0), .val (.int p1), .val (.int p2), .val (.int (8 : Int32)), .val (.ref b327), .unset, .unset, .unset]) rfl ?_
    refine g_iloadN X327 hx (hb hby at_13) (pc' := 14) rfl rfl ?_
    refine g_if_le X327 hx (hb hby at_14) (pc1 := 17) rfl (by decide) (pc2 := 23) (by decide) (fun hc14 => absurd (by decide) hc14) (fun hc14 => ?_)
    refine g_aload X327 hx (hb hby at_17) (pc' := 19) rfl rfl rfl ?_
    refine g_iconst X327 hx (hb hby at_19) (pc' := 20) rfl (z := (0 : Int32)) rfl ?_
    refine g_iloadN X327 hx (hb hby at_20) (pc' := 21) rfl rfl ?_
    refine g_i2b X327 hx (hb hby at_21) (pc' := 22) rfl ?_
    obtain ⟨T331, h331, L331, X331, e331, N331, W331, V331, st331⟩ := h_bastore X327 hx hZ e327 N0 f330 ge328 (j := (0 : Int32)) (i := 0) (x := (byt p0)) (hb hby at_22) (by decide) rfl rfl #[.val (.int p0), .val (.int p1), .val (.int p2), .val (.int (8 : Int32)), .val (.ref b327), .unset, .unset, .unset] []
    have f332 := Exa.wr W331 A327
    have Z333 : n0 ≤ h331.size := Nat.le_trans Z329 (Keep.of_wr W331).1
    have f334 : Va Z h331 b327 .byte [(.int (byt (byt p0))), (.int (0 : Int32)), (.int (0 : Int32)), (.int (0 : Int32)), (.int (0 : Int32)), (.int (0 : Int32)), (.int (0 : Int32)), (.int (0 : Int32))] := V331
    refine Go.movp st331 (mkF m 23 #[.val (.int p0), .val (.int p1), .val (.int p2), .val (.int (8 : Int32)), .val (.ref b327), .unset, .unset, .unset] []) rfl ?_
    refine g_iloadN X331 hx (hb hby at_23) (pc' := 24) rfl rfl ?_
    refine g_iconst X331 hx (hb hby at_24) (pc' := 25) rfl (z := (1 : Int32)) rfl ?_
    refine g_icmp_le X331 hx (hb hby at_25) (pc1 := 28) rfl (by decide) (pc2 := 37) (by decide) (fun hc25 => absurd (by decide) hc25) (fun hc25 => ?_)
    refine g_aload X331 hx (hb hby at_28) (pc' := 30) rfl rfl rfl ?_
    refine g_iconst X331 hx (hb hby at_30) (pc' := 31) rfl (z := (1 : Int32)) rfl ?_
    refine g_iloadN X331 hx (hb hby at_31) (pc' := 32) rfl rfl ?_
    refine g_bipush X331 hx (hb hby at_32) (pc' := 34) rfl (z := (8 : Int32)) rfl ?_
    refine g_iushr X331 hx (hb hby at_34) (pc' := 35) rfl ?_
    refine g_i2b X331 hx (hb hby at_35) (pc' := 36) rfl ?_
    obtain ⟨T335, h335, L335, X335, e335, N335, W335, V335, st335⟩ := h_bastore X331 hx hZ e331 N331 f334 ge328 (j := (1 : Int32)) (i := 1) (x := (byt (ushr p0 (8 : Int32)))) (hb hby at_36) (by decide) rfl rfl #[.val (.int p0), .val (.int p1), .val (.int p2), .val (.int (8 : Int32)), .val (.ref b327), .unset, .unset, .unset] []
    have f336 := Exa.wr W335 f332
    have Z337 : n0 ≤ h335.size := Nat.le_trans Z333 (Keep.of_wr W335).1
    have f338 : Va Z h335 b327 .byte [(.int (byt (byt p0))), (.int (byt (byt (ushr p0 (8 : Int32))))), (.int (0 : Int32)), (.int (0 : Int32)), (.int (0 : Int32)), (.int (0 : Int32)), (.int (0 : Int32)), (.int (0 : Int32))] := V335
    refine Go.movp st335 (mkF m 37 #[.val (.int p0), .val (.int p1), .val (.int p2), .val (.int (8 : Int32)), .val (.ref b327), .unset, .unset, .unset] []) rfl ?_
    refine g_iloadN X335 hx (hb hby at_37) (pc' := 38) rfl rfl ?_
    refine g_iconst X335 hx (hb hby at_38) (pc' := 39) rfl (z := (2 : Int32)) rfl ?_
    refine g_icmp_le X335 hx (hb hby at_39) (pc1 := 42) rfl (by decide) (pc2 := 51) (by decide) (fun hc39 => absurd (by decide) hc39) (fun hc39 => ?_)
    refine g_aload X335 hx (hb hby at_42) (pc' := 44) rfl rfl rfl ?_
    refine g_iconst X335 hx (hb hby at_44) (pc' := 45) rfl (z := (2 : Int32)) rfl ?_
    refine g_iloadN X335 hx (hb hby at_45) (pc' := 46) rfl rfl ?_
    refine g_bipush X335 hx (hb hby at_46) (pc' := 48) rfl (z := (16 : Int32)) rfl ?_
    refine g_iushr X335 hx (hb hby at_48) (pc' := 49) rfl ?_
    refine g_i2b X335 hx (hb hby at_49) (pc' := 50) rfl ?_
    obtain ⟨T339, h339, L339, X339, e339, N339, W339, V339, st339⟩ := h_bastore X335 hx hZ e335 N335 f338 ge328 (j := (2 : Int32)) (i := 2) (x := (byt (ushr p0 (16 : Int32)))) (hb hby at_50) (by decide) rfl rfl #[.val (.int p0), .val (.int p1), .val (.int p2), .val (.int (8 : Int32)), .val (.ref b327), .unset, .unset, .unset] []
    have f340 := Exa.wr W339 f336
    have Z341 : n0 ≤ h339.size := Nat.le_trans Z337 (Keep.of_wr W339).1
    have f342 : Va Z h339 b327 .byte [(.int (byt (byt p0))), (.int (byt (byt (ushr p0 (8 : Int32))))), (.int (byt (byt (ushr p0 (16 : Int32))))), (.int (0 : Int32)), (.int (0 : Int32)), (.int (0 : Int32)), (.int (0 : Int32)), (.int (0 : Int32))] := V339
    refine Go.movp st339 (mkF m 51 #[.val (.int p0), .val (.int p1), .val (.int p2), .val (.int (8 : Int32)), .val (.ref b327), .unset, .unset, .unset] []) rfl ?_
    refine g_iloadN X339 hx (hb hby at_51) (pc' := 52) rfl rfl ?_
    refine g_iconst X339 hx (hb hby at_52) (pc' := 53) rfl (z := (3 : Int32)) rfl ?_
    refine g_icmp_le X339 hx (hb hby at_53) (pc1 := 56) rfl (by decide) (pc2 := 65) (by decide) (fun hc53 => absurd (by decide) hc53) (fun hc53 => ?_)
    refine g_aload X339 hx (hb hby at_56) (pc' := 58) rfl rfl rfl ?_
    refine g_iconst X339 hx (hb hby at_58) (pc' := 59) rfl (z := (3 : Int32)) rfl ?_
    refine g_iloadN X339 hx (hb hby at_59) (pc' := 60) rfl rfl ?_
    refine g_bipush X339 hx (hb hby at_60) (pc' := 62) rfl (z := (24 : Int32)) rfl ?_
    refine g_iushr X339 hx (hb hby at_62) (pc' := 63) rfl ?_
    refine g_i2b X339 hx (hb hby at_63) (pc' := 64) rfl ?_
    obtain ⟨T343, h343, L343, X343, e343, N343, W343, V343, st343⟩ := h_bastore X339 hx hZ e339 N339 f342 ge328 (j := (3 : Int32)) (i := 3) (x := (byt (ushr p0 (24 : Int32)))) (hb hby at_64) (by decide) rfl rfl #[.val (.int p0), .val (.int p1), .val (.int p2), .val (.int (8 : Int32)), .val (.ref b327), .unset, .unset, .unset] []
    have f344 := Exa.wr W343 f340
    have Z345 : n0 ≤ h343.size := Nat.le_trans Z341 (Keep.of_wr W343).1
    have f346 : Va Z h343 b327 .byte [(.int (byt (byt p0))), (.int (byt (byt (ushr p0 (8 : Int32))))), (.int (byt (byt (ushr p0 (16 : Int32))))), (.int (byt (byt (ushr p0 (24 : Int32))))), (.int (0 : Int32)), (.int (0 : Int32)), (.int (0 : Int32)), (.int (0 : Int32))] := V343
    refine Go.movp st343 (mkF m 65 #[.val (.int p0), .val (.int p1), .val (.int p2), .val (.int (8 : Int32)), .val (.ref b327), .unset, .unset, .unset] []) rfl ?_
    refine g_iloadN X343 hx (hb hby at_65) (pc' := 66) rfl rfl ?_
    refine g_iconst X343 hx (hb hby at_66) (pc' := 67) rfl (z := (4 : Int32)) rfl ?_
    refine g_icmp_le X343 hx (hb hby at_67) (pc1 := 70) rfl (by decide) (pc2 := 76) (by decide) (fun hc67 => absurd (by decide) hc67) (fun hc67 => ?_)
    refine g_aload X343 hx (hb hby at_70) (pc' := 72) rfl rfl rfl ?_
    refine g_iconst X343 hx (hb hby at_72) (pc' := 73) rfl (z := (4 : Int32)) rfl ?_
    refine g_iloadN X343 hx (hb hby at_73) (pc' := 74) rfl rfl ?_
    refine g_i2b X343 hx (hb hby at_74) (pc' := 75) rfl ?_
    obtain ⟨T347, h347, L347, X347, e347, N347, W347, V347, st347⟩ := h_bastore X343 hx hZ e343 N343 f346 ge328 (j := (4 : Int32)) (i := 4) (x := (byt p1)) (hb hby at_75) (by decide) rfl rfl #[.val (.int p0), .val (.int p1), .val (.int p2), .val (.int (8 : Int32)), .val (.ref b327), .unset, .unset, .unset] []
    have f348 := Exa.wr W347 f344
    have Z349 : n0 ≤ h347.size := Nat.le_trans Z345 (Keep.of_wr W347).1
    have f350 : Va Z h347 b327 .byte [(.int (byt (byt p0))), (.int (byt (byt (ushr p0 (8 : Int32))))), (.int (byt (byt (ushr p0 (16 : Int32))))), (.int (byt (byt (ushr p0 (24 : Int32))))), (.int (byt (byt p1))), (.int (0 : Int32)), (.int (0 : Int32)), (.int (0 : Int32))] := V347
    refine Go.movp st347 (mkF m 76 #[.val (.int p0), .val (.int p1), .val (.int p2), .val (.int (8 : Int32)), .val (.ref b327), .unset, .unset, .unset] []) rfl ?_
    refine g_iloadN X347 hx (hb hby at_76) (pc' := 77) rfl rfl ?_
    refine g_iconst X347 hx (hb hby at_77) (pc' := 78) rfl (z := (5 : Int32)) rfl ?_
    refine g_icmp_le X347 hx (hb hby at_78) (pc1 := 81) rfl (by decide) (pc2 := 90) (by decide) (fun hc78 => absurd (by decide) hc78) (fun hc78 => ?_)
    refine g_aload X347 hx (hb hby at_81) (pc' := 83) rfl rfl rfl ?_
    refine g_iconst X347 hx (hb hby at_83) (pc' := 84) rfl (z := (5 : Int32)) rfl ?_
    refine g_iloadN X347 hx (hb hby at_84) (pc' := 85) rfl rfl ?_
    refine g_bipush X347 hx (hb hby at_85) (pc' := 87) rfl (z := (8 : Int32)) rfl ?_
    refine g_iushr X347 hx (hb hby at_87) (pc' := 88) rfl ?_
    refine g_i2b X347 hx (hb hby at_88) (pc' := 89) rfl ?_
    obtain ⟨T351, h351, L351, X351, e351, N351, W351, V351, st351⟩ := h_bastore X347 hx hZ e347 N347 f350 ge328 (j := (5 : Int32)) (i := 5) (x := (byt (ushr p1 (8 : Int32)))) (hb hby at_89) (by decide) rfl rfl #[.val (.int p0), .val (.int p1), .val (.int p2), .val (.int (8 : Int32)), .val (.ref b327), .unset, .unset, .unset] []
    have f352 := Exa.wr W351 f348
    have Z353 : n0 ≤ h351.size := Nat.le_trans Z349 (Keep.of_wr W351).1
    have f354 : Va Z h351 b327 .byte [(.int (byt (byt p0))), (.int (byt (byt (ushr p0 (8 : Int32))))), (.int (byt (byt (ushr p0 (16 : Int32))))), (.int (byt (byt (ushr p0 (24 : Int32))))), (.int (byt (byt p1))), (.int (byt (byt (ushr p1 (8 : Int32))))), (.int (0 : Int32)), (.int (0 : Int32))] := V351
    refine Go.movp st351 (mkF m 90 #[.val (.int p0), .val (.int p1), .val (.int p2), .val (.int (8 : Int32)), .val (.ref b327), .unset, .unset, .unset] []) rfl ?_
    refine g_iloadN X351 hx (hb hby at_90) (pc' := 91) rfl rfl ?_
    refine g_bipush X351 hx (hb hby at_91) (pc' := 93) rfl (z := (6 : Int32)) rfl ?_
    refine g_icmp_le X351 hx (hb hby at_93) (pc1 := 96) rfl (by decide) (pc2 := 106) (by decide) (fun hc93 => absurd (by decide) hc93) (fun hc93 => ?_)
    refine g_aload X351 hx (hb hby at_96) (pc' := 98) rfl rfl rfl ?_
    refine g_bipush X351 hx (hb hby at_98) (pc' := 100) rfl (z := (6 : Int32)) rfl ?_
    refine g_iloadN X351 hx (hb hby at_100) (pc' := 101) rfl rfl ?_
    refine g_bipush X351 hx (hb hby at_101) (pc' := 103) rfl (z := (16 : Int32)) rfl ?_
    refine g_iushr X351 hx (hb hby at_103) (pc' := 104) rfl ?_
    refine g_i2b X351 hx (hb hby at_104) (pc' := 105) rfl ?_
    obtain ⟨T355, h355, L355, X355, e355, N355, W355, V355, st355⟩ := h_bastore X351 hx hZ e351 N351 f354 ge328 (j := (6 : Int32)) (i := 6) (x := (byt (ushr p1 (16 : Int32)))) (hb hby at_105) (by decide) rfl rfl #[.val (.int p0), .val (.int p1), .val (.int p2), .val (.int (8 : Int32)), .val (.ref b327), .unset, .unset, .unset] []
    have f356 := Exa.wr W355 f352
    have Z357 : n0 ≤ h355.size := Nat.le_trans Z353 (Keep.of_wr W355).1
    have f358 : Va Z h355 b327 .byte [(.int (byt (byt p0))), (.int (byt (byt (ushr p0 (8 : Int32))))), (.int (byt (byt (ushr p0 (16 : Int32))))), (.int (byt (byt (ushr p0 (24 : Int32))))), (.int (byt (byt p1))), (.int (byt (byt (ushr p1 (8 : Int32))))), (.int (byt (byt (ushr p1 (16 : Int32))))), (.int (0 : Int32))] := V355
    refine Go.movp st355 (mkF m 106 #[.val (.int p0), .val (.int p1), .val (.int p2), .val (.int (8 : Int32)), .val (.ref b327), .unset, .unset, .unset] []) rfl ?_
    refine g_iloadN X355 hx (hb hby at_106) (pc' := 107) rfl rfl ?_
    refine g_bipush X355 hx (hb hby at_107) (pc' := 109) rfl (z := (7 : Int32)) rfl ?_
    refine g_icmp_le X355 hx (hb hby at_109) (pc1 := 112) rfl (by decide) (pc2 := 122) (by decide) (fun hc109 => absurd (by decide) hc109) (fun hc109 => ?_)
    refine g_aload X355 hx (hb hby at_112) (pc' := 114) rfl rfl rfl ?_
    refine g_bipush X355 hx (hb hby at_114) (pc' := 116) rfl (z := (7 : Int32)) rfl ?_
    refine g_iloadN X355 hx (hb hby at_116) (pc' := 117) rfl rfl ?_
    refine g_bipush X355 hx (hb hby at_117) (pc' := 119) rfl (z := (24 : Int32)) rfl ?_
    refine g_iushr X355 hx (hb hby at_119) (pc' := 120) rfl ?_
    refine g_i2b X355 hx (hb hby at_120) (pc' := 121) rfl ?_
    obtain ⟨T359, h359, L359, X359, e359, N359, W359, V359, st359⟩ := h_bastore X355 hx hZ e355 N355 f358 ge328 (j := (7 : Int32)) (i := 7) (x := (byt (ushr p1 (24 : Int32)))) (hb hby at_121) (by decide) rfl rfl #[.val (.int p0), .val (.int p1), .val (.int p2), .val (.int (8 : Int32)), .val (.ref b327), .unset, .unset, .unset] []
    have f360 := Exa.wr W359 f356
    have Z361 : n0 ≤ h359.size := Nat.le_trans Z357 (Keep.of_wr W359).1
    have f362 : Va Z h359 b327 .byte [(.int (byt (byt p0))), (.int (byt (byt (ushr p0 (8 : Int32))))), (.int (byt (byt (ushr p0 (16 : Int32))))), (.int (byt (byt (ushr p0 (24 : Int32))))), (.int (byt (byt p1))), (.int (byt (byt (ushr p1 (8 : Int32))))), (.int (byt (byt (ushr p1 (16 : Int32))))), (.int (byt (byt (ushr p1 (24 : Int32)))))] := V359
    refine Go.movp st359 (mkF m 122 #[.val (.int p0), .val (.int p1), .val (.int p2), .val (.int (8 : Int32)), .val (.ref b327), .unset, .unset, .unset] []) rfl ?_
    refine g_iconst X359 hx (hb hby at_122) (pc' := 123) rfl (z := (2 : Int32)) rfl ?_
    obtain ⟨T363, h363, b363, X363, e363, g363, E363, V363, A363, st363⟩ := h_newarray X359 hx hZ e359 (n := (2 : Int32)) (ty := .byte) rfl (hw _ (List.mem_of_getElem? (i := 1) rfl)) (hb hby at_123) (k := 2) (cap := 2) (by decide) rfl (by decide) (by decide) (by decide) (by decide) (ad := "[B") (by decide) #[.val (.int p0), .val (.int p1), .val (.int p2), .val (.int (8 : Int32)), .val (.ref b327), .unset, .unset, .unset] []
    have ne364 : b327 ≠ b363 := Nat.ne_of_lt (g363 ▸ f360.lt)
    have ge365 : n0 ≤ b363 := g363 ▸ Z361
    have f366 := Exa.ext E363 f360
    have f367 := f362.ext E363
    have Z368 : n0 ≤ h363.size := Nat.le_trans Z361 E363.1
    have f369 : Va Z h363 b363 .byte [(.int (0 : Int32)), (.int (0 : Int32))] := V363
    refine Go.movp st363 (mkF m 125 #[.val (.int p0), .val (.int p1), .val (.int p2), .val (.int (8 : Int32)), .val (.ref b327), .unset, .unset, .unset] [(.ref b363)]) rfl ?_
    refine g_dup X363 hx (hb hby at_125) (pc' := 126) rfl rfl ?_
    refine g_iconst X363 hx (hb hby at_126) (pc' := 127) rfl (z := (0 : Int32)) rfl ?_
    refine g_bipush X363 hx (hb hby at_127) (pc' := 129) rfl (z := (50 : Int32)) rfl ?_
    obtain ⟨T370, h370, L370, X370, e370, N370, W370, V370, st370⟩ := h_bastore X363 hx hZ e363 N359 f369 ge365 (j := (0 : Int32)) (i := 0) (x := (50 : Int32)) (hb hby at_129) (by decide) rfl rfl #[.val (.int p0), .val (.int p1), .val (.int p2), .val (.int (8 : Int32)), .val (.ref b327), .unset, .unset, .unset] [(.ref b363)]
    have f371 := Exa.wr W370 f366
    have f372 := f367.other W370 ne364
    have f373 := Exa.wr W370 A363
    have Z374 : n0 ≤ h370.size := Nat.le_trans Z368 (Keep.of_wr W370).1
    have f375 : Va Z h370 b363 .byte [(.int (byt (50 : Int32))), (.int (0 : Int32))] := V370
    refine Go.movp st370 (mkF m 130 #[.val (.int p0), .val (.int p1), .val (.int p2), .val (.int (8 : Int32)), .val (.ref b327), .unset, .unset, .unset] [(.ref b363)]) rfl ?_
    refine g_dup X370 hx (hb hby at_130) (pc' := 131) rfl rfl ?_
    refine g_iconst X370 hx (hb hby at_131) (pc' := 132) rfl (z := (1 : Int32)) rfl ?_
    refine g_bipush X370 hx (hb hby at_132) (pc' := 134) rfl (z := (49 : Int32)) rfl ?_
    obtain ⟨T376, h376, L376, X376, e376, N376, W376, V376, st376⟩ := h_bastore X370 hx hZ e370 N370 f375 ge365 (j := (1 : Int32)) (i := 1) (x := (49 : Int32)) (hb hby at_134) (by decide) rfl rfl #[.val (.int p0), .val (.int p1), .val (.int p2), .val (.int (8 : Int32)), .val (.ref b327), .unset, .unset, .unset] [(.ref b363)]
    have f377 := Exa.wr W376 f371
    have f378 := f372.other W376 ne364
    have f379 := Exa.wr W376 f373
    have Z380 : n0 ≤ h376.size := Nat.le_trans Z374 (Keep.of_wr W376).1
    have f381 : Va Z h376 b363 .byte [(.int (byt (50 : Int32))), (.int (byt (49 : Int32)))] := V376
    refine Go.movp st376 (mkF m 135 #[.val (.int p0), .val (.int p1), .val (.int p2), .val (.int (8 : Int32)), .val (.ref b327), .unset, .unset, .unset] [(.ref b363)]) rfl ?_
    refine g_astore X376 hx (hb hby at_135) (pc' := 137) rfl rfl (Ls' := #[.val (.int p0), .val (.int p1), .val (.int p2), .val (.int (8 : Int32)), .val (.ref b327), .val (.ref b363), .unset, .unset]) rfl ?_
    refine g_aload X376 hx (hb hby at_137) (pc' := 139) rfl rfl rfl ?_
    obtain ⟨v382, T382, h382, L382, X382, e382, N382, q382, st382⟩ := h_static X376 hx (W := 0) (Ls := #[.val (.int p0), .val (.int p1), .val (.int p2), .val (.int (8 : Int32)), .val (.ref b327), .val (.ref b363), .unset, .unset]) (argsL := [(.ref b327)]) (rest := []) hZ e376 N376 hml hown (rm1_8 l Z a0 hw b327 (byt (byt p0)) (byt (byt (ushr p0 (8 : Int32)))) (byt (byt (ushr p0 (16 : Int32)))) (byt (byt (ushr p0 (24 : Int32)))) (byt (byt p1)) (byt (byt (ushr p1 (8 : Int32)))) (byt (byt (ushr p1 (16 : Int32)))) (byt (byt (ushr p1 (24 : Int32)))) h376 n0 Z380 f378) (hw _ (List.mem_of_getElem? (i := 2) rfl)) (hw _ (List.mem_of_getElem? (i := 3) rfl)) (hw _ (List.mem_of_getElem? (i := 4) rfl)) (hw _ (List.mem_of_getElem? (i := 5) rfl)) (by decide) pd___B_I rfl rfl (hb hby at_139) rfl (by decide) (by decide) (by decide) (by decide)
    obtain ⟨rfl, rfl⟩ := q382
    refine Go.movp st382 (mkF m 142 #[.val (.int p0), .val (.int p1), .val (.int p2), .val (.int (8 : Int32)), .val (.ref b327), .val (.ref b363), .unset, .unset] [(.int (fin2 ((fin1 ((((-134673708 : Int32) ^^^ (mixV (wordV (byt (byt p0)) (byt (byt (ushr p0 (8 : Int32)))) (byt (byt (ushr p0 (16 : Int32)))) (byt (byt (ushr p0 (24 : Int32))))))) * (1540483477 : Int32)) ^^^ (mixV (wordV (byt (byt p1)) (byt (byt (ushr p1 (8 : Int32)))) (byt (byt (ushr p1 (16 : Int32)))) (byt (byt (ushr p1 (24 : Int32)))))))) * (1540483477 : Int32))))]) rfl ?_
    refine g_istore X382 hx (hb hby at_142) (pc' := 144) rfl (Ls' := #[.val (.int p0), .val (.int p1), .val (.int p2), .val (.int (8 : Int32)), .val (.ref b327), .val (.ref b363), .val (.int (fin2 ((fin1 ((((-134673708 : Int32) ^^^ (mixV (wordV (byt (byt p0)) (byt (byt (ushr p0 (8 : Int32)))) (byt (byt (ushr p0 (16 : Int32)))) (byt (byt (ushr p0 (24 : Int32))))))) * (1540483477 : Int32)) ^^^ (mixV (wordV (byt (byt p1)) (byt (byt (ushr p1 (8 : Int32)))) (byt (byt (ushr p1 (16 : Int32)))) (byt (byt (ushr p1 (24 : Int32)))))))) * (1540483477 : Int32)))), .unset]) rfl ?_
    refine g_aload X382 hx (hb hby at_144) (pc' := 146) rfl rfl rfl ?_
    obtain ⟨v383, T383, h383, L383, X383, e383, N383, q383, st383⟩ := h_static X382 hx (W := 0) (Ls := #[.val (.int p0), .val (.int p1), .val (.int p2), .val (.int (8 : Int32)), .val (.ref b327), .val (.ref b363), .val (.int (fin2 ((fin1 ((((-134673708 : Int32) ^^^ (mixV (wordV (byt (byt p0)) (byt (byt (ushr p0 (8 : Int32)))) (byt (byt (ushr p0 (16 : Int32)))) (byt (byt (ushr p0 (24 : Int32))))))) * (1540483477 : Int32)) ^^^ (mixV (wordV (byt (byt p1)) (byt (byt (ushr p1 (8 : Int32)))) (byt (byt (ushr p1 (16 : Int32)))) (byt (byt (ushr p1 (24 : Int32)))))))) * (1540483477 : Int32)))), .unset]) (argsL := [(.ref b363)]) (rest := []) hZ e382 N382 hml hown (rm1_2 l Z a0 hw b363 (byt (50 : Int32)) (byt (49 : Int32)) h376 n0 Z380 f381) (hw _ (List.mem_of_getElem? (i := 2) rfl)) (hw _ (List.mem_of_getElem? (i := 3) rfl)) (hw _ (List.mem_of_getElem? (i := 4) rfl)) (hw _ (List.mem_of_getElem? (i := 5) rfl)) (by decide) pd___B_I rfl rfl (hb hby at_146) rfl (by decide) (by decide) (by decide) (by decide)
    obtain ⟨rfl, rfl⟩ := q383
    refine Go.movp st383 (mkF m 149 #[.val (.int p0), .val (.int p1), .val (.int p2), .val (.int (8 : Int32)), .val (.ref b327), .val (.ref b363), .val (.int (fin2 ((fin1 ((((-134673708 : Int32) ^^^ (mixV (wordV (byt (byt p0)) (byt (byt (ushr p0 (8 : Int32)))) (byt (byt (ushr p0 (16 : Int32)))) (byt (byt (ushr p0 (24 : Int32))))))) * (1540483477 : Int32)) ^^^ (mixV (wordV (byt (byt p1)) (byt (byt (ushr p1 (8 : Int32)))) (byt (byt (ushr p1 (16 : Int32)))) (byt (byt (ushr p1 (24 : Int32)))))))) * (1540483477 : Int32)))), .unset] [(.int (fin2 ((fin1 ((((-1756908914 : Int32) ^^^ (shl ((byt (50 : Int32)) &&& (255 : Int32)) (0 : Int32))) ^^^ (shl ((byt (49 : Int32)) &&& (255 : Int32)) (8 : Int32))) * (1540483477 : Int32))) * (1540483477 : Int32))))]) rfl ?_
    refine g_istore X383 hx (hb hby at_149) (pc' := 151) rfl (Ls' := #[.val (.int p0), .val (.int p1), .val (.int p2), .val (.int (8 : Int32)), .val (.ref b327), .val (.ref b363), .val (.int (fin2 ((fin1 ((((-134673708 : Int32) ^^^ (mixV (wordV (byt (byt p0)) (byt (byt (ushr p0 (8 : Int32)))) (byt (byt (ushr p0 (16 : Int32)))) (byt (byt (ushr p0 (24 : Int32))))))) * (1540483477 : Int32)) ^^^ (mixV (wordV (byt (byt p1)) (byt (byt (ushr p1 (8 : Int32)))) (byt (byt (ushr p1 (16 : Int32)))) (byt (byt (ushr p1 (24 : Int32)))))))) * (1540483477 : Int32)))), .val (.int (fin2 ((fin1 ((((-1756908914 : Int32) ^^^ (shl ((byt (50 : Int32)) &&& (255 : Int32)) (0 : Int32))) ^^^ (shl ((byt (49 : Int32)) &&& (255 : Int32)) (8 : Int32))) * (1540483477 : Int32))) * (1540483477 : Int32))))]) rfl ?_
    refine g_iload X383 hx (hb hby at_151) (pc' := 153) rfl rfl ?_
    refine g_ldc X383 hx hZ hown (hw _ (List.mem_of_getElem? (i := 8) rfl)) (hb hby at_153) (pc' := 155) rfl ?_
    refine g_icmp_ne X383 hx (hb hby at_155) (pc1 := 158) rfl (by decide) (pc2 := 173) (by decide) (fun hc155 => absurd (by decide +kernel) hc155) (fun hc155 => ?_)
    refine g_iload X383 hx (hb hby at_158) (pc' := 160) rfl rfl ?_
    refine g_iloadN X383 hx (hb hby at_160) (pc' := 161) rfl rfl ?_
    refine g_iloadN X383 hx (hb hby at_161) (pc' := 162) rfl rfl ?_
    refine g_iloadN X383 hx (hb hby at_162) (pc' := 163) rfl rfl ?_
    obtain ⟨v384, T384, h384, L384, X384, e384, N384, q384, st384⟩ := h_static X383 hx (W := 1) (Ls := #[.val (.int p0), .val (.int p1), .val (.int p2), .val (.int (8 : Int32)), .val (.ref b327), .val (.ref b363), .val (.int (fin2 ((fin1 ((((-134673708 : Int32) ^^^ (mixV (wordV (byt (byt p0)) (byt (byt (ushr p0 (8 : Int32)))) (byt (byt (ushr p0 (16 : Int32)))) (byt (byt (ushr p0 (24 : Int32))))))) * (1540483477 : Int32)) ^^^ (mixV (wordV (byt (byt p1)) (byt (byt (ushr p1 (8 : Int32)))) (byt (byt (ushr p1 (16 : Int32)))) (byt (byt (ushr p1 (24 : Int32)))))))) * (1540483477 : Int32)))), .val (.int (fin2 ((fin1 ((((-1756908914 : Int32) ^^^ (shl ((byt (50 : Int32)) &&& (255 : Int32)) (0 : Int32))) ^^^ (shl ((byt (49 : Int32)) &&& (255 : Int32)) (8 : Int32))) * (1540483477 : Int32))) * (1540483477 : Int32))))]) (argsL := [(.int p0), (.int p1), (.int (8 : Int32))]) (rest := [(.int (fin2 ((fin1 ((((-134673708 : Int32) ^^^ (mixV (wordV (byt (byt p0)) (byt (byt (ushr p0 (8 : Int32)))) (byt (byt (ushr p0 (16 : Int32)))) (byt (byt (ushr p0 (24 : Int32))))))) * (1540483477 : Int32)) ^^^ (mixV (wordV (byt (byt p1)) (byt (byt (ushr p1 (8 : Int32)))) (byt (byt (ushr p1 (16 : Int32)))) (byt (byt (ushr p1 (24 : Int32)))))))) * (1540483477 : Int32))))]) hZ e383 N383 hml hown (rm2_8 l Z a0 hw p0 p1 h376 n0 Z380) (hw _ (List.mem_of_getElem? (i := 9) rfl)) (hw _ (List.mem_of_getElem? (i := 10) rfl)) (hw _ (List.mem_of_getElem? (i := 11) rfl)) (hw _ (List.mem_of_getElem? (i := 12) rfl)) (by decide) pd__III_I rfl rfl (hb hby at_163) rfl (by decide) (by decide) (by decide) (by decide)
    obtain ⟨rfl, rfl⟩ := q384
    refine Go.movp st384 (mkF m 166 #[.val (.int p0), .val (.int p1), .val (.int p2), .val (.int (8 : Int32)), .val (.ref b327), .val (.ref b363), .val (.int (fin2 ((fin1 ((((-134673708 : Int32) ^^^ (mixV (wordV (byt (byt p0)) (byt (byt (ushr p0 (8 : Int32)))) (byt (byt (ushr p0 (16 : Int32)))) (byt (byt (ushr p0 (24 : Int32))))))) * (1540483477 : Int32)) ^^^ (mixV (wordV (byt (byt p1)) (byt (byt (ushr p1 (8 : Int32)))) (byt (byt (ushr p1 (16 : Int32)))) (byt (byt (ushr p1 (24 : Int32)))))))) * (1540483477 : Int32)))), .val (.int (fin2 ((fin1 ((((-1756908914 : Int32) ^^^ (shl ((byt (50 : Int32)) &&& (255 : Int32)) (0 : Int32))) ^^^ (shl ((byt (49 : Int32)) &&& (255 : Int32)) (8 : Int32))) * (1540483477 : Int32))) * (1540483477 : Int32))))] [(.int (fin2 ((fin1 ((((-134673708 : Int32) ^^^ (mixV p0)) * (1540483477 : Int32)) ^^^ (mixV p1))) * (1540483477 : Int32)))), (.int (fin2 ((fin1 ((((-134673708 : Int32) ^^^ (mixV (wordV (byt (byt p0)) (byt (byt (ushr p0 (8 : Int32)))) (byt (byt (ushr p0 (16 : Int32)))) (byt (byt (ushr p0 (24 : Int32))))))) * (1540483477 : Int32)) ^^^ (mixV (wordV (byt (byt p1)) (byt (byt (ushr p1 (8 : Int32)))) (byt (byt (ushr p1 (16 : Int32)))) (byt (byt (ushr p1 (24 : Int32)))))))) * (1540483477 : Int32))))]) rfl ?_
    refine g_icmp_ne X384 hx (hb hby at_166) (pc1 := 169) rfl (by decide) (pc2 := 173) (by decide) (fun hc166 => absurd (by rw [own_w, own_w]) hc166) (fun hc166 => ?_)
    refine g_iconst X384 hx (hb hby at_169) (pc' := 170) rfl (z := (1 : Int32)) rfl ?_
    refine g_goto X384 hx (hb hby at_170) (by decide) (pc' := 174) (by decide) ?_
    exact g_zreturn X384 hx rfl hret (hb hby at_174) N384 hlk (fun v t => endF (by decide) (by decide) v) (by rw [e384]; exact rfl)
set_option maxRecDepth 65536 in
set_option maxHeartbeats 40000000 in
theorem comes_1 {Post : Tables → Env → Array Value → State → Outcome → State → Prop} (hpost : ∀ tb e args s v u, (limb_1_1.after args s (.returned v) u = true ∧ limb_1_2.after args s (.returned v) u = true ∧ True) → FrameEnd s (.returned v) u (Jvm.fieldLocs frame_1_writes args s ++ Jvm.arrayLocs frame_1_arrays args s ++ Jvm.staticLocs frame_1_statics s) 16 128 → Post tb e args s (.returned v) u) :
    ArmFor flags0 classFile x code maxLocals ret World_1 tables_1 room_1 Calls_1 rest_1 Pre_1 Post := by
  intro l hfl _ _ p e ha hc hk s m args below hf hA hF happ hP
  obtain ⟨hcalls, hrest, hpre⟩ := hP
  obtain ⟨-, -, -, hnamed, -, -, -, hat⟩ := (Spec.applies_iff hf).mp happ
  obtain ⟨hg, hn⟩ := and_e (Cond.before_iff.mp (show (Jvm.Cond.and given_1 narrow_1).before args s = true from hpre))
  obtain ⟨g1, g2⟩ := and_e hg
  obtain ⟨g3, g4⟩ := and_e g2
  obtain ⟨g5, g6⟩ := and_e g4
  obtain ⟨w0, w1, w2, rfl⟩ : ∃ w0 w1 w2 : Value, args = #[w0, w1, w2] := by
    have hs : args.size = 3 := by simpa [Cond.value, given_1] using g1
    obtain ⟨L⟩ := args
    match L, hs with
    | [w0, w1, w2], _ => exact ⟨w0, w1, w2, rfl⟩
  have hw := fun d (hd : d ∈ tables_1) => atoms_spec (ws := Jvm.Cond.code x code maxLocals ret :: tables_1) hat d (List.mem_cons_of_mem _ hd)
  have hfit : Fit s := fun {y c} hc i hi => by
    obtain ⟨ha, rfl⟩ := Array.getElem?_eq_some_iff.mp hc
    have q := List.all_eq_true.mp ((Array.all_eq_true_iff_forall_mem.mp hF) _ (Array.getElem_mem ha)) i (List.mem_range.mpr hi)
    simpa [Array.getElem?_eq_getElem hi] using q
  obtain ⟨i0, ei0⟩ := is_v g3
  obtain rfl : w0 = (.int i0) := Option.some.inj ei0
  obtain ⟨i1, ei1⟩ := is_v g5
  obtain rfl : w1 = (.int i1) := Option.some.inj ei1
  obtain ⟨i2, ei2⟩ := is_v g6
  obtain rfl : w2 = (.int i2) := Option.some.inj ei2
  obtain ⟨n, o, h1, h2, h3, _, L, rfl, ⟨rfl, N⟩, hq⟩ := rm0 l s _ hw i0 i1 i2 s.heap s.heap.size (Nat.le_refl _) tables_1 p e ha hc hk s m _ below hf ((Spec.applies_iff_loose hf).mp happ).1 ⟨rfl, State.Warmed39.refl s, rfl⟩ trivial
  refine ⟨n, _, h1, h2, h3, hpost _ _ _ _ _ _ ⟨Cond.after_iff.mpr rfl, Cond.after_iff.mpr (eq_i res_at (Term.int_eval (1)) rfl), trivial⟩ ⟨hq.1, hq.2.1, (hq.2.2.sift fun y hy => Or.inr (N y hy)).mono (by decide) (by decide)⟩⟩
theorem main_1_1 : Claimed_1_1 := comes_1 fun _ _ _ _ _ _ h hF => ⟨h.1, hF⟩
theorem main_1_2 : Claimed_1_2 := comes_1 fun _ _ _ _ _ _ h hF => ⟨h.2.1, hF⟩
end Jvm.Pilot.@@N@@
namespace Jvm.Pilot.@@N@@
open Jvm Jvm.ClassFile Sem Op Lib Jvm.Free Jvm.Stand Jvm.Pilot.@@N@@.Jvm.D
/-! MADE BY PROGRAM (witnessworld.py) out of the Statement's table words and the real class files: 9 classes; the members and pool entries that the words name. The judged class is class 1, her method 1. -/
namespace start1
open Jvm.ClassFile
def u (s : String) : CpInfo := .utf8 (stringToUtf16 s)
/-- a pool by its gaps: so many unusable entries, then the entry; so many at the end -/
def gap : Nat → List CpInfo → List CpInfo
  | 0, r => r
  | n + 1, r => .unusable :: gap n r
def poolList (es : List (Nat × CpInfo)) (last : Nat) : List CpInfo := es.foldr (fun e r => gap e.1 (e.2 :: r)) (gap last [])
def pool (es : List (Nat × CpInfo)) (last : Nat) : Array CpInfo := ⟨poolList es last⟩
def fileOf (pool : Array CpInfo) (this : Nat) (attrs : Array Attribute := #[]) (ms : Array MethodInfo := #[]) (fl : Nat := 33) (sup : Nat := 0) (ifs : Array Nat := #[]) (fds : Array FieldInfo := #[]) : ClassFile where
  minorVersion := 0
  majorVersion := 65
  constantPool := pool
  accessFlags := fl
  thisClass := this
  superClass := sup
  interfaces := ifs
  fields := fds
  methods := ms
  attributes := attrs
def plain (name : String) (sup : Option ClassId) : Class where
  name := name
  kind := .ordinary
  loader := none
  accessFlags := 33
  super := sup
  interfaces := #[]
  cf := none
  fields := #[]
  methods := #[]
  instanceTypes := #[]
  staticTypes := #[]
  resolved := #[]
  callSites := []
  init := .initialized
  statics := none
  mirror := none

def pool0 : Array CpInfo := pool [(5, u "<init>"), (0, u "()V"), (1, .class_ 10), (1, u "java/lang/Object")] 113

def k0m0 : Method := { name := "<init>", desc := "()V", sig := { parameters := [], returnType := none }, accessFlags := 1, code := none }
/-- java/lang/Object -/
def k0 : Class := { plain "java/lang/Object" none with
  accessFlags := 33
  interfaces := #[]
  cf := some (fileOf pool0 8 #[] #[{ accessFlags := 1, nameIndex := 5, descriptorIndex := 6, attributes := #[] }] 33 0 #[] #[])
  fields := #[]
  methods := #[k0m0]
  instanceTypes := #[]
  staticTypes := #[]
  resolved := Array.replicate 124 none
  statics := none }

def pool1 : Array CpInfo := pool [(2, .class_ 4), (1, u "java/lang/Object"), (0, u "<init>"), (0, u "()V"), (0, .integer 2147483647), (0, .methodref 9 10), (0, .class_ 11), (0, .nameAndType 12 13), (0, u "com/example/stream_log_client/streamlogclient/producer/Partitioner"), (0, u "murmur2"), (0, u "([B)I"), (0, .integer 3321034988), (0, .methodref 16 17), (0, .class_ 18), (0, .nameAndType 19 20), (0, u "com/example/stream_log_client/streamlogclient/producer/PartitionerMurmur2PinLaw"), (0, u "ref"), (0, u "(III)I"), (0, .integer 1540483477), (0, .integer 2538058380), (0, .methodref 16 24), (0, .nameAndType 25 26), (0, u "mixWord"), (0, u "(I)I"), (0, .integer 65535), (0, .integer 16777215), (2, u "law"), (0, u "(III)Z")] 5

def k1m0 : Method := { name := "<init>", desc := "()V", sig := { parameters := [], returnType := none }, accessFlags := 2, code := none }
def k1c1 : Code := { maxStack := 4, maxLocals := 8, code := code, exceptionTable := #[], attributes := #[] }
def k1m1 : Method := { name := "law", desc := "(III)Z", sig := { parameters := [.int, .int, .int], returnType := some .boolean }, accessFlags := 9, code := some k1c1 }
def k1c2 : Code := { maxStack := 3, maxLocals := 3, code := method_3_code, exceptionTable := #[], attributes := #[] }
def k1m2 : Method := { name := "mixWord", desc := "(I)I", sig := { parameters := [.int], returnType := some .int }, accessFlags := 10, code := some k1c2 }
def k1c3 : Code := { maxStack := 3, maxLocals := 8, code := method_4_code, exceptionTable := #[], attributes := #[] }
def k1m3 : Method := { name := "ref", desc := "(III)I", sig := { parameters := [.int, .int, .int], returnType := some .int }, accessFlags := 10, code := some k1c3 }
/-- com/example/stream_log_client/streamlogclient/producer/PartitionerMurmur2PinLaw -/
def k1 : Class := { plain "com/example/stream_log_client/streamlogclient/producer/PartitionerMurmur2PinLaw" (some 0) with
  accessFlags := 49
  interfaces := #[]
  cf := some (fileOf pool1 16 #[] #[{ accessFlags := 2, nameIndex := 5, descriptorIndex := 6, attributes := #[] }, { accessFlags := 9, nameIndex := 31, descriptorIndex := 32, attributes := #[] }, { accessFlags := 10, nameIndex := 25, descriptorIndex := 26, attributes := #[] }, { accessFlags := 10, nameIndex := 19, descriptorIndex := 20, attributes := #[] }] 49 2 #[] #[])
  fields := #[]
  methods := #[k1m0, k1m1, k1m2, k1m3]
  instanceTypes := #[]
  staticTypes := #[]
  resolved := Array.replicate 38 none
  statics := none }

def pool2 : Array CpInfo := pool [(2, .class_ 4), (1, u "java/lang/Object"), (0, u "<init>"), (0, u "()V"), (18, .class_ 27), (1, u "com/example/stream_log_client/streamlogclient/producer/Partitioner"), (0, u "murmur2"), (0, u "([B)I"), (1, .integer 2538058380), (0, .integer 1540483477), (0, u "SEED"), (0, u "I"), (1, u "MULTIPLIER")] 24

def k2m0 : Method := { name := "<init>", desc := "()V", sig := { parameters := [], returnType := none }, accessFlags := 2, code := none }
def k2c1 : Code := { maxStack := 5, maxLocals := 6, code := prog_67_method_3_code, exceptionTable := #[], attributes := #[] }
def k2m1 : Method := { name := "murmur2", desc := "([B)I", sig := { parameters := [(.array .byte)], returnType := some .int }, accessFlags := 8, code := some k2c1 }
/-- com/example/stream_log_client/streamlogclient/producer/Partitioner -/
def k2 : Class := { plain "com/example/stream_log_client/streamlogclient/producer/Partitioner" (some 0) with
  accessFlags := 49
  interfaces := #[]
  cf := some (fileOf pool2 25 #[] #[{ accessFlags := 2, nameIndex := 5, descriptorIndex := 6, attributes := #[] }, { accessFlags := 8, nameIndex := 28, descriptorIndex := 29, attributes := #[] }] 49 2 #[] #[{ accessFlags := 26, nameIndex := 33, descriptorIndex := 34, attributes := #[] }, { accessFlags := 26, nameIndex := 36, descriptorIndex := 34, attributes := #[] }])
  fields := #[{ name := "SEED", type := .int, accessFlags := 26, slot := 0, constantValue := 0 }, { name := "MULTIPLIER", type := .int, accessFlags := 26, slot := 1, constantValue := 0 }]
  methods := #[k2m0, k2m1]
  instanceTypes := #[]
  staticTypes := #[.int, .int]
  resolved := Array.replicate 61 none
  statics := none }

def pool3 : Array CpInfo := pool [(1, u "java/lang/Cloneable"), (0, .class_ 1), (0, u "java/lang/Object"), (0, .class_ 3)] 3

/-- java/lang/Cloneable -/
def k3 : Class := { plain "java/lang/Cloneable" (some 0) with
  accessFlags := 1537
  interfaces := #[]
  cf := some (fileOf pool3 2 #[] #[] 1537 4 #[] #[])
  fields := #[]
  methods := #[]
  instanceTypes := #[]
  staticTypes := #[]
  resolved := Array.replicate 8 none
  statics := none }

def pool4 : Array CpInfo := pool [(1, u "java/io/Serializable"), (0, .class_ 1), (0, u "java/lang/Object"), (0, .class_ 3)] 3

/-- java/io/Serializable -/
def k4 : Class := { plain "java/io/Serializable" (some 0) with
  accessFlags := 1537
  interfaces := #[]
  cf := some (fileOf pool4 2 #[] #[] 1537 4 #[] #[])
  fields := #[]
  methods := #[]
  instanceTypes := #[]
  staticTypes := #[]
  resolved := Array.replicate 8 none
  statics := none }

/-- the primitive byte -/
def k5 : Class := { plain "byte" none with kind := .primitive 'B', accessFlags := 0x411 }
/-- [B -/
def k6 : Class := { plain "[B" (some 0) with kind := .array 5 .byte, interfaces := #[3, 4], accessFlags := 1041 }

/-- the primitive int -/
def k7 : Class := { plain "int" none with kind := .primitive 'I', accessFlags := 0x411 }
/-- [I -/
def k8 : Class := { plain "[I" (some 0) with kind := .array 7 .int, interfaces := #[3, 4], accessFlags := 1041 }

def heap : Heap := #[]
def classes : Array Class := #[k0, k1, k2, k3, k4, k5, k6, k7, k8]
def interned : List (Array UInt16 × Addr) := []
def slotsUsed : Nat := 0
def theMethod : MethodId := ⟨1, 1⟩
def args0 : Array Value := #[.int 5, .int 6, .int 7]
def aboutOver (below : List Frame) : State where
  vm := { classes := classes, interned := interned.toArray }
  heap := heap
  slotsUsed := slotsUsed
  threads := #[{ frames := .invoking theMethod args0 :: below }]
def below0 : List Frame := [.native { method := ⟨0, 0⟩, args := #[] }]
def about1 : State := aboutOver below0
def p0 : Program := .bare "" "" ""
def e0 : Env := launch0.env 0 0 0
theorem w_frames : about1.frames = Frame.invoking theMethod args0 :: below0 := rfl
set_option maxRecDepth 65536 in
theorem w_args : argsFit about1.vm theMethod args0 = true := by decide +kernel
set_option maxRecDepth 65536 in
theorem w_heap : heapFits about1 = true := by decide +kernel
set_option maxRecDepth 65536 in
theorem w_runnable : about1.curStatus? = some .runnable := by decide +kernel
set_option maxRecDepth 65536 in
theorem w_alone : about1.alone = true := by decide +kernel
set_option maxRecDepth 65536 in
theorem w_named : about1.methodNamed? x = some theMethod := by decide +kernel
set_option maxRecDepth 65536 in
theorem w_hears : about1.hears theMethod below0 = true := by decide +kernel
set_option maxRecDepth 65536 in
theorem w_ripe : about1.ripe theMethod args0 below0 = true := by decide +kernel
theorem w_running : about1.status = .running := rfl
set_option maxRecDepth 65536 in
theorem w_room : about1.hasRoom e0.platform room_1 = true :=
  launch0.hasRoom_least _ room_1 (by decide +kernel) (by decide +kernel) (by decide +kernel) (by decide +kernel) (by decide +kernel) (by decide +kernel)
theorem allAtoms_all (ts : List Jvm.Cond) (a : Array Jvm.Value) (st : Jvm.State) : (allAtoms ts).before a st = ts.all (fun c => c.before a st) := by
  induction ts with
  | nil => rfl
  | cons c t ih =>
    show (Jvm.Cond.and c (allAtoms t)).before a st = _
    rw [Jvm.Cond.before_and, ih, List.all_cons]
def words1 : List Jvm.Cond := Jvm.Cond.code x code maxLocals ret :: tables_1
/-- a 'code' word, met by the world's own term for the bytes: nothing is compared byte by byte -/
theorem code_word {y : MethodName} {bytes : ByteArray} {mx : Nat} {rt : Option FieldType} {a : Array Value} {s : State} {m : MethodId} {meth : Method} {c : Code} (h1 : s.methodNamed? y = some m) (h2 : s.vm.method? m = some meth) (h3 : meth.code = some c) (h4 : c.code = bytes)
    (h5 : (c.maxLocals == mx && c.exceptionTable.isEmpty && decide (c.maxStack ≤ mostOperands) && decide (meth.sig.returnType = rt) && !meth.locks && decide (parseMethodDescriptor y.desc = some meth.sig)) = true) : (Jvm.Cond.code y bytes mx rt).before a s = true := by
  simp only [Bool.and_eq_true, beq_iff_eq, Bool.not_eq_true', decide_eq_true_eq] at h5
  obtain ⟨⟨⟨⟨⟨g1, g2⟩, g3⟩, g4⟩, g5⟩, g6⟩ := h5
  simp [Cond.before, Cond.holds, Cond.value, h1, h2, h3, h4, g1, g2, g3, g4, g5, g6]
def isCode : Jvm.Cond → Bool
  | .code _ _ _ _ => true
  | _ => false
theorem all_split {L : List Jvm.Cond} {P : Jvm.Cond → Bool} (h1 : L.all (fun c => isCode c || P c) = true) (h2 : ∀ c ∈ L.filter isCode, P c = true) : L.all P = true := by
  refine List.all_eq_true.mpr fun c hc => ?_
  have h := List.all_eq_true.mp h1 c hc
  rcases Bool.eq_false_or_eq_true (isCode c) with hi | hi
  · exact h2 c (List.mem_filter.mpr ⟨hc, hi⟩)
  · simpa [hi] using h
set_option maxRecDepth 65536 in
theorem w_c0 : (Jvm.Cond.code x code maxLocals ret).before args0 about1 = true := code_word (m := ⟨1, 1⟩) (meth := k1m1) (c := k1c1) (by decide +kernel) rfl rfl rfl (by decide +kernel)
set_option maxRecDepth 65536 in
theorem w_c1 : (Jvm.Cond.code ({ cls := "com/example/stream_log_client/streamlogclient/producer/Partitioner", name := "murmur2", desc := "([B)I" } : Jvm.MethodName) prog_67_method_3_code (6 : Nat) (Option.some Jvm.ClassFile.FieldType.int)).before args0 about1 = true := code_word (m := ⟨2, 1⟩) (meth := k2m1) (c := k2c1) (by decide +kernel) rfl rfl rfl (by decide +kernel)
set_option maxRecDepth 65536 in
theorem w_c2 : (Jvm.Cond.code ({ cls := "com/example/stream_log_client/streamlogclient/producer/PartitionerMurmur2PinLaw", name := "ref", desc := "(III)I" } : Jvm.MethodName) method_4_code (8 : Nat) (Option.some Jvm.ClassFile.FieldType.int)).before args0 about1 = true := code_word (m := ⟨1, 3⟩) (meth := k1m3) (c := k1c3) (by decide +kernel) rfl rfl rfl (by decide +kernel)
set_option maxRecDepth 65536 in
theorem w_c3 : (Jvm.Cond.code ({ cls := "com/example/stream_log_client/streamlogclient/producer/PartitionerMurmur2PinLaw", name := "mixWord", desc := "(I)I" } : Jvm.MethodName) method_3_code (3 : Nat) (Option.some Jvm.ClassFile.FieldType.int)).before args0 about1 = true := code_word (m := ⟨1, 2⟩) (meth := k1m2) (c := k1c2) (by decide +kernel) rfl rfl rfl (by decide +kernel)
def codes1 : List Jvm.Cond := [Jvm.Cond.code x code maxLocals ret, Jvm.Cond.code ({ cls := "com/example/stream_log_client/streamlogclient/producer/Partitioner", name := "murmur2", desc := "([B)I" } : Jvm.MethodName) prog_67_method_3_code (6 : Nat) (Option.some Jvm.ClassFile.FieldType.int), Jvm.Cond.code ({ cls := "com/example/stream_log_client/streamlogclient/producer/PartitionerMurmur2PinLaw", name := "ref", desc := "(III)I" } : Jvm.MethodName) method_4_code (8 : Nat) (Option.some Jvm.ClassFile.FieldType.int), Jvm.Cond.code ({ cls := "com/example/stream_log_client/streamlogclient/producer/PartitionerMurmur2PinLaw", name := "mixWord", desc := "(I)I" } : Jvm.MethodName) method_3_code (3 : Nat) (Option.some Jvm.ClassFile.FieldType.int)]
set_option maxRecDepth 65536 in
theorem codes_eq : words1.filter isCode = codes1 := rfl
theorem w_codes : ∀ c ∈ words1.filter isCode, c.before args0 about1 = true := by
  rw [codes_eq]
  intro c hc
  simp only [codes1, List.mem_cons, List.not_mem_nil, or_false] at hc
  rcases hc with rfl | rfl | rfl | rfl
  · exact w_c0
  · exact w_c1
  · exact w_c2
  · exact w_c3
set_option maxRecDepth 65536 in
theorem w_t1 : words1.all (fun c => isCode c || c.before args0 about1) = true := by decide +kernel
theorem w_tables : (allAtoms (Jvm.Cond.code x code maxLocals ret :: tables_1)).before args0 about1 = true := by
  rw [allAtoms_all]
  show words1.all (fun c => c.before args0 about1) = true
  refine all_split ?_ w_codes
  rw [w_t1]
set_option maxRecDepth 65536 in
theorem w_case : (Jvm.Cond.and given_1 narrow_1).before args0 about1 = true := by decide +kernel
theorem w_applies : (headSpec (Jvm.Cond.code x code maxLocals ret :: tables_1) room_1).applies x e0.platform about1 = true :=
  (Spec.applies_iff w_frames).mpr ⟨w_running, w_runnable, w_alone, w_named, w_hears, w_ripe, w_room, w_tables⟩
theorem atStart : AtStart classFile x code maxLocals ret World_1 tables_1 room_1 Calls_1 rest_1 Pre_1 launch0 p0 e0 about1 theMethod args0 below0 :=
  ⟨lists_1, trivial, launch0.admits_env _ _ _, launch0.least_env, fairChoices_fair.cas, fairChoices_fair.clock, w_frames, w_args, w_heap, w_applies, trivial, trivial, w_case⟩
end start1
theorem witness_1 : WitnessClaimed_1 := ⟨start1.p0, start1.e0, start1.about1, start1.theMethod, start1.args0, start1.below0, start1.atStart⟩
end Jvm.Pilot.@@N@@
