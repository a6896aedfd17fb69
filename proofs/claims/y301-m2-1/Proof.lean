import JvmDerived
import JvmDerived.Pilot.@@N@@Statement
import JvmDerived.Pilot.@@N@@Code
set_option linter.unusedVariables false
set_option linter.unusedSimpArgs false
namespace Jvm.OwnKit
open Sem ClassFile Op Lib Jvm.Stand Jvm.Free Jvm.LawKit Jvm.RoadKit
/-! int and long operations, named -/
def ushr (x y : Int32) : Int32 := (x.toUInt32 >>> (y &&& 31).toUInt32).toInt32
def shl (x y : Int32) : Int32 := x <<< (y &&& 31)
def shr (x y : Int32) : Int32 := x >>> (y &&& 31)
def lushr (x : Int64) (y : Int32) : Int64 := (x.toUInt64 >>> (y &&& 0x3f).toInt64.toUInt64).toInt64
def lshl (x : Int64) (y : Int32) : Int64 := x <<< (y &&& 0x3f).toInt64
def lshr (x : Int64) (y : Int32) : Int64 := x >>> (y &&& 0x3f).toInt64
def chr (x : Int32) : Int32 := x.toUInt32.toUInt16.toUInt32.toInt32
def byt (x : Int32) : Int32 := x.toInt8.toInt32
def sht (x : Int32) : Int32 := x.toInt16.toInt32
theorem narrow_byt (x : Int32) : narrow .byte (.int (byt x)) = .int (byt x) := by simp [narrow, byt]
theorem chr_chr (x : Int32) : chr (chr x) = chr x := by unfold chr; simp only [UInt32.toUInt32_toInt32, UInt16.toUInt16_toUInt32]
theorem byt_byt (x : Int32) : byt (byt x) = byt x := by simp [byt]
theorem narrow_chr (x : Int32) : narrow .char (.int (chr x)) = .int (chr x) := congrArg Value.int (chr_chr x)
/-- what a contract says at the end -/
def CQ (Q : Option Value → Heap → Prop) (n0 : Nat) (v : Option Value) (h : Heap) (L : List Loc) : Prop := Q v h ∧ Fr n0 L
/-- from this frame on the run ends as asked -/
def Go (p : Program) (e : Env) (below : List Frame) (En : Option Value → State → List Loc → Prop) (n0 : Nat) (Q : Option Value → Heap → Prop) (T : State) (g : JFrame) : Prop :=
  ∃ s₂ o, Steps p.tables e below (T.setTop g) s₂ ∧ s₂.status = .running ∧ Ended s₂ below o ∧ ∃ v L, o = .returned v ∧ CQ Q n0 v s₂.heap L ∧ En v s₂ L
/-- the plain end: nothing interned -/
def EndF (s : State) (C S : Nat) (v : Option Value) (t : State) (L : List Loc) : Prop := FrameEnd s (.returned v) t L C S
theorem endF {s : State} {C S cells slots : Nat} {t : State} {L : List Loc} {h : Heap} (hc : cells ≤ C) (hs : slots ≤ S) (v : Option Value) (_ : t.heap = h) (hW : s.WarmedH t.vm) (hsm : s.sameButNew ({ t with vm := s.vm } : State) L cells slots) : EndF s C S v t L := ⟨⟨_, rfl⟩, hW, hsm.mono hc hs⟩
/-- a method's contract -/
def Ctr (l : Launch) (Z : State) (y : MethodName) (bytes : ByteArray) (maxL : Nat) (ret : Option FieldType) (rm : Room) (as' : Array Value) (h0 : Heap) (n0 : Nat) (Q : Option Value → Heap → Prop) : Prop :=
  ∀ ws : List Jvm.Cond, MetFree l y (head1 (Jvm.Cond.code y bytes maxL ret :: ws) rm) (fun a U => a = as' ∧ Z.Warmed39 U.vm ∧ U.heap = h0) (fun _ _ _ _ _ => True) (fun _ U o U' => ∃ v L, o = .returned v ∧ CQ Q n0 v U'.heap L ∧ FrameEnd U o U' L rm.cells rm.slots)
theorem Ctr.of {l : Launch} {Z : State} {y : MethodName} {bytes : ByteArray} {maxL : Nat} {ret : Option FieldType} {rm : Room} {as' : Array Value} {h0 : Heap} {n0 : Nat} {Q : Option Value → Heap → Prop} {Ls : Array Slot}
    (hpl : plainFor y = true) (hef : ∀ m, entryFrame m as' maxL = mkF m 0 Ls [])
    (body : ∀ (p : Program) (e : Env) (s : State) (m : MethodId) (below : List Frame) (meth : Method) (c : Code) (T : State), p.tables.exec = Jvm.exec → c.code = bytes → c.maxLocals = maxL → s.vm.findClass y.cls = some m.cls → meth.name = y.name → meth.sig.returnType = ret → meth.locks = false → Z.Warmed39 s.vm →
      Stand p l e rm s m as' below meth c T [] 0 0 → T.heap = h0 → Go p e below (EndF s rm.cells rm.slots) n0 Q T (mkF m 0 Ls [])) : Ctr l Z y bytes maxL ret rm as' h0 n0 Q := by
  intro ws
  refine MetFree.of_bodySF hpl hisR ?_
  intro p e s m args below meth c s₁ Bd hml0 hP hK
  obtain ⟨rfl, hZ, hh⟩ := hP
  have hown : s.vm.findClass y.cls = some m.cls := findClass_of_methodNamed Bd.named
  have hnm := (name_of_methodNamed Bd.named Bd.method).1
  have e0 : s₁.heap = h0 := by rw [← hh, Bd.state]; rfl
  rw [hef]
  obtain ⟨s₂, o, h1, h2, h3, v, L, rfl, h5, h6⟩ := body p e s m below meth c s₁ Bd.exec Bd.bytes hml0 hown hnm Bd.returns Bd.notSynchronized hZ (Stand.of_body Bd) e0
  exact ⟨s₂, _, h1, h2, h3, v, L, rfl, h5, h6⟩
section Go
variable {p : Program} {l : Launch} {e : Env} {R : Room} {s : State} {m : MethodId} {args : Array Value} {below : List Frame} {meth : Method} {c : Code} {T : State} {locs : List Loc} {cells slots : Nat} {Z : State} {a0 : Array Value} {h h' : Heap} {n0 : Nat} {En : Option Value → State → List Loc → Prop} {Q : Option Value → Heap → Prop}
variable {pc pc' pc1 pc2 : Nat} {Ls Ls' : Array Slot} {st : List Value}
theorem Go.mov {T' : State} {g g' : JFrame} (k : ∀ target, Steps p.tables e below (T'.setTop g') target → Steps p.tables e below (T.setTop g) target) (G : Go p e below En n0 Q T' g') : Go p e below En n0 Q T g := by
  obtain ⟨s₂, o, h1, r⟩ := G
  exact ⟨s₂, o, k _ h1, r⟩
theorem Go.movp {T' : State} {g g' : JFrame} (k : ∀ target, Steps p.tables e below (T'.setTop g') target → Steps p.tables e below (T.setTop g) target) (g'' : JFrame) (q : g' = g'') (G : Go p e below En n0 Q T' g'') : Go p e below En n0 Q T g := Go.mov k (q ▸ G)
theorem Go.cast {g g' : JFrame} (q : g = g') (G : Go p e below En n0 Q T g') : Go p e below En n0 Q T g := q ▸ G
theorem Go.imp {Q' : Option Value → Heap → Prop} {g : JFrame} (q : ∀ v h, Q v h → Q' v h) (G : Go p e below En n0 Q T g) : Go p e below En n0 Q' T g := by
  obtain ⟨s₂, o, h1, h2, h3, v, L, h4, ⟨h5, h6⟩, h7⟩ := G
  exact ⟨s₂, o, h1, h2, h3, v, L, h4, ⟨q _ _ h5, h6⟩, h7⟩
theorem g_iload (X : Stand p l e R s m args below meth c T locs cells slots) (hx : p.tables.exec = Jvm.exec) {k : Nat} {v : Int32} (hd : decode c.code pc = .ok (.iload k, 2)) (hp : pc + 2 = pc') (hl : Ls[k]? = some (.val (.int v))) (G : Go p e below En n0 Q T (mkF m pc' Ls (.int v :: st))) : Go p e below En n0 Q T (mkF m pc Ls (st)) := by
  subst hp
  exact Go.mov (fun _ k => XS.iload X.here hx rfl hd hl k) G
theorem g_iloadN (X : Stand p l e R s m args below meth c T locs cells slots) (hx : p.tables.exec = Jvm.exec) {k : Fin 4} {v : Int32} (hd : decode c.code pc = .ok (.iload_n k, 1)) (hp : pc + 1 = pc') (hl : Ls[k.val]? = some (.val (.int v))) (G : Go p e below En n0 Q T (mkF m pc' Ls (.int v :: st))) : Go p e below En n0 Q T (mkF m pc Ls (st)) := by
  subst hp
  exact Go.mov (fun _ k => XS.iloadN X.here hx rfl hd hl k) G
theorem g_lload (X : Stand p l e R s m args below meth c T locs cells slots) (hx : p.tables.exec = Jvm.exec) {k : Nat} {v : Int64} (hd : decode c.code pc = .ok (.lload k, 2)) (hp : pc + 2 = pc') (hl : Ls[k]? = some (.val (.long v))) (G : Go p e below En n0 Q T (mkF m pc' Ls (.long v :: st))) : Go p e below En n0 Q T (mkF m pc Ls (st)) := by
  subst hp
  exact Go.mov (fun _ k => XS.lload X.here hx rfl hd hl k) G
theorem g_lloadN (X : Stand p l e R s m args below meth c T locs cells slots) (hx : p.tables.exec = Jvm.exec) {k : Fin 4} {v : Int64} (hd : decode c.code pc = .ok (.lload_n k, 1)) (hp : pc + 1 = pc') (hl : Ls[k.val]? = some (.val (.long v))) (G : Go p e below En n0 Q T (mkF m pc' Ls (.long v :: st))) : Go p e below En n0 Q T (mkF m pc Ls (st)) := by
  subst hp
  exact Go.mov (fun _ k => XS.lloadN X.here hx rfl hd hl k) G
theorem g_aload (X : Stand p l e R s m args below meth c T locs cells slots) (hx : p.tables.exec = Jvm.exec) {k : Nat} {v : Value} (hd : decode c.code pc = .ok (.aload k, 2)) (hp : pc + 2 = pc') (hl : Ls[k]? = some (.val v)) (hv : v.isRef = true) (G : Go p e below En n0 Q T (mkF m pc' Ls (v :: st))) : Go p e below En n0 Q T (mkF m pc Ls (st)) := by
  subst hp
  exact Go.mov (fun _ k => XS.aload X.here hx rfl hd hl hv k) G
theorem g_aloadN (X : Stand p l e R s m args below meth c T locs cells slots) (hx : p.tables.exec = Jvm.exec) {k : Fin 4} {v : Value} (hd : decode c.code pc = .ok (.aload_n k, 1)) (hp : pc + 1 = pc') (hl : Ls[k.val]? = some (.val v)) (hv : v.isRef = true) (G : Go p e below En n0 Q T (mkF m pc' Ls (v :: st))) : Go p e below En n0 Q T (mkF m pc Ls (st)) := by
  subst hp
  exact Go.mov (fun _ k => XS.aloadN X.here hx rfl hd hl hv k) G
theorem g_istore (X : Stand p l e R s m args below meth c T locs cells slots) (hx : p.tables.exec = Jvm.exec) {k : Nat} {v : Int32} (hd : decode c.code pc = .ok (.istore k, 2)) (hp : pc + 2 = pc') (hl : storeLocals Ls k (.int v) = some Ls') (G : Go p e below En n0 Q T (mkF m pc' Ls' (st))) : Go p e below En n0 Q T (mkF m pc Ls (.int v :: st)) := by
  subst hp
  exact Go.mov (fun _ k => XS.istore X.here hx rfl hd rfl hl k) G
theorem g_istoreN (X : Stand p l e R s m args below meth c T locs cells slots) (hx : p.tables.exec = Jvm.exec) {k : Fin 4} {v : Int32} (hd : decode c.code pc = .ok (.istore_n k, 1)) (hp : pc + 1 = pc') (hl : storeLocals Ls k.val (.int v) = some Ls') (G : Go p e below En n0 Q T (mkF m pc' Ls' (st))) : Go p e below En n0 Q T (mkF m pc Ls (.int v :: st)) := by
  subst hp
  exact Go.mov (fun _ k => XS.istoreN X.here hx rfl hd rfl hl k) G
theorem g_lstore (X : Stand p l e R s m args below meth c T locs cells slots) (hx : p.tables.exec = Jvm.exec) {k : Nat} {v : Int64} (hd : decode c.code pc = .ok (.lstore k, 2)) (hp : pc + 2 = pc') (hl : storeLocals Ls k (.long v) = some Ls') (G : Go p e below En n0 Q T (mkF m pc' Ls' (st))) : Go p e below En n0 Q T (mkF m pc Ls (.long v :: st)) := by
  subst hp
  exact Go.mov (fun _ k => XS.lstore X.here hx rfl hd rfl hl k) G
theorem g_lstoreN (X : Stand p l e R s m args below meth c T locs cells slots) (hx : p.tables.exec = Jvm.exec) {k : Fin 4} {v : Int64} (hd : decode c.code pc = .ok (.lstore_n k, 1)) (hp : pc + 1 = pc') (hl : storeLocals Ls k.val (.long v) = some Ls') (G : Go p e below En n0 Q T (mkF m pc' Ls' (st))) : Go p e below En n0 Q T (mkF m pc Ls (.long v :: st)) := by
  subst hp
  exact Go.mov (fun _ k => XS.lstoreN X.here hx rfl hd rfl hl k) G
theorem g_astore (X : Stand p l e R s m args below meth c T locs cells slots) (hx : p.tables.exec = Jvm.exec) {k : Nat} {v : Value} (hd : decode c.code pc = .ok (.astore k, 2)) (hp : pc + 2 = pc') (hv : v.isRef = true) (hl : storeLocals Ls k v = some Ls') (G : Go p e below En n0 Q T (mkF m pc' Ls' (st))) : Go p e below En n0 Q T (mkF m pc Ls (v :: st)) := by
  subst hp
  exact Go.mov (fun _ k => XS.astore X.here hx rfl hd rfl hv hl k) G
theorem g_astoreN (X : Stand p l e R s m args below meth c T locs cells slots) (hx : p.tables.exec = Jvm.exec) {k : Fin 4} {v : Value} (hd : decode c.code pc = .ok (.astore_n k, 1)) (hp : pc + 1 = pc') (hv : v.isRef = true) (hl : storeLocals Ls k.val v = some Ls') (G : Go p e below En n0 Q T (mkF m pc' Ls' (st))) : Go p e below En n0 Q T (mkF m pc Ls (v :: st)) := by
  subst hp
  exact Go.mov (fun _ k => XS.astoreN X.here hx rfl hd rfl hv hl k) G
theorem g_iconst (X : Stand p l e R s m args below meth c T locs cells slots) (hx : p.tables.exec = Jvm.exec) {i : Int} {z : Int32} (hd : decode c.code pc = .ok (.iconst i, 1)) (hp : pc + 1 = pc') (hz : Int32.ofInt i = z) (G : Go p e below En n0 Q T (mkF m pc' Ls (.int z :: st))) : Go p e below En n0 Q T (mkF m pc Ls st) := by
  subst hp hz
  exact Go.mov (fun _ k => XS.iconst X.here hx rfl hd k) G
theorem g_bipush (X : Stand p l e R s m args below meth c T locs cells slots) (hx : p.tables.exec = Jvm.exec) {i : Int} {z : Int32} (hd : decode c.code pc = .ok (.bipush i, 2)) (hp : pc + 2 = pc') (hz : (Int8.ofInt i).toInt32 = z) (G : Go p e below En n0 Q T (mkF m pc' Ls (.int z :: st))) : Go p e below En n0 Q T (mkF m pc Ls st) := by
  subst hp hz
  exact Go.mov (fun _ k => XS.bipush X.here hx rfl hd k) G
theorem g_sipush (X : Stand p l e R s m args below meth c T locs cells slots) (hx : p.tables.exec = Jvm.exec) {i : Int} {z : Int32} (hd : decode c.code pc = .ok (.sipush i, 3)) (hp : pc + 3 = pc') (hz : (Int16.ofInt i).toInt32 = z) (G : Go p e below En n0 Q T (mkF m pc' Ls (.int z :: st))) : Go p e below En n0 Q T (mkF m pc Ls st) := by
  subst hp hz
  exact Go.mov (fun _ k => XS.sipush X.here hx rfl hd k) G
theorem g_lconst (X : Stand p l e R s m args below meth c T locs cells slots) (hx : p.tables.exec = Jvm.exec) {i : Fin 2} {z : Int64} (hd : decode c.code pc = .ok (.lconst i, 1)) (hp : pc + 1 = pc') (hz : Int64.ofNat i = z) (G : Go p e below En n0 Q T (mkF m pc' Ls (.long z :: st))) : Go p e below En n0 Q T (mkF m pc Ls st) := by
  subst hp hz
  exact Go.mov (fun _ k => XS.lconst X.here hx rfl hd k) G
theorem g_aconst_null (X : Stand p l e R s m args below meth c T locs cells slots) (hx : p.tables.exec = Jvm.exec)  (hd : decode c.code pc = .ok (.aconst_null, 1)) (hp : pc + 1 = pc') (G : Go p e below En n0 Q T (mkF m pc' Ls (.null :: st))) : Go p e below En n0 Q T (mkF m pc Ls (st)) := by
  subst hp
  exact Go.mov (fun _ k => XS.aconstNull X.here hx rfl hd k) G
theorem g_iadd (X : Stand p l e R s m args below meth c T locs cells slots) (hx : p.tables.exec = Jvm.exec) {x y : Int32} (hd : decode c.code pc = .ok (.iadd, 1)) (hp : pc + 1 = pc') (G : Go p e below En n0 Q T (mkF m pc' Ls (.int (x + y) :: st))) : Go p e below En n0 Q T (mkF m pc Ls (.int y :: .int x :: st)) := by
  subst hp
  exact Go.mov (fun _ k => XS.iadd X.here hx rfl hd rfl k) G
theorem g_ladd (X : Stand p l e R s m args below meth c T locs cells slots) (hx : p.tables.exec = Jvm.exec) {x y : Int64} (hd : decode c.code pc = .ok (.ladd, 1)) (hp : pc + 1 = pc') (G : Go p e below En n0 Q T (mkF m pc' Ls (.long (x + y) :: st))) : Go p e below En n0 Q T (mkF m pc Ls (.long y :: .long x :: st)) := by
  subst hp
  exact Go.mov (fun _ k => XS.ladd X.here hx rfl hd rfl k) G
theorem g_isub (X : Stand p l e R s m args below meth c T locs cells slots) (hx : p.tables.exec = Jvm.exec) {x y : Int32} (hd : decode c.code pc = .ok (.isub, 1)) (hp : pc + 1 = pc') (G : Go p e below En n0 Q T (mkF m pc' Ls (.int (x - y) :: st))) : Go p e below En n0 Q T (mkF m pc Ls (.int y :: .int x :: st)) := by
  subst hp
  exact Go.mov (fun _ k => XS.isub X.here hx rfl hd rfl k) G
theorem g_lsub (X : Stand p l e R s m args below meth c T locs cells slots) (hx : p.tables.exec = Jvm.exec) {x y : Int64} (hd : decode c.code pc = .ok (.lsub, 1)) (hp : pc + 1 = pc') (G : Go p e below En n0 Q T (mkF m pc' Ls (.long (x - y) :: st))) : Go p e below En n0 Q T (mkF m pc Ls (.long y :: .long x :: st)) := by
  subst hp
  exact Go.mov (fun _ k => XS.lsub X.here hx rfl hd rfl k) G
theorem g_imul (X : Stand p l e R s m args below meth c T locs cells slots) (hx : p.tables.exec = Jvm.exec) {x y : Int32} (hd : decode c.code pc = .ok (.imul, 1)) (hp : pc + 1 = pc') (G : Go p e below En n0 Q T (mkF m pc' Ls (.int (x * y) :: st))) : Go p e below En n0 Q T (mkF m pc Ls (.int y :: .int x :: st)) := by
  subst hp
  exact Go.mov (fun _ k => XS.imul X.here hx rfl hd rfl k) G
theorem g_lmul (X : Stand p l e R s m args below meth c T locs cells slots) (hx : p.tables.exec = Jvm.exec) {x y : Int64} (hd : decode c.code pc = .ok (.lmul, 1)) (hp : pc + 1 = pc') (G : Go p e below En n0 Q T (mkF m pc' Ls (.long (x * y) :: st))) : Go p e below En n0 Q T (mkF m pc Ls (.long y :: .long x :: st)) := by
  subst hp
  exact Go.mov (fun _ k => XS.lmul X.here hx rfl hd rfl k) G
theorem g_iand (X : Stand p l e R s m args below meth c T locs cells slots) (hx : p.tables.exec = Jvm.exec) {x y : Int32} (hd : decode c.code pc = .ok (.iand, 1)) (hp : pc + 1 = pc') (G : Go p e below En n0 Q T (mkF m pc' Ls (.int (x &&& y) :: st))) : Go p e below En n0 Q T (mkF m pc Ls (.int y :: .int x :: st)) := by
  subst hp
  exact Go.mov (fun _ k => XS.iand X.here hx rfl hd rfl k) G
theorem g_land (X : Stand p l e R s m args below meth c T locs cells slots) (hx : p.tables.exec = Jvm.exec) {x y : Int64} (hd : decode c.code pc = .ok (.land, 1)) (hp : pc + 1 = pc') (G : Go p e below En n0 Q T (mkF m pc' Ls (.long (x &&& y) :: st))) : Go p e below En n0 Q T (mkF m pc Ls (.long y :: .long x :: st)) := by
  subst hp
  exact Go.mov (fun _ k => XS.land X.here hx rfl hd rfl k) G
theorem g_ior (X : Stand p l e R s m args below meth c T locs cells slots) (hx : p.tables.exec = Jvm.exec) {x y : Int32} (hd : decode c.code pc = .ok (.ior, 1)) (hp : pc + 1 = pc') (G : Go p e below En n0 Q T (mkF m pc' Ls (.int (x ||| y) :: st))) : Go p e below En n0 Q T (mkF m pc Ls (.int y :: .int x :: st)) := by
  subst hp
  exact Go.mov (fun _ k => XS.ior X.here hx rfl hd rfl k) G
theorem g_lor (X : Stand p l e R s m args below meth c T locs cells slots) (hx : p.tables.exec = Jvm.exec) {x y : Int64} (hd : decode c.code pc = .ok (.lor, 1)) (hp : pc + 1 = pc') (G : Go p e below En n0 Q T (mkF m pc' Ls (.long (x ||| y) :: st))) : Go p e below En n0 Q T (mkF m pc Ls (.long y :: .long x :: st)) := by
  subst hp
  exact Go.mov (fun _ k => XS.lor X.here hx rfl hd rfl k) G
theorem g_ixor (X : Stand p l e R s m args below meth c T locs cells slots) (hx : p.tables.exec = Jvm.exec) {x y : Int32} (hd : decode c.code pc = .ok (.ixor, 1)) (hp : pc + 1 = pc') (G : Go p e below En n0 Q T (mkF m pc' Ls (.int (x ^^^ y) :: st))) : Go p e below En n0 Q T (mkF m pc Ls (.int y :: .int x :: st)) := by
  subst hp
  exact Go.mov (fun _ k => XS.ixor X.here hx rfl hd rfl k) G
theorem g_lxor (X : Stand p l e R s m args below meth c T locs cells slots) (hx : p.tables.exec = Jvm.exec) {x y : Int64} (hd : decode c.code pc = .ok (.lxor, 1)) (hp : pc + 1 = pc') (G : Go p e below En n0 Q T (mkF m pc' Ls (.long (x ^^^ y) :: st))) : Go p e below En n0 Q T (mkF m pc Ls (.long y :: .long x :: st)) := by
  subst hp
  exact Go.mov (fun _ k => XS.lxor X.here hx rfl hd rfl k) G
theorem g_ishl (X : Stand p l e R s m args below meth c T locs cells slots) (hx : p.tables.exec = Jvm.exec) {x y : Int32} (hd : decode c.code pc = .ok (.ishl, 1)) (hp : pc + 1 = pc') (G : Go p e below En n0 Q T (mkF m pc' Ls (.int (shl x y) :: st))) : Go p e below En n0 Q T (mkF m pc Ls (.int y :: .int x :: st)) := by
  subst hp
  exact Go.mov (fun _ k => XS.ishl X.here hx rfl hd rfl k) G
theorem g_lshl (X : Stand p l e R s m args below meth c T locs cells slots) (hx : p.tables.exec = Jvm.exec) {x : Int64} {y : Int32} (hd : decode c.code pc = .ok (.lshl, 1)) (hp : pc + 1 = pc') (G : Go p e below En n0 Q T (mkF m pc' Ls (.long (lshl x y) :: st))) : Go p e below En n0 Q T (mkF m pc Ls (.int y :: .long x :: st)) := by
  subst hp
  exact Go.mov (fun _ k => XS.lshl X.here hx rfl hd rfl k) G
theorem g_ishr (X : Stand p l e R s m args below meth c T locs cells slots) (hx : p.tables.exec = Jvm.exec) {x y : Int32} (hd : decode c.code pc = .ok (.ishr, 1)) (hp : pc + 1 = pc') (G : Go p e below En n0 Q T (mkF m pc' Ls (.int (shr x y) :: st))) : Go p e below En n0 Q T (mkF m pc Ls (.int y :: .int x :: st)) := by
  subst hp
  exact Go.mov (fun _ k => XS.ishr X.here hx rfl hd rfl k) G
theorem g_lshr (X : Stand p l e R s m args below meth c T locs cells slots) (hx : p.tables.exec = Jvm.exec) {x : Int64} {y : Int32} (hd : decode c.code pc = .ok (.lshr, 1)) (hp : pc + 1 = pc') (G : Go p e below En n0 Q T (mkF m pc' Ls (.long (lshr x y) :: st))) : Go p e below En n0 Q T (mkF m pc Ls (.int y :: .long x :: st)) := by
  subst hp
  exact Go.mov (fun _ k => XS.lshr X.here hx rfl hd rfl k) G
theorem g_iushr (X : Stand p l e R s m args below meth c T locs cells slots) (hx : p.tables.exec = Jvm.exec) {x y : Int32} (hd : decode c.code pc = .ok (.iushr, 1)) (hp : pc + 1 = pc') (G : Go p e below En n0 Q T (mkF m pc' Ls (.int (ushr x y) :: st))) : Go p e below En n0 Q T (mkF m pc Ls (.int y :: .int x :: st)) := by
  subst hp
  exact Go.mov (fun _ k => XS.iushr X.here hx rfl hd rfl k) G
theorem g_lushr (X : Stand p l e R s m args below meth c T locs cells slots) (hx : p.tables.exec = Jvm.exec) {x : Int64} {y : Int32} (hd : decode c.code pc = .ok (.lushr, 1)) (hp : pc + 1 = pc') (G : Go p e below En n0 Q T (mkF m pc' Ls (.long (lushr x y) :: st))) : Go p e below En n0 Q T (mkF m pc Ls (.int y :: .long x :: st)) := by
  subst hp
  exact Go.mov (fun _ k => XS.lushr X.here hx rfl hd rfl k) G
theorem g_i2b (X : Stand p l e R s m args below meth c T locs cells slots) (hx : p.tables.exec = Jvm.exec) {x : Int32} (hd : decode c.code pc = .ok (.i2b, 1)) (hp : pc + 1 = pc') (G : Go p e below En n0 Q T (mkF m pc' Ls (.int (byt x) :: st))) : Go p e below En n0 Q T (mkF m pc Ls (.int x :: st)) := by
  subst hp
  exact Go.mov (fun _ k => XS.i2b X.here hx rfl hd rfl k) G
theorem g_i2c (X : Stand p l e R s m args below meth c T locs cells slots) (hx : p.tables.exec = Jvm.exec) {x : Int32} (hd : decode c.code pc = .ok (.i2c, 1)) (hp : pc + 1 = pc') (G : Go p e below En n0 Q T (mkF m pc' Ls (.int (chr x) :: st))) : Go p e below En n0 Q T (mkF m pc Ls (.int x :: st)) := by
  subst hp
  exact Go.mov (fun _ k => XS.i2c X.here hx rfl hd rfl k) G
theorem g_i2s (X : Stand p l e R s m args below meth c T locs cells slots) (hx : p.tables.exec = Jvm.exec) {x : Int32} (hd : decode c.code pc = .ok (.i2s, 1)) (hp : pc + 1 = pc') (G : Go p e below En n0 Q T (mkF m pc' Ls (.int (sht x) :: st))) : Go p e below En n0 Q T (mkF m pc Ls (.int x :: st)) := by
  subst hp
  exact Go.mov (fun _ k => XS.i2s X.here hx rfl hd rfl k) G
theorem g_i2l (X : Stand p l e R s m args below meth c T locs cells slots) (hx : p.tables.exec = Jvm.exec) {x : Int32} (hd : decode c.code pc = .ok (.i2l, 1)) (hp : pc + 1 = pc') (G : Go p e below En n0 Q T (mkF m pc' Ls (.long x.toInt64 :: st))) : Go p e below En n0 Q T (mkF m pc Ls (.int x :: st)) := by
  subst hp
  exact Go.mov (fun _ k => XS.i2l X.here hx rfl hd rfl k) G
theorem g_l2i (X : Stand p l e R s m args below meth c T locs cells slots) (hx : p.tables.exec = Jvm.exec) {x : Int64} (hd : decode c.code pc = .ok (.l2i, 1)) (hp : pc + 1 = pc') (G : Go p e below En n0 Q T (mkF m pc' Ls (.int x.toInt32 :: st))) : Go p e below En n0 Q T (mkF m pc Ls (.long x :: st)) := by
  subst hp
  exact Go.mov (fun _ k => XS.l2i X.here hx rfl hd rfl k) G
theorem g_ineg (X : Stand p l e R s m args below meth c T locs cells slots) (hx : p.tables.exec = Jvm.exec) {x : Int32} (hd : decode c.code pc = .ok (.ineg, 1)) (hp : pc + 1 = pc') (G : Go p e below En n0 Q T (mkF m pc' Ls (.int (-x) :: st))) : Go p e below En n0 Q T (mkF m pc Ls (.int x :: st)) := by
  subst hp
  exact Go.mov (fun _ k => XS.ineg X.here hx rfl hd rfl k) G
theorem g_lneg (X : Stand p l e R s m args below meth c T locs cells slots) (hx : p.tables.exec = Jvm.exec) {x : Int64} (hd : decode c.code pc = .ok (.lneg, 1)) (hp : pc + 1 = pc') (G : Go p e below En n0 Q T (mkF m pc' Ls (.long (-x) :: st))) : Go p e below En n0 Q T (mkF m pc Ls (.long x :: st)) := by
  subst hp
  exact Go.mov (fun _ k => XS.lneg X.here hx rfl hd rfl k) G
theorem g_idiv (X : Stand p l e R s m args below meth c T locs cells slots) (hx : p.tables.exec = Jvm.exec) {x y : Int32} (hd : decode c.code pc = .ok (.idiv, 1)) (hp : pc + 1 = pc') (hy : y ≠ 0) (G : Go p e below En n0 Q T (mkF m pc' Ls (.int (x / y) :: st))) : Go p e below En n0 Q T (mkF m pc Ls (.int y :: .int x :: st)) := by
  subst hp
  exact Go.mov (fun _ k => XS.idiv X.here hx rfl hd rfl hy k) G
theorem g_ldiv (X : Stand p l e R s m args below meth c T locs cells slots) (hx : p.tables.exec = Jvm.exec) {x y : Int64} (hd : decode c.code pc = .ok (.ldiv, 1)) (hp : pc + 1 = pc') (hy : y ≠ 0) (G : Go p e below En n0 Q T (mkF m pc' Ls (.long (x / y) :: st))) : Go p e below En n0 Q T (mkF m pc Ls (.long y :: .long x :: st)) := by
  subst hp
  exact Go.mov (fun _ k => XS.ldiv X.here hx rfl hd rfl hy k) G
theorem g_irem (X : Stand p l e R s m args below meth c T locs cells slots) (hx : p.tables.exec = Jvm.exec) {x y : Int32} (hd : decode c.code pc = .ok (.irem, 1)) (hp : pc + 1 = pc') (hy : y ≠ 0) (G : Go p e below En n0 Q T (mkF m pc' Ls (.int (x % y) :: st))) : Go p e below En n0 Q T (mkF m pc Ls (.int y :: .int x :: st)) := by
  subst hp
  exact Go.mov (fun _ k => iremM X hx rfl hd rfl hy k) G
theorem g_lcmp (X : Stand p l e R s m args below meth c T locs cells slots) (hx : p.tables.exec = Jvm.exec) {x y : Int64} (hd : decode c.code pc = .ok (.lcmp, 1)) (hp : pc + 1 = pc') (G : Go p e below En n0 Q T (mkF m pc' Ls (.int (lcmpW x y) :: st))) : Go p e below En n0 Q T (mkF m pc Ls (.long y :: .long x :: st)) := by
  subst hp
  exact Go.mov (fun _ k => XS.lcmp X.here hx rfl hd rfl k) G
theorem g_dup (X : Stand p l e R s m args below meth c T locs cells slots) (hx : p.tables.exec = Jvm.exec) {x : Value} (hd : decode c.code pc = .ok (.dup, 1)) (hp : pc + 1 = pc') (hc : x.category = 1) (G : Go p e below En n0 Q T (mkF m pc' Ls (x :: x :: st))) : Go p e below En n0 Q T (mkF m pc Ls (x :: st)) := by
  subst hp
  exact Go.mov (fun _ k => XS.dup X.here hx rfl hd rfl hc k) G
theorem g_dup_x1 (X : Stand p l e R s m args below meth c T locs cells slots) (hx : p.tables.exec = Jvm.exec) {x y : Value} (hd : decode c.code pc = .ok (.dup_x1, 1)) (hp : pc + 1 = pc') (hc : x.category = 1) (hc2 : y.category = 1) (G : Go p e below En n0 Q T (mkF m pc' Ls (x :: y :: x :: st))) : Go p e below En n0 Q T (mkF m pc Ls (x :: y :: st)) := by
  subst hp
  exact Go.mov (fun _ k => XS.dupX1 X.here hx rfl hd rfl hc hc2 k) G
theorem g_pop (X : Stand p l e R s m args below meth c T locs cells slots) (hx : p.tables.exec = Jvm.exec) {x : Value} (hd : decode c.code pc = .ok (.pop, 1)) (hp : pc + 1 = pc') (hc : x.category = 1) (G : Go p e below En n0 Q T (mkF m pc' Ls (st))) : Go p e below En n0 Q T (mkF m pc Ls (x :: st)) := by
  subst hp
  exact Go.mov (fun _ k => XS.pop X.here hx rfl hd rfl hc k) G
theorem g_iinc (X : Stand p l e R s m args below meth c T locs cells slots) (hx : p.tables.exec = Jvm.exec) {k : Nat} {cst : Int} {v z : Int32} (hd : decode c.code pc = .ok (.iinc k cst, 3)) (hp : pc + 3 = pc') (hl : Ls[k]? = some (.val (.int v))) (hz : Int32.ofInt cst = z) (hl' : storeLocals Ls k (.int (v + z)) = some Ls') (G : Go p e below En n0 Q T (mkF m pc' Ls' st)) : Go p e below En n0 Q T (mkF m pc Ls st) := by
  subst hp hz
  exact Go.mov (fun _ k => XS.iinc X.here hx rfl hd hl hl' k) G
theorem g_goto (X : Stand p l e R s m args below meth c T locs cells slots) (hx : p.tables.exec = Jvm.exec) {o : Int} (hd : decode c.code pc = .ok (.goto o, 3)) (ho : 0 ≤ (pc : Int) + o) (hp : ((pc : Int) + o).toNat = pc') (G : Go p e below En n0 Q T (mkF m pc' Ls st)) : Go p e below En n0 Q T (mkF m pc Ls st) :=
  Go.mov (fun _ k => XS.goto X.here hx rfl rfl hd ho hp k) G
theorem g_icmp_lt (X : Stand p l e R s m args below meth c T locs cells slots) (hx : p.tables.exec = Jvm.exec) {x y : Int32} {o : Int} (hd : decode c.code pc = .ok (.if_icmp .lt o, 3)) (hp1 : pc1 = pc + 3) (ho : 0 ≤ (pc : Int) + o) (hp2 : ((pc : Int) + o).toNat = pc2) (G2 : (x < y) → Go p e below En n0 Q T (mkF m pc2 Ls st)) (G1 : (¬ x < y) → Go p e below En n0 Q T (mkF m pc1 Ls st)) : Go p e below En n0 Q T (mkF m pc Ls (.int y :: .int x :: st)) := by
  by_cases q : x < y
  · exact Go.mov (fun _ k => XS.icmpYes X.here hx rfl rfl hd rfl (tlt q).1 ho hp2 k) (G2 q)
  · exact Go.mov (fun _ k => XS.icmpNo X.here hx rfl hd rfl (flt q).1 (hp1 ▸ k)) (G1 q)
theorem g_if_lt (X : Stand p l e R s m args below meth c T locs cells slots) (hx : p.tables.exec = Jvm.exec) {x : Int32} {o : Int} (hd : decode c.code pc = .ok (.ifCond .lt o, 3)) (hp1 : pc1 = pc + 3) (ho : 0 ≤ (pc : Int) + o) (hp2 : ((pc : Int) + o).toNat = pc2) (G2 : (x < (0 : Int32)) → Go p e below En n0 Q T (mkF m pc2 Ls st)) (G1 : (¬ x < (0 : Int32)) → Go p e below En n0 Q T (mkF m pc1 Ls st)) : Go p e below En n0 Q T (mkF m pc Ls (.int x :: st)) := by
  by_cases q : x < (0 : Int32)
  · exact Go.mov (fun _ k => XS.ifYes X.here hx rfl rfl hd rfl ((if0 _ _).trans (tlt q).1) ho hp2 k) (G2 q)
  · exact Go.mov (fun _ k => XS.ifNo X.here hx rfl hd rfl ((if0 _ _).trans (flt q).1) (hp1 ▸ k)) (G1 q)
theorem g_lcmp_lt (X : Stand p l e R s m args below meth c T locs cells slots) (hx : p.tables.exec = Jvm.exec) {x y : Int64} {o : Int} (hd0 : decode c.code pc = .ok (.lcmp, 1)) (hp0 : pc + 1 = pc') (hd : decode c.code pc' = .ok (.ifCond .lt o, 3)) (hp1 : pc1 = pc' + 3) (ho : 0 ≤ (pc' : Int) + o) (hp2 : ((pc' : Int) + o).toNat = pc2) (G2 : (x < y) → Go p e below En n0 Q T (mkF m pc2 Ls st)) (G1 : (¬ x < y) → Go p e below En n0 Q T (mkF m pc1 Ls st)) : Go p e below En n0 Q T (mkF m pc Ls (.long y :: .long x :: st)) :=
  g_lcmp X hx hd0 hp0 (g_if_lt X hx hd hp1 ho hp2 (fun q => G2 ((lw_lt x y).mp q)) (fun q => G1 (fun r => q ((lw_lt x y).mpr r))))
theorem g_icmp_ge (X : Stand p l e R s m args below meth c T locs cells slots) (hx : p.tables.exec = Jvm.exec) {x y : Int32} {o : Int} (hd : decode c.code pc = .ok (.if_icmp .ge o, 3)) (hp1 : pc1 = pc + 3) (ho : 0 ≤ (pc : Int) + o) (hp2 : ((pc : Int) + o).toNat = pc2) (G2 : (¬ x < y) → Go p e below En n0 Q T (mkF m pc2 Ls st)) (G1 : (x < y) → Go p e below En n0 Q T (mkF m pc1 Ls st)) : Go p e below En n0 Q T (mkF m pc Ls (.int y :: .int x :: st)) := by
  by_cases q : x < y
  · exact Go.mov (fun _ k => XS.icmpNo X.here hx rfl hd rfl (tlt q).2.1 (hp1 ▸ k)) (G1 q)
  · exact Go.mov (fun _ k => XS.icmpYes X.here hx rfl rfl hd rfl (flt q).2.1 ho hp2 k) (G2 q)
theorem g_if_ge (X : Stand p l e R s m args below meth c T locs cells slots) (hx : p.tables.exec = Jvm.exec) {x : Int32} {o : Int} (hd : decode c.code pc = .ok (.ifCond .ge o, 3)) (hp1 : pc1 = pc + 3) (ho : 0 ≤ (pc : Int) + o) (hp2 : ((pc : Int) + o).toNat = pc2) (G2 : (¬ x < (0 : Int32)) → Go p e below En n0 Q T (mkF m pc2 Ls st)) (G1 : (x < (0 : Int32)) → Go p e below En n0 Q T (mkF m pc1 Ls st)) : Go p e below En n0 Q T (mkF m pc Ls (.int x :: st)) := by
  by_cases q : x < (0 : Int32)
  · exact Go.mov (fun _ k => XS.ifNo X.here hx rfl hd rfl ((if0 _ _).trans (tlt q).2.1) (hp1 ▸ k)) (G1 q)
  · exact Go.mov (fun _ k => XS.ifYes X.here hx rfl rfl hd rfl ((if0 _ _).trans (flt q).2.1) ho hp2 k) (G2 q)
theorem g_lcmp_ge (X : Stand p l e R s m args below meth c T locs cells slots) (hx : p.tables.exec = Jvm.exec) {x y : Int64} {o : Int} (hd0 : decode c.code pc = .ok (.lcmp, 1)) (hp0 : pc + 1 = pc') (hd : decode c.code pc' = .ok (.ifCond .ge o, 3)) (hp1 : pc1 = pc' + 3) (ho : 0 ≤ (pc' : Int) + o) (hp2 : ((pc' : Int) + o).toNat = pc2) (G2 : (¬ x < y) → Go p e below En n0 Q T (mkF m pc2 Ls st)) (G1 : (x < y) → Go p e below En n0 Q T (mkF m pc1 Ls st)) : Go p e below En n0 Q T (mkF m pc Ls (.long y :: .long x :: st)) :=
  g_lcmp X hx hd0 hp0 (g_if_ge X hx hd hp1 ho hp2 (fun q => G2 (fun r => q ((lw_lt x y).mpr r))) (fun q => G1 ((lw_lt x y).mp q)))
theorem g_icmp_gt (X : Stand p l e R s m args below meth c T locs cells slots) (hx : p.tables.exec = Jvm.exec) {x y : Int32} {o : Int} (hd : decode c.code pc = .ok (.if_icmp .gt o, 3)) (hp1 : pc1 = pc + 3) (ho : 0 ≤ (pc : Int) + o) (hp2 : ((pc : Int) + o).toNat = pc2) (G2 : (y < x) → Go p e below En n0 Q T (mkF m pc2 Ls st)) (G1 : (¬ y < x) → Go p e below En n0 Q T (mkF m pc1 Ls st)) : Go p e below En n0 Q T (mkF m pc Ls (.int y :: .int x :: st)) := by
  by_cases q : y < x
  · exact Go.mov (fun _ k => XS.icmpYes X.here hx rfl rfl hd rfl (tlt q).2.2.1 ho hp2 k) (G2 q)
  · exact Go.mov (fun _ k => XS.icmpNo X.here hx rfl hd rfl (flt q).2.2.1 (hp1 ▸ k)) (G1 q)
theorem g_if_gt (X : Stand p l e R s m args below meth c T locs cells slots) (hx : p.tables.exec = Jvm.exec) {x : Int32} {o : Int} (hd : decode c.code pc = .ok (.ifCond .gt o, 3)) (hp1 : pc1 = pc + 3) (ho : 0 ≤ (pc : Int) + o) (hp2 : ((pc : Int) + o).toNat = pc2) (G2 : ((0 : Int32) < x) → Go p e below En n0 Q T (mkF m pc2 Ls st)) (G1 : (¬ (0 : Int32) < x) → Go p e below En n0 Q T (mkF m pc1 Ls st)) : Go p e below En n0 Q T (mkF m pc Ls (.int x :: st)) := by
  by_cases q : (0 : Int32) < x
  · exact Go.mov (fun _ k => XS.ifYes X.here hx rfl rfl hd rfl ((if0 _ _).trans (tlt q).2.2.1) ho hp2 k) (G2 q)
  · exact Go.mov (fun _ k => XS.ifNo X.here hx rfl hd rfl ((if0 _ _).trans (flt q).2.2.1) (hp1 ▸ k)) (G1 q)
theorem g_lcmp_gt (X : Stand p l e R s m args below meth c T locs cells slots) (hx : p.tables.exec = Jvm.exec) {x y : Int64} {o : Int} (hd0 : decode c.code pc = .ok (.lcmp, 1)) (hp0 : pc + 1 = pc') (hd : decode c.code pc' = .ok (.ifCond .gt o, 3)) (hp1 : pc1 = pc' + 3) (ho : 0 ≤ (pc' : Int) + o) (hp2 : ((pc' : Int) + o).toNat = pc2) (G2 : (y < x) → Go p e below En n0 Q T (mkF m pc2 Ls st)) (G1 : (¬ y < x) → Go p e below En n0 Q T (mkF m pc1 Ls st)) : Go p e below En n0 Q T (mkF m pc Ls (.long y :: .long x :: st)) :=
  g_lcmp X hx hd0 hp0 (g_if_gt X hx hd hp1 ho hp2 (fun q => G2 ((lw_gt x y).mp q)) (fun q => G1 (fun r => q ((lw_gt x y).mpr r))))
theorem g_icmp_le (X : Stand p l e R s m args below meth c T locs cells slots) (hx : p.tables.exec = Jvm.exec) {x y : Int32} {o : Int} (hd : decode c.code pc = .ok (.if_icmp .le o, 3)) (hp1 : pc1 = pc + 3) (ho : 0 ≤ (pc : Int) + o) (hp2 : ((pc : Int) + o).toNat = pc2) (G2 : (¬ y < x) → Go p e below En n0 Q T (mkF m pc2 Ls st)) (G1 : (y < x) → Go p e below En n0 Q T (mkF m pc1 Ls st)) : Go p e below En n0 Q T (mkF m pc Ls (.int y :: .int x :: st)) := by
  by_cases q : y < x
  · exact Go.mov (fun _ k => XS.icmpNo X.here hx rfl hd rfl (tlt q).2.2.2 (hp1 ▸ k)) (G1 q)
  · exact Go.mov (fun _ k => XS.icmpYes X.here hx rfl rfl hd rfl (flt q).2.2.2 ho hp2 k) (G2 q)
theorem g_if_le (X : Stand p l e R s m args below meth c T locs cells slots) (hx : p.tables.exec = Jvm.exec) {x : Int32} {o : Int} (hd : decode c.code pc = .ok (.ifCond .le o, 3)) (hp1 : pc1 = pc + 3) (ho : 0 ≤ (pc : Int) + o) (hp2 : ((pc : Int) + o).toNat = pc2) (G2 : (¬ (0 : Int32) < x) → Go p e below En n0 Q T (mkF m pc2 Ls st)) (G1 : ((0 : Int32) < x) → Go p e below En n0 Q T (mkF m pc1 Ls st)) : Go p e below En n0 Q T (mkF m pc Ls (.int x :: st)) := by
  by_cases q : (0 : Int32) < x
  · exact Go.mov (fun _ k => XS.ifNo X.here hx rfl hd rfl ((if0 _ _).trans (tlt q).2.2.2) (hp1 ▸ k)) (G1 q)
  · exact Go.mov (fun _ k => XS.ifYes X.here hx rfl rfl hd rfl ((if0 _ _).trans (flt q).2.2.2) ho hp2 k) (G2 q)
theorem g_lcmp_le (X : Stand p l e R s m args below meth c T locs cells slots) (hx : p.tables.exec = Jvm.exec) {x y : Int64} {o : Int} (hd0 : decode c.code pc = .ok (.lcmp, 1)) (hp0 : pc + 1 = pc') (hd : decode c.code pc' = .ok (.ifCond .le o, 3)) (hp1 : pc1 = pc' + 3) (ho : 0 ≤ (pc' : Int) + o) (hp2 : ((pc' : Int) + o).toNat = pc2) (G2 : (¬ y < x) → Go p e below En n0 Q T (mkF m pc2 Ls st)) (G1 : (y < x) → Go p e below En n0 Q T (mkF m pc1 Ls st)) : Go p e below En n0 Q T (mkF m pc Ls (.long y :: .long x :: st)) :=
  g_lcmp X hx hd0 hp0 (g_if_le X hx hd hp1 ho hp2 (fun q => G2 (fun r => q ((lw_gt x y).mpr r))) (fun q => G1 ((lw_gt x y).mp q)))
theorem g_icmp_eq (X : Stand p l e R s m args below meth c T locs cells slots) (hx : p.tables.exec = Jvm.exec) {x y : Int32} {o : Int} (hd : decode c.code pc = .ok (.if_icmp .eq o, 3)) (hp1 : pc1 = pc + 3) (ho : 0 ≤ (pc : Int) + o) (hp2 : ((pc : Int) + o).toNat = pc2) (G2 : (x = y) → Go p e below En n0 Q T (mkF m pc2 Ls st)) (G1 : (¬ x = y) → Go p e below En n0 Q T (mkF m pc1 Ls st)) : Go p e below En n0 Q T (mkF m pc Ls (.int y :: .int x :: st)) := by
  by_cases q : x = y
  · exact Go.mov (fun _ k => XS.icmpYes X.here hx rfl rfl hd rfl (teq q).1 ho hp2 k) (G2 q)
  · exact Go.mov (fun _ k => XS.icmpNo X.here hx rfl hd rfl (feq q).1 (hp1 ▸ k)) (G1 q)
theorem g_if_eq (X : Stand p l e R s m args below meth c T locs cells slots) (hx : p.tables.exec = Jvm.exec) {x : Int32} {o : Int} (hd : decode c.code pc = .ok (.ifCond .eq o, 3)) (hp1 : pc1 = pc + 3) (ho : 0 ≤ (pc : Int) + o) (hp2 : ((pc : Int) + o).toNat = pc2) (G2 : (x = (0 : Int32)) → Go p e below En n0 Q T (mkF m pc2 Ls st)) (G1 : (¬ x = (0 : Int32)) → Go p e below En n0 Q T (mkF m pc1 Ls st)) : Go p e below En n0 Q T (mkF m pc Ls (.int x :: st)) := by
  by_cases q : x = (0 : Int32)
  · exact Go.mov (fun _ k => XS.ifYes X.here hx rfl rfl hd rfl ((if0 _ _).trans (teq q).1) ho hp2 k) (G2 q)
  · exact Go.mov (fun _ k => XS.ifNo X.here hx rfl hd rfl ((if0 _ _).trans (feq q).1) (hp1 ▸ k)) (G1 q)
theorem g_lcmp_eq (X : Stand p l e R s m args below meth c T locs cells slots) (hx : p.tables.exec = Jvm.exec) {x y : Int64} {o : Int} (hd0 : decode c.code pc = .ok (.lcmp, 1)) (hp0 : pc + 1 = pc') (hd : decode c.code pc' = .ok (.ifCond .eq o, 3)) (hp1 : pc1 = pc' + 3) (ho : 0 ≤ (pc' : Int) + o) (hp2 : ((pc' : Int) + o).toNat = pc2) (G2 : (x = y) → Go p e below En n0 Q T (mkF m pc2 Ls st)) (G1 : (¬ x = y) → Go p e below En n0 Q T (mkF m pc1 Ls st)) : Go p e below En n0 Q T (mkF m pc Ls (.long y :: .long x :: st)) :=
  g_lcmp X hx hd0 hp0 (g_if_eq X hx hd hp1 ho hp2 (fun q => G2 ((lw_eq x y).mp q)) (fun q => G1 (fun r => q ((lw_eq x y).mpr r))))
theorem g_icmp_ne (X : Stand p l e R s m args below meth c T locs cells slots) (hx : p.tables.exec = Jvm.exec) {x y : Int32} {o : Int} (hd : decode c.code pc = .ok (.if_icmp .ne o, 3)) (hp1 : pc1 = pc + 3) (ho : 0 ≤ (pc : Int) + o) (hp2 : ((pc : Int) + o).toNat = pc2) (G2 : (¬ x = y) → Go p e below En n0 Q T (mkF m pc2 Ls st)) (G1 : (x = y) → Go p e below En n0 Q T (mkF m pc1 Ls st)) : Go p e below En n0 Q T (mkF m pc Ls (.int y :: .int x :: st)) := by
  by_cases q : x = y
  · exact Go.mov (fun _ k => XS.icmpNo X.here hx rfl hd rfl (teq q).2 (hp1 ▸ k)) (G1 q)
  · exact Go.mov (fun _ k => XS.icmpYes X.here hx rfl rfl hd rfl (feq q).2 ho hp2 k) (G2 q)
theorem g_if_ne (X : Stand p l e R s m args below meth c T locs cells slots) (hx : p.tables.exec = Jvm.exec) {x : Int32} {o : Int} (hd : decode c.code pc = .ok (.ifCond .ne o, 3)) (hp1 : pc1 = pc + 3) (ho : 0 ≤ (pc : Int) + o) (hp2 : ((pc : Int) + o).toNat = pc2) (G2 : (¬ x = (0 : Int32)) → Go p e below En n0 Q T (mkF m pc2 Ls st)) (G1 : (x = (0 : Int32)) → Go p e below En n0 Q T (mkF m pc1 Ls st)) : Go p e below En n0 Q T (mkF m pc Ls (.int x :: st)) := by
  by_cases q : x = (0 : Int32)
  · exact Go.mov (fun _ k => XS.ifNo X.here hx rfl hd rfl ((if0 _ _).trans (teq q).2) (hp1 ▸ k)) (G1 q)
  · exact Go.mov (fun _ k => XS.ifYes X.here hx rfl rfl hd rfl ((if0 _ _).trans (feq q).2) ho hp2 k) (G2 q)
theorem g_lcmp_ne (X : Stand p l e R s m args below meth c T locs cells slots) (hx : p.tables.exec = Jvm.exec) {x y : Int64} {o : Int} (hd0 : decode c.code pc = .ok (.lcmp, 1)) (hp0 : pc + 1 = pc') (hd : decode c.code pc' = .ok (.ifCond .ne o, 3)) (hp1 : pc1 = pc' + 3) (ho : 0 ≤ (pc' : Int) + o) (hp2 : ((pc' : Int) + o).toNat = pc2) (G2 : (¬ x = y) → Go p e below En n0 Q T (mkF m pc2 Ls st)) (G1 : (x = y) → Go p e below En n0 Q T (mkF m pc1 Ls st)) : Go p e below En n0 Q T (mkF m pc Ls (.long y :: .long x :: st)) :=
  g_lcmp X hx hd0 hp0 (g_if_ne X hx hd hp1 ho hp2 (fun q => G2 (fun r => q ((lw_eq x y).mpr r))) (fun q => G1 ((lw_eq x y).mp q)))
theorem g_ifnull_n (X : Stand p l e R s m args below meth c T locs cells slots) (hx : p.tables.exec = Jvm.exec) {b : Addr} {o : Int} (hd : decode c.code pc = .ok (.ifnull o, 3)) (hp : pc + 3 = pc') (G : Go p e below En n0 Q T (mkF m pc' Ls st)) : Go p e below En n0 Q T (mkF m pc Ls (.ref b :: st)) := by
  subst hp
  exact Go.mov (fun _ k => XS.ifnullNo X.here hx rfl hd rfl k) G
theorem g_ifnull_y (X : Stand p l e R s m args below meth c T locs cells slots) (hx : p.tables.exec = Jvm.exec) {o : Int} (hd : decode c.code pc = .ok (.ifnull o, 3)) (ho : 0 ≤ (pc : Int) + o) (hp : ((pc : Int) + o).toNat = pc') (G : Go p e below En n0 Q T (mkF m pc' Ls st)) : Go p e below En n0 Q T (mkF m pc Ls (.null :: st)) :=
  Go.mov (fun _ k => XS.ifnullYes X.here hx rfl rfl hd rfl ho hp k) G
theorem g_ifnonnull_y (X : Stand p l e R s m args below meth c T locs cells slots) (hx : p.tables.exec = Jvm.exec) {b : Addr} {o : Int} (hd : decode c.code pc = .ok (.ifnonnull o, 3)) (ho : 0 ≤ (pc : Int) + o) (hp : ((pc : Int) + o).toNat = pc') (G : Go p e below En n0 Q T (mkF m pc' Ls st)) : Go p e below En n0 Q T (mkF m pc Ls (.ref b :: st)) :=
  Go.mov (fun _ k => XS.ifnonnullYes X.here hx rfl rfl hd rfl ho hp k) G
theorem g_ifnonnull_n (X : Stand p l e R s m args below meth c T locs cells slots) (hx : p.tables.exec = Jvm.exec) {o : Int} (hd : decode c.code pc = .ok (.ifnonnull o, 3)) (hp : pc + 3 = pc') (G : Go p e below En n0 Q T (mkF m pc' Ls st)) : Go p e below En n0 Q T (mkF m pc Ls (.null :: st)) := by
  subst hp
  exact Go.mov (fun _ k => XS.ifnonnullNo X.here hx rfl hd rfl k) G
theorem g_acmp_eq (X : Stand p l e R s m args below meth c T locs cells slots) (hx : p.tables.exec = Jvm.exec) {x y : Value} {o : Int} (hd : decode c.code pc = .ok (.if_acmp .eq o, 3)) (hx1 : x.isRef = true) (hy1 : y.isRef = true) (hp1 : pc1 = pc + 3) (ho : 0 ≤ (pc : Int) + o) (hp2 : ((pc : Int) + o).toNat = pc2) (G2 : (x = y) → Go p e below En n0 Q T (mkF m pc2 Ls st)) (G1 : (¬ x = y) → Go p e below En n0 Q T (mkF m pc1 Ls st)) : Go p e below En n0 Q T (mkF m pc Ls (y :: x :: st)) := by
  subst hp1 hp2
  by_cases q : x = y
  · exact Go.mov (fun _ k => acmp X hx rfl hx1 hy1 rfl hd rfl (same := true) (decide_eq_true q) ho rfl k) (G2 q)
  · exact Go.mov (fun _ k => acmp X hx rfl hx1 hy1 rfl hd rfl (same := false) (decide_eq_false q) ho rfl k) (G1 q)
theorem g_acmp_ne (X : Stand p l e R s m args below meth c T locs cells slots) (hx : p.tables.exec = Jvm.exec) {x y : Value} {o : Int} (hd : decode c.code pc = .ok (.if_acmp .ne o, 3)) (hx1 : x.isRef = true) (hy1 : y.isRef = true) (hp1 : pc1 = pc + 3) (ho : 0 ≤ (pc : Int) + o) (hp2 : ((pc : Int) + o).toNat = pc2) (G2 : (¬ x = y) → Go p e below En n0 Q T (mkF m pc2 Ls st)) (G1 : (x = y) → Go p e below En n0 Q T (mkF m pc1 Ls st)) : Go p e below En n0 Q T (mkF m pc Ls (y :: x :: st)) := by
  subst hp1 hp2
  by_cases q : x = y
  · exact Go.mov (fun _ k => acmp X hx rfl hx1 hy1 rfl hd rfl (same := true) (decide_eq_true q) ho rfl k) (G1 q)
  · exact Go.mov (fun _ k => acmp X hx rfl hx1 hy1 rfl hd rfl (same := false) (decide_eq_false q) ho rfl k) (G2 q)
theorem g_ldc (X : Stand p l e R s m args below meth c T locs cells slots) (hx : p.tables.exec = Jvm.exec) (hZ : Z.Warmed39 s.vm) {own : String} {i : Nat} {v : Int32} (hown : s.vm.findClass own = some m.cls) (w : (Jvm.Cond.constant own i v).before a0 Z = true) (hd : decode c.code pc = .ok (.ldc i, 2)) (hp : pc + 2 = pc') (G : Go p e below En n0 Q T (mkF m pc' Ls (.int v :: st))) : Go p e below En n0 Q T (mkF m pc Ls st) := by
  subst hp
  exact Go.mov (X.ldcInt hx hown (mvT hZ w) rfl hd) G
theorem g_ldc_w (X : Stand p l e R s m args below meth c T locs cells slots) (hx : p.tables.exec = Jvm.exec) (hZ : Z.Warmed39 s.vm) {own : String} {i : Nat} {v : Int32} (hown : s.vm.findClass own = some m.cls) (w : (Jvm.Cond.constant own i v).before a0 Z = true) (hd : decode c.code pc = .ok (.ldc_w i, 3)) (hp : pc + 3 = pc') (G : Go p e below En n0 Q T (mkF m pc' Ls (.int v :: st))) : Go p e below En n0 Q T (mkF m pc Ls st) := by
  subst hp
  exact Go.mov (X.ldcwInt hx hown (mvT hZ w) rfl hd) G
theorem g_ldc2_w (X : Stand p l e R s m args below meth c T locs cells slots) (hx : p.tables.exec = Jvm.exec) (hZ : Z.Warmed39 s.vm) {own : String} {i : Nat} {v : Int64} (hown : s.vm.findClass own = some m.cls) (w : (Jvm.Cond.constantLong own i v).before a0 Z = true) (hd : decode c.code pc = .ok (.ldc2_w i, 3)) (hp : pc + 3 = pc') (G : Go p e below En n0 Q T (mkF m pc' Ls (.long v :: st))) : Go p e below En n0 Q T (mkF m pc Ls st) := by
  subst hp
  exact Go.mov (X.ldc2Long hx hown (mvT hZ w) rfl hd) G
theorem g_return (X : Stand p l e R s m args below meth c T locs cells slots) (hx : p.tables.exec = Jvm.exec) (hr : meth.sig.returnType = none) (hd : decode c.code pc = .ok (.return_, 1)) (N : Fr n0 locs) (hlk : meth.locks = false) (hE : ∀ v t, t.heap = T.heap → s.WarmedH t.vm → s.sameButNew ({ t with vm := s.vm } : State) locs cells slots → En v t locs) (hQ : Q none T.heap) : Go p e below En n0 Q T (mkF m pc Ls []) := by
  obtain ⟨fs, hr1, hrun, hended, hW, hsame⟩ := X.leave (v := none) (fun _ => rfl) hlk
  exact ⟨_, _, X.returnOut hx hr hd hr1, hrun, hended, _, _, rfl, ⟨hQ, N⟩, hE _ _ rfl hW hsame⟩
theorem g_ireturn (X : Stand p l e R s m args below meth c T locs cells slots) (hx : p.tables.exec = Jvm.exec) {z : Int32} (hr : meth.sig.returnType = some .int) (hd : decode c.code pc = .ok (.ireturn, 1)) (N : Fr n0 locs) (hlk : meth.locks = false) (hE : ∀ v t, t.heap = T.heap → s.WarmedH t.vm → s.sameButNew ({ t with vm := s.vm } : State) locs cells slots → En v t locs) (hQ : Q (some (.int z)) T.heap) : Go p e below En n0 Q T (mkF m pc Ls (.int z :: st)) := by
  obtain ⟨fs, hr1, hrun, hended, hW, hsame⟩ := X.leave (v := some (.int z)) (fun h => by rw [hr] at h; cases h) hlk
  exact ⟨_, _, retOut X hx hr rfl (Or.inl ⟨rfl, Or.inl rfl, z, rfl⟩) hd hr1, hrun, hended, _, _, rfl, ⟨hQ, N⟩, hE _ _ rfl hW hsame⟩
theorem g_lreturn (X : Stand p l e R s m args below meth c T locs cells slots) (hx : p.tables.exec = Jvm.exec) {z : Int64} (hr : meth.sig.returnType = some .long) (hd : decode c.code pc = .ok (.lreturn, 1)) (N : Fr n0 locs) (hlk : meth.locks = false) (hE : ∀ v t, t.heap = T.heap → s.WarmedH t.vm → s.sameButNew ({ t with vm := s.vm } : State) locs cells slots → En v t locs) (hQ : Q (some (.long z)) T.heap) : Go p e below En n0 Q T (mkF m pc Ls (.long z :: st)) := by
  obtain ⟨fs, hr1, hrun, hended, hW, hsame⟩ := X.leave (v := some (.long z)) (fun h => by rw [hr] at h; cases h) hlk
  exact ⟨_, _, retOut X hx hr rfl (Or.inr (Or.inl ⟨rfl, rfl, z, rfl⟩)) hd hr1, hrun, hended, _, _, rfl, ⟨hQ, N⟩, hE _ _ rfl hW hsame⟩
theorem g_areturn (X : Stand p l e R s m args below meth c T locs cells slots) (hx : p.tables.exec = Jvm.exec) {v : Value} {t : FieldType} (ht : t.isReference = true) (hv : v.isRef = true) (hr : meth.sig.returnType = some t) (hd : decode c.code pc = .ok (.areturn, 1)) (N : Fr n0 locs) (hlk : meth.locks = false) (hE : ∀ v t, t.heap = T.heap → s.WarmedH t.vm → s.sameButNew ({ t with vm := s.vm } : State) locs cells slots → En v t locs) (hQ : Q (some (v)) T.heap) : Go p e below En n0 Q T (mkF m pc Ls (v :: st)) := by
  obtain ⟨fs, hr1, hrun, hended, hW, hsame⟩ := X.leave (v := some (v)) (fun h => by rw [hr] at h; cases h) hlk
  exact ⟨_, _, retOut X hx hr (by cases t <;> first | rfl | (cases ht; done)) (Or.inr (Or.inr (Or.inr (Or.inr ⟨rfl, ht, hv⟩)))) hd hr1, hrun, hended, _, _, rfl, ⟨hQ, N⟩, hE _ _ rfl hW hsame⟩
theorem g_zreturn (X : Stand p l e R s m args below meth c T locs cells slots) (hx : p.tables.exec = Jvm.exec) {z : Int32} (hn : narrow .boolean (.int z) = .int z) (hr : meth.sig.returnType = some .boolean) (hd : decode c.code pc = .ok (.ireturn, 1)) (N : Fr n0 locs) (hlk : meth.locks = false) (hE : ∀ v t, t.heap = T.heap → s.WarmedH t.vm → s.sameButNew ({ t with vm := s.vm } : State) locs cells slots → En v t locs) (hQ : Q (some (.int z)) T.heap) : Go p e below En n0 Q T (mkF m pc Ls (.int z :: st)) := by
  obtain ⟨fs, hr1, hrun, hended, hW, hsame⟩ := X.leave (v := some (.int z)) (fun h => by rw [hr] at h; cases h) hlk
  exact ⟨_, _, retOut X hx hr hn (Or.inl ⟨rfl, by simp, z, rfl⟩) hd hr1, hrun, hended, _, _, rfl, ⟨hQ, N⟩, hE _ _ rfl hW hsame⟩
theorem g_breturn (X : Stand p l e R s m args below meth c T locs cells slots) (hx : p.tables.exec = Jvm.exec) {z : Int32} (hn : narrow .byte (.int z) = .int z) (hr : meth.sig.returnType = some .byte) (hd : decode c.code pc = .ok (.ireturn, 1)) (N : Fr n0 locs) (hlk : meth.locks = false) (hE : ∀ v t, t.heap = T.heap → s.WarmedH t.vm → s.sameButNew ({ t with vm := s.vm } : State) locs cells slots → En v t locs) (hQ : Q (some (.int z)) T.heap) : Go p e below En n0 Q T (mkF m pc Ls (.int z :: st)) := by
  obtain ⟨fs, hr1, hrun, hended, hW, hsame⟩ := X.leave (v := some (.int z)) (fun h => by rw [hr] at h; cases h) hlk
  exact ⟨_, _, retOut X hx hr hn (Or.inl ⟨rfl, by simp, z, rfl⟩) hd hr1, hrun, hended, _, _, rfl, ⟨hQ, N⟩, hE _ _ rfl hW hsame⟩
theorem g_creturn (X : Stand p l e R s m args below meth c T locs cells slots) (hx : p.tables.exec = Jvm.exec) {z : Int32} (hn : narrow .char (.int z) = .int z) (hr : meth.sig.returnType = some .char) (hd : decode c.code pc = .ok (.ireturn, 1)) (N : Fr n0 locs) (hlk : meth.locks = false) (hE : ∀ v t, t.heap = T.heap → s.WarmedH t.vm → s.sameButNew ({ t with vm := s.vm } : State) locs cells slots → En v t locs) (hQ : Q (some (.int z)) T.heap) : Go p e below En n0 Q T (mkF m pc Ls (.int z :: st)) := by
  obtain ⟨fs, hr1, hrun, hended, hW, hsame⟩ := X.leave (v := some (.int z)) (fun h => by rw [hr] at h; cases h) hlk
  exact ⟨_, _, retOut X hx hr hn (Or.inl ⟨rfl, by simp, z, rfl⟩) hd hr1, hrun, hended, _, _, rfl, ⟨hQ, N⟩, hE _ _ rfl hW hsame⟩
theorem g_sreturn (X : Stand p l e R s m args below meth c T locs cells slots) (hx : p.tables.exec = Jvm.exec) {z : Int32} (hn : narrow .short (.int z) = .int z) (hr : meth.sig.returnType = some .short) (hd : decode c.code pc = .ok (.ireturn, 1)) (N : Fr n0 locs) (hlk : meth.locks = false) (hE : ∀ v t, t.heap = T.heap → s.WarmedH t.vm → s.sameButNew ({ t with vm := s.vm } : State) locs cells slots → En v t locs) (hQ : Q (some (.int z)) T.heap) : Go p e below En n0 Q T (mkF m pc Ls (.int z :: st)) := by
  obtain ⟨fs, hr1, hrun, hended, hW, hsame⟩ := X.leave (v := some (.int z)) (fun h => by rw [hr] at h; cases h) hlk
  exact ⟨_, _, retOut X hx hr hn (Or.inl ⟨rfl, by simp, z, rfl⟩) hd hr1, hrun, hended, _, _, rfl, ⟨hQ, N⟩, hE _ _ rfl hW hsame⟩
end Go
/-! arrays: every component is known -/
def Va (Z : State) (h : Heap) (a : Addr) (ty : FieldType) (vs : List Value) : Prop := ∃ c : Cell, Arr Z h a c ty ∧ c.slots.toList = vs
section Arrays
variable {p : Program} {l : Launch} {e : Env} {R : Room} {s : State} {m : MethodId} {args : Array Value} {below : List Frame} {meth : Method} {c : Code} {T : State} {locs : List Loc} {cells slots : Nat} {Z : State} {a0 : Array Value} {h h' : Heap} {n0 : Nat} {En : Option Value → State → List Loc → Prop} {Q : Option Value → Heap → Prop}
variable {pc pc' : Nat} {Ls : Array Slot} {st : List Value} {a b : Addr} {ty : FieldType} {vs : List Value} {v w : Value} {sl : Nat} {ws : List Addr}
theorem Va.lt (F : Va Z h a ty vs) : a < h.size := by obtain ⟨c, A, -⟩ := F; exact A.lt
theorem Va.ext (F : Va Z h a ty vs) (E : Ext h h') : Va Z h' a ty vs := by obtain ⟨c, A, r⟩ := F; exact ⟨c, A.ext E, r⟩
theorem Va.other (F : Va Z h b ty vs) (W : Wr h h' a sl v) (q : b ≠ a) : Va Z h' b ty vs := by obtain ⟨c, A, r⟩ := F; exact ⟨c, A.other W q, r⟩
theorem Va.keep (F : Va Z h a ty vs) (K : Keep h h' ws) (q : a ∉ ws) : Va Z h' a ty vs := by obtain ⟨c, A, r⟩ := F; exact ⟨c, ⟨K.2.1 a c A.1 q, A.2⟩, r⟩
theorem Va.same (F : Va Z h a ty vs) (W : Wr h h' a sl v) : Va Z h' a ty (vs.set sl v) := by
  obtain ⟨c, A, rfl⟩ := F
  exact ⟨_, A.same W, by simp [Cell.setSlot]⟩
theorem Va.eq (F : Va Z h a ty vs) {vs' : List Value} (q : vs = vs') : Va Z h a ty vs' := q ▸ F
theorem Va.len (F : Va Z h a ty vs) : ∃ c : Cell, Arr Z h a c ty ∧ c.slots.size = vs.length ∧ ∀ i : Nat, c.slots[i]? = vs[i]? := by
  obtain ⟨c, A, rfl⟩ := F
  exact ⟨c, A, by simp, fun i => by simp⟩
theorem Va.new {cA : ClassId} {n : Int32} {k : Nat} (A : Arr Z h a (newA cA ty n) ty) (hk : n.toNatClampNeg = k) : Va Z h a ty (List.replicate k (defaultValue ty)) := ⟨_, A, by simp [newA, hk]⟩
theorem inV {c : Cell} {j : Int32} {i : Nat} (hs : c.slots.size = vs.length) (hj : ¬ j < 0) (hi : j.toNatClampNeg = i) (hv : vs[i]? = some v) : ¬ (j < 0 ∨ c.slots.size ≤ j.toNatClampNeg) := by
  rintro (q | q)
  · exact hj q
  · rw [hs, hi] at q
    rw [List.getElem?_eq_none q] at hv
    cases hv
theorem g_baload (X : Stand p l e R s m args below meth c T locs cells slots) (hx : p.tables.exec = Jvm.exec) (hZ : Z.Warmed39 s.vm) (eT : T.heap = h) (F : Va Z h a .byte vs) {j : Int32} {i : Nat} (hd : decode c.code pc = .ok (.baload, 1)) (hp : pc + 1 = pc') (hj : ¬ j < 0) (hi : j.toNatClampNeg = i) (hv : vs[i]? = some v) (G : Go p e below En n0 Q T (mkF m pc' Ls (v :: st))) : Go p e below En n0 Q T (mkF m pc Ls (.int j :: .ref a :: st)) := by
  subst hp eT
  obtain ⟨cl, A, hs, hat⟩ := F.len
  have hv' : cl.slots[j.toNatClampNeg]? = some v := by rw [hat, hi]; exact hv
  exact Go.mov (fun t k => X.baloadBytes hx (j := j) (v := v) A.1 (State.isArrayOf_alike hZ.alike A.2.1) A.2.2 (inV hs hj hi hv) hv' (g := mkF m pc Ls (.int j :: .ref a :: st)) rfl rfl hd t k) G
theorem g_caload (X : Stand p l e R s m args below meth c T locs cells slots) (hx : p.tables.exec = Jvm.exec) (hZ : Z.Warmed39 s.vm) (eT : T.heap = h) (F : Va Z h a .char vs) {j : Int32} {i : Nat} (hd : decode c.code pc = .ok (.caload, 1)) (hp : pc + 1 = pc') (hj : ¬ j < 0) (hi : j.toNatClampNeg = i) (hv : vs[i]? = some v) (G : Go p e below En n0 Q T (mkF m pc' Ls (v :: st))) : Go p e below En n0 Q T (mkF m pc Ls (.int j :: .ref a :: st)) := by
  subst hp eT
  obtain ⟨cl, A, hs, hat⟩ := F.len
  have hv' : cl.slots[j.toNatClampNeg]? = some v := by rw [hat, hi]; exact hv
  exact Go.mov (fun t k => X.caload hx (j := j) (v := v) A.1 (State.isArrayOf_alike hZ.alike A.2.1) A.2.2 (inV hs hj hi hv) hv' (g := mkF m pc Ls (.int j :: .ref a :: st)) rfl rfl hd t k) G
theorem g_laload (X : Stand p l e R s m args below meth c T locs cells slots) (hx : p.tables.exec = Jvm.exec) (hZ : Z.Warmed39 s.vm) (eT : T.heap = h) (F : Va Z h a .long vs) {j : Int32} {i : Nat} (hd : decode c.code pc = .ok (.laload, 1)) (hp : pc + 1 = pc') (hj : ¬ j < 0) (hi : j.toNatClampNeg = i) (hv : vs[i]? = some v) (G : Go p e below En n0 Q T (mkF m pc' Ls (v :: st))) : Go p e below En n0 Q T (mkF m pc Ls (.int j :: .ref a :: st)) := by
  subst hp eT
  obtain ⟨cl, A, hs, hat⟩ := F.len
  have hv' : cl.slots[j.toNatClampNeg]? = some v := by rw [hat, hi]; exact hv
  exact Go.mov (fun t k => X.laload hx (j := j) (v := v) A.1 (State.isArrayOf_alike hZ.alike A.2.1) A.2.2 (inV hs hj hi hv) hv' (g := mkF m pc Ls (.int j :: .ref a :: st)) rfl rfl hd t k) G
theorem g_iaload (X : Stand p l e R s m args below meth c T locs cells slots) (hx : p.tables.exec = Jvm.exec) (hZ : Z.Warmed39 s.vm) (eT : T.heap = h) (F : Va Z h a .int vs) {j : Int32} {i : Nat} (hd : decode c.code pc = .ok (.iaload, 1)) (hp : pc + 1 = pc') (hj : ¬ j < 0) (hi : j.toNatClampNeg = i) (hv : vs[i]? = some v) (G : Go p e below En n0 Q T (mkF m pc' Ls (v :: st))) : Go p e below En n0 Q T (mkF m pc Ls (.int j :: .ref a :: st)) := by
  subst hp eT
  obtain ⟨cl, A, hs, hat⟩ := F.len
  have hv' : cl.slots[j.toNatClampNeg]? = some v := by rw [hat, hi]; exact hv
  exact Go.mov (fun t k => X.iaload hx (j := j) (v := v) A.1 (State.isArrayOf_alike hZ.alike A.2.1) A.2.2 (inV hs hj hi hv) hv' (g := mkF m pc Ls (.int j :: .ref a :: st)) rfl rfl hd t k) G
theorem g_arraylength (X : Stand p l e R s m args below meth c T locs cells slots) (hx : p.tables.exec = Jvm.exec) (hZ : Z.Warmed39 s.vm) (eT : T.heap = h) (F : Va Z h a ty vs) {z : Int32} (hd : decode c.code pc = .ok (.arraylength, 1)) (hp : pc + 1 = pc') (hz : vs.length.toInt32 = z) (G : Go p e below En n0 Q T (mkF m pc' Ls (.int z :: st))) : Go p e below En n0 Q T (mkF m pc Ls (.ref a :: st)) := by
  subst hp eT
  obtain ⟨cl, A, hs, hat⟩ := F.len
  subst hz
  rw [← hs] at G
  exact Go.mov (fun t k => X.arraylength hx A.1 (State.isArrayOf_alike hZ.alike A.2.1) (g := mkF m pc Ls (.ref a :: st)) rfl rfl hd t k) G
theorem h_bastore (X : Stand p l e R s m args below meth c T locs cells slots) (hx : p.tables.exec = Jvm.exec) (hZ : Z.Warmed39 s.vm) (eT : T.heap = h) (N : Fr n0 locs) (F : Va Z h a .byte vs) (hn : n0 ≤ a) {j : Int32} {i : Nat} {x : Int32} {v : Value} (hd : decode c.code pc = .ok (.bastore, 1)) (hj : ¬ j < 0) (hi : j.toNatClampNeg = i) (hv : vs[i]? = some v) (Ls : Array Slot) (st : List Value) :
    ∃ T' h' L, Stand p l e R s m args below meth c T' L cells slots ∧ T'.heap = h' ∧ Fr n0 L ∧ Wr h h' a i (.int (byt x)) ∧ Va Z h' a .byte (vs.set i (.int (byt x))) ∧ ∀ target, Steps p.tables e below (T'.setTop (mkF m (pc + 1) Ls st)) target → Steps p.tables e below (T.setTop (mkF m pc Ls (.int x :: .int j :: .ref a :: st))) target := by
  obtain ⟨cl, A, hs, hat⟩ := F.len
  obtain ⟨T', h', X', e', W, k⟩ := stB X hx hZ eT A (j := j) (inV hs hj hi hv) (g := mkF m pc Ls (.int x :: .int j :: .ref a :: st)) rfl rfl hd
  subst hi
  exact ⟨T', h', _, X', e', Fr.snoc X' N hn, W, F.same W, k⟩
theorem h_castore (X : Stand p l e R s m args below meth c T locs cells slots) (hx : p.tables.exec = Jvm.exec) (hZ : Z.Warmed39 s.vm) (eT : T.heap = h) (N : Fr n0 locs) (F : Va Z h a .char vs) (hn : n0 ≤ a) {j : Int32} {i : Nat} {x : Int32} {v : Value} (hd : decode c.code pc = .ok (.castore, 1)) (hj : ¬ j < 0) (hi : j.toNatClampNeg = i) (hv : vs[i]? = some v) (Ls : Array Slot) (st : List Value) :
    ∃ T' h' L, Stand p l e R s m args below meth c T' L cells slots ∧ T'.heap = h' ∧ Fr n0 L ∧ Wr h h' a i (.int (chr x)) ∧ Va Z h' a .char (vs.set i (.int (chr x))) ∧ ∀ target, Steps p.tables e below (T'.setTop (mkF m (pc + 1) Ls st)) target → Steps p.tables e below (T.setTop (mkF m pc Ls (.int x :: .int j :: .ref a :: st))) target := by
  obtain ⟨cl, A, hs, hat⟩ := F.len
  obtain ⟨T', h', X', e', W, k⟩ := stC X hx hZ eT A (j := j) (inV hs hj hi hv) (g := mkF m pc Ls (.int x :: .int j :: .ref a :: st)) rfl rfl hd
  subst hi
  exact ⟨T', h', _, X', e', Fr.snoc X' N hn, W, F.same W, k⟩
theorem h_lastore (X : Stand p l e R s m args below meth c T locs cells slots) (hx : p.tables.exec = Jvm.exec) (hZ : Z.Warmed39 s.vm) (eT : T.heap = h) (N : Fr n0 locs) (F : Va Z h a .long vs) (hn : n0 ≤ a) {j : Int32} {i : Nat} {x : Int64} {v : Value} (hd : decode c.code pc = .ok (.lastore, 1)) (hj : ¬ j < 0) (hi : j.toNatClampNeg = i) (hv : vs[i]? = some v) (Ls : Array Slot) (st : List Value) :
    ∃ T' h' L, Stand p l e R s m args below meth c T' L cells slots ∧ T'.heap = h' ∧ Fr n0 L ∧ Wr h h' a i (.long x) ∧ Va Z h' a .long (vs.set i (.long x)) ∧ ∀ target, Steps p.tables e below (T'.setTop (mkF m (pc + 1) Ls st)) target → Steps p.tables e below (T.setTop (mkF m pc Ls (.long x :: .int j :: .ref a :: st))) target := by
  obtain ⟨cl, A, hs, hat⟩ := F.len
  obtain ⟨T', h', X', e', W, k⟩ := stJ X hx hZ eT A (j := j) (inV hs hj hi hv) (g := mkF m pc Ls (.long x :: .int j :: .ref a :: st)) rfl rfl hd
  subst hi
  exact ⟨T', h', _, X', e', Fr.snoc X' N hn, W, F.same W, k⟩
theorem h_iastore (X : Stand p l e R s m args below meth c T locs cells slots) (hx : p.tables.exec = Jvm.exec) (hZ : Z.Warmed39 s.vm) (eT : T.heap = h) (N : Fr n0 locs) (F : Va Z h a .int vs) (hn : n0 ≤ a) {j : Int32} {i : Nat} {x : Int32} {v : Value} (hd : decode c.code pc = .ok (.iastore, 1)) (hj : ¬ j < 0) (hi : j.toNatClampNeg = i) (hv : vs[i]? = some v) (Ls : Array Slot) (st : List Value) :
    ∃ T' h' L, Stand p l e R s m args below meth c T' L cells slots ∧ T'.heap = h' ∧ Fr n0 L ∧ Wr h h' a i (.int x) ∧ Va Z h' a .int (vs.set i (.int x)) ∧ ∀ target, Steps p.tables e below (T'.setTop (mkF m (pc + 1) Ls st)) target → Steps p.tables e below (T.setTop (mkF m pc Ls (.int x :: .int j :: .ref a :: st))) target := by
  obtain ⟨cl, A, hs, hat⟩ := F.len
  obtain ⟨T', h', X', e', W, k⟩ := stI X hx hZ eT A (j := j) (inV hs hj hi hv) (g := mkF m pc Ls (.int x :: .int j :: .ref a :: st)) rfl rfl hd
  subst hi
  exact ⟨T', h', _, X', e', Fr.snoc X' N hn, W, F.same W, k⟩
theorem h_newarray (X : Stand p l e R s m args below meth c T locs cells slots) (hx : p.tables.exec = Jvm.exec) (hZ : Z.Warmed39 s.vm) (eT : T.heap = h) {aty : ArrayType} {ty : FieldType} (hty : newarray.typeOf aty = ty) (w : (Jvm.Cond.arrayClass ty).before a0 Z = true) {n : Int32} {k cap : Nat} (hd : decode c.code pc = .ok (.newarray aty, 2)) (hn : ¬ n < 0) (hk : n.toNatClampNeg = k) (hcap : k ≤ cap) (hb : cap * 8 ≤ 536870912) (hc : cells + 1 ≤ R.cells) (hl : slots + cap ≤ R.slots) {ad : String} (had : "[" ++ ty.toString = ad) (Ls : Array Slot) (st : List Value) :
    ∃ T' h' a, Stand p l e R s m args below meth c T' locs (cells + 1) (slots + cap) ∧ T'.heap = h' ∧ a = h.size ∧ Ext h h' ∧ Va Z h' a ty (List.replicate k (defaultValue ty)) ∧ Exa Z h' a ad ∧ ∀ target, Steps p.tables e below (T'.setTop (mkF m (pc + 2) Ls (.ref a :: st))) target → Steps p.tables e below (T.setTop (mkF m pc Ls (.int n :: st))) target := by
  subst hty
  obtain ⟨T', h', cA, X', e', E, A, Ex, st'⟩ := newPE X hx hZ w eT (g := mkF m pc Ls (.int n :: st)) rfl hd rfl hn (cap := cap) (by rw [hk]; exact hcap) hb hc hl had
  exact ⟨T', h', _, X', e', rfl, E, Va.new A hk, Ex, st'⟩
end Arrays
/-! calls by a contract -/
section Calls
variable {p : Program} {l : Launch} {e : Env} {R : Room} {s : State} {m : MethodId} {args : Array Value} {below : List Frame} {meth : Method} {c : Code} {T : State} {locs : List Loc} {cells slots : Nat} {Z : State} {a0 : Array Value} {h h' : Heap} {n0 : Nat} {Q : Option Value → Heap → Prop}
variable {pc : Nat} {own : String} {i maxL : Nat} {y z : MethodName} {bytes : ByteArray} {ret : Option FieldType} {rm : Room} {as' : Array Value} {ps : List FieldType} {rt : Option FieldType}
theorem h_static (X : Stand p l e R s m args below meth c T locs cells slots) (hx : p.tables.exec = Jvm.exec) {Ls : Array Slot} {W : Nat} {argsL rest : List Value} (hZ : Z.Warmed39 s.vm) (eT : T.heap = h) (N : Fr n0 locs) (hml : c.maxLocals = Ls.size) (hown : s.vm.findClass own = some m.cls) (hK : Ctr l Z y bytes maxL ret rm as' h n0 Q) (w1 : (Jvm.Cond.methodLink own i y).before a0 Z = true) (w2 : (Jvm.Cond.static y).before a0 Z = true) (w3 : (Jvm.Cond.initialized y.cls).before a0 Z = true) (w4 : (Jvm.Cond.code y bytes maxL ret).before a0 Z = true) (hy : y.cls ≠ "java/lang/invoke/MethodHandle" ∧ y.cls ≠ "java/lang/invoke/VarHandle") (pd : parseMethodDescriptor y.desc = some ⟨ps, rt⟩) (hlen : argsL.length = ps.length) (has : as' = argsL.toArray) (hd : decode c.code pc = .ok (.invokestatic i, 3)) (hW : (rest.map fun v => v.category).sum = W) (hf : rm.frames + 1 ≤ R.frames) (hlo : W + (maxL + 11) + rm.locals ≤ R.locals) (hcc : cells + rm.cells ≤ R.cells) (hss : slots + rm.slots ≤ R.slots) :
    ∃ v T' h' L, Stand p l e R s m args below meth c T' L (cells + rm.cells) (slots + rm.slots) ∧ T'.heap = h' ∧ Fr n0 L ∧ Q v h' ∧ ∀ target, Steps p.tables e below (T'.setTop (mkF m (pc + 3) Ls (v.toList ++ rest))) target → Steps p.tables e below (T.setTop (mkF m pc Ls (argsL.reverse ++ rest))) target := by
  obtain ⟨v, _, ⟨T', L', k', n'⟩, -, X', ⟨Lc, hQ, h1, h2, h3⟩, st⟩ := Jvm.LawKit.callS X hx (y := y) hown (mvT hZ w1) (mvT hZ w2) (mvT hZ w3) (mvT hZ w4) hy (backOf (W := W) (hK []) hZ w4 w3 hf hlo) (g := mkF m pc Ls (argsL.reverse ++ rest)) rfl hml.symm (argsL := argsL) (rest := rest) (lenOf pd hlen) rfl (by show 2 * 0 + _ ≤ _; omega) hd (fun _ _ => ⟨has.symm, eT, hcc, hss⟩)
  dsimp only [Pt.U, Pt.locs, Pt.cells, Pt.slots] at X' h1 h2 h3 st hQ
  subst h1 h2 h3
  exact ⟨v, T', _, _, X', rfl, N.app hQ.2, hQ.1, st⟩
theorem h_special (X : Stand p l e R s m args below meth c T locs cells slots) (hx : p.tables.exec = Jvm.exec) {Ls : Array Slot} {W : Nat} {a : Addr} {argsL rest : List Value} (hZ : Z.Warmed39 s.vm) (eT : T.heap = h) (N : Fr n0 locs) (hml : c.maxLocals = Ls.size) (hown : s.vm.findClass own = some m.cls) (hy1 : y.name = "<init>") (hK : Ctr l Z y bytes maxL none rm as' h n0 Q) (w1 : (Jvm.Cond.methodLink own i y).before a0 Z = true) (w2 : (Jvm.Cond.instanceMethod y).before a0 Z = true) (w3 : (Jvm.Cond.initialized y.cls).before a0 Z = true) (w4 : (Jvm.Cond.code y bytes maxL none).before a0 Z = true) (hy : y.cls ≠ "java/lang/invoke/MethodHandle" ∧ y.cls ≠ "java/lang/invoke/VarHandle") (pd : parseMethodDescriptor y.desc = some ⟨ps, rt⟩) (hlen : argsL.length = ps.length) (has : as' = (.ref a :: argsL).toArray) (hd : decode c.code pc = .ok (.invokespecial i, 3)) (hW : (rest.map fun v => v.category).sum = W) (hf : rm.frames + 1 ≤ R.frames) (hlo : W + (maxL + 11) + rm.locals ≤ R.locals) (hcc : cells + rm.cells ≤ R.cells) (hss : slots + rm.slots ≤ R.slots) :
    ∃ v T' h' L, Stand p l e R s m args below meth c T' L (cells + rm.cells) (slots + rm.slots) ∧ T'.heap = h' ∧ Fr n0 L ∧ Q v h' ∧ ∀ target, Steps p.tables e below (T'.setTop (mkF m (pc + 3) Ls (v.toList ++ rest))) target → Steps p.tables e below (T.setTop (mkF m pc Ls (argsL.reverse ++ .ref a :: rest))) target := by
  obtain ⟨v, _, ⟨T', L', k', n'⟩, -, X', ⟨Lc, hQ, h1, h2, h3⟩, st⟩ := X.specialBack hx (y := y) hy1 hown (mvT hZ w1) (mvT hZ w2) (mvT hZ w4) hy (backOf (W := W) (hK []) hZ w4 w3 hf hlo) (g := mkF m pc Ls (argsL.reverse ++ .ref a :: rest)) rfl hml.symm (Steps.refl _) (a := a) (argsL := argsL) (rest := rest) (lenOf pd hlen) rfl (by show 2 * 0 + _ ≤ _; omega) hd (fun _ _ => ⟨has.symm, eT, hcc, hss⟩)
  dsimp only [Pt.U, Pt.locs, Pt.cells, Pt.slots] at X' h1 h2 h3 st hQ
  subst h1 h2 h3
  exact ⟨v, T', _, _, X', rfl, N.app hQ.2, hQ.1, fun t k => st.trans k⟩
theorem h_virtual (X : Stand p l e R s m args below meth c T locs cells slots) (hx : p.tables.exec = Jvm.exec) {Ls : Array Slot} {W : Nat} {a : Addr} {cls : String} {argsL rest : List Value} (hZ : Z.Warmed39 s.vm) (eT : T.heap = h) (N : Fr n0 locs) (hml : c.maxLocals = Ls.size) (hown : s.vm.findClass own = some m.cls) (hK : Ctr l Z z bytes maxL ret rm as' h n0 Q) (E : Exa Z h a cls) (w1 : (Jvm.Cond.methodLink own i y).before a0 Z = true) (w2 : (Jvm.Cond.declares y).before a0 Z = true) (nf : NotFace s y) (w5 : (Jvm.Cond.selects cls y z).before a0 Z = true) (w6 : (Jvm.Cond.instanceMethod z).before a0 Z = true) (w3 : (Jvm.Cond.initialized z.cls).before a0 Z = true) (w4 : (Jvm.Cond.code z bytes maxL ret).before a0 Z = true) (hy : y.cls ≠ "java/lang/invoke/MethodHandle" ∧ y.cls ≠ "java/lang/invoke/VarHandle") (pd : parseMethodDescriptor y.desc = some ⟨ps, rt⟩) (hlen : argsL.length = ps.length) (has : as' = (.ref a :: argsL).toArray) (hd : decode c.code pc = .ok (.invokevirtual i, 3)) (hW : (rest.map fun v => v.category).sum = W) (hf : rm.frames + 1 ≤ R.frames) (hlo : W + (maxL + 11) + rm.locals ≤ R.locals) (hcc : cells + rm.cells ≤ R.cells) (hss : slots + rm.slots ≤ R.slots) :
    ∃ v T' h' L, Stand p l e R s m args below meth c T' L (cells + rm.cells) (slots + rm.slots) ∧ T'.heap = h' ∧ Fr n0 L ∧ Q v h' ∧ ∀ target, Steps p.tables e below (T'.setTop (mkF m (pc + 3) Ls (v.toList ++ rest))) target → Steps p.tables e below (T.setTop (mkF m pc Ls (argsL.reverse ++ .ref a :: rest))) target := by
  obtain ⟨cq, kq, qa, qb, qc⟩ := isOf hZ eT E
  obtain ⟨v, _, ⟨T', L', k', n'⟩, -, X', ⟨Lc, hQ, h1, h2, h3⟩, st⟩ := X.virtualBack hx (y := y) (z := z) hown (mvT hZ w1) (mvT hZ w2) nf (mvT hZ w5) (mvT hZ w6) hy (backOf (W := W) (hK []) hZ w4 w3 hf hlo) qa qc (g := mkF m pc Ls (argsL.reverse ++ .ref a :: rest)) rfl hml.symm (Steps.refl _) (argsL := argsL) (rest := rest) (lenOf pd hlen) rfl (by show 2 * 0 + _ ≤ _; omega) hd (fun _ _ => ⟨has.symm, eT, hcc, hss⟩)
  dsimp only [Pt.U, Pt.locs, Pt.cells, Pt.slots] at X' h1 h2 h3 st hQ
  subst h1 h2 h3
  exact ⟨v, T', _, _, X', rfl, N.app hQ.2, hQ.1, fun t k => st.trans k⟩
theorem h_specialN (X : Stand p l e R s m args below meth c T locs cells slots) (hx : p.tables.exec = Jvm.exec) {Ls : Array Slot} {W : Nat} {a : Addr} {host : String} {argsL rest : List Value} (hZ : Z.Warmed39 s.vm) (eT : T.heap = h) (N : Fr n0 locs) (hml : c.maxLocals = Ls.size) (hown : s.vm.findClass own = some m.cls) (hy1 : y.name = "<init>") (hK : Ctr l Z y bytes maxL none rm as' h n0 Q) (w1 : (Jvm.Cond.methodLinkNest own i y host).before a0 Z = true) (w2 : (Jvm.Cond.instanceMethod y).before a0 Z = true) (w3 : (Jvm.Cond.initialized y.cls).before a0 Z = true) (w4 : (Jvm.Cond.code y bytes maxL none).before a0 Z = true) (hy : y.cls ≠ "java/lang/invoke/MethodHandle" ∧ y.cls ≠ "java/lang/invoke/VarHandle") (pd : parseMethodDescriptor y.desc = some ⟨ps, rt⟩) (hlen : argsL.length = ps.length) (has : as' = (.ref a :: argsL).toArray) (hd : decode c.code pc = .ok (.invokespecial i, 3)) (hW : (rest.map fun v => v.category).sum = W) (hf : rm.frames + 1 ≤ R.frames) (hlo : W + (maxL + 11) + rm.locals ≤ R.locals) (hcc : cells + rm.cells ≤ R.cells) (hss : slots + rm.slots ≤ R.slots) :
    ∃ v T' h' L, Stand p l e R s m args below meth c T' L (cells + rm.cells) (slots + rm.slots) ∧ T'.heap = h' ∧ Fr n0 L ∧ Q v h' ∧ ∀ target, Steps p.tables e below (T'.setTop (mkF m (pc + 3) Ls (v.toList ++ rest))) target → Steps p.tables e below (T.setTop (mkF m pc Ls (argsL.reverse ++ .ref a :: rest))) target := by
  obtain ⟨v, _, ⟨T', L', k', n'⟩, -, X', ⟨Lc, hQ, h1, h2, h3⟩, st⟩ := X.specialBackNest hx (y := y) hy1 hown (Jvm.Cond.methodLinkNest_wide hZ w1) (mvT hZ w2) (mvT hZ w4) hy (backOf (W := W) (hK []) hZ w4 w3 hf hlo) (g := mkF m pc Ls (argsL.reverse ++ .ref a :: rest)) rfl hml.symm (Steps.refl _) (a := a) (argsL := argsL) (rest := rest) (lenOf pd hlen) rfl (by show 2 * 0 + _ ≤ _; omega) hd (fun _ _ => ⟨has.symm, eT, hcc, hss⟩)
  dsimp only [Pt.U, Pt.locs, Pt.cells, Pt.slots] at X' h1 h2 h3 st hQ
  subst h1 h2 h3
  exact ⟨v, T', _, _, X', rfl, N.app hQ.2, hQ.1, fun t k => st.trans k⟩
theorem h_private (X : Stand p l e R s m args below meth c T locs cells slots) (hx : p.tables.exec = Jvm.exec) {Ls : Array Slot} {W : Nat} {a : Addr} {cls : String} {kk : Nat} {argsL rest : List Value} (hZ : Z.Warmed39 s.vm) (eT : T.heap = h) (N : Fr n0 locs) (hml : c.maxLocals = Ls.size) (hown : s.vm.findClass own = some m.cls) (hK : Ctr l Z y bytes maxL ret rm as' h n0 Q) (E : Exa Z h a cls) (w1 : (Jvm.Cond.methodLink own i y).before a0 Z = true) (w2 : (Jvm.Cond.instanceMethod y).before a0 Z = true) (wp : (Jvm.Cond.privateMethod y).before a0 Z = true) (wi : (Jvm.Cond.instantiable y.cls kk).before a0 Z = true) (w3 : (Jvm.Cond.initialized y.cls).before a0 Z = true) (w4 : (Jvm.Cond.code y bytes maxL ret).before a0 Z = true) (hy : y.cls ≠ "java/lang/invoke/MethodHandle" ∧ y.cls ≠ "java/lang/invoke/VarHandle") (pd : parseMethodDescriptor y.desc = some ⟨ps, rt⟩) (hlen : argsL.length = ps.length) (has : as' = (.ref a :: argsL).toArray) (hd : decode c.code pc = .ok (.invokevirtual i, 3)) (hW : (rest.map fun v => v.category).sum = W) (hf : rm.frames + 1 ≤ R.frames) (hlo : W + (maxL + 11) + rm.locals ≤ R.locals) (hcc : cells + rm.cells ≤ R.cells) (hss : slots + rm.slots ≤ R.slots) :
    ∃ v T' h' L, Stand p l e R s m args below meth c T' L (cells + rm.cells) (slots + rm.slots) ∧ T'.heap = h' ∧ Fr n0 L ∧ Q v h' ∧ ∀ target, Steps p.tables e below (T'.setTop (mkF m (pc + 3) Ls (v.toList ++ rest))) target → Steps p.tables e below (T.setTop (mkF m pc Ls (argsL.reverse ++ .ref a :: rest))) target := by
  obtain ⟨cq, q1, q2⟩ := E.cell
  obtain ⟨c2, k2, i1, i2, i3, i4, -⟩ := Jvm.Cond.instantiable_spec (mvT (args := args) (d := .instantiable y.cls kk) hZ wi)
  have hpv := Jvm.Cond.privateMethod_at (mvP hZ wp (args := args))
  have hsel := selects_self_of_private (args := args) i1 i2 (by revert i4; cases k2.isInterface <;> simp) hpv (mvT hZ w2) hy
  obtain ⟨v, _, ⟨T', L', k', n'⟩, -, X', ⟨Lc, hQ, h1, h2, h3⟩, st⟩ := X.privateBack hx (y := y) hown (mvT hZ w1) (mvT hZ w2) hsel hpv (mvT hZ w4) hy (backOf (W := W) (hK []) hZ w4 w3 hf hlo) (g := mkF m pc Ls (argsL.reverse ++ .ref a :: rest)) rfl hml.symm (Steps.refl _) (a := a) (by rw [eT]; exact q1) q2 (argsL := argsL) (rest := rest) (lenOf pd hlen) rfl (by show 2 * 0 + _ ≤ _; omega) hd (fun _ _ => ⟨has.symm, eT, hcc, hss⟩)
  dsimp only [Pt.U, Pt.locs, Pt.cells, Pt.slots] at X' h1 h2 h3 st hQ
  subst h1 h2 h3
  exact ⟨v, T', _, _, X', rfl, N.app hQ.2, hQ.1, fun t k => st.trans k⟩
end Calls
/-! an enum's constant, where the law begins -/
theorem enum_at {C f d : String} {a0 : Array Value} {k : Int32} {s : State} (h1 : (Jvm.Cond.exactly (.static C f d) C).value a0 s none s [] = some true) (h2 : (Jvm.Cond.eq (.field (.static C f d) "java/lang/Enum" "ordinal" "I") (.int k)).value a0 s none s [] = some true)
    (wi : (Jvm.Cond.initialized C).before a0 s = true) (wl : (Jvm.Cond.laysStatic C f d).before a0 s = true) : ∃ a, Sta s s.heap C f d (.ref a) ∧ Exa s s.heap a C ∧ s.fieldOf? a "java/lang/Enum" "ordinal" "I" = some (.int k) := by
  obtain ⟨a, ev⟩ := exa_v h1
  refine ⟨a, Sta.start ev (Or.inr ⟨wi, wl⟩), Exa.start ev h1, ?_⟩
  obtain ⟨x, y, e1, e2, k1, k2⟩ := cmp_v (Or.inl h2)
  have ey : y = .int k := (Option.some.inj ((Term.int_eval k).symm.trans e2)).symm
  subst ey
  obtain ⟨z, rfl⟩ := k2
  have q : (Jvm.Cond.eq (.field (.static C f d) "java/lang/Enum" "ordinal" "I") (.int k)).value a0 s none s [] = some (decide (z = k)) := by simp [Jvm.Cond.value, e1, e2]
  have r := gotT q h2
  subst r
  rw [← fld_at (C := "java/lang/Enum") (n := "ordinal") (dd := "I") ev]
  exact e1
theorem enum_ne {s : State} {a b : Addr} {k k' : Int32} (h1 : s.fieldOf? a "java/lang/Enum" "ordinal" "I" = some (.int k)) (h2 : s.fieldOf? b "java/lang/Enum" "ordinal" "I" = some (.int k')) (q : k ≠ k') : a ≠ b := fun e => by
  subst e
  rw [h1] at h2
  exact q (Value.int.inj (Option.some.inj h2))
end Jvm.OwnKit
namespace Jvm.Pilot.@@N@@
open Jvm Jvm.ClassFile Sem Op Lib Jvm.Free Jvm.Stand Jvm.LawKit Jvm.RoadKit Jvm.OwnKit Bundle Jvm.Pilot.@@N@@.Jvm.D
def maxI (x y : Int32) : Int32 := if x < y then y else x
def minI (x y : Int32) : Int32 := if y < x then y else x
def eqV (a b c d : Int32) : Int32 := if a = c ∧ b = d then 1 else 0
theorem t0 : (0 : Int32).toInt = 0 := rfl
theorem t32767 : (32767 : Int32).toInt = 32767 := rfl
def Ok (x : Int32) : Prop := ¬ x < 0 ∧ ¬ 32767 < x
theorem ok_mask (x : Int32) : Ok (x &&& 32767) := by
  have h := c_mask x 32767 15 (by decide) (by decide)
  constructor <;> rw [Int32.lt_iff_toInt_lt, h] <;> simp only [t0, t32767] <;> omega
theorem ok_min {x y : Int32} (h1 : Ok x) (h2 : Ok y) : Ok (minI x y) := by unfold minI; split <;> assumption
theorem ok_max {x y : Int32} (h1 : Ok x) (h2 : Ok y) : Ok (maxI x y) := by unfold maxI; split <;> assumption
theorem min_max (x y : Int32) : ¬ maxI x y < minI x y := by
  unfold maxI minI
  split <;> split <;> simp only [Int32.lt_iff_toInt_lt] at * <;> omega
theorem lit_max : (2147483647 : Int32).toInt = 2147483647 := rfl
theorem own_p1 {h : Int32} (hh : Ok h) : h + 1 ≠ 0 ∧ ∀ x : Int32, Ok ((x &&& 2147483647) % (h + 1)) ∧ ¬ h < (x &&& 2147483647) % (h + 1) := by
  obtain ⟨h1, h2⟩ := hh
  rw [Int32.lt_iff_toInt_lt] at h1 h2
  simp only [t0, t32767] at h1 h2
  have e := c_iadd h 1
  have r := rng32 (h + 1)
  have e1 : (1 : Int32).toInt = 1 := rfl
  have es : (h + 1).toInt = h.toInt + 1 := by omega
  refine ⟨fun q => ?_, fun x => ?_⟩
  · rw [q] at es; simp only [t0] at es; omega
  · have hm := c_mask x 2147483647 31 (by decide) (by decide)
    have hr := (c_iremV (x &&& 2147483647) (h + 1)).1 (by omega) (by omega)
    refine ⟨⟨?_, ?_⟩, ?_⟩ <;> rw [Int32.lt_iff_toInt_lt] <;> (try simp only [t0, t32767]) <;> omega
theorem own_p2 {h : Int32} (hh : Ok h) : 32768 - h ≠ 0 ∧ ∀ x : Int32, Ok (h + (x &&& 2147483647) % (32768 - h)) ∧ ¬ h + (x &&& 2147483647) % (32768 - h) < h := by
  obtain ⟨h1, h2⟩ := hh
  rw [Int32.lt_iff_toInt_lt] at h1 h2
  simp only [t0, t32767] at h1 h2
  have e := c_isub 32768 h
  have r := rng32 (32768 - h)
  have e1 : (32768 : Int32).toInt = 32768 := rfl
  have es : (32768 - h).toInt = 32768 - h.toInt := by omega
  refine ⟨fun q => ?_, fun x => ?_⟩
  · rw [q] at es; simp only [t0] at es; omega
  · have hm := c_mask x 2147483647 31 (by decide) (by decide)
    have hr := (c_iremV (x &&& 2147483647) (32768 - h)).1 (by omega) (by omega)
    have ea := c_iadd h ((x &&& 2147483647) % (32768 - h))
    have ra := rng32 (h + (x &&& 2147483647) % (32768 - h))
    have es2 : (h + (x &&& 2147483647) % (32768 - h)).toInt = h.toInt + ((x &&& 2147483647) % (32768 - h)).toInt := by omega
    refine ⟨⟨?_, ?_⟩, ?_⟩ <;> rw [Int32.lt_iff_toInt_lt] <;> (try simp only [t0, t32767]) <;> omega
theorem le_tr {a b c : Int32} (h1 : ¬ b < a) (h2 : ¬ c < b) : ¬ c < a := by rw [Int32.lt_iff_toInt_lt] at *; omega
/-- Integer is no VersionRange -/
theorem no_inst {Z : State} {a0 : Array Value} {C B A K : String} {n : Nat} (w1 : (Jvm.Cond.superclass C B).before a0 Z = true) (w2 : (Jvm.Cond.superclass B A).before a0 Z = true) (w3 : (Jvm.Cond.noSuperclass A).before a0 Z = true) (wi : (Jvm.Cond.instantiable K n).before a0 Z = true) (h1 : C ≠ K) (h2 : B ≠ K) (h3 : A ≠ K) :
    ∃ c t, Z.vm.findClass C = some c ∧ Z.vm.findClass K = some t ∧ Z.vm.assignable c t = false := by
  obtain ⟨t, kt, k1, k2, k3, k4, -⟩ := Jvm.Cond.instantiable_spec wi
  obtain ⟨ca, ka, a1, a2, a3, -, -⟩ := Cond.noSuperclass_spec w3
  have nA : NS Z A K := by
    refine ⟨ca, t, a1, k1, fun fuel => ?_⟩
    cases fuel with
    | zero => rfl
    | succ f => simp [Vm.isSubclassAux, ids_ne a1 k1 h3, a2, a3]
  obtain ⟨c, t', g1, g2, g3⟩ := NS.step w1 (NS.step w2 nA h2) h1
  cases k1.symm.trans g2
  obtain ⟨p, k, kp, s1, s2, s3, s4, s5, -, s7⟩ := Cond.superclass_spec g1 w1
  have hni : kt.isInterface = false := by revert k4; cases kt.isInterface <;> simp
  refine ⟨c, t, g1, k1, ?_⟩
  show Z.vm.assignableAux (255 + 1) c t = false
  simp [Vm.assignableAux, ids_ne g1 k1 h1, s2, k2, s5, k3, hni, Vm.isSubclass, g3]
theorem d1_0 : decode jdk_29_method_69_code 0 = .ok (.iload_n 0, 1) := by decide +kernel
theorem d1_1 : decode jdk_29_method_69_code 1 = .ok (.iload_n 1, 1) := by decide +kernel
theorem d1_2 : decode jdk_29_method_69_code 2 = .ok (.if_icmp .gt 7, 3) := by decide +kernel
theorem d1_5 : decode jdk_29_method_69_code 5 = .ok (.iload_n 0, 1) := by decide +kernel
theorem d1_6 : decode jdk_29_method_69_code 6 = .ok (.goto 4, 3) := by decide +kernel
theorem d1_9 : decode jdk_29_method_69_code 9 = .ok (.iload_n 1, 1) := by decide +kernel
theorem d1_10 : decode jdk_29_method_69_code 10 = .ok (.ireturn, 1) := by decide +kernel
theorem ef_1 (x0 : Int32) (x1 : Int32) (m : MethodId) : entryFrame m #[(.int x0), (.int x1)] 2 = mkF m 0 #[.val (.int x0), .val (.int x1)] [] := by first | (simp [entryFrame, mkF, argsToLocals, Value.category]; done) | rfl
def Q1 (Z : State) (p1 : Int32) (p2 : Int32) (h0 : Heap) (n0 : Nat) : Option Value → Heap → Prop := fun v h => v = some (.int (minI p1 p2)) ∧ h0 = h
set_option maxRecDepth 65536 in
set_option maxHeartbeats 40000000 in
theorem rm1 (l : Launch) (Z : State) (a0 : Array Value) (hw : ∀ d ∈ tables_1, d.before a0 Z = true) (p1 : Int32) (p2 : Int32) (h0 : Heap) (n0 : Nat) (Z0 : n0 ≤ h0.size) : Ctr l Z (⟨"java/lang/Math", "min", "(II)I"⟩ : MethodName) jdk_29_method_69_code 2 (some .int) ({ frames := 0, cells := 0, slots := 0, locals := 0 } : Room) #[(.int p1), (.int p2)] h0 n0 (Q1 Z p1 p2 h0 n0) := by
  refine Ctr.of (Jvm.Free.JP.mathPlain rfl (by decide +kernel)) (ef_1 p1 p2) ?_
  intro p e s m below meth c T0 hx hby hml hown hnm hret hlk hZ X0 e0
  have N0 := Fr.nil n0
  refine g_iloadN X0 hx (hb hby d1_0) (pc' := 1) rfl rfl ?_
  refine g_iloadN X0 hx (hb hby d1_1) (pc' := 2) rfl rfl ?_
  refine g_icmp_gt X0 hx (hb hby d1_2) (pc1 := 5) rfl (by decide) (pc2 := 9) (by decide) (fun hc2 => ?_) (fun hc2 => ?_)
  · skip
    refine g_iloadN X0 hx (hb hby d1_9) (pc' := 10) rfl rfl ?_
    exact g_ireturn X0 hx hret (hb hby d1_10) N0 hlk (fun v t => endF (by decide) (by decide) v) (by rw [e0]; refine ⟨?_, rfl⟩; simp [minI, hc2])
  · skip
    refine g_iloadN X0 hx (hb hby d1_5) (pc' := 6) rfl rfl ?_
    refine g_goto X0 hx (hb hby d1_6) (by decide) (pc' := 10) (by decide) ?_
    exact g_ireturn X0 hx hret (hb hby d1_10) N0 hlk (fun v t => endF (by decide) (by decide) v) (by rw [e0]; refine ⟨?_, rfl⟩; simp [minI, hc2])
theorem d2_0 : decode jdk_29_method_65_code 0 = .ok (.iload_n 0, 1) := by decide +kernel
theorem d2_1 : decode jdk_29_method_65_code 1 = .ok (.iload_n 1, 1) := by decide +kernel
theorem d2_2 : decode jdk_29_method_65_code 2 = .ok (.if_icmp .lt 7, 3) := by decide +kernel
theorem d2_5 : decode jdk_29_method_65_code 5 = .ok (.iload_n 0, 1) := by decide +kernel
theorem d2_6 : decode jdk_29_method_65_code 6 = .ok (.goto 4, 3) := by decide +kernel
theorem d2_9 : decode jdk_29_method_65_code 9 = .ok (.iload_n 1, 1) := by decide +kernel
theorem d2_10 : decode jdk_29_method_65_code 10 = .ok (.ireturn, 1) := by decide +kernel
theorem ef_2 (x0 : Int32) (x1 : Int32) (m : MethodId) : entryFrame m #[(.int x0), (.int x1)] 2 = mkF m 0 #[.val (.int x0), .val (.int x1)] [] := by first | (simp [entryFrame, mkF, argsToLocals, Value.category]; done) | rfl
def Q2 (Z : State) (p1 : Int32) (p2 : Int32) (h0 : Heap) (n0 : Nat) : Option Value → Heap → Prop := fun v h => v = some (.int (maxI p1 p2)) ∧ h0 = h
set_option maxRecDepth 65536 in
set_option maxHeartbeats 40000000 in
theorem rm2 (l : Launch) (Z : State) (a0 : Array Value) (hw : ∀ d ∈ tables_1, d.before a0 Z = true) (p1 : Int32) (p2 : Int32) (h0 : Heap) (n0 : Nat) (Z0 : n0 ≤ h0.size) : Ctr l Z (⟨"java/lang/Math", "max", "(II)I"⟩ : MethodName) jdk_29_method_65_code 2 (some .int) ({ frames := 0, cells := 0, slots := 0, locals := 0 } : Room) #[(.int p1), (.int p2)] h0 n0 (Q2 Z p1 p2 h0 n0) := by
  refine Ctr.of (Jvm.Free.JP.mathPlain rfl (by decide +kernel)) (ef_2 p1 p2) ?_
  intro p e s m below meth c T0 hx hby hml hown hnm hret hlk hZ X0 e0
  have N0 := Fr.nil n0
  refine g_iloadN X0 hx (hb hby d2_0) (pc' := 1) rfl rfl ?_
  refine g_iloadN X0 hx (hb hby d2_1) (pc' := 2) rfl rfl ?_
  refine g_icmp_lt X0 hx (hb hby d2_2) (pc1 := 5) rfl (by decide) (pc2 := 9) (by decide) (fun hc2 => ?_) (fun hc2 => ?_)
  · skip
    refine g_iloadN X0 hx (hb hby d2_9) (pc' := 10) rfl rfl ?_
    exact g_ireturn X0 hx hret (hb hby d2_10) N0 hlk (fun v t => endF (by decide) (by decide) v) (by rw [e0]; refine ⟨?_, rfl⟩; simp [maxI, hc2])
  · skip
    refine g_iloadN X0 hx (hb hby d2_5) (pc' := 6) rfl rfl ?_
    refine g_goto X0 hx (hb hby d2_6) (by decide) (pc' := 10) (by decide) ?_
    exact g_ireturn X0 hx hret (hb hby d2_10) N0 hlk (fun v t => endF (by decide) (by decide) v) (by rw [e0]; refine ⟨?_, rfl⟩; simp [maxI, hc2])
theorem d3_0 : decode prog_117_method_1_code 0 = .ok (.aload_n 0, 1) := by decide +kernel
theorem d3_1 : decode prog_117_method_1_code 1 = .ok (.invokespecial 1, 3) := by decide +kernel
theorem d3_4 : decode prog_117_method_1_code 4 = .ok (.iload_n 1, 1) := by decide +kernel
theorem d3_5 : decode prog_117_method_1_code 5 = .ok (.ifCond .lt 15, 3) := by decide +kernel
theorem d3_8 : decode prog_117_method_1_code 8 = .ok (.iload_n 1, 1) := by decide +kernel
theorem d3_9 : decode prog_117_method_1_code 9 = .ok (.iload_n 2, 1) := by decide +kernel
theorem d3_10 : decode prog_117_method_1_code 10 = .ok (.if_icmp .gt 10, 3) := by decide +kernel
theorem d3_13 : decode prog_117_method_1_code 13 = .ok (.iload_n 2, 1) := by decide +kernel
theorem d3_14 : decode prog_117_method_1_code 14 = .ok (.sipush 32767, 3) := by decide +kernel
theorem d3_17 : decode prog_117_method_1_code 17 = .ok (.if_icmp .le 18, 3) := by decide +kernel
theorem d3_35 : decode prog_117_method_1_code 35 = .ok (.aload_n 0, 1) := by decide +kernel
theorem d3_36 : decode prog_117_method_1_code 36 = .ok (.iload_n 1, 1) := by decide +kernel
theorem d3_37 : decode prog_117_method_1_code 37 = .ok (.putfield 18, 3) := by decide +kernel
theorem d3_40 : decode prog_117_method_1_code 40 = .ok (.aload_n 0, 1) := by decide +kernel
theorem d3_41 : decode prog_117_method_1_code 41 = .ok (.iload_n 2, 1) := by decide +kernel
theorem d3_42 : decode prog_117_method_1_code 42 = .ok (.putfield 24, 3) := by decide +kernel
theorem d3_45 : decode prog_117_method_1_code 45 = .ok (.return_, 1) := by decide +kernel
theorem pn_3 : plainName "com/example/stream_log_client/streamlogclient/protocol/VersionRange" = true := by first | (simp [plainName, overriddenIn]; done) | decide +kernel
theorem ef_3 (x0 : Addr) (x1 : Int32) (x2 : Int32) (m : MethodId) : entryFrame m #[(.ref x0), (.int x1), (.int x2)] 3 = mkF m 0 #[.val (.ref x0), .val (.int x1), .val (.int x2)] [] := by first | (simp [entryFrame, mkF, argsToLocals, Value.category]; done) | rfl
def Q3 (Z : State) (a : Addr) (lo : Int32) (hi : Int32) (h0 : Heap) (n0 : Nat) : Option Value → Heap → Prop := fun v h => v = none ∧ Keep h0 h [a] ∧ Exa Z h a "com/example/stream_log_client/streamlogclient/protocol/VersionRange" ∧ Fld Z h a "com/example/stream_log_client/streamlogclient/protocol/VersionRange" "min" "I" (.int lo) ∧ Fld Z h a "com/example/stream_log_client/streamlogclient/protocol/VersionRange" "max" "I" (.int hi)
set_option maxRecDepth 65536 in
set_option maxHeartbeats 40000000 in
theorem rm3 (l : Launch) (Z : State) (a0 : Array Value) (hw : ∀ d ∈ tables_1, d.before a0 Z = true) (a : Addr) (lo : Int32) (hi : Int32) (h0 : Heap) (n0 : Nat) (Z0 : n0 ≤ h0.size) (F1 : Fld Z h0 a "com/example/stream_log_client/streamlogclient/protocol/VersionRange" "min" "I" (.int (0 : Int32))) (F2 : Fld Z h0 a "com/example/stream_log_client/streamlogclient/protocol/VersionRange" "max" "I" (.int (0 : Int32))) (E1 : Exa Z h0 a "com/example/stream_log_client/streamlogclient/protocol/VersionRange") (G1 : n0 ≤ a) (k1 : ¬ lo < 0) (k2 : ¬ hi < lo) (k3 : ¬ 32767 < hi) : Ctr l Z (⟨"com/example/stream_log_client/streamlogclient/protocol/VersionRange", "<init>", "(II)V"⟩ : MethodName) prog_117_method_1_code 3 none ({ frames := 1, cells := 0, slots := 0, locals := 12 } : Room) #[(.ref a), (.int lo), (.int hi)] h0 n0 (Q3 Z a lo hi h0 n0) := by
  refine Ctr.of (plainFor_of_name pn_3) (ef_3 a lo hi) ?_
  intro p e s m below meth c T0 hx hby hml hown hnm hret hlk hZ X0 e0
  have N0 := Fr.nil n0
  refine g_aloadN X0 hx (hb hby d3_0) (pc' := 1) rfl rfl rfl ?_
  obtain ⟨T1, X1, e1, st1⟩ := initO X0 hx hZ hown (hw _ (List.mem_of_getElem? (i := 13) rfl)) (hw _ (List.mem_of_getElem? (i := 14) rfl)) (hw _ (List.mem_of_getElem? (i := 15) rfl)) e0 (g := (mkF m 1 #[.val (.ref a), .val (.int lo), .val (.int hi)] [(.ref a)])) rfl (by rw [hml]; rfl) rfl (hb hby d3_1) (by decide) (W := 0) (by show 2 * 0 + _ ≤ _; exact Nat.le_of_eq rfl) (by decide)
  refine Go.movp st1 (mkF m 4 #[.val (.ref a), .val (.int lo), .val (.int hi)] []) rfl ?_
  refine g_iloadN X1 hx (hb hby d3_4) (pc' := 5) rfl rfl ?_
  refine g_if_lt X1 hx (hb hby d3_5) (pc1 := 8) rfl (by decide) (pc2 := 20) (by decide) (fun hc5 => absurd hc5 k1) (fun hc5 => ?_)
  refine g_iloadN X1 hx (hb hby d3_8) (pc' := 9) rfl rfl ?_
  refine g_iloadN X1 hx (hb hby d3_9) (pc' := 10) rfl rfl ?_
  refine g_icmp_gt X1 hx (hb hby d3_10) (pc1 := 13) rfl (by decide) (pc2 := 20) (by decide) (fun hc10 => absurd hc10 k2) (fun hc10 => ?_)
  refine g_iloadN X1 hx (hb hby d3_13) (pc' := 14) rfl rfl ?_
  refine g_sipush X1 hx (hb hby d3_14) (pc' := 17) rfl (z := (32767 : Int32)) rfl ?_
  refine g_icmp_le X1 hx (hb hby d3_17) (pc1 := 20) rfl (by decide) (pc2 := 35) (by decide) (fun hc17 => ?_) (fun hc17 => absurd hc17 k3)
  refine g_aloadN X1 hx (hb hby d3_35) (pc' := 36) rfl rfl rfl ?_
  refine g_iloadN X1 hx (hb hby d3_36) (pc' := 37) rfl rfl ?_
  obtain ⟨T2, h2, X2, e2, W2, st2⟩ := putF X1 hx hZ hown (host := "") (Or.inl (hw _ (List.mem_of_getElem? (i := 16) rfl))) Via.refl e1 F1 E1 (Or.inr ⟨(hw _ (List.mem_of_getElem? (i := 17) rfl)), rfl, hnm⟩) (hw _ (List.mem_of_getElem? (i := 8) rfl)) (ty := .int) (by decide) rfl rfl (g := (mkF m 37 #[.val (.ref a), .val (.int lo), .val (.int hi)] [(.int lo), (.ref a)])) rfl rfl (hb hby d3_37)
  have f3 : Fld Z h2 a "com/example/stream_log_client/streamlogclient/protocol/VersionRange" "min" "I" (.int lo) := Fld.same W2 F1
  have N2 := Fr.snoc X2 N0 G1
  have f4 := Fld.other W2 F2 (Or.inr (slot_ne (Or.inr (hw _ (List.mem_of_getElem? (i := 19) rfl))) (Or.inr (hw _ (List.mem_of_getElem? (i := 17) rfl))) (by decide) (t := .int) (t' := .int) (by decide) (by decide)))
  have f5 := Exa.wr W2 E1
  have Z6 : n0 ≤ h2.size := Nat.le_trans Z0 (Keep.of_wr W2).1
  have K7 := (Keep.refl h0 [a]).wr W2 (Or.inl (List.mem_of_getElem? (i := 0) rfl))
  refine Go.movp st2 (mkF m 40 #[.val (.ref a), .val (.int lo), .val (.int hi)] []) rfl ?_
  refine g_aloadN X2 hx (hb hby d3_40) (pc' := 41) rfl rfl rfl ?_
  refine g_iloadN X2 hx (hb hby d3_41) (pc' := 42) rfl rfl ?_
  obtain ⟨T8, h8, X8, e8, W8, st8⟩ := putF X2 hx hZ hown (host := "") (Or.inl (hw _ (List.mem_of_getElem? (i := 18) rfl))) Via.refl e2 f4 f5 (Or.inr ⟨(hw _ (List.mem_of_getElem? (i := 19) rfl)), rfl, hnm⟩) (hw _ (List.mem_of_getElem? (i := 8) rfl)) (ty := .int) (by decide) rfl rfl (g := (mkF m 42 #[.val (.ref a), .val (.int lo), .val (.int hi)] [(.int hi), (.ref a)])) rfl rfl (hb hby d3_42)
  have f9 : Fld Z h8 a "com/example/stream_log_client/streamlogclient/protocol/VersionRange" "max" "I" (.int hi) := Fld.same W8 f4
  have N8 := Fr.snoc X8 N2 G1
  have f10 := Exa.wr W8 f5
  have f11 := Fld.other W8 f3 (Or.inr (slot_ne (Or.inr (hw _ (List.mem_of_getElem? (i := 17) rfl))) (Or.inr (hw _ (List.mem_of_getElem? (i := 19) rfl))) (by decide) (t := .int) (t' := .int) (by decide) (by decide)))
  have Z12 : n0 ≤ h8.size := Nat.le_trans Z6 (Keep.of_wr W8).1
  have K13 := K7.wr W8 (Or.inl (List.mem_of_getElem? (i := 0) rfl))
  refine Go.movp st8 (mkF m 45 #[.val (.ref a), .val (.int lo), .val (.int hi)] []) rfl ?_
  exact g_return X8 hx hret (hb hby d3_45) N8 hlk (fun v t => endF (by decide) (by decide) v) (by rw [e8]; exact ⟨rfl, K13, f10, f11, f9⟩)
theorem d5_0 : decode prog_117_method_6_code 0 = .ok (.aload_n 1, 1) := by decide +kernel
theorem d5_1 : decode prog_117_method_6_code 1 = .ok (.instanceof 19, 3) := by decide +kernel
theorem d5_4 : decode prog_117_method_6_code 4 = .ok (.ifCond .eq 35, 3) := by decide +kernel
theorem d5_7 : decode prog_117_method_6_code 7 = .ok (.aload_n 1, 1) := by decide +kernel
theorem d5_8 : decode prog_117_method_6_code 8 = .ok (.checkcast 19, 3) := by decide +kernel
theorem d5_11 : decode prog_117_method_6_code 11 = .ok (.getfield 18, 3) := by decide +kernel
theorem d5_14 : decode prog_117_method_6_code 14 = .ok (.aload_n 0, 1) := by decide +kernel
theorem d5_15 : decode prog_117_method_6_code 15 = .ok (.getfield 18, 3) := by decide +kernel
theorem d5_18 : decode prog_117_method_6_code 18 = .ok (.if_icmp .ne 21, 3) := by decide +kernel
theorem d5_21 : decode prog_117_method_6_code 21 = .ok (.aload_n 1, 1) := by decide +kernel
theorem d5_22 : decode prog_117_method_6_code 22 = .ok (.checkcast 19, 3) := by decide +kernel
theorem d5_25 : decode prog_117_method_6_code 25 = .ok (.getfield 24, 3) := by decide +kernel
theorem d5_28 : decode prog_117_method_6_code 28 = .ok (.aload_n 0, 1) := by decide +kernel
theorem d5_29 : decode prog_117_method_6_code 29 = .ok (.getfield 24, 3) := by decide +kernel
theorem d5_32 : decode prog_117_method_6_code 32 = .ok (.if_icmp .ne 7, 3) := by decide +kernel
theorem d5_35 : decode prog_117_method_6_code 35 = .ok (.iconst 1, 1) := by decide +kernel
theorem d5_36 : decode prog_117_method_6_code 36 = .ok (.goto 4, 3) := by decide +kernel
theorem d5_39 : decode prog_117_method_6_code 39 = .ok (.iconst 0, 1) := by decide +kernel
theorem d5_40 : decode prog_117_method_6_code 40 = .ok (.ireturn, 1) := by decide +kernel
theorem ef_5a (x0 : Addr) (x1 : Addr) (m : MethodId) : entryFrame m #[(.ref x0), (.ref x1)] 2 = mkF m 0 #[.val (.ref x0), .val (.ref x1)] [] := by first | (simp [entryFrame, mkF, argsToLocals, Value.category]; done) | rfl
def Q5a (Z : State) (a : Addr) (b : Addr) (lo : Int32) (hi : Int32) (lo2 : Int32) (hi2 : Int32) (h0 : Heap) (n0 : Nat) : Option Value → Heap → Prop := fun v h => v = some (.int (eqV lo hi lo2 hi2)) ∧ h0 = h
set_option maxRecDepth 65536 in
set_option maxHeartbeats 40000000 in
theorem rm5a (l : Launch) (Z : State) (a0 : Array Value) (hw : ∀ d ∈ tables_1, d.before a0 Z = true) (a : Addr) (b : Addr) (lo : Int32) (hi : Int32) (lo2 : Int32) (hi2 : Int32) (h0 : Heap) (n0 : Nat) (Z0 : n0 ≤ h0.size) (F1 : Fld Z h0 a "com/example/stream_log_client/streamlogclient/protocol/VersionRange" "min" "I" (.int lo)) (F2 : Fld Z h0 a "com/example/stream_log_client/streamlogclient/protocol/VersionRange" "max" "I" (.int hi)) (F3 : Fld Z h0 b "com/example/stream_log_client/streamlogclient/protocol/VersionRange" "min" "I" (.int lo2)) (F4 : Fld Z h0 b "com/example/stream_log_client/streamlogclient/protocol/VersionRange" "max" "I" (.int hi2)) (E2 : Exa Z h0 b "com/example/stream_log_client/streamlogclient/protocol/VersionRange") : Ctr l Z (⟨"com/example/stream_log_client/streamlogclient/protocol/VersionRange", "equals", "(Ljava/lang/Object;)Z"⟩ : MethodName) prog_117_method_6_code 2 (some .boolean) ({ frames := 0, cells := 0, slots := 0, locals := 0 } : Room) #[(.ref a), (.ref b)] h0 n0 (Q5a Z a b lo hi lo2 hi2 h0 n0) := by
  refine Ctr.of (plainFor_of_name pn_3) (ef_5a a b) ?_
  intro p e s m below meth c T0 hx hby hml hown hnm hret hlk hZ X0 e0
  have N0 := Fr.nil n0
  refine g_aloadN X0 hx (hb hby d5_0) (pc' := 1) rfl rfl rfl ?_
  obtain ⟨T14, X14, e14, st14⟩ := instY X0 hx hZ hown (hw _ (List.mem_of_getElem? (i := 25) rfl)) e0 (Ins.self E2) (g := (mkF m 1 #[.val (.ref a), .val (.ref b)] [(.ref b)])) rfl rfl (hb hby d5_1)
  refine Go.movp st14 (mkF m 4 #[.val (.ref a), .val (.ref b)] [(.int (1 : Int32))]) rfl ?_
  refine g_if_eq X14 hx (hb hby d5_4) (pc1 := 7) rfl (by decide) (pc2 := 39) (by decide) (fun hc4 => absurd hc4 (by decide)) (fun hc4 => ?_)
  refine g_aloadN X14 hx (hb hby d5_7) (pc' := 8) rfl rfl rfl ?_
  obtain ⟨T15, X15, e15, st15⟩ := castY X14 hx hZ hown (hw _ (List.mem_of_getElem? (i := 25) rfl)) e14 (Ins.self E2) (g := (mkF m 8 #[.val (.ref a), .val (.ref b)] [(.ref b)])) rfl rfl (hb hby d5_8)
  refine Go.movp st15 (mkF m 11 #[.val (.ref a), .val (.ref b)] [(.ref b)]) rfl ?_
  obtain ⟨T16, X16, e16, st16⟩ := getF X15 hx hZ hown (host := "") (Or.inl (hw _ (List.mem_of_getElem? (i := 16) rfl))) Via.refl e15 F3 (g := (mkF m 11 #[.val (.ref a), .val (.ref b)] [(.ref b)])) rfl rfl (hb hby d5_11)
  refine Go.movp st16 (mkF m 14 #[.val (.ref a), .val (.ref b)] [(.int lo2)]) rfl ?_
  refine g_aloadN X16 hx (hb hby d5_14) (pc' := 15) rfl rfl rfl ?_
  obtain ⟨T17, X17, e17, st17⟩ := getF X16 hx hZ hown (host := "") (Or.inl (hw _ (List.mem_of_getElem? (i := 16) rfl))) Via.refl e16 F1 (g := (mkF m 15 #[.val (.ref a), .val (.ref b)] [(.ref a), (.int lo2)])) rfl rfl (hb hby d5_15)
  refine Go.movp st17 (mkF m 18 #[.val (.ref a), .val (.ref b)] [(.int lo), (.int lo2)]) rfl ?_
  refine g_icmp_ne X17 hx (hb hby d5_18) (pc1 := 21) rfl (by decide) (pc2 := 39) (by decide) (fun hc18 => ?_) (fun hc18 => ?_)
  · skip
    refine g_iconst X17 hx (hb hby d5_39) (pc' := 40) rfl (z := (0 : Int32)) rfl ?_
    exact g_zreturn X17 hx rfl hret (hb hby d5_40) N0 hlk (fun v t => endF (by decide) (by decide) v) (by rw [e17]; exact ⟨by rw [eqV, if_neg (fun q => hc18 q.1.symm)], rfl⟩)
  · skip
    refine g_aloadN X17 hx (hb hby d5_21) (pc' := 22) rfl rfl rfl ?_
    obtain ⟨T18, X18, e18, st18⟩ := castY X17 hx hZ hown (hw _ (List.mem_of_getElem? (i := 25) rfl)) e17 (Ins.self E2) (g := (mkF m 22 #[.val (.ref a), .val (.ref b)] [(.ref b)])) rfl rfl (hb hby d5_22)
    refine Go.movp st18 (mkF m 25 #[.val (.ref a), .val (.ref b)] [(.ref b)]) rfl ?_
    obtain ⟨T19, X19, e19, st19⟩ := getF X18 hx hZ hown (host := "") (Or.inl (hw _ (List.mem_of_getElem? (i := 18) rfl))) Via.refl e18 F4 (g := (mkF m 25 #[.val (.ref a), .val (.ref b)] [(.ref b)])) rfl rfl (hb hby d5_25)
    refine Go.movp st19 (mkF m 28 #[.val (.ref a), .val (.ref b)] [(.int hi2)]) rfl ?_
    refine g_aloadN X19 hx (hb hby d5_28) (pc' := 29) rfl rfl rfl ?_
    obtain ⟨T20, X20, e20, st20⟩ := getF X19 hx hZ hown (host := "") (Or.inl (hw _ (List.mem_of_getElem? (i := 18) rfl))) Via.refl e19 F2 (g := (mkF m 29 #[.val (.ref a), .val (.ref b)] [(.ref a), (.int hi2)])) rfl rfl (hb hby d5_29)
    refine Go.movp st20 (mkF m 32 #[.val (.ref a), .val (.ref b)] [(.int hi), (.int hi2)]) rfl ?_
    refine g_icmp_ne X20 hx (hb hby d5_32) (pc1 := 35) rfl (by decide) (pc2 := 39) (by decide) (fun hc32 => ?_) (fun hc32 => ?_)
    · skip
      refine g_iconst X20 hx (hb hby d5_39) (pc' := 40) rfl (z := (0 : Int32)) rfl ?_
      exact g_zreturn X20 hx rfl hret (hb hby d5_40) N0 hlk (fun v t => endF (by decide) (by decide) v) (by rw [e20]; exact ⟨by rw [eqV, if_neg (fun q => hc32 q.2.symm)], rfl⟩)
    · skip
      refine g_iconst X20 hx (hb hby d5_35) (pc' := 36) rfl (z := (1 : Int32)) rfl ?_
      refine g_goto X20 hx (hb hby d5_36) (by decide) (pc' := 40) (by decide) ?_
      exact g_zreturn X20 hx rfl hret (hb hby d5_40) N0 hlk (fun v t => endF (by decide) (by decide) v) (by rw [e20]; exact ⟨by rw [eqV, if_pos ⟨hc18.symm, hc32.symm⟩], rfl⟩)
theorem ef_5b (x0 : Addr) (m : MethodId) : entryFrame m #[(.ref x0), .null] 2 = mkF m 0 #[.val (.ref x0), .val .null] [] := by first | (simp [entryFrame, mkF, argsToLocals, Value.category]; done) | rfl
def Q5b (Z : State) (a : Addr) (h0 : Heap) (n0 : Nat) : Option Value → Heap → Prop := fun v h => v = some (.int 0) ∧ h0 = h
set_option maxRecDepth 65536 in
set_option maxHeartbeats 40000000 in
theorem rm5b (l : Launch) (Z : State) (a0 : Array Value) (hw : ∀ d ∈ tables_1, d.before a0 Z = true) (a : Addr) (h0 : Heap) (n0 : Nat) (Z0 : n0 ≤ h0.size) : Ctr l Z (⟨"com/example/stream_log_client/streamlogclient/protocol/VersionRange", "equals", "(Ljava/lang/Object;)Z"⟩ : MethodName) prog_117_method_6_code 2 (some .boolean) ({ frames := 0, cells := 0, slots := 0, locals := 0 } : Room) #[(.ref a), .null] h0 n0 (Q5b Z a h0 n0) := by
  refine Ctr.of (plainFor_of_name pn_3) (ef_5b a) ?_
  intro p e s m below meth c T0 hx hby hml hown hnm hret hlk hZ X0 e0
  have N0 := Fr.nil n0
  refine g_aloadN X0 hx (hb hby d5_0) (pc' := 1) rfl rfl rfl ?_
  refine Go.mov (X0.instanceofNull hx (g := (mkF m 1 #[.val (.ref a), .val .null] [.null])) rfl rfl (hb hby d5_1)) ?_
  show Go p e below (EndF s ({ frames := 0, cells := 0, slots := 0, locals := 0 } : Room).cells ({ frames := 0, cells := 0, slots := 0, locals := 0 } : Room).slots) n0 (Q5b Z a h0 n0) T0 (mkF m 4 #[.val (.ref a), .val .null] [(.int (0 : Int32))])
  refine g_if_eq X0 hx (hb hby d5_4) (pc1 := 7) rfl (by decide) (pc2 := 39) (by decide) (fun hc4 => ?_) (fun hc4 => absurd rfl hc4)
  refine g_iconst X0 hx (hb hby d5_39) (pc' := 40) rfl (z := (0 : Int32)) rfl ?_
  exact g_zreturn X0 hx rfl hret (hb hby d5_40) N0 hlk (fun v t => endF (by decide) (by decide) v) (by rw [e0]; exact ⟨rfl, rfl⟩)
theorem ef_5c (x0 : Addr) (x1 : Addr) (m : MethodId) : entryFrame m #[(.ref x0), (.ref x1)] 2 = mkF m 0 #[.val (.ref x0), .val (.ref x1)] [] := by first | (simp [entryFrame, mkF, argsToLocals, Value.category]; done) | rfl
def Q5c (Z : State) (a : Addr) (b : Addr) (h0 : Heap) (n0 : Nat) : Option Value → Heap → Prop := fun v h => v = some (.int 0) ∧ h0 = h
set_option maxRecDepth 65536 in
set_option maxHeartbeats 40000000 in
theorem rm5c (l : Launch) (Z : State) (a0 : Array Value) (hw : ∀ d ∈ tables_1, d.before a0 Z = true) (a : Addr) (b : Addr) (h0 : Heap) (n0 : Nat) (Z0 : n0 ≤ h0.size) (E2 : Exa Z h0 b "java/lang/Integer") : Ctr l Z (⟨"com/example/stream_log_client/streamlogclient/protocol/VersionRange", "equals", "(Ljava/lang/Object;)Z"⟩ : MethodName) prog_117_method_6_code 2 (some .boolean) ({ frames := 0, cells := 0, slots := 0, locals := 0 } : Room) #[(.ref a), (.ref b)] h0 n0 (Q5c Z a b h0 n0) := by
  refine Ctr.of (plainFor_of_name pn_3) (ef_5c a b) ?_
  intro p e s m below meth c T0 hx hby hml hown hnm hret hlk hZ X0 e0
  have N0 := Fr.nil n0
  refine g_aloadN X0 hx (hb hby d5_0) (pc' := 1) rfl rfl rfl ?_
  obtain ⟨T22, X22, e22, st22⟩ := instNo X0 hx hZ hown (hw _ (List.mem_of_getElem? (i := 25) rfl)) e0 E2 (no_inst (hw _ (List.mem_of_getElem? (i := 34) rfl)) (hw _ (List.mem_of_getElem? (i := 35) rfl)) (hw _ (List.mem_of_getElem? (i := 36) rfl)) (hw _ (List.mem_of_getElem? (i := 8) rfl)) (by decide) (by decide) (by decide)) (g := (mkF m 1 #[.val (.ref a), .val (.ref b)] [(.ref b)])) rfl rfl (hb hby d5_1)
  refine Go.movp st22 (mkF m 4 #[.val (.ref a), .val (.ref b)] [(.int (0 : Int32))]) rfl ?_
  refine g_if_eq X22 hx (hb hby d5_4) (pc1 := 7) rfl (by decide) (pc2 := 39) (by decide) (fun hc4 => ?_) (fun hc4 => absurd rfl hc4)
  refine g_iconst X22 hx (hb hby d5_39) (pc' := 40) rfl (z := (0 : Int32)) rfl ?_
  exact g_zreturn X22 hx rfl hret (hb hby d5_40) N0 hlk (fun v t => endF (by decide) (by decide) v) (by rw [e22]; exact ⟨rfl, rfl⟩)
theorem d8_0 : decode jdk_18_method_1_code 0 = .ok (.aload_n 0, 1) := by decide +kernel
theorem d8_1 : decode jdk_18_method_1_code 1 = .ok (.invokespecial 1, 3) := by decide +kernel
theorem d8_4 : decode jdk_18_method_1_code 4 = .ok (.return_, 1) := by decide +kernel
theorem pn_8 : plainName "java/lang/Number" = true := by first | (simp [plainName, overriddenIn]; done) | decide +kernel
theorem ef_8 (x0 : Addr) (m : MethodId) : entryFrame m #[(.ref x0)] 1 = mkF m 0 #[.val (.ref x0)] [] := by first | (simp [entryFrame, mkF, argsToLocals, Value.category]; done) | rfl
def Q8 (Z : State) (a : Addr) (h0 : Heap) (n0 : Nat) : Option Value → Heap → Prop := fun v h => v = none ∧ h0 = h
set_option maxRecDepth 65536 in
set_option maxHeartbeats 40000000 in
theorem rm8 (l : Launch) (Z : State) (a0 : Array Value) (hw : ∀ d ∈ tables_1, d.before a0 Z = true) (a : Addr) (h0 : Heap) (n0 : Nat) (Z0 : n0 ≤ h0.size) : Ctr l Z (⟨"java/lang/Number", "<init>", "()V"⟩ : MethodName) jdk_18_method_1_code 1 none ({ frames := 1, cells := 0, slots := 0, locals := 12 } : Room) #[(.ref a)] h0 n0 (Q8 Z a h0 n0) := by
  refine Ctr.of (plainFor_of_name pn_8) (ef_8 a) ?_
  intro p e s m below meth c T0 hx hby hml hown hnm hret hlk hZ X0 e0
  have N0 := Fr.nil n0
  refine g_aloadN X0 hx (hb hby d8_0) (pc' := 1) rfl rfl rfl ?_
  obtain ⟨T23, X23, e23, st23⟩ := initO X0 hx hZ hown (hw _ (List.mem_of_getElem? (i := 50) rfl)) (hw _ (List.mem_of_getElem? (i := 14) rfl)) (hw _ (List.mem_of_getElem? (i := 15) rfl)) e0 (g := (mkF m 1 #[.val (.ref a)] [(.ref a)])) rfl (by rw [hml]; rfl) rfl (hb hby d8_1) (by decide) (W := 0) (by show 2 * 0 + _ ≤ _; exact Nat.le_of_eq rfl) (by decide)
  refine Go.movp st23 (mkF m 4 #[.val (.ref a)] []) rfl ?_
  exact g_return X23 hx hret (hb hby d8_4) N0 hlk (fun v t => endF (by decide) (by decide) v) (by rw [e23]; exact ⟨rfl, rfl⟩)
theorem pd___V : parseMethodDescriptor "()V" = some ⟨[], none⟩ := by decide +kernel
theorem d7_0 : decode jdk_33_method_23_code 0 = .ok (.aload_n 0, 1) := by decide +kernel
theorem d7_1 : decode jdk_33_method_23_code 1 = .ok (.invokespecial 202, 3) := by decide +kernel
theorem d7_4 : decode jdk_33_method_23_code 4 = .ok (.aload_n 0, 1) := by decide +kernel
theorem d7_5 : decode jdk_33_method_23_code 5 = .ok (.iload_n 1, 1) := by decide +kernel
theorem d7_6 : decode jdk_33_method_23_code 6 = .ok (.putfield 205, 3) := by decide +kernel
theorem d7_9 : decode jdk_33_method_23_code 9 = .ok (.return_, 1) := by decide +kernel
theorem pn_7 : plainName "java/lang/Integer" = true := by first | (simp [plainName, overriddenIn]; done) | decide +kernel
theorem ef_7 (x0 : Addr) (x1 : Int32) (m : MethodId) : entryFrame m #[(.ref x0), (.int x1)] 2 = mkF m 0 #[.val (.ref x0), .val (.int x1)] [] := by first | (simp [entryFrame, mkF, argsToLocals, Value.category]; done) | rfl
def Q7 (Z : State) (a : Addr) (i : Int32) (h0 : Heap) (n0 : Nat) : Option Value → Heap → Prop := fun v h => v = none ∧ Keep h0 h [a] ∧ Exa Z h a "java/lang/Integer"
set_option maxRecDepth 65536 in
set_option maxHeartbeats 40000000 in
theorem rm7 (l : Launch) (Z : State) (a0 : Array Value) (hw : ∀ d ∈ tables_1, d.before a0 Z = true) (a : Addr) (i : Int32) (h0 : Heap) (n0 : Nat) (Z0 : n0 ≤ h0.size) (F1 : Fld Z h0 a "java/lang/Integer" "value" "I" (.int (0 : Int32))) (E1 : Exa Z h0 a "java/lang/Integer") (G1 : n0 ≤ a) : Ctr l Z (⟨"java/lang/Integer", "<init>", "(I)V"⟩ : MethodName) jdk_33_method_23_code 2 none ({ frames := 2, cells := 0, slots := 0, locals := 24 } : Room) #[(.ref a), (.int i)] h0 n0 (Q7 Z a i h0 n0) := by
  refine Ctr.of (plainFor_of_name pn_7) (ef_7 a i) ?_
  intro p e s m below meth c T0 hx hby hml hown hnm hret hlk hZ X0 e0
  have N0 := Fr.nil n0
  refine g_aloadN X0 hx (hb hby d7_0) (pc' := 1) rfl rfl rfl ?_
  obtain ⟨v24, T24, h24, L24, X24, e24, N24, q24, st24⟩ := h_special (a := a) X0 hx (W := 0) (Ls := #[.val (.ref a), .val (.int i)]) (argsL := []) (rest := []) hZ e0 N0 hml hown rfl (rm8 l Z a0 hw a h0 n0 Z0) (hw _ (List.mem_of_getElem? (i := 44) rfl)) (hw _ (List.mem_of_getElem? (i := 45) rfl)) (hw _ (List.mem_of_getElem? (i := 48) rfl)) (hw _ (List.mem_of_getElem? (i := 49) rfl)) (by decide) pd___V rfl rfl (hb hby d7_1) rfl (by decide) (by decide) (by decide) (by decide)
  obtain ⟨rfl, rfl⟩ := q24
  refine Go.movp st24 (mkF m 4 #[.val (.ref a), .val (.int i)] []) rfl ?_
  refine g_aloadN X24 hx (hb hby d7_4) (pc' := 5) rfl rfl rfl ?_
  refine g_iloadN X24 hx (hb hby d7_5) (pc' := 6) rfl rfl ?_
  obtain ⟨T25, h25, X25, e25, W25, st25⟩ := putF X24 hx hZ hown (host := "") (Or.inl (hw _ (List.mem_of_getElem? (i := 51) rfl))) Via.refl e24 F1 E1 (Or.inr ⟨(hw _ (List.mem_of_getElem? (i := 52) rfl)), rfl, hnm⟩) (hw _ (List.mem_of_getElem? (i := 39) rfl)) (ty := .int) (by decide) rfl rfl (g := (mkF m 6 #[.val (.ref a), .val (.int i)] [(.int i), (.ref a)])) rfl rfl (hb hby d7_6)
  have f26 : Fld Z h25 a "java/lang/Integer" "value" "I" (.int i) := Fld.same W25 F1
  have N25 := Fr.snoc X25 N24 G1
  have f27 := Exa.wr W25 E1
  have Z28 : n0 ≤ h25.size := Nat.le_trans Z0 (Keep.of_wr W25).1
  have K29 := (Keep.refl h0 [a]).wr W25 (Or.inl (List.mem_of_getElem? (i := 0) rfl))
  refine Go.movp st25 (mkF m 9 #[.val (.ref a), .val (.int i)] []) rfl ?_
  exact g_return X25 hx hret (hb hby d7_9) N25 hlk (fun v t => endF (by decide) (by decide) v) (by rw [e25]; exact ⟨rfl, K29, f27⟩)
/-- the cache of small Integers, as the law finds it -/
def Cache (Z : State) (h : Heap) (ca : Addr) : Prop := ∃ cl : Cell, Arr Z h ca cl (.object "java/lang/Integer") ∧ cl.slots.size = 256 ∧ ∀ j : Int32, ¬ j < 0 → j.toNatClampNeg < 256 → ∃ r, cl.slots[j.toNatClampNeg]? = some (.ref r) ∧ Exa Z h r "java/lang/Integer"
theorem own_idx {i : Int32} (h1 : ¬ i < 0) (h2 : ¬ (127 : Int32) < i) : ¬ i + 128 < 0 ∧ (i + 128).toNatClampNeg < 256 := by
  have e := c_iadd i 128
  have r := rng32 (i + 128)
  have e1 : (128 : Int32).toInt = 128 := rfl
  have e2 : (127 : Int32).toInt = 127 := rfl
  have e0 : (0 : Int32).toInt = 0 := rfl
  rw [Int32.lt_iff_toInt_lt] at h1 h2 ⊢
  refine ⟨by omega, ?_⟩
  simp only [Int32.toNatClampNeg]; omega
theorem pd__I_V : parseMethodDescriptor "(I)V" = some ⟨[.int], none⟩ := by decide +kernel
theorem d6_0 : decode jdk_33_method_22_code 0 = .ok (.iload_n 0, 1) := by decide +kernel
theorem d6_1 : decode jdk_33_method_22_code 1 = .ok (.bipush (-128), 2) := by decide +kernel
theorem d6_3 : decode jdk_33_method_22_code 3 = .ok (.if_icmp .lt 20, 3) := by decide +kernel
theorem d6_6 : decode jdk_33_method_22_code 6 = .ok (.iload_n 0, 1) := by decide +kernel
theorem d6_7 : decode jdk_33_method_22_code 7 = .ok (.getstatic 191, 3) := by decide +kernel
theorem d6_10 : decode jdk_33_method_22_code 10 = .ok (.if_icmp .gt 13, 3) := by decide +kernel
theorem d6_13 : decode jdk_33_method_22_code 13 = .ok (.getstatic 195, 3) := by decide +kernel
theorem d6_16 : decode jdk_33_method_22_code 16 = .ok (.iload_n 0, 1) := by decide +kernel
theorem d6_17 : decode jdk_33_method_22_code 17 = .ok (.sipush 128, 3) := by decide +kernel
theorem d6_20 : decode jdk_33_method_22_code 20 = .ok (.iadd, 1) := by decide +kernel
theorem d6_21 : decode jdk_33_method_22_code 21 = .ok (.aaload, 1) := by decide +kernel
theorem d6_22 : decode jdk_33_method_22_code 22 = .ok (.areturn, 1) := by decide +kernel
theorem d6_23 : decode jdk_33_method_22_code 23 = .ok (.new 1, 3) := by decide +kernel
theorem d6_26 : decode jdk_33_method_22_code 26 = .ok (.dup, 1) := by decide +kernel
theorem d6_27 : decode jdk_33_method_22_code 27 = .ok (.iload_n 0, 1) := by decide +kernel
theorem d6_28 : decode jdk_33_method_22_code 28 = .ok (.invokespecial 199, 3) := by decide +kernel
theorem d6_31 : decode jdk_33_method_22_code 31 = .ok (.areturn, 1) := by decide +kernel
theorem ef_6 (x0 : Int32) (m : MethodId) : entryFrame m #[(.int x0)] 1 = mkF m 0 #[.val (.int x0)] [] := by first | (simp [entryFrame, mkF, argsToLocals, Value.category]; done) | rfl
def Q6 (Z : State) (i : Int32) (ca : Addr) (h0 : Heap) (n0 : Nat) : Option Value → Heap → Prop := fun v h => ∃ r, v = some (.ref r) ∧ Keep h0 h [] ∧ Exa Z h r "java/lang/Integer"
set_option maxRecDepth 65536 in
set_option maxHeartbeats 40000000 in
theorem rm6 (l : Launch) (Z : State) (a0 : Array Value) (hw : ∀ d ∈ tables_1, d.before a0 Z = true) (i : Int32) (ca : Addr) (h0 : Heap) (n0 : Nat) (Z0 : n0 ≤ h0.size) (S1 : Sta Z h0 "java/lang/Integer$IntegerCache" "high" "I" (.int (127 : Int32))) (S2 : Sta Z h0 "java/lang/Integer$IntegerCache" "cache" "[Ljava/lang/Integer;" (.ref ca)) (CA : Cache Z h0 ca) (k1 : ¬ i < 0) : Ctr l Z (⟨"java/lang/Integer", "valueOf", "(I)Ljava/lang/Integer;"⟩ : MethodName) jdk_33_method_22_code 1 (some (.object "java/lang/Integer")) ({ frames := 3, cells := 1, slots := 1, locals := 38 } : Room) #[(.int i)] h0 n0 (Q6 Z i ca h0 n0) := by
  refine Ctr.of (plainFor_of_name pn_7) (ef_6 i) ?_
  intro p e s m below meth c T0 hx hby hml hown hnm hret hlk hZ X0 e0
  have N0 := Fr.nil n0
  refine g_iloadN X0 hx (hb hby d6_0) (pc' := 1) rfl rfl ?_
  refine g_bipush X0 hx (hb hby d6_1) (pc' := 3) rfl (z := (-128 : Int32)) rfl ?_
  refine g_icmp_lt X0 hx (hb hby d6_3) (pc1 := 6) rfl (by decide) (pc2 := 23) (by decide) (fun hc3 => absurd hc3 (le_tr (show ¬ (0 : Int32) < -128 by decide) k1)) (fun hc3 => ?_)
  refine g_iloadN X0 hx (hb hby d6_6) (pc' := 7) rfl rfl ?_
  obtain ⟨T30, X30, e30, st30⟩ := getS2 X0 hx hZ hown (host := "") (Or.inl (hw _ (List.mem_of_getElem? (i := 31) rfl))) Via.refl e0 S1 (g := (mkF m 7 #[.val (.int i)] [(.int i)])) rfl (hb hby d6_7)
  refine Go.movp st30 (mkF m 10 #[.val (.int i)] [(.int (127 : Int32)), (.int i)]) rfl ?_
  refine g_icmp_gt X30 hx (hb hby d6_10) (pc1 := 13) rfl (by decide) (pc2 := 23) (by decide) (fun hc10 => ?_) (fun hc10 => ?_)
  · skip
    obtain ⟨T31, h31, X31, e31, E31, A31, D31, -, st31⟩ := newO X30 hx hZ hown (hw _ (List.mem_of_getElem? (i := 38) rfl)) (hw _ (List.mem_of_getElem? (i := 39) rfl)) (hw _ (List.mem_of_getElem? (i := 29) rfl)) e30 (g := (mkF m 23 #[.val (.int i)] [])) rfl (hb hby d6_23) (by decide) (by decide)
    obtain ⟨b31, g31⟩ : ∃ z, z = h0.size := ⟨_, rfl⟩
    rw [← g31] at A31 D31 st31
    have ge32 : n0 ≤ b31 := g31 ▸ Z0
    have sz33 : h0.size ≤ b31 := g31 ▸ (Keep.refl h0 []).1
    have f34 := Sta.ext E31 S1
    have f35 := Sta.ext E31 S2
    have Z36 : n0 ≤ h31.size := Nat.le_trans Z0 E31.1
    have K37 := (Keep.refl h0 []).ext E31
    have f38 : Fld Z h31 b31 "java/lang/Integer" "value" "I" (.int (0 : Int32)) := D31 (Or.inr (hw _ (List.mem_of_getElem? (i := 52) rfl))) (ty := .int) (by decide)
    refine Go.movp st31 (mkF m 26 #[.val (.int i)] [(.ref b31)]) rfl ?_
    refine g_dup X31 hx (hb hby d6_26) (pc' := 27) rfl rfl ?_
    refine g_iloadN X31 hx (hb hby d6_27) (pc' := 28) rfl rfl ?_
    obtain ⟨v39, T39, h39, L39, X39, e39, N39, q39, st39⟩ := h_special (a := b31) X31 hx (W := 1) (Ls := #[.val (.int i)]) (argsL := [(.int i)]) (rest := [(.ref b31)]) hZ e31 N0 hml hown rfl (rm7 l Z a0 hw b31 i h31 n0 Z36 f38 A31 ge32) (hw _ (List.mem_of_getElem? (i := 40) rfl)) (hw _ (List.mem_of_getElem? (i := 41) rfl)) (hw _ (List.mem_of_getElem? (i := 29) rfl)) (hw _ (List.mem_of_getElem? (i := 43) rfl)) (by decide) pd__I_V rfl rfl (hb hby d6_28) rfl (by decide) (by decide) (by decide) (by decide)
    obtain ⟨rfl, K39, A39⟩ := q39
    have f40 := A31.keep K39
    have Z41 : n0 ≤ h39.size := Nat.le_trans Z36 K39.1
    have K42 := K37.trans K39 (allS (Or.inr sz33) all0)
    refine Go.movp st39 (mkF m 31 #[.val (.int i)] [(.ref b31)]) rfl ?_
    exact g_areturn X39 hx rfl rfl hret (hb hby d6_31) N39 hlk (fun v t => endF (by decide) (by decide) v) (by rw [e39]; exact ⟨_, rfl, K42, A39⟩)
  · skip
    obtain ⟨T43, X43, e43, st43⟩ := getS2 X30 hx hZ hown (host := "") (Or.inl (hw _ (List.mem_of_getElem? (i := 33) rfl))) Via.refl e30 S2 (g := (mkF m 13 #[.val (.int i)] [])) rfl (hb hby d6_13)
    refine Go.movp st43 (mkF m 16 #[.val (.int i)] [(.ref ca)]) rfl ?_
    refine g_iloadN X43 hx (hb hby d6_16) (pc' := 17) rfl rfl ?_
    refine g_sipush X43 hx (hb hby d6_17) (pc' := 20) rfl (z := (128 : Int32)) rfl ?_
    refine g_iadd X43 hx (hb hby d6_20) (pc' := 21) rfl ?_
    obtain ⟨clc, Ac, sc, at_c⟩ := CA
    obtain ⟨k3, k4⟩ := own_idx k1 hc10
    obtain ⟨r, er, Er⟩ := at_c _ k3 k4
    refine Go.mov (fun t k => X43.aaload hx (by rw [e43]; exact Ac.1) (State.isArrayOf_alike hZ.alike Ac.2.1) rfl Ac.2.2 (by rintro (q | q); exact k3 q; omega) er (g := (mkF m 21 #[.val (.int i)] [(.int (i + (128 : Int32))), (.ref ca)])) rfl rfl (hb hby d6_21) t k) ?_
    show Go p e below (EndF s ({ frames := 3, cells := 1, slots := 1, locals := 38 } : Room).cells ({ frames := 3, cells := 1, slots := 1, locals := 38 } : Room).slots) n0 (Q6 Z i ca h0 n0) T43 (mkF m 22 #[.val (.int i)] [(.ref r)])
    exact g_areturn X43 hx rfl rfl hret (hb hby d6_22) N0 hlk (fun v t => endF (by decide) (by decide) v) (by rw [e43]; exact ⟨_, rfl, (Keep.refl h0 []), Er⟩)
theorem pd__II_I : parseMethodDescriptor "(II)I" = some ⟨[.int, .int], some .int⟩ := by decide +kernel
theorem pd__II_V : parseMethodDescriptor "(II)V" = some ⟨[.int, .int], none⟩ := by decide +kernel
theorem pd__Ljava_lang_Object__Z : parseMethodDescriptor "(Ljava/lang/Object;)Z" = some ⟨[(.object "java/lang/Object")], some .boolean⟩ := by decide +kernel
theorem pd__I_Ljava_lang_Integer_ : parseMethodDescriptor "(I)Ljava/lang/Integer;" = some ⟨[.int], some (.object "java/lang/Integer")⟩ := by decide +kernel
theorem own_cx {Z : State} {h h' : Heap} {ca : Addr} (C : Cache Z h ca) (E : Ext h h') : Cache Z h' ca := by
  obtain ⟨cl, A, s, q⟩ := C
  exact ⟨cl, A.ext E, s, fun j hn hj => by obtain ⟨r, h1, h2⟩ := q j hn hj; exact ⟨r, h1, Exa.ext E h2⟩⟩
theorem own_lenT {t : Term} {s : State} {args : Array Value} {v : Value} {ca : Addr} {cl : Cell} (h : (Term.length t).eval args s none [] s = some v) (ht : t.eval args s none [] s = some (.ref ca)) (hat : s.arrayAt? ca = some cl) : cl.slots.size < 2 ^ 31 := by
  by_cases q : cl.slots.size < 2 ^ 31
  · exact q
  · have q' : ¬ cl.slots.size < 2147483648 := q
    simp [Term.eval, ht, hat, q'] at h
theorem own_cache {s : State} {a0 : Array Value} (wz : (Jvm.Cond.initialized "java/lang/Integer$IntegerCache").before a0 s = true) (hs : ∀ w ∈ jdkStatics_1, w.before a0 s = true) : ∃ ca, Sta s s.heap "java/lang/Integer$IntegerCache" "high" "I" (.int 127) ∧ Sta s s.heap "java/lang/Integer$IntegerCache" "cache" "[Ljava/lang/Integer;" (.ref ca) ∧ Cache s s.heap ca := by
  have h0 := hs _ (List.mem_of_getElem? (i := 0) rfl)
  have h2 := hs _ (List.mem_of_getElem? (i := 2) rfl)
  have h3 := Cond.before_iff.mp (hs _ (List.mem_of_getElem? (i := 3) rfl))
  have h4 := Cond.before_iff.mp (hs _ (List.mem_of_getElem? (i := 4) rfl))
  have h6 := Cond.before_iff.mp (hs _ (List.mem_of_getElem? (i := 6) rfl))
  have h7 := Cond.before_iff.mp (hs _ (List.mem_of_getElem? (i := 7) rfl))
  have eH := eqv_i (Term.int_eval 127) h3
  obtain ⟨ca, ev⟩ := arr_v h4
  obtain ⟨cl, A⟩ := Arr.start ev h4
  have hat := A.fin (Vm.Alike.refl _)
  have eL := eqv_i (Term.int_eval 256) h6
  have hsz : cl.slots.size = 256 := by
    have q := own_lenT eL ev hat
    have e1 := len_f ev hat q
    have e2 : cl.slots.size.toInt32 = 256 := Value.int.inj (Option.some.inj (e1.symm.trans eL))
    have e3 := len_toInt q
    rw [e2] at e3
    have e4 : (256 : Int32).toInt = 256 := rfl
    omega
  refine ⟨ca, Sta.start eH (Or.inr ⟨wz, h0⟩), Sta.start ev (Or.inr ⟨wz, h2⟩), cl, A, hsz, fun j hn hj => ?_⟩
  obtain ⟨u1, u2⟩ := and_e (Cond.all_elim ev hat h7 j.toNatClampNeg (by rw [hsz]; exact hj))
  obtain ⟨box, eb⟩ := exa_v u1
  have evi : (Term.static "java/lang/Integer$IntegerCache" "cache" "[Ljava/lang/Integer;").eval a0 s none [j.toNatClampNeg] s = some (.ref ca) := ev
  exact ⟨box, (elem_f evi (idx_at hn) hat hn).symm.trans eb, exa_at eb u1⟩
theorem pn_0 : plainName "com/example/stream_log_client/streamlogclient/protocol/VersionRangeEqualsPinLaw" = true := by first | (simp [plainName, overriddenIn]; done) | decide +kernel
theorem ef_0 (x0 : Int32) (x1 : Int32) (x2 : Int32) (x3 : Int32) (x4 : Int32) (m : MethodId) : entryFrame m #[(.int x0), (.int x1), (.int x2), (.int x3), (.int x4)] maxLocals = mkF m 0 #[.val (.int x0), .val (.int x1), .val (.int x2), .val (.int x3), .val (.int x4), .unset, .unset, .unset, .unset, .unset, .unset, .unset, .unset, .unset, .unset, .unset, .unset, .unset, .unset] [] := by first | (simp [entryFrame, mkF, argsToLocals, Value.category, maxLocals]; done) | rfl
def Q0 (Z : State) (p0 : Int32) (p1 : Int32) (p2 : Int32) (p3 : Int32) (p4 : Int32) (ca : Addr) (h0 : Heap) (n0 : Nat) : Option Value → Heap → Prop := fun v h => v = some (.int 1)
set_option maxRecDepth 65536 in
set_option maxHeartbeats 40000000 in
theorem rm0 (l : Launch) (Z : State) (a0 : Array Value) (hw : ∀ d ∈ tables_1, d.before a0 Z = true) (p0 : Int32) (p1 : Int32) (p2 : Int32) (p3 : Int32) (p4 : Int32) (ca : Addr) (h0 : Heap) (n0 : Nat) (Z0 : n0 ≤ h0.size) (S1 : Sta Z Z.heap "java/lang/Integer$IntegerCache" "high" "I" (.int (127 : Int32))) (S2 : Sta Z Z.heap "java/lang/Integer$IntegerCache" "cache" "[Ljava/lang/Integer;" (.ref ca)) (CA : Cache Z Z.heap ca) (OZ : Old Z n0 h0) : Ctr l Z x code maxLocals ret room_1 #[(.int p0), (.int p1), (.int p2), (.int p3), (.int p4)] h0 n0 (Q0 Z p0 p1 p2 p3 p4 ca h0 n0) := by
  refine Ctr.of (plainFor_of_name pn_0) (ef_0 p0 p1 p2 p3 p4) ?_
  intro p e s m below meth c T0 hx hby hml hown hnm hret hlk hZ X0 e0
  have N0 := Fr.nil n0
  change c.maxLocals = 19 at hml
  change meth.sig.returnType = some .boolean at hret
  refine g_iloadN X0 hx (hb hby at_0) (pc' := 1) rfl rfl ?_
  refine g_sipush X0 hx (hb hby at_1) (pc' := 4) rfl (z := (32767 : Int32)) rfl ?_
  refine g_iand X0 hx (hb hby at_4) (pc' := 5) rfl ?_
  obtain ⟨xx, exx⟩ : ∃ z : Int32, z = (p0 &&& (32767 : Int32)) := ⟨_, rfl⟩
  refine Go.cast (show (mkF m 5 #[.val (.int p0), .val (.int p1), .val (.int p2), .val (.int p3), .val (.int p4), .unset, .unset, .unset, .unset, .unset, .unset, .unset, .unset, .unset, .unset, .unset, .unset, .unset, .unset] [(.int (p0 &&& (32767 : Int32)))]) = (mkF m 5 #[.val (.int p0), .val (.int p1), .val (.int p2), .val (.int p3), .val (.int p4), .unset, .unset, .unset, .unset, .unset, .unset, .unset, .unset, .unset, .unset, .unset, .unset, .unset, .unset] [(.int xx)]) from by rw [exx]) ?_
  refine g_istore X0 hx (hb hby at_5) (pc' := 7) rfl (Ls' := #[.val (.int p0), .val (.int p1), .val (.int p2), .val (.int p3), .val (.int p4), .val (.int xx), .unset, .unset, .unset, .unset, .unset, .unset, .unset, .unset, .unset, .unset, .unset, .unset, .unset]) rfl ?_
  refine g_iloadN X0 hx (hb hby at_7) (pc' := 8) rfl rfl ?_
  refine g_sipush X0 hx (hb hby at_8) (pc' := 11) rfl (z := (32767 : Int32)) rfl ?_
  refine g_iand X0 hx (hb hby at_11) (pc' := 12) rfl ?_
  obtain ⟨yy, eyy⟩ : ∃ z : Int32, z = (p1 &&& (32767 : Int32)) := ⟨_, rfl⟩
  refine Go.cast (show (mkF m 12 #[.val (.int p0), .val (.int p1), .val (.int p2), .val (.int p3), .val (.int p4), .val (.int xx), .unset, .unset, .unset, .unset, .unset, .unset, .unset, .unset, .unset, .unset, .unset, .unset, .unset] [(.int (p1 &&& (32767 : Int32)))]) = (mkF m 12 #[.val (.int p0), .val (.int p1), .val (.int p2), .val (.int p3), .val (.int p4), .val (.int xx), .unset, .unset, .unset, .unset, .unset, .unset, .unset, .unset, .unset, .unset, .unset, .unset, .unset] [(.int yy)]) from by rw [eyy]) ?_
  refine g_istore X0 hx (hb hby at_12) (pc' := 14) rfl (Ls' := #[.val (.int p0), .val (.int p1), .val (.int p2), .val (.int p3), .val (.int p4), .val (.int xx), .val (.int yy), .unset, .unset, .unset, .unset, .unset, .unset, .unset, .unset, .unset, .unset, .unset, .unset]) rfl ?_
  have okx : Ok xx := by rw [exx]; exact ok_mask _
  have oky : Ok yy := by rw [eyy]; exact ok_mask _
  refine g_iload X0 hx (hb hby at_14) (pc' := 16) rfl rfl ?_
  refine g_iload X0 hx (hb hby at_16) (pc' := 18) rfl rfl ?_
  obtain ⟨v44, T44, h44, L44, X44, e44, N44, q44, st44⟩ := h_static X0 hx (W := 0) (Ls := #[.val (.int p0), .val (.int p1), .val (.int p2), .val (.int p3), .val (.int p4), .val (.int xx), .val (.int yy), .unset, .unset, .unset, .unset, .unset, .unset, .unset, .unset, .unset, .unset, .unset, .unset]) (argsL := [(.int xx), (.int yy)]) (rest := []) hZ e0 N0 hml hown (rm1 l Z a0 hw xx yy h0 n0 Z0) (hw _ (List.mem_of_getElem? (i := 0) rfl)) (hw _ (List.mem_of_getElem? (i := 1) rfl)) (hw _ (List.mem_of_getElem? (i := 2) rfl)) (hw _ (List.mem_of_getElem? (i := 3) rfl)) (by decide) pd__II_I rfl rfl (hb hby at_18) rfl (by decide) (by decide) (by decide) (by decide)
  obtain ⟨rfl, rfl⟩ := q44
  refine Go.movp st44 (mkF m 21 #[.val (.int p0), .val (.int p1), .val (.int p2), .val (.int p3), .val (.int p4), .val (.int xx), .val (.int yy), .unset, .unset, .unset, .unset, .unset, .unset, .unset, .unset, .unset, .unset, .unset, .unset] [(.int (minI xx yy))]) rfl ?_
  obtain ⟨lo1, elo1⟩ : ∃ z : Int32, z = (minI xx yy) := ⟨_, rfl⟩
  refine Go.cast (show (mkF m 21 #[.val (.int p0), .val (.int p1), .val (.int p2), .val (.int p3), .val (.int p4), .val (.int xx), .val (.int yy), .unset, .unset, .unset, .unset, .unset, .unset, .unset, .unset, .unset, .unset, .unset, .unset] [(.int (minI xx yy))]) = (mkF m 21 #[.val (.int p0), .val (.int p1), .val (.int p2), .val (.int p3), .val (.int p4), .val (.int xx), .val (.int yy), .unset, .unset, .unset, .unset, .unset, .unset, .unset, .unset, .unset, .unset, .unset, .unset] [(.int lo1)]) from by rw [elo1]) ?_
  refine g_istore X44 hx (hb hby at_21) (pc' := 23) rfl (Ls' := #[.val (.int p0), .val (.int p1), .val (.int p2), .val (.int p3), .val (.int p4), .val (.int xx), .val (.int yy), .val (.int lo1), .unset, .unset, .unset, .unset, .unset, .unset, .unset, .unset, .unset, .unset, .unset]) rfl ?_
  refine g_iload X44 hx (hb hby at_23) (pc' := 25) rfl rfl ?_
  refine g_iload X44 hx (hb hby at_25) (pc' := 27) rfl rfl ?_
  obtain ⟨v45, T45, h45, L45, X45, e45, N45, q45, st45⟩ := h_static X44 hx (W := 0) (Ls := #[.val (.int p0), .val (.int p1), .val (.int p2), .val (.int p3), .val (.int p4), .val (.int xx), .val (.int yy), .val (.int lo1), .unset, .unset, .unset, .unset, .unset, .unset, .unset, .unset, .unset, .unset, .unset]) (argsL := [(.int xx), (.int yy)]) (rest := []) hZ e44 N44 hml hown (rm2 l Z a0 hw xx yy h0 n0 Z0) (hw _ (List.mem_of_getElem? (i := 4) rfl)) (hw _ (List.mem_of_getElem? (i := 5) rfl)) (hw _ (List.mem_of_getElem? (i := 2) rfl)) (hw _ (List.mem_of_getElem? (i := 6) rfl)) (by decide) pd__II_I rfl rfl (hb hby at_27) rfl (by decide) (by decide) (by decide) (by decide)
  obtain ⟨rfl, rfl⟩ := q45
  refine Go.movp st45 (mkF m 30 #[.val (.int p0), .val (.int p1), .val (.int p2), .val (.int p3), .val (.int p4), .val (.int xx), .val (.int yy), .val (.int lo1), .unset, .unset, .unset, .unset, .unset, .unset, .unset, .unset, .unset, .unset, .unset] [(.int (maxI xx yy))]) rfl ?_
  obtain ⟨hi1, ehi1⟩ : ∃ z : Int32, z = (maxI xx yy) := ⟨_, rfl⟩
  refine Go.cast (show (mkF m 30 #[.val (.int p0), .val (.int p1), .val (.int p2), .val (.int p3), .val (.int p4), .val (.int xx), .val (.int yy), .val (.int lo1), .unset, .unset, .unset, .unset, .unset, .unset, .unset, .unset, .unset, .unset, .unset] [(.int (maxI xx yy))]) = (mkF m 30 #[.val (.int p0), .val (.int p1), .val (.int p2), .val (.int p3), .val (.int p4), .val (.int xx), .val (.int yy), .val (.int lo1), .unset, .unset, .unset, .unset, .unset, .unset, .unset, .unset, .unset, .unset, .unset] [(.int hi1)]) from by rw [ehi1]) ?_
  refine g_istore X45 hx (hb hby at_30) (pc' := 32) rfl (Ls' := #[.val (.int p0), .val (.int p1), .val (.int p2), .val (.int p3), .val (.int p4), .val (.int xx), .val (.int yy), .val (.int lo1), .val (.int hi1), .unset, .unset, .unset, .unset, .unset, .unset, .unset, .unset, .unset, .unset]) rfl ?_
  have okl : Ok lo1 := by rw [elo1]; exact ok_min okx oky
  have okh : Ok hi1 := by rw [ehi1]; exact ok_max okx oky
  have lh : ¬ hi1 < lo1 := by rw [elo1, ehi1]; exact min_max _ _
  refine g_iload X45 hx (hb hby at_32) (pc' := 34) rfl rfl ?_
  refine g_iconst X45 hx (hb hby at_34) (pc' := 35) rfl (z := (3 : Int32)) rfl ?_
  refine g_iand X45 hx (hb hby at_35) (pc' := 36) rfl ?_
  obtain ⟨mm, emm⟩ : ∃ z : Int32, z = (p4 &&& (3 : Int32)) := ⟨_, rfl⟩
  refine Go.cast (show (mkF m 36 #[.val (.int p0), .val (.int p1), .val (.int p2), .val (.int p3), .val (.int p4), .val (.int xx), .val (.int yy), .val (.int lo1), .val (.int hi1), .unset, .unset, .unset, .unset, .unset, .unset, .unset, .unset, .unset, .unset] [(.int (p4 &&& (3 : Int32)))]) = (mkF m 36 #[.val (.int p0), .val (.int p1), .val (.int p2), .val (.int p3), .val (.int p4), .val (.int xx), .val (.int yy), .val (.int lo1), .val (.int hi1), .unset, .unset, .unset, .unset, .unset, .unset, .unset, .unset, .unset, .unset] [(.int mm)]) from by rw [emm]) ?_
  refine g_istore X45 hx (hb hby at_36) (pc' := 38) rfl (Ls' := #[.val (.int p0), .val (.int p1), .val (.int p2), .val (.int p3), .val (.int p4), .val (.int xx), .val (.int yy), .val (.int lo1), .val (.int hi1), .val (.int mm), .unset, .unset, .unset, .unset, .unset, .unset, .unset, .unset, .unset]) rfl ?_
  refine g_iload X45 hx (hb hby at_38) (pc' := 40) rfl rfl ?_
  refine g_if_ne X45 hx (hb hby at_40) (pc1 := 43) rfl (by decide) (pc2 := 54) (by decide) (fun hc40 => ?_) (fun hc40 => ?_)
  · skip
    refine g_iload X45 hx (hb hby at_54) (pc' := 56) rfl rfl ?_
    refine g_iconst X45 hx (hb hby at_56) (pc' := 57) rfl (z := (1 : Int32)) rfl ?_
    refine g_icmp_ne X45 hx (hb hby at_57) (pc1 := 60) rfl (by decide) (pc2 := 78) (by decide) (fun hc57 => ?_) (fun hc57 => ?_)
    · skip
      refine g_iload X45 hx (hb hby at_78) (pc' := 80) rfl rfl ?_
      refine g_iconst X45 hx (hb hby at_80) (pc' := 81) rfl (z := (2 : Int32)) rfl ?_
      refine g_icmp_ne X45 hx (hb hby at_81) (pc1 := 84) rfl (by decide) (pc2 := 106) (by decide) (fun hc81 => ?_) (fun hc81 => ?_)
      · skip
        refine g_iloadN X45 hx (hb hby at_106) (pc' := 107) rfl rfl ?_
        refine g_sipush X45 hx (hb hby at_107) (pc' := 110) rfl (z := (32767 : Int32)) rfl ?_
        refine g_iand X45 hx (hb hby at_110) (pc' := 111) rfl ?_
        refine g_istore X45 hx (hb hby at_111) (pc' := 113) rfl (Ls' := #[.val (.int p0), .val (.int p1), .val (.int p2), .val (.int p3), .val (.int p4), .val (.int xx), .val (.int yy), .val (.int lo1), .val (.int hi1), .val (.int mm), .unset, .unset, .val (.int (p2 &&& (32767 : Int32))), .unset, .unset, .unset, .unset, .unset, .unset]) rfl ?_
        refine g_iloadN X45 hx (hb hby at_113) (pc' := 114) rfl rfl ?_
        refine g_sipush X45 hx (hb hby at_114) (pc' := 117) rfl (z := (32767 : Int32)) rfl ?_
        refine g_iand X45 hx (hb hby at_117) (pc' := 118) rfl ?_
        refine g_istore X45 hx (hb hby at_118) (pc' := 120) rfl (Ls' := #[.val (.int p0), .val (.int p1), .val (.int p2), .val (.int p3), .val (.int p4), .val (.int xx), .val (.int yy), .val (.int lo1), .val (.int hi1), .val (.int mm), .unset, .unset, .val (.int (p2 &&& (32767 : Int32))), .val (.int (p3 &&& (32767 : Int32))), .unset, .unset, .unset, .unset, .unset]) rfl ?_
        refine g_iload X45 hx (hb hby at_120) (pc' := 122) rfl rfl ?_
        refine g_iload X45 hx (hb hby at_122) (pc' := 124) rfl rfl ?_
        obtain ⟨v46, T46, h46, L46, X46, e46, N46, q46, st46⟩ := h_static X45 hx (W := 0) (Ls := #[.val (.int p0), .val (.int p1), .val (.int p2), .val (.int p3), .val (.int p4), .val (.int xx), .val (.int yy), .val (.int lo1), .val (.int hi1), .val (.int mm), .unset, .unset, .val (.int (p2 &&& (32767 : Int32))), .val (.int (p3 &&& (32767 : Int32))), .unset, .unset, .unset, .unset, .unset]) (argsL := [(.int (p2 &&& (32767 : Int32))), (.int (p3 &&& (32767 : Int32)))]) (rest := []) hZ e45 N45 hml hown (rm1 l Z a0 hw (p2 &&& (32767 : Int32)) (p3 &&& (32767 : Int32)) h0 n0 Z0) (hw _ (List.mem_of_getElem? (i := 0) rfl)) (hw _ (List.mem_of_getElem? (i := 1) rfl)) (hw _ (List.mem_of_getElem? (i := 2) rfl)) (hw _ (List.mem_of_getElem? (i := 3) rfl)) (by decide) pd__II_I rfl rfl (hb hby at_124) rfl (by decide) (by decide) (by decide) (by decide)
        obtain ⟨rfl, rfl⟩ := q46
        refine Go.movp st46 (mkF m 127 #[.val (.int p0), .val (.int p1), .val (.int p2), .val (.int p3), .val (.int p4), .val (.int xx), .val (.int yy), .val (.int lo1), .val (.int hi1), .val (.int mm), .unset, .unset, .val (.int (p2 &&& (32767 : Int32))), .val (.int (p3 &&& (32767 : Int32))), .unset, .unset, .unset, .unset, .unset] [(.int (minI (p2 &&& (32767 : Int32)) (p3 &&& (32767 : Int32))))]) rfl ?_
        refine g_istore X46 hx (hb hby at_127) (pc' := 129) rfl (Ls' := #[.val (.int p0), .val (.int p1), .val (.int p2), .val (.int p3), .val (.int p4), .val (.int xx), .val (.int yy), .val (.int lo1), .val (.int hi1), .val (.int mm), .val (.int (minI (p2 &&& (32767 : Int32)) (p3 &&& (32767 : Int32)))), .unset, .val (.int (p2 &&& (32767 : Int32))), .val (.int (p3 &&& (32767 : Int32))), .unset, .unset, .unset, .unset, .unset]) rfl ?_
        refine g_iload X46 hx (hb hby at_129) (pc' := 131) rfl rfl ?_
        refine g_iload X46 hx (hb hby at_131) (pc' := 133) rfl rfl ?_
        obtain ⟨v47, T47, h47, L47, X47, e47, N47, q47, st47⟩ := h_static X46 hx (W := 0) (Ls := #[.val (.int p0), .val (.int p1), .val (.int p2), .val (.int p3), .val (.int p4), .val (.int xx), .val (.int yy), .val (.int lo1), .val (.int hi1), .val (.int mm), .val (.int (minI (p2 &&& (32767 : Int32)) (p3 &&& (32767 : Int32)))), .unset, .val (.int (p2 &&& (32767 : Int32))), .val (.int (p3 &&& (32767 : Int32))), .unset, .unset, .unset, .unset, .unset]) (argsL := [(.int (p2 &&& (32767 : Int32))), (.int (p3 &&& (32767 : Int32)))]) (rest := []) hZ e46 N46 hml hown (rm2 l Z a0 hw (p2 &&& (32767 : Int32)) (p3 &&& (32767 : Int32)) h0 n0 Z0) (hw _ (List.mem_of_getElem? (i := 4) rfl)) (hw _ (List.mem_of_getElem? (i := 5) rfl)) (hw _ (List.mem_of_getElem? (i := 2) rfl)) (hw _ (List.mem_of_getElem? (i := 6) rfl)) (by decide) pd__II_I rfl rfl (hb hby at_133) rfl (by decide) (by decide) (by decide) (by decide)
        obtain ⟨rfl, rfl⟩ := q47
        refine Go.movp st47 (mkF m 136 #[.val (.int p0), .val (.int p1), .val (.int p2), .val (.int p3), .val (.int p4), .val (.int xx), .val (.int yy), .val (.int lo1), .val (.int hi1), .val (.int mm), .val (.int (minI (p2 &&& (32767 : Int32)) (p3 &&& (32767 : Int32)))), .unset, .val (.int (p2 &&& (32767 : Int32))), .val (.int (p3 &&& (32767 : Int32))), .unset, .unset, .unset, .unset, .unset] [(.int (maxI (p2 &&& (32767 : Int32)) (p3 &&& (32767 : Int32))))]) rfl ?_
        refine g_istore X47 hx (hb hby at_136) (pc' := 138) rfl (Ls' := #[.val (.int p0), .val (.int p1), .val (.int p2), .val (.int p3), .val (.int p4), .val (.int xx), .val (.int yy), .val (.int lo1), .val (.int hi1), .val (.int mm), .val (.int (minI (p2 &&& (32767 : Int32)) (p3 &&& (32767 : Int32)))), .val (.int (maxI (p2 &&& (32767 : Int32)) (p3 &&& (32767 : Int32)))), .val (.int (p2 &&& (32767 : Int32))), .val (.int (p3 &&& (32767 : Int32))), .unset, .unset, .unset, .unset, .unset]) rfl ?_
        obtain ⟨lo2, elo2⟩ : ∃ z : Int32, z = (minI (p2 &&& (32767 : Int32)) (p3 &&& (32767 : Int32))) := ⟨_, rfl⟩
        refine Go.cast (show (mkF m 138 #[.val (.int p0), .val (.int p1), .val (.int p2), .val (.int p3), .val (.int p4), .val (.int xx), .val (.int yy), .val (.int lo1), .val (.int hi1), .val (.int mm), .val (.int (minI (p2 &&& (32767 : Int32)) (p3 &&& (32767 : Int32)))), .val (.int (maxI (p2 &&& (32767 : Int32)) (p3 &&& (32767 : Int32)))), .val (.int (p2 &&& (32767 : Int32))), .val (.int (p3 &&& (32767 : Int32))), .unset, .unset, .unset, .unset, .unset] []) = (mkF m 138 #[.val (.int p0), .val (.int p1), .val (.int p2), .val (.int p3), .val (.int p4), .val (.int xx), .val (.int yy), .val (.int lo1), .val (.int hi1), .val (.int mm), .val (.int lo2), .val (.int (maxI (p2 &&& (32767 : Int32)) (p3 &&& (32767 : Int32)))), .val (.int (p2 &&& (32767 : Int32))), .val (.int (p3 &&& (32767 : Int32))), .unset, .unset, .unset, .unset, .unset] []) from by rw [show (minI (p2 &&& (32767 : Int32)) (p3 &&& (32767 : Int32))) = lo2 from elo2.symm]) ?_
        obtain ⟨hi2, ehi2⟩ : ∃ z : Int32, z = (maxI (p2 &&& (32767 : Int32)) (p3 &&& (32767 : Int32))) := ⟨_, rfl⟩
        refine Go.cast (show (mkF m 138 #[.val (.int p0), .val (.int p1), .val (.int p2), .val (.int p3), .val (.int p4), .val (.int xx), .val (.int yy), .val (.int lo1), .val (.int hi1), .val (.int mm), .val (.int lo2), .val (.int (maxI (p2 &&& (32767 : Int32)) (p3 &&& (32767 : Int32)))), .val (.int (p2 &&& (32767 : Int32))), .val (.int (p3 &&& (32767 : Int32))), .unset, .unset, .unset, .unset, .unset] []) = (mkF m 138 #[.val (.int p0), .val (.int p1), .val (.int p2), .val (.int p3), .val (.int p4), .val (.int xx), .val (.int yy), .val (.int lo1), .val (.int hi1), .val (.int mm), .val (.int lo2), .val (.int hi2), .val (.int (p2 &&& (32767 : Int32))), .val (.int (p3 &&& (32767 : Int32))), .unset, .unset, .unset, .unset, .unset] []) from by rw [show (maxI (p2 &&& (32767 : Int32)) (p3 &&& (32767 : Int32))) = hi2 from ehi2.symm]) ?_
        have k1 : ¬ lo2 < 0 := by rw [elo2]; exact (ok_min (ok_mask _) (ok_mask _)).1
        have k2 : ¬ hi2 < lo2 := by rw [elo2, ehi2]; exact (min_max _ _)
        have k3 : ¬ 32767 < hi2 := by rw [ehi2]; exact (ok_max (ok_mask _) (ok_mask _)).2
        obtain ⟨T48, h48, X48, e48, E48, A48, D48, -, st48⟩ := newO X47 hx hZ hown (hw _ (List.mem_of_getElem? (i := 7) rfl)) (hw _ (List.mem_of_getElem? (i := 8) rfl)) (hw _ (List.mem_of_getElem? (i := 9) rfl)) e47 (g := (mkF m 138 #[.val (.int p0), .val (.int p1), .val (.int p2), .val (.int p3), .val (.int p4), .val (.int xx), .val (.int yy), .val (.int lo1), .val (.int hi1), .val (.int mm), .val (.int lo2), .val (.int hi2), .val (.int (p2 &&& (32767 : Int32))), .val (.int (p3 &&& (32767 : Int32))), .unset, .unset, .unset, .unset, .unset] [])) rfl (hb hby at_138) (by decide) (by decide)
        obtain ⟨b48, g48⟩ : ∃ z, z = h0.size := ⟨_, rfl⟩
        rw [← g48] at A48 D48 st48
        have ge49 : n0 ≤ b48 := g48 ▸ Z0
        have f50 := OZ.ext E48
        have Z51 : n0 ≤ h48.size := Nat.le_trans Z0 E48.1
        have f52 : Fld Z h48 b48 "com/example/stream_log_client/streamlogclient/protocol/VersionRange" "min" "I" (.int (0 : Int32)) := D48 (Or.inr (hw _ (List.mem_of_getElem? (i := 17) rfl))) (ty := .int) (by decide)
        have f53 : Fld Z h48 b48 "com/example/stream_log_client/streamlogclient/protocol/VersionRange" "max" "I" (.int (0 : Int32)) := D48 (Or.inr (hw _ (List.mem_of_getElem? (i := 19) rfl))) (ty := .int) (by decide)
        refine Go.movp st48 (mkF m 141 #[.val (.int p0), .val (.int p1), .val (.int p2), .val (.int p3), .val (.int p4), .val (.int xx), .val (.int yy), .val (.int lo1), .val (.int hi1), .val (.int mm), .val (.int lo2), .val (.int hi2), .val (.int (p2 &&& (32767 : Int32))), .val (.int (p3 &&& (32767 : Int32))), .unset, .unset, .unset, .unset, .unset] [(.ref b48)]) rfl ?_
        refine g_dup X48 hx (hb hby at_141) (pc' := 142) rfl rfl ?_
        refine g_iload X48 hx (hb hby at_142) (pc' := 144) rfl rfl ?_
        refine g_iload X48 hx (hb hby at_144) (pc' := 146) rfl rfl ?_
        obtain ⟨v54, T54, h54, L54, X54, e54, N54, q54, st54⟩ := h_special (a := b48) X48 hx (W := 1) (Ls := #[.val (.int p0), .val (.int p1), .val (.int p2), .val (.int p3), .val (.int p4), .val (.int xx), .val (.int yy), .val (.int lo1), .val (.int hi1), .val (.int mm), .val (.int lo2), .val (.int hi2), .val (.int (p2 &&& (32767 : Int32))), .val (.int (p3 &&& (32767 : Int32))), .unset, .unset, .unset, .unset, .unset]) (argsL := [(.int lo1), (.int hi1)]) (rest := [(.ref b48)]) hZ e48 N47 hml hown rfl (rm3 l Z a0 hw b48 lo1 hi1 h48 n0 Z51 f52 f53 A48 ge49 okl.1 lh okh.2) (hw _ (List.mem_of_getElem? (i := 10) rfl)) (hw _ (List.mem_of_getElem? (i := 11) rfl)) (hw _ (List.mem_of_getElem? (i := 9) rfl)) (hw _ (List.mem_of_getElem? (i := 12) rfl)) (by decide) pd__II_V rfl rfl (hb hby at_146) rfl (by decide) (by decide) (by decide) (by decide)
        obtain ⟨rfl, K54, A54, P54, Q54⟩ := q54
        have f55 := f50.keep K54 (allS ge49 all0)
        have f56 := A48.keep K54
        have Z57 : n0 ≤ h54.size := Nat.le_trans Z51 K54.1
        refine Go.movp st54 (mkF m 149 #[.val (.int p0), .val (.int p1), .val (.int p2), .val (.int p3), .val (.int p4), .val (.int xx), .val (.int yy), .val (.int lo1), .val (.int hi1), .val (.int mm), .val (.int lo2), .val (.int hi2), .val (.int (p2 &&& (32767 : Int32))), .val (.int (p3 &&& (32767 : Int32))), .unset, .unset, .unset, .unset, .unset] [(.ref b48)]) rfl ?_
        refine g_astore X54 hx (hb hby at_149) (pc' := 151) rfl rfl (Ls' := #[.val (.int p0), .val (.int p1), .val (.int p2), .val (.int p3), .val (.int p4), .val (.int xx), .val (.int yy), .val (.int lo1), .val (.int hi1), .val (.int mm), .val (.int lo2), .val (.int hi2), .val (.ref b48), .val (.int (p3 &&& (32767 : Int32))), .unset, .unset, .unset, .unset, .unset]) rfl ?_
        obtain ⟨T58, h58, X58, e58, E58, A58, D58, -, st58⟩ := newO X54 hx hZ hown (hw _ (List.mem_of_getElem? (i := 7) rfl)) (hw _ (List.mem_of_getElem? (i := 8) rfl)) (hw _ (List.mem_of_getElem? (i := 9) rfl)) e54 (g := (mkF m 151 #[.val (.int p0), .val (.int p1), .val (.int p2), .val (.int p3), .val (.int p4), .val (.int xx), .val (.int yy), .val (.int lo1), .val (.int hi1), .val (.int mm), .val (.int lo2), .val (.int hi2), .val (.ref b48), .val (.int (p3 &&& (32767 : Int32))), .unset, .unset, .unset, .unset, .unset] [])) rfl (hb hby at_151) (by decide) (by decide)
        obtain ⟨b58, g58⟩ : ∃ z, z = h54.size := ⟨_, rfl⟩
        rw [← g58] at A58 D58 st58
        have ne59 : b48 ≠ b58 := Nat.ne_of_lt (g58 ▸ A54.lt)
        have ge60 : n0 ≤ b58 := g58 ▸ Z57
        have f61 := f55.ext E58
        have f62 := Exa.ext E58 A54
        have f63 := Fld.ext E58 P54
        have f64 := Fld.ext E58 Q54
        have Z65 : n0 ≤ h58.size := Nat.le_trans Z57 E58.1
        have f66 : Fld Z h58 b58 "com/example/stream_log_client/streamlogclient/protocol/VersionRange" "min" "I" (.int (0 : Int32)) := D58 (Or.inr (hw _ (List.mem_of_getElem? (i := 17) rfl))) (ty := .int) (by decide)
        have f67 : Fld Z h58 b58 "com/example/stream_log_client/streamlogclient/protocol/VersionRange" "max" "I" (.int (0 : Int32)) := D58 (Or.inr (hw _ (List.mem_of_getElem? (i := 19) rfl))) (ty := .int) (by decide)
        refine Go.movp st58 (mkF m 154 #[.val (.int p0), .val (.int p1), .val (.int p2), .val (.int p3), .val (.int p4), .val (.int xx), .val (.int yy), .val (.int lo1), .val (.int hi1), .val (.int mm), .val (.int lo2), .val (.int hi2), .val (.ref b48), .val (.int (p3 &&& (32767 : Int32))), .unset, .unset, .unset, .unset, .unset] [(.ref b58)]) rfl ?_
        refine g_dup X58 hx (hb hby at_154) (pc' := 155) rfl rfl ?_
        refine g_iload X58 hx (hb hby at_155) (pc' := 157) rfl rfl ?_
        refine g_iload X58 hx (hb hby at_157) (pc' := 159) rfl rfl ?_
        obtain ⟨v68, T68, h68, L68, X68, e68, N68, q68, st68⟩ := h_special (a := b58) X58 hx (W := 1) (Ls := #[.val (.int p0), .val (.int p1), .val (.int p2), .val (.int p3), .val (.int p4), .val (.int xx), .val (.int yy), .val (.int lo1), .val (.int hi1), .val (.int mm), .val (.int lo2), .val (.int hi2), .val (.ref b48), .val (.int (p3 &&& (32767 : Int32))), .unset, .unset, .unset, .unset, .unset]) (argsL := [(.int lo2), (.int hi2)]) (rest := [(.ref b58)]) hZ e58 N54 hml hown rfl (rm3 l Z a0 hw b58 lo2 hi2 h58 n0 Z65 f66 f67 A58 ge60 k1 k2 k3) (hw _ (List.mem_of_getElem? (i := 10) rfl)) (hw _ (List.mem_of_getElem? (i := 11) rfl)) (hw _ (List.mem_of_getElem? (i := 9) rfl)) (hw _ (List.mem_of_getElem? (i := 12) rfl)) (by decide) pd__II_V rfl rfl (hb hby at_159) rfl (by decide) (by decide) (by decide) (by decide)
        obtain ⟨rfl, K68, A68, P68, Q68⟩ := q68
        have f69 := f61.keep K68 (allS ge60 all0)
        have f70 := f62.keep K68
        have f71 := f63.keep K68 (ninS ne59 nin0)
        have f72 := f64.keep K68 (ninS ne59 nin0)
        have f73 := A58.keep K68
        have Z74 : n0 ≤ h68.size := Nat.le_trans Z65 K68.1
        refine Go.movp st68 (mkF m 162 #[.val (.int p0), .val (.int p1), .val (.int p2), .val (.int p3), .val (.int p4), .val (.int xx), .val (.int yy), .val (.int lo1), .val (.int hi1), .val (.int mm), .val (.int lo2), .val (.int hi2), .val (.ref b48), .val (.int (p3 &&& (32767 : Int32))), .unset, .unset, .unset, .unset, .unset] [(.ref b58)]) rfl ?_
        refine g_astore X68 hx (hb hby at_162) (pc' := 164) rfl rfl (Ls' := #[.val (.int p0), .val (.int p1), .val (.int p2), .val (.int p3), .val (.int p4), .val (.int xx), .val (.int yy), .val (.int lo1), .val (.int hi1), .val (.int mm), .val (.int lo2), .val (.int hi2), .val (.ref b48), .val (.ref b58), .unset, .unset, .unset, .unset, .unset]) rfl ?_
        refine g_iload X68 hx (hb hby at_164) (pc' := 166) rfl rfl ?_
        refine g_iload X68 hx (hb hby at_166) (pc' := 168) rfl rfl ?_
        refine g_icmp_ne X68 hx (hb hby at_168) (pc1 := 171) rfl (by decide) (pc2 := 182) (by decide) (fun hc168 => ?_) (fun hc168 => ?_)
        · skip
          refine g_iconst X68 hx (hb hby at_182) (pc' := 183) rfl (z := (0 : Int32)) rfl ?_
          refine g_istore X68 hx (hb hby at_183) (pc' := 185) rfl (Ls' := #[.val (.int p0), .val (.int p1), .val (.int p2), .val (.int p3), .val (.int p4), .val (.int xx), .val (.int yy), .val (.int lo1), .val (.int hi1), .val (.int mm), .val (.int lo2), .val (.int hi2), .val (.ref b48), .val (.ref b58), .val (.int (0 : Int32)), .unset, .unset, .unset, .unset]) rfl ?_
          refine g_aload X68 hx (hb hby at_185) (pc' := 187) rfl rfl rfl ?_
          refine g_astore X68 hx (hb hby at_187) (pc' := 189) rfl rfl (Ls' := #[.val (.int p0), .val (.int p1), .val (.int p2), .val (.int p3), .val (.int p4), .val (.int xx), .val (.int yy), .val (.int lo1), .val (.int hi1), .val (.int mm), .val (.int lo2), .val (.int hi2), .val (.ref b48), .val (.ref b58), .val (.int (0 : Int32)), .val (.ref b58), .unset, .unset, .unset]) rfl ?_
          refine g_aload X68 hx (hb hby at_189) (pc' := 191) rfl rfl rfl ?_
          refine g_astore X68 hx (hb hby at_191) (pc' := 193) rfl rfl (Ls' := #[.val (.int p0), .val (.int p1), .val (.int p2), .val (.int p3), .val (.int p4), .val (.int xx), .val (.int yy), .val (.int lo1), .val (.int hi1), .val (.int mm), .val (.int lo2), .val (.int hi2), .val (.ref b48), .val (.ref b58), .val (.int (0 : Int32)), .val (.ref b58), .val (.ref b48), .unset, .unset]) rfl ?_
          refine g_aload X68 hx (hb hby at_193) (pc' := 195) rfl rfl rfl ?_
          refine g_aload X68 hx (hb hby at_195) (pc' := 197) rfl rfl rfl ?_
          obtain ⟨v75, T75, h75, L75, X75, e75, N75, q75, st75⟩ := h_virtual (a := b48) (z := (⟨"com/example/stream_log_client/streamlogclient/protocol/VersionRange", "equals", "(Ljava/lang/Object;)Z"⟩ : MethodName)) X68 hx (W := 0) (Ls := #[.val (.int p0), .val (.int p1), .val (.int p2), .val (.int p3), .val (.int p4), .val (.int xx), .val (.int yy), .val (.int lo1), .val (.int hi1), .val (.int mm), .val (.int lo2), .val (.int hi2), .val (.ref b48), .val (.ref b58), .val (.int (0 : Int32)), .val (.ref b58), .val (.ref b48), .unset, .unset]) (argsL := [(.ref b58)]) (rest := []) hZ e68 N68 hml hown (rm5a l Z a0 hw b48 b58 lo1 hi1 lo2 hi2 h68 n0 Z74 f71 f72 P68 Q68 A68) f70 (hw _ (List.mem_of_getElem? (i := 20) rfl)) (hw _ (List.mem_of_getElem? (i := 21) rfl)) (notFace_of_selects (args := #[]) (mvT hZ (hw _ (List.mem_of_getElem? (i := 23) rfl)))) (hw _ (List.mem_of_getElem? (i := 23) rfl)) (hw _ (List.mem_of_getElem? (i := 22) rfl)) (hw _ (List.mem_of_getElem? (i := 9) rfl)) (hw _ (List.mem_of_getElem? (i := 24) rfl)) (by decide) pd__Ljava_lang_Object__Z rfl rfl (hb hby at_197) rfl (by decide) (by decide) (by decide) (by decide)
          obtain ⟨rfl, rfl⟩ := q75
          refine Go.movp st75 (mkF m 200 #[.val (.int p0), .val (.int p1), .val (.int p2), .val (.int p3), .val (.int p4), .val (.int xx), .val (.int yy), .val (.int lo1), .val (.int hi1), .val (.int mm), .val (.int lo2), .val (.int hi2), .val (.ref b48), .val (.ref b58), .val (.int (0 : Int32)), .val (.ref b58), .val (.ref b48), .unset, .unset] [(.int (eqV lo1 hi1 lo2 hi2))]) rfl ?_
          refine Go.cast (show (mkF m 200 #[.val (.int p0), .val (.int p1), .val (.int p2), .val (.int p3), .val (.int p4), .val (.int xx), .val (.int yy), .val (.int lo1), .val (.int hi1), .val (.int mm), .val (.int lo2), .val (.int hi2), .val (.ref b48), .val (.ref b58), .val (.int (0 : Int32)), .val (.ref b58), .val (.ref b48), .unset, .unset] [(.int (eqV lo1 hi1 lo2 hi2))]) = (mkF m 200 #[.val (.int p0), .val (.int p1), .val (.int p2), .val (.int p3), .val (.int p4), .val (.int xx), .val (.int yy), .val (.int lo1), .val (.int hi1), .val (.int mm), .val (.int lo2), .val (.int hi2), .val (.ref b48), .val (.ref b58), .val (.int (0 : Int32)), .val (.ref b58), .val (.ref b48), .unset, .unset] [(.int (0 : Int32))]) from by rw [show (eqV lo1 hi1 lo2 hi2) = (0 : Int32) from (if_neg (fun q => hc168 q.1))]) ?_
          refine g_iload X75 hx (hb hby at_200) (pc' := 202) rfl rfl ?_
          refine g_icmp_ne X75 hx (hb hby at_202) (pc1 := 205) rfl (by decide) (pc2 := 209) (by decide) (fun hc202 => absurd rfl hc202) (fun hc202 => ?_)
          refine g_iconst X75 hx (hb hby at_205) (pc' := 206) rfl (z := (1 : Int32)) rfl ?_
          refine g_goto X75 hx (hb hby at_206) (by decide) (pc' := 210) (by decide) ?_
          refine g_istore X75 hx (hb hby at_210) (pc' := 212) rfl (Ls' := #[.val (.int p0), .val (.int p1), .val (.int p2), .val (.int p3), .val (.int p4), .val (.int xx), .val (.int yy), .val (.int lo1), .val (.int hi1), .val (.int mm), .val (.int lo2), .val (.int hi2), .val (.ref b48), .val (.ref b58), .val (.int (0 : Int32)), .val (.ref b58), .val (.ref b48), .val (.int (1 : Int32)), .unset]) rfl ?_
          refine g_iload X75 hx (hb hby at_212) (pc' := 214) rfl rfl ?_
          refine g_if_eq X75 hx (hb hby at_214) (pc1 := 217) rfl (by decide) (pc2 := 233) (by decide) (fun hc214 => absurd hc214 (by decide)) (fun hc214 => ?_)
          refine g_aload X75 hx (hb hby at_217) (pc' := 219) rfl rfl rfl ?_
          refine g_aload X75 hx (hb hby at_219) (pc' := 221) rfl rfl rfl ?_
          obtain ⟨v76, T76, h76, L76, X76, e76, N76, q76, st76⟩ := h_virtual (a := b58) (z := (⟨"com/example/stream_log_client/streamlogclient/protocol/VersionRange", "equals", "(Ljava/lang/Object;)Z"⟩ : MethodName)) X75 hx (W := 0) (Ls := #[.val (.int p0), .val (.int p1), .val (.int p2), .val (.int p3), .val (.int p4), .val (.int xx), .val (.int yy), .val (.int lo1), .val (.int hi1), .val (.int mm), .val (.int lo2), .val (.int hi2), .val (.ref b48), .val (.ref b58), .val (.int (0 : Int32)), .val (.ref b58), .val (.ref b48), .val (.int (1 : Int32)), .unset]) (argsL := [(.ref b48)]) (rest := []) hZ e75 N75 hml hown (rm5a l Z a0 hw b58 b48 lo2 hi2 lo1 hi1 h68 n0 Z74 P68 Q68 f71 f72 f70) A68 (hw _ (List.mem_of_getElem? (i := 20) rfl)) (hw _ (List.mem_of_getElem? (i := 21) rfl)) (notFace_of_selects (args := #[]) (mvT hZ (hw _ (List.mem_of_getElem? (i := 23) rfl)))) (hw _ (List.mem_of_getElem? (i := 23) rfl)) (hw _ (List.mem_of_getElem? (i := 22) rfl)) (hw _ (List.mem_of_getElem? (i := 9) rfl)) (hw _ (List.mem_of_getElem? (i := 24) rfl)) (by decide) pd__Ljava_lang_Object__Z rfl rfl (hb hby at_221) rfl (by decide) (by decide) (by decide) (by decide)
          obtain ⟨rfl, rfl⟩ := q76
          refine Go.movp st76 (mkF m 224 #[.val (.int p0), .val (.int p1), .val (.int p2), .val (.int p3), .val (.int p4), .val (.int xx), .val (.int yy), .val (.int lo1), .val (.int hi1), .val (.int mm), .val (.int lo2), .val (.int hi2), .val (.ref b48), .val (.ref b58), .val (.int (0 : Int32)), .val (.ref b58), .val (.ref b48), .val (.int (1 : Int32)), .unset] [(.int (eqV lo2 hi2 lo1 hi1))]) rfl ?_
          refine Go.cast (show (mkF m 224 #[.val (.int p0), .val (.int p1), .val (.int p2), .val (.int p3), .val (.int p4), .val (.int xx), .val (.int yy), .val (.int lo1), .val (.int hi1), .val (.int mm), .val (.int lo2), .val (.int hi2), .val (.ref b48), .val (.ref b58), .val (.int (0 : Int32)), .val (.ref b58), .val (.ref b48), .val (.int (1 : Int32)), .unset] [(.int (eqV lo2 hi2 lo1 hi1))]) = (mkF m 224 #[.val (.int p0), .val (.int p1), .val (.int p2), .val (.int p3), .val (.int p4), .val (.int xx), .val (.int yy), .val (.int lo1), .val (.int hi1), .val (.int mm), .val (.int lo2), .val (.int hi2), .val (.ref b48), .val (.ref b58), .val (.int (0 : Int32)), .val (.ref b58), .val (.ref b48), .val (.int (1 : Int32)), .unset] [(.int (0 : Int32))]) from by rw [show (eqV lo2 hi2 lo1 hi1) = (0 : Int32) from (if_neg (fun q => hc168 q.1.symm))]) ?_
          refine g_iload X76 hx (hb hby at_224) (pc' := 226) rfl rfl ?_
          refine g_icmp_ne X76 hx (hb hby at_226) (pc1 := 229) rfl (by decide) (pc2 := 233) (by decide) (fun hc226 => absurd rfl hc226) (fun hc226 => ?_)
          refine g_iconst X76 hx (hb hby at_229) (pc' := 230) rfl (z := (1 : Int32)) rfl ?_
          refine g_goto X76 hx (hb hby at_230) (by decide) (pc' := 234) (by decide) ?_
          refine g_istore X76 hx (hb hby at_234) (pc' := 236) rfl (Ls' := #[.val (.int p0), .val (.int p1), .val (.int p2), .val (.int p3), .val (.int p4), .val (.int xx), .val (.int yy), .val (.int lo1), .val (.int hi1), .val (.int mm), .val (.int lo2), .val (.int hi2), .val (.ref b48), .val (.ref b58), .val (.int (0 : Int32)), .val (.ref b58), .val (.ref b48), .val (.int (1 : Int32)), .unset]) rfl ?_
          refine g_iload X76 hx (hb hby at_236) (pc' := 238) rfl rfl ?_
          refine g_if_eq X76 hx (hb hby at_238) (pc1 := 241) rfl (by decide) (pc2 := 255) (by decide) (fun hc238 => absurd hc238 (by decide)) (fun hc238 => ?_)
          refine g_aload X76 hx (hb hby at_241) (pc' := 243) rfl rfl rfl ?_
          refine g_aload X76 hx (hb hby at_243) (pc' := 245) rfl rfl rfl ?_
          obtain ⟨v77, T77, h77, L77, X77, e77, N77, q77, st77⟩ := h_virtual (a := b48) (z := (⟨"com/example/stream_log_client/streamlogclient/protocol/VersionRange", "equals", "(Ljava/lang/Object;)Z"⟩ : MethodName)) X76 hx (W := 0) (Ls := #[.val (.int p0), .val (.int p1), .val (.int p2), .val (.int p3), .val (.int p4), .val (.int xx), .val (.int yy), .val (.int lo1), .val (.int hi1), .val (.int mm), .val (.int lo2), .val (.int hi2), .val (.ref b48), .val (.ref b58), .val (.int (0 : Int32)), .val (.ref b58), .val (.ref b48), .val (.int (1 : Int32)), .unset]) (argsL := [(.ref b48)]) (rest := []) hZ e76 N76 hml hown (rm5a l Z a0 hw b48 b48 lo1 hi1 lo1 hi1 h68 n0 Z74 f71 f72 f71 f72 f70) f70 (hw _ (List.mem_of_getElem? (i := 20) rfl)) (hw _ (List.mem_of_getElem? (i := 21) rfl)) (notFace_of_selects (args := #[]) (mvT hZ (hw _ (List.mem_of_getElem? (i := 23) rfl)))) (hw _ (List.mem_of_getElem? (i := 23) rfl)) (hw _ (List.mem_of_getElem? (i := 22) rfl)) (hw _ (List.mem_of_getElem? (i := 9) rfl)) (hw _ (List.mem_of_getElem? (i := 24) rfl)) (by decide) pd__Ljava_lang_Object__Z rfl rfl (hb hby at_245) rfl (by decide) (by decide) (by decide) (by decide)
          obtain ⟨rfl, rfl⟩ := q77
          refine Go.movp st77 (mkF m 248 #[.val (.int p0), .val (.int p1), .val (.int p2), .val (.int p3), .val (.int p4), .val (.int xx), .val (.int yy), .val (.int lo1), .val (.int hi1), .val (.int mm), .val (.int lo2), .val (.int hi2), .val (.ref b48), .val (.ref b58), .val (.int (0 : Int32)), .val (.ref b58), .val (.ref b48), .val (.int (1 : Int32)), .unset] [(.int (eqV lo1 hi1 lo1 hi1))]) rfl ?_
          refine Go.cast (show (mkF m 248 #[.val (.int p0), .val (.int p1), .val (.int p2), .val (.int p3), .val (.int p4), .val (.int xx), .val (.int yy), .val (.int lo1), .val (.int hi1), .val (.int mm), .val (.int lo2), .val (.int hi2), .val (.ref b48), .val (.ref b58), .val (.int (0 : Int32)), .val (.ref b58), .val (.ref b48), .val (.int (1 : Int32)), .unset] [(.int (eqV lo1 hi1 lo1 hi1))]) = (mkF m 248 #[.val (.int p0), .val (.int p1), .val (.int p2), .val (.int p3), .val (.int p4), .val (.int xx), .val (.int yy), .val (.int lo1), .val (.int hi1), .val (.int mm), .val (.int lo2), .val (.int hi2), .val (.ref b48), .val (.ref b58), .val (.int (0 : Int32)), .val (.ref b58), .val (.ref b48), .val (.int (1 : Int32)), .unset] [(.int (1 : Int32))]) from by rw [show (eqV lo1 hi1 lo1 hi1) = (1 : Int32) from (if_pos ⟨rfl, rfl⟩)]) ?_
          refine g_if_eq X77 hx (hb hby at_248) (pc1 := 251) rfl (by decide) (pc2 := 255) (by decide) (fun hc248 => absurd hc248 (by decide)) (fun hc248 => ?_)
          refine g_iconst X77 hx (hb hby at_251) (pc' := 252) rfl (z := (1 : Int32)) rfl ?_
          refine g_goto X77 hx (hb hby at_252) (by decide) (pc' := 256) (by decide) ?_
          refine g_istore X77 hx (hb hby at_256) (pc' := 258) rfl (Ls' := #[.val (.int p0), .val (.int p1), .val (.int p2), .val (.int p3), .val (.int p4), .val (.int xx), .val (.int yy), .val (.int lo1), .val (.int hi1), .val (.int mm), .val (.int lo2), .val (.int hi2), .val (.ref b48), .val (.ref b58), .val (.int (0 : Int32)), .val (.ref b58), .val (.ref b48), .val (.int (1 : Int32)), .unset]) rfl ?_
          refine g_iload X77 hx (hb hby at_258) (pc' := 260) rfl rfl ?_
          refine g_if_eq X77 hx (hb hby at_260) (pc1 := 263) rfl (by decide) (pc2 := 276) (by decide) (fun hc260 => absurd hc260 (by decide)) (fun hc260 => ?_)
          refine g_aload X77 hx (hb hby at_263) (pc' := 265) rfl rfl rfl ?_
          refine g_aconst_null X77 hx (hb hby at_265) (pc' := 266) rfl ?_
          obtain ⟨v78, T78, h78, L78, X78, e78, N78, q78, st78⟩ := h_virtual (a := b48) (z := (⟨"com/example/stream_log_client/streamlogclient/protocol/VersionRange", "equals", "(Ljava/lang/Object;)Z"⟩ : MethodName)) X77 hx (W := 0) (Ls := #[.val (.int p0), .val (.int p1), .val (.int p2), .val (.int p3), .val (.int p4), .val (.int xx), .val (.int yy), .val (.int lo1), .val (.int hi1), .val (.int mm), .val (.int lo2), .val (.int hi2), .val (.ref b48), .val (.ref b58), .val (.int (0 : Int32)), .val (.ref b58), .val (.ref b48), .val (.int (1 : Int32)), .unset]) (argsL := [.null]) (rest := []) hZ e77 N77 hml hown (rm5b l Z a0 hw b48 h68 n0 Z74) f70 (hw _ (List.mem_of_getElem? (i := 20) rfl)) (hw _ (List.mem_of_getElem? (i := 21) rfl)) (notFace_of_selects (args := #[]) (mvT hZ (hw _ (List.mem_of_getElem? (i := 23) rfl)))) (hw _ (List.mem_of_getElem? (i := 23) rfl)) (hw _ (List.mem_of_getElem? (i := 22) rfl)) (hw _ (List.mem_of_getElem? (i := 9) rfl)) (hw _ (List.mem_of_getElem? (i := 24) rfl)) (by decide) pd__Ljava_lang_Object__Z rfl rfl (hb hby at_266) rfl (by decide) (by decide) (by decide) (by decide)
          obtain ⟨rfl, rfl⟩ := q78
          refine Go.movp st78 (mkF m 269 #[.val (.int p0), .val (.int p1), .val (.int p2), .val (.int p3), .val (.int p4), .val (.int xx), .val (.int yy), .val (.int lo1), .val (.int hi1), .val (.int mm), .val (.int lo2), .val (.int hi2), .val (.ref b48), .val (.ref b58), .val (.int (0 : Int32)), .val (.ref b58), .val (.ref b48), .val (.int (1 : Int32)), .unset] [(.int (0 : Int32))]) rfl ?_
          refine g_if_ne X78 hx (hb hby at_269) (pc1 := 272) rfl (by decide) (pc2 := 276) (by decide) (fun hc269 => absurd rfl hc269) (fun hc269 => ?_)
          refine g_iconst X78 hx (hb hby at_272) (pc' := 273) rfl (z := (1 : Int32)) rfl ?_
          refine g_goto X78 hx (hb hby at_273) (by decide) (pc' := 277) (by decide) ?_
          refine g_istore X78 hx (hb hby at_277) (pc' := 279) rfl (Ls' := #[.val (.int p0), .val (.int p1), .val (.int p2), .val (.int p3), .val (.int p4), .val (.int xx), .val (.int yy), .val (.int lo1), .val (.int hi1), .val (.int mm), .val (.int lo2), .val (.int hi2), .val (.ref b48), .val (.ref b58), .val (.int (0 : Int32)), .val (.ref b58), .val (.ref b48), .val (.int (1 : Int32)), .unset]) rfl ?_
          refine g_iload X78 hx (hb hby at_279) (pc' := 281) rfl rfl ?_
          obtain ⟨v79, T79, h79, L79, X79, e79, N79, q79, st79⟩ := h_static X78 hx (W := 0) (Ls := #[.val (.int p0), .val (.int p1), .val (.int p2), .val (.int p3), .val (.int p4), .val (.int xx), .val (.int yy), .val (.int lo1), .val (.int hi1), .val (.int mm), .val (.int lo2), .val (.int hi2), .val (.ref b48), .val (.ref b58), .val (.int (0 : Int32)), .val (.ref b58), .val (.ref b48), .val (.int (1 : Int32)), .unset]) (argsL := [(.int lo1)]) (rest := []) hZ e78 N78 hml hown (rm6 l Z a0 hw lo1 ca h68 n0 Z74 (Sta.ext f69.2 S1) (Sta.ext f69.2 S2) (own_cx CA f69.2) okl.1) (hw _ (List.mem_of_getElem? (i := 27) rfl)) (hw _ (List.mem_of_getElem? (i := 28) rfl)) (hw _ (List.mem_of_getElem? (i := 29) rfl)) (hw _ (List.mem_of_getElem? (i := 30) rfl)) (by decide) pd__I_Ljava_lang_Integer_ rfl rfl (hb hby at_281) rfl (by decide) (by decide) (by decide) (by decide)
          obtain ⟨r79, rfl, K79, A79⟩ := q79
          have f80 := f69.keep K79 all0
          have f81 := f70.keep K79
          have f82 := f71.keep K79 nin0
          have f83 := f72.keep K79 nin0
          have f84 := A68.keep K79
          have f85 := P68.keep K79 nin0
          have f86 := Q68.keep K79 nin0
          have Z87 : n0 ≤ h79.size := Nat.le_trans Z74 K79.1
          refine Go.movp st79 (mkF m 284 #[.val (.int p0), .val (.int p1), .val (.int p2), .val (.int p3), .val (.int p4), .val (.int xx), .val (.int yy), .val (.int lo1), .val (.int hi1), .val (.int mm), .val (.int lo2), .val (.int hi2), .val (.ref b48), .val (.ref b58), .val (.int (0 : Int32)), .val (.ref b58), .val (.ref b48), .val (.int (1 : Int32)), .unset] [(.ref r79)]) rfl ?_
          refine g_astore X79 hx (hb hby at_284) (pc' := 286) rfl rfl (Ls' := #[.val (.int p0), .val (.int p1), .val (.int p2), .val (.int p3), .val (.int p4), .val (.int xx), .val (.int yy), .val (.int lo1), .val (.int hi1), .val (.int mm), .val (.int lo2), .val (.int hi2), .val (.ref b48), .val (.ref b58), .val (.int (0 : Int32)), .val (.ref b58), .val (.ref b48), .val (.int (1 : Int32)), .val (.ref r79)]) rfl ?_
          refine g_iload X79 hx (hb hby at_286) (pc' := 288) rfl rfl ?_
          refine g_if_eq X79 hx (hb hby at_288) (pc1 := 291) rfl (by decide) (pc2 := 305) (by decide) (fun hc288 => absurd hc288 (by decide)) (fun hc288 => ?_)
          refine g_aload X79 hx (hb hby at_291) (pc' := 293) rfl rfl rfl ?_
          refine g_aload X79 hx (hb hby at_293) (pc' := 295) rfl rfl rfl ?_
          obtain ⟨v88, T88, h88, L88, X88, e88, N88, q88, st88⟩ := h_virtual (a := b48) (z := (⟨"com/example/stream_log_client/streamlogclient/protocol/VersionRange", "equals", "(Ljava/lang/Object;)Z"⟩ : MethodName)) X79 hx (W := 0) (Ls := #[.val (.int p0), .val (.int p1), .val (.int p2), .val (.int p3), .val (.int p4), .val (.int xx), .val (.int yy), .val (.int lo1), .val (.int hi1), .val (.int mm), .val (.int lo2), .val (.int hi2), .val (.ref b48), .val (.ref b58), .val (.int (0 : Int32)), .val (.ref b58), .val (.ref b48), .val (.int (1 : Int32)), .val (.ref r79)]) (argsL := [(.ref r79)]) (rest := []) hZ e79 N79 hml hown (rm5c l Z a0 hw b48 r79 h79 n0 Z87 A79) f81 (hw _ (List.mem_of_getElem? (i := 20) rfl)) (hw _ (List.mem_of_getElem? (i := 21) rfl)) (notFace_of_selects (args := #[]) (mvT hZ (hw _ (List.mem_of_getElem? (i := 23) rfl)))) (hw _ (List.mem_of_getElem? (i := 23) rfl)) (hw _ (List.mem_of_getElem? (i := 22) rfl)) (hw _ (List.mem_of_getElem? (i := 9) rfl)) (hw _ (List.mem_of_getElem? (i := 24) rfl)) (by decide) pd__Ljava_lang_Object__Z rfl rfl (hb hby at_295) rfl (by decide) (by decide) (by decide) (by decide)
          obtain ⟨rfl, rfl⟩ := q88
          refine Go.movp st88 (mkF m 298 #[.val (.int p0), .val (.int p1), .val (.int p2), .val (.int p3), .val (.int p4), .val (.int xx), .val (.int yy), .val (.int lo1), .val (.int hi1), .val (.int mm), .val (.int lo2), .val (.int hi2), .val (.ref b48), .val (.ref b58), .val (.int (0 : Int32)), .val (.ref b58), .val (.ref b48), .val (.int (1 : Int32)), .val (.ref r79)] [(.int (0 : Int32))]) rfl ?_
          refine g_if_ne X88 hx (hb hby at_298) (pc1 := 301) rfl (by decide) (pc2 := 305) (by decide) (fun hc298 => absurd rfl hc298) (fun hc298 => ?_)
          refine g_iconst X88 hx (hb hby at_301) (pc' := 302) rfl (z := (1 : Int32)) rfl ?_
          refine g_goto X88 hx (hb hby at_302) (by decide) (pc' := 306) (by decide) ?_
          refine g_istore X88 hx (hb hby at_306) (pc' := 308) rfl (Ls' := #[.val (.int p0), .val (.int p1), .val (.int p2), .val (.int p3), .val (.int p4), .val (.int xx), .val (.int yy), .val (.int lo1), .val (.int hi1), .val (.int mm), .val (.int lo2), .val (.int hi2), .val (.ref b48), .val (.ref b58), .val (.int (0 : Int32)), .val (.ref b58), .val (.ref b48), .val (.int (1 : Int32)), .val (.ref r79)]) rfl ?_
          refine g_iload X88 hx (hb hby at_308) (pc' := 310) rfl rfl ?_
          exact g_zreturn X88 hx rfl hret (hb hby at_310) N88 hlk (fun v t => endF (by decide) (by decide) v) (by rw [e88]; exact rfl)
        · skip
          refine g_iload X68 hx (hb hby at_171) (pc' := 173) rfl rfl ?_
          refine g_iload X68 hx (hb hby at_173) (pc' := 175) rfl rfl ?_
          refine g_icmp_ne X68 hx (hb hby at_175) (pc1 := 178) rfl (by decide) (pc2 := 182) (by decide) (fun hc175 => ?_) (fun hc175 => ?_)
          · skip
            refine g_iconst X68 hx (hb hby at_182) (pc' := 183) rfl (z := (0 : Int32)) rfl ?_
            refine g_istore X68 hx (hb hby at_183) (pc' := 185) rfl (Ls' := #[.val (.int p0), .val (.int p1), .val (.int p2), .val (.int p3), .val (.int p4), .val (.int xx), .val (.int yy), .val (.int lo1), .val (.int hi1), .val (.int mm), .val (.int lo2), .val (.int hi2), .val (.ref b48), .val (.ref b58), .val (.int (0 : Int32)), .unset, .unset, .unset, .unset]) rfl ?_
            refine g_aload X68 hx (hb hby at_185) (pc' := 187) rfl rfl rfl ?_
            refine g_astore X68 hx (hb hby at_187) (pc' := 189) rfl rfl (Ls' := #[.val (.int p0), .val (.int p1), .val (.int p2), .val (.int p3), .val (.int p4), .val (.int xx), .val (.int yy), .val (.int lo1), .val (.int hi1), .val (.int mm), .val (.int lo2), .val (.int hi2), .val (.ref b48), .val (.ref b58), .val (.int (0 : Int32)), .val (.ref b58), .unset, .unset, .unset]) rfl ?_
            refine g_aload X68 hx (hb hby at_189) (pc' := 191) rfl rfl rfl ?_
            refine g_astore X68 hx (hb hby at_191) (pc' := 193) rfl rfl (Ls' := #[.val (.int p0), .val (.int p1), .val (.int p2), .val (.int p3), .val (.int p4), .val (.int xx), .val (.int yy), .val (.int lo1), .val (.int hi1), .val (.int mm), .val (.int lo2), .val (.int hi2), .val (.ref b48), .val (.ref b58), .val (.int (0 : Int32)), .val (.ref b58), .val (.ref b48), .unset, .unset]) rfl ?_
            refine g_aload X68 hx (hb hby at_193) (pc' := 195) rfl rfl rfl ?_
            refine g_aload X68 hx (hb hby at_195) (pc' := 197) rfl rfl rfl ?_
            obtain ⟨v89, T89, h89, L89, X89, e89, N89, q89, st89⟩ := h_virtual (a := b48) (z := (⟨"com/example/stream_log_client/streamlogclient/protocol/VersionRange", "equals", "(Ljava/lang/Object;)Z"⟩ : MethodName)) X68 hx (W := 0) (Ls := #[.val (.int p0), .val (.int p1), .val (.int p2), .val (.int p3), .val (.int p4), .val (.int xx), .val (.int yy), .val (.int lo1), .val (.int hi1), .val (.int mm), .val (.int lo2), .val (.int hi2), .val (.ref b48), .val (.ref b58), .val (.int (0 : Int32)), .val (.ref b58), .val (.ref b48), .unset, .unset]) (argsL := [(.ref b58)]) (rest := []) hZ e68 N68 hml hown (rm5a l Z a0 hw b48 b58 lo1 hi1 lo2 hi2 h68 n0 Z74 f71 f72 P68 Q68 A68) f70 (hw _ (List.mem_of_getElem? (i := 20) rfl)) (hw _ (List.mem_of_getElem? (i := 21) rfl)) (notFace_of_selects (args := #[]) (mvT hZ (hw _ (List.mem_of_getElem? (i := 23) rfl)))) (hw _ (List.mem_of_getElem? (i := 23) rfl)) (hw _ (List.mem_of_getElem? (i := 22) rfl)) (hw _ (List.mem_of_getElem? (i := 9) rfl)) (hw _ (List.mem_of_getElem? (i := 24) rfl)) (by decide) pd__Ljava_lang_Object__Z rfl rfl (hb hby at_197) rfl (by decide) (by decide) (by decide) (by decide)
            obtain ⟨rfl, rfl⟩ := q89
            refine Go.movp st89 (mkF m 200 #[.val (.int p0), .val (.int p1), .val (.int p2), .val (.int p3), .val (.int p4), .val (.int xx), .val (.int yy), .val (.int lo1), .val (.int hi1), .val (.int mm), .val (.int lo2), .val (.int hi2), .val (.ref b48), .val (.ref b58), .val (.int (0 : Int32)), .val (.ref b58), .val (.ref b48), .unset, .unset] [(.int (eqV lo1 hi1 lo2 hi2))]) rfl ?_
            refine Go.cast (show (mkF m 200 #[.val (.int p0), .val (.int p1), .val (.int p2), .val (.int p3), .val (.int p4), .val (.int xx), .val (.int yy), .val (.int lo1), .val (.int hi1), .val (.int mm), .val (.int lo2), .val (.int hi2), .val (.ref b48), .val (.ref b58), .val (.int (0 : Int32)), .val (.ref b58), .val (.ref b48), .unset, .unset] [(.int (eqV lo1 hi1 lo2 hi2))]) = (mkF m 200 #[.val (.int p0), .val (.int p1), .val (.int p2), .val (.int p3), .val (.int p4), .val (.int xx), .val (.int yy), .val (.int lo1), .val (.int hi1), .val (.int mm), .val (.int lo2), .val (.int hi2), .val (.ref b48), .val (.ref b58), .val (.int (0 : Int32)), .val (.ref b58), .val (.ref b48), .unset, .unset] [(.int (0 : Int32))]) from by rw [show (eqV lo1 hi1 lo2 hi2) = (0 : Int32) from (if_neg (fun q => hc175 q.2))]) ?_
            refine g_iload X89 hx (hb hby at_200) (pc' := 202) rfl rfl ?_
            refine g_icmp_ne X89 hx (hb hby at_202) (pc1 := 205) rfl (by decide) (pc2 := 209) (by decide) (fun hc202 => absurd rfl hc202) (fun hc202 => ?_)
            refine g_iconst X89 hx (hb hby at_205) (pc' := 206) rfl (z := (1 : Int32)) rfl ?_
            refine g_goto X89 hx (hb hby at_206) (by decide) (pc' := 210) (by decide) ?_
            refine g_istore X89 hx (hb hby at_210) (pc' := 212) rfl (Ls' := #[.val (.int p0), .val (.int p1), .val (.int p2), .val (.int p3), .val (.int p4), .val (.int xx), .val (.int yy), .val (.int lo1), .val (.int hi1), .val (.int mm), .val (.int lo2), .val (.int hi2), .val (.ref b48), .val (.ref b58), .val (.int (0 : Int32)), .val (.ref b58), .val (.ref b48), .val (.int (1 : Int32)), .unset]) rfl ?_
            refine g_iload X89 hx (hb hby at_212) (pc' := 214) rfl rfl ?_
            refine g_if_eq X89 hx (hb hby at_214) (pc1 := 217) rfl (by decide) (pc2 := 233) (by decide) (fun hc214 => absurd hc214 (by decide)) (fun hc214 => ?_)
            refine g_aload X89 hx (hb hby at_217) (pc' := 219) rfl rfl rfl ?_
            refine g_aload X89 hx (hb hby at_219) (pc' := 221) rfl rfl rfl ?_
            obtain ⟨v90, T90, h90, L90, X90, e90, N90, q90, st90⟩ := h_virtual (a := b58) (z := (⟨"com/example/stream_log_client/streamlogclient/protocol/VersionRange", "equals", "(Ljava/lang/Object;)Z"⟩ : MethodName)) X89 hx (W := 0) (Ls := #[.val (.int p0), .val (.int p1), .val (.int p2), .val (.int p3), .val (.int p4), .val (.int xx), .val (.int yy), .val (.int lo1), .val (.int hi1), .val (.int mm), .val (.int lo2), .val (.int hi2), .val (.ref b48), .val (.ref b58), .val (.int (0 : Int32)), .val (.ref b58), .val (.ref b48), .val (.int (1 : Int32)), .unset]) (argsL := [(.ref b48)]) (rest := []) hZ e89 N89 hml hown (rm5a l Z a0 hw b58 b48 lo2 hi2 lo1 hi1 h68 n0 Z74 P68 Q68 f71 f72 f70) A68 (hw _ (List.mem_of_getElem? (i := 20) rfl)) (hw _ (List.mem_of_getElem? (i := 21) rfl)) (notFace_of_selects (args := #[]) (mvT hZ (hw _ (List.mem_of_getElem? (i := 23) rfl)))) (hw _ (List.mem_of_getElem? (i := 23) rfl)) (hw _ (List.mem_of_getElem? (i := 22) rfl)) (hw _ (List.mem_of_getElem? (i := 9) rfl)) (hw _ (List.mem_of_getElem? (i := 24) rfl)) (by decide) pd__Ljava_lang_Object__Z rfl rfl (hb hby at_221) rfl (by decide) (by decide) (by decide) (by decide)
            obtain ⟨rfl, rfl⟩ := q90
            refine Go.movp st90 (mkF m 224 #[.val (.int p0), .val (.int p1), .val (.int p2), .val (.int p3), .val (.int p4), .val (.int xx), .val (.int yy), .val (.int lo1), .val (.int hi1), .val (.int mm), .val (.int lo2), .val (.int hi2), .val (.ref b48), .val (.ref b58), .val (.int (0 : Int32)), .val (.ref b58), .val (.ref b48), .val (.int (1 : Int32)), .unset] [(.int (eqV lo2 hi2 lo1 hi1))]) rfl ?_
            refine Go.cast (show (mkF m 224 #[.val (.int p0), .val (.int p1), .val (.int p2), .val (.int p3), .val (.int p4), .val (.int xx), .val (.int yy), .val (.int lo1), .val (.int hi1), .val (.int mm), .val (.int lo2), .val (.int hi2), .val (.ref b48), .val (.ref b58), .val (.int (0 : Int32)), .val (.ref b58), .val (.ref b48), .val (.int (1 : Int32)), .unset] [(.int (eqV lo2 hi2 lo1 hi1))]) = (mkF m 224 #[.val (.int p0), .val (.int p1), .val (.int p2), .val (.int p3), .val (.int p4), .val (.int xx), .val (.int yy), .val (.int lo1), .val (.int hi1), .val (.int mm), .val (.int lo2), .val (.int hi2), .val (.ref b48), .val (.ref b58), .val (.int (0 : Int32)), .val (.ref b58), .val (.ref b48), .val (.int (1 : Int32)), .unset] [(.int (0 : Int32))]) from by rw [show (eqV lo2 hi2 lo1 hi1) = (0 : Int32) from (if_neg (fun q => hc175 q.2.symm))]) ?_
            refine g_iload X90 hx (hb hby at_224) (pc' := 226) rfl rfl ?_
            refine g_icmp_ne X90 hx (hb hby at_226) (pc1 := 229) rfl (by decide) (pc2 := 233) (by decide) (fun hc226 => absurd rfl hc226) (fun hc226 => ?_)
            refine g_iconst X90 hx (hb hby at_229) (pc' := 230) rfl (z := (1 : Int32)) rfl ?_
            refine g_goto X90 hx (hb hby at_230) (by decide) (pc' := 234) (by decide) ?_
            refine g_istore X90 hx (hb hby at_234) (pc' := 236) rfl (Ls' := #[.val (.int p0), .val (.int p1), .val (.int p2), .val (.int p3), .val (.int p4), .val (.int xx), .val (.int yy), .val (.int lo1), .val (.int hi1), .val (.int mm), .val (.int lo2), .val (.int hi2), .val (.ref b48), .val (.ref b58), .val (.int (0 : Int32)), .val (.ref b58), .val (.ref b48), .val (.int (1 : Int32)), .unset]) rfl ?_
            refine g_iload X90 hx (hb hby at_236) (pc' := 238) rfl rfl ?_
            refine g_if_eq X90 hx (hb hby at_238) (pc1 := 241) rfl (by decide) (pc2 := 255) (by decide) (fun hc238 => absurd hc238 (by decide)) (fun hc238 => ?_)
            refine g_aload X90 hx (hb hby at_241) (pc' := 243) rfl rfl rfl ?_
            refine g_aload X90 hx (hb hby at_243) (pc' := 245) rfl rfl rfl ?_
            obtain ⟨v91, T91, h91, L91, X91, e91, N91, q91, st91⟩ := h_virtual (a := b48) (z := (⟨"com/example/stream_log_client/streamlogclient/protocol/VersionRange", "equals", "(Ljava/lang/Object;)Z"⟩ : MethodName)) X90 hx (W := 0) (Ls := #[.val (.int p0), .val (.int p1), .val (.int p2), .val (.int p3), .val (.int p4), .val (.int xx), .val (.int yy), .val (.int lo1), .val (.int hi1), .val (.int mm), .val (.int lo2), .val (.int hi2), .val (.ref b48), .val (.ref b58), .val (.int (0 : Int32)), .val (.ref b58), .val (.ref b48), .val (.int (1 : Int32)), .unset]) (argsL := [(.ref b48)]) (rest := []) hZ e90 N90 hml hown (rm5a l Z a0 hw b48 b48 lo1 hi1 lo1 hi1 h68 n0 Z74 f71 f72 f71 f72 f70) f70 (hw _ (List.mem_of_getElem? (i := 20) rfl)) (hw _ (List.mem_of_getElem? (i := 21) rfl)) (notFace_of_selects (args := #[]) (mvT hZ (hw _ (List.mem_of_getElem? (i := 23) rfl)))) (hw _ (List.mem_of_getElem? (i := 23) rfl)) (hw _ (List.mem_of_getElem? (i := 22) rfl)) (hw _ (List.mem_of_getElem? (i := 9) rfl)) (hw _ (List.mem_of_getElem? (i := 24) rfl)) (by decide) pd__Ljava_lang_Object__Z rfl rfl (hb hby at_245) rfl (by decide) (by decide) (by decide) (by decide)
            obtain ⟨rfl, rfl⟩ := q91
            refine Go.movp st91 (mkF m 248 #[.val (.int p0), .val (.int p1), .val (.int p2), .val (.int p3), .val (.int p4), .val (.int xx), .val (.int yy), .val (.int lo1), .val (.int hi1), .val (.int mm), .val (.int lo2), .val (.int hi2), .val (.ref b48), .val (.ref b58), .val (.int (0 : Int32)), .val (.ref b58), .val (.ref b48), .val (.int (1 : Int32)), .unset] [(.int (eqV lo1 hi1 lo1 hi1))]) rfl ?_
            refine Go.cast (show (mkF m 248 #[.val (.int p0), .val (.int p1), .val (.int p2), .val (.int p3), .val (.int p4), .val (.int xx), .val (.int yy), .val (.int lo1), .val (.int hi1), .val (.int mm), .val (.int lo2), .val (.int hi2), .val (.ref b48), .val (.ref b58), .val (.int (0 : Int32)), .val (.ref b58), .val (.ref b48), .val (.int (1 : Int32)), .unset] [(.int (eqV lo1 hi1 lo1 hi1))]) = (mkF m 248 #[.val (.int p0), .val (.int p1), .val (.int p2), .val (.int p3), .val (.int p4), .val (.int xx), .val (.int yy), .val (.int lo1), .val (.int hi1), .val (.int mm), .val (.int lo2), .val (.int hi2), .val (.ref b48), .val (.ref b58), .val (.int (0 : Int32)), .val (.ref b58), .val (.ref b48), .val (.int (1 : Int32)), .unset] [(.int (1 : Int32))]) from by rw [show (eqV lo1 hi1 lo1 hi1) = (1 : Int32) from (if_pos ⟨rfl, rfl⟩)]) ?_
            refine g_if_eq X91 hx (hb hby at_248) (pc1 := 251) rfl (by decide) (pc2 := 255) (by decide) (fun hc248 => absurd hc248 (by decide)) (fun hc248 => ?_)
            refine g_iconst X91 hx (hb hby at_251) (pc' := 252) rfl (z := (1 : Int32)) rfl ?_
            refine g_goto X91 hx (hb hby at_252) (by decide) (pc' := 256) (by decide) ?_
            refine g_istore X91 hx (hb hby at_256) (pc' := 258) rfl (Ls' := #[.val (.int p0), .val (.int p1), .val (.int p2), .val (.int p3), .val (.int p4), .val (.int xx), .val (.int yy), .val (.int lo1), .val (.int hi1), .val (.int mm), .val (.int lo2), .val (.int hi2), .val (.ref b48), .val (.ref b58), .val (.int (0 : Int32)), .val (.ref b58), .val (.ref b48), .val (.int (1 : Int32)), .unset]) rfl ?_
            refine g_iload X91 hx (hb hby at_258) (pc' := 260) rfl rfl ?_
            refine g_if_eq X91 hx (hb hby at_260) (pc1 := 263) rfl (by decide) (pc2 := 276) (by decide) (fun hc260 => absurd hc260 (by decide)) (fun hc260 => ?_)
            refine g_aload X91 hx (hb hby at_263) (pc' := 265) rfl rfl rfl ?_
            refine g_aconst_null X91 hx (hb hby at_265) (pc' := 266) rfl ?_
            obtain ⟨v92, T92, h92, L92, X92, e92, N92, q92, st92⟩ := h_virtual (a := b48) (z := (⟨"com/example/stream_log_client/streamlogclient/protocol/VersionRange", "equals", "(Ljava/lang/Object;)Z"⟩ : MethodName)) X91 hx (W := 0) (Ls := #[.val (.int p0), .val (.int p1), .val (.int p2), .val (.int p3), .val (.int p4), .val (.int xx), .val (.int yy), .val (.int lo1), .val (.int hi1), .val (.int mm), .val (.int lo2), .val (.int hi2), .val (.ref b48), .val (.ref b58), .val (.int (0 : Int32)), .val (.ref b58), .val (.ref b48), .val (.int (1 : Int32)), .unset]) (argsL := [.null]) (rest := []) hZ e91 N91 hml hown (rm5b l Z a0 hw b48 h68 n0 Z74) f70 (hw _ (List.mem_of_getElem? (i := 20) rfl)) (hw _ (List.mem_of_getElem? (i := 21) rfl)) (notFace_of_selects (args := #[]) (mvT hZ (hw _ (List.mem_of_getElem? (i := 23) rfl)))) (hw _ (List.mem_of_getElem? (i := 23) rfl)) (hw _ (List.mem_of_getElem? (i := 22) rfl)) (hw _ (List.mem_of_getElem? (i := 9) rfl)) (hw _ (List.mem_of_getElem? (i := 24) rfl)) (by decide) pd__Ljava_lang_Object__Z rfl rfl (hb hby at_266) rfl (by decide) (by decide) (by decide) (by decide)
            obtain ⟨rfl, rfl⟩ := q92
            refine Go.movp st92 (mkF m 269 #[.val (.int p0), .val (.int p1), .val (.int p2), .val (.int p3), .val (.int p4), .val (.int xx), .val (.int yy), .val (.int lo1), .val (.int hi1), .val (.int mm), .val (.int lo2), .val (.int hi2), .val (.ref b48), .val (.ref b58), .val (.int (0 : Int32)), .val (.ref b58), .val (.ref b48), .val (.int (1 : Int32)), .unset] [(.int (0 : Int32))]) rfl ?_
            refine g_if_ne X92 hx (hb hby at_269) (pc1 := 272) rfl (by decide) (pc2 := 276) (by decide) (fun hc269 => absurd rfl hc269) (fun hc269 => ?_)
            refine g_iconst X92 hx (hb hby at_272) (pc' := 273) rfl (z := (1 : Int32)) rfl ?_
            refine g_goto X92 hx (hb hby at_273) (by decide) (pc' := 277) (by decide) ?_
            refine g_istore X92 hx (hb hby at_277) (pc' := 279) rfl (Ls' := #[.val (.int p0), .val (.int p1), .val (.int p2), .val (.int p3), .val (.int p4), .val (.int xx), .val (.int yy), .val (.int lo1), .val (.int hi1), .val (.int mm), .val (.int lo2), .val (.int hi2), .val (.ref b48), .val (.ref b58), .val (.int (0 : Int32)), .val (.ref b58), .val (.ref b48), .val (.int (1 : Int32)), .unset]) rfl ?_
            refine g_iload X92 hx (hb hby at_279) (pc' := 281) rfl rfl ?_
            obtain ⟨v93, T93, h93, L93, X93, e93, N93, q93, st93⟩ := h_static X92 hx (W := 0) (Ls := #[.val (.int p0), .val (.int p1), .val (.int p2), .val (.int p3), .val (.int p4), .val (.int xx), .val (.int yy), .val (.int lo1), .val (.int hi1), .val (.int mm), .val (.int lo2), .val (.int hi2), .val (.ref b48), .val (.ref b58), .val (.int (0 : Int32)), .val (.ref b58), .val (.ref b48), .val (.int (1 : Int32)), .unset]) (argsL := [(.int lo1)]) (rest := []) hZ e92 N92 hml hown (rm6 l Z a0 hw lo1 ca h68 n0 Z74 (Sta.ext f69.2 S1) (Sta.ext f69.2 S2) (own_cx CA f69.2) okl.1) (hw _ (List.mem_of_getElem? (i := 27) rfl)) (hw _ (List.mem_of_getElem? (i := 28) rfl)) (hw _ (List.mem_of_getElem? (i := 29) rfl)) (hw _ (List.mem_of_getElem? (i := 30) rfl)) (by decide) pd__I_Ljava_lang_Integer_ rfl rfl (hb hby at_281) rfl (by decide) (by decide) (by decide) (by decide)
            obtain ⟨r93, rfl, K93, A93⟩ := q93
            have f94 := f69.keep K93 all0
            have f95 := f70.keep K93
            have f96 := f71.keep K93 nin0
            have f97 := f72.keep K93 nin0
            have f98 := A68.keep K93
            have f99 := P68.keep K93 nin0
            have f100 := Q68.keep K93 nin0
            have Z101 : n0 ≤ h93.size := Nat.le_trans Z74 K93.1
            refine Go.movp st93 (mkF m 284 #[.val (.int p0), .val (.int p1), .val (.int p2), .val (.int p3), .val (.int p4), .val (.int xx), .val (.int yy), .val (.int lo1), .val (.int hi1), .val (.int mm), .val (.int lo2), .val (.int hi2), .val (.ref b48), .val (.ref b58), .val (.int (0 : Int32)), .val (.ref b58), .val (.ref b48), .val (.int (1 : Int32)), .unset] [(.ref r93)]) rfl ?_
            refine g_astore X93 hx (hb hby at_284) (pc' := 286) rfl rfl (Ls' := #[.val (.int p0), .val (.int p1), .val (.int p2), .val (.int p3), .val (.int p4), .val (.int xx), .val (.int yy), .val (.int lo1), .val (.int hi1), .val (.int mm), .val (.int lo2), .val (.int hi2), .val (.ref b48), .val (.ref b58), .val (.int (0 : Int32)), .val (.ref b58), .val (.ref b48), .val (.int (1 : Int32)), .val (.ref r93)]) rfl ?_
            refine g_iload X93 hx (hb hby at_286) (pc' := 288) rfl rfl ?_
            refine g_if_eq X93 hx (hb hby at_288) (pc1 := 291) rfl (by decide) (pc2 := 305) (by decide) (fun hc288 => absurd hc288 (by decide)) (fun hc288 => ?_)
            refine g_aload X93 hx (hb hby at_291) (pc' := 293) rfl rfl rfl ?_
            refine g_aload X93 hx (hb hby at_293) (pc' := 295) rfl rfl rfl ?_
            obtain ⟨v102, T102, h102, L102, X102, e102, N102, q102, st102⟩ := h_virtual (a := b48) (z := (⟨"com/example/stream_log_client/streamlogclient/protocol/VersionRange", "equals", "(Ljava/lang/Object;)Z"⟩ : MethodName)) X93 hx (W := 0) (Ls := #[.val (.int p0), .val (.int p1), .val (.int p2), .val (.int p3), .val (.int p4), .val (.int xx), .val (.int yy), .val (.int lo1), .val (.int hi1), .val (.int mm), .val (.int lo2), .val (.int hi2), .val (.ref b48), .val (.ref b58), .val (.int (0 : Int32)), .val (.ref b58), .val (.ref b48), .val (.int (1 : Int32)), .val (.ref r93)]) (argsL := [(.ref r93)]) (rest := []) hZ e93 N93 hml hown (rm5c l Z a0 hw b48 r93 h93 n0 Z101 A93) f95 (hw _ (List.mem_of_getElem? (i := 20) rfl)) (hw _ (List.mem_of_getElem? (i := 21) rfl)) (notFace_of_selects (args := #[]) (mvT hZ (hw _ (List.mem_of_getElem? (i := 23) rfl)))) (hw _ (List.mem_of_getElem? (i := 23) rfl)) (hw _ (List.mem_of_getElem? (i := 22) rfl)) (hw _ (List.mem_of_getElem? (i := 9) rfl)) (hw _ (List.mem_of_getElem? (i := 24) rfl)) (by decide) pd__Ljava_lang_Object__Z rfl rfl (hb hby at_295) rfl (by decide) (by decide) (by decide) (by decide)
            obtain ⟨rfl, rfl⟩ := q102
            refine Go.movp st102 (mkF m 298 #[.val (.int p0), .val (.int p1), .val (.int p2), .val (.int p3), .val (.int p4), .val (.int xx), .val (.int yy), .val (.int lo1), .val (.int hi1), .val (.int mm), .val (.int lo2), .val (.int hi2), .val (.ref b48), .val (.ref b58), .val (.int (0 : Int32)), .val (.ref b58), .val (.ref b48), .val (.int (1 : Int32)), .val (.ref r93)] [(.int (0 : Int32))]) rfl ?_
            refine g_if_ne X102 hx (hb hby at_298) (pc1 := 301) rfl (by decide) (pc2 := 305) (by decide) (fun hc298 => absurd rfl hc298) (fun hc298 => ?_)
            refine g_iconst X102 hx (hb hby at_301) (pc' := 302) rfl (z := (1 : Int32)) rfl ?_
            refine g_goto X102 hx (hb hby at_302) (by decide) (pc' := 306) (by decide) ?_
            refine g_istore X102 hx (hb hby at_306) (pc' := 308) rfl (Ls' := #[.val (.int p0), .val (.int p1), .val (.int p2), .val (.int p3), .val (.int p4), .val (.int xx), .val (.int yy), .val (.int lo1), .val (.int hi1), .val (.int mm), .val (.int lo2), .val (.int hi2), .val (.ref b48), .val (.ref b58), .val (.int (0 : Int32)), .val (.ref b58), .val (.ref b48), .val (.int (1 : Int32)), .val (.ref r93)]) rfl ?_
            refine g_iload X102 hx (hb hby at_308) (pc' := 310) rfl rfl ?_
            exact g_zreturn X102 hx rfl hret (hb hby at_310) N102 hlk (fun v t => endF (by decide) (by decide) v) (by rw [e102]; exact rfl)
          · skip
            refine g_iconst X68 hx (hb hby at_178) (pc' := 179) rfl (z := (1 : Int32)) rfl ?_
            refine g_goto X68 hx (hb hby at_179) (by decide) (pc' := 183) (by decide) ?_
            refine g_istore X68 hx (hb hby at_183) (pc' := 185) rfl (Ls' := #[.val (.int p0), .val (.int p1), .val (.int p2), .val (.int p3), .val (.int p4), .val (.int xx), .val (.int yy), .val (.int lo1), .val (.int hi1), .val (.int mm), .val (.int lo2), .val (.int hi2), .val (.ref b48), .val (.ref b58), .val (.int (1 : Int32)), .unset, .unset, .unset, .unset]) rfl ?_
            refine g_aload X68 hx (hb hby at_185) (pc' := 187) rfl rfl rfl ?_
            refine g_astore X68 hx (hb hby at_187) (pc' := 189) rfl rfl (Ls' := #[.val (.int p0), .val (.int p1), .val (.int p2), .val (.int p3), .val (.int p4), .val (.int xx), .val (.int yy), .val (.int lo1), .val (.int hi1), .val (.int mm), .val (.int lo2), .val (.int hi2), .val (.ref b48), .val (.ref b58), .val (.int (1 : Int32)), .val (.ref b58), .unset, .unset, .unset]) rfl ?_
            refine g_aload X68 hx (hb hby at_189) (pc' := 191) rfl rfl rfl ?_
            refine g_astore X68 hx (hb hby at_191) (pc' := 193) rfl rfl (Ls' := #[.val (.int p0), .val (.int p1), .val (.int p2), .val (.int p3), .val (.int p4), .val (.int xx), .val (.int yy), .val (.int lo1), .val (.int hi1), .val (.int mm), .val (.int lo2), .val (.int hi2), .val (.ref b48), .val (.ref b58), .val (.int (1 : Int32)), .val (.ref b58), .val (.ref b48), .unset, .unset]) rfl ?_
            refine g_aload X68 hx (hb hby at_193) (pc' := 195) rfl rfl rfl ?_
            refine g_aload X68 hx (hb hby at_195) (pc' := 197) rfl rfl rfl ?_
            obtain ⟨v103, T103, h103, L103, X103, e103, N103, q103, st103⟩ := h_virtual (a := b48) (z := (⟨"com/example/stream_log_client/streamlogclient/protocol/VersionRange", "equals", "(Ljava/lang/Object;)Z"⟩ : MethodName)) X68 hx (W := 0) (Ls := #[.val (.int p0), .val (.int p1), .val (.int p2), .val (.int p3), .val (.int p4), .val (.int xx), .val (.int yy), .val (.int lo1), .val (.int hi1), .val (.int mm), .val (.int lo2), .val (.int hi2), .val (.ref b48), .val (.ref b58), .val (.int (1 : Int32)), .val (.ref b58), .val (.ref b48), .unset, .unset]) (argsL := [(.ref b58)]) (rest := []) hZ e68 N68 hml hown (rm5a l Z a0 hw b48 b58 lo1 hi1 lo2 hi2 h68 n0 Z74 f71 f72 P68 Q68 A68) f70 (hw _ (List.mem_of_getElem? (i := 20) rfl)) (hw _ (List.mem_of_getElem? (i := 21) rfl)) (notFace_of_selects (args := #[]) (mvT hZ (hw _ (List.mem_of_getElem? (i := 23) rfl)))) (hw _ (List.mem_of_getElem? (i := 23) rfl)) (hw _ (List.mem_of_getElem? (i := 22) rfl)) (hw _ (List.mem_of_getElem? (i := 9) rfl)) (hw _ (List.mem_of_getElem? (i := 24) rfl)) (by decide) pd__Ljava_lang_Object__Z rfl rfl (hb hby at_197) rfl (by decide) (by decide) (by decide) (by decide)
            obtain ⟨rfl, rfl⟩ := q103
            refine Go.movp st103 (mkF m 200 #[.val (.int p0), .val (.int p1), .val (.int p2), .val (.int p3), .val (.int p4), .val (.int xx), .val (.int yy), .val (.int lo1), .val (.int hi1), .val (.int mm), .val (.int lo2), .val (.int hi2), .val (.ref b48), .val (.ref b58), .val (.int (1 : Int32)), .val (.ref b58), .val (.ref b48), .unset, .unset] [(.int (eqV lo1 hi1 lo2 hi2))]) rfl ?_
            refine Go.cast (show (mkF m 200 #[.val (.int p0), .val (.int p1), .val (.int p2), .val (.int p3), .val (.int p4), .val (.int xx), .val (.int yy), .val (.int lo1), .val (.int hi1), .val (.int mm), .val (.int lo2), .val (.int hi2), .val (.ref b48), .val (.ref b58), .val (.int (1 : Int32)), .val (.ref b58), .val (.ref b48), .unset, .unset] [(.int (eqV lo1 hi1 lo2 hi2))]) = (mkF m 200 #[.val (.int p0), .val (.int p1), .val (.int p2), .val (.int p3), .val (.int p4), .val (.int xx), .val (.int yy), .val (.int lo1), .val (.int hi1), .val (.int mm), .val (.int lo2), .val (.int hi2), .val (.ref b48), .val (.ref b58), .val (.int (1 : Int32)), .val (.ref b58), .val (.ref b48), .unset, .unset] [(.int (1 : Int32))]) from by rw [show (eqV lo1 hi1 lo2 hi2) = (1 : Int32) from (if_pos ⟨hc168, hc175⟩)]) ?_
            refine g_iload X103 hx (hb hby at_200) (pc' := 202) rfl rfl ?_
            refine g_icmp_ne X103 hx (hb hby at_202) (pc1 := 205) rfl (by decide) (pc2 := 209) (by decide) (fun hc202 => absurd rfl hc202) (fun hc202 => ?_)
            refine g_iconst X103 hx (hb hby at_205) (pc' := 206) rfl (z := (1 : Int32)) rfl ?_
            refine g_goto X103 hx (hb hby at_206) (by decide) (pc' := 210) (by decide) ?_
            refine g_istore X103 hx (hb hby at_210) (pc' := 212) rfl (Ls' := #[.val (.int p0), .val (.int p1), .val (.int p2), .val (.int p3), .val (.int p4), .val (.int xx), .val (.int yy), .val (.int lo1), .val (.int hi1), .val (.int mm), .val (.int lo2), .val (.int hi2), .val (.ref b48), .val (.ref b58), .val (.int (1 : Int32)), .val (.ref b58), .val (.ref b48), .val (.int (1 : Int32)), .unset]) rfl ?_
            refine g_iload X103 hx (hb hby at_212) (pc' := 214) rfl rfl ?_
            refine g_if_eq X103 hx (hb hby at_214) (pc1 := 217) rfl (by decide) (pc2 := 233) (by decide) (fun hc214 => absurd hc214 (by decide)) (fun hc214 => ?_)
            refine g_aload X103 hx (hb hby at_217) (pc' := 219) rfl rfl rfl ?_
            refine g_aload X103 hx (hb hby at_219) (pc' := 221) rfl rfl rfl ?_
            obtain ⟨v104, T104, h104, L104, X104, e104, N104, q104, st104⟩ := h_virtual (a := b58) (z := (⟨"com/example/stream_log_client/streamlogclient/protocol/VersionRange", "equals", "(Ljava/lang/Object;)Z"⟩ : MethodName)) X103 hx (W := 0) (Ls := #[.val (.int p0), .val (.int p1), .val (.int p2), .val (.int p3), .val (.int p4), .val (.int xx), .val (.int yy), .val (.int lo1), .val (.int hi1), .val (.int mm), .val (.int lo2), .val (.int hi2), .val (.ref b48), .val (.ref b58), .val (.int (1 : Int32)), .val (.ref b58), .val (.ref b48), .val (.int (1 : Int32)), .unset]) (argsL := [(.ref b48)]) (rest := []) hZ e103 N103 hml hown (rm5a l Z a0 hw b58 b48 lo2 hi2 lo1 hi1 h68 n0 Z74 P68 Q68 f71 f72 f70) A68 (hw _ (List.mem_of_getElem? (i := 20) rfl)) (hw _ (List.mem_of_getElem? (i := 21) rfl)) (notFace_of_selects (args := #[]) (mvT hZ (hw _ (List.mem_of_getElem? (i := 23) rfl)))) (hw _ (List.mem_of_getElem? (i := 23) rfl)) (hw _ (List.mem_of_getElem? (i := 22) rfl)) (hw _ (List.mem_of_getElem? (i := 9) rfl)) (hw _ (List.mem_of_getElem? (i := 24) rfl)) (by decide) pd__Ljava_lang_Object__Z rfl rfl (hb hby at_221) rfl (by decide) (by decide) (by decide) (by decide)
            obtain ⟨rfl, rfl⟩ := q104
            refine Go.movp st104 (mkF m 224 #[.val (.int p0), .val (.int p1), .val (.int p2), .val (.int p3), .val (.int p4), .val (.int xx), .val (.int yy), .val (.int lo1), .val (.int hi1), .val (.int mm), .val (.int lo2), .val (.int hi2), .val (.ref b48), .val (.ref b58), .val (.int (1 : Int32)), .val (.ref b58), .val (.ref b48), .val (.int (1 : Int32)), .unset] [(.int (eqV lo2 hi2 lo1 hi1))]) rfl ?_
            refine Go.cast (show (mkF m 224 #[.val (.int p0), .val (.int p1), .val (.int p2), .val (.int p3), .val (.int p4), .val (.int xx), .val (.int yy), .val (.int lo1), .val (.int hi1), .val (.int mm), .val (.int lo2), .val (.int hi2), .val (.ref b48), .val (.ref b58), .val (.int (1 : Int32)), .val (.ref b58), .val (.ref b48), .val (.int (1 : Int32)), .unset] [(.int (eqV lo2 hi2 lo1 hi1))]) = (mkF m 224 #[.val (.int p0), .val (.int p1), .val (.int p2), .val (.int p3), .val (.int p4), .val (.int xx), .val (.int yy), .val (.int lo1), .val (.int hi1), .val (.int mm), .val (.int lo2), .val (.int hi2), .val (.ref b48), .val (.ref b58), .val (.int (1 : Int32)), .val (.ref b58), .val (.ref b48), .val (.int (1 : Int32)), .unset] [(.int (1 : Int32))]) from by rw [show (eqV lo2 hi2 lo1 hi1) = (1 : Int32) from (if_pos ⟨hc168.symm, hc175.symm⟩)]) ?_
            refine g_iload X104 hx (hb hby at_224) (pc' := 226) rfl rfl ?_
            refine g_icmp_ne X104 hx (hb hby at_226) (pc1 := 229) rfl (by decide) (pc2 := 233) (by decide) (fun hc226 => absurd rfl hc226) (fun hc226 => ?_)
            refine g_iconst X104 hx (hb hby at_229) (pc' := 230) rfl (z := (1 : Int32)) rfl ?_
            refine g_goto X104 hx (hb hby at_230) (by decide) (pc' := 234) (by decide) ?_
            refine g_istore X104 hx (hb hby at_234) (pc' := 236) rfl (Ls' := #[.val (.int p0), .val (.int p1), .val (.int p2), .val (.int p3), .val (.int p4), .val (.int xx), .val (.int yy), .val (.int lo1), .val (.int hi1), .val (.int mm), .val (.int lo2), .val (.int hi2), .val (.ref b48), .val (.ref b58), .val (.int (1 : Int32)), .val (.ref b58), .val (.ref b48), .val (.int (1 : Int32)), .unset]) rfl ?_
            refine g_iload X104 hx (hb hby at_236) (pc' := 238) rfl rfl ?_
            refine g_if_eq X104 hx (hb hby at_238) (pc1 := 241) rfl (by decide) (pc2 := 255) (by decide) (fun hc238 => absurd hc238 (by decide)) (fun hc238 => ?_)
            refine g_aload X104 hx (hb hby at_241) (pc' := 243) rfl rfl rfl ?_
            refine g_aload X104 hx (hb hby at_243) (pc' := 245) rfl rfl rfl ?_
            obtain ⟨v105, T105, h105, L105, X105, e105, N105, q105, st105⟩ := h_virtual (a := b48) (z := (⟨"com/example/stream_log_client/streamlogclient/protocol/VersionRange", "equals", "(Ljava/lang/Object;)Z"⟩ : MethodName)) X104 hx (W := 0) (Ls := #[.val (.int p0), .val (.int p1), .val (.int p2), .val (.int p3), .val (.int p4), .val (.int xx), .val (.int yy), .val (.int lo1), .val (.int hi1), .val (.int mm), .val (.int lo2), .val (.int hi2), .val (.ref b48), .val (.ref b58), .val (.int (1 : Int32)), .val (.ref b58), .val (.ref b48), .val (.int (1 : Int32)), .unset]) (argsL := [(.ref b48)]) (rest := []) hZ e104 N104 hml hown (rm5a l Z a0 hw b48 b48 lo1 hi1 lo1 hi1 h68 n0 Z74 f71 f72 f71 f72 f70) f70 (hw _ (List.mem_of_getElem? (i := 20) rfl)) (hw _ (List.mem_of_getElem? (i := 21) rfl)) (notFace_of_selects (args := #[]) (mvT hZ (hw _ (List.mem_of_getElem? (i := 23) rfl)))) (hw _ (List.mem_of_getElem? (i := 23) rfl)) (hw _ (List.mem_of_getElem? (i := 22) rfl)) (hw _ (List.mem_of_getElem? (i := 9) rfl)) (hw _ (List.mem_of_getElem? (i := 24) rfl)) (by decide) pd__Ljava_lang_Object__Z rfl rfl (hb hby at_245) rfl (by decide) (by decide) (by decide) (by decide)
            obtain ⟨rfl, rfl⟩ := q105
            refine Go.movp st105 (mkF m 248 #[.val (.int p0), .val (.int p1), .val (.int p2), .val (.int p3), .val (.int p4), .val (.int xx), .val (.int yy), .val (.int lo1), .val (.int hi1), .val (.int mm), .val (.int lo2), .val (.int hi2), .val (.ref b48), .val (.ref b58), .val (.int (1 : Int32)), .val (.ref b58), .val (.ref b48), .val (.int (1 : Int32)), .unset] [(.int (eqV lo1 hi1 lo1 hi1))]) rfl ?_
            refine Go.cast (show (mkF m 248 #[.val (.int p0), .val (.int p1), .val (.int p2), .val (.int p3), .val (.int p4), .val (.int xx), .val (.int yy), .val (.int lo1), .val (.int hi1), .val (.int mm), .val (.int lo2), .val (.int hi2), .val (.ref b48), .val (.ref b58), .val (.int (1 : Int32)), .val (.ref b58), .val (.ref b48), .val (.int (1 : Int32)), .unset] [(.int (eqV lo1 hi1 lo1 hi1))]) = (mkF m 248 #[.val (.int p0), .val (.int p1), .val (.int p2), .val (.int p3), .val (.int p4), .val (.int xx), .val (.int yy), .val (.int lo1), .val (.int hi1), .val (.int mm), .val (.int lo2), .val (.int hi2), .val (.ref b48), .val (.ref b58), .val (.int (1 : Int32)), .val (.ref b58), .val (.ref b48), .val (.int (1 : Int32)), .unset] [(.int (1 : Int32))]) from by rw [show (eqV lo1 hi1 lo1 hi1) = (1 : Int32) from (if_pos ⟨rfl, rfl⟩)]) ?_
            refine g_if_eq X105 hx (hb hby at_248) (pc1 := 251) rfl (by decide) (pc2 := 255) (by decide) (fun hc248 => absurd hc248 (by decide)) (fun hc248 => ?_)
            refine g_iconst X105 hx (hb hby at_251) (pc' := 252) rfl (z := (1 : Int32)) rfl ?_
            refine g_goto X105 hx (hb hby at_252) (by decide) (pc' := 256) (by decide) ?_
            refine g_istore X105 hx (hb hby at_256) (pc' := 258) rfl (Ls' := #[.val (.int p0), .val (.int p1), .val (.int p2), .val (.int p3), .val (.int p4), .val (.int xx), .val (.int yy), .val (.int lo1), .val (.int hi1), .val (.int mm), .val (.int lo2), .val (.int hi2), .val (.ref b48), .val (.ref b58), .val (.int (1 : Int32)), .val (.ref b58), .val (.ref b48), .val (.int (1 : Int32)), .unset]) rfl ?_
            refine g_iload X105 hx (hb hby at_258) (pc' := 260) rfl rfl ?_
            refine g_if_eq X105 hx (hb hby at_260) (pc1 := 263) rfl (by decide) (pc2 := 276) (by decide) (fun hc260 => absurd hc260 (by decide)) (fun hc260 => ?_)
            refine g_aload X105 hx (hb hby at_263) (pc' := 265) rfl rfl rfl ?_
            refine g_aconst_null X105 hx (hb hby at_265) (pc' := 266) rfl ?_
            obtain ⟨v106, T106, h106, L106, X106, e106, N106, q106, st106⟩ := h_virtual (a := b48) (z := (⟨"com/example/stream_log_client/streamlogclient/protocol/VersionRange", "equals", "(Ljava/lang/Object;)Z"⟩ : MethodName)) X105 hx (W := 0) (Ls := #[.val (.int p0), .val (.int p1), .val (.int p2), .val (.int p3), .val (.int p4), .val (.int xx), .val (.int yy), .val (.int lo1), .val (.int hi1), .val (.int mm), .val (.int lo2), .val (.int hi2), .val (.ref b48), .val (.ref b58), .val (.int (1 : Int32)), .val (.ref b58), .val (.ref b48), .val (.int (1 : Int32)), .unset]) (argsL := [.null]) (rest := []) hZ e105 N105 hml hown (rm5b l Z a0 hw b48 h68 n0 Z74) f70 (hw _ (List.mem_of_getElem? (i := 20) rfl)) (hw _ (List.mem_of_getElem? (i := 21) rfl)) (notFace_of_selects (args := #[]) (mvT hZ (hw _ (List.mem_of_getElem? (i := 23) rfl)))) (hw _ (List.mem_of_getElem? (i := 23) rfl)) (hw _ (List.mem_of_getElem? (i := 22) rfl)) (hw _ (List.mem_of_getElem? (i := 9) rfl)) (hw _ (List.mem_of_getElem? (i := 24) rfl)) (by decide) pd__Ljava_lang_Object__Z rfl rfl (hb hby at_266) rfl (by decide) (by decide) (by decide) (by decide)
            obtain ⟨rfl, rfl⟩ := q106
            refine Go.movp st106 (mkF m 269 #[.val (.int p0), .val (.int p1), .val (.int p2), .val (.int p3), .val (.int p4), .val (.int xx), .val (.int yy), .val (.int lo1), .val (.int hi1), .val (.int mm), .val (.int lo2), .val (.int hi2), .val (.ref b48), .val (.ref b58), .val (.int (1 : Int32)), .val (.ref b58), .val (.ref b48), .val (.int (1 : Int32)), .unset] [(.int (0 : Int32))]) rfl ?_
            refine g_if_ne X106 hx (hb hby at_269) (pc1 := 272) rfl (by decide) (pc2 := 276) (by decide) (fun hc269 => absurd rfl hc269) (fun hc269 => ?_)
            refine g_iconst X106 hx (hb hby at_272) (pc' := 273) rfl (z := (1 : Int32)) rfl ?_
            refine g_goto X106 hx (hb hby at_273) (by decide) (pc' := 277) (by decide) ?_
            refine g_istore X106 hx (hb hby at_277) (pc' := 279) rfl (Ls' := #[.val (.int p0), .val (.int p1), .val (.int p2), .val (.int p3), .val (.int p4), .val (.int xx), .val (.int yy), .val (.int lo1), .val (.int hi1), .val (.int mm), .val (.int lo2), .val (.int hi2), .val (.ref b48), .val (.ref b58), .val (.int (1 : Int32)), .val (.ref b58), .val (.ref b48), .val (.int (1 : Int32)), .unset]) rfl ?_
            refine g_iload X106 hx (hb hby at_279) (pc' := 281) rfl rfl ?_
            obtain ⟨v107, T107, h107, L107, X107, e107, N107, q107, st107⟩ := h_static X106 hx (W := 0) (Ls := #[.val (.int p0), .val (.int p1), .val (.int p2), .val (.int p3), .val (.int p4), .val (.int xx), .val (.int yy), .val (.int lo1), .val (.int hi1), .val (.int mm), .val (.int lo2), .val (.int hi2), .val (.ref b48), .val (.ref b58), .val (.int (1 : Int32)), .val (.ref b58), .val (.ref b48), .val (.int (1 : Int32)), .unset]) (argsL := [(.int lo1)]) (rest := []) hZ e106 N106 hml hown (rm6 l Z a0 hw lo1 ca h68 n0 Z74 (Sta.ext f69.2 S1) (Sta.ext f69.2 S2) (own_cx CA f69.2) okl.1) (hw _ (List.mem_of_getElem? (i := 27) rfl)) (hw _ (List.mem_of_getElem? (i := 28) rfl)) (hw _ (List.mem_of_getElem? (i := 29) rfl)) (hw _ (List.mem_of_getElem? (i := 30) rfl)) (by decide) pd__I_Ljava_lang_Integer_ rfl rfl (hb hby at_281) rfl (by decide) (by decide) (by decide) (by decide)
            obtain ⟨r107, rfl, K107, A107⟩ := q107
            have f108 := f69.keep K107 all0
            have f109 := f70.keep K107
            have f110 := f71.keep K107 nin0
            have f111 := f72.keep K107 nin0
            have f112 := A68.keep K107
            have f113 := P68.keep K107 nin0
            have f114 := Q68.keep K107 nin0
            have Z115 : n0 ≤ h107.size := Nat.le_trans Z74 K107.1
            refine Go.movp st107 (mkF m 284 #[.val (.int p0), .val (.int p1), .val (.int p2), .val (.int p3), .val (.int p4), .val (.int xx), .val (.int yy), .val (.int lo1), .val (.int hi1), .val (.int mm), .val (.int lo2), .val (.int hi2), .val (.ref b48), .val (.ref b58), .val (.int (1 : Int32)), .val (.ref b58), .val (.ref b48), .val (.int (1 : Int32)), .unset] [(.ref r107)]) rfl ?_
            refine g_astore X107 hx (hb hby at_284) (pc' := 286) rfl rfl (Ls' := #[.val (.int p0), .val (.int p1), .val (.int p2), .val (.int p3), .val (.int p4), .val (.int xx), .val (.int yy), .val (.int lo1), .val (.int hi1), .val (.int mm), .val (.int lo2), .val (.int hi2), .val (.ref b48), .val (.ref b58), .val (.int (1 : Int32)), .val (.ref b58), .val (.ref b48), .val (.int (1 : Int32)), .val (.ref r107)]) rfl ?_
            refine g_iload X107 hx (hb hby at_286) (pc' := 288) rfl rfl ?_
            refine g_if_eq X107 hx (hb hby at_288) (pc1 := 291) rfl (by decide) (pc2 := 305) (by decide) (fun hc288 => absurd hc288 (by decide)) (fun hc288 => ?_)
            refine g_aload X107 hx (hb hby at_291) (pc' := 293) rfl rfl rfl ?_
            refine g_aload X107 hx (hb hby at_293) (pc' := 295) rfl rfl rfl ?_
            obtain ⟨v116, T116, h116, L116, X116, e116, N116, q116, st116⟩ := h_virtual (a := b48) (z := (⟨"com/example/stream_log_client/streamlogclient/protocol/VersionRange", "equals", "(Ljava/lang/Object;)Z"⟩ : MethodName)) X107 hx (W := 0) (Ls := #[.val (.int p0), .val (.int p1), .val (.int p2), .val (.int p3), .val (.int p4), .val (.int xx), .val (.int yy), .val (.int lo1), .val (.int hi1), .val (.int mm), .val (.int lo2), .val (.int hi2), .val (.ref b48), .val (.ref b58), .val (.int (1 : Int32)), .val (.ref b58), .val (.ref b48), .val (.int (1 : Int32)), .val (.ref r107)]) (argsL := [(.ref r107)]) (rest := []) hZ e107 N107 hml hown (rm5c l Z a0 hw b48 r107 h107 n0 Z115 A107) f109 (hw _ (List.mem_of_getElem? (i := 20) rfl)) (hw _ (List.mem_of_getElem? (i := 21) rfl)) (notFace_of_selects (args := #[]) (mvT hZ (hw _ (List.mem_of_getElem? (i := 23) rfl)))) (hw _ (List.mem_of_getElem? (i := 23) rfl)) (hw _ (List.mem_of_getElem? (i := 22) rfl)) (hw _ (List.mem_of_getElem? (i := 9) rfl)) (hw _ (List.mem_of_getElem? (i := 24) rfl)) (by decide) pd__Ljava_lang_Object__Z rfl rfl (hb hby at_295) rfl (by decide) (by decide) (by decide) (by decide)
            obtain ⟨rfl, rfl⟩ := q116
            refine Go.movp st116 (mkF m 298 #[.val (.int p0), .val (.int p1), .val (.int p2), .val (.int p3), .val (.int p4), .val (.int xx), .val (.int yy), .val (.int lo1), .val (.int hi1), .val (.int mm), .val (.int lo2), .val (.int hi2), .val (.ref b48), .val (.ref b58), .val (.int (1 : Int32)), .val (.ref b58), .val (.ref b48), .val (.int (1 : Int32)), .val (.ref r107)] [(.int (0 : Int32))]) rfl ?_
            refine g_if_ne X116 hx (hb hby at_298) (pc1 := 301) rfl (by decide) (pc2 := 305) (by decide) (fun hc298 => absurd rfl hc298) (fun hc298 => ?_)
            refine g_iconst X116 hx (hb hby at_301) (pc' := 302) rfl (z := (1 : Int32)) rfl ?_
            refine g_goto X116 hx (hb hby at_302) (by decide) (pc' := 306) (by decide) ?_
            refine g_istore X116 hx (hb hby at_306) (pc' := 308) rfl (Ls' := #[.val (.int p0), .val (.int p1), .val (.int p2), .val (.int p3), .val (.int p4), .val (.int xx), .val (.int yy), .val (.int lo1), .val (.int hi1), .val (.int mm), .val (.int lo2), .val (.int hi2), .val (.ref b48), .val (.ref b58), .val (.int (1 : Int32)), .val (.ref b58), .val (.ref b48), .val (.int (1 : Int32)), .val (.ref r107)]) rfl ?_
            refine g_iload X116 hx (hb hby at_308) (pc' := 310) rfl rfl ?_
            exact g_zreturn X116 hx rfl hret (hb hby at_310) N116 hlk (fun v t => endF (by decide) (by decide) v) (by rw [e116]; exact rfl)
      · skip
        refine g_iload X45 hx (hb hby at_84) (pc' := 86) rfl rfl ?_
        refine g_istore X45 hx (hb hby at_86) (pc' := 88) rfl (Ls' := #[.val (.int p0), .val (.int p1), .val (.int p2), .val (.int p3), .val (.int p4), .val (.int xx), .val (.int yy), .val (.int lo1), .val (.int hi1), .val (.int mm), .val (.int lo1), .unset, .unset, .unset, .unset, .unset, .unset, .unset, .unset]) rfl ?_
        refine g_iload X45 hx (hb hby at_88) (pc' := 90) rfl rfl ?_
        refine g_iloadN X45 hx (hb hby at_90) (pc' := 91) rfl rfl ?_
        refine g_ldc X45 hx hZ hown (hw _ (List.mem_of_getElem? (i := 37) rfl)) (hb hby at_91) (pc' := 93) rfl ?_
        refine g_iand X45 hx (hb hby at_93) (pc' := 94) rfl ?_
        refine g_ldc X45 hx hZ hown (hw _ (List.mem_of_getElem? (i := 53) rfl)) (hb hby at_94) (pc' := 96) rfl ?_
        refine g_iload X45 hx (hb hby at_96) (pc' := 98) rfl rfl ?_
        refine g_isub X45 hx (hb hby at_98) (pc' := 99) rfl ?_
        refine g_irem X45 hx (hb hby at_99) (pc' := 100) rfl (own_p2 okh).1 ?_
        refine g_iadd X45 hx (hb hby at_100) (pc' := 101) rfl ?_
        refine g_istore X45 hx (hb hby at_101) (pc' := 103) rfl (Ls' := #[.val (.int p0), .val (.int p1), .val (.int p2), .val (.int p3), .val (.int p4), .val (.int xx), .val (.int yy), .val (.int lo1), .val (.int hi1), .val (.int mm), .val (.int lo1), .val (.int (hi1 + ((p3 &&& (2147483647 : Int32)) % ((32768 : Int32) - hi1)))), .unset, .unset, .unset, .unset, .unset, .unset, .unset]) rfl ?_
        refine g_goto X45 hx (hb hby at_103) (by decide) (pc' := 138) (by decide) ?_
        obtain ⟨lo2, elo2⟩ : ∃ z : Int32, z = lo1 := ⟨_, rfl⟩
        refine Go.cast (show (mkF m 138 #[.val (.int p0), .val (.int p1), .val (.int p2), .val (.int p3), .val (.int p4), .val (.int xx), .val (.int yy), .val (.int lo1), .val (.int hi1), .val (.int mm), .val (.int lo1), .val (.int (hi1 + ((p3 &&& (2147483647 : Int32)) % ((32768 : Int32) - hi1)))), .unset, .unset, .unset, .unset, .unset, .unset, .unset] []) = (mkF m 138 #[.val (.int p0), .val (.int p1), .val (.int p2), .val (.int p3), .val (.int p4), .val (.int xx), .val (.int yy), .val (.int lo1), .val (.int hi1), .val (.int mm), .val (.int lo2), .val (.int (hi1 + ((p3 &&& (2147483647 : Int32)) % ((32768 : Int32) - hi1)))), .unset, .unset, .unset, .unset, .unset, .unset, .unset] []) from by rw [show lo1 = lo2 from elo2.symm]) ?_
        obtain ⟨hi2, ehi2⟩ : ∃ z : Int32, z = (hi1 + ((p3 &&& (2147483647 : Int32)) % ((32768 : Int32) - hi1))) := ⟨_, rfl⟩
        refine Go.cast (show (mkF m 138 #[.val (.int p0), .val (.int p1), .val (.int p2), .val (.int p3), .val (.int p4), .val (.int xx), .val (.int yy), .val (.int lo1), .val (.int hi1), .val (.int mm), .val (.int lo2), .val (.int (hi1 + ((p3 &&& (2147483647 : Int32)) % ((32768 : Int32) - hi1)))), .unset, .unset, .unset, .unset, .unset, .unset, .unset] []) = (mkF m 138 #[.val (.int p0), .val (.int p1), .val (.int p2), .val (.int p3), .val (.int p4), .val (.int xx), .val (.int yy), .val (.int lo1), .val (.int hi1), .val (.int mm), .val (.int lo2), .val (.int hi2), .unset, .unset, .unset, .unset, .unset, .unset, .unset] []) from by rw [show (hi1 + ((p3 &&& (2147483647 : Int32)) % ((32768 : Int32) - hi1))) = hi2 from ehi2.symm]) ?_
        have k1 : ¬ lo2 < 0 := by rw [elo2]; exact okl.1
        have k2 : ¬ hi2 < lo2 := by rw [elo2, ehi2]; exact (le_tr lh ((own_p2 okh).2 p3).2)
        have k3 : ¬ 32767 < hi2 := by rw [ehi2]; exact ((own_p2 okh).2 p3).1.2
        obtain ⟨T117, h117, X117, e117, E117, A117, D117, -, st117⟩ := newO X45 hx hZ hown (hw _ (List.mem_of_getElem? (i := 7) rfl)) (hw _ (List.mem_of_getElem? (i := 8) rfl)) (hw _ (List.mem_of_getElem? (i := 9) rfl)) e45 (g := (mkF m 138 #[.val (.int p0), .val (.int p1), .val (.int p2), .val (.int p3), .val (.int p4), .val (.int xx), .val (.int yy), .val (.int lo1), .val (.int hi1), .val (.int mm), .val (.int lo2), .val (.int hi2), .unset, .unset, .unset, .unset, .unset, .unset, .unset] [])) rfl (hb hby at_138) (by decide) (by decide)
        obtain ⟨b117, g117⟩ : ∃ z, z = h0.size := ⟨_, rfl⟩
        rw [← g117] at A117 D117 st117
        have ge118 : n0 ≤ b117 := g117 ▸ Z0
        have f119 := OZ.ext E117
        have Z120 : n0 ≤ h117.size := Nat.le_trans Z0 E117.1
        have f121 : Fld Z h117 b117 "com/example/stream_log_client/streamlogclient/protocol/VersionRange" "min" "I" (.int (0 : Int32)) := D117 (Or.inr (hw _ (List.mem_of_getElem? (i := 17) rfl))) (ty := .int) (by decide)
        have f122 : Fld Z h117 b117 "com/example/stream_log_client/streamlogclient/protocol/VersionRange" "max" "I" (.int (0 : Int32)) := D117 (Or.inr (hw _ (List.mem_of_getElem? (i := 19) rfl))) (ty := .int) (by decide)
        refine Go.movp st117 (mkF m 141 #[.val (.int p0), .val (.int p1), .val (.int p2), .val (.int p3), .val (.int p4), .val (.int xx), .val (.int yy), .val (.int lo1), .val (.int hi1), .val (.int mm), .val (.int lo2), .val (.int hi2), .unset, .unset, .unset, .unset, .unset, .unset, .unset] [(.ref b117)]) rfl ?_
        refine g_dup X117 hx (hb hby at_141) (pc' := 142) rfl rfl ?_
        refine g_iload X117 hx (hb hby at_142) (pc' := 144) rfl rfl ?_
        refine g_iload X117 hx (hb hby at_144) (pc' := 146) rfl rfl ?_
        obtain ⟨v123, T123, h123, L123, X123, e123, N123, q123, st123⟩ := h_special (a := b117) X117 hx (W := 1) (Ls := #[.val (.int p0), .val (.int p1), .val (.int p2), .val (.int p3), .val (.int p4), .val (.int xx), .val (.int yy), .val (.int lo1), .val (.int hi1), .val (.int mm), .val (.int lo2), .val (.int hi2), .unset, .unset, .unset, .unset, .unset, .unset, .unset]) (argsL := [(.int lo1), (.int hi1)]) (rest := [(.ref b117)]) hZ e117 N45 hml hown rfl (rm3 l Z a0 hw b117 lo1 hi1 h117 n0 Z120 f121 f122 A117 ge118 okl.1 lh okh.2) (hw _ (List.mem_of_getElem? (i := 10) rfl)) (hw _ (List.mem_of_getElem? (i := 11) rfl)) (hw _ (List.mem_of_getElem? (i := 9) rfl)) (hw _ (List.mem_of_getElem? (i := 12) rfl)) (by decide) pd__II_V rfl rfl (hb hby at_146) rfl (by decide) (by decide) (by decide) (by decide)
        obtain ⟨rfl, K123, A123, P123, Q123⟩ := q123
        have f124 := f119.keep K123 (allS ge118 all0)
        have f125 := A117.keep K123
        have Z126 : n0 ≤ h123.size := Nat.le_trans Z120 K123.1
        refine Go.movp st123 (mkF m 149 #[.val (.int p0), .val (.int p1), .val (.int p2), .val (.int p3), .val (.int p4), .val (.int xx), .val (.int yy), .val (.int lo1), .val (.int hi1), .val (.int mm), .val (.int lo2), .val (.int hi2), .unset, .unset, .unset, .unset, .unset, .unset, .unset] [(.ref b117)]) rfl ?_
        refine g_astore X123 hx (hb hby at_149) (pc' := 151) rfl rfl (Ls' := #[.val (.int p0), .val (.int p1), .val (.int p2), .val (.int p3), .val (.int p4), .val (.int xx), .val (.int yy), .val (.int lo1), .val (.int hi1), .val (.int mm), .val (.int lo2), .val (.int hi2), .val (.ref b117), .unset, .unset, .unset, .unset, .unset, .unset]) rfl ?_
        obtain ⟨T127, h127, X127, e127, E127, A127, D127, -, st127⟩ := newO X123 hx hZ hown (hw _ (List.mem_of_getElem? (i := 7) rfl)) (hw _ (List.mem_of_getElem? (i := 8) rfl)) (hw _ (List.mem_of_getElem? (i := 9) rfl)) e123 (g := (mkF m 151 #[.val (.int p0), .val (.int p1), .val (.int p2), .val (.int p3), .val (.int p4), .val (.int xx), .val (.int yy), .val (.int lo1), .val (.int hi1), .val (.int mm), .val (.int lo2), .val (.int hi2), .val (.ref b117), .unset, .unset, .unset, .unset, .unset, .unset] [])) rfl (hb hby at_151) (by decide) (by decide)
        obtain ⟨b127, g127⟩ : ∃ z, z = h123.size := ⟨_, rfl⟩
        rw [← g127] at A127 D127 st127
        have ne128 : b117 ≠ b127 := Nat.ne_of_lt (g127 ▸ A123.lt)
        have ge129 : n0 ≤ b127 := g127 ▸ Z126
        have f130 := f124.ext E127
        have f131 := Exa.ext E127 A123
        have f132 := Fld.ext E127 P123
        have f133 := Fld.ext E127 Q123
        have Z134 : n0 ≤ h127.size := Nat.le_trans Z126 E127.1
        have f135 : Fld Z h127 b127 "com/example/stream_log_client/streamlogclient/protocol/VersionRange" "min" "I" (.int (0 : Int32)) := D127 (Or.inr (hw _ (List.mem_of_getElem? (i := 17) rfl))) (ty := .int) (by decide)
        have f136 : Fld Z h127 b127 "com/example/stream_log_client/streamlogclient/protocol/VersionRange" "max" "I" (.int (0 : Int32)) := D127 (Or.inr (hw _ (List.mem_of_getElem? (i := 19) rfl))) (ty := .int) (by decide)
        refine Go.movp st127 (mkF m 154 #[.val (.int p0), .val (.int p1), .val (.int p2), .val (.int p3), .val (.int p4), .val (.int xx), .val (.int yy), .val (.int lo1), .val (.int hi1), .val (.int mm), .val (.int lo2), .val (.int hi2), .val (.ref b117), .unset, .unset, .unset, .unset, .unset, .unset] [(.ref b127)]) rfl ?_
        refine g_dup X127 hx (hb hby at_154) (pc' := 155) rfl rfl ?_
        refine g_iload X127 hx (hb hby at_155) (pc' := 157) rfl rfl ?_
        refine g_iload X127 hx (hb hby at_157) (pc' := 159) rfl rfl ?_
        obtain ⟨v137, T137, h137, L137, X137, e137, N137, q137, st137⟩ := h_special (a := b127) X127 hx (W := 1) (Ls := #[.val (.int p0), .val (.int p1), .val (.int p2), .val (.int p3), .val (.int p4), .val (.int xx), .val (.int yy), .val (.int lo1), .val (.int hi1), .val (.int mm), .val (.int lo2), .val (.int hi2), .val (.ref b117), .unset, .unset, .unset, .unset, .unset, .unset]) (argsL := [(.int lo2), (.int hi2)]) (rest := [(.ref b127)]) hZ e127 N123 hml hown rfl (rm3 l Z a0 hw b127 lo2 hi2 h127 n0 Z134 f135 f136 A127 ge129 k1 k2 k3) (hw _ (List.mem_of_getElem? (i := 10) rfl)) (hw _ (List.mem_of_getElem? (i := 11) rfl)) (hw _ (List.mem_of_getElem? (i := 9) rfl)) (hw _ (List.mem_of_getElem? (i := 12) rfl)) (by decide) pd__II_V rfl rfl (hb hby at_159) rfl (by decide) (by decide) (by decide) (by decide)
        obtain ⟨rfl, K137, A137, P137, Q137⟩ := q137
        have f138 := f130.keep K137 (allS ge129 all0)
        have f139 := f131.keep K137
        have f140 := f132.keep K137 (ninS ne128 nin0)
        have f141 := f133.keep K137 (ninS ne128 nin0)
        have f142 := A127.keep K137
        have Z143 : n0 ≤ h137.size := Nat.le_trans Z134 K137.1
        refine Go.movp st137 (mkF m 162 #[.val (.int p0), .val (.int p1), .val (.int p2), .val (.int p3), .val (.int p4), .val (.int xx), .val (.int yy), .val (.int lo1), .val (.int hi1), .val (.int mm), .val (.int lo2), .val (.int hi2), .val (.ref b117), .unset, .unset, .unset, .unset, .unset, .unset] [(.ref b127)]) rfl ?_
        refine g_astore X137 hx (hb hby at_162) (pc' := 164) rfl rfl (Ls' := #[.val (.int p0), .val (.int p1), .val (.int p2), .val (.int p3), .val (.int p4), .val (.int xx), .val (.int yy), .val (.int lo1), .val (.int hi1), .val (.int mm), .val (.int lo2), .val (.int hi2), .val (.ref b117), .val (.ref b127), .unset, .unset, .unset, .unset, .unset]) rfl ?_
        refine g_iload X137 hx (hb hby at_164) (pc' := 166) rfl rfl ?_
        refine g_iload X137 hx (hb hby at_166) (pc' := 168) rfl rfl ?_
        refine g_icmp_ne X137 hx (hb hby at_168) (pc1 := 171) rfl (by decide) (pc2 := 182) (by decide) (fun hc168 => ?_) (fun hc168 => ?_)
        · skip
          refine g_iconst X137 hx (hb hby at_182) (pc' := 183) rfl (z := (0 : Int32)) rfl ?_
          refine g_istore X137 hx (hb hby at_183) (pc' := 185) rfl (Ls' := #[.val (.int p0), .val (.int p1), .val (.int p2), .val (.int p3), .val (.int p4), .val (.int xx), .val (.int yy), .val (.int lo1), .val (.int hi1), .val (.int mm), .val (.int lo2), .val (.int hi2), .val (.ref b117), .val (.ref b127), .val (.int (0 : Int32)), .unset, .unset, .unset, .unset]) rfl ?_
          refine g_aload X137 hx (hb hby at_185) (pc' := 187) rfl rfl rfl ?_
          refine g_astore X137 hx (hb hby at_187) (pc' := 189) rfl rfl (Ls' := #[.val (.int p0), .val (.int p1), .val (.int p2), .val (.int p3), .val (.int p4), .val (.int xx), .val (.int yy), .val (.int lo1), .val (.int hi1), .val (.int mm), .val (.int lo2), .val (.int hi2), .val (.ref b117), .val (.ref b127), .val (.int (0 : Int32)), .val (.ref b127), .unset, .unset, .unset]) rfl ?_
          refine g_aload X137 hx (hb hby at_189) (pc' := 191) rfl rfl rfl ?_
          refine g_astore X137 hx (hb hby at_191) (pc' := 193) rfl rfl (Ls' := #[.val (.int p0), .val (.int p1), .val (.int p2), .val (.int p3), .val (.int p4), .val (.int xx), .val (.int yy), .val (.int lo1), .val (.int hi1), .val (.int mm), .val (.int lo2), .val (.int hi2), .val (.ref b117), .val (.ref b127), .val (.int (0 : Int32)), .val (.ref b127), .val (.ref b117), .unset, .unset]) rfl ?_
          refine g_aload X137 hx (hb hby at_193) (pc' := 195) rfl rfl rfl ?_
          refine g_aload X137 hx (hb hby at_195) (pc' := 197) rfl rfl rfl ?_
          obtain ⟨v144, T144, h144, L144, X144, e144, N144, q144, st144⟩ := h_virtual (a := b117) (z := (⟨"com/example/stream_log_client/streamlogclient/protocol/VersionRange", "equals", "(Ljava/lang/Object;)Z"⟩ : MethodName)) X137 hx (W := 0) (Ls := #[.val (.int p0), .val (.int p1), .val (.int p2), .val (.int p3), .val (.int p4), .val (.int xx), .val (.int yy), .val (.int lo1), .val (.int hi1), .val (.int mm), .val (.int lo2), .val (.int hi2), .val (.ref b117), .val (.ref b127), .val (.int (0 : Int32)), .val (.ref b127), .val (.ref b117), .unset, .unset]) (argsL := [(.ref b127)]) (rest := []) hZ e137 N137 hml hown (rm5a l Z a0 hw b117 b127 lo1 hi1 lo2 hi2 h137 n0 Z143 f140 f141 P137 Q137 A137) f139 (hw _ (List.mem_of_getElem? (i := 20) rfl)) (hw _ (List.mem_of_getElem? (i := 21) rfl)) (notFace_of_selects (args := #[]) (mvT hZ (hw _ (List.mem_of_getElem? (i := 23) rfl)))) (hw _ (List.mem_of_getElem? (i := 23) rfl)) (hw _ (List.mem_of_getElem? (i := 22) rfl)) (hw _ (List.mem_of_getElem? (i := 9) rfl)) (hw _ (List.mem_of_getElem? (i := 24) rfl)) (by decide) pd__Ljava_lang_Object__Z rfl rfl (hb hby at_197) rfl (by decide) (by decide) (by decide) (by decide)
          obtain ⟨rfl, rfl⟩ := q144
          refine Go.movp st144 (mkF m 200 #[.val (.int p0), .val (.int p1), .val (.int p2), .val (.int p3), .val (.int p4), .val (.int xx), .val (.int yy), .val (.int lo1), .val (.int hi1), .val (.int mm), .val (.int lo2), .val (.int hi2), .val (.ref b117), .val (.ref b127), .val (.int (0 : Int32)), .val (.ref b127), .val (.ref b117), .unset, .unset] [(.int (eqV lo1 hi1 lo2 hi2))]) rfl ?_
          refine Go.cast (show (mkF m 200 #[.val (.int p0), .val (.int p1), .val (.int p2), .val (.int p3), .val (.int p4), .val (.int xx), .val (.int yy), .val (.int lo1), .val (.int hi1), .val (.int mm), .val (.int lo2), .val (.int hi2), .val (.ref b117), .val (.ref b127), .val (.int (0 : Int32)), .val (.ref b127), .val (.ref b117), .unset, .unset] [(.int (eqV lo1 hi1 lo2 hi2))]) = (mkF m 200 #[.val (.int p0), .val (.int p1), .val (.int p2), .val (.int p3), .val (.int p4), .val (.int xx), .val (.int yy), .val (.int lo1), .val (.int hi1), .val (.int mm), .val (.int lo2), .val (.int hi2), .val (.ref b117), .val (.ref b127), .val (.int (0 : Int32)), .val (.ref b127), .val (.ref b117), .unset, .unset] [(.int (0 : Int32))]) from by rw [show (eqV lo1 hi1 lo2 hi2) = (0 : Int32) from (if_neg (fun q => hc168 q.1))]) ?_
          refine g_iload X144 hx (hb hby at_200) (pc' := 202) rfl rfl ?_
          refine g_icmp_ne X144 hx (hb hby at_202) (pc1 := 205) rfl (by decide) (pc2 := 209) (by decide) (fun hc202 => absurd rfl hc202) (fun hc202 => ?_)
          refine g_iconst X144 hx (hb hby at_205) (pc' := 206) rfl (z := (1 : Int32)) rfl ?_
          refine g_goto X144 hx (hb hby at_206) (by decide) (pc' := 210) (by decide) ?_
          refine g_istore X144 hx (hb hby at_210) (pc' := 212) rfl (Ls' := #[.val (.int p0), .val (.int p1), .val (.int p2), .val (.int p3), .val (.int p4), .val (.int xx), .val (.int yy), .val (.int lo1), .val (.int hi1), .val (.int mm), .val (.int lo2), .val (.int hi2), .val (.ref b117), .val (.ref b127), .val (.int (0 : Int32)), .val (.ref b127), .val (.ref b117), .val (.int (1 : Int32)), .unset]) rfl ?_
          refine g_iload X144 hx (hb hby at_212) (pc' := 214) rfl rfl ?_
          refine g_if_eq X144 hx (hb hby at_214) (pc1 := 217) rfl (by decide) (pc2 := 233) (by decide) (fun hc214 => absurd hc214 (by decide)) (fun hc214 => ?_)
          refine g_aload X144 hx (hb hby at_217) (pc' := 219) rfl rfl rfl ?_
          refine g_aload X144 hx (hb hby at_219) (pc' := 221) rfl rfl rfl ?_
          obtain ⟨v145, T145, h145, L145, X145, e145, N145, q145, st145⟩ := h_virtual (a := b127) (z := (⟨"com/example/stream_log_client/streamlogclient/protocol/VersionRange", "equals", "(Ljava/lang/Object;)Z"⟩ : MethodName)) X144 hx (W := 0) (Ls := #[.val (.int p0), .val (.int p1), .val (.int p2), .val (.int p3), .val (.int p4), .val (.int xx), .val (.int yy), .val (.int lo1), .val (.int hi1), .val (.int mm), .val (.int lo2), .val (.int hi2), .val (.ref b117), .val (.ref b127), .val (.int (0 : Int32)), .val (.ref b127), .val (.ref b117), .val (.int (1 : Int32)), .unset]) (argsL := [(.ref b117)]) (rest := []) hZ e144 N144 hml hown (rm5a l Z a0 hw b127 b117 lo2 hi2 lo1 hi1 h137 n0 Z143 P137 Q137 f140 f141 f139) A137 (hw _ (List.mem_of_getElem? (i := 20) rfl)) (hw _ (List.mem_of_getElem? (i := 21) rfl)) (notFace_of_selects (args := #[]) (mvT hZ (hw _ (List.mem_of_getElem? (i := 23) rfl)))) (hw _ (List.mem_of_getElem? (i := 23) rfl)) (hw _ (List.mem_of_getElem? (i := 22) rfl)) (hw _ (List.mem_of_getElem? (i := 9) rfl)) (hw _ (List.mem_of_getElem? (i := 24) rfl)) (by decide) pd__Ljava_lang_Object__Z rfl rfl (hb hby at_221) rfl (by decide) (by decide) (by decide) (by decide)
          obtain ⟨rfl, rfl⟩ := q145
          refine Go.movp st145 (mkF m 224 #[.val (.int p0), .val (.int p1), .val (.int p2), .val (.int p3), .val (.int p4), .val (.int xx), .val (.int yy), .val (.int lo1), .val (.int hi1), .val (.int mm), .val (.int lo2), .val (.int hi2), .val (.ref b117), .val (.ref b127), .val (.int (0 : Int32)), .val (.ref b127), .val (.ref b117), .val (.int (1 : Int32)), .unset] [(.int (eqV lo2 hi2 lo1 hi1))]) rfl ?_
          refine Go.cast (show (mkF m 224 #[.val (.int p0), .val (.int p1), .val (.int p2), .val (.int p3), .val (.int p4), .val (.int xx), .val (.int yy), .val (.int lo1), .val (.int hi1), .val (.int mm), .val (.int lo2), .val (.int hi2), .val (.ref b117), .val (.ref b127), .val (.int (0 : Int32)), .val (.ref b127), .val (.ref b117), .val (.int (1 : Int32)), .unset] [(.int (eqV lo2 hi2 lo1 hi1))]) = (mkF m 224 #[.val (.int p0), .val (.int p1), .val (.int p2), .val (.int p3), .val (.int p4), .val (.int xx), .val (.int yy), .val (.int lo1), .val (.int hi1), .val (.int mm), .val (.int lo2), .val (.int hi2), .val (.ref b117), .val (.ref b127), .val (.int (0 : Int32)), .val (.ref b127), .val (.ref b117), .val (.int (1 : Int32)), .unset] [(.int (0 : Int32))]) from by rw [show (eqV lo2 hi2 lo1 hi1) = (0 : Int32) from (if_neg (fun q => hc168 q.1.symm))]) ?_
          refine g_iload X145 hx (hb hby at_224) (pc' := 226) rfl rfl ?_
          refine g_icmp_ne X145 hx (hb hby at_226) (pc1 := 229) rfl (by decide) (pc2 := 233) (by decide) (fun hc226 => absurd rfl hc226) (fun hc226 => ?_)
          refine g_iconst X145 hx (hb hby at_229) (pc' := 230) rfl (z := (1 : Int32)) rfl ?_
          refine g_goto X145 hx (hb hby at_230) (by decide) (pc' := 234) (by decide) ?_
          refine g_istore X145 hx (hb hby at_234) (pc' := 236) rfl (Ls' := #[.val (.int p0), .val (.int p1), .val (.int p2), .val (.int p3), .val (.int p4), .val (.int xx), .val (.int yy), .val (.int lo1), .val (.int hi1), .val (.int mm), .val (.int lo2), .val (.int hi2), .val (.ref b117), .val (.ref b127), .val (.int (0 : Int32)), .val (.ref b127), .val (.ref b117), .val (.int (1 : Int32)), .unset]) rfl ?_
          refine g_iload X145 hx (hb hby at_236) (pc' := 238) rfl rfl ?_
          refine g_if_eq X145 hx (hb hby at_238) (pc1 := 241) rfl (by decide) (pc2 := 255) (by decide) (fun hc238 => absurd hc238 (by decide)) (fun hc238 => ?_)
          refine g_aload X145 hx (hb hby at_241) (pc' := 243) rfl rfl rfl ?_
          refine g_aload X145 hx (hb hby at_243) (pc' := 245) rfl rfl rfl ?_
          obtain ⟨v146, T146, h146, L146, X146, e146, N146, q146, st146⟩ := h_virtual (a := b117) (z := (⟨"com/example/stream_log_client/streamlogclient/protocol/VersionRange", "equals", "(Ljava/lang/Object;)Z"⟩ : MethodName)) X145 hx (W := 0) (Ls := #[.val (.int p0), .val (.int p1), .val (.int p2), .val (.int p3), .val (.int p4), .val (.int xx), .val (.int yy), .val (.int lo1), .val (.int hi1), .val (.int mm), .val (.int lo2), .val (.int hi2), .val (.ref b117), .val (.ref b127), .val (.int (0 : Int32)), .val (.ref b127), .val (.ref b117), .val (.int (1 : Int32)), .unset]) (argsL := [(.ref b117)]) (rest := []) hZ e145 N145 hml hown (rm5a l Z a0 hw b117 b117 lo1 hi1 lo1 hi1 h137 n0 Z143 f140 f141 f140 f141 f139) f139 (hw _ (List.mem_of_getElem? (i := 20) rfl)) (hw _ (List.mem_of_getElem? (i := 21) rfl)) (notFace_of_selects (args := #[]) (mvT hZ (hw _ (List.mem_of_getElem? (i := 23) rfl)))) (hw _ (List.mem_of_getElem? (i := 23) rfl)) (hw _ (List.mem_of_getElem? (i := 22) rfl)) (hw _ (List.mem_of_getElem? (i := 9) rfl)) (hw _ (List.mem_of_getElem? (i := 24) rfl)) (by decide) pd__Ljava_lang_Object__Z rfl rfl (hb hby at_245) rfl (by decide) (by decide) (by decide) (by decide)
          obtain ⟨rfl, rfl⟩ := q146
          refine Go.movp st146 (mkF m 248 #[.val (.int p0), .val (.int p1), .val (.int p2), .val (.int p3), .val (.int p4), .val (.int xx), .val (.int yy), .val (.int lo1), .val (.int hi1), .val (.int mm), .val (.int lo2), .val (.int hi2), .val (.ref b117), .val (.ref b127), .val (.int (0 : Int32)), .val (.ref b127), .val (.ref b117), .val (.int (1 : Int32)), .unset] [(.int (eqV lo1 hi1 lo1 hi1))]) rfl ?_
          refine Go.cast (show (mkF m 248 #[.val (.int p0), .val (.int p1), .val (.int p2), .val (.int p3), .val (.int p4), .val (.int xx), .val (.int yy), .val (.int lo1), .val (.int hi1), .val (.int mm), .val (.int lo2), .val (.int hi2), .val (.ref b117), .val (.ref b127), .val (.int (0 : Int32)), .val (.ref b127), .val (.ref b117), .val (.int (1 : Int32)), .unset] [(.int (eqV lo1 hi1 lo1 hi1))]) = (mkF m 248 #[.val (.int p0), .val (.int p1), .val (.int p2), .val (.int p3), .val (.int p4), .val (.int xx), .val (.int yy), .val (.int lo1), .val (.int hi1), .val (.int mm), .val (.int lo2), .val (.int hi2), .val (.ref b117), .val (.ref b127), .val (.int (0 : Int32)), .val (.ref b127), .val (.ref b117), .val (.int (1 : Int32)), .unset] [(.int (1 : Int32))]) from by rw [show (eqV lo1 hi1 lo1 hi1) = (1 : Int32) from (if_pos ⟨rfl, rfl⟩)]) ?_
          refine g_if_eq X146 hx (hb hby at_248) (pc1 := 251) rfl (by decide) (pc2 := 255) (by decide) (fun hc248 => absurd hc248 (by decide)) (fun hc248 => ?_)
          refine g_iconst X146 hx (hb hby at_251) (pc' := 252) rfl (z := (1 : Int32)) rfl ?_
          refine g_goto X146 hx (hb hby at_252) (by decide) (pc' := 256) (by decide) ?_
          refine g_istore X146 hx (hb hby at_256) (pc' := 258) rfl (Ls' := #[.val (.int p0), .val (.int p1), .val (.int p2), .val (.int p3), .val (.int p4), .val (.int xx), .val (.int yy), .val (.int lo1), .val (.int hi1), .val (.int mm), .val (.int lo2), .val (.int hi2), .val (.ref b117), .val (.ref b127), .val (.int (0 : Int32)), .val (.ref b127), .val (.ref b117), .val (.int (1 : Int32)), .unset]) rfl ?_
          refine g_iload X146 hx (hb hby at_258) (pc' := 260) rfl rfl ?_
          refine g_if_eq X146 hx (hb hby at_260) (pc1 := 263) rfl (by decide) (pc2 := 276) (by decide) (fun hc260 => absurd hc260 (by decide)) (fun hc260 => ?_)
          refine g_aload X146 hx (hb hby at_263) (pc' := 265) rfl rfl rfl ?_
          refine g_aconst_null X146 hx (hb hby at_265) (pc' := 266) rfl ?_
          obtain ⟨v147, T147, h147, L147, X147, e147, N147, q147, st147⟩ := h_virtual (a := b117) (z := (⟨"com/example/stream_log_client/streamlogclient/protocol/VersionRange", "equals", "(Ljava/lang/Object;)Z"⟩ : MethodName)) X146 hx (W := 0) (Ls := #[.val (.int p0), .val (.int p1), .val (.int p2), .val (.int p3), .val (.int p4), .val (.int xx), .val (.int yy), .val (.int lo1), .val (.int hi1), .val (.int mm), .val (.int lo2), .val (.int hi2), .val (.ref b117), .val (.ref b127), .val (.int (0 : Int32)), .val (.ref b127), .val (.ref b117), .val (.int (1 : Int32)), .unset]) (argsL := [.null]) (rest := []) hZ e146 N146 hml hown (rm5b l Z a0 hw b117 h137 n0 Z143) f139 (hw _ (List.mem_of_getElem? (i := 20) rfl)) (hw _ (List.mem_of_getElem? (i := 21) rfl)) (notFace_of_selects (args := #[]) (mvT hZ (hw _ (List.mem_of_getElem? (i := 23) rfl)))) (hw _ (List.mem_of_getElem? (i := 23) rfl)) (hw _ (List.mem_of_getElem? (i := 22) rfl)) (hw _ (List.mem_of_getElem? (i := 9) rfl)) (hw _ (List.mem_of_getElem? (i := 24) rfl)) (by decide) pd__Ljava_lang_Object__Z rfl rfl (hb hby at_266) rfl (by decide) (by decide) (by decide) (by decide)
          obtain ⟨rfl, rfl⟩ := q147
          refine Go.movp st147 (mkF m 269 #[.val (.int p0), .val (.int p1), .val (.int p2), .val (.int p3), .val (.int p4), .val (.int xx), .val (.int yy), .val (.int lo1), .val (.int hi1), .val (.int mm), .val (.int lo2), .val (.int hi2), .val (.ref b117), .val (.ref b127), .val (.int (0 : Int32)), .val (.ref b127), .val (.ref b117), .val (.int (1 : Int32)), .unset] [(.int (0 : Int32))]) rfl ?_
          refine g_if_ne X147 hx (hb hby at_269) (pc1 := 272) rfl (by decide) (pc2 := 276) (by decide) (fun hc269 => absurd rfl hc269) (fun hc269 => ?_)
          refine g_iconst X147 hx (hb hby at_272) (pc' := 273) rfl (z := (1 : Int32)) rfl ?_
          refine g_goto X147 hx (hb hby at_273) (by decide) (pc' := 277) (by decide) ?_
          refine g_istore X147 hx (hb hby at_277) (pc' := 279) rfl (Ls' := #[.val (.int p0), .val (.int p1), .val (.int p2), .val (.int p3), .val (.int p4), .val (.int xx), .val (.int yy), .val (.int lo1), .val (.int hi1), .val (.int mm), .val (.int lo2), .val (.int hi2), .val (.ref b117), .val (.ref b127), .val (.int (0 : Int32)), .val (.ref b127), .val (.ref b117), .val (.int (1 : Int32)), .unset]) rfl ?_
          refine g_iload X147 hx (hb hby at_279) (pc' := 281) rfl rfl ?_
          obtain ⟨v148, T148, h148, L148, X148, e148, N148, q148, st148⟩ := h_static X147 hx (W := 0) (Ls := #[.val (.int p0), .val (.int p1), .val (.int p2), .val (.int p3), .val (.int p4), .val (.int xx), .val (.int yy), .val (.int lo1), .val (.int hi1), .val (.int mm), .val (.int lo2), .val (.int hi2), .val (.ref b117), .val (.ref b127), .val (.int (0 : Int32)), .val (.ref b127), .val (.ref b117), .val (.int (1 : Int32)), .unset]) (argsL := [(.int lo1)]) (rest := []) hZ e147 N147 hml hown (rm6 l Z a0 hw lo1 ca h137 n0 Z143 (Sta.ext f138.2 S1) (Sta.ext f138.2 S2) (own_cx CA f138.2) okl.1) (hw _ (List.mem_of_getElem? (i := 27) rfl)) (hw _ (List.mem_of_getElem? (i := 28) rfl)) (hw _ (List.mem_of_getElem? (i := 29) rfl)) (hw _ (List.mem_of_getElem? (i := 30) rfl)) (by decide) pd__I_Ljava_lang_Integer_ rfl rfl (hb hby at_281) rfl (by decide) (by decide) (by decide) (by decide)
          obtain ⟨r148, rfl, K148, A148⟩ := q148
          have f149 := f138.keep K148 all0
          have f150 := f139.keep K148
          have f151 := f140.keep K148 nin0
          have f152 := f141.keep K148 nin0
          have f153 := A137.keep K148
          have f154 := P137.keep K148 nin0
          have f155 := Q137.keep K148 nin0
          have Z156 : n0 ≤ h148.size := Nat.le_trans Z143 K148.1
          refine Go.movp st148 (mkF m 284 #[.val (.int p0), .val (.int p1), .val (.int p2), .val (.int p3), .val (.int p4), .val (.int xx), .val (.int yy), .val (.int lo1), .val (.int hi1), .val (.int mm), .val (.int lo2), .val (.int hi2), .val (.ref b117), .val (.ref b127), .val (.int (0 : Int32)), .val (.ref b127), .val (.ref b117), .val (.int (1 : Int32)), .unset] [(.ref r148)]) rfl ?_
          refine g_astore X148 hx (hb hby at_284) (pc' := 286) rfl rfl (Ls' := #[.val (.int p0), .val (.int p1), .val (.int p2), .val (.int p3), .val (.int p4), .val (.int xx), .val (.int yy), .val (.int lo1), .val (.int hi1), .val (.int mm), .val (.int lo2), .val (.int hi2), .val (.ref b117), .val (.ref b127), .val (.int (0 : Int32)), .val (.ref b127), .val (.ref b117), .val (.int (1 : Int32)), .val (.ref r148)]) rfl ?_
          refine g_iload X148 hx (hb hby at_286) (pc' := 288) rfl rfl ?_
          refine g_if_eq X148 hx (hb hby at_288) (pc1 := 291) rfl (by decide) (pc2 := 305) (by decide) (fun hc288 => absurd hc288 (by decide)) (fun hc288 => ?_)
          refine g_aload X148 hx (hb hby at_291) (pc' := 293) rfl rfl rfl ?_
          refine g_aload X148 hx (hb hby at_293) (pc' := 295) rfl rfl rfl ?_
          obtain ⟨v157, T157, h157, L157, X157, e157, N157, q157, st157⟩ := h_virtual (a := b117) (z := (⟨"com/example/stream_log_client/streamlogclient/protocol/VersionRange", "equals", "(Ljava/lang/Object;)Z"⟩ : MethodName)) X148 hx (W := 0) (Ls := #[.val (.int p0), .val (.int p1), .val (.int p2), .val (.int p3), .val (.int p4), .val (.int xx), .val (.int yy), .val (.int lo1), .val (.int hi1), .val (.int mm), .val (.int lo2), .val (.int hi2), .val (.ref b117), .val (.ref b127), .val (.int (0 : Int32)), .val (.ref b127), .val (.ref b117), .val (.int (1 : Int32)), .val (.ref r148)]) (argsL := [(.ref r148)]) (rest := []) hZ e148 N148 hml hown (rm5c l Z a0 hw b117 r148 h148 n0 Z156 A148) f150 (hw _ (List.mem_of_getElem? (i := 20) rfl)) (hw _ (List.mem_of_getElem? (i := 21) rfl)) (notFace_of_selects (args := #[]) (mvT hZ (hw _ (List.mem_of_getElem? (i := 23) rfl)))) (hw _ (List.mem_of_getElem? (i := 23) rfl)) (hw _ (List.mem_of_getElem? (i := 22) rfl)) (hw _ (List.mem_of_getElem? (i := 9) rfl)) (hw _ (List.mem_of_getElem? (i := 24) rfl)) (by decide) pd__Ljava_lang_Object__Z rfl rfl (hb hby at_295) rfl (by decide) (by decide) (by decide) (by decide)
          obtain ⟨rfl, rfl⟩ := q157
          refine Go.movp st157 (mkF m 298 #[.val (.int p0), .val (.int p1), .val (.int p2), .val (.int p3), .val (.int p4), .val (.int xx), .val (.int yy), .val (.int lo1), .val (.int hi1), .val (.int mm), .val (.int lo2), .val (.int hi2), .val (.ref b117), .val (.ref b127), .val (.int (0 : Int32)), .val (.ref b127), .val (.ref b117), .val (.int (1 : Int32)), .val (.ref r148)] [(.int (0 : Int32))]) rfl ?_
          refine g_if_ne X157 hx (hb hby at_298) (pc1 := 301) rfl (by decide) (pc2 := 305) (by decide) (fun hc298 => absurd rfl hc298) (fun hc298 => ?_)
          refine g_iconst X157 hx (hb hby at_301) (pc' := 302) rfl (z := (1 : Int32)) rfl ?_
          refine g_goto X157 hx (hb hby at_302) (by decide) (pc' := 306) (by decide) ?_
          refine g_istore X157 hx (hb hby at_306) (pc' := 308) rfl (Ls' := #[.val (.int p0), .val (.int p1), .val (.int p2), .val (.int p3), .val (.int p4), .val (.int xx), .val (.int yy), .val (.int lo1), .val (.int hi1), .val (.int mm), .val (.int lo2), .val (.int hi2), .val (.ref b117), .val (.ref b127), .val (.int (0 : Int32)), .val (.ref b127), .val (.ref b117), .val (.int (1 : Int32)), .val (.ref r148)]) rfl ?_
          refine g_iload X157 hx (hb hby at_308) (pc' := 310) rfl rfl ?_
          exact g_zreturn X157 hx rfl hret (hb hby at_310) N157 hlk (fun v t => endF (by decide) (by decide) v) (by rw [e157]; exact rfl)
        · skip
          refine g_iload X137 hx (hb hby at_171) (pc' := 173) rfl rfl ?_
          refine g_iload X137 hx (hb hby at_173) (pc' := 175) rfl rfl ?_
          refine g_icmp_ne X137 hx (hb hby at_175) (pc1 := 178) rfl (by decide) (pc2 := 182) (by decide) (fun hc175 => ?_) (fun hc175 => ?_)
          · skip
            refine g_iconst X137 hx (hb hby at_182) (pc' := 183) rfl (z := (0 : Int32)) rfl ?_
            refine g_istore X137 hx (hb hby at_183) (pc' := 185) rfl (Ls' := #[.val (.int p0), .val (.int p1), .val (.int p2), .val (.int p3), .val (.int p4), .val (.int xx), .val (.int yy), .val (.int lo1), .val (.int hi1), .val (.int mm), .val (.int lo2), .val (.int hi2), .val (.ref b117), .val (.ref b127), .val (.int (0 : Int32)), .unset, .unset, .unset, .unset]) rfl ?_
            refine g_aload X137 hx (hb hby at_185) (pc' := 187) rfl rfl rfl ?_
            refine g_astore X137 hx (hb hby at_187) (pc' := 189) rfl rfl (Ls' := #[.val (.int p0), .val (.int p1), .val (.int p2), .val (.int p3), .val (.int p4), .val (.int xx), .val (.int yy), .val (.int lo1), .val (.int hi1), .val (.int mm), .val (.int lo2), .val (.int hi2), .val (.ref b117), .val (.ref b127), .val (.int (0 : Int32)), .val (.ref b127), .unset, .unset, .unset]) rfl ?_
            refine g_aload X137 hx (hb hby at_189) (pc' := 191) rfl rfl rfl ?_
            refine g_astore X137 hx (hb hby at_191) (pc' := 193) rfl rfl (Ls' := #[.val (.int p0), .val (.int p1), .val (.int p2), .val (.int p3), .val (.int p4), .val (.int xx), .val (.int yy), .val (.int lo1), .val (.int hi1), .val (.int mm), .val (.int lo2), .val (.int hi2), .val (.ref b117), .val (.ref b127), .val (.int (0 : Int32)), .val (.ref b127), .val (.ref b117), .unset, .unset]) rfl ?_
            refine g_aload X137 hx (hb hby at_193) (pc' := 195) rfl rfl rfl ?_
            refine g_aload X137 hx (hb hby at_195) (pc' := 197) rfl rfl rfl ?_
            obtain ⟨v158, T158, h158, L158, X158, e158, N158, q158, st158⟩ := h_virtual (a := b117) (z := (⟨"com/example/stream_log_client/streamlogclient/protocol/VersionRange", "equals", "(Ljava/lang/Object;)Z"⟩ : MethodName)) X137 hx (W := 0) (Ls := #[.val (.int p0), .val (.int p1), .val (.int p2), .val (.int p3), .val (.int p4), .val (.int xx), .val (.int yy), .val (.int lo1), .val (.int hi1), .val (.int mm), .val (.int lo2), .val (.int hi2), .val (.ref b117), .val (.ref b127), .val (.int (0 : Int32)), .val (.ref b127), .val (.ref b117), .unset, .unset]) (argsL := [(.ref b127)]) (rest := []) hZ e137 N137 hml hown (rm5a l Z a0 hw b117 b127 lo1 hi1 lo2 hi2 h137 n0 Z143 f140 f141 P137 Q137 A137) f139 (hw _ (List.mem_of_getElem? (i := 20) rfl)) (hw _ (List.mem_of_getElem? (i := 21) rfl)) (notFace_of_selects (args := #[]) (mvT hZ (hw _ (List.mem_of_getElem? (i := 23) rfl)))) (hw _ (List.mem_of_getElem? (i := 23) rfl)) (hw _ (List.mem_of_getElem? (i := 22) rfl)) (hw _ (List.mem_of_getElem? (i := 9) rfl)) (hw _ (List.mem_of_getElem? (i := 24) rfl)) (by decide) pd__Ljava_lang_Object__Z rfl rfl (hb hby at_197) rfl (by decide) (by decide) (by decide) (by decide)
            obtain ⟨rfl, rfl⟩ := q158
            refine Go.movp st158 (mkF m 200 #[.val (.int p0), .val (.int p1), .val (.int p2), .val (.int p3), .val (.int p4), .val (.int xx), .val (.int yy), .val (.int lo1), .val (.int hi1), .val (.int mm), .val (.int lo2), .val (.int hi2), .val (.ref b117), .val (.ref b127), .val (.int (0 : Int32)), .val (.ref b127), .val (.ref b117), .unset, .unset] [(.int (eqV lo1 hi1 lo2 hi2))]) rfl ?_
            refine Go.cast (show (mkF m 200 #[.val (.int p0), .val (.int p1), .val (.int p2), .val (.int p3), .val (.int p4), .val (.int xx), .val (.int yy), .val (.int lo1), .val (.int hi1), .val (.int mm), .val (.int lo2), .val (.int hi2), .val (.ref b117), .val (.ref b127), .val (.int (0 : Int32)), .val (.ref b127), .val (.ref b117), .unset, .unset] [(.int (eqV lo1 hi1 lo2 hi2))]) = (mkF m 200 #[.val (.int p0), .val (.int p1), .val (.int p2), .val (.int p3), .val (.int p4), .val (.int xx), .val (.int yy), .val (.int lo1), .val (.int hi1), .val (.int mm), .val (.int lo2), .val (.int hi2), .val (.ref b117), .val (.ref b127), .val (.int (0 : Int32)), .val (.ref b127), .val (.ref b117), .unset, .unset] [(.int (0 : Int32))]) from by rw [show (eqV lo1 hi1 lo2 hi2) = (0 : Int32) from (if_neg (fun q => hc175 q.2))]) ?_
            refine g_iload X158 hx (hb hby at_200) (pc' := 202) rfl rfl ?_
            refine g_icmp_ne X158 hx (hb hby at_202) (pc1 := 205) rfl (by decide) (pc2 := 209) (by decide) (fun hc202 => absurd rfl hc202) (fun hc202 => ?_)
            refine g_iconst X158 hx (hb hby at_205) (pc' := 206) rfl (z := (1 : Int32)) rfl ?_
            refine g_goto X158 hx (hb hby at_206) (by decide) (pc' := 210) (by decide) ?_
            refine g_istore X158 hx (hb hby at_210) (pc' := 212) rfl (Ls' := #[.val (.int p0), .val (.int p1), .val (.int p2), .val (.int p3), .val (.int p4), .val (.int xx), .val (.int yy), .val (.int lo1), .val (.int hi1), .val (.int mm), .val (.int lo2), .val (.int hi2), .val (.ref b117), .val (.ref b127), .val (.int (0 : Int32)), .val (.ref b127), .val (.ref b117), .val (.int (1 : Int32)), .unset]) rfl ?_
            refine g_iload X158 hx (hb hby at_212) (pc' := 214) rfl rfl ?_
            refine g_if_eq X158 hx (hb hby at_214) (pc1 := 217) rfl (by decide) (pc2 := 233) (by decide) (fun hc214 => absurd hc214 (by decide)) (fun hc214 => ?_)
            refine g_aload X158 hx (hb hby at_217) (pc' := 219) rfl rfl rfl ?_
            refine g_aload X158 hx (hb hby at_219) (pc' := 221) rfl rfl rfl ?_
            obtain ⟨v159, T159, h159, L159, X159, e159, N159, q159, st159⟩ := h_virtual (a := b127) (z := (⟨"com/example/stream_log_client/streamlogclient/protocol/VersionRange", "equals", "(Ljava/lang/Object;)Z"⟩ : MethodName)) X158 hx (W := 0) (Ls := #[.val (.int p0), .val (.int p1), .val (.int p2), .val (.int p3), .val (.int p4), .val (.int xx), .val (.int yy), .val (.int lo1), .val (.int hi1), .val (.int mm), .val (.int lo2), .val (.int hi2), .val (.ref b117), .val (.ref b127), .val (.int (0 : Int32)), .val (.ref b127), .val (.ref b117), .val (.int (1 : Int32)), .unset]) (argsL := [(.ref b117)]) (rest := []) hZ e158 N158 hml hown (rm5a l Z a0 hw b127 b117 lo2 hi2 lo1 hi1 h137 n0 Z143 P137 Q137 f140 f141 f139) A137 (hw _ (List.mem_of_getElem? (i := 20) rfl)) (hw _ (List.mem_of_getElem? (i := 21) rfl)) (notFace_of_selects (args := #[]) (mvT hZ (hw _ (List.mem_of_getElem? (i := 23) rfl)))) (hw _ (List.mem_of_getElem? (i := 23) rfl)) (hw _ (List.mem_of_getElem? (i := 22) rfl)) (hw _ (List.mem_of_getElem? (i := 9) rfl)) (hw _ (List.mem_of_getElem? (i := 24) rfl)) (by decide) pd__Ljava_lang_Object__Z rfl rfl (hb hby at_221) rfl (by decide) (by decide) (by decide) (by decide)
            obtain ⟨rfl, rfl⟩ := q159
            refine Go.movp st159 (mkF m 224 #[.val (.int p0), .val (.int p1), .val (.int p2), .val (.int p3), .val (.int p4), .val (.int xx), .val (.int yy), .val (.int lo1), .val (.int hi1), .val (.int mm), .val (.int lo2), .val (.int hi2), .val (.ref b117), .val (.ref b127), .val (.int (0 : Int32)), .val (.ref b127), .val (.ref b117), .val (.int (1 : Int32)), .unset] [(.int (eqV lo2 hi2 lo1 hi1))]) rfl ?_
            refine Go.cast (show (mkF m 224 #[.val (.int p0), .val (.int p1), .val (.int p2), .val (.int p3), .val (.int p4), .val (.int xx), .val (.int yy), .val (.int lo1), .val (.int hi1), .val (.int mm), .val (.int lo2), .val (.int hi2), .val (.ref b117), .val (.ref b127), .val (.int (0 : Int32)), .val (.ref b127), .val (.ref b117), .val (.int (1 : Int32)), .unset] [(.int (eqV lo2 hi2 lo1 hi1))]) = (mkF m 224 #[.val (.int p0), .val (.int p1), .val (.int p2), .val (.int p3), .val (.int p4), .val (.int xx), .val (.int yy), .val (.int lo1), .val (.int hi1), .val (.int mm), .val (.int lo2), .val (.int hi2), .val (.ref b117), .val (.ref b127), .val (.int (0 : Int32)), .val (.ref b127), .val (.ref b117), .val (.int (1 : Int32)), .unset] [(.int (0 : Int32))]) from by rw [show (eqV lo2 hi2 lo1 hi1) = (0 : Int32) from (if_neg (fun q => hc175 q.2.symm))]) ?_
            refine g_iload X159 hx (hb hby at_224) (pc' := 226) rfl rfl ?_
            refine g_icmp_ne X159 hx (hb hby at_226) (pc1 := 229) rfl (by decide) (pc2 := 233) (by decide) (fun hc226 => absurd rfl hc226) (fun hc226 => ?_)
            refine g_iconst X159 hx (hb hby at_229) (pc' := 230) rfl (z := (1 : Int32)) rfl ?_
            refine g_goto X159 hx (hb hby at_230) (by decide) (pc' := 234) (by decide) ?_
            refine g_istore X159 hx (hb hby at_234) (pc' := 236) rfl (Ls' := #[.val (.int p0), .val (.int p1), .val (.int p2), .val (.int p3), .val (.int p4), .val (.int xx), .val (.int yy), .val (.int lo1), .val (.int hi1), .val (.int mm), .val (.int lo2), .val (.int hi2), .val (.ref b117), .val (.ref b127), .val (.int (0 : Int32)), .val (.ref b127), .val (.ref b117), .val (.int (1 : Int32)), .unset]) rfl ?_
            refine g_iload X159 hx (hb hby at_236) (pc' := 238) rfl rfl ?_
            refine g_if_eq X159 hx (hb hby at_238) (pc1 := 241) rfl (by decide) (pc2 := 255) (by decide) (fun hc238 => absurd hc238 (by decide)) (fun hc238 => ?_)
            refine g_aload X159 hx (hb hby at_241) (pc' := 243) rfl rfl rfl ?_
            refine g_aload X159 hx (hb hby at_243) (pc' := 245) rfl rfl rfl ?_
            obtain ⟨v160, T160, h160, L160, X160, e160, N160, q160, st160⟩ := h_virtual (a := b117) (z := (⟨"com/example/stream_log_client/streamlogclient/protocol/VersionRange", "equals", "(Ljava/lang/Object;)Z"⟩ : MethodName)) X159 hx (W := 0) (Ls := #[.val (.int p0), .val (.int p1), .val (.int p2), .val (.int p3), .val (.int p4), .val (.int xx), .val (.int yy), .val (.int lo1), .val (.int hi1), .val (.int mm), .val (.int lo2), .val (.int hi2), .val (.ref b117), .val (.ref b127), .val (.int (0 : Int32)), .val (.ref b127), .val (.ref b117), .val (.int (1 : Int32)), .unset]) (argsL := [(.ref b117)]) (rest := []) hZ e159 N159 hml hown (rm5a l Z a0 hw b117 b117 lo1 hi1 lo1 hi1 h137 n0 Z143 f140 f141 f140 f141 f139) f139 (hw _ (List.mem_of_getElem? (i := 20) rfl)) (hw _ (List.mem_of_getElem? (i := 21) rfl)) (notFace_of_selects (args := #[]) (mvT hZ (hw _ (List.mem_of_getElem? (i := 23) rfl)))) (hw _ (List.mem_of_getElem? (i := 23) rfl)) (hw _ (List.mem_of_getElem? (i := 22) rfl)) (hw _ (List.mem_of_getElem? (i := 9) rfl)) (hw _ (List.mem_of_getElem? (i := 24) rfl)) (by decide) pd__Ljava_lang_Object__Z rfl rfl (hb hby at_245) rfl (by decide) (by decide) (by decide) (by decide)
            obtain ⟨rfl, rfl⟩ := q160
            refine Go.movp st160 (mkF m 248 #[.val (.int p0), .val (.int p1), .val (.int p2), .val (.int p3), .val (.int p4), .val (.int xx), .val (.int yy), .val (.int lo1), .val (.int hi1), .val (.int mm), .val (.int lo2), .val (.int hi2), .val (.ref b117), .val (.ref b127), .val (.int (0 : Int32)), .val (.ref b127), .val (.ref b117), .val (.int (1 : Int32)), .unset] [(.int (eqV lo1 hi1 lo1 hi1))]) rfl ?_
            refine Go.cast (show (mkF m 248 #[.val (.int p0), .val (.int p1), .val (.int p2), .val (.int p3), .val (.int p4), .val (.int xx), .val (.int yy), .val (.int lo1), .val (.int hi1), .val (.int mm), .val (.int lo2), .val (.int hi2), .val (.ref b117), .val (.ref b127), .val (.int (0 : Int32)), .val (.ref b127), .val (.ref b117), .val (.int (1 : Int32)), .unset] [(.int (eqV lo1 hi1 lo1 hi1))]) = (mkF m 248 #[.val (.int p0), .val (.int p1), .val (.int p2), .val (.int p3), .val (.int p4), .val (.int xx), .val (.int yy), .val (.int lo1), .val (.int hi1), .val (.int mm), .val (.int lo2), .val (.int hi2), .val (.ref b117), .val (.ref b127), .val (.int (0 : Int32)), .val (.ref b127), .val (.ref b117), .val (.int (1 : Int32)), .unset] [(.int (1 : Int32))]) from by rw [show (eqV lo1 hi1 lo1 hi1) = (1 : Int32) from (if_pos ⟨rfl, rfl⟩)]) ?_
            refine g_if_eq X160 hx (hb hby at_248) (pc1 := 251) rfl (by decide) (pc2 := 255) (by decide) (fun hc248 => absurd hc248 (by decide)) (fun hc248 => ?_)
            refine g_iconst X160 hx (hb hby at_251) (pc' := 252) rfl (z := (1 : Int32)) rfl ?_
            refine g_goto X160 hx (hb hby at_252) (by decide) (pc' := 256) (by decide) ?_
            refine g_istore X160 hx (hb hby at_256) (pc' := 258) rfl (Ls' := #[.val (.int p0), .val (.int p1), .val (.int p2), .val (.int p3), .val (.int p4), .val (.int xx), .val (.int yy), .val (.int lo1), .val (.int hi1), .val (.int mm), .val (.int lo2), .val (.int hi2), .val (.ref b117), .val (.ref b127), .val (.int (0 : Int32)), .val (.ref b127), .val (.ref b117), .val (.int (1 : Int32)), .unset]) rfl ?_
            refine g_iload X160 hx (hb hby at_258) (pc' := 260) rfl rfl ?_
            refine g_if_eq X160 hx (hb hby at_260) (pc1 := 263) rfl (by decide) (pc2 := 276) (by decide) (fun hc260 => absurd hc260 (by decide)) (fun hc260 => ?_)
            refine g_aload X160 hx (hb hby at_263) (pc' := 265) rfl rfl rfl ?_
            refine g_aconst_null X160 hx (hb hby at_265) (pc' := 266) rfl ?_
            obtain ⟨v161, T161, h161, L161, X161, e161, N161, q161, st161⟩ := h_virtual (a := b117) (z := (⟨"com/example/stream_log_client/streamlogclient/protocol/VersionRange", "equals", "(Ljava/lang/Object;)Z"⟩ : MethodName)) X160 hx (W := 0) (Ls := #[.val (.int p0), .val (.int p1), .val (.int p2), .val (.int p3), .val (.int p4), .val (.int xx), .val (.int yy), .val (.int lo1), .val (.int hi1), .val (.int mm), .val (.int lo2), .val (.int hi2), .val (.ref b117), .val (.ref b127), .val (.int (0 : Int32)), .val (.ref b127), .val (.ref b117), .val (.int (1 : Int32)), .unset]) (argsL := [.null]) (rest := []) hZ e160 N160 hml hown (rm5b l Z a0 hw b117 h137 n0 Z143) f139 (hw _ (List.mem_of_getElem? (i := 20) rfl)) (hw _ (List.mem_of_getElem? (i := 21) rfl)) (notFace_of_selects (args := #[]) (mvT hZ (hw _ (List.mem_of_getElem? (i := 23) rfl)))) (hw _ (List.mem_of_getElem? (i := 23) rfl)) (hw _ (List.mem_of_getElem? (i := 22) rfl)) (hw _ (List.mem_of_getElem? (i := 9) rfl)) (hw _ (List.mem_of_getElem? (i := 24) rfl)) (by decide) pd__Ljava_lang_Object__Z rfl rfl (hb hby at_266) rfl (by decide) (by decide) (by decide) (by decide)
            obtain ⟨rfl, rfl⟩ := q161
            refine Go.movp st161 (mkF m 269 #[.val (.int p0), .val (.int p1), .val (.int p2), .val (.int p3), .val (.int p4), .val (.int xx), .val (.int yy), .val (.int lo1), .val (.int hi1), .val (.int mm), .val (.int lo2), .val (.int hi2), .val (.ref b117), .val (.ref b127), .val (.int (0 : Int32)), .val (.ref b127), .val (.ref b117), .val (.int (1 : Int32)), .unset] [(.int (0 : Int32))]) rfl ?_
            refine g_if_ne X161 hx (hb hby at_269) (pc1 := 272) rfl (by decide) (pc2 := 276) (by decide) (fun hc269 => absurd rfl hc269) (fun hc269 => ?_)
            refine g_iconst X161 hx (hb hby at_272) (pc' := 273) rfl (z := (1 : Int32)) rfl ?_
            refine g_goto X161 hx (hb hby at_273) (by decide) (pc' := 277) (by decide) ?_
            refine g_istore X161 hx (hb hby at_277) (pc' := 279) rfl (Ls' := #[.val (.int p0), .val (.int p1), .val (.int p2), .val (.int p3), .val (.int p4), .val (.int xx), .val (.int yy), .val (.int lo1), .val (.int hi1), .val (.int mm), .val (.int lo2), .val (.int hi2), .val (.ref b117), .val (.ref b127), .val (.int (0 : Int32)), .val (.ref b127), .val (.ref b117), .val (.int (1 : Int32)), .unset]) rfl ?_
            refine g_iload X161 hx (hb hby at_279) (pc' := 281) rfl rfl ?_
            obtain ⟨v162, T162, h162, L162, X162, e162, N162, q162, st162⟩ := h_static X161 hx (W := 0) (Ls := #[.val (.int p0), .val (.int p1), .val (.int p2), .val (.int p3), .val (.int p4), .val (.int xx), .val (.int yy), .val (.int lo1), .val (.int hi1), .val (.int mm), .val (.int lo2), .val (.int hi2), .val (.ref b117), .val (.ref b127), .val (.int (0 : Int32)), .val (.ref b127), .val (.ref b117), .val (.int (1 : Int32)), .unset]) (argsL := [(.int lo1)]) (rest := []) hZ e161 N161 hml hown (rm6 l Z a0 hw lo1 ca h137 n0 Z143 (Sta.ext f138.2 S1) (Sta.ext f138.2 S2) (own_cx CA f138.2) okl.1) (hw _ (List.mem_of_getElem? (i := 27) rfl)) (hw _ (List.mem_of_getElem? (i := 28) rfl)) (hw _ (List.mem_of_getElem? (i := 29) rfl)) (hw _ (List.mem_of_getElem? (i := 30) rfl)) (by decide) pd__I_Ljava_lang_Integer_ rfl rfl (hb hby at_281) rfl (by decide) (by decide) (by decide) (by decide)
            obtain ⟨r162, rfl, K162, A162⟩ := q162
            have f163 := f138.keep K162 all0
            have f164 := f139.keep K162
            have f165 := f140.keep K162 nin0
            have f166 := f141.keep K162 nin0
            have f167 := A137.keep K162
            have f168 := P137.keep K162 nin0
            have f169 := Q137.keep K162 nin0
            have Z170 : n0 ≤ h162.size := Nat.le_trans Z143 K162.1
            refine Go.movp st162 (mkF m 284 #[.val (.int p0), .val (.int p1), .val (.int p2), .val (.int p3), .val (.int p4), .val (.int xx), .val (.int yy), .val (.int lo1), .val (.int hi1), .val (.int mm), .val (.int lo2), .val (.int hi2), .val (.ref b117), .val (.ref b127), .val (.int (0 : Int32)), .val (.ref b127), .val (.ref b117), .val (.int (1 : Int32)), .unset] [(.ref r162)]) rfl ?_
            refine g_astore X162 hx (hb hby at_284) (pc' := 286) rfl rfl (Ls' := #[.val (.int p0), .val (.int p1), .val (.int p2), .val (.int p3), .val (.int p4), .val (.int xx), .val (.int yy), .val (.int lo1), .val (.int hi1), .val (.int mm), .val (.int lo2), .val (.int hi2), .val (.ref b117), .val (.ref b127), .val (.int (0 : Int32)), .val (.ref b127), .val (.ref b117), .val (.int (1 : Int32)), .val (.ref r162)]) rfl ?_
            refine g_iload X162 hx (hb hby at_286) (pc' := 288) rfl rfl ?_
            refine g_if_eq X162 hx (hb hby at_288) (pc1 := 291) rfl (by decide) (pc2 := 305) (by decide) (fun hc288 => absurd hc288 (by decide)) (fun hc288 => ?_)
            refine g_aload X162 hx (hb hby at_291) (pc' := 293) rfl rfl rfl ?_
            refine g_aload X162 hx (hb hby at_293) (pc' := 295) rfl rfl rfl ?_
            obtain ⟨v171, T171, h171, L171, X171, e171, N171, q171, st171⟩ := h_virtual (a := b117) (z := (⟨"com/example/stream_log_client/streamlogclient/protocol/VersionRange", "equals", "(Ljava/lang/Object;)Z"⟩ : MethodName)) X162 hx (W := 0) (Ls := #[.val (.int p0), .val (.int p1), .val (.int p2), .val (.int p3), .val (.int p4), .val (.int xx), .val (.int yy), .val (.int lo1), .val (.int hi1), .val (.int mm), .val (.int lo2), .val (.int hi2), .val (.ref b117), .val (.ref b127), .val (.int (0 : Int32)), .val (.ref b127), .val (.ref b117), .val (.int (1 : Int32)), .val (.ref r162)]) (argsL := [(.ref r162)]) (rest := []) hZ e162 N162 hml hown (rm5c l Z a0 hw b117 r162 h162 n0 Z170 A162) f164 (hw _ (List.mem_of_getElem? (i := 20) rfl)) (hw _ (List.mem_of_getElem? (i := 21) rfl)) (notFace_of_selects (args := #[]) (mvT hZ (hw _ (List.mem_of_getElem? (i := 23) rfl)))) (hw _ (List.mem_of_getElem? (i := 23) rfl)) (hw _ (List.mem_of_getElem? (i := 22) rfl)) (hw _ (List.mem_of_getElem? (i := 9) rfl)) (hw _ (List.mem_of_getElem? (i := 24) rfl)) (by decide) pd__Ljava_lang_Object__Z rfl rfl (hb hby at_295) rfl (by decide) (by decide) (by decide) (by decide)
            obtain ⟨rfl, rfl⟩ := q171
            refine Go.movp st171 (mkF m 298 #[.val (.int p0), .val (.int p1), .val (.int p2), .val (.int p3), .val (.int p4), .val (.int xx), .val (.int yy), .val (.int lo1), .val (.int hi1), .val (.int mm), .val (.int lo2), .val (.int hi2), .val (.ref b117), .val (.ref b127), .val (.int (0 : Int32)), .val (.ref b127), .val (.ref b117), .val (.int (1 : Int32)), .val (.ref r162)] [(.int (0 : Int32))]) rfl ?_
            refine g_if_ne X171 hx (hb hby at_298) (pc1 := 301) rfl (by decide) (pc2 := 305) (by decide) (fun hc298 => absurd rfl hc298) (fun hc298 => ?_)
            refine g_iconst X171 hx (hb hby at_301) (pc' := 302) rfl (z := (1 : Int32)) rfl ?_
            refine g_goto X171 hx (hb hby at_302) (by decide) (pc' := 306) (by decide) ?_
            refine g_istore X171 hx (hb hby at_306) (pc' := 308) rfl (Ls' := #[.val (.int p0), .val (.int p1), .val (.int p2), .val (.int p3), .val (.int p4), .val (.int xx), .val (.int yy), .val (.int lo1), .val (.int hi1), .val (.int mm), .val (.int lo2), .val (.int hi2), .val (.ref b117), .val (.ref b127), .val (.int (0 : Int32)), .val (.ref b127), .val (.ref b117), .val (.int (1 : Int32)), .val (.ref r162)]) rfl ?_
            refine g_iload X171 hx (hb hby at_308) (pc' := 310) rfl rfl ?_
            exact g_zreturn X171 hx rfl hret (hb hby at_310) N171 hlk (fun v t => endF (by decide) (by decide) v) (by rw [e171]; exact rfl)
          · skip
            refine g_iconst X137 hx (hb hby at_178) (pc' := 179) rfl (z := (1 : Int32)) rfl ?_
            refine g_goto X137 hx (hb hby at_179) (by decide) (pc' := 183) (by decide) ?_
            refine g_istore X137 hx (hb hby at_183) (pc' := 185) rfl (Ls' := #[.val (.int p0), .val (.int p1), .val (.int p2), .val (.int p3), .val (.int p4), .val (.int xx), .val (.int yy), .val (.int lo1), .val (.int hi1), .val (.int mm), .val (.int lo2), .val (.int hi2), .val (.ref b117), .val (.ref b127), .val (.int (1 : Int32)), .unset, .unset, .unset, .unset]) rfl ?_
            refine g_aload X137 hx (hb hby at_185) (pc' := 187) rfl rfl rfl ?_
            refine g_astore X137 hx (hb hby at_187) (pc' := 189) rfl rfl (Ls' := #[.val (.int p0), .val (.int p1), .val (.int p2), .val (.int p3), .val (.int p4), .val (.int xx), .val (.int yy), .val (.int lo1), .val (.int hi1), .val (.int mm), .val (.int lo2), .val (.int hi2), .val (.ref b117), .val (.ref b127), .val (.int (1 : Int32)), .val (.ref b127), .unset, .unset, .unset]) rfl ?_
            refine g_aload X137 hx (hb hby at_189) (pc' := 191) rfl rfl rfl ?_
            refine g_astore X137 hx (hb hby at_191) (pc' := 193) rfl rfl (Ls' := #[.val (.int p0), .val (.int p1), .val (.int p2), .val (.int p3), .val (.int p4), .val (.int xx), .val (.int yy), .val (.int lo1), .val (.int hi1), .val (.int mm), .val (.int lo2), .val (.int hi2), .val (.ref b117), .val (.ref b127), .val (.int (1 : Int32)), .val (.ref b127), .val (.ref b117), .unset, .unset]) rfl ?_
            refine g_aload X137 hx (hb hby at_193) (pc' := 195) rfl rfl rfl ?_
            refine g_aload X137 hx (hb hby at_195) (pc' := 197) rfl rfl rfl ?_
            obtain ⟨v172, T172, h172, L172, X172, e172, N172, q172, st172⟩ := h_virtual (a := b117) (z := (⟨"com/example/stream_log_client/streamlogclient/protocol/VersionRange", "equals", "(Ljava/lang/Object;)Z"⟩ : MethodName)) X137 hx (W := 0) (Ls := #[.val (.int p0), .val (.int p1), .val (.int p2), .val (.int p3), .val (.int p4), .val (.int xx), .val (.int yy), .val (.int lo1), .val (.int hi1), .val (.int mm), .val (.int lo2), .val (.int hi2), .val (.ref b117), .val (.ref b127), .val (.int (1 : Int32)), .val (.ref b127), .val (.ref b117), .unset, .unset]) (argsL := [(.ref b127)]) (rest := []) hZ e137 N137 hml hown (rm5a l Z a0 hw b117 b127 lo1 hi1 lo2 hi2 h137 n0 Z143 f140 f141 P137 Q137 A137) f139 (hw _ (List.mem_of_getElem? (i := 20) rfl)) (hw _ (List.mem_of_getElem? (i := 21) rfl)) (notFace_of_selects (args := #[]) (mvT hZ (hw _ (List.mem_of_getElem? (i := 23) rfl)))) (hw _ (List.mem_of_getElem? (i := 23) rfl)) (hw _ (List.mem_of_getElem? (i := 22) rfl)) (hw _ (List.mem_of_getElem? (i := 9) rfl)) (hw _ (List.mem_of_getElem? (i := 24) rfl)) (by decide) pd__Ljava_lang_Object__Z rfl rfl (hb hby at_197) rfl (by decide) (by decide) (by decide) (by decide)
            obtain ⟨rfl, rfl⟩ := q172
            refine Go.movp st172 (mkF m 200 #[.val (.int p0), .val (.int p1), .val (.int p2), .val (.int p3), .val (.int p4), .val (.int xx), .val (.int yy), .val (.int lo1), .val (.int hi1), .val (.int mm), .val (.int lo2), .val (.int hi2), .val (.ref b117), .val (.ref b127), .val (.int (1 : Int32)), .val (.ref b127), .val (.ref b117), .unset, .unset] [(.int (eqV lo1 hi1 lo2 hi2))]) rfl ?_
            refine Go.cast (show (mkF m 200 #[.val (.int p0), .val (.int p1), .val (.int p2), .val (.int p3), .val (.int p4), .val (.int xx), .val (.int yy), .val (.int lo1), .val (.int hi1), .val (.int mm), .val (.int lo2), .val (.int hi2), .val (.ref b117), .val (.ref b127), .val (.int (1 : Int32)), .val (.ref b127), .val (.ref b117), .unset, .unset] [(.int (eqV lo1 hi1 lo2 hi2))]) = (mkF m 200 #[.val (.int p0), .val (.int p1), .val (.int p2), .val (.int p3), .val (.int p4), .val (.int xx), .val (.int yy), .val (.int lo1), .val (.int hi1), .val (.int mm), .val (.int lo2), .val (.int hi2), .val (.ref b117), .val (.ref b127), .val (.int (1 : Int32)), .val (.ref b127), .val (.ref b117), .unset, .unset] [(.int (1 : Int32))]) from by rw [show (eqV lo1 hi1 lo2 hi2) = (1 : Int32) from (if_pos ⟨hc168, hc175⟩)]) ?_
            refine g_iload X172 hx (hb hby at_200) (pc' := 202) rfl rfl ?_
            refine g_icmp_ne X172 hx (hb hby at_202) (pc1 := 205) rfl (by decide) (pc2 := 209) (by decide) (fun hc202 => absurd rfl hc202) (fun hc202 => ?_)
            refine g_iconst X172 hx (hb hby at_205) (pc' := 206) rfl (z := (1 : Int32)) rfl ?_
            refine g_goto X172 hx (hb hby at_206) (by decide) (pc' := 210) (by decide) ?_
            refine g_istore X172 hx (hb hby at_210) (pc' := 212) rfl (Ls' := #[.val (.int p0), .val (.int p1), .val (.int p2), .val (.int p3), .val (.int p4), .val (.int xx), .val (.int yy), .val (.int lo1), .val (.int hi1), .val (.int mm), .val (.int lo2), .val (.int hi2), .val (.ref b117), .val (.ref b127), .val (.int (1 : Int32)), .val (.ref b127), .val (.ref b117), .val (.int (1 : Int32)), .unset]) rfl ?_
            refine g_iload X172 hx (hb hby at_212) (pc' := 214) rfl rfl ?_
            refine g_if_eq X172 hx (hb hby at_214) (pc1 := 217) rfl (by decide) (pc2 := 233) (by decide) (fun hc214 => absurd hc214 (by decide)) (fun hc214 => ?_)
            refine g_aload X172 hx (hb hby at_217) (pc' := 219) rfl rfl rfl ?_
            refine g_aload X172 hx (hb hby at_219) (pc' := 221) rfl rfl rfl ?_
            obtain ⟨v173, T173, h173, L173, X173, e173, N173, q173, st173⟩ := h_virtual (a := b127) (z := (⟨"com/example/stream_log_client/streamlogclient/protocol/VersionRange", "equals", "(Ljava/lang/Object;)Z"⟩ : MethodName)) X172 hx (W := 0) (Ls := #[.val (.int p0), .val (.int p1), .val (.int p2), .val (.int p3), .val (.int p4), .val (.int xx), .val (.int yy), .val (.int lo1), .val (.int hi1), .val (.int mm), .val (.int lo2), .val (.int hi2), .val (.ref b117), .val (.ref b127), .val (.int (1 : Int32)), .val (.ref b127), .val (.ref b117), .val (.int (1 : Int32)), .unset]) (argsL := [(.ref b117)]) (rest := []) hZ e172 N172 hml hown (rm5a l Z a0 hw b127 b117 lo2 hi2 lo1 hi1 h137 n0 Z143 P137 Q137 f140 f141 f139) A137 (hw _ (List.mem_of_getElem? (i := 20) rfl)) (hw _ (List.mem_of_getElem? (i := 21) rfl)) (notFace_of_selects (args := #[]) (mvT hZ (hw _ (List.mem_of_getElem? (i := 23) rfl)))) (hw _ (List.mem_of_getElem? (i := 23) rfl)) (hw _ (List.mem_of_getElem? (i := 22) rfl)) (hw _ (List.mem_of_getElem? (i := 9) rfl)) (hw _ (List.mem_of_getElem? (i := 24) rfl)) (by decide) pd__Ljava_lang_Object__Z rfl rfl (hb hby at_221) rfl (by decide) (by decide) (by decide) (by decide)
            obtain ⟨rfl, rfl⟩ := q173
            refine Go.movp st173 (mkF m 224 #[.val (.int p0), .val (.int p1), .val (.int p2), .val (.int p3), .val (.int p4), .val (.int xx), .val (.int yy), .val (.int lo1), .val (.int hi1), .val (.int mm), .val (.int lo2), .val (.int hi2), .val (.ref b117), .val (.ref b127), .val (.int (1 : Int32)), .val (.ref b127), .val (.ref b117), .val (.int (1 : Int32)), .unset] [(.int (eqV lo2 hi2 lo1 hi1))]) rfl ?_
            refine Go.cast (show (mkF m 224 #[.val (.int p0), .val (.int p1), .val (.int p2), .val (.int p3), .val (.int p4), .val (.int xx), .val (.int yy), .val (.int lo1), .val (.int hi1), .val (.int mm), .val (.int lo2), .val (.int hi2), .val (.ref b117), .val (.ref b127), .val (.int (1 : Int32)), .val (.ref b127), .val (.ref b117), .val (.int (1 : Int32)), .unset] [(.int (eqV lo2 hi2 lo1 hi1))]) = (mkF m 224 #[.val (.int p0), .val (.int p1), .val (.int p2), .val (.int p3), .val (.int p4), .val (.int xx), .val (.int yy), .val (.int lo1), .val (.int hi1), .val (.int mm), .val (.int lo2), .val (.int hi2), .val (.ref b117), .val (.ref b127), .val (.int (1 : Int32)), .val (.ref b127), .val (.ref b117), .val (.int (1 : Int32)), .unset] [(.int (1 : Int32))]) from by rw [show (eqV lo2 hi2 lo1 hi1) = (1 : Int32) from (if_pos ⟨hc168.symm, hc175.symm⟩)]) ?_
            refine g_iload X173 hx (hb hby at_224) (pc' := 226) rfl rfl ?_
            refine g_icmp_ne X173 hx (hb hby at_226) (pc1 := 229) rfl (by decide) (pc2 := 233) (by decide) (fun hc226 => absurd rfl hc226) (fun hc226 => ?_)
            refine g_iconst X173 hx (hb hby at_229) (pc' := 230) rfl (z := (1 : Int32)) rfl ?_
            refine g_goto X173 hx (hb hby at_230) (by decide) (pc' := 234) (by decide) ?_
            refine g_istore X173 hx (hb hby at_234) (pc' := 236) rfl (Ls' := #[.val (.int p0), .val (.int p1), .val (.int p2), .val (.int p3), .val (.int p4), .val (.int xx), .val (.int yy), .val (.int lo1), .val (.int hi1), .val (.int mm), .val (.int lo2), .val (.int hi2), .val (.ref b117), .val (.ref b127), .val (.int (1 : Int32)), .val (.ref b127), .val (.ref b117), .val (.int (1 : Int32)), .unset]) rfl ?_
            refine g_iload X173 hx (hb hby at_236) (pc' := 238) rfl rfl ?_
            refine g_if_eq X173 hx (hb hby at_238) (pc1 := 241) rfl (by decide) (pc2 := 255) (by decide) (fun hc238 => absurd hc238 (by decide)) (fun hc238 => ?_)
            refine g_aload X173 hx (hb hby at_241) (pc' := 243) rfl rfl rfl ?_
            refine g_aload X173 hx (hb hby at_243) (pc' := 245) rfl rfl rfl ?_
            obtain ⟨v174, T174, h174, L174, X174, e174, N174, q174, st174⟩ := h_virtual (a := b117) (z := (⟨"com/example/stream_log_client/streamlogclient/protocol/VersionRange", "equals", "(Ljava/lang/Object;)Z"⟩ : MethodName)) X173 hx (W := 0) (Ls := #[.val (.int p0), .val (.int p1), .val (.int p2), .val (.int p3), .val (.int p4), .val (.int xx), .val (.int yy), .val (.int lo1), .val (.int hi1), .val (.int mm), .val (.int lo2), .val (.int hi2), .val (.ref b117), .val (.ref b127), .val (.int (1 : Int32)), .val (.ref b127), .val (.ref b117), .val (.int (1 : Int32)), .unset]) (argsL := [(.ref b117)]) (rest := []) hZ e173 N173 hml hown (rm5a l Z a0 hw b117 b117 lo1 hi1 lo1 hi1 h137 n0 Z143 f140 f141 f140 f141 f139) f139 (hw _ (List.mem_of_getElem? (i := 20) rfl)) (hw _ (List.mem_of_getElem? (i := 21) rfl)) (notFace_of_selects (args := #[]) (mvT hZ (hw _ (List.mem_of_getElem? (i := 23) rfl)))) (hw _ (List.mem_of_getElem? (i := 23) rfl)) (hw _ (List.mem_of_getElem? (i := 22) rfl)) (hw _ (List.mem_of_getElem? (i := 9) rfl)) (hw _ (List.mem_of_getElem? (i := 24) rfl)) (by decide) pd__Ljava_lang_Object__Z rfl rfl (hb hby at_245) rfl (by decide) (by decide) (by decide) (by decide)
            obtain ⟨rfl, rfl⟩ := q174
            refine Go.movp st174 (mkF m 248 #[.val (.int p0), .val (.int p1), .val (.int p2), .val (.int p3), .val (.int p4), .val (.int xx), .val (.int yy), .val (.int lo1), .val (.int hi1), .val (.int mm), .val (.int lo2), .val (.int hi2), .val (.ref b117), .val (.ref b127), .val (.int (1 : Int32)), .val (.ref b127), .val (.ref b117), .val (.int (1 : Int32)), .unset] [(.int (eqV lo1 hi1 lo1 hi1))]) rfl ?_
            refine Go.cast (show (mkF m 248 #[.val (.int p0), .val (.int p1), .val (.int p2), .val (.int p3), .val (.int p4), .val (.int xx), .val (.int yy), .val (.int lo1), .val (.int hi1), .val (.int mm), .val (.int lo2), .val (.int hi2), .val (.ref b117), .val (.ref b127), .val (.int (1 : Int32)), .val (.ref b127), .val (.ref b117), .val (.int (1 : Int32)), .unset] [(.int (eqV lo1 hi1 lo1 hi1))]) = (mkF m 248 #[.val (.int p0), .val (.int p1), .val (.int p2), .val (.int p3), .val (.int p4), .val (.int xx), .val (.int yy), .val (.int lo1), .val (.int hi1), .val (.int mm), .val (.int lo2), .val (.int hi2), .val (.ref b117), .val (.ref b127), .val (.int (1 : Int32)), .val (.ref b127), .val (.ref b117), .val (.int (1 : Int32)), .unset] [(.int (1 : Int32))]) from by rw [show (eqV lo1 hi1 lo1 hi1) = (1 : Int32) from (if_pos ⟨rfl, rfl⟩)]) ?_
            refine g_if_eq X174 hx (hb hby at_248) (pc1 := 251) rfl (by decide) (pc2 := 255) (by decide) (fun hc248 => absurd hc248 (by decide)) (fun hc248 => ?_)
            refine g_iconst X174 hx (hb hby at_251) (pc' := 252) rfl (z := (1 : Int32)) rfl ?_
            refine g_goto X174 hx (hb hby at_252) (by decide) (pc' := 256) (by decide) ?_
            refine g_istore X174 hx (hb hby at_256) (pc' := 258) rfl (Ls' := #[.val (.int p0), .val (.int p1), .val (.int p2), .val (.int p3), .val (.int p4), .val (.int xx), .val (.int yy), .val (.int lo1), .val (.int hi1), .val (.int mm), .val (.int lo2), .val (.int hi2), .val (.ref b117), .val (.ref b127), .val (.int (1 : Int32)), .val (.ref b127), .val (.ref b117), .val (.int (1 : Int32)), .unset]) rfl ?_
            refine g_iload X174 hx (hb hby at_258) (pc' := 260) rfl rfl ?_
            refine g_if_eq X174 hx (hb hby at_260) (pc1 := 263) rfl (by decide) (pc2 := 276) (by decide) (fun hc260 => absurd hc260 (by decide)) (fun hc260 => ?_)
            refine g_aload X174 hx (hb hby at_263) (pc' := 265) rfl rfl rfl ?_
            refine g_aconst_null X174 hx (hb hby at_265) (pc' := 266) rfl ?_
            obtain ⟨v175, T175, h175, L175, X175, e175, N175, q175, st175⟩ := h_virtual (a := b117) (z := (⟨"com/example/stream_log_client/streamlogclient/protocol/VersionRange", "equals", "(Ljava/lang/Object;)Z"⟩ : MethodName)) X174 hx (W := 0) (Ls := #[.val (.int p0), .val (.int p1), .val (.int p2), .val (.int p3), .val (.int p4), .val (.int xx), .val (.int yy), .val (.int lo1), .val (.int hi1), .val (.int mm), .val (.int lo2), .val (.int hi2), .val (.ref b117), .val (.ref b127), .val (.int (1 : Int32)), .val (.ref b127), .val (.ref b117), .val (.int (1 : Int32)), .unset]) (argsL := [.null]) (rest := []) hZ e174 N174 hml hown (rm5b l Z a0 hw b117 h137 n0 Z143) f139 (hw _ (List.mem_of_getElem? (i := 20) rfl)) (hw _ (List.mem_of_getElem? (i := 21) rfl)) (notFace_of_selects (args := #[]) (mvT hZ (hw _ (List.mem_of_getElem? (i := 23) rfl)))) (hw _ (List.mem_of_getElem? (i := 23) rfl)) (hw _ (List.mem_of_getElem? (i := 22) rfl)) (hw _ (List.mem_of_getElem? (i := 9) rfl)) (hw _ (List.mem_of_getElem? (i := 24) rfl)) (by decide) pd__Ljava_lang_Object__Z rfl rfl (hb hby at_266) rfl (by decide) (by decide) (by decide) (by decide)
            obtain ⟨rfl, rfl⟩ := q175
            refine Go.movp st175 (mkF m 269 #[.val (.int p0), .val (.int p1), .val (.int p2), .val (.int p3), .val (.int p4), .val (.int xx), .val (.int yy), .val (.int lo1), .val (.int hi1), .val (.int mm), .val (.int lo2), .val (.int hi2), .val (.ref b117), .val (.ref b127), .val (.int (1 : Int32)), .val (.ref b127), .val (.ref b117), .val (.int (1 : Int32)), .unset] [(.int (0 : Int32))]) rfl ?_
            refine g_if_ne X175 hx (hb hby at_269) (pc1 := 272) rfl (by decide) (pc2 := 276) (by decide) (fun hc269 => absurd rfl hc269) (fun hc269 => ?_)
            refine g_iconst X175 hx (hb hby at_272) (pc' := 273) rfl (z := (1 : Int32)) rfl ?_
            refine g_goto X175 hx (hb hby at_273) (by decide) (pc' := 277) (by decide) ?_
            refine g_istore X175 hx (hb hby at_277) (pc' := 279) rfl (Ls' := #[.val (.int p0), .val (.int p1), .val (.int p2), .val (.int p3), .val (.int p4), .val (.int xx), .val (.int yy), .val (.int lo1), .val (.int hi1), .val (.int mm), .val (.int lo2), .val (.int hi2), .val (.ref b117), .val (.ref b127), .val (.int (1 : Int32)), .val (.ref b127), .val (.ref b117), .val (.int (1 : Int32)), .unset]) rfl ?_
            refine g_iload X175 hx (hb hby at_279) (pc' := 281) rfl rfl ?_
            obtain ⟨v176, T176, h176, L176, X176, e176, N176, q176, st176⟩ := h_static X175 hx (W := 0) (Ls := #[.val (.int p0), .val (.int p1), .val (.int p2), .val (.int p3), .val (.int p4), .val (.int xx), .val (.int yy), .val (.int lo1), .val (.int hi1), .val (.int mm), .val (.int lo2), .val (.int hi2), .val (.ref b117), .val (.ref b127), .val (.int (1 : Int32)), .val (.ref b127), .val (.ref b117), .val (.int (1 : Int32)), .unset]) (argsL := [(.int lo1)]) (rest := []) hZ e175 N175 hml hown (rm6 l Z a0 hw lo1 ca h137 n0 Z143 (Sta.ext f138.2 S1) (Sta.ext f138.2 S2) (own_cx CA f138.2) okl.1) (hw _ (List.mem_of_getElem? (i := 27) rfl)) (hw _ (List.mem_of_getElem? (i := 28) rfl)) (hw _ (List.mem_of_getElem? (i := 29) rfl)) (hw _ (List.mem_of_getElem? (i := 30) rfl)) (by decide) pd__I_Ljava_lang_Integer_ rfl rfl (hb hby at_281) rfl (by decide) (by decide) (by decide) (by decide)
            obtain ⟨r176, rfl, K176, A176⟩ := q176
            have f177 := f138.keep K176 all0
            have f178 := f139.keep K176
            have f179 := f140.keep K176 nin0
            have f180 := f141.keep K176 nin0
            have f181 := A137.keep K176
            have f182 := P137.keep K176 nin0
            have f183 := Q137.keep K176 nin0
            have Z184 : n0 ≤ h176.size := Nat.le_trans Z143 K176.1
            refine Go.movp st176 (mkF m 284 #[.val (.int p0), .val (.int p1), .val (.int p2), .val (.int p3), .val (.int p4), .val (.int xx), .val (.int yy), .val (.int lo1), .val (.int hi1), .val (.int mm), .val (.int lo2), .val (.int hi2), .val (.ref b117), .val (.ref b127), .val (.int (1 : Int32)), .val (.ref b127), .val (.ref b117), .val (.int (1 : Int32)), .unset] [(.ref r176)]) rfl ?_
            refine g_astore X176 hx (hb hby at_284) (pc' := 286) rfl rfl (Ls' := #[.val (.int p0), .val (.int p1), .val (.int p2), .val (.int p3), .val (.int p4), .val (.int xx), .val (.int yy), .val (.int lo1), .val (.int hi1), .val (.int mm), .val (.int lo2), .val (.int hi2), .val (.ref b117), .val (.ref b127), .val (.int (1 : Int32)), .val (.ref b127), .val (.ref b117), .val (.int (1 : Int32)), .val (.ref r176)]) rfl ?_
            refine g_iload X176 hx (hb hby at_286) (pc' := 288) rfl rfl ?_
            refine g_if_eq X176 hx (hb hby at_288) (pc1 := 291) rfl (by decide) (pc2 := 305) (by decide) (fun hc288 => absurd hc288 (by decide)) (fun hc288 => ?_)
            refine g_aload X176 hx (hb hby at_291) (pc' := 293) rfl rfl rfl ?_
            refine g_aload X176 hx (hb hby at_293) (pc' := 295) rfl rfl rfl ?_
            obtain ⟨v185, T185, h185, L185, X185, e185, N185, q185, st185⟩ := h_virtual (a := b117) (z := (⟨"com/example/stream_log_client/streamlogclient/protocol/VersionRange", "equals", "(Ljava/lang/Object;)Z"⟩ : MethodName)) X176 hx (W := 0) (Ls := #[.val (.int p0), .val (.int p1), .val (.int p2), .val (.int p3), .val (.int p4), .val (.int xx), .val (.int yy), .val (.int lo1), .val (.int hi1), .val (.int mm), .val (.int lo2), .val (.int hi2), .val (.ref b117), .val (.ref b127), .val (.int (1 : Int32)), .val (.ref b127), .val (.ref b117), .val (.int (1 : Int32)), .val (.ref r176)]) (argsL := [(.ref r176)]) (rest := []) hZ e176 N176 hml hown (rm5c l Z a0 hw b117 r176 h176 n0 Z184 A176) f178 (hw _ (List.mem_of_getElem? (i := 20) rfl)) (hw _ (List.mem_of_getElem? (i := 21) rfl)) (notFace_of_selects (args := #[]) (mvT hZ (hw _ (List.mem_of_getElem? (i := 23) rfl)))) (hw _ (List.mem_of_getElem? (i := 23) rfl)) (hw _ (List.mem_of_getElem? (i := 22) rfl)) (hw _ (List.mem_of_getElem? (i := 9) rfl)) (hw _ (List.mem_of_getElem? (i := 24) rfl)) (by decide) pd__Ljava_lang_Object__Z rfl rfl (hb hby at_295) rfl (by decide) (by decide) (by decide) (by decide)
            obtain ⟨rfl, rfl⟩ := q185
            refine Go.movp st185 (mkF m 298 #[.val (.int p0), .val (.int p1), .val (.int p2), .val (.int p3), .val (.int p4), .val (.int xx), .val (.int yy), .val (.int lo1), .val (.int hi1), .val (.int mm), .val (.int lo2), .val (.int hi2), .val (.ref b117), .val (.ref b127), .val (.int (1 : Int32)), .val (.ref b127), .val (.ref b117), .val (.int (1 : Int32)), .val (.ref r176)] [(.int (0 : Int32))]) rfl ?_
            refine g_if_ne X185 hx (hb hby at_298) (pc1 := 301) rfl (by decide) (pc2 := 305) (by decide) (fun hc298 => absurd rfl hc298) (fun hc298 => ?_)
            refine g_iconst X185 hx (hb hby at_301) (pc' := 302) rfl (z := (1 : Int32)) rfl ?_
            refine g_goto X185 hx (hb hby at_302) (by decide) (pc' := 306) (by decide) ?_
            refine g_istore X185 hx (hb hby at_306) (pc' := 308) rfl (Ls' := #[.val (.int p0), .val (.int p1), .val (.int p2), .val (.int p3), .val (.int p4), .val (.int xx), .val (.int yy), .val (.int lo1), .val (.int hi1), .val (.int mm), .val (.int lo2), .val (.int hi2), .val (.ref b117), .val (.ref b127), .val (.int (1 : Int32)), .val (.ref b127), .val (.ref b117), .val (.int (1 : Int32)), .val (.ref r176)]) rfl ?_
            refine g_iload X185 hx (hb hby at_308) (pc' := 310) rfl rfl ?_
            exact g_zreturn X185 hx rfl hret (hb hby at_310) N185 hlk (fun v t => endF (by decide) (by decide) v) (by rw [e185]; exact rfl)
    · skip
      refine g_iloadN X45 hx (hb hby at_60) (pc' := 61) rfl rfl ?_
      refine g_ldc X45 hx hZ hown (hw _ (List.mem_of_getElem? (i := 37) rfl)) (hb hby at_61) (pc' := 63) rfl ?_
      refine g_iand X45 hx (hb hby at_63) (pc' := 64) rfl ?_
      refine g_iload X45 hx (hb hby at_64) (pc' := 66) rfl rfl ?_
      refine g_iconst X45 hx (hb hby at_66) (pc' := 67) rfl (z := (1 : Int32)) rfl ?_
      refine g_iadd X45 hx (hb hby at_67) (pc' := 68) rfl ?_
      refine g_irem X45 hx (hb hby at_68) (pc' := 69) rfl (own_p1 okh).1 ?_
      refine g_istore X45 hx (hb hby at_69) (pc' := 71) rfl (Ls' := #[.val (.int p0), .val (.int p1), .val (.int p2), .val (.int p3), .val (.int p4), .val (.int xx), .val (.int yy), .val (.int lo1), .val (.int hi1), .val (.int mm), .val (.int ((p2 &&& (2147483647 : Int32)) % (hi1 + (1 : Int32)))), .unset, .unset, .unset, .unset, .unset, .unset, .unset, .unset]) rfl ?_
      refine g_iload X45 hx (hb hby at_71) (pc' := 73) rfl rfl ?_
      refine g_istore X45 hx (hb hby at_73) (pc' := 75) rfl (Ls' := #[.val (.int p0), .val (.int p1), .val (.int p2), .val (.int p3), .val (.int p4), .val (.int xx), .val (.int yy), .val (.int lo1), .val (.int hi1), .val (.int mm), .val (.int ((p2 &&& (2147483647 : Int32)) % (hi1 + (1 : Int32)))), .val (.int hi1), .unset, .unset, .unset, .unset, .unset, .unset, .unset]) rfl ?_
      refine g_goto X45 hx (hb hby at_75) (by decide) (pc' := 138) (by decide) ?_
      obtain ⟨lo2, elo2⟩ : ∃ z : Int32, z = ((p2 &&& (2147483647 : Int32)) % (hi1 + (1 : Int32))) := ⟨_, rfl⟩
      refine Go.cast (show (mkF m 138 #[.val (.int p0), .val (.int p1), .val (.int p2), .val (.int p3), .val (.int p4), .val (.int xx), .val (.int yy), .val (.int lo1), .val (.int hi1), .val (.int mm), .val (.int ((p2 &&& (2147483647 : Int32)) % (hi1 + (1 : Int32)))), .val (.int hi1), .unset, .unset, .unset, .unset, .unset, .unset, .unset] []) = (mkF m 138 #[.val (.int p0), .val (.int p1), .val (.int p2), .val (.int p3), .val (.int p4), .val (.int xx), .val (.int yy), .val (.int lo1), .val (.int hi1), .val (.int mm), .val (.int lo2), .val (.int hi1), .unset, .unset, .unset, .unset, .unset, .unset, .unset] []) from by rw [show ((p2 &&& (2147483647 : Int32)) % (hi1 + (1 : Int32))) = lo2 from elo2.symm]) ?_
      obtain ⟨hi2, ehi2⟩ : ∃ z : Int32, z = hi1 := ⟨_, rfl⟩
      refine Go.cast (show (mkF m 138 #[.val (.int p0), .val (.int p1), .val (.int p2), .val (.int p3), .val (.int p4), .val (.int xx), .val (.int yy), .val (.int lo1), .val (.int hi1), .val (.int mm), .val (.int lo2), .val (.int hi1), .unset, .unset, .unset, .unset, .unset, .unset, .unset] []) = (mkF m 138 #[.val (.int p0), .val (.int p1), .val (.int p2), .val (.int p3), .val (.int p4), .val (.int xx), .val (.int yy), .val (.int lo1), .val (.int hi1), .val (.int mm), .val (.int lo2), .val (.int hi2), .unset, .unset, .unset, .unset, .unset, .unset, .unset] []) from by rw [show hi1 = hi2 from ehi2.symm]) ?_
      have k1 : ¬ lo2 < 0 := by rw [elo2]; exact ((own_p1 okh).2 p2).1.1
      have k2 : ¬ hi2 < lo2 := by rw [elo2, ehi2]; exact ((own_p1 okh).2 p2).2
      have k3 : ¬ 32767 < hi2 := by rw [ehi2]; exact okh.2
      obtain ⟨T186, h186, X186, e186, E186, A186, D186, -, st186⟩ := newO X45 hx hZ hown (hw _ (List.mem_of_getElem? (i := 7) rfl)) (hw _ (List.mem_of_getElem? (i := 8) rfl)) (hw _ (List.mem_of_getElem? (i := 9) rfl)) e45 (g := (mkF m 138 #[.val (.int p0), .val (.int p1), .val (.int p2), .val (.int p3), .val (.int p4), .val (.int xx), .val (.int yy), .val (.int lo1), .val (.int hi1), .val (.int mm), .val (.int lo2), .val (.int hi2), .unset, .unset, .unset, .unset, .unset, .unset, .unset] [])) rfl (hb hby at_138) (by decide) (by decide)
      obtain ⟨b186, g186⟩ : ∃ z, z = h0.size := ⟨_, rfl⟩
      rw [← g186] at A186 D186 st186
      have ge187 : n0 ≤ b186 := g186 ▸ Z0
      have f188 := OZ.ext E186
      have Z189 : n0 ≤ h186.size := Nat.le_trans Z0 E186.1
      have f190 : Fld Z h186 b186 "com/example/stream_log_client/streamlogclient/protocol/VersionRange" "min" "I" (.int (0 : Int32)) := D186 (Or.inr (hw _ (List.mem_of_getElem? (i := 17) rfl))) (ty := .int) (by decide)
      have f191 : Fld Z h186 b186 "com/example/stream_log_client/streamlogclient/protocol/VersionRange" "max" "I" (.int (0 : Int32)) := D186 (Or.inr (hw _ (List.mem_of_getElem? (i := 19) rfl))) (ty := .int) (by decide)
      refine Go.movp st186 (mkF m 141 #[.val (.int p0), .val (.int p1), .val (.int p2), .val (.int p3), .val (.int p4), .val (.int xx), .val (.int yy), .val (.int lo1), .val (.int hi1), .val (.int mm), .val (.int lo2), .val (.int hi2), .unset, .unset, .unset, .unset, .unset, .unset, .unset] [(.ref b186)]) rfl ?_
      refine g_dup X186 hx (hb hby at_141) (pc' := 142) rfl rfl ?_
      refine g_iload X186 hx (hb hby at_142) (pc' := 144) rfl rfl ?_
      refine g_iload X186 hx (hb hby at_144) (pc' := 146) rfl rfl ?_
      obtain ⟨v192, T192, h192, L192, X192, e192, N192, q192, st192⟩ := h_special (a := b186) X186 hx (W := 1) (Ls := #[.val (.int p0), .val (.int p1), .val (.int p2), .val (.int p3), .val (.int p4), .val (.int xx), .val (.int yy), .val (.int lo1), .val (.int hi1), .val (.int mm), .val (.int lo2), .val (.int hi2), .unset, .unset, .unset, .unset, .unset, .unset, .unset]) (argsL := [(.int lo1), (.int hi1)]) (rest := [(.ref b186)]) hZ e186 N45 hml hown rfl (rm3 l Z a0 hw b186 lo1 hi1 h186 n0 Z189 f190 f191 A186 ge187 okl.1 lh okh.2) (hw _ (List.mem_of_getElem? (i := 10) rfl)) (hw _ (List.mem_of_getElem? (i := 11) rfl)) (hw _ (List.mem_of_getElem? (i := 9) rfl)) (hw _ (List.mem_of_getElem? (i := 12) rfl)) (by decide) pd__II_V rfl rfl (hb hby at_146) rfl (by decide) (by decide) (by decide) (by decide)
      obtain ⟨rfl, K192, A192, P192, Q192⟩ := q192
      have f193 := f188.keep K192 (allS ge187 all0)
      have f194 := A186.keep K192
      have Z195 : n0 ≤ h192.size := Nat.le_trans Z189 K192.1
      refine Go.movp st192 (mkF m 149 #[.val (.int p0), .val (.int p1), .val (.int p2), .val (.int p3), .val (.int p4), .val (.int xx), .val (.int yy), .val (.int lo1), .val (.int hi1), .val (.int mm), .val (.int lo2), .val (.int hi2), .unset, .unset, .unset, .unset, .unset, .unset, .unset] [(.ref b186)]) rfl ?_
      refine g_astore X192 hx (hb hby at_149) (pc' := 151) rfl rfl (Ls' := #[.val (.int p0), .val (.int p1), .val (.int p2), .val (.int p3), .val (.int p4), .val (.int xx), .val (.int yy), .val (.int lo1), .val (.int hi1), .val (.int mm), .val (.int lo2), .val (.int hi2), .val (.ref b186), .unset, .unset, .unset, .unset, .unset, .unset]) rfl ?_
      obtain ⟨T196, h196, X196, e196, E196, A196, D196, -, st196⟩ := newO X192 hx hZ hown (hw _ (List.mem_of_getElem? (i := 7) rfl)) (hw _ (List.mem_of_getElem? (i := 8) rfl)) (hw _ (List.mem_of_getElem? (i := 9) rfl)) e192 (g := (mkF m 151 #[.val (.int p0), .val (.int p1), .val (.int p2), .val (.int p3), .val (.int p4), .val (.int xx), .val (.int yy), .val (.int lo1), .val (.int hi1), .val (.int mm), .val (.int lo2), .val (.int hi2), .val (.ref b186), .unset, .unset, .unset, .unset, .unset, .unset] [])) rfl (hb hby at_151) (by decide) (by decide)
      obtain ⟨b196, g196⟩ : ∃ z, z = h192.size := ⟨_, rfl⟩
      rw [← g196] at A196 D196 st196
      have ne197 : b186 ≠ b196 := Nat.ne_of_lt (g196 ▸ A192.lt)
      have ge198 : n0 ≤ b196 := g196 ▸ Z195
      have f199 := f193.ext E196
      have f200 := Exa.ext E196 A192
      have f201 := Fld.ext E196 P192
      have f202 := Fld.ext E196 Q192
      have Z203 : n0 ≤ h196.size := Nat.le_trans Z195 E196.1
      have f204 : Fld Z h196 b196 "com/example/stream_log_client/streamlogclient/protocol/VersionRange" "min" "I" (.int (0 : Int32)) := D196 (Or.inr (hw _ (List.mem_of_getElem? (i := 17) rfl))) (ty := .int) (by decide)
      have f205 : Fld Z h196 b196 "com/example/stream_log_client/streamlogclient/protocol/VersionRange" "max" "I" (.int (0 : Int32)) := D196 (Or.inr (hw _ (List.mem_of_getElem? (i := 19) rfl))) (ty := .int) (by decide)
      refine Go.movp st196 (mkF m 154 #[.val (.int p0), .val (.int p1), .val (.int p2), .val (.int p3), .val (.int p4), .val (.int xx), .val (.int yy), .val (.int lo1), .val (.int hi1), .val (.int mm), .val (.int lo2), .val (.int hi2), .val (.ref b186), .unset, .unset, .unset, .unset, .unset, .unset] [(.ref b196)]) rfl ?_
      refine g_dup X196 hx (hb hby at_154) (pc' := 155) rfl rfl ?_
      refine g_iload X196 hx (hb hby at_155) (pc' := 157) rfl rfl ?_
      refine g_iload X196 hx (hb hby at_157) (pc' := 159) rfl rfl ?_
      obtain ⟨v206, T206, h206, L206, X206, e206, N206, q206, st206⟩ := h_special (a := b196) X196 hx (W := 1) (Ls := #[.val (.int p0), .val (.int p1), .val (.int p2), .val (.int p3), .val (.int p4), .val (.int xx), .val (.int yy), .val (.int lo1), .val (.int hi1), .val (.int mm), .val (.int lo2), .val (.int hi2), .val (.ref b186), .unset, .unset, .unset, .unset, .unset, .unset]) (argsL := [(.int lo2), (.int hi2)]) (rest := [(.ref b196)]) hZ e196 N192 hml hown rfl (rm3 l Z a0 hw b196 lo2 hi2 h196 n0 Z203 f204 f205 A196 ge198 k1 k2 k3) (hw _ (List.mem_of_getElem? (i := 10) rfl)) (hw _ (List.mem_of_getElem? (i := 11) rfl)) (hw _ (List.mem_of_getElem? (i := 9) rfl)) (hw _ (List.mem_of_getElem? (i := 12) rfl)) (by decide) pd__II_V rfl rfl (hb hby at_159) rfl (by decide) (by decide) (by decide) (by decide)
      obtain ⟨rfl, K206, A206, P206, Q206⟩ := q206
      have f207 := f199.keep K206 (allS ge198 all0)
      have f208 := f200.keep K206
      have f209 := f201.keep K206 (ninS ne197 nin0)
      have f210 := f202.keep K206 (ninS ne197 nin0)
      have f211 := A196.keep K206
      have Z212 : n0 ≤ h206.size := Nat.le_trans Z203 K206.1
      refine Go.movp st206 (mkF m 162 #[.val (.int p0), .val (.int p1), .val (.int p2), .val (.int p3), .val (.int p4), .val (.int xx), .val (.int yy), .val (.int lo1), .val (.int hi1), .val (.int mm), .val (.int lo2), .val (.int hi2), .val (.ref b186), .unset, .unset, .unset, .unset, .unset, .unset] [(.ref b196)]) rfl ?_
      refine g_astore X206 hx (hb hby at_162) (pc' := 164) rfl rfl (Ls' := #[.val (.int p0), .val (.int p1), .val (.int p2), .val (.int p3), .val (.int p4), .val (.int xx), .val (.int yy), .val (.int lo1), .val (.int hi1), .val (.int mm), .val (.int lo2), .val (.int hi2), .val (.ref b186), .val (.ref b196), .unset, .unset, .unset, .unset, .unset]) rfl ?_
      refine g_iload X206 hx (hb hby at_164) (pc' := 166) rfl rfl ?_
      refine g_iload X206 hx (hb hby at_166) (pc' := 168) rfl rfl ?_
      refine g_icmp_ne X206 hx (hb hby at_168) (pc1 := 171) rfl (by decide) (pc2 := 182) (by decide) (fun hc168 => ?_) (fun hc168 => ?_)
      · skip
        refine g_iconst X206 hx (hb hby at_182) (pc' := 183) rfl (z := (0 : Int32)) rfl ?_
        refine g_istore X206 hx (hb hby at_183) (pc' := 185) rfl (Ls' := #[.val (.int p0), .val (.int p1), .val (.int p2), .val (.int p3), .val (.int p4), .val (.int xx), .val (.int yy), .val (.int lo1), .val (.int hi1), .val (.int mm), .val (.int lo2), .val (.int hi2), .val (.ref b186), .val (.ref b196), .val (.int (0 : Int32)), .unset, .unset, .unset, .unset]) rfl ?_
        refine g_aload X206 hx (hb hby at_185) (pc' := 187) rfl rfl rfl ?_
        refine g_astore X206 hx (hb hby at_187) (pc' := 189) rfl rfl (Ls' := #[.val (.int p0), .val (.int p1), .val (.int p2), .val (.int p3), .val (.int p4), .val (.int xx), .val (.int yy), .val (.int lo1), .val (.int hi1), .val (.int mm), .val (.int lo2), .val (.int hi2), .val (.ref b186), .val (.ref b196), .val (.int (0 : Int32)), .val (.ref b196), .unset, .unset, .unset]) rfl ?_
        refine g_aload X206 hx (hb hby at_189) (pc' := 191) rfl rfl rfl ?_
        refine g_astore X206 hx (hb hby at_191) (pc' := 193) rfl rfl (Ls' := #[.val (.int p0), .val (.int p1), .val (.int p2), .val (.int p3), .val (.int p4), .val (.int xx), .val (.int yy), .val (.int lo1), .val (.int hi1), .val (.int mm), .val (.int lo2), .val (.int hi2), .val (.ref b186), .val (.ref b196), .val (.int (0 : Int32)), .val (.ref b196), .val (.ref b186), .unset, .unset]) rfl ?_
        refine g_aload X206 hx (hb hby at_193) (pc' := 195) rfl rfl rfl ?_
        refine g_aload X206 hx (hb hby at_195) (pc' := 197) rfl rfl rfl ?_
        obtain ⟨v213, T213, h213, L213, X213, e213, N213, q213, st213⟩ := h_virtual (a := b186) (z := (⟨"com/example/stream_log_client/streamlogclient/protocol/VersionRange", "equals", "(Ljava/lang/Object;)Z"⟩ : MethodName)) X206 hx (W := 0) (Ls := #[.val (.int p0), .val (.int p1), .val (.int p2), .val (.int p3), .val (.int p4), .val (.int xx), .val (.int yy), .val (.int lo1), .val (.int hi1), .val (.int mm), .val (.int lo2), .val (.int hi2), .val (.ref b186), .val (.ref b196), .val (.int (0 : Int32)), .val (.ref b196), .val (.ref b186), .unset, .unset]) (argsL := [(.ref b196)]) (rest := []) hZ e206 N206 hml hown (rm5a l Z a0 hw b186 b196 lo1 hi1 lo2 hi2 h206 n0 Z212 f209 f210 P206 Q206 A206) f208 (hw _ (List.mem_of_getElem? (i := 20) rfl)) (hw _ (List.mem_of_getElem? (i := 21) rfl)) (notFace_of_selects (args := #[]) (mvT hZ (hw _ (List.mem_of_getElem? (i := 23) rfl)))) (hw _ (List.mem_of_getElem? (i := 23) rfl)) (hw _ (List.mem_of_getElem? (i := 22) rfl)) (hw _ (List.mem_of_getElem? (i := 9) rfl)) (hw _ (List.mem_of_getElem? (i := 24) rfl)) (by decide) pd__Ljava_lang_Object__Z rfl rfl (hb hby at_197) rfl (by decide) (by decide) (by decide) (by decide)
        obtain ⟨rfl, rfl⟩ := q213
        refine Go.movp st213 (mkF m 200 #[.val (.int p0), .val (.int p1), .val (.int p2), .val (.int p3), .val (.int p4), .val (.int xx), .val (.int yy), .val (.int lo1), .val (.int hi1), .val (.int mm), .val (.int lo2), .val (.int hi2), .val (.ref b186), .val (.ref b196), .val (.int (0 : Int32)), .val (.ref b196), .val (.ref b186), .unset, .unset] [(.int (eqV lo1 hi1 lo2 hi2))]) rfl ?_
        refine Go.cast (show (mkF m 200 #[.val (.int p0), .val (.int p1), .val (.int p2), .val (.int p3), .val (.int p4), .val (.int xx), .val (.int yy), .val (.int lo1), .val (.int hi1), .val (.int mm), .val (.int lo2), .val (.int hi2), .val (.ref b186), .val (.ref b196), .val (.int (0 : Int32)), .val (.ref b196), .val (.ref b186), .unset, .unset] [(.int (eqV lo1 hi1 lo2 hi2))]) = (mkF m 200 #[.val (.int p0), .val (.int p1), .val (.int p2), .val (.int p3), .val (.int p4), .val (.int xx), .val (.int yy), .val (.int lo1), .val (.int hi1), .val (.int mm), .val (.int lo2), .val (.int hi2), .val (.ref b186), .val (.ref b196), .val (.int (0 : Int32)), .val (.ref b196), .val (.ref b186), .unset, .unset] [(.int (0 : Int32))]) from by rw [show (eqV lo1 hi1 lo2 hi2) = (0 : Int32) from (if_neg (fun q => hc168 q.1))]) ?_
        refine g_iload X213 hx (hb hby at_200) (pc' := 202) rfl rfl ?_
        refine g_icmp_ne X213 hx (hb hby at_202) (pc1 := 205) rfl (by decide) (pc2 := 209) (by decide) (fun hc202 => absurd rfl hc202) (fun hc202 => ?_)
        refine g_iconst X213 hx (hb hby at_205) (pc' := 206) rfl (z := (1 : Int32)) rfl ?_
        refine g_goto X213 hx (hb hby at_206) (by decide) (pc' := 210) (by decide) ?_
        refine g_istore X213 hx (hb hby at_210) (pc' := 212) rfl (Ls' := #[.val (.int p0), .val (.int p1), .val (.int p2), .val (.int p3), .val (.int p4), .val (.int xx), .val (.int yy), .val (.int lo1), .val (.int hi1), .val (.int mm), .val (.int lo2), .val (.int hi2), .val (.ref b186), .val (.ref b196), .val (.int (0 : Int32)), .val (.ref b196), .val (.ref b186), .val (.int (1 : Int32)), .unset]) rfl ?_
        refine g_iload X213 hx (hb hby at_212) (pc' := 214) rfl rfl ?_
        refine g_if_eq X213 hx (hb hby at_214) (pc1 := 217) rfl (by decide) (pc2 := 233) (by decide) (fun hc214 => absurd hc214 (by decide)) (fun hc214 => ?_)
        refine g_aload X213 hx (hb hby at_217) (pc' := 219) rfl rfl rfl ?_
        refine g_aload X213 hx (hb hby at_219) (pc' := 221) rfl rfl rfl ?_
        obtain ⟨v214, T214, h214, L214, X214, e214, N214, q214, st214⟩ := h_virtual (a := b196) (z := (⟨"com/example/stream_log_client/streamlogclient/protocol/VersionRange", "equals", "(Ljava/lang/Object;)Z"⟩ : MethodName)) X213 hx (W := 0) (Ls := #[.val (.int p0), .val (.int p1), .val (.int p2), .val (.int p3), .val (.int p4), .val (.int xx), .val (.int yy), .val (.int lo1), .val (.int hi1), .val (.int mm), .val (.int lo2), .val (.int hi2), .val (.ref b186), .val (.ref b196), .val (.int (0 : Int32)), .val (.ref b196), .val (.ref b186), .val (.int (1 : Int32)), .unset]) (argsL := [(.ref b186)]) (rest := []) hZ e213 N213 hml hown (rm5a l Z a0 hw b196 b186 lo2 hi2 lo1 hi1 h206 n0 Z212 P206 Q206 f209 f210 f208) A206 (hw _ (List.mem_of_getElem? (i := 20) rfl)) (hw _ (List.mem_of_getElem? (i := 21) rfl)) (notFace_of_selects (args := #[]) (mvT hZ (hw _ (List.mem_of_getElem? (i := 23) rfl)))) (hw _ (List.mem_of_getElem? (i := 23) rfl)) (hw _ (List.mem_of_getElem? (i := 22) rfl)) (hw _ (List.mem_of_getElem? (i := 9) rfl)) (hw _ (List.mem_of_getElem? (i := 24) rfl)) (by decide) pd__Ljava_lang_Object__Z rfl rfl (hb hby at_221) rfl (by decide) (by decide) (by decide) (by decide)
        obtain ⟨rfl, rfl⟩ := q214
        refine Go.movp st214 (mkF m 224 #[.val (.int p0), .val (.int p1), .val (.int p2), .val (.int p3), .val (.int p4), .val (.int xx), .val (.int yy), .val (.int lo1), .val (.int hi1), .val (.int mm), .val (.int lo2), .val (.int hi2), .val (.ref b186), .val (.ref b196), .val (.int (0 : Int32)), .val (.ref b196), .val (.ref b186), .val (.int (1 : Int32)), .unset] [(.int (eqV lo2 hi2 lo1 hi1))]) rfl ?_
        refine Go.cast (show (mkF m 224 #[.val (.int p0), .val (.int p1), .val (.int p2), .val (.int p3), .val (.int p4), .val (.int xx), .val (.int yy), .val (.int lo1), .val (.int hi1), .val (.int mm), .val (.int lo2), .val (.int hi2), .val (.ref b186), .val (.ref b196), .val (.int (0 : Int32)), .val (.ref b196), .val (.ref b186), .val (.int (1 : Int32)), .unset] [(.int (eqV lo2 hi2 lo1 hi1))]) = (mkF m 224 #[.val (.int p0), .val (.int p1), .val (.int p2), .val (.int p3), .val (.int p4), .val (.int xx), .val (.int yy), .val (.int lo1), .val (.int hi1), .val (.int mm), .val (.int lo2), .val (.int hi2), .val (.ref b186), .val (.ref b196), .val (.int (0 : Int32)), .val (.ref b196), .val (.ref b186), .val (.int (1 : Int32)), .unset] [(.int (0 : Int32))]) from by rw [show (eqV lo2 hi2 lo1 hi1) = (0 : Int32) from (if_neg (fun q => hc168 q.1.symm))]) ?_
        refine g_iload X214 hx (hb hby at_224) (pc' := 226) rfl rfl ?_
        refine g_icmp_ne X214 hx (hb hby at_226) (pc1 := 229) rfl (by decide) (pc2 := 233) (by decide) (fun hc226 => absurd rfl hc226) (fun hc226 => ?_)
        refine g_iconst X214 hx (hb hby at_229) (pc' := 230) rfl (z := (1 : Int32)) rfl ?_
        refine g_goto X214 hx (hb hby at_230) (by decide) (pc' := 234) (by decide) ?_
        refine g_istore X214 hx (hb hby at_234) (pc' := 236) rfl (Ls' := #[.val (.int p0), .val (.int p1), .val (.int p2), .val (.int p3), .val (.int p4), .val (.int xx), .val (.int yy), .val (.int lo1), .val (.int hi1), .val (.int mm), .val (.int lo2), .val (.int hi2), .val (.ref b186), .val (.ref b196), .val (.int (0 : Int32)), .val (.ref b196), .val (.ref b186), .val (.int (1 : Int32)), .unset]) rfl ?_
        refine g_iload X214 hx (hb hby at_236) (pc' := 238) rfl rfl ?_
        refine g_if_eq X214 hx (hb hby at_238) (pc1 := 241) rfl (by decide) (pc2 := 255) (by decide) (fun hc238 => absurd hc238 (by decide)) (fun hc238 => ?_)
        refine g_aload X214 hx (hb hby at_241) (pc' := 243) rfl rfl rfl ?_
        refine g_aload X214 hx (hb hby at_243) (pc' := 245) rfl rfl rfl ?_
        obtain ⟨v215, T215, h215, L215, X215, e215, N215, q215, st215⟩ := h_virtual (a := b186) (z := (⟨"com/example/stream_log_client/streamlogclient/protocol/VersionRange", "equals", "(Ljava/lang/Object;)Z"⟩ : MethodName)) X214 hx (W := 0) (Ls := #[.val (.int p0), .val (.int p1), .val (.int p2), .val (.int p3), .val (.int p4), .val (.int xx), .val (.int yy), .val (.int lo1), .val (.int hi1), .val (.int mm), .val (.int lo2), .val (.int hi2), .val (.ref b186), .val (.ref b196), .val (.int (0 : Int32)), .val (.ref b196), .val (.ref b186), .val (.int (1 : Int32)), .unset]) (argsL := [(.ref b186)]) (rest := []) hZ e214 N214 hml hown (rm5a l Z a0 hw b186 b186 lo1 hi1 lo1 hi1 h206 n0 Z212 f209 f210 f209 f210 f208) f208 (hw _ (List.mem_of_getElem? (i := 20) rfl)) (hw _ (List.mem_of_getElem? (i := 21) rfl)) (notFace_of_selects (args := #[]) (mvT hZ (hw _ (List.mem_of_getElem? (i := 23) rfl)))) (hw _ (List.mem_of_getElem? (i := 23) rfl)) (hw _ (List.mem_of_getElem? (i := 22) rfl)) (hw _ (List.mem_of_getElem? (i := 9) rfl)) (hw _ (List.mem_of_getElem? (i := 24) rfl)) (by decide) pd__Ljava_lang_Object__Z rfl rfl (hb hby at_245) rfl (by decide) (by decide) (by decide) (by decide)
        obtain ⟨rfl, rfl⟩ := q215
        refine Go.movp st215 (mkF m 248 #[.val (.int p0), .val (.int p1), .val (.int p2), .val (.int p3), .val (.int p4), .val (.int xx), .val (.int yy), .val (.int lo1), .val (.int hi1), .val (.int mm), .val (.int lo2), .val (.int hi2), .val (.ref b186), .val (.ref b196), .val (.int (0 : Int32)), .val (.ref b196), .val (.ref b186), .val (.int (1 : Int32)), .unset] [(.int (eqV lo1 hi1 lo1 hi1))]) rfl ?_
        refine Go.cast (show (mkF m 248 #[.val (.int p0), .val (.int p1), .val (.int p2), .val (.int p3), .val (.int p4), .val (.int xx), .val (.int yy), .val (.int lo1), .val (.int hi1), .val (.int mm), .val (.int lo2), .val (.int hi2), .val (.ref b186), .val (.ref b196), .val (.int (0 : Int32)), .val (.ref b196), .val (.ref b186), .val (.int (1 : Int32)), .unset] [(.int (eqV lo1 hi1 lo1 hi1))]) = (mkF m 248 #[.val (.int p0), .val (.int p1), .val (.int p2), .val (.int p3), .val (.int p4), .val (.int xx), .val (.int yy), .val (.int lo1), .val (.int hi1), .val (.int mm), .val (.int lo2), .val (.int hi2), .val (.ref b186), .val (.ref b196), .val (.int (0 : Int32)), .val (.ref b196), .val (.ref b186), .val (.int (1 : Int32)), .unset] [(.int (1 : Int32))]) from by rw [show (eqV lo1 hi1 lo1 hi1) = (1 : Int32) from (if_pos ⟨rfl, rfl⟩)]) ?_
        refine g_if_eq X215 hx (hb hby at_248) (pc1 := 251) rfl (by decide) (pc2 := 255) (by decide) (fun hc248 => absurd hc248 (by decide)) (fun hc248 => ?_)
        refine g_iconst X215 hx (hb hby at_251) (pc' := 252) rfl (z := (1 : Int32)) rfl ?_
        refine g_goto X215 hx (hb hby at_252) (by decide) (pc' := 256) (by decide) ?_
        refine g_istore X215 hx (hb hby at_256) (pc' := 258) rfl (Ls' := #[.val (.int p0), .val (.int p1), .val (.int p2), .val (.int p3), .val (.int p4), .val (.int xx), .val (.int yy), .val (.int lo1), .val (.int hi1), .val (.int mm), .val (.int lo2), .val (.int hi2), .val (.ref b186), .val (.ref b196), .val (.int (0 : Int32)), .val (.ref b196), .val (.ref b186), .val (.int (1 : Int32)), .unset]) rfl ?_
        refine g_iload X215 hx (hb hby at_258) (pc' := 260) rfl rfl ?_
        refine g_if_eq X215 hx (hb hby at_260) (pc1 := 263) rfl (by decide) (pc2 := 276) (by decide) (fun hc260 => absurd hc260 (by decide)) (fun hc260 => ?_)
        refine g_aload X215 hx (hb hby at_263) (pc' := 265) rfl rfl rfl ?_
        refine g_aconst_null X215 hx (hb hby at_265) (pc' := 266) rfl ?_
        obtain ⟨v216, T216, h216, L216, X216, e216, N216, q216, st216⟩ := h_virtual (a := b186) (z := (⟨"com/example/stream_log_client/streamlogclient/protocol/VersionRange", "equals", "(Ljava/lang/Object;)Z"⟩ : MethodName)) X215 hx (W := 0) (Ls := #[.val (.int p0), .val (.int p1), .val (.int p2), .val (.int p3), .val (.int p4), .val (.int xx), .val (.int yy), .val (.int lo1), .val (.int hi1), .val (.int mm), .val (.int lo2), .val (.int hi2), .val (.ref b186), .val (.ref b196), .val (.int (0 : Int32)), .val (.ref b196), .val (.ref b186), .val (.int (1 : Int32)), .unset]) (argsL := [.null]) (rest := []) hZ e215 N215 hml hown (rm5b l Z a0 hw b186 h206 n0 Z212) f208 (hw _ (List.mem_of_getElem? (i := 20) rfl)) (hw _ (List.mem_of_getElem? (i := 21) rfl)) (notFace_of_selects (args := #[]) (mvT hZ (hw _ (List.mem_of_getElem? (i := 23) rfl)))) (hw _ (List.mem_of_getElem? (i := 23) rfl)) (hw _ (List.mem_of_getElem? (i := 22) rfl)) (hw _ (List.mem_of_getElem? (i := 9) rfl)) (hw _ (List.mem_of_getElem? (i := 24) rfl)) (by decide) pd__Ljava_lang_Object__Z rfl rfl (hb hby at_266) rfl (by decide) (by decide) (by decide) (by decide)
        obtain ⟨rfl, rfl⟩ := q216
        refine Go.movp st216 (mkF m 269 #[.val (.int p0), .val (.int p1), .val (.int p2), .val (.int p3), .val (.int p4), .val (.int xx), .val (.int yy), .val (.int lo1), .val (.int hi1), .val (.int mm), .val (.int lo2), .val (.int hi2), .val (.ref b186), .val (.ref b196), .val (.int (0 : Int32)), .val (.ref b196), .val (.ref b186), .val (.int (1 : Int32)), .unset] [(.int (0 : Int32))]) rfl ?_
        refine g_if_ne X216 hx (hb hby at_269) (pc1 := 272) rfl (by decide) (pc2 := 276) (by decide) (fun hc269 => absurd rfl hc269) (fun hc269 => ?_)
        refine g_iconst X216 hx (hb hby at_272) (pc' := 273) rfl (z := (1 : Int32)) rfl ?_
        refine g_goto X216 hx (hb hby at_273) (by decide) (pc' := 277) (by decide) ?_
        refine g_istore X216 hx (hb hby at_277) (pc' := 279) rfl (Ls' := #[.val (.int p0), .val (.int p1), .val (.int p2), .val (.int p3), .val (.int p4), .val (.int xx), .val (.int yy), .val (.int lo1), .val (.int hi1), .val (.int mm), .val (.int lo2), .val (.int hi2), .val (.ref b186), .val (.ref b196), .val (.int (0 : Int32)), .val (.ref b196), .val (.ref b186), .val (.int (1 : Int32)), .unset]) rfl ?_
        refine g_iload X216 hx (hb hby at_279) (pc' := 281) rfl rfl ?_
        obtain ⟨v217, T217, h217, L217, X217, e217, N217, q217, st217⟩ := h_static X216 hx (W := 0) (Ls := #[.val (.int p0), .val (.int p1), .val (.int p2), .val (.int p3), .val (.int p4), .val (.int xx), .val (.int yy), .val (.int lo1), .val (.int hi1), .val (.int mm), .val (.int lo2), .val (.int hi2), .val (.ref b186), .val (.ref b196), .val (.int (0 : Int32)), .val (.ref b196), .val (.ref b186), .val (.int (1 : Int32)), .unset]) (argsL := [(.int lo1)]) (rest := []) hZ e216 N216 hml hown (rm6 l Z a0 hw lo1 ca h206 n0 Z212 (Sta.ext f207.2 S1) (Sta.ext f207.2 S2) (own_cx CA f207.2) okl.1) (hw _ (List.mem_of_getElem? (i := 27) rfl)) (hw _ (List.mem_of_getElem? (i := 28) rfl)) (hw _ (List.mem_of_getElem? (i := 29) rfl)) (hw _ (List.mem_of_getElem? (i := 30) rfl)) (by decide) pd__I_Ljava_lang_Integer_ rfl rfl (hb hby at_281) rfl (by decide) (by decide) (by decide) (by decide)
        obtain ⟨r217, rfl, K217, A217⟩ := q217
        have f218 := f207.keep K217 all0
        have f219 := f208.keep K217
        have f220 := f209.keep K217 nin0
        have f221 := f210.keep K217 nin0
        have f222 := A206.keep K217
        have f223 := P206.keep K217 nin0
        have f224 := Q206.keep K217 nin0
        have Z225 : n0 ≤ h217.size := Nat.le_trans Z212 K217.1
        refine Go.movp st217 (mkF m 284 #[.val (.int p0), .val (.int p1), .val (.int p2), .val (.int p3), .val (.int p4), .val (.int xx), .val (.int yy), .val (.int lo1), .val (.int hi1), .val (.int mm), .val (.int lo2), .val (.int hi2), .val (.ref b186), .val (.ref b196), .val (.int (0 : Int32)), .val (.ref b196), .val (.ref b186), .val (.int (1 : Int32)), .unset] [(.ref r217)]) rfl ?_
        refine g_astore X217 hx (hb hby at_284) (pc' := 286) rfl rfl (Ls' := #[.val (.int p0), .val (.int p1), .val (.int p2), .val (.int p3), .val (.int p4), .val (.int xx), .val (.int yy), .val (.int lo1), .val (.int hi1), .val (.int mm), .val (.int lo2), .val (.int hi2), .val (.ref b186), .val (.ref b196), .val (.int (0 : Int32)), .val (.ref b196), .val (.ref b186), .val (.int (1 : Int32)), .val (.ref r217)]) rfl ?_
        refine g_iload X217 hx (hb hby at_286) (pc' := 288) rfl rfl ?_
        refine g_if_eq X217 hx (hb hby at_288) (pc1 := 291) rfl (by decide) (pc2 := 305) (by decide) (fun hc288 => absurd hc288 (by decide)) (fun hc288 => ?_)
        refine g_aload X217 hx (hb hby at_291) (pc' := 293) rfl rfl rfl ?_
        refine g_aload X217 hx (hb hby at_293) (pc' := 295) rfl rfl rfl ?_
        obtain ⟨v226, T226, h226, L226, X226, e226, N226, q226, st226⟩ := h_virtual (a := b186) (z := (⟨"com/example/stream_log_client/streamlogclient/protocol/VersionRange", "equals", "(Ljava/lang/Object;)Z"⟩ : MethodName)) X217 hx (W := 0) (Ls := #[.val (.int p0), .val (.int p1), .val (.int p2), .val (.int p3), .val (.int p4), .val (.int xx), .val (.int yy), .val (.int lo1), .val (.int hi1), .val (.int mm), .val (.int lo2), .val (.int hi2), .val (.ref b186), .val (.ref b196), .val (.int (0 : Int32)), .val (.ref b196), .val (.ref b186), .val (.int (1 : Int32)), .val (.ref r217)]) (argsL := [(.ref r217)]) (rest := []) hZ e217 N217 hml hown (rm5c l Z a0 hw b186 r217 h217 n0 Z225 A217) f219 (hw _ (List.mem_of_getElem? (i := 20) rfl)) (hw _ (List.mem_of_getElem? (i := 21) rfl)) (notFace_of_selects (args := #[]) (mvT hZ (hw _ (List.mem_of_getElem? (i := 23) rfl)))) (hw _ (List.mem_of_getElem? (i := 23) rfl)) (hw _ (List.mem_of_getElem? (i := 22) rfl)) (hw _ (List.mem_of_getElem? (i := 9) rfl)) (hw _ (List.mem_of_getElem? (i := 24) rfl)) (by decide) pd__Ljava_lang_Object__Z rfl rfl (hb hby at_295) rfl (by decide) (by decide) (by decide) (by decide)
        obtain ⟨rfl, rfl⟩ := q226
        refine Go.movp st226 (mkF m 298 #[.val (.int p0), .val (.int p1), .val (.int p2), .val (.int p3), .val (.int p4), .val (.int xx), .val (.int yy), .val (.int lo1), .val (.int hi1), .val (.int mm), .val (.int lo2), .val (.int hi2), .val (.ref b186), .val (.ref b196), .val (.int (0 : Int32)), .val (.ref b196), .val (.ref b186), .val (.int (1 : Int32)), .val (.ref r217)] [(.int (0 : Int32))]) rfl ?_
        refine g_if_ne X226 hx (hb hby at_298) (pc1 := 301) rfl (by decide) (pc2 := 305) (by decide) (fun hc298 => absurd rfl hc298) (fun hc298 => ?_)
        refine g_iconst X226 hx (hb hby at_301) (pc' := 302) rfl (z := (1 : Int32)) rfl ?_
        refine g_goto X226 hx (hb hby at_302) (by decide) (pc' := 306) (by decide) ?_
        refine g_istore X226 hx (hb hby at_306) (pc' := 308) rfl (Ls' := #[.val (.int p0), .val (.int p1), .val (.int p2), .val (.int p3), .val (.int p4), .val (.int xx), .val (.int yy), .val (.int lo1), .val (.int hi1), .val (.int mm), .val (.int lo2), .val (.int hi2), .val (.ref b186), .val (.ref b196), .val (.int (0 : Int32)), .val (.ref b196), .val (.ref b186), .val (.int (1 : Int32)), .val (.ref r217)]) rfl ?_
        refine g_iload X226 hx (hb hby at_308) (pc' := 310) rfl rfl ?_
        exact g_zreturn X226 hx rfl hret (hb hby at_310) N226 hlk (fun v t => endF (by decide) (by decide) v) (by rw [e226]; exact rfl)
      · skip
        refine g_iload X206 hx (hb hby at_171) (pc' := 173) rfl rfl ?_
        refine g_iload X206 hx (hb hby at_173) (pc' := 175) rfl rfl ?_
        refine g_icmp_ne X206 hx (hb hby at_175) (pc1 := 178) rfl (by decide) (pc2 := 182) (by decide) (fun hc175 => ?_) (fun hc175 => ?_)
        · skip
          refine g_iconst X206 hx (hb hby at_182) (pc' := 183) rfl (z := (0 : Int32)) rfl ?_
          refine g_istore X206 hx (hb hby at_183) (pc' := 185) rfl (Ls' := #[.val (.int p0), .val (.int p1), .val (.int p2), .val (.int p3), .val (.int p4), .val (.int xx), .val (.int yy), .val (.int lo1), .val (.int hi1), .val (.int mm), .val (.int lo2), .val (.int hi2), .val (.ref b186), .val (.ref b196), .val (.int (0 : Int32)), .unset, .unset, .unset, .unset]) rfl ?_
          refine g_aload X206 hx (hb hby at_185) (pc' := 187) rfl rfl rfl ?_
          refine g_astore X206 hx (hb hby at_187) (pc' := 189) rfl rfl (Ls' := #[.val (.int p0), .val (.int p1), .val (.int p2), .val (.int p3), .val (.int p4), .val (.int xx), .val (.int yy), .val (.int lo1), .val (.int hi1), .val (.int mm), .val (.int lo2), .val (.int hi2), .val (.ref b186), .val (.ref b196), .val (.int (0 : Int32)), .val (.ref b196), .unset, .unset, .unset]) rfl ?_
          refine g_aload X206 hx (hb hby at_189) (pc' := 191) rfl rfl rfl ?_
          refine g_astore X206 hx (hb hby at_191) (pc' := 193) rfl rfl (Ls' := #[.val (.int p0), .val (.int p1), .val (.int p2), .val (.int p3), .val (.int p4), .val (.int xx), .val (.int yy), .val (.int lo1), .val (.int hi1), .val (.int mm), .val (.int lo2), .val (.int hi2), .val (.ref b186), .val (.ref b196), .val (.int (0 : Int32)), .val (.ref b196), .val (.ref b186), .unset, .unset]) rfl ?_
          refine g_aload X206 hx (hb hby at_193) (pc' := 195) rfl rfl rfl ?_
          refine g_aload X206 hx (hb hby at_195) (pc' := 197) rfl rfl rfl ?_
          obtain ⟨v227, T227, h227, L227, X227, e227, N227, q227, st227⟩ := h_virtual (a := b186) (z := (⟨"com/example/stream_log_client/streamlogclient/protocol/VersionRange", "equals", "(Ljava/lang/Object;)Z"⟩ : MethodName)) X206 hx (W := 0) (Ls := #[.val (.int p0), .val (.int p1), .val (.int p2), .val (.int p3), .val (.int p4), .val (.int xx), .val (.int yy), .val (.int lo1), .val (.int hi1), .val (.int mm), .val (.int lo2), .val (.int hi2), .val (.ref b186), .val (.ref b196), .val (.int (0 : Int32)), .val (.ref b196), .val (.ref b186), .unset, .unset]) (argsL := [(.ref b196)]) (rest := []) hZ e206 N206 hml hown (rm5a l Z a0 hw b186 b196 lo1 hi1 lo2 hi2 h206 n0 Z212 f209 f210 P206 Q206 A206) f208 (hw _ (List.mem_of_getElem? (i := 20) rfl)) (hw _ (List.mem_of_getElem? (i := 21) rfl)) (notFace_of_selects (args := #[]) (mvT hZ (hw _ (List.mem_of_getElem? (i := 23) rfl)))) (hw _ (List.mem_of_getElem? (i := 23) rfl)) (hw _ (List.mem_of_getElem? (i := 22) rfl)) (hw _ (List.mem_of_getElem? (i := 9) rfl)) (hw _ (List.mem_of_getElem? (i := 24) rfl)) (by decide) pd__Ljava_lang_Object__Z rfl rfl (hb hby at_197) rfl (by decide) (by decide) (by decide) (by decide)
          obtain ⟨rfl, rfl⟩ := q227
          refine Go.movp st227 (mkF m 200 #[.val (.int p0), .val (.int p1), .val (.int p2), .val (.int p3), .val (.int p4), .val (.int xx), .val (.int yy), .val (.int lo1), .val (.int hi1), .val (.int mm), .val (.int lo2), .val (.int hi2), .val (.ref b186), .val (.ref b196), .val (.int (0 : Int32)), .val (.ref b196), .val (.ref b186), .unset, .unset] [(.int (eqV lo1 hi1 lo2 hi2))]) rfl ?_
          refine Go.cast (show (mkF m 200 #[.val (.int p0), .val (.int p1), .val (.int p2), .val (.int p3), .val (.int p4), .val (.int xx), .val (.int yy), .val (.int lo1), .val (.int hi1), .val (.int mm), .val (.int lo2), .val (.int hi2), .val (.ref b186), .val (.ref b196), .val (.int (0 : Int32)), .val (.ref b196), .val (.ref b186), .unset, .unset] [(.int (eqV lo1 hi1 lo2 hi2))]) = (mkF m 200 #[.val (.int p0), .val (.int p1), .val (.int p2), .val (.int p3), .val (.int p4), .val (.int xx), .val (.int yy), .val (.int lo1), .val (.int hi1), .val (.int mm), .val (.int lo2), .val (.int hi2), .val (.ref b186), .val (.ref b196), .val (.int (0 : Int32)), .val (.ref b196), .val (.ref b186), .unset, .unset] [(.int (0 : Int32))]) from by rw [show (eqV lo1 hi1 lo2 hi2) = (0 : Int32) from (if_neg (fun q => hc175 q.2))]) ?_
          refine g_iload X227 hx (hb hby at_200) (pc' := 202) rfl rfl ?_
          refine g_icmp_ne X227 hx (hb hby at_202) (pc1 := 205) rfl (by decide) (pc2 := 209) (by decide) (fun hc202 => absurd rfl hc202) (fun hc202 => ?_)
          refine g_iconst X227 hx (hb hby at_205) (pc' := 206) rfl (z := (1 : Int32)) rfl ?_
          refine g_goto X227 hx (hb hby at_206) (by decide) (pc' := 210) (by decide) ?_
          refine g_istore X227 hx (hb hby at_210) (pc' := 212) rfl (Ls' := #[.val (.int p0), .val (.int p1), .val (.int p2), .val (.int p3), .val (.int p4), .val (.int xx), .val (.int yy), .val (.int lo1), .val (.int hi1), .val (.int mm), .val (.int lo2), .val (.int hi2), .val (.ref b186), .val (.ref b196), .val (.int (0 : Int32)), .val (.ref b196), .val (.ref b186), .val (.int (1 : Int32)), .unset]) rfl ?_
          refine g_iload X227 hx (hb hby at_212) (pc' := 214) rfl rfl ?_
          refine g_if_eq X227 hx (hb hby at_214) (pc1 := 217) rfl (by decide) (pc2 := 233) (by decide) (fun hc214 => absurd hc214 (by decide)) (fun hc214 => ?_)
          refine g_aload X227 hx (hb hby at_217) (pc' := 219) rfl rfl rfl ?_
          refine g_aload X227 hx (hb hby at_219) (pc' := 221) rfl rfl rfl ?_
          obtain ⟨v228, T228, h228, L228, X228, e228, N228, q228, st228⟩ := h_virtual (a := b196) (z := (⟨"com/example/stream_log_client/streamlogclient/protocol/VersionRange", "equals", "(Ljava/lang/Object;)Z"⟩ : MethodName)) X227 hx (W := 0) (Ls := #[.val (.int p0), .val (.int p1), .val (.int p2), .val (.int p3), .val (.int p4), .val (.int xx), .val (.int yy), .val (.int lo1), .val (.int hi1), .val (.int mm), .val (.int lo2), .val (.int hi2), .val (.ref b186), .val (.ref b196), .val (.int (0 : Int32)), .val (.ref b196), .val (.ref b186), .val (.int (1 : Int32)), .unset]) (argsL := [(.ref b186)]) (rest := []) hZ e227 N227 hml hown (rm5a l Z a0 hw b196 b186 lo2 hi2 lo1 hi1 h206 n0 Z212 P206 Q206 f209 f210 f208) A206 (hw _ (List.mem_of_getElem? (i := 20) rfl)) (hw _ (List.mem_of_getElem? (i := 21) rfl)) (notFace_of_selects (args := #[]) (mvT hZ (hw _ (List.mem_of_getElem? (i := 23) rfl)))) (hw _ (List.mem_of_getElem? (i := 23) rfl)) (hw _ (List.mem_of_getElem? (i := 22) rfl)) (hw _ (List.mem_of_getElem? (i := 9) rfl)) (hw _ (List.mem_of_getElem? (i := 24) rfl)) (by decide) pd__Ljava_lang_Object__Z rfl rfl (hb hby at_221) rfl (by decide) (by decide) (by decide) (by decide)
          obtain ⟨rfl, rfl⟩ := q228
          refine Go.movp st228 (mkF m 224 #[.val (.int p0), .val (.int p1), .val (.int p2), .val (.int p3), .val (.int p4), .val (.int xx), .val (.int yy), .val (.int lo1), .val (.int hi1), .val (.int mm), .val (.int lo2), .val (.int hi2), .val (.ref b186), .val (.ref b196), .val (.int (0 : Int32)), .val (.ref b196), .val (.ref b186), .val (.int (1 : Int32)), .unset] [(.int (eqV lo2 hi2 lo1 hi1))]) rfl ?_
          refine Go.cast (show (mkF m 224 #[.val (.int p0), .val (.int p1), .val (.int p2), .val (.int p3), .val (.int p4), .val (.int xx), .val (.int yy), .val (.int lo1), .val (.int hi1), .val (.int mm), .val (.int lo2), .val (.int hi2), .val (.ref b186), .val (.ref b196), .val (.int (0 : Int32)), .val (.ref b196), .val (.ref b186), .val (.int (1 : Int32)), .unset] [(.int (eqV lo2 hi2 lo1 hi1))]) = (mkF m 224 #[.val (.int p0), .val (.int p1), .val (.int p2), .val (.int p3), .val (.int p4), .val (.int xx), .val (.int yy), .val (.int lo1), .val (.int hi1), .val (.int mm), .val (.int lo2), .val (.int hi2), .val (.ref b186), .val (.ref b196), .val (.int (0 : Int32)), .val (.ref b196), .val (.ref b186), .val (.int (1 : Int32)), .unset] [(.int (0 : Int32))]) from by rw [show (eqV lo2 hi2 lo1 hi1) = (0 : Int32) from (if_neg (fun q => hc175 q.2.symm))]) ?_
          refine g_iload X228 hx (hb hby at_224) (pc' := 226) rfl rfl ?_
          refine g_icmp_ne X228 hx (hb hby at_226) (pc1 := 229) rfl (by decide) (pc2 := 233) (by decide) (fun hc226 => absurd rfl hc226) (fun hc226 => ?_)
          refine g_iconst X228 hx (hb hby at_229) (pc' := 230) rfl (z := (1 : Int32)) rfl ?_
          refine g_goto X228 hx (hb hby at_230) (by decide) (pc' := 234) (by decide) ?_
          refine g_istore X228 hx (hb hby at_234) (pc' := 236) rfl (Ls' := #[.val (.int p0), .val (.int p1), .val (.int p2), .val (.int p3), .val (.int p4), .val (.int xx), .val (.int yy), .val (.int lo1), .val (.int hi1), .val (.int mm), .val (.int lo2), .val (.int hi2), .val (.ref b186), .val (.ref b196), .val (.int (0 : Int32)), .val (.ref b196), .val (.ref b186), .val (.int (1 : Int32)), .unset]) rfl ?_
          refine g_iload X228 hx (hb hby at_236) (pc' := 238) rfl rfl ?_
          refine g_if_eq X228 hx (hb hby at_238) (pc1 := 241) rfl (by decide) (pc2 := 255) (by decide) (fun hc238 => absurd hc238 (by decide)) (fun hc238 => ?_)
          refine g_aload X228 hx (hb hby at_241) (pc' := 243) rfl rfl rfl ?_
          refine g_aload X228 hx (hb hby at_243) (pc' := 245) rfl rfl rfl ?_
          obtain ⟨v229, T229, h229, L229, X229, e229, N229, q229, st229⟩ := h_virtual (a := b186) (z := (⟨"com/example/stream_log_client/streamlogclient/protocol/VersionRange", "equals", "(Ljava/lang/Object;)Z"⟩ : MethodName)) X228 hx (W := 0) (Ls := #[.val (.int p0), .val (.int p1), .val (.int p2), .val (.int p3), .val (.int p4), .val (.int xx), .val (.int yy), .val (.int lo1), .val (.int hi1), .val (.int mm), .val (.int lo2), .val (.int hi2), .val (.ref b186), .val (.ref b196), .val (.int (0 : Int32)), .val (.ref b196), .val (.ref b186), .val (.int (1 : Int32)), .unset]) (argsL := [(.ref b186)]) (rest := []) hZ e228 N228 hml hown (rm5a l Z a0 hw b186 b186 lo1 hi1 lo1 hi1 h206 n0 Z212 f209 f210 f209 f210 f208) f208 (hw _ (List.mem_of_getElem? (i := 20) rfl)) (hw _ (List.mem_of_getElem? (i := 21) rfl)) (notFace_of_selects (args := #[]) (mvT hZ (hw _ (List.mem_of_getElem? (i := 23) rfl)))) (hw _ (List.mem_of_getElem? (i := 23) rfl)) (hw _ (List.mem_of_getElem? (i := 22) rfl)) (hw _ (List.mem_of_getElem? (i := 9) rfl)) (hw _ (List.mem_of_getElem? (i := 24) rfl)) (by decide) pd__Ljava_lang_Object__Z rfl rfl (hb hby at_245) rfl (by decide) (by decide) (by decide) (by decide)
          obtain ⟨rfl, rfl⟩ := q229
          refine Go.movp st229 (mkF m 248 #[.val (.int p0), .val (.int p1), .val (.int p2), .val (.int p3), .val (.int p4), .val (.int xx), .val (.int yy), .val (.int lo1), .val (.int hi1), .val (.int mm), .val (.int lo2), .val (.int hi2), .val (.ref b186), .val (.ref b196), .val (.int (0 : Int32)), .val (.ref b196), .val (.ref b186), .val (.int (1 : Int32)), .unset] [(.int (eqV lo1 hi1 lo1 hi1))]) rfl ?_
          refine Go.cast (show (mkF m 248 #[.val (.int p0), .val (.int p1), .val (.int p2), .val (.int p3), .val (.int p4), .val (.int xx), .val (.int yy), .val (.int lo1), .val (.int hi1), .val (.int mm), .val (.int lo2), .val (.int hi2), .val (.ref b186), .val (.ref b196), .val (.int (0 : Int32)), .val (.ref b196), .val (.ref b186), .val (.int (1 : Int32)), .unset] [(.int (eqV lo1 hi1 lo1 hi1))]) = (mkF m 248 #[.val (.int p0), .val (.int p1), .val (.int p2), .val (.int p3), .val (.int p4), .val (.int xx), .val (.int yy), .val (.int lo1), .val (.int hi1), .val (.int mm), .val (.int lo2), .val (.int hi2), .val (.ref b186), .val (.ref b196), .val (.int (0 : Int32)), .val (.ref b196), .val (.ref b186), .val (.int (1 : Int32)), .unset] [(.int (1 : Int32))]) from by rw [show (eqV lo1 hi1 lo1 hi1) = (1 : Int32) from (if_pos ⟨rfl, rfl⟩)]) ?_
          refine g_if_eq X229 hx (hb hby at_248) (pc1 := 251) rfl (by decide) (pc2 := 255) (by decide) (fun hc248 => absurd hc248 (by decide)) (fun hc248 => ?_)
          refine g_iconst X229 hx (hb hby at_251) (pc' := 252) rfl (z := (1 : Int32)) rfl ?_
          refine g_goto X229 hx (hb hby at_252) (by decide) (pc' := 256) (by decide) ?_
          refine g_istore X229 hx (hb hby at_256) (pc' := 258) rfl (Ls' := #[.val (.int p0), .val (.int p1), .val (.int p2), .val (.int p3), .val (.int p4), .val (.int xx), .val (.int yy), .val (.int lo1), .val (.int hi1), .val (.int mm), .val (.int lo2), .val (.int hi2), .val (.ref b186), .val (.ref b196), .val (.int (0 : Int32)), .val (.ref b196), .val (.ref b186), .val (.int (1 : Int32)), .unset]) rfl ?_
          refine g_iload X229 hx (hb hby at_258) (pc' := 260) rfl rfl ?_
          refine g_if_eq X229 hx (hb hby at_260) (pc1 := 263) rfl (by decide) (pc2 := 276) (by decide) (fun hc260 => absurd hc260 (by decide)) (fun hc260 => ?_)
          refine g_aload X229 hx (hb hby at_263) (pc' := 265) rfl rfl rfl ?_
          refine g_aconst_null X229 hx (hb hby at_265) (pc' := 266) rfl ?_
          obtain ⟨v230, T230, h230, L230, X230, e230, N230, q230, st230⟩ := h_virtual (a := b186) (z := (⟨"com/example/stream_log_client/streamlogclient/protocol/VersionRange", "equals", "(Ljava/lang/Object;)Z"⟩ : MethodName)) X229 hx (W := 0) (Ls := #[.val (.int p0), .val (.int p1), .val (.int p2), .val (.int p3), .val (.int p4), .val (.int xx), .val (.int yy), .val (.int lo1), .val (.int hi1), .val (.int mm), .val (.int lo2), .val (.int hi2), .val (.ref b186), .val (.ref b196), .val (.int (0 : Int32)), .val (.ref b196), .val (.ref b186), .val (.int (1 : Int32)), .unset]) (argsL := [.null]) (rest := []) hZ e229 N229 hml hown (rm5b l Z a0 hw b186 h206 n0 Z212) f208 (hw _ (List.mem_of_getElem? (i := 20) rfl)) (hw _ (List.mem_of_getElem? (i := 21) rfl)) (notFace_of_selects (args := #[]) (mvT hZ (hw _ (List.mem_of_getElem? (i := 23) rfl)))) (hw _ (List.mem_of_getElem? (i := 23) rfl)) (hw _ (List.mem_of_getElem? (i := 22) rfl)) (hw _ (List.mem_of_getElem? (i := 9) rfl)) (hw _ (List.mem_of_getElem? (i := 24) rfl)) (by decide) pd__Ljava_lang_Object__Z rfl rfl (hb hby at_266) rfl (by decide) (by decide) (by decide) (by decide)
          obtain ⟨rfl, rfl⟩ := q230
          refine Go.movp st230 (mkF m 269 #[.val (.int p0), .val (.int p1), .val (.int p2), .val (.int p3), .val (.int p4), .val (.int xx), .val (.int yy), .val (.int lo1), .val (.int hi1), .val (.int mm), .val (.int lo2), .val (.int hi2), .val (.ref b186), .val (.ref b196), .val (.int (0 : Int32)), .val (.ref b196), .val (.ref b186), .val (.int (1 : Int32)), .unset] [(.int (0 : Int32))]) rfl ?_
          refine g_if_ne X230 hx (hb hby at_269) (pc1 := 272) rfl (by decide) (pc2 := 276) (by decide) (fun hc269 => absurd rfl hc269) (fun hc269 => ?_)
          refine g_iconst X230 hx (hb hby at_272) (pc' := 273) rfl (z := (1 : Int32)) rfl ?_
          refine g_goto X230 hx (hb hby at_273) (by decide) (pc' := 277) (by decide) ?_
          refine g_istore X230 hx (hb hby at_277) (pc' := 279) rfl (Ls' := #[.val (.int p0), .val (.int p1), .val (.int p2), .val (.int p3), .val (.int p4), .val (.int xx), .val (.int yy), .val (.int lo1), .val (.int hi1), .val (.int mm), .val (.int lo2), .val (.int hi2), .val (.ref b186), .val (.ref b196), .val (.int (0 : Int32)), .val (.ref b196), .val (.ref b186), .val (.int (1 : Int32)), .unset]) rfl ?_
          refine g_iload X230 hx (hb hby at_279) (pc' := 281) rfl rfl ?_
          obtain ⟨v231, T231, h231, L231, X231, e231, N231, q231, st231⟩ := h_static X230 hx (W := 0) (Ls := #[.val (.int p0), .val (.int p1), .val (.int p2), .val (.int p3), .val (.int p4), .val (.int xx), .val (.int yy), .val (.int lo1), .val (.int hi1), .val (.int mm), .val (.int lo2), .val (.int hi2), .val (.ref b186), .val (.ref b196), .val (.int (0 : Int32)), .val (.ref b196), .val (.ref b186), .val (.int (1 : Int32)), .unset]) (argsL := [(.int lo1)]) (rest := []) hZ e230 N230 hml hown (rm6 l Z a0 hw lo1 ca h206 n0 Z212 (Sta.ext f207.2 S1) (Sta.ext f207.2 S2) (own_cx CA f207.2) okl.1) (hw _ (List.mem_of_getElem? (i := 27) rfl)) (hw _ (List.mem_of_getElem? (i := 28) rfl)) (hw _ (List.mem_of_getElem? (i := 29) rfl)) (hw _ (List.mem_of_getElem? (i := 30) rfl)) (by decide) pd__I_Ljava_lang_Integer_ rfl rfl (hb hby at_281) rfl (by decide) (by decide) (by decide) (by decide)
          obtain ⟨r231, rfl, K231, A231⟩ := q231
          have f232 := f207.keep K231 all0
          have f233 := f208.keep K231
          have f234 := f209.keep K231 nin0
          have f235 := f210.keep K231 nin0
          have f236 := A206.keep K231
          have f237 := P206.keep K231 nin0
          have f238 := Q206.keep K231 nin0
          have Z239 : n0 ≤ h231.size := Nat.le_trans Z212 K231.1
          refine Go.movp st231 (mkF m 284 #[.val (.int p0), .val (.int p1), .val (.int p2), .val (.int p3), .val (.int p4), .val (.int xx), .val (.int yy), .val (.int lo1), .val (.int hi1), .val (.int mm), .val (.int lo2), .val (.int hi2), .val (.ref b186), .val (.ref b196), .val (.int (0 : Int32)), .val (.ref b196), .val (.ref b186), .val (.int (1 : Int32)), .unset] [(.ref r231)]) rfl ?_
          refine g_astore X231 hx (hb hby at_284) (pc' := 286) rfl rfl (Ls' := #[.val (.int p0), .val (.int p1), .val (.int p2), .val (.int p3), .val (.int p4), .val (.int xx), .val (.int yy), .val (.int lo1), .val (.int hi1), .val (.int mm), .val (.int lo2), .val (.int hi2), .val (.ref b186), .val (.ref b196), .val (.int (0 : Int32)), .val (.ref b196), .val (.ref b186), .val (.int (1 : Int32)), .val (.ref r231)]) rfl ?_
          refine g_iload X231 hx (hb hby at_286) (pc' := 288) rfl rfl ?_
          refine g_if_eq X231 hx (hb hby at_288) (pc1 := 291) rfl (by decide) (pc2 := 305) (by decide) (fun hc288 => absurd hc288 (by decide)) (fun hc288 => ?_)
          refine g_aload X231 hx (hb hby at_291) (pc' := 293) rfl rfl rfl ?_
          refine g_aload X231 hx (hb hby at_293) (pc' := 295) rfl rfl rfl ?_
          obtain ⟨v240, T240, h240, L240, X240, e240, N240, q240, st240⟩ := h_virtual (a := b186) (z := (⟨"com/example/stream_log_client/streamlogclient/protocol/VersionRange", "equals", "(Ljava/lang/Object;)Z"⟩ : MethodName)) X231 hx (W := 0) (Ls := #[.val (.int p0), .val (.int p1), .val (.int p2), .val (.int p3), .val (.int p4), .val (.int xx), .val (.int yy), .val (.int lo1), .val (.int hi1), .val (.int mm), .val (.int lo2), .val (.int hi2), .val (.ref b186), .val (.ref b196), .val (.int (0 : Int32)), .val (.ref b196), .val (.ref b186), .val (.int (1 : Int32)), .val (.ref r231)]) (argsL := [(.ref r231)]) (rest := []) hZ e231 N231 hml hown (rm5c l Z a0 hw b186 r231 h231 n0 Z239 A231) f233 (hw _ (List.mem_of_getElem? (i := 20) rfl)) (hw _ (List.mem_of_getElem? (i := 21) rfl)) (notFace_of_selects (args := #[]) (mvT hZ (hw _ (List.mem_of_getElem? (i := 23) rfl)))) (hw _ (List.mem_of_getElem? (i := 23) rfl)) (hw _ (List.mem_of_getElem? (i := 22) rfl)) (hw _ (List.mem_of_getElem? (i := 9) rfl)) (hw _ (List.mem_of_getElem? (i := 24) rfl)) (by decide) pd__Ljava_lang_Object__Z rfl rfl (hb hby at_295) rfl (by decide) (by decide) (by decide) (by decide)
          obtain ⟨rfl, rfl⟩ := q240
          refine Go.movp st240 (mkF m 298 #[.val (.int p0), .val (.int p1), .val (.int p2), .val (.int p3), .val (.int p4), .val (.int xx), .val (.int yy), .val (.int lo1), .val (.int hi1), .val (.int mm), .val (.int lo2), .val (.int hi2), .val (.ref b186), .val (.ref b196), .val (.int (0 : Int32)), .val (.ref b196), .val (.ref b186), .val (.int (1 : Int32)), .val (.ref r231)] [(.int (0 : Int32))]) rfl ?_
          refine g_if_ne X240 hx (hb hby at_298) (pc1 := 301) rfl (by decide) (pc2 := 305) (by decide) (fun hc298 => absurd rfl hc298) (fun hc298 => ?_)
          refine g_iconst X240 hx (hb hby at_301) (pc' := 302) rfl (z := (1 : Int32)) rfl ?_
          refine g_goto X240 hx (hb hby at_302) (by decide) (pc' := 306) (by decide) ?_
          refine g_istore X240 hx (hb hby at_306) (pc' := 308) rfl (Ls' := #[.val (.int p0), .val (.int p1), .val (.int p2), .val (.int p3), .val (.int p4), .val (.int xx), .val (.int yy), .val (.int lo1), .val (.int hi1), .val (.int mm), .val (.int lo2), .val (.int hi2), .val (.ref b186), .val (.ref b196), .val (.int (0 : Int32)), .val (.ref b196), .val (.ref b186), .val (.int (1 : Int32)), .val (.ref r231)]) rfl ?_
          refine g_iload X240 hx (hb hby at_308) (pc' := 310) rfl rfl ?_
          exact g_zreturn X240 hx rfl hret (hb hby at_310) N240 hlk (fun v t => endF (by decide) (by decide) v) (by rw [e240]; exact rfl)
        · skip
          refine g_iconst X206 hx (hb hby at_178) (pc' := 179) rfl (z := (1 : Int32)) rfl ?_
          refine g_goto X206 hx (hb hby at_179) (by decide) (pc' := 183) (by decide) ?_
          refine g_istore X206 hx (hb hby at_183) (pc' := 185) rfl (Ls' := #[.val (.int p0), .val (.int p1), .val (.int p2), .val (.int p3), .val (.int p4), .val (.int xx), .val (.int yy), .val (.int lo1), .val (.int hi1), .val (.int mm), .val (.int lo2), .val (.int hi2), .val (.ref b186), .val (.ref b196), .val (.int (1 : Int32)), .unset, .unset, .unset, .unset]) rfl ?_
          refine g_aload X206 hx (hb hby at_185) (pc' := 187) rfl rfl rfl ?_
          refine g_astore X206 hx (hb hby at_187) (pc' := 189) rfl rfl (Ls' := #[.val (.int p0), .val (.int p1), .val (.int p2), .val (.int p3), .val (.int p4), .val (.int xx), .val (.int yy), .val (.int lo1), .val (.int hi1), .val (.int mm), .val (.int lo2), .val (.int hi2), .val (.ref b186), .val (.ref b196), .val (.int (1 : Int32)), .val (.ref b196), .unset, .unset, .unset]) rfl ?_
          refine g_aload X206 hx (hb hby at_189) (pc' := 191) rfl rfl rfl ?_
          refine g_astore X206 hx (hb hby at_191) (pc' := 193) rfl rfl (Ls' := #[.val (.int p0), .val (.int p1), .val (.int p2), .val (.int p3), .val (.int p4), .val (.int xx), .val (.int yy), .val (.int lo1), .val (.int hi1), .val (.int mm), .val (.int lo2), .val (.int hi2), .val (.ref b186), .val (.ref b196), .val (.int (1 : Int32)), .val (.ref b196), .val (.ref b186), .unset, .unset]) rfl ?_
          refine g_aload X206 hx (hb hby at_193) (pc' := 195) rfl rfl rfl ?_
          refine g_aload X206 hx (hb hby at_195) (pc' := 197) rfl rfl rfl ?_
          obtain ⟨v241, T241, h241, L241, X241, e241, N241, q241, st241⟩ := h_virtual (a := b186) (z := (⟨"com/example/stream_log_client/streamlogclient/protocol/VersionRange", "equals", "(Ljava/lang/Object;)Z"⟩ : MethodName)) X206 hx (W := 0) (Ls := #[.val (.int p0), .val (.int p1), .val (.int p2), .val (.int p3), .val (.int p4), .val (.int xx), .val (.int yy), .val (.int lo1), .val (.int hi1), .val (.int mm), .val (.int lo2), .val (.int hi2), .val (.ref b186), .val (.ref b196), .val (.int (1 : Int32)), .val (.ref b196), .val (.ref b186), .unset, .unset]) (argsL := [(.ref b196)]) (rest := []) hZ e206 N206 hml hown (rm5a l Z a0 hw b186 b196 lo1 hi1 lo2 hi2 h206 n0 Z212 f209 f210 P206 Q206 A206) f208 (hw _ (List.mem_of_getElem? (i := 20) rfl)) (hw _ (List.mem_of_getElem? (i := 21) rfl)) (notFace_of_selects (args := #[]) (mvT hZ (hw _ (List.mem_of_getElem? (i := 23) rfl)))) (hw _ (List.mem_of_getElem? (i := 23) rfl)) (hw _ (List.mem_of_getElem? (i := 22) rfl)) (hw _ (List.mem_of_getElem? (i := 9) rfl)) (hw _ (List.mem_of_getElem? (i := 24) rfl)) (by decide) pd__Ljava_lang_Object__Z rfl rfl (hb hby at_197) rfl (by decide) (by decide) (by decide) (by decide)
          obtain ⟨rfl, rfl⟩ := q241
          refine Go.movp st241 (mkF m 200 #[.val (.int p0), .val (.int p1), .val (.int p2), .val (.int p3), .val (.int p4), .val (.int xx), .val (.int yy), .val (.int lo1), .val (.int hi1), .val (.int mm), .val (.int lo2), .val (.int hi2), .val (.ref b186), .val (.ref b196), .val (.int (1 : Int32)), .val (.ref b196), .val (.ref b186), .unset, .unset] [(.int (eqV lo1 hi1 lo2 hi2))]) rfl ?_
          refine Go.cast (show (mkF m 200 #[.val (.int p0), .val (.int p1), .val (.int p2), .val (.int p3), .val (.int p4), .val (.int xx), .val (.int yy), .val (.int lo1), .val (.int hi1), .val (.int mm), .val (.int lo2), .val (.int hi2), .val (.ref b186), .val (.ref b196), .val (.int (1 : Int32)), .val (.ref b196), .val (.ref b186), .unset, .unset] [(.int (eqV lo1 hi1 lo2 hi2))]) = (mkF m 200 #[.val (.int p0), .val (.int p1), .val (.int p2), .val (.int p3), .val (.int p4), .val (.int xx), .val (.int yy), .val (.int lo1), .val (.int hi1), .val (.int mm), .val (.int lo2), .val (.int hi2), .val (.ref b186), .val (.ref b196), .val (.int (1 : Int32)), .val (.ref b196), .val (.ref b186), .unset, .unset] [(.int (1 : Int32))]) from by rw [show (eqV lo1 hi1 lo2 hi2) = (1 : Int32) from (if_pos ⟨hc168, hc175⟩)]) ?_
          refine g_iload X241 hx (hb hby at_200) (pc' := 202) rfl rfl ?_
          refine g_icmp_ne X241 hx (hb hby at_202) (pc1 := 205) rfl (by decide) (pc2 := 209) (by decide) (fun hc202 => absurd rfl hc202) (fun hc202 => ?_)
          refine g_iconst X241 hx (hb hby at_205) (pc' := 206) rfl (z := (1 : Int32)) rfl ?_
          refine g_goto X241 hx (hb hby at_206) (by decide) (pc' := 210) (by decide) ?_
          refine g_istore X241 hx (hb hby at_210) (pc' := 212) rfl (Ls' := #[.val (.int p0), .val (.int p1), .val (.int p2), .val (.int p3), .val (.int p4), .val (.int xx), .val (.int yy), .val (.int lo1), .val (.int hi1), .val (.int mm), .val (.int lo2), .val (.int hi2), .val (.ref b186), .val (.ref b196), .val (.int (1 : Int32)), .val (.ref b196), .val (.ref b186), .val (.int (1 : Int32)), .unset]) rfl ?_
          refine g_iload X241 hx (hb hby at_212) (pc' := 214) rfl rfl ?_
          refine g_if_eq X241 hx (hb hby at_214) (pc1 := 217) rfl (by decide) (pc2 := 233) (by decide) (fun hc214 => absurd hc214 (by decide)) (fun hc214 => ?_)
          refine g_aload X241 hx (hb hby at_217) (pc' := 219) rfl rfl rfl ?_
          refine g_aload X241 hx (hb hby at_219) (pc' := 221) rfl rfl rfl ?_
          obtain ⟨v242, T242, h242, L242, X242, e242, N242, q242, st242⟩ := h_virtual (a := b196) (z := (⟨"com/example/stream_log_client/streamlogclient/protocol/VersionRange", "equals", "(Ljava/lang/Object;)Z"⟩ : MethodName)) X241 hx (W := 0) (Ls := #[.val (.int p0), .val (.int p1), .val (.int p2), .val (.int p3), .val (.int p4), .val (.int xx), .val (.int yy), .val (.int lo1), .val (.int hi1), .val (.int mm), .val (.int lo2), .val (.int hi2), .val (.ref b186), .val (.ref b196), .val (.int (1 : Int32)), .val (.ref b196), .val (.ref b186), .val (.int (1 : Int32)), .unset]) (argsL := [(.ref b186)]) (rest := []) hZ e241 N241 hml hown (rm5a l Z a0 hw b196 b186 lo2 hi2 lo1 hi1 h206 n0 Z212 P206 Q206 f209 f210 f208) A206 (hw _ (List.mem_of_getElem? (i := 20) rfl)) (hw _ (List.mem_of_getElem? (i := 21) rfl)) (notFace_of_selects (args := #[]) (mvT hZ (hw _ (List.mem_of_getElem? (i := 23) rfl)))) (hw _ (List.mem_of_getElem? (i := 23) rfl)) (hw _ (List.mem_of_getElem? (i := 22) rfl)) (hw _ (List.mem_of_getElem? (i := 9) rfl)) (hw _ (List.mem_of_getElem? (i := 24) rfl)) (by decide) pd__Ljava_lang_Object__Z rfl rfl (hb hby at_221) rfl (by decide) (by decide) (by decide) (by decide)
          obtain ⟨rfl, rfl⟩ := q242
          refine Go.movp st242 (mkF m 224 #[.val (.int p0), .val (.int p1), .val (.int p2), .val (.int p3), .val (.int p4), .val (.int xx), .val (.int yy), .val (.int lo1), .val (.int hi1), .val (.int mm), .val (.int lo2), .val (.int hi2), .val (.ref b186), .val (.ref b196), .val (.int (1 : Int32)), .val (.ref b196), .val (.ref b186), .val (.int (1 : Int32)), .unset] [(.int (eqV lo2 hi2 lo1 hi1))]) rfl ?_
          refine Go.cast (show (mkF m 224 #[.val (.int p0), .val (.int p1), .val (.int p2), .val (.int p3), .val (.int p4), .val (.int xx), .val (.int yy), .val (.int lo1), .val (.int hi1), .val (.int mm), .val (.int lo2), .val (.int hi2), .val (.ref b186), .val (.ref b196), .val (.int (1 : Int32)), .val (.ref b196), .val (.ref b186), .val (.int (1 : Int32)), .unset] [(.int (eqV lo2 hi2 lo1 hi1))]) = (mkF m 224 #[.val (.int p0), .val (.int p1), .val (.int p2), .val (.int p3), .val (.int p4), .val (.int xx), .val (.int yy), .val (.int lo1), .val (.int hi1), .val (.int mm), .val (.int lo2), .val (.int hi2), .val (.ref b186), .val (.ref b196), .val (.int (1 : Int32)), .val (.ref b196), .val (.ref b186), .val (.int (1 : Int32)), .unset] [(.int (1 : Int32))]) from by rw [show (eqV lo2 hi2 lo1 hi1) = (1 : Int32) from (if_pos ⟨hc168.symm, hc175.symm⟩)]) ?_
          refine g_iload X242 hx (hb hby at_224) (pc' := 226) rfl rfl ?_
          refine g_icmp_ne X242 hx (hb hby at_226) (pc1 := 229) rfl (by decide) (pc2 := 233) (by decide) (fun hc226 => absurd rfl hc226) (fun hc226 => ?_)
          refine g_iconst X242 hx (hb hby at_229) (pc' := 230) rfl (z := (1 : Int32)) rfl ?_
          refine g_goto X242 hx (hb hby at_230) (by decide) (pc' := 234) (by decide) ?_
          refine g_istore X242 hx (hb hby at_234) (pc' := 236) rfl (Ls' := #[.val (.int p0), .val (.int p1), .val (.int p2), .val (.int p3), .val (.int p4), .val (.int xx), .val (.int yy), .val (.int lo1), .val (.int hi1), .val (.int mm), .val (.int lo2), .val (.int hi2), .val (.ref b186), .val (.ref b196), .val (.int (1 : Int32)), .val (.ref b196), .val (.ref b186), .val (.int (1 : Int32)), .unset]) rfl ?_
          refine g_iload X242 hx (hb hby at_236) (pc' := 238) rfl rfl ?_
          refine g_if_eq X242 hx (hb hby at_238) (pc1 := 241) rfl (by decide) (pc2 := 255) (by decide) (fun hc238 => absurd hc238 (by decide)) (fun hc238 => ?_)
          refine g_aload X242 hx (hb hby at_241) (pc' := 243) rfl rfl rfl ?_
          refine g_aload X242 hx (hb hby at_243) (pc' := 245) rfl rfl rfl ?_
          obtain ⟨v243, T243, h243, L243, X243, e243, N243, q243, st243⟩ := h_virtual (a := b186) (z := (⟨"com/example/stream_log_client/streamlogclient/protocol/VersionRange", "equals", "(Ljava/lang/Object;)Z"⟩ : MethodName)) X242 hx (W := 0) (Ls := #[.val (.int p0), .val (.int p1), .val (.int p2), .val (.int p3), .val (.int p4), .val (.int xx), .val (.int yy), .val (.int lo1), .val (.int hi1), .val (.int mm), .val (.int lo2), .val (.int hi2), .val (.ref b186), .val (.ref b196), .val (.int (1 : Int32)), .val (.ref b196), .val (.ref b186), .val (.int (1 : Int32)), .unset]) (argsL := [(.ref b186)]) (rest := []) hZ e242 N242 hml hown (rm5a l Z a0 hw b186 b186 lo1 hi1 lo1 hi1 h206 n0 Z212 f209 f210 f209 f210 f208) f208 (hw _ (List.mem_of_getElem? (i := 20) rfl)) (hw _ (List.mem_of_getElem? (i := 21) rfl)) (notFace_of_selects (args := #[]) (mvT hZ (hw _ (List.mem_of_getElem? (i := 23) rfl)))) (hw _ (List.mem_of_getElem? (i := 23) rfl)) (hw _ (List.mem_of_getElem? (i := 22) rfl)) (hw _ (List.mem_of_getElem? (i := 9) rfl)) (hw _ (List.mem_of_getElem? (i := 24) rfl)) (by decide) pd__Ljava_lang_Object__Z rfl rfl (hb hby at_245) rfl (by decide) (by decide) (by decide) (by decide)
          obtain ⟨rfl, rfl⟩ := q243
          refine Go.movp st243 (mkF m 248 #[.val (.int p0), .val (.int p1), .val (.int p2), .val (.int p3), .val (.int p4), .val (.int xx), .val (.int yy), .val (.int lo1), .val (.int hi1), .val (.int mm), .val (.int lo2), .val (.int hi2), .val (.ref b186), .val (.ref b196), .val (.int (1 : Int32)), .val (.ref b196), .val (.ref b186), .val (.int (1 : Int32)), .unset] [(.int (eqV lo1 hi1 lo1 hi1))]) rfl ?_
          refine Go.cast (show (mkF m 248 #[.val (.int p0), .val (.int p1), .val (.int p2), .val (.int p3), .val (.int p4), .val (.int xx), .val (.int yy), .val (.int lo1), .val (.int hi1), .val (.int mm), .val (.int lo2), .val (.int hi2), .val (.ref b186), .val (.ref b196), .val (.int (1 : Int32)), .val (.ref b196), .val (.ref b186), .val (.int (1 : Int32)), .unset] [(.int (eqV lo1 hi1 lo1 hi1))]) = (mkF m 248 #[.val (.int p0), .val (.int p1), .val (.int p2), .val (.int p3), .val (.int p4), .val (.int xx), .val (.int yy), .val (.int lo1), .val (.int hi1), .val (.int mm), .val (.int lo2), .val (.int hi2), .val (.ref b186), .val (.ref b196), .val (.int (1 : Int32)), .val (.ref b196), .val (.ref b186), .val (.int (1 : Int32)), .unset] [(.int (1 : Int32))]) from by rw [show (eqV lo1 hi1 lo1 hi1) = (1 : Int32) from (if_pos ⟨rfl, rfl⟩)]) ?_
          refine g_if_eq X243 hx (hb hby at_248) (pc1 := 251) rfl (by decide) (pc2 := 255) (by decide) (fun hc248 => absurd hc248 (by decide)) (fun hc248 => ?_)
          refine g_iconst X243 hx (hb hby at_251) (pc' := 252) rfl (z := (1 : Int32)) rfl ?_
          refine g_goto X243 hx (hb hby at_252) (by decide) (pc' := 256) (by decide) ?_
          refine g_istore X243 hx (hb hby at_256) (pc' := 258) rfl (Ls' := #[.val (.int p0), .val (.int p1), .val (.int p2), .val (.int p3), .val (.int p4), .val (.int xx), .val (.int yy), .val (.int lo1), .val (.int hi1), .val (.int mm), .val (.int lo2), .val (.int hi2), .val (.ref b186), .val (.ref b196), .val (.int (1 : Int32)), .val (.ref b196), .val (.ref b186), .val (.int (1 : Int32)), .unset]) rfl ?_
          refine g_iload X243 hx (hb hby at_258) (pc' := 260) rfl rfl ?_
          refine g_if_eq X243 hx (hb hby at_260) (pc1 := 263) rfl (by decide) (pc2 := 276) (by decide) (fun hc260 => absurd hc260 (by decide)) (fun hc260 => ?_)
          refine g_aload X243 hx (hb hby at_263) (pc' := 265) rfl rfl rfl ?_
          refine g_aconst_null X243 hx (hb hby at_265) (pc' := 266) rfl ?_
          obtain ⟨v244, T244, h244, L244, X244, e244, N244, q244, st244⟩ := h_virtual (a := b186) (z := (⟨"com/example/stream_log_client/streamlogclient/protocol/VersionRange", "equals", "(Ljava/lang/Object;)Z"⟩ : MethodName)) X243 hx (W := 0) (Ls := #[.val (.int p0), .val (.int p1), .val (.int p2), .val (.int p3), .val (.int p4), .val (.int xx), .val (.int yy), .val (.int lo1), .val (.int hi1), .val (.int mm), .val (.int lo2), .val (.int hi2), .val (.ref b186), .val (.ref b196), .val (.int (1 : Int32)), .val (.ref b196), .val (.ref b186), .val (.int (1 : Int32)), .unset]) (argsL := [.null]) (rest := []) hZ e243 N243 hml hown (rm5b l Z a0 hw b186 h206 n0 Z212) f208 (hw _ (List.mem_of_getElem? (i := 20) rfl)) (hw _ (List.mem_of_getElem? (i := 21) rfl)) (notFace_of_selects (args := #[]) (mvT hZ (hw _ (List.mem_of_getElem? (i := 23) rfl)))) (hw _ (List.mem_of_getElem? (i := 23) rfl)) (hw _ (List.mem_of_getElem? (i := 22) rfl)) (hw _ (List.mem_of_getElem? (i := 9) rfl)) (hw _ (List.mem_of_getElem? (i := 24) rfl)) (by decide) pd__Ljava_lang_Object__Z rfl rfl (hb hby at_266) rfl (by decide) (by decide) (by decide) (by decide)
          obtain ⟨rfl, rfl⟩ := q244
          refine Go.movp st244 (mkF m 269 #[.val (.int p0), .val (.int p1), .val (.int p2), .val (.int p3), .val (.int p4), .val (.int xx), .val (.int yy), .val (.int lo1), .val (.int hi1), .val (.int mm), .val (.int lo2), .val (.int hi2), .val (.ref b186), .val (.ref b196), .val (.int (1 : Int32)), .val (.ref b196), .val (.ref b186), .val (.int (1 : Int32)), .unset] [(.int (0 : Int32))]) rfl ?_
          refine g_if_ne X244 hx (hb hby at_269) (pc1 := 272) rfl (by decide) (pc2 := 276) (by decide) (fun hc269 => absurd rfl hc269) (fun hc269 => ?_)
          refine g_iconst X244 hx (hb hby at_272) (pc' := 273) rfl (z := (1 : Int32)) rfl ?_
          refine g_goto X244 hx (hb hby at_273) (by decide) (pc' := 277) (by decide) ?_
          refine g_istore X244 hx (hb hby at_277) (pc' := 279) rfl (Ls' := #[.val (.int p0), .val (.int p1), .val (.int p2), .val (.int p3), .val (.int p4), .val (.int xx), .val (.int yy), .val (.int lo1), .val (.int hi1), .val (.int mm), .val (.int lo2), .val (.int hi2), .val (.ref b186), .val (.ref b196), .val (.int (1 : Int32)), .val (.ref b196), .val (.ref b186), .val (.int (1 : Int32)), .unset]) rfl ?_
          refine g_iload X244 hx (hb hby at_279) (pc' := 281) rfl rfl ?_
          obtain ⟨v245, T245, h245, L245, X245, e245, N245, q245, st245⟩ := h_static X244 hx (W := 0) (Ls := #[.val (.int p0), .val (.int p1), .val (.int p2), .val (.int p3), .val (.int p4), .val (.int xx), .val (.int yy), .val (.int lo1), .val (.int hi1), .val (.int mm), .val (.int lo2), .val (.int hi2), .val (.ref b186), .val (.ref b196), .val (.int (1 : Int32)), .val (.ref b196), .val (.ref b186), .val (.int (1 : Int32)), .unset]) (argsL := [(.int lo1)]) (rest := []) hZ e244 N244 hml hown (rm6 l Z a0 hw lo1 ca h206 n0 Z212 (Sta.ext f207.2 S1) (Sta.ext f207.2 S2) (own_cx CA f207.2) okl.1) (hw _ (List.mem_of_getElem? (i := 27) rfl)) (hw _ (List.mem_of_getElem? (i := 28) rfl)) (hw _ (List.mem_of_getElem? (i := 29) rfl)) (hw _ (List.mem_of_getElem? (i := 30) rfl)) (by decide) pd__I_Ljava_lang_Integer_ rfl rfl (hb hby at_281) rfl (by decide) (by decide) (by decide) (by decide)
          obtain ⟨r245, rfl, K245, A245⟩ := q245
          have f246 := f207.keep K245 all0
          have f247 := f208.keep K245
          have f248 := f209.keep K245 nin0
          have f249 := f210.keep K245 nin0
          have f250 := A206.keep K245
          have f251 := P206.keep K245 nin0
          have f252 := Q206.keep K245 nin0
          have Z253 : n0 ≤ h245.size := Nat.le_trans Z212 K245.1
          refine Go.movp st245 (mkF m 284 #[.val (.int p0), .val (.int p1), .val (.int p2), .val (.int p3), .val (.int p4), .val (.int xx), .val (.int yy), .val (.int lo1), .val (.int hi1), .val (.int mm), .val (.int lo2), .val (.int hi2), .val (.ref b186), .val (.ref b196), .val (.int (1 : Int32)), .val (.ref b196), .val (.ref b186), .val (.int (1 : Int32)), .unset] [(.ref r245)]) rfl ?_
          refine g_astore X245 hx (hb hby at_284) (pc' := 286) rfl rfl (Ls' := #[.val (.int p0), .val (.int p1), .val (.int p2), .val (.int p3), .val (.int p4), .val (.int xx), .val (.int yy), .val (.int lo1), .val (.int hi1), .val (.int mm), .val (.int lo2), .val (.int hi2), .val (.ref b186), .val (.ref b196), .val (.int (1 : Int32)), .val (.ref b196), .val (.ref b186), .val (.int (1 : Int32)), .val (.ref r245)]) rfl ?_
          refine g_iload X245 hx (hb hby at_286) (pc' := 288) rfl rfl ?_
          refine g_if_eq X245 hx (hb hby at_288) (pc1 := 291) rfl (by decide) (pc2 := 305) (by decide) (fun hc288 => absurd hc288 (by decide)) (fun hc288 => ?_)
          refine g_aload X245 hx (hb hby at_291) (pc' := 293) rfl rfl rfl ?_
          refine g_aload X245 hx (hb hby at_293) (pc' := 295) rfl rfl rfl ?_
          obtain ⟨v254, T254, h254, L254, X254, e254, N254, q254, st254⟩ := h_virtual (a := b186) (z := (⟨"com/example/stream_log_client/streamlogclient/protocol/VersionRange", "equals", "(Ljava/lang/Object;)Z"⟩ : MethodName)) X245 hx (W := 0) (Ls := #[.val (.int p0), .val (.int p1), .val (.int p2), .val (.int p3), .val (.int p4), .val (.int xx), .val (.int yy), .val (.int lo1), .val (.int hi1), .val (.int mm), .val (.int lo2), .val (.int hi2), .val (.ref b186), .val (.ref b196), .val (.int (1 : Int32)), .val (.ref b196), .val (.ref b186), .val (.int (1 : Int32)), .val (.ref r245)]) (argsL := [(.ref r245)]) (rest := []) hZ e245 N245 hml hown (rm5c l Z a0 hw b186 r245 h245 n0 Z253 A245) f247 (hw _ (List.mem_of_getElem? (i := 20) rfl)) (hw _ (List.mem_of_getElem? (i := 21) rfl)) (notFace_of_selects (args := #[]) (mvT hZ (hw _ (List.mem_of_getElem? (i := 23) rfl)))) (hw _ (List.mem_of_getElem? (i := 23) rfl)) (hw _ (List.mem_of_getElem? (i := 22) rfl)) (hw _ (List.mem_of_getElem? (i := 9) rfl)) (hw _ (List.mem_of_getElem? (i := 24) rfl)) (by decide) pd__Ljava_lang_Object__Z rfl rfl (hb hby at_295) rfl (by decide) (by decide) (by decide) (by decide)
          obtain ⟨rfl, rfl⟩ := q254
          refine Go.movp st254 (mkF m 298 #[.val (.int p0), .val (.int p1), .val (.int p2), .val (.int p3), .val (.int p4), .val (.int xx), .val (.int yy), .val (.int lo1), .val (.int hi1), .val (.int mm), .val (.int lo2), .val (.int hi2), .val (.ref b186), .val (.ref b196), .val (.int (1 : Int32)), .val (.ref b196), .val (.ref b186), .val (.int (1 : Int32)), .val (.ref r245)] [(.int (0 : Int32))]) rfl ?_
          refine g_if_ne X254 hx (hb hby at_298) (pc1 := 301) rfl (by decide) (pc2 := 305) (by decide) (fun hc298 => absurd rfl hc298) (fun hc298 => ?_)
          refine g_iconst X254 hx (hb hby at_301) (pc' := 302) rfl (z := (1 : Int32)) rfl ?_
          refine g_goto X254 hx (hb hby at_302) (by decide) (pc' := 306) (by decide) ?_
          refine g_istore X254 hx (hb hby at_306) (pc' := 308) rfl (Ls' := #[.val (.int p0), .val (.int p1), .val (.int p2), .val (.int p3), .val (.int p4), .val (.int xx), .val (.int yy), .val (.int lo1), .val (.int hi1), .val (.int mm), .val (.int lo2), .val (.int hi2), .val (.ref b186), .val (.ref b196), .val (.int (1 : Int32)), .val (.ref b196), .val (.ref b186), .val (.int (1 : Int32)), .val (.ref r245)]) rfl ?_
          refine g_iload X254 hx (hb hby at_308) (pc' := 310) rfl rfl ?_
          exact g_zreturn X254 hx rfl hret (hb hby at_310) N254 hlk (fun v t => endF (by decide) (by decide) v) (by rw [e254]; exact rfl)
  · skip
    refine g_iload X45 hx (hb hby at_43) (pc' := 45) rfl rfl ?_
    refine g_istore X45 hx (hb hby at_45) (pc' := 47) rfl (Ls' := #[.val (.int p0), .val (.int p1), .val (.int p2), .val (.int p3), .val (.int p4), .val (.int xx), .val (.int yy), .val (.int lo1), .val (.int hi1), .val (.int mm), .val (.int lo1), .unset, .unset, .unset, .unset, .unset, .unset, .unset, .unset]) rfl ?_
    refine g_iload X45 hx (hb hby at_47) (pc' := 49) rfl rfl ?_
    refine g_istore X45 hx (hb hby at_49) (pc' := 51) rfl (Ls' := #[.val (.int p0), .val (.int p1), .val (.int p2), .val (.int p3), .val (.int p4), .val (.int xx), .val (.int yy), .val (.int lo1), .val (.int hi1), .val (.int mm), .val (.int lo1), .val (.int hi1), .unset, .unset, .unset, .unset, .unset, .unset, .unset]) rfl ?_
    refine g_goto X45 hx (hb hby at_51) (by decide) (pc' := 138) (by decide) ?_
    obtain ⟨lo2, elo2⟩ : ∃ z : Int32, z = lo1 := ⟨_, rfl⟩
    refine Go.cast (show (mkF m 138 #[.val (.int p0), .val (.int p1), .val (.int p2), .val (.int p3), .val (.int p4), .val (.int xx), .val (.int yy), .val (.int lo1), .val (.int hi1), .val (.int mm), .val (.int lo1), .val (.int hi1), .unset, .unset, .unset, .unset, .unset, .unset, .unset] []) = (mkF m 138 #[.val (.int p0), .val (.int p1), .val (.int p2), .val (.int p3), .val (.int p4), .val (.int xx), .val (.int yy), .val (.int lo1), .val (.int hi1), .val (.int mm), .val (.int lo2), .val (.int hi1), .unset, .unset, .unset, .unset, .unset, .unset, .unset] []) from by rw [show lo1 = lo2 from elo2.symm]) ?_
    obtain ⟨hi2, ehi2⟩ : ∃ z : Int32, z = hi1 := ⟨_, rfl⟩
    refine Go.cast (show (mkF m 138 #[.val (.int p0), .val (.int p1), .val (.int p2), .val (.int p3), .val (.int p4), .val (.int xx), .val (.int yy), .val (.int lo1), .val (.int hi1), .val (.int mm), .val (.int lo2), .val (.int hi1), .unset, .unset, .unset, .unset, .unset, .unset, .unset] []) = (mkF m 138 #[.val (.int p0), .val (.int p1), .val (.int p2), .val (.int p3), .val (.int p4), .val (.int xx), .val (.int yy), .val (.int lo1), .val (.int hi1), .val (.int mm), .val (.int lo2), .val (.int hi2), .unset, .unset, .unset, .unset, .unset, .unset, .unset] []) from by rw [show hi1 = hi2 from ehi2.symm]) ?_
    have k1 : ¬ lo2 < 0 := by rw [elo2]; exact okl.1
    have k2 : ¬ hi2 < lo2 := by rw [elo2, ehi2]; exact lh
    have k3 : ¬ 32767 < hi2 := by rw [ehi2]; exact okh.2
    obtain ⟨T255, h255, X255, e255, E255, A255, D255, -, st255⟩ := newO X45 hx hZ hown (hw _ (List.mem_of_getElem? (i := 7) rfl)) (hw _ (List.mem_of_getElem? (i := 8) rfl)) (hw _ (List.mem_of_getElem? (i := 9) rfl)) e45 (g := (mkF m 138 #[.val (.int p0), .val (.int p1), .val (.int p2), .val (.int p3), .val (.int p4), .val (.int xx), .val (.int yy), .val (.int lo1), .val (.int hi1), .val (.int mm), .val (.int lo2), .val (.int hi2), .unset, .unset, .unset, .unset, .unset, .unset, .unset] [])) rfl (hb hby at_138) (by decide) (by decide)
    obtain ⟨b255, g255⟩ : ∃ z, z = h0.size := ⟨_, rfl⟩
    rw [← g255] at A255 D255 st255
    have ge256 : n0 ≤ b255 := g255 ▸ Z0
    have f257 := OZ.ext E255
    have Z258 : n0 ≤ h255.size := Nat.le_trans Z0 E255.1
    have f259 : Fld Z h255 b255 "com/example/stream_log_client/streamlogclient/protocol/VersionRange" "min" "I" (.int (0 : Int32)) := D255 (Or.inr (hw _ (List.mem_of_getElem? (i := 17) rfl))) (ty := .int) (by decide)
    have f260 : Fld Z h255 b255 "com/example/stream_log_client/streamlogclient/protocol/VersionRange" "max" "I" (.int (0 : Int32)) := D255 (Or.inr (hw _ (List.mem_of_getElem? (i := 19) rfl))) (ty := .int) (by decide)
    refine Go.movp st255 (mkF m 141 #[.val (.int p0), .val (.int p1), .val (.int p2), .val (.int p3), .val (.int p4), .val (.int xx), .val (.int yy), .val (.int lo1), .val (.int hi1), .val (.int mm), .val (.int lo2), .val (.int hi2), .unset, .unset, .unset, .unset, .unset, .unset, .unset] [(.ref b255)]) rfl ?_
    refine g_dup X255 hx (hb hby at_141) (pc' := 142) rfl rfl ?_
    refine g_iload X255 hx (hb hby at_142) (pc' := 144) rfl rfl ?_
    refine g_iload X255 hx (hb hby at_144) (pc' := 146) rfl rfl ?_
    obtain ⟨v261, T261, h261, L261, X261, e261, N261, q261, st261⟩ := h_special (a := b255) X255 hx (W := 1) (Ls := #[.val (.int p0), .val (.int p1), .val (.int p2), .val (.int p3), .val (.int p4), .val (.int xx), .val (.int yy), .val (.int lo1), .val (.int hi1), .val (.int mm), .val (.int lo2), .val (.int hi2), .unset, .unset, .unset, .unset, .unset, .unset, .unset]) (argsL := [(.int lo1), (.int hi1)]) (rest := [(.ref b255)]) hZ e255 N45 hml hown rfl (rm3 l Z a0 hw b255 lo1 hi1 h255 n0 Z258 f259 f260 A255 ge256 okl.1 lh okh.2) (hw _ (List.mem_of_getElem? (i := 10) rfl)) (hw _ (List.mem_of_getElem? (i := 11) rfl)) (hw _ (List.mem_of_getElem? (i := 9) rfl)) (hw _ (List.mem_of_getElem? (i := 12) rfl)) (by decide) pd__II_V rfl rfl (hb hby at_146) rfl (by decide) (by decide) (by decide) (by decide)
    obtain ⟨rfl, K261, A261, P261, Q261⟩ := q261
    have f262 := f257.keep K261 (allS ge256 all0)
    have f263 := A255.keep K261
    have Z264 : n0 ≤ h261.size := Nat.le_trans Z258 K261.1
    refine Go.movp st261 (mkF m 149 #[.val (.int p0), .val (.int p1), .val (.int p2), .val (.int p3), .val (.int p4), .val (.int xx), .val (.int yy), .val (.int lo1), .val (.int hi1), .val (.int mm), .val (.int lo2), .val (.int hi2), .unset, .unset, .unset, .unset, .unset, .unset, .unset] [(.ref b255)]) rfl ?_
    refine g_astore X261 hx (hb hby at_149) (pc' := 151) rfl rfl (Ls' := #[.val (.int p0), .val (.int p1), .val (.int p2), .val (.int p3), .val (.int p4), .val (.int xx), .val (.int yy), .val (.int lo1), .val (.int hi1), .val (.int mm), .val (.int lo2), .val (.int hi2), .val (.ref b255), .unset, .unset, .unset, .unset, .unset, .unset]) rfl ?_
    obtain ⟨T265, h265, X265, e265, E265, A265, D265, -, st265⟩ := newO X261 hx hZ hown (hw _ (List.mem_of_getElem? (i := 7) rfl)) (hw _ (List.mem_of_getElem? (i := 8) rfl)) (hw _ (List.mem_of_getElem? (i := 9) rfl)) e261 (g := (mkF m 151 #[.val (.int p0), .val (.int p1), .val (.int p2), .val (.int p3), .val (.int p4), .val (.int xx), .val (.int yy), .val (.int lo1), .val (.int hi1), .val (.int mm), .val (.int lo2), .val (.int hi2), .val (.ref b255), .unset, .unset, .unset, .unset, .unset, .unset] [])) rfl (hb hby at_151) (by decide) (by decide)
    obtain ⟨b265, g265⟩ : ∃ z, z = h261.size := ⟨_, rfl⟩
    rw [← g265] at A265 D265 st265
    have ne266 : b255 ≠ b265 := Nat.ne_of_lt (g265 ▸ A261.lt)
    have ge267 : n0 ≤ b265 := g265 ▸ Z264
    have f268 := f262.ext E265
    have f269 := Exa.ext E265 A261
    have f270 := Fld.ext E265 P261
    have f271 := Fld.ext E265 Q261
    have Z272 : n0 ≤ h265.size := Nat.le_trans Z264 E265.1
    have f273 : Fld Z h265 b265 "com/example/stream_log_client/streamlogclient/protocol/VersionRange" "min" "I" (.int (0 : Int32)) := D265 (Or.inr (hw _ (List.mem_of_getElem? (i := 17) rfl))) (ty := .int) (by decide)
    have f274 : Fld Z h265 b265 "com/example/stream_log_client/streamlogclient/protocol/VersionRange" "max" "I" (.int (0 : Int32)) := D265 (Or.inr (hw _ (List.mem_of_getElem? (i := 19) rfl))) (ty := .int) (by decide)
    refine Go.movp st265 (mkF m 154 #[.val (.int p0), .val (.int p1), .val (.int p2), .val (.int p3), .val (.int p4), .val (.int xx), .val (.int yy), .val (.int lo1), .val (.int hi1), .val (.int mm), .val (.int lo2), .val (.int hi2), .val (.ref b255), .unset, .unset, .unset, .unset, .unset, .unset] [(.ref b265)]) rfl ?_
    refine g_dup X265 hx (hb hby at_154) (pc' := 155) rfl rfl ?_
    refine g_iload X265 hx (hb hby at_155) (pc' := 157) rfl rfl ?_
    refine g_iload X265 hx (hb hby at_157) (pc' := 159) rfl rfl ?_
    obtain ⟨v275, T275, h275, L275, X275, e275, N275, q275, st275⟩ := h_special (a := b265) X265 hx (W := 1) (Ls := #[.val (.int p0), .val (.int p1), .val (.int p2), .val (.int p3), .val (.int p4), .val (.int xx), .val (.int yy), .val (.int lo1), .val (.int hi1), .val (.int mm), .val (.int lo2), .val (.int hi2), .val (.ref b255), .unset, .unset, .unset, .unset, .unset, .unset]) (argsL := [(.int lo2), (.int hi2)]) (rest := [(.ref b265)]) hZ e265 N261 hml hown rfl (rm3 l Z a0 hw b265 lo2 hi2 h265 n0 Z272 f273 f274 A265 ge267 k1 k2 k3) (hw _ (List.mem_of_getElem? (i := 10) rfl)) (hw _ (List.mem_of_getElem? (i := 11) rfl)) (hw _ (List.mem_of_getElem? (i := 9) rfl)) (hw _ (List.mem_of_getElem? (i := 12) rfl)) (by decide) pd__II_V rfl rfl (hb hby at_159) rfl (by decide) (by decide) (by decide) (by decide)
    obtain ⟨rfl, K275, A275, P275, Q275⟩ := q275
    have f276 := f268.keep K275 (allS ge267 all0)
    have f277 := f269.keep K275
    have f278 := f270.keep K275 (ninS ne266 nin0)
    have f279 := f271.keep K275 (ninS ne266 nin0)
    have f280 := A265.keep K275
    have Z281 : n0 ≤ h275.size := Nat.le_trans Z272 K275.1
    refine Go.movp st275 (mkF m 162 #[.val (.int p0), .val (.int p1), .val (.int p2), .val (.int p3), .val (.int p4), .val (.int xx), .val (.int yy), .val (.int lo1), .val (.int hi1), .val (.int mm), .val (.int lo2), .val (.int hi2), .val (.ref b255), .unset, .unset, .unset, .unset, .unset, .unset] [(.ref b265)]) rfl ?_
    refine g_astore X275 hx (hb hby at_162) (pc' := 164) rfl rfl (Ls' := #[.val (.int p0), .val (.int p1), .val (.int p2), .val (.int p3), .val (.int p4), .val (.int xx), .val (.int yy), .val (.int lo1), .val (.int hi1), .val (.int mm), .val (.int lo2), .val (.int hi2), .val (.ref b255), .val (.ref b265), .unset, .unset, .unset, .unset, .unset]) rfl ?_
    refine g_iload X275 hx (hb hby at_164) (pc' := 166) rfl rfl ?_
    refine g_iload X275 hx (hb hby at_166) (pc' := 168) rfl rfl ?_
    refine g_icmp_ne X275 hx (hb hby at_168) (pc1 := 171) rfl (by decide) (pc2 := 182) (by decide) (fun hc168 => ?_) (fun hc168 => ?_)
    · skip
      refine g_iconst X275 hx (hb hby at_182) (pc' := 183) rfl (z := (0 : Int32)) rfl ?_
      refine g_istore X275 hx (hb hby at_183) (pc' := 185) rfl (Ls' := #[.val (.int p0), .val (.int p1), .val (.int p2), .val (.int p3), .val (.int p4), .val (.int xx), .val (.int yy), .val (.int lo1), .val (.int hi1), .val (.int mm), .val (.int lo2), .val (.int hi2), .val (.ref b255), .val (.ref b265), .val (.int (0 : Int32)), .unset, .unset, .unset, .unset]) rfl ?_
      refine g_aload X275 hx (hb hby at_185) (pc' := 187) rfl rfl rfl ?_
      refine g_astore X275 hx (hb hby at_187) (pc' := 189) rfl rfl (Ls' := #[.val (.int p0), .val (.int p1), .val (.int p2), .val (.int p3), .val (.int p4), .val (.int xx), .val (.int yy), .val (.int lo1), .val (.int hi1), .val (.int mm), .val (.int lo2), .val (.int hi2), .val (.ref b255), .val (.ref b265), .val (.int (0 : Int32)), .val (.ref b265), .unset, .unset, .unset]) rfl ?_
      refine g_aload X275 hx (hb hby at_189) (pc' := 191) rfl rfl rfl ?_
      refine g_astore X275 hx (hb hby at_191) (pc' := 193) rfl rfl (Ls' := #[.val (.int p0), .val (.int p1), .val (.int p2), .val (.int p3), .val (.int p4), .val (.int xx), .val (.int yy), .val (.int lo1), .val (.int hi1), .val (.int mm), .val (.int lo2), .val (.int hi2), .val (.ref b255), .val (.ref b265), .val (.int (0 : Int32)), .val (.ref b265), .val (.ref b255), .unset, .unset]) rfl ?_
      refine g_aload X275 hx (hb hby at_193) (pc' := 195) rfl rfl rfl ?_
      refine g_aload X275 hx (hb hby at_195) (pc' := 197) rfl rfl rfl ?_
      obtain ⟨v282, T282, h282, L282, X282, e282, N282, q282, st282⟩ := h_virtual (a := b255) (z := (⟨"com/example/stream_log_client/streamlogclient/protocol/VersionRange", "equals", "(Ljava/lang/Object;)Z"⟩ : MethodName)) X275 hx (W := 0) (Ls := #[.val (.int p0), .val (.int p1), .val (.int p2), .val (.int p3), .val (.int p4), .val (.int xx), .val (.int yy), .val (.int lo1), .val (.int hi1), .val (.int mm), .val (.int lo2), .val (.int hi2), .val (.ref b255), .val (.ref b265), .val (.int (0 : Int32)), .val (.ref b265), .val (.ref b255), .unset, .unset]) (argsL := [(.ref b265)]) (rest := []) hZ e275 N275 hml hown (rm5a l Z a0 hw b255 b265 lo1 hi1 lo2 hi2 h275 n0 Z281 f278 f279 P275 Q275 A275) f277 (hw _ (List.mem_of_getElem? (i := 20) rfl)) (hw _ (List.mem_of_getElem? (i := 21) rfl)) (notFace_of_selects (args := #[]) (mvT hZ (hw _ (List.mem_of_getElem? (i := 23) rfl)))) (hw _ (List.mem_of_getElem? (i := 23) rfl)) (hw _ (List.mem_of_getElem? (i := 22) rfl)) (hw _ (List.mem_of_getElem? (i := 9) rfl)) (hw _ (List.mem_of_getElem? (i := 24) rfl)) (by decide) pd__Ljava_lang_Object__Z rfl rfl (hb hby at_197) rfl (by decide) (by decide) (by decide) (by decide)
      obtain ⟨rfl, rfl⟩ := q282
      refine Go.movp st282 (mkF m 200 #[.val (.int p0), .val (.int p1), .val (.int p2), .val (.int p3), .val (.int p4), .val (.int xx), .val (.int yy), .val (.int lo1), .val (.int hi1), .val (.int mm), .val (.int lo2), .val (.int hi2), .val (.ref b255), .val (.ref b265), .val (.int (0 : Int32)), .val (.ref b265), .val (.ref b255), .unset, .unset] [(.int (eqV lo1 hi1 lo2 hi2))]) rfl ?_
      refine Go.cast (show (mkF m 200 #[.val (.int p0), .val (.int p1), .val (.int p2), .val (.int p3), .val (.int p4), .val (.int xx), .val (.int yy), .val (.int lo1), .val (.int hi1), .val (.int mm), .val (.int lo2), .val (.int hi2), .val (.ref b255), .val (.ref b265), .val (.int (0 : Int32)), .val (.ref b265), .val (.ref b255), .unset, .unset] [(.int (eqV lo1 hi1 lo2 hi2))]) = (mkF m 200 #[.val (.int p0), .val (.int p1), .val (.int p2), .val (.int p3), .val (.int p4), .val (.int xx), .val (.int yy), .val (.int lo1), .val (.int hi1), .val (.int mm), .val (.int lo2), .val (.int hi2), .val (.ref b255), .val (.ref b265), .val (.int (0 : Int32)), .val (.ref b265), .val (.ref b255), .unset, .unset] [(.int (0 : Int32))]) from by rw [show (eqV lo1 hi1 lo2 hi2) = (0 : Int32) from (if_neg (fun q => hc168 q.1))]) ?_
      refine g_iload X282 hx (hb hby at_200) (pc' := 202) rfl rfl ?_
      refine g_icmp_ne X282 hx (hb hby at_202) (pc1 := 205) rfl (by decide) (pc2 := 209) (by decide) (fun hc202 => absurd rfl hc202) (fun hc202 => ?_)
      refine g_iconst X282 hx (hb hby at_205) (pc' := 206) rfl (z := (1 : Int32)) rfl ?_
      refine g_goto X282 hx (hb hby at_206) (by decide) (pc' := 210) (by decide) ?_
      refine g_istore X282 hx (hb hby at_210) (pc' := 212) rfl (Ls' := #[.val (.int p0), .val (.int p1), .val (.int p2), .val (.int p3), .val (.int p4), .val (.int xx), .val (.int yy), .val (.int lo1), .val (.int hi1), .val (.int mm), .val (.int lo2), .val (.int hi2), .val (.ref b255), .val (.ref b265), .val (.int (0 : Int32)), .val (.ref b265), .val (.ref b255), .val (.int (1 : Int32)), .unset]) rfl ?_
      refine g_iload X282 hx (hb hby at_212) (pc' := 214) rfl rfl ?_
      refine g_if_eq X282 hx (hb hby at_214) (pc1 := 217) rfl (by decide) (pc2 := 233) (by decide) (fun hc214 => absurd hc214 (by decide)) (fun hc214 => ?_)
      refine g_aload X282 hx (hb hby at_217) (pc' := 219) rfl rfl rfl ?_
      refine g_aload X282 hx (hb hby at_219) (pc' := 221) rfl rfl rfl ?_
      obtain ⟨v283, T283, h283, L283, X283, e283, N283, q283, st283⟩ := h_virtual (a := b265) (z := (⟨"com/example/stream_log_client/streamlogclient/protocol/VersionRange", "equals", "(Ljava/lang/Object;)Z"⟩ : MethodName)) X282 hx (W := 0) (Ls := #[.val (.int p0), .val (.int p1), .val (.int p2), .val (.int p3), .val (.int p4), .val (.int xx), .val (.int yy), .val (.int lo1), .val (.int hi1), .val (.int mm), .val (.int lo2), .val (.int hi2), .val (.ref b255), .val (.ref b265), .val (.int (0 : Int32)), .val (.ref b265), .val (.ref b255), .val (.int (1 : Int32)), .unset]) (argsL := [(.ref b255)]) (rest := []) hZ e282 N282 hml hown (rm5a l Z a0 hw b265 b255 lo2 hi2 lo1 hi1 h275 n0 Z281 P275 Q275 f278 f279 f277) A275 (hw _ (List.mem_of_getElem? (i := 20) rfl)) (hw _ (List.mem_of_getElem? (i := 21) rfl)) (notFace_of_selects (args := #[]) (mvT hZ (hw _ (List.mem_of_getElem? (i := 23) rfl)))) (hw _ (List.mem_of_getElem? (i := 23) rfl)) (hw _ (List.mem_of_getElem? (i := 22) rfl)) (hw _ (List.mem_of_getElem? (i := 9) rfl)) (hw _ (List.mem_of_getElem? (i := 24) rfl)) (by decide) pd__Ljava_lang_Object__Z rfl rfl (hb hby at_221) rfl (by decide) (by decide) (by decide) (by decide)
      obtain ⟨rfl, rfl⟩ := q283
      refine Go.movp st283 (mkF m 224 #[.val (.int p0), .val (.int p1), .val (.int p2), .val (.int p3), .val (.int p4), .val (.int xx), .val (.int yy), .val (.int lo1), .val (.int hi1), .val (.int mm), .val (.int lo2), .val (.int hi2), .val (.ref b255), .val (.ref b265), .val (.int (0 : Int32)), .val (.ref b265), .val (.ref b255), .val (.int (1 : Int32)), .unset] [(.int (eqV lo2 hi2 lo1 hi1))]) rfl ?_
      refine Go.cast (show (mkF m 224 #[.val (.int p0), .val (.int p1), .val (.int p2), .val (.int p3), .val (.int p4), .val (.int xx), .val (.int yy), .val (.int lo1), .val (.int hi1), .val (.int mm), .val (.int lo2), .val (.int hi2), .val (.ref b255), .val (.ref b265), .val (.int (0 : Int32)), .val (.ref b265), .val (.ref b255), .val (.int (1 : Int32)), .unset] [(.int (eqV lo2 hi2 lo1 hi1))]) = (mkF m 224 #[.val (.int p0), .val (.int p1), .val (.int p2), .val (.int p3), .val (.int p4), .val (.int xx), .val (.int yy), .val (.int lo1), .val (.int hi1), .val (.int mm), .val (.int lo2), .val (.int hi2), .val (.ref b255), .val (.ref b265), .val (.int (0 : Int32)), .val (.ref b265), .val (.ref b255), .val (.int (1 : Int32)), .unset] [(.int (0 : Int32))]) from by rw [show (eqV lo2 hi2 lo1 hi1) = (0 : Int32) from (if_neg (fun q => hc168 q.1.symm))]) ?_
      refine g_iload X283 hx (hb hby at_224) (pc' := 226) rfl rfl ?_
      refine g_icmp_ne X283 hx (hb hby at_226) (pc1 := 229) rfl (by decide) (pc2 := 233) (by decide) (fun hc226 => absurd rfl hc226) (fun hc226 => ?_)
      refine g_iconst X283 hx (hb hby at_229) (pc' := 230) rfl (z := (1 : Int32)) rfl ?_
      refine g_goto X283 hx (hb hby at_230) (by decide) (pc' := 234) (by decide) ?_
      refine g_istore X283 hx (hb hby at_234) (pc' := 236) rfl (Ls' := #[.val (.int p0), .val (.int p1), .val (.int p2), .val (.int p3), .val (.int p4), .val (.int xx), .val (.int yy), .val (.int lo1), .val (.int hi1), .val (.int mm), .val (.int lo2), .val (.int hi2), .val (.ref b255), .val (.ref b265), .val (.int (0 : Int32)), .val (.ref b265), .val (.ref b255), .val (.int (1 : Int32)), .unset]) rfl ?_
      refine g_iload X283 hx (hb hby at_236) (pc' := 238) rfl rfl ?_
      refine g_if_eq X283 hx (hb hby at_238) (pc1 := 241) rfl (by decide) (pc2 := 255) (by decide) (fun hc238 => absurd hc238 (by decide)) (fun hc238 => ?_)
      refine g_aload X283 hx (hb hby at_241) (pc' := 243) rfl rfl rfl ?_
      refine g_aload X283 hx (hb hby at_243) (pc' := 245) rfl rfl rfl ?_
      obtain ⟨v284, T284, h284, L284, X284, e284, N284, q284, st284⟩ := h_virtual (a := b255) (z := (⟨"com/example/stream_log_client/streamlogclient/protocol/VersionRange", "equals", "(Ljava/lang/Object;)Z"⟩ : MethodName)) X283 hx (W := 0) (Ls := #[.val (.int p0), .val (.int p1), .val (.int p2), .val (.int p3), .val (.int p4), .val (.int xx), .val (.int yy), .val (.int lo1), .val (.int hi1), .val (.int mm), .val (.int lo2), .val (.int hi2), .val (.ref b255), .val (.ref b265), .val (.int (0 : Int32)), .val (.ref b265), .val (.ref b255), .val (.int (1 : Int32)), .unset]) (argsL := [(.ref b255)]) (rest := []) hZ e283 N283 hml hown (rm5a l Z a0 hw b255 b255 lo1 hi1 lo1 hi1 h275 n0 Z281 f278 f279 f278 f279 f277) f277 (hw _ (List.mem_of_getElem? (i := 20) rfl)) (hw _ (List.mem_of_getElem? (i := 21) rfl)) (notFace_of_selects (args := #[]) (mvT hZ (hw _ (List.mem_of_getElem? (i := 23) rfl)))) (hw _ (List.mem_of_getElem? (i := 23) rfl)) (hw _ (List.mem_of_getElem? (i := 22) rfl)) (hw _ (List.mem_of_getElem? (i := 9) rfl)) (hw _ (List.mem_of_getElem? (i := 24) rfl)) (by decide) pd__Ljava_lang_Object__Z rfl rfl (hb hby at_245) rfl (by decide) (by decide) (by decide) (by decide)
      obtain ⟨rfl, rfl⟩ := q284
      refine Go.movp st284 (mkF m 248 #[.val (.int p0), .val (.int p1), .val (.int p2), .val (.int p3), .val (.int p4), .val (.int xx), .val (.int yy), .val (.int lo1), .val (.int hi1), .val (.int mm), .val (.int lo2), .val (.int hi2), .val (.ref b255), .val (.ref b265), .val (.int (0 : Int32)), .val (.ref b265), .val (.ref b255), .val (.int (1 : Int32)), .unset] [(.int (eqV lo1 hi1 lo1 hi1))]) rfl ?_
      refine Go.cast (show (mkF m 248 #[.val (.int p0), .val (.int p1), .val (.int p2), .val (.int p3), .val (.int p4), .val (.int xx), .val (.int yy), .val (.int lo1), .val (.int hi1), .val (.int mm), .val (.int lo2), .val (.int hi2), .val (.ref b255), .val (.ref b265), .val (.int (0 : Int32)), .val (.ref b265), .val (.ref b255), .val (.int (1 : Int32)), .unset] [(.int (eqV lo1 hi1 lo1 hi1))]) = (mkF m 248 #[.val (.int p0), .val (.int p1), .val (.int p2), .val (.int p3), .val (.int p4), .val (.int xx), .val (.int yy), .val (.int lo1), .val (.int hi1), .val (.int mm), .val (.int lo2), .val (.int hi2), .val (.ref b255), .val (.ref b265), .val (.int (0 : Int32)), .val (.ref b265), .val (.ref b255), .val (.int (1 : Int32)), .unset] [(.int (1 : Int32))]) from by rw [show (eqV lo1 hi1 lo1 hi1) = (1 : Int32) from (if_pos ⟨rfl, rfl⟩)]) ?_
      refine g_if_eq X284 hx (hb hby at_248) (pc1 := 251) rfl (by decide) (pc2 := 255) (by decide) (fun hc248 => absurd hc248 (by decide)) (fun hc248 => ?_)
      refine g_iconst X284 hx (hb hby at_251) (pc' := 252) rfl (z := (1 : Int32)) rfl ?_
      refine g_goto X284 hx (hb hby at_252) (by decide) (pc' := 256) (by decide) ?_
      refine g_istore X284 hx (hb hby at_256) (pc' := 258) rfl (Ls' := #[.val (.int p0), .val (.int p1), .val (.int p2), .val (.int p3), .val (.int p4), .val (.int xx), .val (.int yy), .val (.int lo1), .val (.int hi1), .val (.int mm), .val (.int lo2), .val (.int hi2), .val (.ref b255), .val (.ref b265), .val (.int (0 : Int32)), .val (.ref b265), .val (.ref b255), .val (.int (1 : Int32)), .unset]) rfl ?_
      refine g_iload X284 hx (hb hby at_258) (pc' := 260) rfl rfl ?_
      refine g_if_eq X284 hx (hb hby at_260) (pc1 := 263) rfl (by decide) (pc2 := 276) (by decide) (fun hc260 => absurd hc260 (by decide)) (fun hc260 => ?_)
      refine g_aload X284 hx (hb hby at_263) (pc' := 265) rfl rfl rfl ?_
      refine g_aconst_null X284 hx (hb hby at_265) (pc' := 266) rfl ?_
      obtain ⟨v285, T285, h285, L285, X285, e285, N285, q285, st285⟩ := h_virtual (a := b255) (z := (⟨"com/example/stream_log_client/streamlogclient/protocol/VersionRange", "equals", "(Ljava/lang/Object;)Z"⟩ : MethodName)) X284 hx (W := 0) (Ls := #[.val (.int p0), .val (.int p1), .val (.int p2), .val (.int p3), .val (.int p4), .val (.int xx), .val (.int yy), .val (.int lo1), .val (.int hi1), .val (.int mm), .val (.int lo2), .val (.int hi2), .val (.ref b255), .val (.ref b265), .val (.int (0 : Int32)), .val (.ref b265), .val (.ref b255), .val (.int (1 : Int32)), .unset]) (argsL := [.null]) (rest := []) hZ e284 N284 hml hown (rm5b l Z a0 hw b255 h275 n0 Z281) f277 (hw _ (List.mem_of_getElem? (i := 20) rfl)) (hw _ (List.mem_of_getElem? (i := 21) rfl)) (notFace_of_selects (args := #[]) (mvT hZ (hw _ (List.mem_of_getElem? (i := 23) rfl)))) (hw _ (List.mem_of_getElem? (i := 23) rfl)) (hw _ (List.mem_of_getElem? (i := 22) rfl)) (hw _ (List.mem_of_getElem? (i := 9) rfl)) (hw _ (List.mem_of_getElem? (i := 24) rfl)) (by decide) pd__Ljava_lang_Object__Z rfl rfl (hb hby at_266) rfl (by decide) (by decide) (by decide) (by decide)
      obtain ⟨rfl, rfl⟩ := q285
      refine Go.movp st285 (mkF m 269 #[.val (.int p0), .val (.int p1), .val (.int p2), .val (.int p3), .val (.int p4), .val (.int xx), .val (.int yy), .val (.int lo1), .val (.int hi1), .val (.int mm), .val (.int lo2), .val (.int hi2), .val (.ref b255), .val (.ref b265), .val (.int (0 : Int32)), .val (.ref b265), .val (.ref b255), .val (.int (1 : Int32)), .unset] [(.int (0 : Int32))]) rfl ?_
      refine g_if_ne X285 hx (hb hby at_269) (pc1 := 272) rfl (by decide) (pc2 := 276) (by decide) (fun hc269 => absurd rfl hc269) (fun hc269 => ?_)
      refine g_iconst X285 hx (hb hby at_272) (pc' := 273) rfl (z := (1 : Int32)) rfl ?_
      refine g_goto X285 hx (hb hby at_273) (by decide) (pc' := 277) (by decide) ?_
      refine g_istore X285 hx (hb hby at_277) (pc' := 279) rfl (Ls' := #[.val (.int p0), .val (.int p1), .val (.int p2), .val (.int p3), .val (.int p4), .val (.int xx), .val (.int yy), .val (.int lo1), .val (.int hi1), .val (.int mm), .val (.int lo2), .val (.int hi2), .val (.ref b255), .val (.ref b265), .val (.int (0 : Int32)), .val (.ref b265), .val (.ref b255), .val (.int (1 : Int32)), .unset]) rfl ?_
      refine g_iload X285 hx (hb hby at_279) (pc' := 281) rfl rfl ?_
      obtain ⟨v286, T286, h286, L286, X286, e286, N286, q286, st286⟩ := h_static X285 hx (W := 0) (Ls := #[.val (.int p0), .val (.int p1), .val (.int p2), .val (.int p3), .val (.int p4), .val (.int xx), .val (.int yy), .val (.int lo1), .val (.int hi1), .val (.int mm), .val (.int lo2), .val (.int hi2), .val (.ref b255), .val (.ref b265), .val (.int (0 : Int32)), .val (.ref b265), .val (.ref b255), .val (.int (1 : Int32)), .unset]) (argsL := [(.int lo1)]) (rest := []) hZ e285 N285 hml hown (rm6 l Z a0 hw lo1 ca h275 n0 Z281 (Sta.ext f276.2 S1) (Sta.ext f276.2 S2) (own_cx CA f276.2) okl.1) (hw _ (List.mem_of_getElem? (i := 27) rfl)) (hw _ (List.mem_of_getElem? (i := 28) rfl)) (hw _ (List.mem_of_getElem? (i := 29) rfl)) (hw _ (List.mem_of_getElem? (i := 30) rfl)) (by decide) pd__I_Ljava_lang_Integer_ rfl rfl (hb hby at_281) rfl (by decide) (by decide) (by decide) (by decide)
      obtain ⟨r286, rfl, K286, A286⟩ := q286
      have f287 := f276.keep K286 all0
      have f288 := f277.keep K286
      have f289 := f278.keep K286 nin0
      have f290 := f279.keep K286 nin0
      have f291 := A275.keep K286
      have f292 := P275.keep K286 nin0
      have f293 := Q275.keep K286 nin0
      have Z294 : n0 ≤ h286.size := Nat.le_trans Z281 K286.1
      refine Go.movp st286 (mkF m 284 #[.val (.int p0), .val (.int p1), .val (.int p2), .val (.int p3), .val (.int p4), .val (.int xx), .val (.int yy), .val (.int lo1), .val (.int hi1), .val (.int mm), .val (.int lo2), .val (.int hi2), .val (.ref b255), .val (.ref b265), .val (.int (0 : Int32)), .val (.ref b265), .val (.ref b255), .val (.int (1 : Int32)), .unset] [(.ref r286)]) rfl ?_
      refine g_astore X286 hx (hb hby at_284) (pc' := 286) rfl rfl (Ls' := #[.val (.int p0), .val (.int p1), .val (.int p2), .val (.int p3), .val (.int p4), .val (.int xx), .val (.int yy), .val (.int lo1), .val (.int hi1), .val (.int mm), .val (.int lo2), .val (.int hi2), .val (.ref b255), .val (.ref b265), .val (.int (0 : Int32)), .val (.ref b265), .val (.ref b255), .val (.int (1 : Int32)), .val (.ref r286)]) rfl ?_
      refine g_iload X286 hx (hb hby at_286) (pc' := 288) rfl rfl ?_
      refine g_if_eq X286 hx (hb hby at_288) (pc1 := 291) rfl (by decide) (pc2 := 305) (by decide) (fun hc288 => absurd hc288 (by decide)) (fun hc288 => ?_)
      refine g_aload X286 hx (hb hby at_291) (pc' := 293) rfl rfl rfl ?_
      refine g_aload X286 hx (hb hby at_293) (pc' := 295) rfl rfl rfl ?_
      obtain ⟨v295, T295, h295, L295, X295, e295, N295, q295, st295⟩ := h_virtual (a := b255) (z := (⟨"com/example/stream_log_client/streamlogclient/protocol/VersionRange", "equals", "(Ljava/lang/Object;)Z"⟩ : MethodName)) X286 hx (W := 0) (Ls := #[.val (.int p0), .val (.int p1), .val (.int p2), .val (.int p3), .val (.int p4), .val (.int xx), .val (.int yy), .val (.int lo1), .val (.int hi1), .val (.int mm), .val (.int lo2), .val (.int hi2), .val (.ref b255), .val (.ref b265), .val (.int (0 : Int32)), .val (.ref b265), .val (.ref b255), .val (.int (1 : Int32)), .val (.ref r286)]) (argsL := [(.ref r286)]) (rest := []) hZ e286 N286 hml hown (rm5c l Z a0 hw b255 r286 h286 n0 Z294 A286) f288 (hw _ (List.mem_of_getElem? (i := 20) rfl)) (hw _ (List.mem_of_getElem? (i := 21) rfl)) (notFace_of_selects (args := #[]) (mvT hZ (hw _ (List.mem_of_getElem? (i := 23) rfl)))) (hw _ (List.mem_of_getElem? (i := 23) rfl)) (hw _ (List.mem_of_getElem? (i := 22) rfl)) (hw _ (List.mem_of_getElem? (i := 9) rfl)) (hw _ (List.mem_of_getElem? (i := 24) rfl)) (by decide) pd__Ljava_lang_Object__Z rfl rfl (hb hby at_295) rfl (by decide) (by decide) (by decide) (by decide)
      obtain ⟨rfl, rfl⟩ := q295
      refine Go.movp st295 (mkF m 298 #[.val (.int p0), .val (.int p1), .val (.int p2), .val (.int p3), .val (.int p4), .val (.int xx), .val (.int yy), .val (.int lo1), .val (.int hi1), .val (.int mm), .val (.int lo2), .val (.int hi2), .val (.ref b255), .val (.ref b265), .val (.int (0 : Int32)), .val (.ref b265), .val (.ref b255), .val (.int (1 : Int32)), .val (.ref r286)] [(.int (0 : Int32))]) rfl ?_
      refine g_if_ne X295 hx (hb hby at_298) (pc1 := 301) rfl (by decide) (pc2 := 305) (by decide) (fun hc298 => absurd rfl hc298) (fun hc298 => ?_)
      refine g_iconst X295 hx (hb hby at_301) (pc' := 302) rfl (z := (1 : Int32)) rfl ?_
      refine g_goto X295 hx (hb hby at_302) (by decide) (pc' := 306) (by decide) ?_
      refine g_istore X295 hx (hb hby at_306) (pc' := 308) rfl (Ls' := #[.val (.int p0), .val (.int p1), .val (.int p2), .val (.int p3), .val (.int p4), .val (.int xx), .val (.int yy), .val (.int lo1), .val (.int hi1), .val (.int mm), .val (.int lo2), .val (.int hi2), .val (.ref b255), .val (.ref b265), .val (.int (0 : Int32)), .val (.ref b265), .val (.ref b255), .val (.int (1 : Int32)), .val (.ref r286)]) rfl ?_
      refine g_iload X295 hx (hb hby at_308) (pc' := 310) rfl rfl ?_
      exact g_zreturn X295 hx rfl hret (hb hby at_310) N295 hlk (fun v t => endF (by decide) (by decide) v) (by rw [e295]; exact rfl)
    · skip
      refine g_iload X275 hx (hb hby at_171) (pc' := 173) rfl rfl ?_
      refine g_iload X275 hx (hb hby at_173) (pc' := 175) rfl rfl ?_
      refine g_icmp_ne X275 hx (hb hby at_175) (pc1 := 178) rfl (by decide) (pc2 := 182) (by decide) (fun hc175 => ?_) (fun hc175 => ?_)
      · skip
        refine g_iconst X275 hx (hb hby at_182) (pc' := 183) rfl (z := (0 : Int32)) rfl ?_
        refine g_istore X275 hx (hb hby at_183) (pc' := 185) rfl (Ls' := #[.val (.int p0), .val (.int p1), .val (.int p2), .val (.int p3), .val (.int p4), .val (.int xx), .val (.int yy), .val (.int lo1), .val (.int hi1), .val (.int mm), .val (.int lo2), .val (.int hi2), .val (.ref b255), .val (.ref b265), .val (.int (0 : Int32)), .unset, .unset, .unset, .unset]) rfl ?_
        refine g_aload X275 hx (hb hby at_185) (pc' := 187) rfl rfl rfl ?_
        refine g_astore X275 hx (hb hby at_187) (pc' := 189) rfl rfl (Ls' := #[.val (.int p0), .val (.int p1), .val (.int p2), .val (.int p3), .val (.int p4), .val (.int xx), .val (.int yy), .val (.int lo1), .val (.int hi1), .val (.int mm), .val (.int lo2), .val (.int hi2), .val (.ref b255), .val (.ref b265), .val (.int (0 : Int32)), .val (.ref b265), .unset, .unset, .unset]) rfl ?_
        refine g_aload X275 hx (hb hby at_189) (pc' := 191) rfl rfl rfl ?_
        refine g_astore X275 hx (hb hby at_191) (pc' := 193) rfl rfl (Ls' := #[.val (.int p0), .val (.int p1), .val (.int p2), .val (.int p3), .val (.int p4), .val (.int xx), .val (.int yy), .val (.int lo1), .val (.int hi1), .val (.int mm), .val (.int lo2), .val (.int hi2), .val (.ref b255), .val (.ref b265), .val (.int (0 : Int32)), .val (.ref b265), .val (.ref b255), .unset, .unset]) rfl ?_
        refine g_aload X275 hx (hb hby at_193) (pc' := 195) rfl rfl rfl ?_
        refine g_aload X275 hx (hb hby at_195) (pc' := 197) rfl rfl rfl ?_
        obtain ⟨v296, T296, h296, L296, X296, e296, N296, q296, st296⟩ := h_virtual (a := b255) (z := (⟨"com/example/stream_log_client/streamlogclient/protocol/VersionRange", "equals", "(Ljava/lang/Object;)Z"⟩ : MethodName)) X275 hx (W := 0) (Ls := #[.val (.int p0), .val (.int p1), .val (.int p2), .val (.int p3), .val (.int p4), .val (.int xx), .val (.int yy), .val (.int lo1), .val (.int hi1), .val (.int mm), .val (.int lo2), .val (.int hi2), .val (.ref b255), .val (.ref b265), .val (.int (0 : Int32)), .val (.ref b265), .val (.ref b255), .unset, .unset]) (argsL := [(.ref b265)]) (rest := []) hZ e275 N275 hml hown (rm5a l Z a0 hw b255 b265 lo1 hi1 lo2 hi2 h275 n0 Z281 f278 f279 P275 Q275 A275) f277 (hw _ (List.mem_of_getElem? (i := 20) rfl)) (hw _ (List.mem_of_getElem? (i := 21) rfl)) (notFace_of_selects (args := #[]) (mvT hZ (hw _ (List.mem_of_getElem? (i := 23) rfl)))) (hw _ (List.mem_of_getElem? (i := 23) rfl)) (hw _ (List.mem_of_getElem? (i := 22) rfl)) (hw _ (List.mem_of_getElem? (i := 9) rfl)) (hw _ (List.mem_of_getElem? (i := 24) rfl)) (by decide) pd__Ljava_lang_Object__Z rfl rfl (hb hby at_197) rfl (by decide) (by decide) (by decide) (by decide)
        obtain ⟨rfl, rfl⟩ := q296
        refine Go.movp st296 (mkF m 200 #[.val (.int p0), .val (.int p1), .val (.int p2), .val (.int p3), .val (.int p4), .val (.int xx), .val (.int yy), .val (.int lo1), .val (.int hi1), .val (.int mm), .val (.int lo2), .val (.int hi2), .val (.ref b255), .val (.ref b265), .val (.int (0 : Int32)), .val (.ref b265), .val (.ref b255), .unset, .unset] [(.int (eqV lo1 hi1 lo2 hi2))]) rfl ?_
        refine Go.cast (show (mkF m 200 #[.val (.int p0), .val (.int p1), .val (.int p2), .val (.int p3), .val (.int p4), .val (.int xx), .val (.int yy), .val (.int lo1), .val (.int hi1), .val (.int mm), .val (.int lo2), .val (.int hi2), .val (.ref b255), .val (.ref b265), .val (.int (0 : Int32)), .val (.ref b265), .val (.ref b255), .unset, .unset] [(.int (eqV lo1 hi1 lo2 hi2))]) = (mkF m 200 #[.val (.int p0), .val (.int p1), .val (.int p2), .val (.int p3), .val (.int p4), .val (.int xx), .val (.int yy), .val (.int lo1), .val (.int hi1), .val (.int mm), .val (.int lo2), .val (.int hi2), .val (.ref b255), .val (.ref b265), .val (.int (0 : Int32)), .val (.ref b265), .val (.ref b255), .unset, .unset] [(.int (0 : Int32))]) from by rw [show (eqV lo1 hi1 lo2 hi2) = (0 : Int32) from (if_neg (fun q => hc175 q.2))]) ?_
        refine g_iload X296 hx (hb hby at_200) (pc' := 202) rfl rfl ?_
        refine g_icmp_ne X296 hx (hb hby at_202) (pc1 := 205) rfl (by decide) (pc2 := 209) (by decide) (fun hc202 => absurd rfl hc202) (fun hc202 => ?_)
        refine g_iconst X296 hx (hb hby at_205) (pc' := 206) rfl (z := (1 : Int32)) rfl ?_
        refine g_goto X296 hx (hb hby at_206) (by decide) (pc' := 210) (by decide) ?_
        refine g_istore X296 hx (hb hby at_210) (pc' := 212) rfl (Ls' := #[.val (.int p0), .val (.int p1), .val (.int p2), .val (.int p3), .val (.int p4), .val (.int xx), .val (.int yy), .val (.int lo1), .val (.int hi1), .val (.int mm), .val (.int lo2), .val (.int hi2), .val (.ref b255), .val (.ref b265), .val (.int (0 : Int32)), .val (.ref b265), .val (.ref b255), .val (.int (1 : Int32)), .unset]) rfl ?_
        refine g_iload X296 hx (hb hby at_212) (pc' := 214) rfl rfl ?_
        refine g_if_eq X296 hx (hb hby at_214) (pc1 := 217) rfl (by decide) (pc2 := 233) (by decide) (fun hc214 => absurd hc214 (by decide)) (fun hc214 => ?_)
        refine g_aload X296 hx (hb hby at_217) (pc' := 219) rfl rfl rfl ?_
        refine g_aload X296 hx (hb hby at_219) (pc' := 221) rfl rfl rfl ?_
        obtain ⟨v297, T297, h297, L297, X297, e297, N297, q297, st297⟩ := h_virtual (a := b265) (z := (⟨"com/example/stream_log_client/streamlogclient/protocol/VersionRange", "equals", "(Ljava/lang/Object;)Z"⟩ : MethodName)) X296 hx (W := 0) (Ls := #[.val (.int p0), .val (.int p1), .val (.int p2), .val (.int p3), .val (.int p4), .val (.int xx), .val (.int yy), .val (.int lo1), .val (.int hi1), .val (.int mm), .val (.int lo2), .val (.int hi2), .val (.ref b255), .val (.ref b265), .val (.int (0 : Int32)), .val (.ref b265), .val (.ref b255), .val (.int (1 : Int32)), .unset]) (argsL := [(.ref b255)]) (rest := []) hZ e296 N296 hml hown (rm5a l Z a0 hw b265 b255 lo2 hi2 lo1 hi1 h275 n0 Z281 P275 Q275 f278 f279 f277) A275 (hw _ (List.mem_of_getElem? (i := 20) rfl)) (hw _ (List.mem_of_getElem? (i := 21) rfl)) (notFace_of_selects (args := #[]) (mvT hZ (hw _ (List.mem_of_getElem? (i := 23) rfl)))) (hw _ (List.mem_of_getElem? (i := 23) rfl)) (hw _ (List.mem_of_getElem? (i := 22) rfl)) (hw _ (List.mem_of_getElem? (i := 9) rfl)) (hw _ (List.mem_of_getElem? (i := 24) rfl)) (by decide) pd__Ljava_lang_Object__Z rfl rfl (hb hby at_221) rfl (by decide) (by decide) (by decide) (by decide)
        obtain ⟨rfl, rfl⟩ := q297
        refine Go.movp st297 (mkF m 224 #[.val (.int p0), .val (.int p1), .val (.int p2), .val (.int p3), .val (.int p4), .val (.int xx), .val (.int yy), .val (.int lo1), .val (.int hi1), .val (.int mm), .val (.int lo2), .val (.int hi2), .val (.ref b255), .val (.ref b265), .val (.int (0 : Int32)), .val (.ref b265), .val (.ref b255), .val (.int (1 : Int32)), .unset] [(.int (eqV lo2 hi2 lo1 hi1))]) rfl ?_
        refine Go.cast (show (mkF m 224 #[.val (.int p0), .val (.int p1), .val (.int p2), .val (.int p3), .val (.int p4), .val (.int xx), .val (.int yy), .val (.int lo1), .val (.int hi1), .val (.int mm), .val (.int lo2), .val (.int hi2), .val (.ref b255), .val (.ref b265), .val (.int (0 : Int32)), .val (.ref b265), .val (.ref b255), .val (.int (1 : Int32)), .unset] [(.int (eqV lo2 hi2 lo1 hi1))]) = (mkF m 224 #[.val (.int p0), .val (.int p1), .val (.int p2), .val (.int p3), .val (.int p4), .val (.int xx), .val (.int yy), .val (.int lo1), .val (.int hi1), .val (.int mm), .val (.int lo2), .val (.int hi2), .val (.ref b255), .val (.ref b265), .val (.int (0 : Int32)), .val (.ref b265), .val (.ref b255), .val (.int (1 : Int32)), .unset] [(.int (0 : Int32))]) from by rw [show (eqV lo2 hi2 lo1 hi1) = (0 : Int32) from (if_neg (fun q => hc175 q.2.symm))]) ?_
        refine g_iload X297 hx (hb hby at_224) (pc' := 226) rfl rfl ?_
        refine g_icmp_ne X297 hx (hb hby at_226) (pc1 := 229) rfl (by decide) (pc2 := 233) (by decide) (fun hc226 => absurd rfl hc226) (fun hc226 => ?_)
        refine g_iconst X297 hx (hb hby at_229) (pc' := 230) rfl (z := (1 : Int32)) rfl ?_
        refine g_goto X297 hx (hb hby at_230) (by decide) (pc' := 234) (by decide) ?_
        refine g_istore X297 hx (hb hby at_234) (pc' := 236) rfl (Ls' := #[.val (.int p0), .val (.int p1), .val (.int p2), .val (.int p3), .val (.int p4), .val (.int xx), .val (.int yy), .val (.int lo1), .val (.int hi1), .val (.int mm), .val (.int lo2), .val (.int hi2), .val (.ref b255), .val (.ref b265), .val (.int (0 : Int32)), .val (.ref b265), .val (.ref b255), .val (.int (1 : Int32)), .unset]) rfl ?_
        refine g_iload X297 hx (hb hby at_236) (pc' := 238) rfl rfl ?_
        refine g_if_eq X297 hx (hb hby at_238) (pc1 := 241) rfl (by decide) (pc2 := 255) (by decide) (fun hc238 => absurd hc238 (by decide)) (fun hc238 => ?_)
        refine g_aload X297 hx (hb hby at_241) (pc' := 243) rfl rfl rfl ?_
        refine g_aload X297 hx (hb hby at_243) (pc' := 245) rfl rfl rfl ?_
        obtain ⟨v298, T298, h298, L298, X298, e298, N298, q298, st298⟩ := h_virtual (a := b255) (z := (⟨"com/example/stream_log_client/streamlogclient/protocol/VersionRange", "equals", "(Ljava/lang/Object;)Z"⟩ : MethodName)) X297 hx (W := 0) (Ls := #[.val (.int p0), .val (.int p1), .val (.int p2), .val (.int p3), .val (.int p4), .val (.int xx), .val (.int yy), .val (.int lo1), .val (.int hi1), .val (.int mm), .val (.int lo2), .val (.int hi2), .val (.ref b255), .val (.ref b265), .val (.int (0 : Int32)), .val (.ref b265), .val (.ref b255), .val (.int (1 : Int32)), .unset]) (argsL := [(.ref b255)]) (rest := []) hZ e297 N297 hml hown (rm5a l Z a0 hw b255 b255 lo1 hi1 lo1 hi1 h275 n0 Z281 f278 f279 f278 f279 f277) f277 (hw _ (List.mem_of_getElem? (i := 20) rfl)) (hw _ (List.mem_of_getElem? (i := 21) rfl)) (notFace_of_selects (args := #[]) (mvT hZ (hw _ (List.mem_of_getElem? (i := 23) rfl)))) (hw _ (List.mem_of_getElem? (i := 23) rfl)) (hw _ (List.mem_of_getElem? (i := 22) rfl)) (hw _ (List.mem_of_getElem? (i := 9) rfl)) (hw _ (List.mem_of_getElem? (i := 24) rfl)) (by decide) pd__Ljava_lang_Object__Z rfl rfl (hb hby at_245) rfl (by decide) (by decide) (by decide) (by decide)
        obtain ⟨rfl, rfl⟩ := q298
        refine Go.movp st298 (mkF m 248 #[.val (.int p0), .val (.int p1), .val (.int p2), .val (.int p3), .val (.int p4), .val (.int xx), .val (.int yy), .val (.int lo1), .val (.int hi1), .val (.int mm), .val (.int lo2), .val (.int hi2), .val (.ref b255), .val (.ref b265), .val (.int (0 : Int32)), .val (.ref b265), .val (.ref b255), .val (.int (1 : Int32)), .unset] [(.int (eqV lo1 hi1 lo1 hi1))]) rfl ?_
        refine Go.cast (show (mkF m 248 #[.val (.int p0), .val (.int p1), .val (.int p2), .val (.int p3), .val (.int p4), .val (.int xx), .val (.int yy), .val (.int lo1), .val (.int hi1), .val (.int mm), .val (.int lo2), .val (.int hi2), .val (.ref b255), .val (.ref b265), .val (.int (0 : Int32)), .val (.ref b265), .val (.ref b255), .val (.int (1 : Int32)), .unset] [(.int (eqV lo1 hi1 lo1 hi1))]) = (mkF m 248 #[.val (.int p0), .val (.int p1), .val (.int p2), .val (.int p3), .val (.int p4), .val (.int xx), .val (.int yy), .val (.int lo1), .val (.int hi1), .val (.int mm), .val (.int lo2), .val (.int hi2), .val (.ref b255), .val (.ref b265), .val (.int (0 : Int32)), .val (.ref b265), .val (.ref b255), .val (.int (1 : Int32)), .unset] [(.int (1 : Int32))]) from by rw [show (eqV lo1 hi1 lo1 hi1) = (1 : Int32) from (if_pos ⟨rfl, rfl⟩)]) ?_
        refine g_if_eq X298 hx (hb hby at_248) (pc1 := 251) rfl (by decide) (pc2 := 255) (by decide) (fun hc248 => absurd hc248 (by decide)) (fun hc248 => ?_)
        refine g_iconst X298 hx (hb hby at_251) (pc' := 252) rfl (z := (1 : Int32)) rfl ?_
        refine g_goto X298 hx (hb hby at_252) (by decide) (pc' := 256) (by decide) ?_
        refine g_istore X298 hx (hb hby at_256) (pc' := 258) rfl (Ls' := #[.val (.int p0), .val (.int p1), .val (.int p2), .val (.int p3), .val (.int p4), .val (.int xx), .val (.int yy), .val (.int lo1), .val (.int hi1), .val (.int mm), .val (.int lo2), .val (.int hi2), .val (.ref b255), .val (.ref b265), .val (.int (0 : Int32)), .val (.ref b265), .val (.ref b255), .val (.int (1 : Int32)), .unset]) rfl ?_
        refine g_iload X298 hx (hb hby at_258) (pc' := 260) rfl rfl ?_
        refine g_if_eq X298 hx (hb hby at_260) (pc1 := 263) rfl (by decide) (pc2 := 276) (by decide) (fun hc260 => absurd hc260 (by decide)) (fun hc260 => ?_)
        refine g_aload X298 hx (hb hby at_263) (pc' := 265) rfl rfl rfl ?_
        refine g_aconst_null X298 hx (hb hby at_265) (pc' := 266) rfl ?_
        obtain ⟨v299, T299, h299, L299, X299, e299, N299, q299, st299⟩ := h_virtual (a := b255) (z := (⟨"com/example/stream_log_client/streamlogclient/protocol/VersionRange", "equals", "(Ljava/lang/Object;)Z"⟩ : MethodName)) X298 hx (W := 0) (Ls := #[.val (.int p0), .val (.int p1), .val (.int p2), .val (.int p3), .val (.int p4), .val (.int xx), .val (.int yy), .val (.int lo1), .val (.int hi1), .val (.int mm), .val (.int lo2), .val (.int hi2), .val (.ref b255), .val (.ref b265), .val (.int (0 : Int32)), .val (.ref b265), .val (.ref b255), .val (.int (1 : Int32)), .unset]) (argsL := [.null]) (rest := []) hZ e298 N298 hml hown (rm5b l Z a0 hw b255 h275 n0 Z281) f277 (hw _ (List.mem_of_getElem? (i := 20) rfl)) (hw _ (List.mem_of_getElem? (i := 21) rfl)) (notFace_of_selects (args := #[]) (mvT hZ (hw _ (List.mem_of_getElem? (i := 23) rfl)))) (hw _ (List.mem_of_getElem? (i := 23) rfl)) (hw _ (List.mem_of_getElem? (i := 22) rfl)) (hw _ (List.mem_of_getElem? (i := 9) rfl)) (hw _ (List.mem_of_getElem? (i := 24) rfl)) (by decide) pd__Ljava_lang_Object__Z rfl rfl (hb hby at_266) rfl (by decide) (by decide) (by decide) (by decide)
        obtain ⟨rfl, rfl⟩ := q299
        refine Go.movp st299 (mkF m 269 #[.val (.int p0), .val (.int p1), .val (.int p2), .val (.int p3), .val (.int p4), .val (.int xx), .val (.int yy), .val (.int lo1), .val (.int hi1), .val (.int mm), .val (.int lo2), .val (.int hi2), .val (.ref b255), .val (.ref b265), .val (.int (0 : Int32)), .val (.ref b265), .val (.ref b255), .val (.int (1 : Int32)), .unset] [(.int (0 : Int32))]) rfl ?_
        refine g_if_ne X299 hx (hb hby at_269) (pc1 := 272) rfl (by decide) (pc2 := 276) (by decide) (fun hc269 => absurd rfl hc269) (fun hc269 => ?_)
        refine g_iconst X299 hx (hb hby at_272) (pc' := 273) rfl (z := (1 : Int32)) rfl ?_
        refine g_goto X299 hx (hb hby at_273) (by decide) (pc' := 277) (by decide) ?_
        refine g_istore X299 hx (hb hby at_277) (pc' := 279) rfl (Ls' := #[.val (.int p0), .val (.int p1), .val (.int p2), .val (.int p3), .val (.int p4), .val (.int xx), .val (.int yy), .val (.int lo1), .val (.int hi1), .val (.int mm), .val (.int lo2), .val (.int hi2), .val (.ref b255), .val (.ref b265), .val (.int (0 : Int32)), .val (.ref b265), .val (.ref b255), .val (.int (1 : Int32)), .unset]) rfl ?_
        refine g_iload X299 hx (hb hby at_279) (pc' := 281) rfl rfl ?_
        obtain ⟨v300, T300, h300, L300, X300, e300, N300, q300, st300⟩ := h_static X299 hx (W := 0) (Ls := #[.val (.int p0), .val (.int p1), .val (.int p2), .val (.int p3), .val (.int p4), .val (.int xx), .val (.int yy), .val (.int lo1), .val (.int hi1), .val (.int mm), .val (.int lo2), .val (.int hi2), .val (.ref b255), .val (.ref b265), .val (.int (0 : Int32)), .val (.ref b265), .val (.ref b255), .val (.int (1 : Int32)), .unset]) (argsL := [(.int lo1)]) (rest := []) hZ e299 N299 hml hown (rm6 l Z a0 hw lo1 ca h275 n0 Z281 (Sta.ext f276.2 S1) (Sta.ext f276.2 S2) (own_cx CA f276.2) okl.1) (hw _ (List.mem_of_getElem? (i := 27) rfl)) (hw _ (List.mem_of_getElem? (i := 28) rfl)) (hw _ (List.mem_of_getElem? (i := 29) rfl)) (hw _ (List.mem_of_getElem? (i := 30) rfl)) (by decide) pd__I_Ljava_lang_Integer_ rfl rfl (hb hby at_281) rfl (by decide) (by decide) (by decide) (by decide)
        obtain ⟨r300, rfl, K300, A300⟩ := q300
        have f301 := f276.keep K300 all0
        have f302 := f277.keep K300
        have f303 := f278.keep K300 nin0
        have f304 := f279.keep K300 nin0
        have f305 := A275.keep K300
        have f306 := P275.keep K300 nin0
        have f307 := Q275.keep K300 nin0
        have Z308 : n0 ≤ h300.size := Nat.le_trans Z281 K300.1
        refine Go.movp st300 (mkF m 284 #[.val (.int p0), .val (.int p1), .val (.int p2), .val (.int p3), .val (.int p4), .val (.int xx), .val (.int yy), .val (.int lo1), .val (.int hi1), .val (.int mm), .val (.int lo2), .val (.int hi2), .val (.ref b255), .val (.ref b265), .val (.int (0 : Int32)), .val (.ref b265), .val (.ref b255), .val (.int (1 : Int32)), .unset] [(.ref r300)]) rfl ?_
        refine g_astore X300 hx (hb hby at_284) (pc' := 286) rfl rfl (Ls' := #[.val (.int p0), .val (.int p1), .val (.int p2), .val (.int p3), .val (.int p4), .val (.int xx), .val (.int yy), .val (.int lo1), .val (.int hi1), .val (.int mm), .val (.int lo2), .val (.int hi2), .val (.ref b255), .val (.ref b265), .val (.int (0 : Int32)), .val (.ref b265), .val (.ref b255), .val (.int (1 : Int32)), .val (.ref r300)]) rfl ?_
        refine g_iload X300 hx (hb hby at_286) (pc' := 288) rfl rfl ?_
        refine g_if_eq X300 hx (hb hby at_288) (pc1 := 291) rfl (by decide) (pc2 := 305) (by decide) (fun hc288 => absurd hc288 (by decide)) (fun hc288 => ?_)
        refine g_aload X300 hx (hb hby at_291) (pc' := 293) rfl rfl rfl ?_
        refine g_aload X300 hx (hb hby at_293) (pc' := 295) rfl rfl rfl ?_
        obtain ⟨v309, T309, h309, L309, X309, e309, N309, q309, st309⟩ := h_virtual (a := b255) (z := (⟨"com/example/stream_log_client/streamlogclient/protocol/VersionRange", "equals", "(Ljava/lang/Object;)Z"⟩ : MethodName)) X300 hx (W := 0) (Ls := #[.val (.int p0), .val (.int p1), .val (.int p2), .val (.int p3), .val (.int p4), .val (.int xx), .val (.int yy), .val (.int lo1), .val (.int hi1), .val (.int mm), .val (.int lo2), .val (.int hi2), .val (.ref b255), .val (.ref b265), .val (.int (0 : Int32)), .val (.ref b265), .val (.ref b255), .val (.int (1 : Int32)), .val (.ref r300)]) (argsL := [(.ref r300)]) (rest := []) hZ e300 N300 hml hown (rm5c l Z a0 hw b255 r300 h300 n0 Z308 A300) f302 (hw _ (List.mem_of_getElem? (i := 20) rfl)) (hw _ (List.mem_of_getElem? (i := 21) rfl)) (notFace_of_selects (args := #[]) (mvT hZ (hw _ (List.mem_of_getElem? (i := 23) rfl)))) (hw _ (List.mem_of_getElem? (i := 23) rfl)) (hw _ (List.mem_of_getElem? (i := 22) rfl)) (hw _ (List.mem_of_getElem? (i := 9) rfl)) (hw _ (List.mem_of_getElem? (i := 24) rfl)) (by decide) pd__Ljava_lang_Object__Z rfl rfl (hb hby at_295) rfl (by decide) (by decide) (by decide) (by decide)
        obtain ⟨rfl, rfl⟩ := q309
        refine Go.movp st309 (mkF m 298 #[.val (.int p0), .val (.int p1), .val (.int p2), .val (.int p3), .val (.int p4), .val (.int xx), .val (.int yy), .val (.int lo1), .val (.int hi1), .val (.int mm), .val (.int lo2), .val (.int hi2), .val (.ref b255), .val (.ref b265), .val (.int (0 : Int32)), .val (.ref b265), .val (.ref b255), .val (.int (1 : Int32)), .val (.ref r300)] [(.int (0 : Int32))]) rfl ?_
        refine g_if_ne X309 hx (hb hby at_298) (pc1 := 301) rfl (by decide) (pc2 := 305) (by decide) (fun hc298 => absurd rfl hc298) (fun hc298 => ?_)
        refine g_iconst X309 hx (hb hby at_301) (pc' := 302) rfl (z := (1 : Int32)) rfl ?_
        refine g_goto X309 hx (hb hby at_302) (by decide) (pc' := 306) (by decide) ?_
        refine g_istore X309 hx (hb hby at_306) (pc' := 308) rfl (Ls' := #[.val (.int p0), .val (.int p1), .val (.int p2), .val (.int p3), .val (.int p4), .val (.int xx), .val (.int yy), .val (.int lo1), .val (.int hi1), .val (.int mm), .val (.int lo2), .val (.int hi2), .val (.ref b255), .val (.ref b265), .val (.int (0 : Int32)), .val (.ref b265), .val (.ref b255), .val (.int (1 : Int32)), .val (.ref r300)]) rfl ?_
        refine g_iload X309 hx (hb hby at_308) (pc' := 310) rfl rfl ?_
        exact g_zreturn X309 hx rfl hret (hb hby at_310) N309 hlk (fun v t => endF (by decide) (by decide) v) (by rw [e309]; exact rfl)
      · skip
        refine g_iconst X275 hx (hb hby at_178) (pc' := 179) rfl (z := (1 : Int32)) rfl ?_
        refine g_goto X275 hx (hb hby at_179) (by decide) (pc' := 183) (by decide) ?_
        refine g_istore X275 hx (hb hby at_183) (pc' := 185) rfl (Ls' := #[.val (.int p0), .val (.int p1), .val (.int p2), .val (.int p3), .val (.int p4), .val (.int xx), .val (.int yy), .val (.int lo1), .val (.int hi1), .val (.int mm), .val (.int lo2), .val (.int hi2), .val (.ref b255), .val (.ref b265), .val (.int (1 : Int32)), .unset, .unset, .unset, .unset]) rfl ?_
        refine g_aload X275 hx (hb hby at_185) (pc' := 187) rfl rfl rfl ?_
        refine g_astore X275 hx (hb hby at_187) (pc' := 189) rfl rfl (Ls' := #[.val (.int p0), .val (.int p1), .val (.int p2), .val (.int p3), .val (.int p4), .val (.int xx), .val (.int yy), .val (.int lo1), .val (.int hi1), .val (.int mm), .val (.int lo2), .val (.int hi2), .val (.ref b255), .val (.ref b265), .val (.int (1 : Int32)), .val (.ref b265), .unset, .unset, .unset]) rfl ?_
        refine g_aload X275 hx (hb hby at_189) (pc' := 191) rfl rfl rfl ?_
        refine g_astore X275 hx (hb hby at_191) (pc' := 193) rfl rfl (Ls' := #[.val (.int p0), .val (.int p1), .val (.int p2), .val (.int p3), .val (.int p4), .val (.int xx), .val (.int yy), .val (.int lo1), .val (.int hi1), .val (.int mm), .val (.int lo2), .val (.int hi2), .val (.ref b255), .val (.ref b265), .val (.int (1 : Int32)), .val (.ref b265), .val (.ref b255), .unset, .unset]) rfl ?_
        refine g_aload X275 hx (hb hby at_193) (pc' := 195) rfl rfl rfl ?_
        refine g_aload X275 hx (hb hby at_195) (pc' := 197) rfl rfl rfl ?_
        obtain ⟨v310, T310, h310, L310, X310, e310, N310, q310, st310⟩ := h_virtual (a := b255) (z := (⟨"com/example/stream_log_client/streamlogclient/protocol/VersionRange", "equals", "(Ljava/lang/Object;)Z"⟩ : MethodName)) X275 hx (W := 0) (Ls := #[.val (.int p0), .val (.int p1), .val (.int p2), .val (.int p3), .val (.int p4), .val (.int xx), .val (.int yy), .val (.int lo1), .val (.int hi1), .val (.int mm), .val (.int lo2), .val (.int hi2), .val (.ref b255), .val (.ref b265), .val (.int (1 : Int32)), .val (.ref b265), .val (.ref b255), .unset, .unset]) (argsL := [(.ref b265)]) (rest := []) hZ e275 N275 hml hown (rm5a l Z a0 hw b255 b265 lo1 hi1 lo2 hi2 h275 n0 Z281 f278 f279 P275 Q275 A275) f277 (hw _ (List.mem_of_getElem? (i := 20) rfl)) (hw _ (List.mem_of_getElem? (i := 21) rfl)) (notFace_of_selects (args := #[]) (mvT hZ (hw _ (List.mem_of_getElem? (i := 23) rfl)))) (hw _ (List.mem_of_getElem? (i := 23) rfl)) (hw _ (List.mem_of_getElem? (i := 22) rfl)) (hw _ (List.mem_of_getElem? (i := 9) rfl)) (hw _ (List.mem_of_getElem? (i := 24) rfl)) (by decide) pd__Ljava_lang_Object__Z rfl rfl (hb hby at_197) rfl (by decide) (by decide) (by decide) (by decide)
        obtain ⟨rfl, rfl⟩ := q310
        refine Go.movp st310 (mkF m 200 #[.val (.int p0), .val (.int p1), .val (.int p2), .val (.int p3), .val (.int p4), .val (.int xx), .val (.int yy), .val (.int lo1), .val (.int hi1), .val (.int mm), .val (.int lo2), .val (.int hi2), .val (.ref b255), .val (.ref b265), .val (.int (1 : Int32)), .val (.ref b265), .val (.ref b255), .unset, .unset] [(.int (eqV lo1 hi1 lo2 hi2))]) rfl ?_
        refine Go.cast (show (mkF m 200 #[.val (.int p0), .val (.int p1), .val (.int p2), .val (.int p3), .val (.int p4), .val (.int xx), .val (.int yy), .val (.int lo1), .val (.int hi1), .val (.int mm), .val (.int lo2), .val (.int hi2), .val (.ref b255), .val (.ref b265), .val (.int (1 : Int32)), .val (.ref b265), .val (.ref b255), .unset, .unset] [(.int (eqV lo1 hi1 lo2 hi2))]) = (mkF m 200 #[.val (.int p0), .val (.int p1), .val (.int p2), .val (.int p3), .val (.int p4), .val (.int xx), .val (.int yy), .val (.int lo1), .val (.int hi1), .val (.int mm), .val (.int lo2), .val (.int hi2), .val (.ref b255), .val (.ref b265), .val (.int (1 : Int32)), .val (.ref b265), .val (.ref b255), .unset, .unset] [(.int (1 : Int32))]) from by rw [show (eqV lo1 hi1 lo2 hi2) = (1 : Int32) from (if_pos ⟨hc168, hc175⟩)]) ?_
        refine g_iload X310 hx (hb hby at_200) (pc' := 202) rfl rfl ?_
        refine g_icmp_ne X310 hx (hb hby at_202) (pc1 := 205) rfl (by decide) (pc2 := 209) (by decide) (fun hc202 => absurd rfl hc202) (fun hc202 => ?_)
        refine g_iconst X310 hx (hb hby at_205) (pc' := 206) rfl (z := (1 : Int32)) rfl ?_
        refine g_goto X310 hx (hb hby at_206) (by decide) (pc' := 210) (by decide) ?_
        refine g_istore X310 hx (hb hby at_210) (pc' := 212) rfl (Ls' := #[.val (.int p0), .val (.int p1), .val (.int p2), .val (.int p3), .val (.int p4), .val (.int xx), .val (.int yy), .val (.int lo1), .val (.int hi1), .val (.int mm), .val (.int lo2), .val (.int hi2), .val (.ref b255), .val (.ref b265), .val (.int (1 : Int32)), .val (.ref b265), .val (.ref b255), .val (.int (1 : Int32)), .unset]) rfl ?_
        refine g_iload X310 hx (hb hby at_212) (pc' := 214) rfl rfl ?_
        refine g_if_eq X310 hx (hb hby at_214) (pc1 := 217) rfl (by decide) (pc2 := 233) (by decide) (fun hc214 => absurd hc214 (by decide)) (fun hc214 => ?_)
        refine g_aload X310 hx (hb hby at_217) (pc' := 219) rfl rfl rfl ?_
        refine g_aload X310 hx (hb hby at_219) (pc' := 221) rfl rfl rfl ?_
        obtain ⟨v311, T311, h311, L311, X311, e311, N311, q311, st311⟩ := h_virtual (a := b265) (z := (⟨"com/example/stream_log_client/streamlogclient/protocol/VersionRange", "equals", "(Ljava/lang/Object;)Z"⟩ : MethodName)) X310 hx (W := 0) (Ls := #[.val (.int p0), .val (.int p1), .val (.int p2), .val (.int p3), .val (.int p4), .val (.int xx), .val (.int yy), .val (.int lo1), .val (.int hi1), .val (.int mm), .val (.int lo2), .val (.int hi2), .val (.ref b255), .val (.ref b265), .val (.int (1 : Int32)), .val (.ref b265), .val (.ref b255), .val (.int (1 : Int32)), .unset]) (argsL := [(.ref b255)]) (rest := []) hZ e310 N310 hml hown (rm5a l Z a0 hw b265 b255 lo2 hi2 lo1 hi1 h275 n0 Z281 P275 Q275 f278 f279 f277) A275 (hw _ (List.mem_of_getElem? (i := 20) rfl)) (hw _ (List.mem_of_getElem? (i := 21) rfl)) (notFace_of_selects (args := #[]) (mvT hZ (hw _ (List.mem_of_getElem? (i := 23) rfl)))) (hw _ (List.mem_of_getElem? (i := 23) rfl)) (hw _ (List.mem_of_getElem? (i := 22) rfl)) (hw _ (List.mem_of_getElem? (i := 9) rfl)) (hw _ (List.mem_of_getElem? (i := 24) rfl)) (by decide) pd__Ljava_lang_Object__Z rfl rfl (hb hby at_221) rfl (by decide) (by decide) (by decide) (by decide)
        obtain ⟨rfl, rfl⟩ := q311
        refine Go.movp st311 (mkF m 224 #[.val (.int p0), .val (.int p1), .val (.int p2), .val (.int p3), .val (.int p4), .val (.int xx), .val (.int yy), .val (.int lo1), .val (.int hi1), .val (.int mm), .val (.int lo2), .val (.int hi2), .val (.ref b255), .val (.ref b265), .val (.int (1 : Int32)), .val (.ref b265), .val (.ref b255), .val (.int (1 : Int32)), .unset] [(.int (eqV lo2 hi2 lo1 hi1))]) rfl ?_
        refine Go.cast (show (mkF m 224 #[.val (.int p0), .val (.int p1), .val (.int p2), .val (.int p3), .val (.int p4), .val (.int xx), .val (.int yy), .val (.int lo1), .val (.int hi1), .val (.int mm), .val (.int lo2), .val (.int hi2), .val (.ref b255), .val (.ref b265), .val (.int (1 : Int32)), .val (.ref b265), .val (.ref b255), .val (.int (1 : Int32)), .unset] [(.int (eqV lo2 hi2 lo1 hi1))]) = (mkF m 224 #[.val (.int p0), .val (.int p1), .val (.int p2), .val (.int p3), .val (.int p4), .val (.int xx), .val (.int yy), .val (.int lo1), .val (.int hi1), .val (.int mm), .val (.int lo2), .val (.int hi2), .val (.ref b255), .val (.ref b265), .val (.int (1 : Int32)), .val (.ref b265), .val (.ref b255), .val (.int (1 : Int32)), .unset] [(.int (1 : Int32))]) from by rw [show (eqV lo2 hi2 lo1 hi1) = (1 : Int32) from (if_pos ⟨hc168.symm, hc175.symm⟩)]) ?_
        refine g_iload X311 hx (hb hby at_224) (pc' := 226) rfl rfl ?_
        refine g_icmp_ne X311 hx (hb hby at_226) (pc1 := 229) rfl (by decide) (pc2 := 233) (by decide) (fun hc226 => absurd rfl hc226) (fun hc226 => ?_)
        refine g_iconst X311 hx (hb hby at_229) (pc' := 230) rfl (z := (1 : Int32)) rfl ?_
        refine g_goto X311 hx (hb hby at_230) (by decide) (pc' := 234) (by decide) ?_
        refine g_istore X311 hx (hb hby at_234) (pc' := 236) rfl (Ls' := #[.val (.int p0), .val (.int p1), .val (.int p2), .val (.int p3), .val (.int p4), .val (.int xx), .val (.int yy), .val (.int lo1), .val (.int hi1), .val (.int mm), .val (.int lo2), .val (.int hi2), .val (.ref b255), .val (.ref b265), .val (.int (1 : Int32)), .val (.ref b265), .val (.ref b255), .val (.int (1 : Int32)), .unset]) rfl ?_
        refine g_iload X311 hx (hb hby at_236) (pc' := 238) rfl rfl ?_
        refine g_if_eq X311 hx (hb hby at_238) (pc1 := 241) rfl (by decide) (pc2 := 255) (by decide) (fun hc238 => absurd hc238 (by decide)) (fun hc238 => ?_)
        refine g_aload X311 hx (hb hby at_241) (pc' := 243) rfl rfl rfl ?_
        refine g_aload X311 hx (hb hby at_243) (pc' := 245) rfl rfl rfl ?_
        obtain ⟨v312, T312, h312, L312, X312, e312, N312, q312, st312⟩ := h_virtual (a := b255) (z := (⟨"com/example/stream_log_client/streamlogclient/protocol/VersionRange", "equals", "(Ljava/lang/Object;)Z"⟩ : MethodName)) X311 hx (W := 0) (Ls := #[.val (.int p0), .val (.int p1), .val (.int p2), .val (.int p3), .val (.int p4), .val (.int xx), .val (.int yy), .val (.int lo1), .val (.int hi1), .val (.int mm), .val (.int lo2), .val (.int hi2), .val (.ref b255), .val (.ref b265), .val (.int (1 : Int32)), .val (.ref b265), .val (.ref b255), .val (.int (1 : Int32)), .unset]) (argsL := [(.ref b255)]) (rest := []) hZ e311 N311 hml hown (rm5a l Z a0 hw b255 b255 lo1 hi1 lo1 hi1 h275 n0 Z281 f278 f279 f278 f279 f277) f277 (hw _ (List.mem_of_getElem? (i := 20) rfl)) (hw _ (List.mem_of_getElem? (i := 21) rfl)) (notFace_of_selects (args := #[]) (mvT hZ (hw _ (List.mem_of_getElem? (i := 23) rfl)))) (hw _ (List.mem_of_getElem? (i := 23) rfl)) (hw _ (List.mem_of_getElem? (i := 22) rfl)) (hw _ (List.mem_of_getElem? (i := 9) rfl)) (hw _ (List.mem_of_getElem? (i := 24) rfl)) (by decide) pd__Ljava_lang_Object__Z rfl rfl (hb hby at_245) rfl (by decide) (by decide) (by decide) (by decide)
        obtain ⟨rfl, rfl⟩ := q312
        refine Go.movp st312 (mkF m 248 #[.val (.int p0), .val (.int p1), .val (.int p2), .val (.int p3), .val (.int p4), .val (.int xx), .val (.int yy), .val (.int lo1), .val (.int hi1), .val (.int mm), .val (.int lo2), .val (.int hi2), .val (.ref b255), .val (.ref b265), .val (.int (1 : Int32)), .val (.ref b265), .val (.ref b255), .val (.int (1 : Int32)), .unset] [(.int (eqV lo1 hi1 lo1 hi1))]) rfl ?_
        refine Go.cast (show (mkF m 248 #[.val (.int p0), .val (.int p1), .val (.int p2), .val (.int p3), .val (.int p4), .val (.int xx), .val (.int yy), .val (.int lo1), .val (.int hi1), .val (.int mm), .val (.int lo2), .val (.int hi2), .val (.ref b255), .val (.ref b265), .val (.int (1 : Int32)), .val (.ref b265), .val (.ref b255), .val (.int (1 : Int32)), .unset] [(.int (eqV lo1 hi1 lo1 hi1))]) = (mkF m 248 #[.val (.int p0), .val (.int p1), .val (.int p2), .val (.int p3), .val (.int p4), .val (.int xx), .val (.int yy), .val (.int lo1), .val (.int hi1), .val (.int mm), .val (.int lo2), .val (.int hi2), .val (.ref b255), .val (.ref b265), .val (.int (1 : Int32)), .val (.ref b265), .val (.ref b255), .val (.int (1 : Int32)), .unset] [(.int (1 : Int32))]) from by rw [show (eqV lo1 hi1 lo1 hi1) = (1 : Int32) from (if_pos ⟨rfl, rfl⟩)]) ?_
        refine g_if_eq X312 hx (hb hby at_248) (pc1 := 251) rfl (by decide) (pc2 := 255) (by decide) (fun hc248 => absurd hc248 (by decide)) (fun hc248 => ?_)
        refine g_iconst X312 hx (hb hby at_251) (pc' := 252) rfl (z := (1 : Int32)) rfl ?_
        refine g_goto X312 hx (hb hby at_252) (by decide) (pc' := 256) (by decide) ?_
        refine g_istore X312 hx (hb hby at_256) (pc' := 258) rfl (Ls' := #[.val (.int p0), .val (.int p1), .val (.int p2), .val (.int p3), .val (.int p4), .val (.int xx), .val (.int yy), .val (.int lo1), .val (.int hi1), .val (.int mm), .val (.int lo2), .val (.int hi2), .val (.ref b255), .val (.ref b265), .val (.int (1 : Int32)), .val (.ref b265), .val (.ref b255), .val (.int (1 : Int32)), .unset]) rfl ?_
        refine g_iload X312 hx (hb hby at_258) (pc' := 260) rfl rfl ?_
        refine g_if_eq X312 hx (hb hby at_260) (pc1 := 263) rfl (by decide) (pc2 := 276) (by decide) (fun hc260 => absurd hc260 (by decide)) (fun hc260 => ?_)
        refine g_aload X312 hx (hb hby at_263) (pc' := 265) rfl rfl rfl ?_
        refine g_aconst_null X312 hx (hb hby at_265) (pc' := 266) rfl ?_
        obtain ⟨v313, T313, h313, L313, X313, e313, N313, q313, st313⟩ := h_virtual (a := b255) (z := (⟨"com/example/stream_log_client/streamlogclient/protocol/VersionRange", "equals", "(Ljava/lang/Object;)Z"⟩ : MethodName)) X312 hx (W := 0) (Ls := #[.val (.int p0), .val (.int p1), .val (.int p2), .val (.int p3), .val (.int p4), .val (.int xx), .val (.int yy), .val (.int lo1), .val (.int hi1), .val (.int mm), .val (.int lo2), .val (.int hi2), .val (.ref b255), .val (.ref b265), .val (.int (1 : Int32)), .val (.ref b265), .val (.ref b255), .val (.int (1 : Int32)), .unset]) (argsL := [.null]) (rest := []) hZ e312 N312 hml hown (rm5b l Z a0 hw b255 h275 n0 Z281) f277 (hw _ (List.mem_of_getElem? (i := 20) rfl)) (hw _ (List.mem_of_getElem? (i := 21) rfl)) (notFace_of_selects (args := #[]) (mvT hZ (hw _ (List.mem_of_getElem? (i := 23) rfl)))) (hw _ (List.mem_of_getElem? (i := 23) rfl)) (hw _ (List.mem_of_getElem? (i := 22) rfl)) (hw _ (List.mem_of_getElem? (i := 9) rfl)) (hw _ (List.mem_of_getElem? (i := 24) rfl)) (by decide) pd__Ljava_lang_Object__Z rfl rfl (hb hby at_266) rfl (by decide) (by decide) (by decide) (by decide)
        obtain ⟨rfl, rfl⟩ := q313
        refine Go.movp st313 (mkF m 269 #[.val (.int p0), .val (.int p1), .val (.int p2), .val (.int p3), .val (.int p4), .val (.int xx), .val (.int yy), .val (.int lo1), .val (.int hi1), .val (.int mm), .val (.int lo2), .val (.int hi2), .val (.ref b255), .val (.ref b265), .val (.int (1 : Int32)), .val (.ref b265), .val (.ref b255), .val (.int (1 : Int32)), .unset] [(.int (0 : Int32))]) rfl ?_
        refine g_if_ne X313 hx (hb hby at_269) (pc1 := 272) rfl (by decide) (pc2 := 276) (by decide) (fun hc269 => absurd rfl hc269) (fun hc269 => ?_)
        refine g_iconst X313 hx (hb hby at_272) (pc' := 273) rfl (z := (1 : Int32)) rfl ?_
        refine g_goto X313 hx (hb hby at_273) (by decide) (pc' := 277) (by decide) ?_
        refine g_istore X313 hx (hb hby at_277) (pc' := 279) rfl (Ls' := #[.val (.int p0), .val (.int p1), .val (.int p2), .val (.int p3), .val (.int p4), .val (.int xx), .val (.int yy), .val (.int lo1), .val (.int hi1), .val (.int mm), .val (.int lo2), .val (.int hi2), .val (.ref b255), .val (.ref b265), .val (.int (1 : Int32)), .val (.ref b265), .val (.ref b255), .val (.int (1 : Int32)), .unset]) rfl ?_
        refine g_iload X313 hx (hb hby at_279) (pc' := 281) rfl rfl ?_
        obtain ⟨v314, T314, h314, L314, X314, e314, N314, q314, st314⟩ := h_static X313 hx (W := 0) (Ls := #[.val (.int p0), .val (.int p1), .val (.int p2), .val (.int p3), .val (.int p4), .val (.int xx), .val (.int yy), .val (.int lo1), .val (.int hi1), .val (.int mm), .val (.int lo2), .val (.int hi2), .val (.ref b255), .val (.ref b265), .val (.int (1 : Int32)), .val (.ref b265), .val (.ref b255), .val (.int (1 : Int32)), .unset]) (argsL := [(.int lo1)]) (rest := []) hZ e313 N313 hml hown (rm6 l Z a0 hw lo1 ca h275 n0 Z281 (Sta.ext f276.2 S1) (Sta.ext f276.2 S2) (own_cx CA f276.2) okl.1) (hw _ (List.mem_of_getElem? (i := 27) rfl)) (hw _ (List.mem_of_getElem? (i := 28) rfl)) (hw _ (List.mem_of_getElem? (i := 29) rfl)) (hw _ (List.mem_of_getElem? (i := 30) rfl)) (by decide) pd__I_Ljava_lang_Integer_ rfl rfl (hb hby at_281) rfl (by decide) (by decide) (by decide) (by decide)
        obtain ⟨r314, rfl, K314, A314⟩ := q314
        have f315 := f276.keep K314 all0
        have f316 := f277.keep K314
        have f317 := f278.keep K314 nin0
        have f318 := f279.keep K314 nin0
        have f319 := A275.keep K314
        have f320 := P275.keep K314 nin0
        have f321 := Q275.keep K314 nin0
        have Z322 : n0 ≤ h314.size := Nat.le_trans Z281 K314.1
        refine Go.movp st314 (mkF m 284 #[.val (.int p0), .val (.int p1), .val (.int p2), .val (.int p3), .val (.int p4), .val (.int xx), .val (.int yy), .val (.int lo1), .val (.int hi1), .val (.int mm), .val (.int lo2), .val (.int hi2), .val (.ref b255), .val (.ref b265), .val (.int (1 : Int32)), .val (.ref b265), .val (.ref b255), .val (.int (1 : Int32)), .unset] [(.ref r314)]) rfl ?_
        refine g_astore X314 hx (hb hby at_284) (pc' := 286) rfl rfl (Ls' := #[.val (.int p0), .val (.int p1), .val (.int p2), .val (.int p3), .val (.int p4), .val (.int xx), .val (.int yy), .val (.int lo1), .val (.int hi1), .val (.int mm), .val (.int lo2), .val (.int hi2), .val (.ref b255), .val (.ref b265), .val (.int (1 : Int32)), .val (.ref b265), .val (.ref b255), .val (.int (1 : Int32)), .val (.ref r314)]) rfl ?_
        refine g_iload X314 hx (hb hby at_286) (pc' := 288) rfl rfl ?_
        refine g_if_eq X314 hx (hb hby at_288) (pc1 := 291) rfl (by decide) (pc2 := 305) (by decide) (fun hc288 => absurd hc288 (by decide)) (fun hc288 => ?_)
        refine g_aload X314 hx (hb hby at_291) (pc' := 293) rfl rfl rfl ?_
        refine g_aload X314 hx (hb hby at_293) (pc' := 295) rfl rfl rfl ?_
        obtain ⟨v323, T323, h323, L323, X323, e323, N323, q323, st323⟩ := h_virtual (a := b255) (z := (⟨"com/example/stream_log_client/streamlogclient/protocol/VersionRange", "equals", "(Ljava/lang/Object;)Z"⟩ : MethodName)) X314 hx (W := 0) (Ls := #[.val (.int p0), .val (.int p1), .val (.int p2), .val (.int p3), .val (.int p4), .val (.int xx), .val (.int yy), .val (.int lo1), .val (.int hi1), .val (.int mm), .val (.int lo2), .val (.int hi2), .val (.ref b255), .val (.ref b265), .val (.int (1 : Int32)), .val (.ref b265), .val (.ref b255), .val (.int (1 : Int32)), .val (.ref r314)]) (argsL := [(.ref r314)]) (rest := []) hZ e314 N314 hml hown (rm5c l Z a0 hw b255 r314 h314 n0 Z322 A314) f316 (hw _ (List.mem_of_getElem? (i := 20) rfl)) (hw _ (List.mem_of_getElem? (i := 21) rfl)) (notFace_of_selects (args := #[]) (mvT hZ (hw _ (List.mem_of_getElem? (i := 23) rfl)))) (hw _ (List.mem_of_getElem? (i := 23) rfl)) (hw _ (List.mem_of_getElem? (i := 22) rfl)) (hw _ (List.mem_of_getElem? (i := 9) rfl)) (hw _ (List.mem_of_getElem? (i := 24) rfl)) (by decide) pd__Ljava_lang_Object__Z rfl rfl (hb hby at_295) rfl (by decide) (by decide) (by decide) (by decide)
        obtain ⟨rfl, rfl⟩ := q323
        refine Go.movp st323 (mkF m 298 #[.val (.int p0), .val (.int p1), .val (.int p2), .val (.int p3), .val (.int p4), .val (.int xx), .val (.int yy), .val (.int lo1), .val (.int hi1), .val (.int mm), .val (.int lo2), .val (.int hi2), .val (.ref b255), .val (.ref b265), .val (.int (1 : Int32)), .val (.ref b265), .val (.ref b255), .val (.int (1 : Int32)), .val (.ref r314)] [(.int (0 : Int32))]) rfl ?_
        refine g_if_ne X323 hx (hb hby at_298) (pc1 := 301) rfl (by decide) (pc2 := 305) (by decide) (fun hc298 => absurd rfl hc298) (fun hc298 => ?_)
        refine g_iconst X323 hx (hb hby at_301) (pc' := 302) rfl (z := (1 : Int32)) rfl ?_
        refine g_goto X323 hx (hb hby at_302) (by decide) (pc' := 306) (by decide) ?_
        refine g_istore X323 hx (hb hby at_306) (pc' := 308) rfl (Ls' := #[.val (.int p0), .val (.int p1), .val (.int p2), .val (.int p3), .val (.int p4), .val (.int xx), .val (.int yy), .val (.int lo1), .val (.int hi1), .val (.int mm), .val (.int lo2), .val (.int hi2), .val (.ref b255), .val (.ref b265), .val (.int (1 : Int32)), .val (.ref b265), .val (.ref b255), .val (.int (1 : Int32)), .val (.ref r314)]) rfl ?_
        refine g_iload X323 hx (hb hby at_308) (pc' := 310) rfl rfl ?_
        exact g_zreturn X323 hx rfl hret (hb hby at_310) N323 hlk (fun v t => endF (by decide) (by decide) v) (by rw [e323]; exact rfl)
set_option maxRecDepth 65536 in
set_option maxHeartbeats 40000000 in
theorem comes_1 {Post : Tables → Env → Array Value → State → Outcome → State → Prop} (hpost : ∀ tb e args s v u, (limb_1_1.after args s (.returned v) u = true ∧ limb_1_2.after args s (.returned v) u = true ∧ True) → FrameEnd s (.returned v) u (Jvm.fieldLocs frame_1_writes args s ++ Jvm.arrayLocs frame_1_arrays args s ++ Jvm.staticLocs frame_1_statics s) 16 128 → Post tb e args s (.returned v) u) :
    ArmFor flags0 classFile x code maxLocals ret World_1 tables_1 room_1 Calls_1 rest_1 Pre_1 Post := by
  intro l hfl _ _ p e ha hc hk s m args below hf hA hF happ hP
  obtain ⟨hcalls, hrest, hpre⟩ := hP
  obtain ⟨-, -, -, hnamed, -, -, -, hat⟩ := (Spec.applies_iff hf).mp happ
  obtain ⟨hg, hn⟩ := and_e (Cond.before_iff.mp (show (Jvm.Cond.and given_1 narrow_1).before args s = true from hpre))
  obtain ⟨g1, g2⟩ := and_e hg
  obtain ⟨g3, g4⟩ := and_e g2
  obtain ⟨g5, g6⟩ := and_e g4
  obtain ⟨g7, g8⟩ := and_e g6
  obtain ⟨g9, g10⟩ := and_e g8
  obtain ⟨w0, w1, w2, w3, w4, rfl⟩ : ∃ w0 w1 w2 w3 w4 : Value, args = #[w0, w1, w2, w3, w4] := by
    have hs : args.size = 5 := by simpa [Cond.value, given_1] using g1
    obtain ⟨L⟩ := args
    match L, hs with
    | [w0, w1, w2, w3, w4], _ => exact ⟨w0, w1, w2, w3, w4, rfl⟩
  have hw := fun d (hd : d ∈ tables_1) => atoms_spec (ws := Jvm.Cond.code x code maxLocals ret :: tables_1) hat d (List.mem_cons_of_mem _ hd)
  have hfit : Fit s := fun {y c} hc i hi => by
    obtain ⟨ha, rfl⟩ := Array.getElem?_eq_some_iff.mp hc
    have q := List.all_eq_true.mp ((Array.all_eq_true_iff_forall_mem.mp hF) _ (Array.getElem_mem ha)) i (List.mem_range.mpr hi)
    simpa [Array.getElem?_eq_getElem hi] using q
  obtain ⟨hsets, hown0⟩ := atoms_of _ (rest_1_c_eq ▸ (show rest_1_c.before _ s = true from hrest))
  have hr0 := Cond.before_iff.mp hown0
  obtain ⟨i0, ei0⟩ := is_v g3
  obtain rfl : w0 = (.int i0) := Option.some.inj ei0
  obtain ⟨i1, ei1⟩ := is_v g5
  obtain rfl : w1 = (.int i1) := Option.some.inj ei1
  obtain ⟨i2, ei2⟩ := is_v g7
  obtain rfl : w2 = (.int i2) := Option.some.inj ei2
  obtain ⟨i3, ei3⟩ := is_v g9
  obtain rfl : w3 = (.int i3) := Option.some.inj ei3
  obtain ⟨i4, ei4⟩ := is_v g10
  obtain rfl : w4 = (.int i4) := Option.some.inj ei4
  obtain ⟨ca, sH, sC, sA⟩ := own_cache (hw _ (List.mem_of_getElem? (i := 32) rfl)) hsets
  obtain ⟨n, o, h1, h2, h3, _, L, rfl, ⟨rfl, N⟩, hq⟩ := rm0 l s _ hw i0 i1 i2 i3 i4 ca s.heap s.heap.size (Nat.le_refl _) sH sC sA (Old.start s) tables_1 p e ha hc hk s m _ below hf ((Spec.applies_iff_loose hf).mp happ).1 ⟨rfl, State.Warmed39.refl s, rfl⟩ trivial
  refine ⟨n, _, h1, h2, h3, hpost _ _ _ _ _ _ ⟨Cond.after_iff.mpr rfl, Cond.after_iff.mpr (eq_i res_at (Term.int_eval (1)) rfl), trivial⟩ ⟨hq.1, hq.2.1, (hq.2.2.sift fun y hy => Or.inr (N y hy)).mono (by decide) (by decide)⟩⟩
theorem main_1_1 : Claimed_1_1 := comes_1 fun _ _ _ _ _ _ h hF => ⟨h.1, hF⟩
theorem main_1_2 : Claimed_1_2 := comes_1 fun _ _ _ _ _ _ h hF => ⟨h.2.1, hF⟩
end Jvm.Pilot.@@N@@
namespace Jvm.Pilot.@@N@@
open Jvm Jvm.ClassFile Sem Op Lib Jvm.Free Jvm.Stand Jvm.Pilot.@@N@@.Jvm.D
/-! MADE BY PROGRAM (witnessworld.py) out of the Statement's table words and the real class files: 17 classes; the members and pool entries that the words name. The judged class is class 1, her method 1. -/
namespace start1
open Jvm.ClassFile
def u (s : String) : CpInfo := .utf8 (stringToUtf16 s)
/-- a pool by its gaps: so many unusable entries, then the entry; so many at the end -/
def gap : Nat → List CpInfo → List CpInfo
  | 0, r => r
  | n + 1, r => .unusable :: gap n r
def poolList (es : List (Nat × CpInfo)) (last : Nat) : List CpInfo := es.foldr (fun e r => gap e.1 (e.2 :: r)) (gap last [])
def pool (es : List (Nat × CpInfo)) (last : Nat) : Array CpInfo := ⟨poolList es last⟩
def fileOf (pool : Array CpInfo) (this : Nat) (attrs : Array Attribute := #[]) (ms : Array MethodInfo := #[]) (fl : Nat := 33) (sup : Nat := 0) (ifs : Array Nat := #[]) (fds : Array FieldInfo := #[]) : ClassFile where
  minorVersion := 0
  majorVersion := 65
  constantPool := pool
  accessFlags := fl
  thisClass := this
  superClass := sup
  interfaces := ifs
  fields := fds
  methods := ms
  attributes := attrs
def plain (name : String) (sup : Option ClassId) : Class where
  name := name
  kind := .ordinary
  loader := none
  accessFlags := 33
  super := sup
  interfaces := #[]
  cf := none
  fields := #[]
  methods := #[]
  instanceTypes := #[]
  staticTypes := #[]
  resolved := #[]
  callSites := []
  init := .initialized
  statics := none
  mirror := none

def pool0 : Array CpInfo := pool [(5, u "<init>"), (0, u "()V"), (1, .class_ 10), (1, u "java/lang/Object")] 113

def k0c0 : Code := { maxStack := 0, maxLocals := 1, code := object_method_1_code, exceptionTable := #[], attributes := #[] }
def k0m0 : Method := { name := "<init>", desc := "()V", sig := { parameters := [], returnType := none }, accessFlags := 1, code := some k0c0 }
/-- java/lang/Object -/
def k0 : Class := { plain "java/lang/Object" none with
  accessFlags := 33
  interfaces := #[]
  cf := some (fileOf pool0 8 #[] #[{ accessFlags := 1, nameIndex := 5, descriptorIndex := 6, attributes := #[] }] 33 0 #[] #[])
  fields := #[]
  methods := #[k0m0]
  instanceTypes := #[]
  staticTypes := #[]
  resolved := Array.replicate 124 none
  statics := none }

def pool1 : Array CpInfo := pool [(2, .class_ 4), (1, u "java/lang/Object"), (0, u "<init>"), (0, u "()V"), (0, .methodref 8 9), (0, .class_ 10), (0, .nameAndType 11 12), (0, u "java/lang/Math"), (0, u "min"), (0, u "(II)I"), (0, .methodref 8 14), (0, .nameAndType 15 12), (0, u "max"), (0, .integer 2147483647), (0, .integer 32768), (0, .class_ 19), (0, u "com/example/stream_log_client/streamlogclient/protocol/VersionRange"), (0, .methodref 18 21), (0, .nameAndType 5 22), (0, u "(II)V"), (0, .methodref 18 24), (0, .nameAndType 25 26), (0, u "equals"), (0, u "(Ljava/lang/Object;)Z"), (0, .methodref 28 29), (0, .class_ 30), (0, .nameAndType 31 32), (0, u "java/lang/Integer"), (0, u "valueOf"), (0, u "(I)Ljava/lang/Integer;"), (0, .class_ 34), (0, u "com/example/stream_log_client/streamlogclient/protocol/VersionRangeEqualsPinLaw"), (2, u "law"), (0, u "(IIIII)Z")] 3

def k1m0 : Method := { name := "<init>", desc := "()V", sig := { parameters := [], returnType := none }, accessFlags := 1, code := none }
def k1c1 : Code := { maxStack := 4, maxLocals := 19, code := code, exceptionTable := #[], attributes := #[] }
def k1m1 : Method := { name := "law", desc := "(IIIII)Z", sig := { parameters := [.int, .int, .int, .int, .int], returnType := some .boolean }, accessFlags := 9, code := some k1c1 }
/-- com/example/stream_log_client/streamlogclient/protocol/VersionRangeEqualsPinLaw -/
def k1 : Class := { plain "com/example/stream_log_client/streamlogclient/protocol/VersionRangeEqualsPinLaw" (some 0) with
  accessFlags := 49
  interfaces := #[]
  cf := some (fileOf pool1 33 #[] #[{ accessFlags := 1, nameIndex := 5, descriptorIndex := 6, attributes := #[] }, { accessFlags := 9, nameIndex := 37, descriptorIndex := 38, attributes := #[] }] 49 2 #[] #[])
  fields := #[]
  methods := #[k1m0, k1m1]
  instanceTypes := #[]
  staticTypes := #[]
  resolved := Array.replicate 42 none
  statics := none }

def pool2 : Array CpInfo := pool [(1, .class_ 2), (0, u "java/lang/Math"), (1, .class_ 6), (1, u "java/lang/Object"), (0, u "<init>"), (0, u "()V"), (89, .class_ 100), (1, u "java/lang/Math$RandomNumberGeneratorHolder"), (71, u "negativeZeroFloatBits"), (0, u "J"), (2, u "negativeZeroDoubleBits"), (21, u "max"), (2, u "min"), (43, u "$assertionsDisabled"), (0, u "Z"), (88, u "(II)I"), (2, u "twoToTheDoubleScaleDown"), (0, u "D"), (4, u "twoToTheDoubleScaleUp"), (9, u "E"), (3, u "PI"), (2, u "TAU"), (2, u "DEGREES_TO_RADIANS"), (0, u "RADIANS_TO_DEGREES")] 94

def k2m0 : Method := { name := "<init>", desc := "()V", sig := { parameters := [], returnType := none }, accessFlags := 2, code := none }
def k2c1 : Code := { maxStack := 2, maxLocals := 2, code := jdk_29_method_65_code, exceptionTable := #[], attributes := #[] }
def k2m1 : Method := { name := "max", desc := "(II)I", sig := { parameters := [.int, .int], returnType := some .int }, accessFlags := 9, code := some k2c1 }
def k2c2 : Code := { maxStack := 2, maxLocals := 2, code := jdk_29_method_69_code, exceptionTable := #[], attributes := #[] }
def k2m2 : Method := { name := "min", desc := "(II)I", sig := { parameters := [.int, .int], returnType := some .int }, accessFlags := 9, code := some k2c2 }
/-- java/lang/Math -/
def k2 : Class := { plain "java/lang/Math" (some 0) with
  accessFlags := 49
  interfaces := #[]
  cf := some (fileOf pool2 1 #[.nestMembers #[98]] #[{ accessFlags := 2, nameIndex := 7, descriptorIndex := 8, attributes := #[] }, { accessFlags := 9, nameIndex := 198, descriptorIndex := 335, attributes := #[] }, { accessFlags := 9, nameIndex := 201, descriptorIndex := 335, attributes := #[] }] 49 4 #[] #[{ accessFlags := 25, nameIndex := 354, descriptorIndex := 339, attributes := #[] }, { accessFlags := 25, nameIndex := 358, descriptorIndex := 339, attributes := #[] }, { accessFlags := 25, nameIndex := 361, descriptorIndex := 339, attributes := #[] }, { accessFlags := 26, nameIndex := 364, descriptorIndex := 339, attributes := #[] }, { accessFlags := 26, nameIndex := 365, descriptorIndex := 339, attributes := #[] }, { accessFlags := 26, nameIndex := 172, descriptorIndex := 173, attributes := #[] }, { accessFlags := 26, nameIndex := 176, descriptorIndex := 173, attributes := #[] }, { accessFlags := 8, nameIndex := 344, descriptorIndex := 339, attributes := #[] }, { accessFlags := 8, nameIndex := 338, descriptorIndex := 339, attributes := #[] }, { accessFlags := 4120, nameIndex := 245, descriptorIndex := 246, attributes := #[] }])
  fields := #[{ name := "E", type := .double, accessFlags := 25, slot := 0, constantValue := 0 }, { name := "PI", type := .double, accessFlags := 25, slot := 1, constantValue := 0 }, { name := "TAU", type := .double, accessFlags := 25, slot := 2, constantValue := 0 }, { name := "DEGREES_TO_RADIANS", type := .double, accessFlags := 26, slot := 3, constantValue := 0 }, { name := "RADIANS_TO_DEGREES", type := .double, accessFlags := 26, slot := 4, constantValue := 0 }, { name := "negativeZeroFloatBits", type := .long, accessFlags := 26, slot := 5, constantValue := 0 }, { name := "negativeZeroDoubleBits", type := .long, accessFlags := 26, slot := 6, constantValue := 0 }, { name := "twoToTheDoubleScaleUp", type := .double, accessFlags := 8, slot := 7, constantValue := 0 }, { name := "twoToTheDoubleScaleDown", type := .double, accessFlags := 8, slot := 8, constantValue := 0 }, { name := "$assertionsDisabled", type := .boolean, accessFlags := 4120, slot := 9, constantValue := 0 }]
  methods := #[k2m0, k2m1, k2m2]
  instanceTypes := #[]
  staticTypes := #[.double, .double, .double, .double, .double, .long, .long, .double, .double, .boolean]
  resolved := Array.replicate 460 none
  statics := none }

def pool3 : Array CpInfo := pool [(1, .methodref 2 3), (0, .class_ 4), (0, .nameAndType 5 6), (0, u "java/lang/Object"), (0, u "<init>"), (0, u "()V"), (11, .fieldref 19 20), (0, .class_ 21), (0, .nameAndType 22 23), (0, u "com/example/stream_log_client/streamlogclient/protocol/VersionRange"), (0, u "min"), (0, u "I"), (0, .fieldref 19 25), (0, .nameAndType 26 23), (0, u "max"), (18, u "(II)V"), (8, u "equals"), (0, u "(Ljava/lang/Object;)Z")] 22

def k3c0 : Code := { maxStack := 4, maxLocals := 3, code := prog_117_method_1_code, exceptionTable := #[], attributes := #[] }
def k3m0 : Method := { name := "<init>", desc := "(II)V", sig := { parameters := [.int, .int], returnType := none }, accessFlags := 1, code := some k3c0 }
def k3c1 : Code := { maxStack := 2, maxLocals := 2, code := prog_117_method_6_code, exceptionTable := #[], attributes := #[] }
def k3m1 : Method := { name := "equals", desc := "(Ljava/lang/Object;)Z", sig := { parameters := [(.object "java/lang/Object")], returnType := some .boolean }, accessFlags := 1, code := some k3c1 }
/-- com/example/stream_log_client/streamlogclient/protocol/VersionRange -/
def k3 : Class := { plain "com/example/stream_log_client/streamlogclient/protocol/VersionRange" (some 0) with
  accessFlags := 49
  interfaces := #[]
  cf := some (fileOf pool3 19 #[] #[{ accessFlags := 1, nameIndex := 5, descriptorIndex := 45, attributes := #[] }, { accessFlags := 1, nameIndex := 54, descriptorIndex := 55, attributes := #[] }] 49 2 #[] #[{ accessFlags := 18, nameIndex := 22, descriptorIndex := 23, attributes := #[] }, { accessFlags := 18, nameIndex := 26, descriptorIndex := 23, attributes := #[] }])
  fields := #[{ name := "min", type := .int, accessFlags := 18, slot := 0, constantValue := 0 }, { name := "max", type := .int, accessFlags := 18, slot := 1, constantValue := 0 }]
  methods := #[k3m0, k3m1]
  instanceTypes := #[.int, .int]
  staticTypes := #[]
  resolved := Array.replicate 78 none
  statics := none }

def pool4 : Array CpInfo := pool [(1, .class_ 2), (0, u "java/io/Serializable"), (0, .class_ 4), (0, u "java/lang/Object")] 2

/-- java/io/Serializable -/
def k4 : Class := { plain "java/io/Serializable" (some 0) with
  accessFlags := 1537
  interfaces := #[]
  cf := some (fileOf pool4 1 #[] #[] 1537 3 #[] #[])
  fields := #[]
  methods := #[]
  instanceTypes := #[]
  staticTypes := #[]
  resolved := Array.replicate 7 none
  statics := none }

def pool5 : Array CpInfo := pool [(1, .methodref 2 3), (0, .class_ 4), (0, .nameAndType 5 6), (0, u "java/lang/Object"), (0, u "<init>"), (0, u "()V"), (1, .class_ 10), (1, u "java/lang/Number"), (2, .class_ 14), (0, u "java/io/Serializable"), (0, u "serialVersionUID"), (0, u "J")] 20

def k5c0 : Code := { maxStack := 1, maxLocals := 1, code := jdk_18_method_1_code, exceptionTable := #[], attributes := #[] }
def k5m0 : Method := { name := "<init>", desc := "()V", sig := { parameters := [], returnType := none }, accessFlags := 1, code := some k5c0 }
/-- java/lang/Number -/
def k5 : Class := { plain "java/lang/Number" (some 0) with
  accessFlags := 1057
  interfaces := #[4]
  cf := some (fileOf pool5 8 #[] #[{ accessFlags := 1, nameIndex := 5, descriptorIndex := 6, attributes := #[] }] 1057 2 #[13] #[{ accessFlags := 26, nameIndex := 15, descriptorIndex := 16, attributes := #[] }])
  fields := #[{ name := "serialVersionUID", type := .long, accessFlags := 26, slot := 0, constantValue := 0 }]
  methods := #[k5m0]
  instanceTypes := #[]
  staticTypes := #[.long]
  resolved := Array.replicate 37 none
  statics := none }

def pool6 : Array CpInfo := pool [(1, .class_ 2), (0, u "java/lang/Comparable"), (0, .class_ 4), (0, u "java/lang/Object")] 7

/-- java/lang/Comparable -/
def k6 : Class := { plain "java/lang/Comparable" (some 0) with
  accessFlags := 1537
  interfaces := #[]
  cf := some (fileOf pool6 1 #[] #[] 1537 3 #[] #[])
  fields := #[]
  methods := #[]
  instanceTypes := #[]
  staticTypes := #[]
  resolved := Array.replicate 12 none
  statics := none }

def pool7 : Array CpInfo := pool [(1, .class_ 2), (0, u "java/lang/constant/Constable"), (0, .class_ 4), (0, u "java/lang/Object")] 6

/-- java/lang/constant/Constable -/
def k7 : Class := { plain "java/lang/constant/Constable" (some 0) with
  accessFlags := 1537
  interfaces := #[]
  cf := some (fileOf pool7 1 #[] #[] 1537 3 #[] #[])
  fields := #[]
  methods := #[]
  instanceTypes := #[]
  staticTypes := #[]
  resolved := Array.replicate 11 none
  statics := none }

def pool8 : Array CpInfo := pool [(1, .class_ 2), (0, u "java/lang/constant/ConstantDesc"), (0, .class_ 4), (0, u "java/lang/Object")] 32

/-- java/lang/constant/ConstantDesc -/
def k8 : Class := { plain "java/lang/constant/ConstantDesc" (some 0) with
  accessFlags := 1537
  interfaces := #[]
  cf := some (fileOf pool8 1 #[] #[] 1537 3 #[] #[])
  fields := #[]
  methods := #[]
  instanceTypes := #[]
  staticTypes := #[]
  resolved := Array.replicate 37 none
  statics := none }

def pool9 : Array CpInfo := pool [(1, .class_ 2), (0, u "java/lang/Integer"), (16, u "digits"), (0, u "[C"), (46, u "<init>"), (17, u "DigitOnes"), (0, u "[B"), (2, u "DigitTens"), (10, .nameAndType 67 101), (0, u "()V"), (85, u "valueOf"), (0, u "(I)Ljava/lang/Integer;"), (0, .class_ 190), (0, u "java/lang/Integer$IntegerCache"), (0, .fieldref 189 192), (0, .nameAndType 193 194), (0, u "high"), (0, u "I"), (0, .fieldref 189 196), (0, .nameAndType 197 198), (0, u "cache"), (0, u "[Ljava/lang/Integer;"), (0, .methodref 1 200), (0, .nameAndType 67 201), (0, u "(I)V"), (0, .methodref 203 100), (0, .class_ 204), (0, u "java/lang/Number"), (0, .fieldref 1 206), (0, .nameAndType 207 194), (0, u "value"), (94, u "TYPE"), (0, u "Ljava/lang/Class;"), (0, .class_ 305), (0, u "java/lang/Comparable"), (0, .class_ 307), (0, u "java/lang/constant/Constable"), (0, .class_ 309), (0, u "java/lang/constant/ConstantDesc"), (0, u "MIN_VALUE"), (1, u "MAX_VALUE"), (3, u "SIZE"), (1, u "BYTES"), (1, u "serialVersionUID"), (0, u "J")] 131

def k9c0 : Code := { maxStack := 3, maxLocals := 1, code := jdk_33_method_22_code, exceptionTable := #[], attributes := #[] }
def k9m0 : Method := { name := "valueOf", desc := "(I)Ljava/lang/Integer;", sig := { parameters := [.int], returnType := some (.object "java/lang/Integer") }, accessFlags := 9, code := some k9c0 }
def k9c1 : Code := { maxStack := 2, maxLocals := 2, code := jdk_33_method_23_code, exceptionTable := #[], attributes := #[] }
def k9m1 : Method := { name := "<init>", desc := "(I)V", sig := { parameters := [.int], returnType := none }, accessFlags := 1, code := some k9c1 }
/-- java/lang/Integer -/
def k9 : Class := { plain "java/lang/Integer" (some 5) with
  accessFlags := 49
  interfaces := #[6, 7, 8]
  cf := some (fileOf pool9 1 #[.nestMembers #[189]] #[{ accessFlags := 9, nameIndex := 187, descriptorIndex := 188, attributes := #[] }, { accessFlags := 1, nameIndex := 67, descriptorIndex := 201, attributes := #[] }] 49 203 #[304, 306, 308] #[{ accessFlags := 25, nameIndex := 310, descriptorIndex := 194, attributes := #[] }, { accessFlags := 25, nameIndex := 312, descriptorIndex := 194, attributes := #[] }, { accessFlags := 25, nameIndex := 302, descriptorIndex := 303, attributes := #[] }, { accessFlags := 24, nameIndex := 19, descriptorIndex := 20, attributes := #[] }, { accessFlags := 24, nameIndex := 89, descriptorIndex := 86, attributes := #[] }, { accessFlags := 24, nameIndex := 85, descriptorIndex := 86, attributes := #[] }, { accessFlags := 18, nameIndex := 207, descriptorIndex := 194, attributes := #[] }, { accessFlags := 25, nameIndex := 316, descriptorIndex := 194, attributes := #[] }, { accessFlags := 25, nameIndex := 318, descriptorIndex := 194, attributes := #[] }, { accessFlags := 26, nameIndex := 320, descriptorIndex := 321, attributes := #[] }])
  fields := #[{ name := "MIN_VALUE", type := .int, accessFlags := 25, slot := 0, constantValue := 0 }, { name := "MAX_VALUE", type := .int, accessFlags := 25, slot := 1, constantValue := 0 }, { name := "TYPE", type := (.object "java/lang/Class"), accessFlags := 25, slot := 2, constantValue := 0 }, { name := "digits", type := (.array .char), accessFlags := 24, slot := 3, constantValue := 0 }, { name := "DigitTens", type := (.array .byte), accessFlags := 24, slot := 4, constantValue := 0 }, { name := "DigitOnes", type := (.array .byte), accessFlags := 24, slot := 5, constantValue := 0 }, { name := "value", type := .int, accessFlags := 18, slot := 0, constantValue := 0 }, { name := "SIZE", type := .int, accessFlags := 25, slot := 6, constantValue := 0 }, { name := "BYTES", type := .int, accessFlags := 25, slot := 7, constantValue := 0 }, { name := "serialVersionUID", type := .long, accessFlags := 26, slot := 8, constantValue := 0 }]
  methods := #[k9m0, k9m1]
  instanceTypes := #[.int]
  staticTypes := #[.int, .int, (.object "java/lang/Class"), (.array .char), (.array .byte), (.array .byte), .int, .int, .long]
  resolved := Array.replicate 453 none
  statics := none }

def pool10 : Array CpInfo := pool [(2, .class_ 4), (1, u "java/lang/Object"), (0, u "<init>"), (0, u "()V"), (0, .class_ 8), (0, u "java/lang/Integer"), (7, .class_ 18), (1, u "java/lang/Integer$IntegerCache"), (0, u "$assertionsDisabled"), (0, u "Z"), (26, u "high"), (0, u "I"), (8, u "archivedCache"), (0, u "[Ljava/lang/Integer;"), (12, u "cache"), (0, u "low")] 27

def k10m0 : Method := { name := "<init>", desc := "()V", sig := { parameters := [], returnType := none }, accessFlags := 2, code := none }
/-- java/lang/Integer$IntegerCache -/
def k10 : Class := { plain "java/lang/Integer$IntegerCache" (some 0) with
  accessFlags := 48
  interfaces := #[]
  cf := some (fileOf pool10 16 #[.nestHost 7] #[{ accessFlags := 2, nameIndex := 5, descriptorIndex := 6, attributes := #[] }] 48 2 #[] #[{ accessFlags := 24, nameIndex := 72, descriptorIndex := 48, attributes := #[] }, { accessFlags := 24, nameIndex := 47, descriptorIndex := 48, attributes := #[] }, { accessFlags := 24, nameIndex := 71, descriptorIndex := 58, attributes := #[] }, { accessFlags := 8, nameIndex := 57, descriptorIndex := 58, attributes := #[] }, { accessFlags := 4120, nameIndex := 19, descriptorIndex := 20, attributes := #[] }])
  fields := #[{ name := "low", type := .int, accessFlags := 24, slot := 0, constantValue := 0 }, { name := "high", type := .int, accessFlags := 24, slot := 1, constantValue := 0 }, { name := "cache", type := (.array (.object "java/lang/Integer")), accessFlags := 24, slot := 2, constantValue := 0 }, { name := "archivedCache", type := (.array (.object "java/lang/Integer")), accessFlags := 8, slot := 3, constantValue := 0 }, { name := "$assertionsDisabled", type := .boolean, accessFlags := 4120, slot := 4, constantValue := 0 }]
  methods := #[k10m0]
  instanceTypes := #[]
  staticTypes := #[.int, .int, (.array (.object "java/lang/Integer")), (.array (.object "java/lang/Integer")), .boolean]
  resolved := Array.replicate 100 none
  statics := some 0 }

def pool11 : Array CpInfo := pool [(1, u "java/lang/Cloneable"), (0, .class_ 1), (0, u "java/lang/Object"), (0, .class_ 3)] 3

/-- java/lang/Cloneable -/
def k11 : Class := { plain "java/lang/Cloneable" (some 0) with
  accessFlags := 1537
  interfaces := #[]
  cf := some (fileOf pool11 2 #[] #[] 1537 4 #[] #[])
  fields := #[]
  methods := #[]
  instanceTypes := #[]
  staticTypes := #[]
  resolved := Array.replicate 8 none
  statics := none }

/-- the primitive byte -/
def k12 : Class := { plain "byte" none with kind := .primitive 'B', accessFlags := 0x411 }
/-- [B -/
def k13 : Class := { plain "[B" (some 0) with kind := .array 12 .byte, interfaces := #[11, 4], accessFlags := 1041 }

/-- the primitive int -/
def k14 : Class := { plain "int" none with kind := .primitive 'I', accessFlags := 0x411 }
/-- [I -/
def k15 : Class := { plain "[I" (some 0) with kind := .array 14 .int, interfaces := #[11, 4], accessFlags := 1041 }

/-- [Ljava/lang/Integer; -/
def k16 : Class := { plain "[Ljava/lang/Integer;" (some 0) with kind := .array 9 (.object "java/lang/Integer"), interfaces := #[11, 4], accessFlags := 1041 }

def heap : Heap := #[{ cls := 10, slots := #[.int 0, .int 127, .ref 1, .null, .int 0], vm := .statics 10 },
  { cls := 16, slots := #[.ref 2, .ref 3, .ref 4, .ref 5, .ref 6, .ref 7, .ref 8, .ref 9, .ref 10, .ref 11, .ref 12, .ref 13, .ref 14, .ref 15, .ref 16, .ref 17, .ref 18, .ref 19, .ref 20, .ref 21, .ref 22, .ref 23, .ref 24, .ref 25, .ref 26, .ref 27, .ref 28, .ref 29, .ref 30, .ref 31, .ref 32, .ref 33, .ref 34, .ref 35, .ref 36, .ref 37, .ref 38, .ref 39, .ref 40, .ref 41, .ref 42, .ref 43, .ref 44, .ref 45, .ref 46, .ref 47, .ref 48, .ref 49, .ref 50, .ref 51, .ref 52, .ref 53, .ref 54, .ref 55, .ref 56, .ref 57, .ref 58, .ref 59, .ref 60, .ref 61, .ref 62, .ref 63, .ref 64, .ref 65, .ref 66, .ref 67, .ref 68, .ref 69, .ref 70, .ref 71, .ref 72, .ref 73, .ref 74, .ref 75, .ref 76, .ref 77, .ref 78, .ref 79, .ref 80, .ref 81, .ref 82, .ref 83, .ref 84, .ref 85, .ref 86, .ref 87, .ref 88, .ref 89, .ref 90, .ref 91, .ref 92, .ref 93, .ref 94, .ref 95, .ref 96, .ref 97, .ref 98, .ref 99, .ref 100, .ref 101, .ref 102, .ref 103, .ref 104, .ref 105, .ref 106, .ref 107, .ref 108, .ref 109, .ref 110, .ref 111, .ref 112, .ref 113, .ref 114, .ref 115, .ref 116, .ref 117, .ref 118, .ref 119, .ref 120, .ref 121, .ref 122, .ref 123, .ref 124, .ref 125, .ref 126, .ref 127, .ref 128, .ref 129, .ref 130, .ref 131, .ref 132, .ref 133, .ref 134, .ref 135, .ref 136, .ref 137, .ref 138, .ref 139, .ref 140, .ref 141, .ref 142, .ref 143, .ref 144, .ref 145, .ref 146, .ref 147, .ref 148, .ref 149, .ref 150, .ref 151, .ref 152, .ref 153, .ref 154, .ref 155, .ref 156, .ref 157, .ref 158, .ref 159, .ref 160, .ref 161, .ref 162, .ref 163, .ref 164, .ref 165, .ref 166, .ref 167, .ref 168, .ref 169, .ref 170, .ref 171, .ref 172, .ref 173, .ref 174, .ref 175, .ref 176, .ref 177, .ref 178, .ref 179, .ref 180, .ref 181, .ref 182, .ref 183, .ref 184, .ref 185, .ref 186, .ref 187, .ref 188, .ref 189, .ref 190, .ref 191, .ref 192, .ref 193, .ref 194, .ref 195, .ref 196, .ref 197, .ref 198, .ref 199, .ref 200, .ref 201, .ref 202, .ref 203, .ref 204, .ref 205, .ref 206, .ref 207, .ref 208, .ref 209, .ref 210, .ref 211, .ref 212, .ref 213, .ref 214, .ref 215, .ref 216, .ref 217, .ref 218, .ref 219, .ref 220, .ref 221, .ref 222, .ref 223, .ref 224, .ref 225, .ref 226, .ref 227, .ref 228, .ref 229, .ref 230, .ref 231, .ref 232, .ref 233, .ref 234, .ref 235, .ref 236, .ref 237, .ref 238, .ref 239, .ref 240, .ref 241, .ref 242, .ref 243, .ref 244, .ref 245, .ref 246, .ref 247, .ref 248, .ref 249, .ref 250, .ref 251, .ref 252, .ref 253, .ref 254, .ref 255, .ref 256, .ref 257], vm := .none },
  { cls := 9, slots := #[.int (-128)], vm := .none },
  { cls := 9, slots := #[.int (-127)], vm := .none },
  { cls := 9, slots := #[.int (-126)], vm := .none },
  { cls := 9, slots := #[.int (-125)], vm := .none },
  { cls := 9, slots := #[.int (-124)], vm := .none },
  { cls := 9, slots := #[.int (-123)], vm := .none },
  { cls := 9, slots := #[.int (-122)], vm := .none },
  { cls := 9, slots := #[.int (-121)], vm := .none },
  { cls := 9, slots := #[.int (-120)], vm := .none },
  { cls := 9, slots := #[.int (-119)], vm := .none },
  { cls := 9, slots := #[.int (-118)], vm := .none },
  { cls := 9, slots := #[.int (-117)], vm := .none },
  { cls := 9, slots := #[.int (-116)], vm := .none },
  { cls := 9, slots := #[.int (-115)], vm := .none },
  { cls := 9, slots := #[.int (-114)], vm := .none },
  { cls := 9, slots := #[.int (-113)], vm := .none },
  { cls := 9, slots := #[.int (-112)], vm := .none },
  { cls := 9, slots := #[.int (-111)], vm := .none },
  { cls := 9, slots := #[.int (-110)], vm := .none },
  { cls := 9, slots := #[.int (-109)], vm := .none },
  { cls := 9, slots := #[.int (-108)], vm := .none },
  { cls := 9, slots := #[.int (-107)], vm := .none },
  { cls := 9, slots := #[.int (-106)], vm := .none },
  { cls := 9, slots := #[.int (-105)], vm := .none },
  { cls := 9, slots := #[.int (-104)], vm := .none },
  { cls := 9, slots := #[.int (-103)], vm := .none },
  { cls := 9, slots := #[.int (-102)], vm := .none },
  { cls := 9, slots := #[.int (-101)], vm := .none },
  { cls := 9, slots := #[.int (-100)], vm := .none },
  { cls := 9, slots := #[.int (-99)], vm := .none },
  { cls := 9, slots := #[.int (-98)], vm := .none },
  { cls := 9, slots := #[.int (-97)], vm := .none },
  { cls := 9, slots := #[.int (-96)], vm := .none },
  { cls := 9, slots := #[.int (-95)], vm := .none },
  { cls := 9, slots := #[.int (-94)], vm := .none },
  { cls := 9, slots := #[.int (-93)], vm := .none },
  { cls := 9, slots := #[.int (-92)], vm := .none },
  { cls := 9, slots := #[.int (-91)], vm := .none },
  { cls := 9, slots := #[.int (-90)], vm := .none },
  { cls := 9, slots := #[.int (-89)], vm := .none },
  { cls := 9, slots := #[.int (-88)], vm := .none },
  { cls := 9, slots := #[.int (-87)], vm := .none },
  { cls := 9, slots := #[.int (-86)], vm := .none },
  { cls := 9, slots := #[.int (-85)], vm := .none },
  { cls := 9, slots := #[.int (-84)], vm := .none },
  { cls := 9, slots := #[.int (-83)], vm := .none },
  { cls := 9, slots := #[.int (-82)], vm := .none },
  { cls := 9, slots := #[.int (-81)], vm := .none },
  { cls := 9, slots := #[.int (-80)], vm := .none },
  { cls := 9, slots := #[.int (-79)], vm := .none },
  { cls := 9, slots := #[.int (-78)], vm := .none },
  { cls := 9, slots := #[.int (-77)], vm := .none },
  { cls := 9, slots := #[.int (-76)], vm := .none },
  { cls := 9, slots := #[.int (-75)], vm := .none },
  { cls := 9, slots := #[.int (-74)], vm := .none },
  { cls := 9, slots := #[.int (-73)], vm := .none },
  { cls := 9, slots := #[.int (-72)], vm := .none },
  { cls := 9, slots := #[.int (-71)], vm := .none },
  { cls := 9, slots := #[.int (-70)], vm := .none },
  { cls := 9, slots := #[.int (-69)], vm := .none },
  { cls := 9, slots := #[.int (-68)], vm := .none },
  { cls := 9, slots := #[.int (-67)], vm := .none },
  { cls := 9, slots := #[.int (-66)], vm := .none },
  { cls := 9, slots := #[.int (-65)], vm := .none },
  { cls := 9, slots := #[.int (-64)], vm := .none },
  { cls := 9, slots := #[.int (-63)], vm := .none },
  { cls := 9, slots := #[.int (-62)], vm := .none },
  { cls := 9, slots := #[.int (-61)], vm := .none },
  { cls := 9, slots := #[.int (-60)], vm := .none },
  { cls := 9, slots := #[.int (-59)], vm := .none },
  { cls := 9, slots := #[.int (-58)], vm := .none },
  { cls := 9, slots := #[.int (-57)], vm := .none },
  { cls := 9, slots := #[.int (-56)], vm := .none },
  { cls := 9, slots := #[.int (-55)], vm := .none },
  { cls := 9, slots := #[.int (-54)], vm := .none },
  { cls := 9, slots := #[.int (-53)], vm := .none },
  { cls := 9, slots := #[.int (-52)], vm := .none },
  { cls := 9, slots := #[.int (-51)], vm := .none },
  { cls := 9, slots := #[.int (-50)], vm := .none },
  { cls := 9, slots := #[.int (-49)], vm := .none },
  { cls := 9, slots := #[.int (-48)], vm := .none },
  { cls := 9, slots := #[.int (-47)], vm := .none },
  { cls := 9, slots := #[.int (-46)], vm := .none },
  { cls := 9, slots := #[.int (-45)], vm := .none },
  { cls := 9, slots := #[.int (-44)], vm := .none },
  { cls := 9, slots := #[.int (-43)], vm := .none },
  { cls := 9, slots := #[.int (-42)], vm := .none },
  { cls := 9, slots := #[.int (-41)], vm := .none },
  { cls := 9, slots := #[.int (-40)], vm := .none },
  { cls := 9, slots := #[.int (-39)], vm := .none },
  { cls := 9, slots := #[.int (-38)], vm := .none },
  { cls := 9, slots := #[.int (-37)], vm := .none },
  { cls := 9, slots := #[.int (-36)], vm := .none },
  { cls := 9, slots := #[.int (-35)], vm := .none },
  { cls := 9, slots := #[.int (-34)], vm := .none },
  { cls := 9, slots := #[.int (-33)], vm := .none },
  { cls := 9, slots := #[.int (-32)], vm := .none },
  { cls := 9, slots := #[.int (-31)], vm := .none },
  { cls := 9, slots := #[.int (-30)], vm := .none },
  { cls := 9, slots := #[.int (-29)], vm := .none },
  { cls := 9, slots := #[.int (-28)], vm := .none },
  { cls := 9, slots := #[.int (-27)], vm := .none },
  { cls := 9, slots := #[.int (-26)], vm := .none },
  { cls := 9, slots := #[.int (-25)], vm := .none },
  { cls := 9, slots := #[.int (-24)], vm := .none },
  { cls := 9, slots := #[.int (-23)], vm := .none },
  { cls := 9, slots := #[.int (-22)], vm := .none },
  { cls := 9, slots := #[.int (-21)], vm := .none },
  { cls := 9, slots := #[.int (-20)], vm := .none },
  { cls := 9, slots := #[.int (-19)], vm := .none },
  { cls := 9, slots := #[.int (-18)], vm := .none },
  { cls := 9, slots := #[.int (-17)], vm := .none },
  { cls := 9, slots := #[.int (-16)], vm := .none },
  { cls := 9, slots := #[.int (-15)], vm := .none },
  { cls := 9, slots := #[.int (-14)], vm := .none },
  { cls := 9, slots := #[.int (-13)], vm := .none },
  { cls := 9, slots := #[.int (-12)], vm := .none },
  { cls := 9, slots := #[.int (-11)], vm := .none },
  { cls := 9, slots := #[.int (-10)], vm := .none },
  { cls := 9, slots := #[.int (-9)], vm := .none },
  { cls := 9, slots := #[.int (-8)], vm := .none },
  { cls := 9, slots := #[.int (-7)], vm := .none },
  { cls := 9, slots := #[.int (-6)], vm := .none },
  { cls := 9, slots := #[.int (-5)], vm := .none },
  { cls := 9, slots := #[.int (-4)], vm := .none },
  { cls := 9, slots := #[.int (-3)], vm := .none },
  { cls := 9, slots := #[.int (-2)], vm := .none },
  { cls := 9, slots := #[.int (-1)], vm := .none },
  { cls := 9, slots := #[.int (0)], vm := .none },
  { cls := 9, slots := #[.int (1)], vm := .none },
  { cls := 9, slots := #[.int (2)], vm := .none },
  { cls := 9, slots := #[.int (3)], vm := .none },
  { cls := 9, slots := #[.int (4)], vm := .none },
  { cls := 9, slots := #[.int (5)], vm := .none },
  { cls := 9, slots := #[.int (6)], vm := .none },
  { cls := 9, slots := #[.int (7)], vm := .none },
  { cls := 9, slots := #[.int (8)], vm := .none },
  { cls := 9, slots := #[.int (9)], vm := .none },
  { cls := 9, slots := #[.int (10)], vm := .none },
  { cls := 9, slots := #[.int (11)], vm := .none },
  { cls := 9, slots := #[.int (12)], vm := .none },
  { cls := 9, slots := #[.int (13)], vm := .none },
  { cls := 9, slots := #[.int (14)], vm := .none },
  { cls := 9, slots := #[.int (15)], vm := .none },
  { cls := 9, slots := #[.int (16)], vm := .none },
  { cls := 9, slots := #[.int (17)], vm := .none },
  { cls := 9, slots := #[.int (18)], vm := .none },
  { cls := 9, slots := #[.int (19)], vm := .none },
  { cls := 9, slots := #[.int (20)], vm := .none },
  { cls := 9, slots := #[.int (21)], vm := .none },
  { cls := 9, slots := #[.int (22)], vm := .none },
  { cls := 9, slots := #[.int (23)], vm := .none },
  { cls := 9, slots := #[.int (24)], vm := .none },
  { cls := 9, slots := #[.int (25)], vm := .none },
  { cls := 9, slots := #[.int (26)], vm := .none },
  { cls := 9, slots := #[.int (27)], vm := .none },
  { cls := 9, slots := #[.int (28)], vm := .none },
  { cls := 9, slots := #[.int (29)], vm := .none },
  { cls := 9, slots := #[.int (30)], vm := .none },
  { cls := 9, slots := #[.int (31)], vm := .none },
  { cls := 9, slots := #[.int (32)], vm := .none },
  { cls := 9, slots := #[.int (33)], vm := .none },
  { cls := 9, slots := #[.int (34)], vm := .none },
  { cls := 9, slots := #[.int (35)], vm := .none },
  { cls := 9, slots := #[.int (36)], vm := .none },
  { cls := 9, slots := #[.int (37)], vm := .none },
  { cls := 9, slots := #[.int (38)], vm := .none },
  { cls := 9, slots := #[.int (39)], vm := .none },
  { cls := 9, slots := #[.int (40)], vm := .none },
  { cls := 9, slots := #[.int (41)], vm := .none },
  { cls := 9, slots := #[.int (42)], vm := .none },
  { cls := 9, slots := #[.int (43)], vm := .none },
  { cls := 9, slots := #[.int (44)], vm := .none },
  { cls := 9, slots := #[.int (45)], vm := .none },
  { cls := 9, slots := #[.int (46)], vm := .none },
  { cls := 9, slots := #[.int (47)], vm := .none },
  { cls := 9, slots := #[.int (48)], vm := .none },
  { cls := 9, slots := #[.int (49)], vm := .none },
  { cls := 9, slots := #[.int (50)], vm := .none },
  { cls := 9, slots := #[.int (51)], vm := .none },
  { cls := 9, slots := #[.int (52)], vm := .none },
  { cls := 9, slots := #[.int (53)], vm := .none },
  { cls := 9, slots := #[.int (54)], vm := .none },
  { cls := 9, slots := #[.int (55)], vm := .none },
  { cls := 9, slots := #[.int (56)], vm := .none },
  { cls := 9, slots := #[.int (57)], vm := .none },
  { cls := 9, slots := #[.int (58)], vm := .none },
  { cls := 9, slots := #[.int (59)], vm := .none },
  { cls := 9, slots := #[.int (60)], vm := .none },
  { cls := 9, slots := #[.int (61)], vm := .none },
  { cls := 9, slots := #[.int (62)], vm := .none },
  { cls := 9, slots := #[.int (63)], vm := .none },
  { cls := 9, slots := #[.int (64)], vm := .none },
  { cls := 9, slots := #[.int (65)], vm := .none },
  { cls := 9, slots := #[.int (66)], vm := .none },
  { cls := 9, slots := #[.int (67)], vm := .none },
  { cls := 9, slots := #[.int (68)], vm := .none },
  { cls := 9, slots := #[.int (69)], vm := .none },
  { cls := 9, slots := #[.int (70)], vm := .none },
  { cls := 9, slots := #[.int (71)], vm := .none },
  { cls := 9, slots := #[.int (72)], vm := .none },
  { cls := 9, slots := #[.int (73)], vm := .none },
  { cls := 9, slots := #[.int (74)], vm := .none },
  { cls := 9, slots := #[.int (75)], vm := .none },
  { cls := 9, slots := #[.int (76)], vm := .none },
  { cls := 9, slots := #[.int (77)], vm := .none },
  { cls := 9, slots := #[.int (78)], vm := .none },
  { cls := 9, slots := #[.int (79)], vm := .none },
  { cls := 9, slots := #[.int (80)], vm := .none },
  { cls := 9, slots := #[.int (81)], vm := .none },
  { cls := 9, slots := #[.int (82)], vm := .none },
  { cls := 9, slots := #[.int (83)], vm := .none },
  { cls := 9, slots := #[.int (84)], vm := .none },
  { cls := 9, slots := #[.int (85)], vm := .none },
  { cls := 9, slots := #[.int (86)], vm := .none },
  { cls := 9, slots := #[.int (87)], vm := .none },
  { cls := 9, slots := #[.int (88)], vm := .none },
  { cls := 9, slots := #[.int (89)], vm := .none },
  { cls := 9, slots := #[.int (90)], vm := .none },
  { cls := 9, slots := #[.int (91)], vm := .none },
  { cls := 9, slots := #[.int (92)], vm := .none },
  { cls := 9, slots := #[.int (93)], vm := .none },
  { cls := 9, slots := #[.int (94)], vm := .none },
  { cls := 9, slots := #[.int (95)], vm := .none },
  { cls := 9, slots := #[.int (96)], vm := .none },
  { cls := 9, slots := #[.int (97)], vm := .none },
  { cls := 9, slots := #[.int (98)], vm := .none },
  { cls := 9, slots := #[.int (99)], vm := .none },
  { cls := 9, slots := #[.int (100)], vm := .none },
  { cls := 9, slots := #[.int (101)], vm := .none },
  { cls := 9, slots := #[.int (102)], vm := .none },
  { cls := 9, slots := #[.int (103)], vm := .none },
  { cls := 9, slots := #[.int (104)], vm := .none },
  { cls := 9, slots := #[.int (105)], vm := .none },
  { cls := 9, slots := #[.int (106)], vm := .none },
  { cls := 9, slots := #[.int (107)], vm := .none },
  { cls := 9, slots := #[.int (108)], vm := .none },
  { cls := 9, slots := #[.int (109)], vm := .none },
  { cls := 9, slots := #[.int (110)], vm := .none },
  { cls := 9, slots := #[.int (111)], vm := .none },
  { cls := 9, slots := #[.int (112)], vm := .none },
  { cls := 9, slots := #[.int (113)], vm := .none },
  { cls := 9, slots := #[.int (114)], vm := .none },
  { cls := 9, slots := #[.int (115)], vm := .none },
  { cls := 9, slots := #[.int (116)], vm := .none },
  { cls := 9, slots := #[.int (117)], vm := .none },
  { cls := 9, slots := #[.int (118)], vm := .none },
  { cls := 9, slots := #[.int (119)], vm := .none },
  { cls := 9, slots := #[.int (120)], vm := .none },
  { cls := 9, slots := #[.int (121)], vm := .none },
  { cls := 9, slots := #[.int (122)], vm := .none },
  { cls := 9, slots := #[.int (123)], vm := .none },
  { cls := 9, slots := #[.int (124)], vm := .none },
  { cls := 9, slots := #[.int (125)], vm := .none },
  { cls := 9, slots := #[.int (126)], vm := .none },
  { cls := 9, slots := #[.int (127)], vm := .none }]
def classes : Array Class := #[k0, k1, k2, k3, k4, k5, k6, k7, k8, k9, k10, k11, k12, k13, k14, k15, k16]
def interned : List (Array UInt16 × Addr) := []
def slotsUsed : Nat := 517
def theMethod : MethodId := ⟨1, 1⟩
def args0 : Array Value := #[.int 5, .int 6, .int 7, .int 8, .int 9]
def aboutOver (below : List Frame) : State where
  vm := { classes := classes, interned := interned.toArray }
  heap := heap
  slotsUsed := slotsUsed
  threads := #[{ frames := .invoking theMethod args0 :: below }]
def below0 : List Frame := [.native { method := ⟨0, 0⟩, args := #[] }]
def about1 : State := aboutOver below0
def p0 : Program := .bare "" "" ""
def e0 : Env := launch0.env 0 0 0
theorem w_frames : about1.frames = Frame.invoking theMethod args0 :: below0 := rfl
set_option maxRecDepth 65536 in
theorem w_args : argsFit about1.vm theMethod args0 = true := by decide +kernel
set_option maxRecDepth 65536 in
theorem w_heap : heapFits about1 = true := by decide +kernel
set_option maxRecDepth 65536 in
theorem w_runnable : about1.curStatus? = some .runnable := by decide +kernel
set_option maxRecDepth 65536 in
theorem w_alone : about1.alone = true := by decide +kernel
set_option maxRecDepth 65536 in
theorem w_named : about1.methodNamed? x = some theMethod := by decide +kernel
set_option maxRecDepth 65536 in
theorem w_hears : about1.hears theMethod below0 = true := by decide +kernel
set_option maxRecDepth 65536 in
theorem w_ripe : about1.ripe theMethod args0 below0 = true := by decide +kernel
theorem w_running : about1.status = .running := rfl
set_option maxRecDepth 65536 in
theorem w_room : about1.hasRoom e0.platform room_1 = true :=
  launch0.hasRoom_least _ room_1 (by decide +kernel) (by decide +kernel) (by decide +kernel) (by decide +kernel) (by decide +kernel) (by decide +kernel)
theorem allAtoms_all (ts : List Jvm.Cond) (a : Array Jvm.Value) (st : Jvm.State) : (allAtoms ts).before a st = ts.all (fun c => c.before a st) := by
  induction ts with
  | nil => rfl
  | cons c t ih =>
    show (Jvm.Cond.and c (allAtoms t)).before a st = _
    rw [Jvm.Cond.before_and, ih, List.all_cons]
def words1 : List Jvm.Cond := Jvm.Cond.code x code maxLocals ret :: tables_1
/-- a 'code' word, met by the world's own term for the bytes: nothing is compared byte by byte -/
theorem code_word {y : MethodName} {bytes : ByteArray} {mx : Nat} {rt : Option FieldType} {a : Array Value} {s : State} {m : MethodId} {meth : Method} {c : Code} (h1 : s.methodNamed? y = some m) (h2 : s.vm.method? m = some meth) (h3 : meth.code = some c) (h4 : c.code = bytes)
    (h5 : (c.maxLocals == mx && c.exceptionTable.isEmpty && decide (c.maxStack ≤ mostOperands) && decide (meth.sig.returnType = rt) && !meth.locks && decide (parseMethodDescriptor y.desc = some meth.sig)) = true) : (Jvm.Cond.code y bytes mx rt).before a s = true := by
  simp only [Bool.and_eq_true, beq_iff_eq, Bool.not_eq_true', decide_eq_true_eq] at h5
  obtain ⟨⟨⟨⟨⟨g1, g2⟩, g3⟩, g4⟩, g5⟩, g6⟩ := h5
  simp [Cond.before, Cond.holds, Cond.value, h1, h2, h3, h4, g1, g2, g3, g4, g5, g6]
def isCode : Jvm.Cond → Bool
  | .code _ _ _ _ => true
  | _ => false
theorem all_split {L : List Jvm.Cond} {P : Jvm.Cond → Bool} (h1 : L.all (fun c => isCode c || P c) = true) (h2 : ∀ c ∈ L.filter isCode, P c = true) : L.all P = true := by
  refine List.all_eq_true.mpr fun c hc => ?_
  have h := List.all_eq_true.mp h1 c hc
  rcases Bool.eq_false_or_eq_true (isCode c) with hi | hi
  · exact h2 c (List.mem_filter.mpr ⟨hc, hi⟩)
  · simpa [hi] using h
set_option maxRecDepth 65536 in
theorem w_c0 : (Jvm.Cond.code x code maxLocals ret).before args0 about1 = true := code_word (m := ⟨1, 1⟩) (meth := k1m1) (c := k1c1) (by decide +kernel) rfl rfl rfl (by decide +kernel)
set_option maxRecDepth 65536 in
theorem w_c1 : (Jvm.Cond.code ({ cls := "java/lang/Math", name := "min", desc := "(II)I" } : Jvm.MethodName) jdk_29_method_69_code (2 : Nat) (Option.some Jvm.ClassFile.FieldType.int)).before args0 about1 = true := code_word (m := ⟨2, 2⟩) (meth := k2m2) (c := k2c2) (by decide +kernel) rfl rfl rfl (by decide +kernel)
set_option maxRecDepth 65536 in
theorem w_c2 : (Jvm.Cond.code ({ cls := "java/lang/Math", name := "max", desc := "(II)I" } : Jvm.MethodName) jdk_29_method_65_code (2 : Nat) (Option.some Jvm.ClassFile.FieldType.int)).before args0 about1 = true := code_word (m := ⟨2, 1⟩) (meth := k2m1) (c := k2c1) (by decide +kernel) rfl rfl rfl (by decide +kernel)
set_option maxRecDepth 65536 in
theorem w_c3 : (Jvm.Cond.code ({ cls := "com/example/stream_log_client/streamlogclient/protocol/VersionRange", name := "<init>", desc := "(II)V" } : Jvm.MethodName) prog_117_method_1_code (3 : Nat) (Option.none : Option Jvm.ClassFile.FieldType)).before args0 about1 = true := code_word (m := ⟨3, 0⟩) (meth := k3m0) (c := k3c0) (by decide +kernel) rfl rfl rfl (by decide +kernel)
set_option maxRecDepth 65536 in
theorem w_c4 : (Jvm.Cond.code ({ cls := "java/lang/Object", name := "<init>", desc := "()V" } : Jvm.MethodName) object_method_1_code (1 : Nat) (Option.none : Option Jvm.ClassFile.FieldType)).before args0 about1 = true := code_word (m := ⟨0, 0⟩) (meth := k0m0) (c := k0c0) (by decide +kernel) rfl rfl rfl (by decide +kernel)
set_option maxRecDepth 65536 in
theorem w_c5 : (Jvm.Cond.code ({ cls := "com/example/stream_log_client/streamlogclient/protocol/VersionRange", name := "equals", desc := "(Ljava/lang/Object;)Z" } : Jvm.MethodName) prog_117_method_6_code (2 : Nat) (Option.some Jvm.ClassFile.FieldType.boolean)).before args0 about1 = true := code_word (m := ⟨3, 1⟩) (meth := k3m1) (c := k3c1) (by decide +kernel) rfl rfl rfl (by decide +kernel)
set_option maxRecDepth 65536 in
theorem w_c6 : (Jvm.Cond.code ({ cls := "java/lang/Integer", name := "valueOf", desc := "(I)Ljava/lang/Integer;" } : Jvm.MethodName) jdk_33_method_22_code (1 : Nat) (Option.some (Jvm.ClassFile.FieldType.object "java/lang/Integer"))).before args0 about1 = true := code_word (m := ⟨9, 0⟩) (meth := k9m0) (c := k9c0) (by decide +kernel) rfl rfl rfl (by decide +kernel)
set_option maxRecDepth 65536 in
theorem w_c7 : (Jvm.Cond.code ({ cls := "java/lang/Integer", name := "<init>", desc := "(I)V" } : Jvm.MethodName) jdk_33_method_23_code (2 : Nat) (Option.none : Option Jvm.ClassFile.FieldType)).before args0 about1 = true := code_word (m := ⟨9, 1⟩) (meth := k9m1) (c := k9c1) (by decide +kernel) rfl rfl rfl (by decide +kernel)
set_option maxRecDepth 65536 in
theorem w_c8 : (Jvm.Cond.code ({ cls := "java/lang/Number", name := "<init>", desc := "()V" } : Jvm.MethodName) jdk_18_method_1_code (1 : Nat) (Option.none : Option Jvm.ClassFile.FieldType)).before args0 about1 = true := code_word (m := ⟨5, 0⟩) (meth := k5m0) (c := k5c0) (by decide +kernel) rfl rfl rfl (by decide +kernel)
def codes1 : List Jvm.Cond := [Jvm.Cond.code x code maxLocals ret, Jvm.Cond.code ({ cls := "java/lang/Math", name := "min", desc := "(II)I" } : Jvm.MethodName) jdk_29_method_69_code (2 : Nat) (Option.some Jvm.ClassFile.FieldType.int), Jvm.Cond.code ({ cls := "java/lang/Math", name := "max", desc := "(II)I" } : Jvm.MethodName) jdk_29_method_65_code (2 : Nat) (Option.some Jvm.ClassFile.FieldType.int), Jvm.Cond.code ({ cls := "com/example/stream_log_client/streamlogclient/protocol/VersionRange", name := "<init>", desc := "(II)V" } : Jvm.MethodName) prog_117_method_1_code (3 : Nat) (Option.none : Option Jvm.ClassFile.FieldType), Jvm.Cond.code ({ cls := "java/lang/Object", name := "<init>", desc := "()V" } : Jvm.MethodName) object_method_1_code (1 : Nat) (Option.none : Option Jvm.ClassFile.FieldType), Jvm.Cond.code ({ cls := "com/example/stream_log_client/streamlogclient/protocol/VersionRange", name := "equals", desc := "(Ljava/lang/Object;)Z" } : Jvm.MethodName) prog_117_method_6_code (2 : Nat) (Option.some Jvm.ClassFile.FieldType.boolean), Jvm.Cond.code ({ cls := "java/lang/Integer", name := "valueOf", desc := "(I)Ljava/lang/Integer;" } : Jvm.MethodName) jdk_33_method_22_code (1 : Nat) (Option.some (Jvm.ClassFile.FieldType.object "java/lang/Integer")), Jvm.Cond.code ({ cls := "java/lang/Integer", name := "<init>", desc := "(I)V" } : Jvm.MethodName) jdk_33_method_23_code (2 : Nat) (Option.none : Option Jvm.ClassFile.FieldType), Jvm.Cond.code ({ cls := "java/lang/Number", name := "<init>", desc := "()V" } : Jvm.MethodName) jdk_18_method_1_code (1 : Nat) (Option.none : Option Jvm.ClassFile.FieldType)]
set_option maxRecDepth 65536 in
theorem codes_eq : words1.filter isCode = codes1 := rfl
theorem w_codes : ∀ c ∈ words1.filter isCode, c.before args0 about1 = true := by
  rw [codes_eq]
  intro c hc
  simp only [codes1, List.mem_cons, List.not_mem_nil, or_false] at hc
  rcases hc with rfl | rfl | rfl | rfl | rfl | rfl | rfl | rfl | rfl
  · exact w_c0
  · exact w_c1
  · exact w_c2
  · exact w_c3
  · exact w_c4
  · exact w_c5
  · exact w_c6
  · exact w_c7
  · exact w_c8
set_option maxRecDepth 65536 in
theorem w_t1 : (words1.take 24).all (fun c => isCode c || c.before args0 about1) = true := by decide +kernel
set_option maxRecDepth 65536 in
theorem w_t2 : ((words1.drop 24).take 24).all (fun c => isCode c || c.before args0 about1) = true := by decide +kernel
set_option maxRecDepth 65536 in
theorem w_t3 : ((words1.drop 24).drop 24).all (fun c => isCode c || c.before args0 about1) = true := by decide +kernel
theorem w_tables : (allAtoms (Jvm.Cond.code x code maxLocals ret :: tables_1)).before args0 about1 = true := by
  rw [allAtoms_all]
  show words1.all (fun c => c.before args0 about1) = true
  refine all_split ?_ w_codes
  rw [← List.take_append_drop 24 words1, List.all_append, w_t1, ← List.take_append_drop 24 (words1.drop 24), List.all_append, w_t2, w_t3]
  rfl
set_option maxRecDepth 65536 in
theorem w_rest : rest_1_c.before args0 about1 = true := by decide +kernel
set_option maxRecDepth 65536 in
theorem w_case : (Jvm.Cond.and given_1 narrow_1).before args0 about1 = true := by decide +kernel
theorem w_applies : (headSpec (Jvm.Cond.code x code maxLocals ret :: tables_1) room_1).applies x e0.platform about1 = true :=
  (Spec.applies_iff w_frames).mpr ⟨w_running, w_runnable, w_alone, w_named, w_hears, w_ripe, w_room, w_tables⟩
theorem atStart : AtStart classFile x code maxLocals ret World_1 tables_1 room_1 Calls_1 rest_1 Pre_1 launch0 p0 e0 about1 theMethod args0 below0 :=
  ⟨lists_1, trivial, launch0.admits_env _ _ _, launch0.least_env, fairChoices_fair.cas, fairChoices_fair.clock, w_frames, w_args, w_heap, w_applies, trivial, w_rest, w_case⟩
end start1
theorem witness_1 : WitnessClaimed_1 := ⟨start1.p0, start1.e0, start1.about1, start1.theMethod, start1.args0, start1.below0, start1.atStart⟩
end Jvm.Pilot.@@N@@
