import JvmDerived
import JvmDerived.Pilot.@@N@@Statement
import JvmDerived.Pilot.@@N@@Code
set_option linter.unusedVariables false
set_option linter.unusedSimpArgs false
namespace Jvm.OwnKit
open Sem ClassFile Op Lib Jvm.Stand Jvm.Free Jvm.LawKit Jvm.RoadKit
/-! int and long operations, named -/
def ushr (x y : Int32) : Int32 := (x.toUInt32 >>> (y &&& 31).toUInt32).toInt32
def shl (x y : Int32) : Int32 := x <<< (y &&& 31)
def shr (x y : Int32) : Int32 := x >>> (y &&& 31)
def lushr (x : Int64) (y : Int32) : Int64 := (x.toUInt64 >>> (y &&& 0x3f).toInt64.toUInt64).toInt64
def lshl (x : Int64) (y : Int32) : Int64 := x <<< (y &&& 0x3f).toInt64
def lshr (x : Int64) (y : Int32) : Int64 := x >>> (y &&& 0x3f).toInt64
def chr (x : Int32) : Int32 := x.toUInt32.toUInt16.toUInt32.toInt32
def byt (x : Int32) : Int32 := x.toInt8.toInt32
def sht (x : Int32) : Int32 := x.toInt16.toInt32
theorem narrow_byt (x : Int32) : narrow .byte (.int (byt x)) = .int (byt x) := by simp [narrow, byt]
theorem chr_chr (x : Int32) : chr (chr x) = chr x := by unfold chr; simp only [UInt32.toUInt32_toInt32, UInt16.toUInt16_toUInt32]
theorem byt_byt (x : Int32) : byt (byt x) = byt x := by simp [byt]
theorem narrow_chr (x : Int32) : narrow .char (.int (chr x)) = .int (chr x) := congrArg Value.int (chr_chr x)
/-- what a contract says at the end -/
def CQ (Q : Option Value → Heap → Prop) (n0 : Nat) (v : Option Value) (h : Heap) (L : List Loc) : Prop := Q v h ∧ Fr n0 L
/-- from this frame on the run ends as asked -/
def Go (p : Program) (e : Env) (below : List Frame) (En : Option Value → State → List Loc → Prop) (n0 : Nat) (Q : Option Value → Heap → Prop) (T : State) (g : JFrame) : Prop :=
  ∃ s₂ o, Steps p.tables e below (T.setTop g) s₂ ∧ s₂.status = .running ∧ Ended s₂ below o ∧ ∃ v L, o = .returned v ∧ CQ Q n0 v s₂.heap L ∧ En v s₂ L
/-- the plain end: nothing interned -/
def EndF (s : State) (C S : Nat) (v : Option Value) (t : State) (L : List Loc) : Prop := FrameEnd s (.returned v) t L C S
theorem endF {s : State} {C S cells slots : Nat} {t : State} {L : List Loc} {h : Heap} (hc : cells ≤ C) (hs : slots ≤ S) (v : Option Value) (_ : t.heap = h) (hW : s.WarmedH t.vm) (hsm : s.sameButNew ({ t with vm := s.vm } : State) L cells slots) : EndF s C S v t L := ⟨⟨_, rfl⟩, hW, hsm.mono hc hs⟩
/-- a method's contract -/
def Ctr (l : Launch) (Z : State) (y : MethodName) (bytes : ByteArray) (maxL : Nat) (ret : Option FieldType) (rm : Room) (as' : Array Value) (h0 : Heap) (n0 : Nat) (Q : Option Value → Heap → Prop) : Prop :=
  ∀ ws : List Jvm.Cond, MetFree l y (head1 (Jvm.Cond.code y bytes maxL ret :: ws) rm) (fun a U => a = as' ∧ Z.Warmed39 U.vm ∧ U.heap = h0) (fun _ _ _ _ _ => True) (fun _ U o U' => ∃ v L, o = .returned v ∧ CQ Q n0 v U'.heap L ∧ FrameEnd U o U' L rm.cells rm.slots)
theorem Ctr.of {l : Launch} {Z : State} {y : MethodName} {bytes : ByteArray} {maxL : Nat} {ret : Option FieldType} {rm : Room} {as' : Array Value} {h0 : Heap} {n0 : Nat} {Q : Option Value → Heap → Prop} {Ls : Array Slot}
    (hpl : plainFor y = true) (hef : ∀ m, entryFrame m as' maxL = mkF m 0 Ls [])
    (body : ∀ (p : Program) (e : Env) (s : State) (m : MethodId) (below : List Frame) (meth : Method) (c : Code) (T : State), p.tables.exec = Jvm.exec → c.code = bytes → c.maxLocals = maxL → s.vm.findClass y.cls = some m.cls → meth.name = y.name → meth.sig.returnType = ret → meth.locks = false → Z.Warmed39 s.vm →
      Stand p l e rm s m as' below meth c T [] 0 0 → T.heap = h0 → Go p e below (EndF s rm.cells rm.slots) n0 Q T (mkF m 0 Ls [])) : Ctr l Z y bytes maxL ret rm as' h0 n0 Q := by
  intro ws
  refine MetFree.of_bodySF hpl hisR ?_
  intro p e s m args below meth c s₁ Bd hml0 hP hK
  obtain ⟨rfl, hZ, hh⟩ := hP
  have hown : s.vm.findClass y.cls = some m.cls := findClass_of_methodNamed Bd.named
  have hnm := (name_of_methodNamed Bd.named Bd.method).1
  have e0 : s₁.heap = h0 := by rw [← hh, Bd.state]; rfl
  rw [hef]
  obtain ⟨s₂, o, h1, h2, h3, v, L, rfl, h5, h6⟩ := body p e s m below meth c s₁ Bd.exec Bd.bytes hml0 hown hnm Bd.returns Bd.notSynchronized hZ (Stand.of_body Bd) e0
  exact ⟨s₂, _, h1, h2, h3, v, L, rfl, h5, h6⟩
section Go
variable {p : Program} {l : Launch} {e : Env} {R : Room} {s : State} {m : MethodId} {args : Array Value} {below : List Frame} {meth : Method} {c : Code} {T : State} {locs : List Loc} {cells slots : Nat} {Z : State} {a0 : Array Value} {h h' : Heap} {n0 : Nat} {En : Option Value → State → List Loc → Prop} {Q : Option Value → Heap → Prop}
variable {pc pc' pc1 pc2 : Nat} {Ls Ls' : Array Slot} {st : List Value}
theorem Go.mov {T' : State} {g g' : JFrame} (k : ∀ target, Steps p.tables e below (T'.setTop g') target → Steps p.tables e below (T.setTop g) target) (G : Go p e below En n0 Q T' g') : Go p e below En n0 Q T g := by
  obtain ⟨s₂, o, h1, r⟩ := G
  exact ⟨s₂, o, k _ h1, r⟩
theorem Go.movp {T' : State} {g g' : JFrame} (k : ∀ target, Steps p.tables e below (T'.setTop g') target → Steps p.tables e below (T.setTop g) target) (g'' : JFrame) (q : g' = g'') (G : Go p e below En n0 Q T' g'') : Go p e below En n0 Q T g := Go.mov k (q ▸ G)
theorem Go.cast {g g' : JFrame} (q : g = g') (G : Go p e below En n0 Q T g') : Go p e below En n0 Q T g := q ▸ G
theorem Go.imp {Q' : Option Value → Heap → Prop} {g : JFrame} (q : ∀ v h, Q v h → Q' v h) (G : Go p e below En n0 Q T g) : Go p e below En n0 Q' T g := by
  obtain ⟨s₂, o, h1, h2, h3, v, L, h4, ⟨h5, h6⟩, h7⟩ := G
  exact ⟨s₂, o, h1, h2, h3, v, L, h4, ⟨q _ _ h5, h6⟩, h7⟩
theorem g_iload (X : Stand p l e R s m args below meth c T locs cells slots) (hx : p.tables.exec = Jvm.exec) {k : Nat} {v : Int32} (hd : decode c.code pc = .ok (.iload k, 2)) (hp : pc + 2 = pc') (hl : Ls[k]? = some (.val (.int v))) (G : Go p e below En n0 Q T (mkF m pc' Ls (.int v :: st))) : Go p e below En n0 Q T (mkF m pc Ls (st)) := by
  subst hp
  exact Go.mov (fun _ k => XS.iload X.here hx rfl hd hl k) G
theorem g_iloadN (X : Stand p l e R s m args below meth c T locs cells slots) (hx : p.tables.exec = Jvm.exec) {k : Fin 4} {v : Int32} (hd : decode c.code pc = .ok (.iload_n k, 1)) (hp : pc + 1 = pc') (hl : Ls[k.val]? = some (.val (.int v))) (G : Go p e below En n0 Q T (mkF m pc' Ls (.int v :: st))) : Go p e below En n0 Q T (mkF m pc Ls (st)) := by
  subst hp
  exact Go.mov (fun _ k => XS.iloadN X.here hx rfl hd hl k) G
theorem g_lload (X : Stand p l e R s m args below meth c T locs cells slots) (hx : p.tables.exec = Jvm.exec) {k : Nat} {v : Int64} (hd : decode c.code pc = .ok (.lload k, 2)) (hp : pc + 2 = pc') (hl : Ls[k]? = some (.val (.long v))) (G : Go p e below En n0 Q T (mkF m pc' Ls (.long v :: st))) : Go p e below En n0 Q T (mkF m pc Ls (st)) := by
  subst hp
  exact Go.mov (fun _ k => XS.lload X.here hx rfl hd hl k) G
theorem g_lloadN (X : Stand p l e R s m args below meth c T locs cells slots) (hx : p.tables.exec = Jvm.exec) {k : Fin 4} {v : Int64} (hd : decode c.code pc = .ok (.lload_n k, 1)) (hp : pc + 1 = pc') (hl : Ls[k.val]? = some (.val (.long v))) (G : Go p e below En n0 Q T (mkF m pc' Ls (.long v :: st))) : Go p e below En n0 Q T (mkF m pc Ls (st)) := by
  subst hp
  exact Go.mov (fun _ k => XS.lloadN X.here hx rfl hd hl k) G
theorem g_aload (X : Stand p l e R s m args below meth c T locs cells slots) (hx : p.tables.exec = Jvm.exec) {k : Nat} {v : Value} (hd : decode c.code pc = .ok (.aload k, 2)) (hp : pc + 2 = pc') (hl : Ls[k]? = some (.val v)) (hv : v.isRef = true) (G : Go p e below En n0 Q T (mkF m pc' Ls (v :: st))) : Go p e below En n0 Q T (mkF m pc Ls (st)) := by
  subst hp
  exact Go.mov (fun _ k => XS.aload X.here hx rfl hd hl hv k) G
theorem g_aloadN (X : Stand p l e R s m args below meth c T locs cells slots) (hx : p.tables.exec = Jvm.exec) {k : Fin 4} {v : Value} (hd : decode c.code pc = .ok (.aload_n k, 1)) (hp : pc + 1 = pc') (hl : Ls[k.val]? = some (.val v)) (hv : v.isRef = true) (G : Go p e below En n0 Q T (mkF m pc' Ls (v :: st))) : Go p e below En n0 Q T (mkF m pc Ls (st)) := by
  subst hp
  exact Go.mov (fun _ k => XS.aloadN X.here hx rfl hd hl hv k) G
theorem g_istore (X : Stand p l e R s m args below meth c T locs cells slots) (hx : p.tables.exec = Jvm.exec) {k : Nat} {v : Int32} (hd : decode c.code pc = .ok (.istore k, 2)) (hp : pc + 2 = pc') (hl : storeLocals Ls k (.int v) = some Ls') (G : Go p e below En n0 Q T (mkF m pc' Ls' (st))) : Go p e below En n0 Q T (mkF m pc Ls (.int v :: st)) := by
  subst hp
  exact Go.mov (fun _ k => XS.istore X.here hx rfl hd rfl hl k) G
theorem g_istoreN (X : Stand p l e R s m args below meth c T locs cells slots) (hx : p.tables.exec = Jvm.exec) {k : Fin 4} {v : Int32} (hd : decode c.code pc = .ok (.istore_n k, 1)) (hp : pc + 1 = pc') (hl : storeLocals Ls k.val (.int v) = some Ls') (G : Go p e below En n0 Q T (mkF m pc' Ls' (st))) : Go p e below En n0 Q T (mkF m pc Ls (.int v :: st)) := by
  subst hp
  exact Go.mov (fun _ k => XS.istoreN X.here hx rfl hd rfl hl k) G
theorem g_lstore (X : Stand p l e R s m args below meth c T locs cells slots) (hx : p.tables.exec = Jvm.exec) {k : Nat} {v : Int64} (hd : decode c.code pc = .ok (.lstore k, 2)) (hp : pc + 2 = pc') (hl : storeLocals Ls k (.long v) = some Ls') (G : Go p e below En n0 Q T (mkF m pc' Ls' (st))) : Go p e below En n0 Q T (mkF m pc Ls (.long v :: st)) := by
  subst hp
  exact Go.mov (fun _ k => XS.lstore X.here hx rfl hd rfl hl k) G
theorem g_lstoreN (X : Stand p l e R s m args below meth c T locs cells slots) (hx : p.tables.exec = Jvm.exec) {k : Fin 4} {v : Int64} (hd : decode c.code pc = .ok (.lstore_n k, 1)) (hp : pc + 1 = pc') (hl : storeLocals Ls k.val (.long v) = some Ls') (G : Go p e below En n0 Q T (mkF m pc' Ls' (st))) : Go p e below En n0 Q T (mkF m pc Ls (.long v :: st)) := by
  subst hp
  exact Go.mov (fun _ k => XS.lstoreN X.here hx rfl hd rfl hl k) G
theorem g_astore (X : Stand p l e R s m args below meth c T locs cells slots) (hx : p.tables.exec = Jvm.exec) {k : Nat} {v : Value} (hd : decode c.code pc = .ok (.astore k, 2)) (hp : pc + 2 = pc') (hv : v.isRef = true) (hl : storeLocals Ls k v = some Ls') (G : Go p e below En n0 Q T (mkF m pc' Ls' (st))) : Go p e below En n0 Q T (mkF m pc Ls (v :: st)) := by
  subst hp
  exact Go.mov (fun _ k => XS.astore X.here hx rfl hd rfl hv hl k) G
theorem g_astoreN (X : Stand p l e R s m args below meth c T locs cells slots) (hx : p.tables.exec = Jvm.exec) {k : Fin 4} {v : Value} (hd : decode c.code pc = .ok (.astore_n k, 1)) (hp : pc + 1 = pc') (hv : v.isRef = true) (hl : storeLocals Ls k.val v = some Ls') (G : Go p e below En n0 Q T (mkF m pc' Ls' (st))) : Go p e below En n0 Q T (mkF m pc Ls (v :: st)) := by
  subst hp
  exact Go.mov (fun _ k => XS.astoreN X.here hx rfl hd rfl hv hl k) G
theorem g_iconst (X : Stand p l e R s m args below meth c T locs cells slots) (hx : p.tables.exec = Jvm.exec) {i : Int} {z : Int32} (hd : decode c.code pc = .ok (.iconst i, 1)) (hp : pc + 1 = pc') (hz : Int32.ofInt i = z) (G : Go p e below En n0 Q T (mkF m pc' Ls (.int z :: st))) : Go p e below En n0 Q T (mkF m pc Ls st) := by
  subst hp hz
  exact Go.mov (fun _ k => XS.iconst X.here hx rfl hd k) G
theorem g_bipush (X : Stand p l e R s m args below meth c T locs cells slots) (hx : p.tables.exec = Jvm.exec) {i : Int} {z : Int32} (hd : decode c.code pc = .ok (.bipush i, 2)) (hp : pc + 2 = pc') (hz : (Int8.ofInt i).toInt32 = z) (G : Go p e below En n0 Q T (mkF m pc' Ls (.int z :: st))) : Go p e below En n0 Q T (mkF m pc Ls st) := by
  subst hp hz
  exact Go.mov (fun _ k => XS.bipush X.here hx rfl hd k) G
theorem g_sipush (X : Stand p l e R s m args below meth c T locs cells slots) (hx : p.tables.exec = Jvm.exec) {i : Int} {z : Int32} (hd : decode c.code pc = .ok (.sipush i, 3)) (hp : pc + 3 = pc') (hz : (Int16.ofInt i).toInt32 = z) (G : Go p e below En n0 Q T (mkF m pc' Ls (.int z :: st))) : Go p e below En n0 Q T (mkF m pc Ls st) := by
  subst hp hz
  exact Go.mov (fun _ k => XS.sipush X.here hx rfl hd k) G
theorem g_lconst (X : Stand p l e R s m args below meth c T locs cells slots) (hx : p.tables.exec = Jvm.exec) {i : Fin 2} {z : Int64} (hd : decode c.code pc = .ok (.lconst i, 1)) (hp : pc + 1 = pc') (hz : Int64.ofNat i = z) (G : Go p e below En n0 Q T (mkF m pc' Ls (.long z :: st))) : Go p e below En n0 Q T (mkF m pc Ls st) := by
  subst hp hz
  exact Go.mov (fun _ k => XS.lconst X.here hx rfl hd k) G
theorem g_aconst_null (X : Stand p l e R s m args below meth c T locs cells slots) (hx : p.tables.exec = Jvm.exec)  (hd : decode c.code pc = .ok (.aconst_null, 1)) (hp : pc + 1 = pc') (G : Go p e below En n0 Q T (mkF m pc' Ls (.null :: st))) : Go p e below En n0 Q T (mkF m pc Ls (st)) := by
  subst hp
  exact Go.mov (fun _ k => XS.aconstNull X.here hx rfl hd k) G
theorem g_iadd (X : Stand p l e R s m args below meth c T locs cells slots) (hx : p.tables.exec = Jvm.exec) {x y : Int32} (hd : decode c.code pc = .ok (.iadd, 1)) (hp : pc + 1 = pc') (G : Go p e below En n0 Q T (mkF m pc' Ls (.int (x + y) :: st))) : Go p e below En n0 Q T (mkF m pc Ls (.int y :: .int x :: st)) := by
  subst hp
  exact Go.mov (fun _ k => XS.iadd X.here hx rfl hd rfl k) G
theorem g_ladd (X : Stand p l e R s m args below meth c T locs cells slots) (hx : p.tables.exec = Jvm.exec) {x y : Int64} (hd : decode c.code pc = .ok (.ladd, 1)) (hp : pc + 1 = pc') (G : Go p e below En n0 Q T (mkF m pc' Ls (.long (x + y) :: st))) : Go p e below En n0 Q T (mkF m pc Ls (.long y :: .long x :: st)) := by
  subst hp
  exact Go.mov (fun _ k => XS.ladd X.here hx rfl hd rfl k) G
theorem g_isub (X : Stand p l e R s m args below meth c T locs cells slots) (hx : p.tables.exec = Jvm.exec) {x y : Int32} (hd : decode c.code pc = .ok (.isub, 1)) (hp : pc + 1 = pc') (G : Go p e below En n0 Q T (mkF m pc' Ls (.int (x - y) :: st))) : Go p e below En n0 Q T (mkF m pc Ls (.int y :: .int x :: st)) := by
  subst hp
  exact Go.mov (fun _ k => XS.isub X.here hx rfl hd rfl k) G
theorem g_lsub (X : Stand p l e R s m args below meth c T locs cells slots) (hx : p.tables.exec = Jvm.exec) {x y : Int64} (hd : decode c.code pc = .ok (.lsub, 1)) (hp : pc + 1 = pc') (G : Go p e below En n0 Q T (mkF m pc' Ls (.long (x - y) :: st))) : Go p e below En n0 Q T (mkF m pc Ls (.long y :: .long x :: st)) := by
  subst hp
  exact Go.mov (fun _ k => XS.lsub X.here hx rfl hd rfl k) G
theorem g_imul (X : Stand p l e R s m args below meth c T locs cells slots) (hx : p.tables.exec = Jvm.exec) {x y : Int32} (hd : decode c.code pc = .ok (.imul, 1)) (hp : pc + 1 = pc') (G : Go p e below En n0 Q T (mkF m pc' Ls (.int (x * y) :: st))) : Go p e below En n0 Q T (mkF m pc Ls (.int y :: .int x :: st)) := by
  subst hp
  exact Go.mov (fun _ k => XS.imul X.here hx rfl hd rfl k) G
theorem g_lmul (X : Stand p l e R s m args below meth c T locs cells slots) (hx : p.tables.exec = Jvm.exec) {x y : Int64} (hd : decode c.code pc = .ok (.lmul, 1)) (hp : pc + 1 = pc') (G : Go p e below En n0 Q T (mkF m pc' Ls (.long (x * y) :: st))) : Go p e below En n0 Q T (mkF m pc Ls (.long y :: .long x :: st)) := by
  subst hp
  exact Go.mov (fun _ k => XS.lmul X.here hx rfl hd rfl k) G
theorem g_iand (X : Stand p l e R s m args below meth c T locs cells slots) (hx : p.tables.exec = Jvm.exec) {x y : Int32} (hd : decode c.code pc = .ok (.iand, 1)) (hp : pc + 1 = pc') (G : Go p e below En n0 Q T (mkF m pc' Ls (.int (x &&& y) :: st))) : Go p e below En n0 Q T (mkF m pc Ls (.int y :: .int x :: st)) := by
  subst hp
  exact Go.mov (fun _ k => XS.iand X.here hx rfl hd rfl k) G
theorem g_land (X : Stand p l e R s m args below meth c T locs cells slots) (hx : p.tables.exec = Jvm.exec) {x y : Int64} (hd : decode c.code pc = .ok (.land, 1)) (hp : pc + 1 = pc') (G : Go p e below En n0 Q T (mkF m pc' Ls (.long (x &&& y) :: st))) : Go p e below En n0 Q T (mkF m pc Ls (.long y :: .long x :: st)) := by
  subst hp
  exact Go.mov (fun _ k => XS.land X.here hx rfl hd rfl k) G
theorem g_ior (X : Stand p l e R s m args below meth c T locs cells slots) (hx : p.tables.exec = Jvm.exec) {x y : Int32} (hd : decode c.code pc = .ok (.ior, 1)) (hp : pc + 1 = pc') (G : Go p e below En n0 Q T (mkF m pc' Ls (.int (x ||| y) :: st))) : Go p e below En n0 Q T (mkF m pc Ls (.int y :: .int x :: st)) := by
  subst hp
  exact Go.mov (fun _ k => XS.ior X.here hx rfl hd rfl k) G
theorem g_lor (X : Stand p l e R s m args below meth c T locs cells slots) (hx : p.tables.exec = Jvm.exec) {x y : Int64} (hd : decode c.code pc = .ok (.lor, 1)) (hp : pc + 1 = pc') (G : Go p e below En n0 Q T (mkF m pc' Ls (.long (x ||| y) :: st))) : Go p e below En n0 Q T (mkF m pc Ls (.long y :: .long x :: st)) := by
  subst hp
  exact Go.mov (fun _ k => XS.lor X.here hx rfl hd rfl k) G
theorem g_ixor (X : Stand p l e R s m args below meth c T locs cells slots) (hx : p.tables.exec = Jvm.exec) {x y : Int32} (hd : decode c.code pc = .ok (.ixor, 1)) (hp : pc + 1 = pc') (G : Go p e below En n0 Q T (mkF m pc' Ls (.int (x ^^^ y) :: st))) : Go p e below En n0 Q T (mkF m pc Ls (.int y :: .int x :: st)) := by
  subst hp
  exact Go.mov (fun _ k => XS.ixor X.here hx rfl hd rfl k) G
theorem g_lxor (X : Stand p l e R s m args below meth c T locs cells slots) (hx : p.tables.exec = Jvm.exec) {x y : Int64} (hd : decode c.code pc = .ok (.lxor, 1)) (hp : pc + 1 = pc') (G : Go p e below En n0 Q T (mkF m pc' Ls (.long (x ^^^ y) :: st))) : Go p e below En n0 Q T (mkF m pc Ls (.long y :: .long x :: st)) := by
  subst hp
  exact Go.mov (fun _ k => XS.lxor X.here hx rfl hd rfl k) G
theorem g_ishl (X : Stand p l e R s m args below meth c T locs cells slots) (hx : p.tables.exec = Jvm.exec) {x y : Int32} (hd : decode c.code pc = .ok (.ishl, 1)) (hp : pc + 1 = pc') (G : Go p e below En n0 Q T (mkF m pc' Ls (.int (shl x y) :: st))) : Go p e below En n0 Q T (mkF m pc Ls (.int y :: .int x :: st)) := by
  subst hp
  exact Go.mov (fun _ k => XS.ishl X.here hx rfl hd rfl k) G
theorem g_lshl (X : Stand p l e R s m args below meth c T locs cells slots) (hx : p.tables.exec = Jvm.exec) {x : Int64} {y : Int32} (hd : decode c.code pc = .ok (.lshl, 1)) (hp : pc + 1 = pc') (G : Go p e below En n0 Q T (mkF m pc' Ls (.long (lshl x y) :: st))) : Go p e below En n0 Q T (mkF m pc Ls (.int y :: .long x :: st)) := by
  subst hp
  exact Go.mov (fun _ k => XS.lshl X.here hx rfl hd rfl k) G
theorem g_ishr (X : Stand p l e R s m args below meth c T locs cells slots) (hx : p.tables.exec = Jvm.exec) {x y : Int32} (hd : decode c.code pc = .ok (.ishr, 1)) (hp : pc + 1 = pc') (G : Go p e below En n0 Q T (mkF m pc' Ls (.int (shr x y) :: st))) : Go p e below En n0 Q T (mkF m pc Ls (.int y :: .int x :: st)) := by
  subst hp
  exact Go.mov (fun _ k => XS.ishr X.here hx rfl hd rfl k) G
theorem g_lshr (X : Stand p l e R s m args below meth c T locs cells slots) (hx : p.tables.exec = Jvm.exec) {x : Int64} {y : Int32} (hd : decode c.code pc = .ok (.lshr, 1)) (hp : pc + 1 = pc') (G : Go p e below En n0 Q T (mkF m pc' Ls (.long (lshr x y) :: st))) : Go p e below En n0 Q T (mkF m pc Ls (.int y :: .long x :: st)) := by
  subst hp
  exact Go.mov (fun _ k => XS.lshr X.here hx rfl hd rfl k) G
theorem g_iushr (X : Stand p l e R s m args below meth c T locs cells slots) (hx : p.tables.exec = Jvm.exec) {x y : Int32} (hd : decode c.code pc = .ok (.iushr, 1)) (hp : pc + 1 = pc') (G : Go p e below En n0 Q T (mkF m pc' Ls (.int (ushr x y) :: st))) : Go p e below En n0 Q T (mkF m pc Ls (.int y :: .int x :: st)) := by
  subst hp
  exact Go.mov (fun _ k => XS.iushr X.here hx rfl hd rfl k) G
theorem g_lushr (X : Stand p l e R s m args below meth c T locs cells slots) (hx : p.tables.exec = Jvm.exec) {x : Int64} {y : Int32} (hd : decode c.code pc = .ok (.lushr, 1)) (hp : pc + 1 = pc') (G : Go p e below En n0 Q T (mkF m pc' Ls (.long (lushr x y) :: st))) : Go p e below En n0 Q T (mkF m pc Ls (.int y :: .long x :: st)) := by
  subst hp
  exact Go.mov (fun _ k => XS.lushr X.here hx rfl hd rfl k) G
theorem g_i2b (X : Stand p l e R s m args below meth c T locs cells slots) (hx : p.tables.exec = Jvm.exec) {x : Int32} (hd : decode c.code pc = .ok (.i2b, 1)) (hp : pc + 1 = pc') (G : Go p e below En n0 Q T (mkF m pc' Ls (.int (byt x) :: st))) : Go p e below En n0 Q T (mkF m pc Ls (.int x :: st)) := by
  subst hp
  exact Go.mov (fun _ k => XS.i2b X.here hx rfl hd rfl k) G
theorem g_i2c (X : Stand p l e R s m args below meth c T locs cells slots) (hx : p.tables.exec = Jvm.exec) {x : Int32} (hd : decode c.code pc = .ok (.i2c, 1)) (hp : pc + 1 = pc') (G : Go p e below En n0 Q T (mkF m pc' Ls (.int (chr x) :: st))) : Go p e below En n0 Q T (mkF m pc Ls (.int x :: st)) := by
  subst hp
  exact Go.mov (fun _ k => XS.i2c X.here hx rfl hd rfl k) G
theorem g_i2s (X : Stand p l e R s m args below meth c T locs cells slots) (hx : p.tables.exec = Jvm.exec) {x : Int32} (hd : decode c.code pc = .ok (.i2s, 1)) (hp : pc + 1 = pc') (G : Go p e below En n0 Q T (mkF m pc' Ls (.int (sht x) :: st))) : Go p e below En n0 Q T (mkF m pc Ls (.int x :: st)) := by
  subst hp
  exact Go.mov (fun _ k => XS.i2s X.here hx rfl hd rfl k) G
theorem g_i2l (X : Stand p l e R s m args below meth c T locs cells slots) (hx : p.tables.exec = Jvm.exec) {x : Int32} (hd : decode c.code pc = .ok (.i2l, 1)) (hp : pc + 1 = pc') (G : Go p e below En n0 Q T (mkF m pc' Ls (.long x.toInt64 :: st))) : Go p e below En n0 Q T (mkF m pc Ls (.int x :: st)) := by
  subst hp
  exact Go.mov (fun _ k => XS.i2l X.here hx rfl hd rfl k) G
theorem g_l2i (X : Stand p l e R s m args below meth c T locs cells slots) (hx : p.tables.exec = Jvm.exec) {x : Int64} (hd : decode c.code pc = .ok (.l2i, 1)) (hp : pc + 1 = pc') (G : Go p e below En n0 Q T (mkF m pc' Ls (.int x.toInt32 :: st))) : Go p e below En n0 Q T (mkF m pc Ls (.long x :: st)) := by
  subst hp
  exact Go.mov (fun _ k => XS.l2i X.here hx rfl hd rfl k) G
theorem g_ineg (X : Stand p l e R s m args below meth c T locs cells slots) (hx : p.tables.exec = Jvm.exec) {x : Int32} (hd : decode c.code pc = .ok (.ineg, 1)) (hp : pc + 1 = pc') (G : Go p e below En n0 Q T (mkF m pc' Ls (.int (-x) :: st))) : Go p e below En n0 Q T (mkF m pc Ls (.int x :: st)) := by
  subst hp
  exact Go.mov (fun _ k => XS.ineg X.here hx rfl hd rfl k) G
theorem g_lneg (X : Stand p l e R s m args below meth c T locs cells slots) (hx : p.tables.exec = Jvm.exec) {x : Int64} (hd : decode c.code pc = .ok (.lneg, 1)) (hp : pc + 1 = pc') (G : Go p e below En n0 Q T (mkF m pc' Ls (.long (-x) :: st))) : Go p e below En n0 Q T (mkF m pc Ls (.long x :: st)) := by
  subst hp
  exact Go.mov (fun _ k => XS.lneg X.here hx rfl hd rfl k) G
theorem g_idiv (X : Stand p l e R s m args below meth c T locs cells slots) (hx : p.tables.exec = Jvm.exec) {x y : Int32} (hd : decode c.code pc = .ok (.idiv, 1)) (hp : pc + 1 = pc') (hy : y ≠ 0) (G : Go p e below En n0 Q T (mkF m pc' Ls (.int (x / y) :: st))) : Go p e below En n0 Q T (mkF m pc Ls (.int y :: .int x :: st)) := by
  subst hp
  exact Go.mov (fun _ k => XS.idiv X.here hx rfl hd rfl hy k) G
theorem g_ldiv (X : Stand p l e R s m args below meth c T locs cells slots) (hx : p.tables.exec = Jvm.exec) {x y : Int64} (hd : decode c.code pc = .ok (.ldiv, 1)) (hp : pc + 1 = pc') (hy : y ≠ 0) (G : Go p e below En n0 Q T (mkF m pc' Ls (.long (x / y) :: st))) : Go p e below En n0 Q T (mkF m pc Ls (.long y :: .long x :: st)) := by
  subst hp
  exact Go.mov (fun _ k => XS.ldiv X.here hx rfl hd rfl hy k) G
theorem g_irem (X : Stand p l e R s m args below meth c T locs cells slots) (hx : p.tables.exec = Jvm.exec) {x y : Int32} (hd : decode c.code pc = .ok (.irem, 1)) (hp : pc + 1 = pc') (hy : y ≠ 0) (G : Go p e below En n0 Q T (mkF m pc' Ls (.int (x % y) :: st))) : Go p e below En n0 Q T (mkF m pc Ls (.int y :: .int x :: st)) := by
  subst hp
  exact Go.mov (fun _ k => iremM X hx rfl hd rfl hy k) G
theorem g_lcmp (X : Stand p l e R s m args below meth c T locs cells slots) (hx : p.tables.exec = Jvm.exec) {x y : Int64} (hd : decode c.code pc = .ok (.lcmp, 1)) (hp : pc + 1 = pc') (G : Go p e below En n0 Q T (mkF m pc' Ls (.int (lcmpW x y) :: st))) : Go p e below En n0 Q T (mkF m pc Ls (.long y :: .long x :: st)) := by
  subst hp
  exact Go.mov (fun _ k => XS.lcmp X.here hx rfl hd rfl k) G
theorem g_dup (X : Stand p l e R s m args below meth c T locs cells slots) (hx : p.tables.exec = Jvm.exec) {x : Value} (hd : decode c.code pc = .ok (.dup, 1)) (hp : pc + 1 = pc') (hc : x.category = 1) (G : Go p e below En n0 Q T (mkF m pc' Ls (x :: x :: st))) : Go p e below En n0 Q T (mkF m pc Ls (x :: st)) := by
  subst hp
  exact Go.mov (fun _ k => XS.dup X.here hx rfl hd rfl hc k) G
theorem g_dup_x1 (X : Stand p l e R s m args below meth c T locs cells slots) (hx : p.tables.exec = Jvm.exec) {x y : Value} (hd : decode c.code pc = .ok (.dup_x1, 1)) (hp : pc + 1 = pc') (hc : x.category = 1) (hc2 : y.category = 1) (G : Go p e below En n0 Q T (mkF m pc' Ls (x :: y :: x :: st))) : Go p e below En n0 Q T (mkF m pc Ls (x :: y :: st)) := by
  subst hp
  exact Go.mov (fun _ k => XS.dupX1 X.here hx rfl hd rfl hc hc2 k) G
theorem g_dup2 (X : Stand p l e R s m args below meth c T locs cells slots) (hx : p.tables.exec = Jvm.exec) {x y : Value} (hd : decode c.code pc = .ok (.dup2, 1)) (hp : pc + 1 = pc') (hc : x.category = 1) (hc2 : y.category = 1) (G : Go p e below En n0 Q T (mkF m pc' Ls (x :: y :: x :: y :: st))) : Go p e below En n0 Q T (mkF m pc Ls (x :: y :: st)) := by
  subst hp
  exact Go.mov (fun _ k => XT.dup2 X.here hx rfl hd rfl hc hc2 k) G
theorem g_pop (X : Stand p l e R s m args below meth c T locs cells slots) (hx : p.tables.exec = Jvm.exec) {x : Value} (hd : decode c.code pc = .ok (.pop, 1)) (hp : pc + 1 = pc') (hc : x.category = 1) (G : Go p e below En n0 Q T (mkF m pc' Ls (st))) : Go p e below En n0 Q T (mkF m pc Ls (x :: st)) := by
  subst hp
  exact Go.mov (fun _ k => XS.pop X.here hx rfl hd rfl hc k) G
theorem g_iinc (X : Stand p l e R s m args below meth c T locs cells slots) (hx : p.tables.exec = Jvm.exec) {k : Nat} {cst : Int} {v z : Int32} (hd : decode c.code pc = .ok (.iinc k cst, 3)) (hp : pc + 3 = pc') (hl : Ls[k]? = some (.val (.int v))) (hz : Int32.ofInt cst = z) (hl' : storeLocals Ls k (.int (v + z)) = some Ls') (G : Go p e below En n0 Q T (mkF m pc' Ls' st)) : Go p e below En n0 Q T (mkF m pc Ls st) := by
  subst hp hz
  exact Go.mov (fun _ k => XS.iinc X.here hx rfl hd hl hl' k) G
theorem g_goto (X : Stand p l e R s m args below meth c T locs cells slots) (hx : p.tables.exec = Jvm.exec) {o : Int} (hd : decode c.code pc = .ok (.goto o, 3)) (ho : 0 ≤ (pc : Int) + o) (hp : ((pc : Int) + o).toNat = pc') (G : Go p e below En n0 Q T (mkF m pc' Ls st)) : Go p e below En n0 Q T (mkF m pc Ls st) :=
  Go.mov (fun _ k => XS.goto X.here hx rfl rfl hd ho hp k) G
theorem g_icmp_lt (X : Stand p l e R s m args below meth c T locs cells slots) (hx : p.tables.exec = Jvm.exec) {x y : Int32} {o : Int} (hd : decode c.code pc = .ok (.if_icmp .lt o, 3)) (hp1 : pc1 = pc + 3) (ho : 0 ≤ (pc : Int) + o) (hp2 : ((pc : Int) + o).toNat = pc2) (G2 : (x < y) → Go p e below En n0 Q T (mkF m pc2 Ls st)) (G1 : (¬ x < y) → Go p e below En n0 Q T (mkF m pc1 Ls st)) : Go p e below En n0 Q T (mkF m pc Ls (.int y :: .int x :: st)) := by
  by_cases q : x < y
  · exact Go.mov (fun _ k => XS.icmpYes X.here hx rfl rfl hd rfl (tlt q).1 ho hp2 k) (G2 q)
  · exact Go.mov (fun _ k => XS.icmpNo X.here hx rfl hd rfl (flt q).1 (hp1 ▸ k)) (G1 q)
theorem g_if_lt (X : Stand p l e R s m args below meth c T locs cells slots) (hx : p.tables.exec = Jvm.exec) {x : Int32} {o : Int} (hd : decode c.code pc = .ok (.ifCond .lt o, 3)) (hp1 : pc1 = pc + 3) (ho : 0 ≤ (pc : Int) + o) (hp2 : ((pc : Int) + o).toNat = pc2) (G2 : (x < (0 : Int32)) → Go p e below En n0 Q T (mkF m pc2 Ls st)) (G1 : (¬ x < (0 : Int32)) → Go p e below En n0 Q T (mkF m pc1 Ls st)) : Go p e below En n0 Q T (mkF m pc Ls (.int x :: st)) := by
  by_cases q : x < (0 : Int32)
  · exact Go.mov (fun _ k => XS.ifYes X.here hx rfl rfl hd rfl ((if0 _ _).trans (tlt q).1) ho hp2 k) (G2 q)
  · exact Go.mov (fun _ k => XS.ifNo X.here hx rfl hd rfl ((if0 _ _).trans (flt q).1) (hp1 ▸ k)) (G1 q)
theorem g_lcmp_lt (X : Stand p l e R s m args below meth c T locs cells slots) (hx : p.tables.exec = Jvm.exec) {x y : Int64} {o : Int} (hd0 : decode c.code pc = .ok (.lcmp, 1)) (hp0 : pc + 1 = pc') (hd : decode c.code pc' = .ok (.ifCond .lt o, 3)) (hp1 : pc1 = pc' + 3) (ho : 0 ≤ (pc' : Int) + o) (hp2 : ((pc' : Int) + o).toNat = pc2) (G2 : (x < y) → Go p e below En n0 Q T (mkF m pc2 Ls st)) (G1 : (¬ x < y) → Go p e below En n0 Q T (mkF m pc1 Ls st)) : Go p e below En n0 Q T (mkF m pc Ls (.long y :: .long x :: st)) :=
  g_lcmp X hx hd0 hp0 (g_if_lt X hx hd hp1 ho hp2 (fun q => G2 ((lw_lt x y).mp q)) (fun q => G1 (fun r => q ((lw_lt x y).mpr r))))
theorem g_icmp_ge (X : Stand p l e R s m args below meth c T locs cells slots) (hx : p.tables.exec = Jvm.exec) {x y : Int32} {o : Int} (hd : decode c.code pc = .ok (.if_icmp .ge o, 3)) (hp1 : pc1 = pc + 3) (ho : 0 ≤ (pc : Int) + o) (hp2 : ((pc : Int) + o).toNat = pc2) (G2 : (¬ x < y) → Go p e below En n0 Q T (mkF m pc2 Ls st)) (G1 : (x < y) → Go p e below En n0 Q T (mkF m pc1 Ls st)) : Go p e below En n0 Q T (mkF m pc Ls (.int y :: .int x :: st)) := by
  by_cases q : x < y
  · exact Go.mov (fun _ k => XS.icmpNo X.here hx rfl hd rfl (tlt q).2.1 (hp1 ▸ k)) (G1 q)
  · exact Go.mov (fun _ k => XS.icmpYes X.here hx rfl rfl hd rfl (flt q).2.1 ho hp2 k) (G2 q)
theorem g_if_ge (X : Stand p l e R s m args below meth c T locs cells slots) (hx : p.tables.exec = Jvm.exec) {x : Int32} {o : Int} (hd : decode c.code pc = .ok (.ifCond .ge o, 3)) (hp1 : pc1 = pc + 3) (ho : 0 ≤ (pc : Int) + o) (hp2 : ((pc : Int) + o).toNat = pc2) (G2 : (¬ x < (0 : Int32)) → Go p e below En n0 Q T (mkF m pc2 Ls st)) (G1 : (x < (0 : Int32)) → Go p e below En n0 Q T (mkF m pc1 Ls st)) : Go p e below En n0 Q T (mkF m pc Ls (.int x :: st)) := by
  by_cases q : x < (0 : Int32)
  · exact Go.mov (fun _ k => XS.ifNo X.here hx rfl hd rfl ((if0 _ _).trans (tlt q).2.1) (hp1 ▸ k)) (G1 q)
  · exact Go.mov (fun _ k => XS.ifYes X.here hx rfl rfl hd rfl ((if0 _ _).trans (flt q).2.1) ho hp2 k) (G2 q)
theorem g_lcmp_ge (X : Stand p l e R s m args below meth c T locs cells slots) (hx : p.tables.exec = Jvm.exec) {x y : Int64} {o : Int} (hd0 : decode c.code pc = .ok (.lcmp, 1)) (hp0 : pc + 1 = pc') (hd : decode c.code pc' = .ok (.ifCond .ge o, 3)) (hp1 : pc1 = pc' + 3) (ho : 0 ≤ (pc' : Int) + o) (hp2 : ((pc' : Int) + o).toNat = pc2) (G2 : (¬ x < y) → Go p e below En n0 Q T (mkF m pc2 Ls st)) (G1 : (x < y) → Go p e below En n0 Q T (mkF m pc1 Ls st)) : Go p e below En n0 Q T (mkF m pc Ls (.long y :: .long x :: st)) :=
  g_lcmp X hx hd0 hp0 (g_if_ge X hx hd hp1 ho hp2 (fun q => G2 (fun r => q ((lw_lt x y).mpr r))) (fun q => G1 ((lw_lt x y).mp q)))
theorem g_icmp_gt (X : Stand p l e R s m args below meth c T locs cells slots) (hx : p.tables.exec = Jvm.exec) {x y : Int32} {o : Int} (hd : decode c.code pc = .ok (.if_icmp .gt o, 3)) (hp1 : pc1 = pc + 3) (ho : 0 ≤ (pc : Int) + o) (hp2 : ((pc : Int) + o).toNat = pc2) (G2 : (y < x) → Go p e below En n0 Q T (mkF m pc2 Ls st)) (G1 : (¬ y < x) → Go p e below En n0 Q T (mkF m pc1 Ls st)) : Go p e below En n0 Q T (mkF m pc Ls (.int y :: .int x :: st)) := by
  by_cases q : y < x
  · exact Go.mov (fun _ k => XS.icmpYes X.here hx rfl rfl hd rfl (tlt q).2.2.1 ho hp2 k) (G2 q)
  · exact Go.mov (fun _ k => XS.icmpNo X.here hx rfl hd rfl (flt q).2.2.1 (hp1 ▸ k)) (G1 q)
theorem g_if_gt (X : Stand p l e R s m args below meth c T locs cells slots) (hx : p.tables.exec = Jvm.exec) {x : Int32} {o : Int} (hd : decode c.code pc = .ok (.ifCond .gt o, 3)) (hp1 : pc1 = pc + 3) (ho : 0 ≤ (pc : Int) + o) (hp2 : ((pc : Int) + o).toNat = pc2) (G2 : ((0 : Int32) < x) → Go p e below En n0 Q T (mkF m pc2 Ls st)) (G1 : (¬ (0 : Int32) < x) → Go p e below En n0 Q T (mkF m pc1 Ls st)) : Go p e below En n0 Q T (mkF m pc Ls (.int x :: st)) := by
  by_cases q : (0 : Int32) < x
  · exact Go.mov (fun _ k => XS.ifYes X.here hx rfl rfl hd rfl ((if0 _ _).trans (tlt q).2.2.1) ho hp2 k) (G2 q)
  · exact Go.mov (fun _ k => XS.ifNo X.here hx rfl hd rfl ((if0 _ _).trans (flt q).2.2.1) (hp1 ▸ k)) (G1 q)
theorem g_lcmp_gt (X : Stand p l e R s m args below meth c T locs cells slots) (hx : p.tables.exec = Jvm.exec) {x y : Int64} {o : Int} (hd0 : decode c.code pc = .ok (.lcmp, 1)) (hp0 : pc + 1 = pc') (hd : decode c.code pc' = .ok (.ifCond .gt o, 3)) (hp1 : pc1 = pc' + 3) (ho : 0 ≤ (pc' : Int) + o) (hp2 : ((pc' : Int) + o).toNat = pc2) (G2 : (y < x) → Go p e below En n0 Q T (mkF m pc2 Ls st)) (G1 : (¬ y < x) → Go p e below En n0 Q T (mkF m pc1 Ls st)) : Go p e below En n0 Q T (mkF m pc Ls (.long y :: .long x :: st)) :=
  g_lcmp X hx hd0 hp0 (g_if_gt X hx hd hp1 ho hp2 (fun q => G2 ((lw_gt x y).mp q)) (fun q => G1 (fun r => q ((lw_gt x y).mpr r))))
theorem g_icmp_le (X : Stand p l e R s m args below meth c T locs cells slots) (hx : p.tables.exec = Jvm.exec) {x y : Int32} {o : Int} (hd : decode c.code pc = .ok (.if_icmp .le o, 3)) (hp1 : pc1 = pc + 3) (ho : 0 ≤ (pc : Int) + o) (hp2 : ((pc : Int) + o).toNat = pc2) (G2 : (¬ y < x) → Go p e below En n0 Q T (mkF m pc2 Ls st)) (G1 : (y < x) → Go p e below En n0 Q T (mkF m pc1 Ls st)) : Go p e below En n0 Q T (mkF m pc Ls (.int y :: .int x :: st)) := by
  by_cases q : y < x
  · exact Go.mov (fun _ k => XS.icmpNo X.here hx rfl hd rfl (tlt q).2.2.2 (hp1 ▸ k)) (G1 q)
  · exact Go.mov (fun _ k => XS.icmpYes X.here hx rfl rfl hd rfl (flt q).2.2.2 ho hp2 k) (G2 q)
theorem g_if_le (X : Stand p l e R s m args below meth c T locs cells slots) (hx : p.tables.exec = Jvm.exec) {x : Int32} {o : Int} (hd : decode c.code pc = .ok (.ifCond .le o, 3)) (hp1 : pc1 = pc + 3) (ho : 0 ≤ (pc : Int) + o) (hp2 : ((pc : Int) + o).toNat = pc2) (G2 : (¬ (0 : Int32) < x) → Go p e below En n0 Q T (mkF m pc2 Ls st)) (G1 : ((0 : Int32) < x) → Go p e below En n0 Q T (mkF m pc1 Ls st)) : Go p e below En n0 Q T (mkF m pc Ls (.int x :: st)) := by
  by_cases q : (0 : Int32) < x
  · exact Go.mov (fun _ k => XS.ifNo X.here hx rfl hd rfl ((if0 _ _).trans (tlt q).2.2.2) (hp1 ▸ k)) (G1 q)
  · exact Go.mov (fun _ k => XS.ifYes X.here hx rfl rfl hd rfl ((if0 _ _).trans (flt q).2.2.2) ho hp2 k) (G2 q)
theorem g_lcmp_le (X : Stand p l e R s m args below meth c T locs cells slots) (hx : p.tables.exec = Jvm.exec) {x y : Int64} {o : Int} (hd0 : decode c.code pc = .ok (.lcmp, 1)) (hp0 : pc + 1 = pc') (hd : decode c.code pc' = .ok (.ifCond .le o, 3)) (hp1 : pc1 = pc' + 3) (ho : 0 ≤ (pc' : Int) + o) (hp2 : ((pc' : Int) + o).toNat = pc2) (G2 : (¬ y < x) → Go p e below En n0 Q T (mkF m pc2 Ls st)) (G1 : (y < x) → Go p e below En n0 Q T (mkF m pc1 Ls st)) : Go p e below En n0 Q T (mkF m pc Ls (.long y :: .long x :: st)) :=
  g_lcmp X hx hd0 hp0 (g_if_le X hx hd hp1 ho hp2 (fun q => G2 (fun r => q ((lw_gt x y).mpr r))) (fun q => G1 ((lw_gt x y).mp q)))
theorem g_icmp_eq (X : Stand p l e R s m args below meth c T locs cells slots) (hx : p.tables.exec = Jvm.exec) {x y : Int32} {o : Int} (hd : decode c.code pc = .ok (.if_icmp .eq o, 3)) (hp1 : pc1 = pc + 3) (ho : 0 ≤ (pc : Int) + o) (hp2 : ((pc : Int) + o).toNat = pc2) (G2 : (x = y) → Go p e below En n0 Q T (mkF m pc2 Ls st)) (G1 : (¬ x = y) → Go p e below En n0 Q T (mkF m pc1 Ls st)) : Go p e below En n0 Q T (mkF m pc Ls (.int y :: .int x :: st)) := by
  by_cases q : x = y
  · exact Go.mov (fun _ k => XS.icmpYes X.here hx rfl rfl hd rfl (teq q).1 ho hp2 k) (G2 q)
  · exact Go.mov (fun _ k => XS.icmpNo X.here hx rfl hd rfl (feq q).1 (hp1 ▸ k)) (G1 q)
theorem g_if_eq (X : Stand p l e R s m args below meth c T locs cells slots) (hx : p.tables.exec = Jvm.exec) {x : Int32} {o : Int} (hd : decode c.code pc = .ok (.ifCond .eq o, 3)) (hp1 : pc1 = pc + 3) (ho : 0 ≤ (pc : Int) + o) (hp2 : ((pc : Int) + o).toNat = pc2) (G2 : (x = (0 : Int32)) → Go p e below En n0 Q T (mkF m pc2 Ls st)) (G1 : (¬ x = (0 : Int32)) → Go p e below En n0 Q T (mkF m pc1 Ls st)) : Go p e below En n0 Q T (mkF m pc Ls (.int x :: st)) := by
  by_cases q : x = (0 : Int32)
  · exact Go.mov (fun _ k => XS.ifYes X.here hx rfl rfl hd rfl ((if0 _ _).trans (teq q).1) ho hp2 k) (G2 q)
  · exact Go.mov (fun _ k => XS.ifNo X.here hx rfl hd rfl ((if0 _ _).trans (feq q).1) (hp1 ▸ k)) (G1 q)
theorem g_lcmp_eq (X : Stand p l e R s m args below meth c T locs cells slots) (hx : p.tables.exec = Jvm.exec) {x y : Int64} {o : Int} (hd0 : decode c.code pc = .ok (.lcmp, 1)) (hp0 : pc + 1 = pc') (hd : decode c.code pc' = .ok (.ifCond .eq o, 3)) (hp1 : pc1 = pc' + 3) (ho : 0 ≤ (pc' : Int) + o) (hp2 : ((pc' : Int) + o).toNat = pc2) (G2 : (x = y) → Go p e below En n0 Q T (mkF m pc2 Ls st)) (G1 : (¬ x = y) → Go p e below En n0 Q T (mkF m pc1 Ls st)) : Go p e below En n0 Q T (mkF m pc Ls (.long y :: .long x :: st)) :=
  g_lcmp X hx hd0 hp0 (g_if_eq X hx hd hp1 ho hp2 (fun q => G2 ((lw_eq x y).mp q)) (fun q => G1 (fun r => q ((lw_eq x y).mpr r))))
theorem g_icmp_ne (X : Stand p l e R s m args below meth c T locs cells slots) (hx : p.tables.exec = Jvm.exec) {x y : Int32} {o : Int} (hd : decode c.code pc = .ok (.if_icmp .ne o, 3)) (hp1 : pc1 = pc + 3) (ho : 0 ≤ (pc : Int) + o) (hp2 : ((pc : Int) + o).toNat = pc2) (G2 : (¬ x = y) → Go p e below En n0 Q T (mkF m pc2 Ls st)) (G1 : (x = y) → Go p e below En n0 Q T (mkF m pc1 Ls st)) : Go p e below En n0 Q T (mkF m pc Ls (.int y :: .int x :: st)) := by
  by_cases q : x = y
  · exact Go.mov (fun _ k => XS.icmpNo X.here hx rfl hd rfl (teq q).2 (hp1 ▸ k)) (G1 q)
  · exact Go.mov (fun _ k => XS.icmpYes X.here hx rfl rfl hd rfl (feq q).2 ho hp2 k) (G2 q)
theorem g_if_ne (X : Stand p l e R s m args below meth c T locs cells slots) (hx : p.tables.exec = Jvm.exec) {x : Int32} {o : Int} (hd : decode c.code pc = .ok (.ifCond .ne o, 3)) (hp1 : pc1 = pc + 3) (ho : 0 ≤ (pc : Int) + o) (hp2 : ((pc : Int) + o).toNat = pc2) (G2 : (¬ x = (0 : Int32)) → Go p e below En n0 Q T (mkF m pc2 Ls st)) (G1 : (x = (0 : Int32)) → Go p e below En n0 Q T (mkF m pc1 Ls st)) : Go p e below En n0 Q T (mkF m pc Ls (.int x :: st)) := by
  by_cases q : x = (0 : Int32)
  · exact Go.mov (fun _ k => XS.ifNo X.here hx rfl hd rfl ((if0 _ _).trans (teq q).2) (hp1 ▸ k)) (G1 q)
  · exact Go.mov (fun _ k => XS.ifYes X.here hx rfl rfl hd rfl ((if0 _ _).trans (feq q).2) ho hp2 k) (G2 q)
theorem g_lcmp_ne (X : Stand p l e R s m args below meth c T locs cells slots) (hx : p.tables.exec = Jvm.exec) {x y : Int64} {o : Int} (hd0 : decode c.code pc = .ok (.lcmp, 1)) (hp0 : pc + 1 = pc') (hd : decode c.code pc' = .ok (.ifCond .ne o, 3)) (hp1 : pc1 = pc' + 3) (ho : 0 ≤ (pc' : Int) + o) (hp2 : ((pc' : Int) + o).toNat = pc2) (G2 : (¬ x = y) → Go p e below En n0 Q T (mkF m pc2 Ls st)) (G1 : (x = y) → Go p e below En n0 Q T (mkF m pc1 Ls st)) : Go p e below En n0 Q T (mkF m pc Ls (.long y :: .long x :: st)) :=
  g_lcmp X hx hd0 hp0 (g_if_ne X hx hd hp1 ho hp2 (fun q => G2 (fun r => q ((lw_eq x y).mpr r))) (fun q => G1 ((lw_eq x y).mp q)))
theorem g_ifnull_n (X : Stand p l e R s m args below meth c T locs cells slots) (hx : p.tables.exec = Jvm.exec) {b : Addr} {o : Int} (hd : decode c.code pc = .ok (.ifnull o, 3)) (hp : pc + 3 = pc') (G : Go p e below En n0 Q T (mkF m pc' Ls st)) : Go p e below En n0 Q T (mkF m pc Ls (.ref b :: st)) := by
  subst hp
  exact Go.mov (fun _ k => XS.ifnullNo X.here hx rfl hd rfl k) G
theorem g_ifnull_y (X : Stand p l e R s m args below meth c T locs cells slots) (hx : p.tables.exec = Jvm.exec) {o : Int} (hd : decode c.code pc = .ok (.ifnull o, 3)) (ho : 0 ≤ (pc : Int) + o) (hp : ((pc : Int) + o).toNat = pc') (G : Go p e below En n0 Q T (mkF m pc' Ls st)) : Go p e below En n0 Q T (mkF m pc Ls (.null :: st)) :=
  Go.mov (fun _ k => XS.ifnullYes X.here hx rfl rfl hd rfl ho hp k) G
theorem g_ifnonnull_y (X : Stand p l e R s m args below meth c T locs cells slots) (hx : p.tables.exec = Jvm.exec) {b : Addr} {o : Int} (hd : decode c.code pc = .ok (.ifnonnull o, 3)) (ho : 0 ≤ (pc : Int) + o) (hp : ((pc : Int) + o).toNat = pc') (G : Go p e below En n0 Q T (mkF m pc' Ls st)) : Go p e below En n0 Q T (mkF m pc Ls (.ref b :: st)) :=
  Go.mov (fun _ k => XS.ifnonnullYes X.here hx rfl rfl hd rfl ho hp k) G
theorem g_ifnonnull_n (X : Stand p l e R s m args below meth c T locs cells slots) (hx : p.tables.exec = Jvm.exec) {o : Int} (hd : decode c.code pc = .ok (.ifnonnull o, 3)) (hp : pc + 3 = pc') (G : Go p e below En n0 Q T (mkF m pc' Ls st)) : Go p e below En n0 Q T (mkF m pc Ls (.null :: st)) := by
  subst hp
  exact Go.mov (fun _ k => XS.ifnonnullNo X.here hx rfl hd rfl k) G
theorem g_acmp_eq (X : Stand p l e R s m args below meth c T locs cells slots) (hx : p.tables.exec = Jvm.exec) {x y : Value} {o : Int} (hd : decode c.code pc = .ok (.if_acmp .eq o, 3)) (hx1 : x.isRef = true) (hy1 : y.isRef = true) (hp1 : pc1 = pc + 3) (ho : 0 ≤ (pc : Int) + o) (hp2 : ((pc : Int) + o).toNat = pc2) (G2 : (x = y) → Go p e below En n0 Q T (mkF m pc2 Ls st)) (G1 : (¬ x = y) → Go p e below En n0 Q T (mkF m pc1 Ls st)) : Go p e below En n0 Q T (mkF m pc Ls (y :: x :: st)) := by
  subst hp1 hp2
  by_cases q : x = y
  · exact Go.mov (fun _ k => acmp X hx rfl hx1 hy1 rfl hd rfl (same := true) (decide_eq_true q) ho rfl k) (G2 q)
  · exact Go.mov (fun _ k => acmp X hx rfl hx1 hy1 rfl hd rfl (same := false) (decide_eq_false q) ho rfl k) (G1 q)
theorem g_acmp_ne (X : Stand p l e R s m args below meth c T locs cells slots) (hx : p.tables.exec = Jvm.exec) {x y : Value} {o : Int} (hd : decode c.code pc = .ok (.if_acmp .ne o, 3)) (hx1 : x.isRef = true) (hy1 : y.isRef = true) (hp1 : pc1 = pc + 3) (ho : 0 ≤ (pc : Int) + o) (hp2 : ((pc : Int) + o).toNat = pc2) (G2 : (¬ x = y) → Go p e below En n0 Q T (mkF m pc2 Ls st)) (G1 : (x = y) → Go p e below En n0 Q T (mkF m pc1 Ls st)) : Go p e below En n0 Q T (mkF m pc Ls (y :: x :: st)) := by
  subst hp1 hp2
  by_cases q : x = y
  · exact Go.mov (fun _ k => acmp X hx rfl hx1 hy1 rfl hd rfl (same := true) (decide_eq_true q) ho rfl k) (G1 q)
  · exact Go.mov (fun _ k => acmp X hx rfl hx1 hy1 rfl hd rfl (same := false) (decide_eq_false q) ho rfl k) (G2 q)
theorem g_ldc (X : Stand p l e R s m args below meth c T locs cells slots) (hx : p.tables.exec = Jvm.exec) (hZ : Z.Warmed39 s.vm) {own : String} {i : Nat} {v : Int32} (hown : s.vm.findClass own = some m.cls) (w : (Jvm.Cond.constant own i v).before a0 Z = true) (hd : decode c.code pc = .ok (.ldc i, 2)) (hp : pc + 2 = pc') (G : Go p e below En n0 Q T (mkF m pc' Ls (.int v :: st))) : Go p e below En n0 Q T (mkF m pc Ls st) := by
  subst hp
  exact Go.mov (X.ldcInt hx hown (mvT hZ w) rfl hd) G
theorem g_ldc_w (X : Stand p l e R s m args below meth c T locs cells slots) (hx : p.tables.exec = Jvm.exec) (hZ : Z.Warmed39 s.vm) {own : String} {i : Nat} {v : Int32} (hown : s.vm.findClass own = some m.cls) (w : (Jvm.Cond.constant own i v).before a0 Z = true) (hd : decode c.code pc = .ok (.ldc_w i, 3)) (hp : pc + 3 = pc') (G : Go p e below En n0 Q T (mkF m pc' Ls (.int v :: st))) : Go p e below En n0 Q T (mkF m pc Ls st) := by
  subst hp
  exact Go.mov (X.ldcwInt hx hown (mvT hZ w) rfl hd) G
theorem g_ldc2_w (X : Stand p l e R s m args below meth c T locs cells slots) (hx : p.tables.exec = Jvm.exec) (hZ : Z.Warmed39 s.vm) {own : String} {i : Nat} {v : Int64} (hown : s.vm.findClass own = some m.cls) (w : (Jvm.Cond.constantLong own i v).before a0 Z = true) (hd : decode c.code pc = .ok (.ldc2_w i, 3)) (hp : pc + 3 = pc') (G : Go p e below En n0 Q T (mkF m pc' Ls (.long v :: st))) : Go p e below En n0 Q T (mkF m pc Ls st) := by
  subst hp
  exact Go.mov (X.ldc2Long hx hown (mvT hZ w) rfl hd) G
theorem g_return (X : Stand p l e R s m args below meth c T locs cells slots) (hx : p.tables.exec = Jvm.exec) (hr : meth.sig.returnType = none) (hd : decode c.code pc = .ok (.return_, 1)) (N : Fr n0 locs) (hlk : meth.locks = false) (hE : ∀ v t, t.heap = T.heap → s.WarmedH t.vm → s.sameButNew ({ t with vm := s.vm } : State) locs cells slots → En v t locs) (hQ : Q none T.heap) : Go p e below En n0 Q T (mkF m pc Ls []) := by
  obtain ⟨fs, hr1, hrun, hended, hW, hsame⟩ := X.leave (v := none) (fun _ => rfl) hlk
  exact ⟨_, _, X.returnOut hx hr hd hr1, hrun, hended, _, _, rfl, ⟨hQ, N⟩, hE _ _ rfl hW hsame⟩
theorem g_ireturn (X : Stand p l e R s m args below meth c T locs cells slots) (hx : p.tables.exec = Jvm.exec) {z : Int32} (hr : meth.sig.returnType = some .int) (hd : decode c.code pc = .ok (.ireturn, 1)) (N : Fr n0 locs) (hlk : meth.locks = false) (hE : ∀ v t, t.heap = T.heap → s.WarmedH t.vm → s.sameButNew ({ t with vm := s.vm } : State) locs cells slots → En v t locs) (hQ : Q (some (.int z)) T.heap) : Go p e below En n0 Q T (mkF m pc Ls (.int z :: st)) := by
  obtain ⟨fs, hr1, hrun, hended, hW, hsame⟩ := X.leave (v := some (.int z)) (fun h => by rw [hr] at h; cases h) hlk
  exact ⟨_, _, retOut X hx hr rfl (Or.inl ⟨rfl, Or.inl rfl, z, rfl⟩) hd hr1, hrun, hended, _, _, rfl, ⟨hQ, N⟩, hE _ _ rfl hW hsame⟩
theorem g_lreturn (X : Stand p l e R s m args below meth c T locs cells slots) (hx : p.tables.exec = Jvm.exec) {z : Int64} (hr : meth.sig.returnType = some .long) (hd : decode c.code pc = .ok (.lreturn, 1)) (N : Fr n0 locs) (hlk : meth.locks = false) (hE : ∀ v t, t.heap = T.heap → s.WarmedH t.vm → s.sameButNew ({ t with vm := s.vm } : State) locs cells slots → En v t locs) (hQ : Q (some (.long z)) T.heap) : Go p e below En n0 Q T (mkF m pc Ls (.long z :: st)) := by
  obtain ⟨fs, hr1, hrun, hended, hW, hsame⟩ := X.leave (v := some (.long z)) (fun h => by rw [hr] at h; cases h) hlk
  exact ⟨_, _, retOut X hx hr rfl (Or.inr (Or.inl ⟨rfl, rfl, z, rfl⟩)) hd hr1, hrun, hended, _, _, rfl, ⟨hQ, N⟩, hE _ _ rfl hW hsame⟩
theorem g_areturn (X : Stand p l e R s m args below meth c T locs cells slots) (hx : p.tables.exec = Jvm.exec) {v : Value} {t : FieldType} (ht : t.isReference = true) (hv : v.isRef = true) (hr : meth.sig.returnType = some t) (hd : decode c.code pc = .ok (.areturn, 1)) (N : Fr n0 locs) (hlk : meth.locks = false) (hE : ∀ v t, t.heap = T.heap → s.WarmedH t.vm → s.sameButNew ({ t with vm := s.vm } : State) locs cells slots → En v t locs) (hQ : Q (some (v)) T.heap) : Go p e below En n0 Q T (mkF m pc Ls (v :: st)) := by
  obtain ⟨fs, hr1, hrun, hended, hW, hsame⟩ := X.leave (v := some (v)) (fun h => by rw [hr] at h; cases h) hlk
  exact ⟨_, _, retOut X hx hr (by cases t <;> first | rfl | (cases ht; done)) (Or.inr (Or.inr (Or.inr (Or.inr ⟨rfl, ht, hv⟩)))) hd hr1, hrun, hended, _, _, rfl, ⟨hQ, N⟩, hE _ _ rfl hW hsame⟩
theorem g_zreturn (X : Stand p l e R s m args below meth c T locs cells slots) (hx : p.tables.exec = Jvm.exec) {z : Int32} (hn : narrow .boolean (.int z) = .int z) (hr : meth.sig.returnType = some .boolean) (hd : decode c.code pc = .ok (.ireturn, 1)) (N : Fr n0 locs) (hlk : meth.locks = false) (hE : ∀ v t, t.heap = T.heap → s.WarmedH t.vm → s.sameButNew ({ t with vm := s.vm } : State) locs cells slots → En v t locs) (hQ : Q (some (.int z)) T.heap) : Go p e below En n0 Q T (mkF m pc Ls (.int z :: st)) := by
  obtain ⟨fs, hr1, hrun, hended, hW, hsame⟩ := X.leave (v := some (.int z)) (fun h => by rw [hr] at h; cases h) hlk
  exact ⟨_, _, retOut X hx hr hn (Or.inl ⟨rfl, by simp, z, rfl⟩) hd hr1, hrun, hended, _, _, rfl, ⟨hQ, N⟩, hE _ _ rfl hW hsame⟩
theorem g_breturn (X : Stand p l e R s m args below meth c T locs cells slots) (hx : p.tables.exec = Jvm.exec) {z : Int32} (hn : narrow .byte (.int z) = .int z) (hr : meth.sig.returnType = some .byte) (hd : decode c.code pc = .ok (.ireturn, 1)) (N : Fr n0 locs) (hlk : meth.locks = false) (hE : ∀ v t, t.heap = T.heap → s.WarmedH t.vm → s.sameButNew ({ t with vm := s.vm } : State) locs cells slots → En v t locs) (hQ : Q (some (.int z)) T.heap) : Go p e below En n0 Q T (mkF m pc Ls (.int z :: st)) := by
  obtain ⟨fs, hr1, hrun, hended, hW, hsame⟩ := X.leave (v := some (.int z)) (fun h => by rw [hr] at h; cases h) hlk
  exact ⟨_, _, retOut X hx hr hn (Or.inl ⟨rfl, by simp, z, rfl⟩) hd hr1, hrun, hended, _, _, rfl, ⟨hQ, N⟩, hE _ _ rfl hW hsame⟩
theorem g_creturn (X : Stand p l e R s m args below meth c T locs cells slots) (hx : p.tables.exec = Jvm.exec) {z : Int32} (hn : narrow .char (.int z) = .int z) (hr : meth.sig.returnType = some .char) (hd : decode c.code pc = .ok (.ireturn, 1)) (N : Fr n0 locs) (hlk : meth.locks = false) (hE : ∀ v t, t.heap = T.heap → s.WarmedH t.vm → s.sameButNew ({ t with vm := s.vm } : State) locs cells slots → En v t locs) (hQ : Q (some (.int z)) T.heap) : Go p e below En n0 Q T (mkF m pc Ls (.int z :: st)) := by
  obtain ⟨fs, hr1, hrun, hended, hW, hsame⟩ := X.leave (v := some (.int z)) (fun h => by rw [hr] at h; cases h) hlk
  exact ⟨_, _, retOut X hx hr hn (Or.inl ⟨rfl, by simp, z, rfl⟩) hd hr1, hrun, hended, _, _, rfl, ⟨hQ, N⟩, hE _ _ rfl hW hsame⟩
theorem g_sreturn (X : Stand p l e R s m args below meth c T locs cells slots) (hx : p.tables.exec = Jvm.exec) {z : Int32} (hn : narrow .short (.int z) = .int z) (hr : meth.sig.returnType = some .short) (hd : decode c.code pc = .ok (.ireturn, 1)) (N : Fr n0 locs) (hlk : meth.locks = false) (hE : ∀ v t, t.heap = T.heap → s.WarmedH t.vm → s.sameButNew ({ t with vm := s.vm } : State) locs cells slots → En v t locs) (hQ : Q (some (.int z)) T.heap) : Go p e below En n0 Q T (mkF m pc Ls (.int z :: st)) := by
  obtain ⟨fs, hr1, hrun, hended, hW, hsame⟩ := X.leave (v := some (.int z)) (fun h => by rw [hr] at h; cases h) hlk
  exact ⟨_, _, retOut X hx hr hn (Or.inl ⟨rfl, by simp, z, rfl⟩) hd hr1, hrun, hended, _, _, rfl, ⟨hQ, N⟩, hE _ _ rfl hW hsame⟩
end Go
/-! arrays: every component is known -/
def Va (Z : State) (h : Heap) (a : Addr) (ty : FieldType) (vs : List Value) : Prop := ∃ c : Cell, Arr Z h a c ty ∧ c.slots.toList = vs
section Arrays
variable {p : Program} {l : Launch} {e : Env} {R : Room} {s : State} {m : MethodId} {args : Array Value} {below : List Frame} {meth : Method} {c : Code} {T : State} {locs : List Loc} {cells slots : Nat} {Z : State} {a0 : Array Value} {h h' : Heap} {n0 : Nat} {En : Option Value → State → List Loc → Prop} {Q : Option Value → Heap → Prop}
variable {pc pc' : Nat} {Ls : Array Slot} {st : List Value} {a b : Addr} {ty : FieldType} {vs : List Value} {v w : Value} {sl : Nat} {ws : List Addr}
theorem Va.lt (F : Va Z h a ty vs) : a < h.size := by obtain ⟨c, A, -⟩ := F; exact A.lt
theorem Va.ext (F : Va Z h a ty vs) (E : Ext h h') : Va Z h' a ty vs := by obtain ⟨c, A, r⟩ := F; exact ⟨c, A.ext E, r⟩
theorem Va.other (F : Va Z h b ty vs) (W : Wr h h' a sl v) (q : b ≠ a) : Va Z h' b ty vs := by obtain ⟨c, A, r⟩ := F; exact ⟨c, A.other W q, r⟩
theorem Va.keep (F : Va Z h a ty vs) (K : Keep h h' ws) (q : a ∉ ws) : Va Z h' a ty vs := by obtain ⟨c, A, r⟩ := F; exact ⟨c, ⟨K.2.1 a c A.1 q, A.2⟩, r⟩
theorem Va.same (F : Va Z h a ty vs) (W : Wr h h' a sl v) : Va Z h' a ty (vs.set sl v) := by
  obtain ⟨c, A, rfl⟩ := F
  exact ⟨_, A.same W, by simp [Cell.setSlot]⟩
theorem Va.eq (F : Va Z h a ty vs) {vs' : List Value} (q : vs = vs') : Va Z h a ty vs' := q ▸ F
theorem Va.len (F : Va Z h a ty vs) : ∃ c : Cell, Arr Z h a c ty ∧ c.slots.size = vs.length ∧ ∀ i : Nat, c.slots[i]? = vs[i]? := by
  obtain ⟨c, A, rfl⟩ := F
  exact ⟨c, A, by simp, fun i => by simp⟩
theorem Va.new {cA : ClassId} {n : Int32} {k : Nat} (A : Arr Z h a (newA cA ty n) ty) (hk : n.toNatClampNeg = k) : Va Z h a ty (List.replicate k (defaultValue ty)) := ⟨_, A, by simp [newA, hk]⟩
theorem inV {c : Cell} {j : Int32} {i : Nat} (hs : c.slots.size = vs.length) (hj : ¬ j < 0) (hi : j.toNatClampNeg = i) (hv : vs[i]? = some v) : ¬ (j < 0 ∨ c.slots.size ≤ j.toNatClampNeg) := by
  rintro (q | q)
  · exact hj q
  · rw [hs, hi] at q
    rw [List.getElem?_eq_none q] at hv
    cases hv
theorem g_baload (X : Stand p l e R s m args below meth c T locs cells slots) (hx : p.tables.exec = Jvm.exec) (hZ : Z.Warmed39 s.vm) (eT : T.heap = h) (F : Va Z h a .byte vs) {j : Int32} {i : Nat} (hd : decode c.code pc = .ok (.baload, 1)) (hp : pc + 1 = pc') (hj : ¬ j < 0) (hi : j.toNatClampNeg = i) (hv : vs[i]? = some v) (G : Go p e below En n0 Q T (mkF m pc' Ls (v :: st))) : Go p e below En n0 Q T (mkF m pc Ls (.int j :: .ref a :: st)) := by
  subst hp eT
  obtain ⟨cl, A, hs, hat⟩ := F.len
  have hv' : cl.slots[j.toNatClampNeg]? = some v := by rw [hat, hi]; exact hv
  exact Go.mov (fun t k => X.baloadBytes hx (j := j) (v := v) A.1 (State.isArrayOf_alike hZ.alike A.2.1) A.2.2 (inV hs hj hi hv) hv' (g := mkF m pc Ls (.int j :: .ref a :: st)) rfl rfl hd t k) G
theorem g_caload (X : Stand p l e R s m args below meth c T locs cells slots) (hx : p.tables.exec = Jvm.exec) (hZ : Z.Warmed39 s.vm) (eT : T.heap = h) (F : Va Z h a .char vs) {j : Int32} {i : Nat} (hd : decode c.code pc = .ok (.caload, 1)) (hp : pc + 1 = pc') (hj : ¬ j < 0) (hi : j.toNatClampNeg = i) (hv : vs[i]? = some v) (G : Go p e below En n0 Q T (mkF m pc' Ls (v :: st))) : Go p e below En n0 Q T (mkF m pc Ls (.int j :: .ref a :: st)) := by
  subst hp eT
  obtain ⟨cl, A, hs, hat⟩ := F.len
  have hv' : cl.slots[j.toNatClampNeg]? = some v := by rw [hat, hi]; exact hv
  exact Go.mov (fun t k => X.caload hx (j := j) (v := v) A.1 (State.isArrayOf_alike hZ.alike A.2.1) A.2.2 (inV hs hj hi hv) hv' (g := mkF m pc Ls (.int j :: .ref a :: st)) rfl rfl hd t k) G
theorem g_laload (X : Stand p l e R s m args below meth c T locs cells slots) (hx : p.tables.exec = Jvm.exec) (hZ : Z.Warmed39 s.vm) (eT : T.heap = h) (F : Va Z h a .long vs) {j : Int32} {i : Nat} (hd : decode c.code pc = .ok (.laload, 1)) (hp : pc + 1 = pc') (hj : ¬ j < 0) (hi : j.toNatClampNeg = i) (hv : vs[i]? = some v) (G : Go p e below En n0 Q T (mkF m pc' Ls (v :: st))) : Go p e below En n0 Q T (mkF m pc Ls (.int j :: .ref a :: st)) := by
  subst hp eT
  obtain ⟨cl, A, hs, hat⟩ := F.len
  have hv' : cl.slots[j.toNatClampNeg]? = some v := by rw [hat, hi]; exact hv
  exact Go.mov (fun t k => X.laload hx (j := j) (v := v) A.1 (State.isArrayOf_alike hZ.alike A.2.1) A.2.2 (inV hs hj hi hv) hv' (g := mkF m pc Ls (.int j :: .ref a :: st)) rfl rfl hd t k) G
theorem g_iaload (X : Stand p l e R s m args below meth c T locs cells slots) (hx : p.tables.exec = Jvm.exec) (hZ : Z.Warmed39 s.vm) (eT : T.heap = h) (F : Va Z h a .int vs) {j : Int32} {i : Nat} (hd : decode c.code pc = .ok (.iaload, 1)) (hp : pc + 1 = pc') (hj : ¬ j < 0) (hi : j.toNatClampNeg = i) (hv : vs[i]? = some v) (G : Go p e below En n0 Q T (mkF m pc' Ls (v :: st))) : Go p e below En n0 Q T (mkF m pc Ls (.int j :: .ref a :: st)) := by
  subst hp eT
  obtain ⟨cl, A, hs, hat⟩ := F.len
  have hv' : cl.slots[j.toNatClampNeg]? = some v := by rw [hat, hi]; exact hv
  exact Go.mov (fun t k => X.iaload hx (j := j) (v := v) A.1 (State.isArrayOf_alike hZ.alike A.2.1) A.2.2 (inV hs hj hi hv) hv' (g := mkF m pc Ls (.int j :: .ref a :: st)) rfl rfl hd t k) G
theorem g_arraylength (X : Stand p l e R s m args below meth c T locs cells slots) (hx : p.tables.exec = Jvm.exec) (hZ : Z.Warmed39 s.vm) (eT : T.heap = h) (F : Va Z h a ty vs) {z : Int32} (hd : decode c.code pc = .ok (.arraylength, 1)) (hp : pc + 1 = pc') (hz : vs.length.toInt32 = z) (G : Go p e below En n0 Q T (mkF m pc' Ls (.int z :: st))) : Go p e below En n0 Q T (mkF m pc Ls (.ref a :: st)) := by
  subst hp eT
  obtain ⟨cl, A, hs, hat⟩ := F.len
  subst hz
  rw [← hs] at G
  exact Go.mov (fun t k => X.arraylength hx A.1 (State.isArrayOf_alike hZ.alike A.2.1) (g := mkF m pc Ls (.ref a :: st)) rfl rfl hd t k) G
theorem h_bastore (X : Stand p l e R s m args below meth c T locs cells slots) (hx : p.tables.exec = Jvm.exec) (hZ : Z.Warmed39 s.vm) (eT : T.heap = h) (N : Fr n0 locs) (F : Va Z h a .byte vs) (hn : n0 ≤ a) {j : Int32} {i : Nat} {x : Int32} {v : Value} (hd : decode c.code pc = .ok (.bastore, 1)) (hj : ¬ j < 0) (hi : j.toNatClampNeg = i) (hv : vs[i]? = some v) (Ls : Array Slot) (st : List Value) :
    ∃ T' h' L, Stand p l e R s m args below meth c T' L cells slots ∧ T'.heap = h' ∧ Fr n0 L ∧ Wr h h' a i (.int (byt x)) ∧ Va Z h' a .byte (vs.set i (.int (byt x))) ∧ ∀ target, Steps p.tables e below (T'.setTop (mkF m (pc + 1) Ls st)) target → Steps p.tables e below (T.setTop (mkF m pc Ls (.int x :: .int j :: .ref a :: st))) target := by
  obtain ⟨cl, A, hs, hat⟩ := F.len
  obtain ⟨T', h', X', e', W, k⟩ := stB X hx hZ eT A (j := j) (inV hs hj hi hv) (g := mkF m pc Ls (.int x :: .int j :: .ref a :: st)) rfl rfl hd
  subst hi
  exact ⟨T', h', _, X', e', Fr.snoc X' N hn, W, F.same W, k⟩
theorem h_castore (X : Stand p l e R s m args below meth c T locs cells slots) (hx : p.tables.exec = Jvm.exec) (hZ : Z.Warmed39 s.vm) (eT : T.heap = h) (N : Fr n0 locs) (F : Va Z h a .char vs) (hn : n0 ≤ a) {j : Int32} {i : Nat} {x : Int32} {v : Value} (hd : decode c.code pc = .ok (.castore, 1)) (hj : ¬ j < 0) (hi : j.toNatClampNeg = i) (hv : vs[i]? = some v) (Ls : Array Slot) (st : List Value) :
    ∃ T' h' L, Stand p l e R s m args below meth c T' L cells slots ∧ T'.heap = h' ∧ Fr n0 L ∧ Wr h h' a i (.int (chr x)) ∧ Va Z h' a .char (vs.set i (.int (chr x))) ∧ ∀ target, Steps p.tables e below (T'.setTop (mkF m (pc + 1) Ls st)) target → Steps p.tables e below (T.setTop (mkF m pc Ls (.int x :: .int j :: .ref a :: st))) target := by
  obtain ⟨cl, A, hs, hat⟩ := F.len
  obtain ⟨T', h', X', e', W, k⟩ := stC X hx hZ eT A (j := j) (inV hs hj hi hv) (g := mkF m pc Ls (.int x :: .int j :: .ref a :: st)) rfl rfl hd
  subst hi
  exact ⟨T', h', _, X', e', Fr.snoc X' N hn, W, F.same W, k⟩
theorem h_lastore (X : Stand p l e R s m args below meth c T locs cells slots) (hx : p.tables.exec = Jvm.exec) (hZ : Z.Warmed39 s.vm) (eT : T.heap = h) (N : Fr n0 locs) (F : Va Z h a .long vs) (hn : n0 ≤ a) {j : Int32} {i : Nat} {x : Int64} {v : Value} (hd : decode c.code pc = .ok (.lastore, 1)) (hj : ¬ j < 0) (hi : j.toNatClampNeg = i) (hv : vs[i]? = some v) (Ls : Array Slot) (st : List Value) :
    ∃ T' h' L, Stand p l e R s m args below meth c T' L cells slots ∧ T'.heap = h' ∧ Fr n0 L ∧ Wr h h' a i (.long x) ∧ Va Z h' a .long (vs.set i (.long x)) ∧ ∀ target, Steps p.tables e below (T'.setTop (mkF m (pc + 1) Ls st)) target → Steps p.tables e below (T.setTop (mkF m pc Ls (.long x :: .int j :: .ref a :: st))) target := by
  obtain ⟨cl, A, hs, hat⟩ := F.len
  obtain ⟨T', h', X', e', W, k⟩ := stJ X hx hZ eT A (j := j) (inV hs hj hi hv) (g := mkF m pc Ls (.long x :: .int j :: .ref a :: st)) rfl rfl hd
  subst hi
  exact ⟨T', h', _, X', e', Fr.snoc X' N hn, W, F.same W, k⟩
theorem h_iastore (X : Stand p l e R s m args below meth c T locs cells slots) (hx : p.tables.exec = Jvm.exec) (hZ : Z.Warmed39 s.vm) (eT : T.heap = h) (N : Fr n0 locs) (F : Va Z h a .int vs) (hn : n0 ≤ a) {j : Int32} {i : Nat} {x : Int32} {v : Value} (hd : decode c.code pc = .ok (.iastore, 1)) (hj : ¬ j < 0) (hi : j.toNatClampNeg = i) (hv : vs[i]? = some v) (Ls : Array Slot) (st : List Value) :
    ∃ T' h' L, Stand p l e R s m args below meth c T' L cells slots ∧ T'.heap = h' ∧ Fr n0 L ∧ Wr h h' a i (.int x) ∧ Va Z h' a .int (vs.set i (.int x)) ∧ ∀ target, Steps p.tables e below (T'.setTop (mkF m (pc + 1) Ls st)) target → Steps p.tables e below (T.setTop (mkF m pc Ls (.int x :: .int j :: .ref a :: st))) target := by
  obtain ⟨cl, A, hs, hat⟩ := F.len
  obtain ⟨T', h', X', e', W, k⟩ := stI X hx hZ eT A (j := j) (inV hs hj hi hv) (g := mkF m pc Ls (.int x :: .int j :: .ref a :: st)) rfl rfl hd
  subst hi
  exact ⟨T', h', _, X', e', Fr.snoc X' N hn, W, F.same W, k⟩
theorem h_newarray (X : Stand p l e R s m args below meth c T locs cells slots) (hx : p.tables.exec = Jvm.exec) (hZ : Z.Warmed39 s.vm) (eT : T.heap = h) {aty : ArrayType} {ty : FieldType} (hty : newarray.typeOf aty = ty) (w : (Jvm.Cond.arrayClass ty).before a0 Z = true) {n : Int32} {k cap : Nat} (hd : decode c.code pc = .ok (.newarray aty, 2)) (hn : ¬ n < 0) (hk : n.toNatClampNeg = k) (hcap : k ≤ cap) (hb : cap * 8 ≤ 536870912) (hc : cells + 1 ≤ R.cells) (hl : slots + cap ≤ R.slots) {ad : String} (had : "[" ++ ty.toString = ad) (Ls : Array Slot) (st : List Value) :
    ∃ T' h' a, Stand p l e R s m args below meth c T' locs (cells + 1) (slots + cap) ∧ T'.heap = h' ∧ a = h.size ∧ Ext h h' ∧ Va Z h' a ty (List.replicate k (defaultValue ty)) ∧ Exa Z h' a ad ∧ ∀ target, Steps p.tables e below (T'.setTop (mkF m (pc + 2) Ls (.ref a :: st))) target → Steps p.tables e below (T.setTop (mkF m pc Ls (.int n :: st))) target := by
  subst hty
  obtain ⟨T', h', cA, X', e', E, A, Ex, st'⟩ := newPE X hx hZ w eT (g := mkF m pc Ls (.int n :: st)) rfl hd rfl hn (cap := cap) (by rw [hk]; exact hcap) hb hc hl had
  exact ⟨T', h', _, X', e', rfl, E, Va.new A hk, Ex, st'⟩
end Arrays
/-! calls by a contract -/
section Calls
variable {p : Program} {l : Launch} {e : Env} {R : Room} {s : State} {m : MethodId} {args : Array Value} {below : List Frame} {meth : Method} {c : Code} {T : State} {locs : List Loc} {cells slots : Nat} {Z : State} {a0 : Array Value} {h h' : Heap} {n0 : Nat} {Q : Option Value → Heap → Prop}
variable {pc : Nat} {own : String} {i maxL : Nat} {y z : MethodName} {bytes : ByteArray} {ret : Option FieldType} {rm : Room} {as' : Array Value} {ps : List FieldType} {rt : Option FieldType}
theorem h_static (X : Stand p l e R s m args below meth c T locs cells slots) (hx : p.tables.exec = Jvm.exec) {Ls : Array Slot} {W : Nat} {argsL rest : List Value} (hZ : Z.Warmed39 s.vm) (eT : T.heap = h) (N : Fr n0 locs) (hml : c.maxLocals = Ls.size) (hown : s.vm.findClass own = some m.cls) (hK : Ctr l Z y bytes maxL ret rm as' h n0 Q) (w1 : (Jvm.Cond.methodLink own i y).before a0 Z = true) (w2 : (Jvm.Cond.static y).before a0 Z = true) (w3 : (Jvm.Cond.initialized y.cls).before a0 Z = true) (w4 : (Jvm.Cond.code y bytes maxL ret).before a0 Z = true) (hy : y.cls ≠ "java/lang/invoke/MethodHandle" ∧ y.cls ≠ "java/lang/invoke/VarHandle") (pd : parseMethodDescriptor y.desc = some ⟨ps, rt⟩) (hlen : argsL.length = ps.length) (has : as' = argsL.toArray) (hd : decode c.code pc = .ok (.invokestatic i, 3)) (hW : (rest.map fun v => v.category).sum = W) (hf : rm.frames + 1 ≤ R.frames) (hlo : W + (maxL + 11) + rm.locals ≤ R.locals) (hcc : cells + rm.cells ≤ R.cells) (hss : slots + rm.slots ≤ R.slots) :
    ∃ v T' h' L, Stand p l e R s m args below meth c T' L (cells + rm.cells) (slots + rm.slots) ∧ T'.heap = h' ∧ Fr n0 L ∧ Q v h' ∧ ∀ target, Steps p.tables e below (T'.setTop (mkF m (pc + 3) Ls (v.toList ++ rest))) target → Steps p.tables e below (T.setTop (mkF m pc Ls (argsL.reverse ++ rest))) target := by
  obtain ⟨v, _, ⟨T', L', k', n'⟩, -, X', ⟨Lc, hQ, h1, h2, h3⟩, st⟩ := Jvm.LawKit.callS X hx (y := y) hown (mvT hZ w1) (mvT hZ w2) (mvT hZ w3) (mvT hZ w4) hy (backOf (W := W) (hK []) hZ w4 w3 hf hlo) (g := mkF m pc Ls (argsL.reverse ++ rest)) rfl hml.symm (argsL := argsL) (rest := rest) (lenOf pd hlen) rfl (by show 2 * 0 + _ ≤ _; omega) hd (fun _ _ => ⟨has.symm, eT, hcc, hss⟩)
  dsimp only [Pt.U, Pt.locs, Pt.cells, Pt.slots] at X' h1 h2 h3 st hQ
  subst h1 h2 h3
  exact ⟨v, T', _, _, X', rfl, N.app hQ.2, hQ.1, st⟩
theorem h_special (X : Stand p l e R s m args below meth c T locs cells slots) (hx : p.tables.exec = Jvm.exec) {Ls : Array Slot} {W : Nat} {a : Addr} {argsL rest : List Value} (hZ : Z.Warmed39 s.vm) (eT : T.heap = h) (N : Fr n0 locs) (hml : c.maxLocals = Ls.size) (hown : s.vm.findClass own = some m.cls) (hy1 : y.name = "<init>") (hK : Ctr l Z y bytes maxL none rm as' h n0 Q) (w1 : (Jvm.Cond.methodLink own i y).before a0 Z = true) (w2 : (Jvm.Cond.instanceMethod y).before a0 Z = true) (w3 : (Jvm.Cond.initialized y.cls).before a0 Z = true) (w4 : (Jvm.Cond.code y bytes maxL none).before a0 Z = true) (hy : y.cls ≠ "java/lang/invoke/MethodHandle" ∧ y.cls ≠ "java/lang/invoke/VarHandle") (pd : parseMethodDescriptor y.desc = some ⟨ps, rt⟩) (hlen : argsL.length = ps.length) (has : as' = (.ref a :: argsL).toArray) (hd : decode c.code pc = .ok (.invokespecial i, 3)) (hW : (rest.map fun v => v.category).sum = W) (hf : rm.frames + 1 ≤ R.frames) (hlo : W + (maxL + 11) + rm.locals ≤ R.locals) (hcc : cells + rm.cells ≤ R.cells) (hss : slots + rm.slots ≤ R.slots) :
    ∃ v T' h' L, Stand p l e R s m args below meth c T' L (cells + rm.cells) (slots + rm.slots) ∧ T'.heap = h' ∧ Fr n0 L ∧ Q v h' ∧ ∀ target, Steps p.tables e below (T'.setTop (mkF m (pc + 3) Ls (v.toList ++ rest))) target → Steps p.tables e below (T.setTop (mkF m pc Ls (argsL.reverse ++ .ref a :: rest))) target := by
  obtain ⟨v, _, ⟨T', L', k', n'⟩, -, X', ⟨Lc, hQ, h1, h2, h3⟩, st⟩ := X.specialBack hx (y := y) hy1 hown (mvT hZ w1) (mvT hZ w2) (mvT hZ w4) hy (backOf (W := W) (hK []) hZ w4 w3 hf hlo) (g := mkF m pc Ls (argsL.reverse ++ .ref a :: rest)) rfl hml.symm (Steps.refl _) (a := a) (argsL := argsL) (rest := rest) (lenOf pd hlen) rfl (by show 2 * 0 + _ ≤ _; omega) hd (fun _ _ => ⟨has.symm, eT, hcc, hss⟩)
  dsimp only [Pt.U, Pt.locs, Pt.cells, Pt.slots] at X' h1 h2 h3 st hQ
  subst h1 h2 h3
  exact ⟨v, T', _, _, X', rfl, N.app hQ.2, hQ.1, fun t k => st.trans k⟩
theorem h_virtual (X : Stand p l e R s m args below meth c T locs cells slots) (hx : p.tables.exec = Jvm.exec) {Ls : Array Slot} {W : Nat} {a : Addr} {cls : String} {argsL rest : List Value} (hZ : Z.Warmed39 s.vm) (eT : T.heap = h) (N : Fr n0 locs) (hml : c.maxLocals = Ls.size) (hown : s.vm.findClass own = some m.cls) (hK : Ctr l Z z bytes maxL ret rm as' h n0 Q) (E : Exa Z h a cls) (w1 : (Jvm.Cond.methodLink own i y).before a0 Z = true) (w2 : (Jvm.Cond.declares y).before a0 Z = true) (nf : NotFace s y) (w5 : (Jvm.Cond.selects cls y z).before a0 Z = true) (w6 : (Jvm.Cond.instanceMethod z).before a0 Z = true) (w3 : (Jvm.Cond.initialized z.cls).before a0 Z = true) (w4 : (Jvm.Cond.code z bytes maxL ret).before a0 Z = true) (hy : y.cls ≠ "java/lang/invoke/MethodHandle" ∧ y.cls ≠ "java/lang/invoke/VarHandle") (pd : parseMethodDescriptor y.desc = some ⟨ps, rt⟩) (hlen : argsL.length = ps.length) (has : as' = (.ref a :: argsL).toArray) (hd : decode c.code pc = .ok (.invokevirtual i, 3)) (hW : (rest.map fun v => v.category).sum = W) (hf : rm.frames + 1 ≤ R.frames) (hlo : W + (maxL + 11) + rm.locals ≤ R.locals) (hcc : cells + rm.cells ≤ R.cells) (hss : slots + rm.slots ≤ R.slots) :
    ∃ v T' h' L, Stand p l e R s m args below meth c T' L (cells + rm.cells) (slots + rm.slots) ∧ T'.heap = h' ∧ Fr n0 L ∧ Q v h' ∧ ∀ target, Steps p.tables e below (T'.setTop (mkF m (pc + 3) Ls (v.toList ++ rest))) target → Steps p.tables e below (T.setTop (mkF m pc Ls (argsL.reverse ++ .ref a :: rest))) target := by
  obtain ⟨cq, kq, qa, qb, qc⟩ := isOf hZ eT E
  obtain ⟨v, _, ⟨T', L', k', n'⟩, -, X', ⟨Lc, hQ, h1, h2, h3⟩, st⟩ := X.virtualBack hx (y := y) (z := z) hown (mvT hZ w1) (mvT hZ w2) nf (mvT hZ w5) (mvT hZ w6) hy (backOf (W := W) (hK []) hZ w4 w3 hf hlo) qa qc (g := mkF m pc Ls (argsL.reverse ++ .ref a :: rest)) rfl hml.symm (Steps.refl _) (argsL := argsL) (rest := rest) (lenOf pd hlen) rfl (by show 2 * 0 + _ ≤ _; omega) hd (fun _ _ => ⟨has.symm, eT, hcc, hss⟩)
  dsimp only [Pt.U, Pt.locs, Pt.cells, Pt.slots] at X' h1 h2 h3 st hQ
  subst h1 h2 h3
  exact ⟨v, T', _, _, X', rfl, N.app hQ.2, hQ.1, fun t k => st.trans k⟩
theorem h_specialN (X : Stand p l e R s m args below meth c T locs cells slots) (hx : p.tables.exec = Jvm.exec) {Ls : Array Slot} {W : Nat} {a : Addr} {host : String} {argsL rest : List Value} (hZ : Z.Warmed39 s.vm) (eT : T.heap = h) (N : Fr n0 locs) (hml : c.maxLocals = Ls.size) (hown : s.vm.findClass own = some m.cls) (hy1 : y.name = "<init>") (hK : Ctr l Z y bytes maxL none rm as' h n0 Q) (w1 : (Jvm.Cond.methodLinkNest own i y host).before a0 Z = true) (w2 : (Jvm.Cond.instanceMethod y).before a0 Z = true) (w3 : (Jvm.Cond.initialized y.cls).before a0 Z = true) (w4 : (Jvm.Cond.code y bytes maxL none).before a0 Z = true) (hy : y.cls ≠ "java/lang/invoke/MethodHandle" ∧ y.cls ≠ "java/lang/invoke/VarHandle") (pd : parseMethodDescriptor y.desc = some ⟨ps, rt⟩) (hlen : argsL.length = ps.length) (has : as' = (.ref a :: argsL).toArray) (hd : decode c.code pc = .ok (.invokespecial i, 3)) (hW : (rest.map fun v => v.category).sum = W) (hf : rm.frames + 1 ≤ R.frames) (hlo : W + (maxL + 11) + rm.locals ≤ R.locals) (hcc : cells + rm.cells ≤ R.cells) (hss : slots + rm.slots ≤ R.slots) :
    ∃ v T' h' L, Stand p l e R s m args below meth c T' L (cells + rm.cells) (slots + rm.slots) ∧ T'.heap = h' ∧ Fr n0 L ∧ Q v h' ∧ ∀ target, Steps p.tables e below (T'.setTop (mkF m (pc + 3) Ls (v.toList ++ rest))) target → Steps p.tables e below (T.setTop (mkF m pc Ls (argsL.reverse ++ .ref a :: rest))) target := by
  obtain ⟨v, _, ⟨T', L', k', n'⟩, -, X', ⟨Lc, hQ, h1, h2, h3⟩, st⟩ := X.specialBackNest hx (y := y) hy1 hown (Jvm.Cond.methodLinkNest_wide hZ w1) (mvT hZ w2) (mvT hZ w4) hy (backOf (W := W) (hK []) hZ w4 w3 hf hlo) (g := mkF m pc Ls (argsL.reverse ++ .ref a :: rest)) rfl hml.symm (Steps.refl _) (a := a) (argsL := argsL) (rest := rest) (lenOf pd hlen) rfl (by show 2 * 0 + _ ≤ _; omega) hd (fun _ _ => ⟨has.symm, eT, hcc, hss⟩)
  dsimp only [Pt.U, Pt.locs, Pt.cells, Pt.slots] at X' h1 h2 h3 st hQ
  subst h1 h2 h3
  exact ⟨v, T', _, _, X', rfl, N.app hQ.2, hQ.1, fun t k => st.trans k⟩
theorem h_private (X : Stand p l e R s m args below meth c T locs cells slots) (hx : p.tables.exec = Jvm.exec) {Ls : Array Slot} {W : Nat} {a : Addr} {cls : String} {kk : Nat} {argsL rest : List Value} (hZ : Z.Warmed39 s.vm) (eT : T.heap = h) (N : Fr n0 locs) (hml : c.maxLocals = Ls.size) (hown : s.vm.findClass own = some m.cls) (hK : Ctr l Z y bytes maxL ret rm as' h n0 Q) (E : Exa Z h a cls) (w1 : (Jvm.Cond.methodLink own i y).before a0 Z = true) (w2 : (Jvm.Cond.instanceMethod y).before a0 Z = true) (wp : (Jvm.Cond.privateMethod y).before a0 Z = true) (wi : (Jvm.Cond.instantiable y.cls kk).before a0 Z = true) (w3 : (Jvm.Cond.initialized y.cls).before a0 Z = true) (w4 : (Jvm.Cond.code y bytes maxL ret).before a0 Z = true) (hy : y.cls ≠ "java/lang/invoke/MethodHandle" ∧ y.cls ≠ "java/lang/invoke/VarHandle") (pd : parseMethodDescriptor y.desc = some ⟨ps, rt⟩) (hlen : argsL.length = ps.length) (has : as' = (.ref a :: argsL).toArray) (hd : decode c.code pc = .ok (.invokevirtual i, 3)) (hW : (rest.map fun v => v.category).sum = W) (hf : rm.frames + 1 ≤ R.frames) (hlo : W + (maxL + 11) + rm.locals ≤ R.locals) (hcc : cells + rm.cells ≤ R.cells) (hss : slots + rm.slots ≤ R.slots) :
    ∃ v T' h' L, Stand p l e R s m args below meth c T' L (cells + rm.cells) (slots + rm.slots) ∧ T'.heap = h' ∧ Fr n0 L ∧ Q v h' ∧ ∀ target, Steps p.tables e below (T'.setTop (mkF m (pc + 3) Ls (v.toList ++ rest))) target → Steps p.tables e below (T.setTop (mkF m pc Ls (argsL.reverse ++ .ref a :: rest))) target := by
  obtain ⟨cq, q1, q2⟩ := E.cell
  obtain ⟨c2, k2, i1, i2, i3, i4, -⟩ := Jvm.Cond.instantiable_spec (mvT (args := args) (d := .instantiable y.cls kk) hZ wi)
  have hpv := Jvm.Cond.privateMethod_at (mvP hZ wp (args := args))
  have hsel := selects_self_of_private (args := args) i1 i2 (by revert i4; cases k2.isInterface <;> simp) hpv (mvT hZ w2) hy
  obtain ⟨v, _, ⟨T', L', k', n'⟩, -, X', ⟨Lc, hQ, h1, h2, h3⟩, st⟩ := X.privateBack hx (y := y) hown (mvT hZ w1) (mvT hZ w2) hsel hpv (mvT hZ w4) hy (backOf (W := W) (hK []) hZ w4 w3 hf hlo) (g := mkF m pc Ls (argsL.reverse ++ .ref a :: rest)) rfl hml.symm (Steps.refl _) (a := a) (by rw [eT]; exact q1) q2 (argsL := argsL) (rest := rest) (lenOf pd hlen) rfl (by show 2 * 0 + _ ≤ _; omega) hd (fun _ _ => ⟨has.symm, eT, hcc, hss⟩)
  dsimp only [Pt.U, Pt.locs, Pt.cells, Pt.slots] at X' h1 h2 h3 st hQ
  subst h1 h2 h3
  exact ⟨v, T', _, _, X', rfl, N.app hQ.2, hQ.1, fun t k => st.trans k⟩
end Calls
/-! an enum's constant, where the law begins -/
theorem enum_at {C f d : String} {a0 : Array Value} {k : Int32} {s : State} (h1 : (Jvm.Cond.exactly (.static C f d) C).value a0 s none s [] = some true) (h2 : (Jvm.Cond.eq (.field (.static C f d) "java/lang/Enum" "ordinal" "I") (.int k)).value a0 s none s [] = some true)
    (wi : (Jvm.Cond.initialized C).before a0 s = true) (wl : (Jvm.Cond.laysStatic C f d).before a0 s = true) : ∃ a, Sta s s.heap C f d (.ref a) ∧ Exa s s.heap a C ∧ s.fieldOf? a "java/lang/Enum" "ordinal" "I" = some (.int k) := by
  obtain ⟨a, ev⟩ := exa_v h1
  refine ⟨a, Sta.start ev (Or.inr ⟨wi, wl⟩), Exa.start ev h1, ?_⟩
  obtain ⟨x, y, e1, e2, k1, k2⟩ := cmp_v (Or.inl h2)
  have ey : y = .int k := (Option.some.inj ((Term.int_eval k).symm.trans e2)).symm
  subst ey
  obtain ⟨z, rfl⟩ := k2
  have q : (Jvm.Cond.eq (.field (.static C f d) "java/lang/Enum" "ordinal" "I") (.int k)).value a0 s none s [] = some (decide (z = k)) := by simp [Jvm.Cond.value, e1, e2]
  have r := gotT q h2
  subst r
  rw [← fld_at (C := "java/lang/Enum") (n := "ordinal") (dd := "I") ev]
  exact e1
theorem enum_ne {s : State} {a b : Addr} {k k' : Int32} (h1 : s.fieldOf? a "java/lang/Enum" "ordinal" "I" = some (.int k)) (h2 : s.fieldOf? b "java/lang/Enum" "ordinal" "I" = some (.int k')) (q : k ≠ k') : a ≠ b := fun e => by
  subst e
  rw [h1] at h2
  exact q (Value.int.inj (Option.some.inj h2))
end Jvm.OwnKit
namespace Jvm.Pilot.@@N@@
open Jvm Jvm.ClassFile Sem Op Lib Jvm.Free Jvm.Stand Jvm.LawKit Jvm.RoadKit Jvm.OwnKit Bundle Jvm.Pilot.@@N@@.Jvm.D
def maxI (x y : Int32) : Int32 := if x < y then y else x
def nzA (k t sh : Int32) (p : Int32 × Int32) : Int32 × Int32 := if p.2 < t then p else (p.1 + k, ushr p.2 sh)
def nlzI (x : Int32) : Int32 := if 0 < x then (nzA (-2) 4 2 (nzA (-4) 16 4 (nzA (-8) 256 8 (nzA (-16) 65536 16 (31, x))))).1 - ushr (nzA (-2) 4 2 (nzA (-4) 16 4 (nzA (-8) 256 8 (nzA (-16) 65536 16 (31, x))))).2 1 else if x = 0 then 32 else 0
def nlzJ (x : Int64) : Int32 := if (lushr x 32).toInt32 = 0 then 32 + nlzI x.toInt32 else nlzI (lushr x 32).toInt32
def meanV (c s : Int64) : Int64 := if c = 0 then 0 else s / c
def lowV (c s : Int64) : Int32 := maxI 0 (62 - nlzJ (meanV c s))
def bestV (c q0 q1 q2 : Int64) : Int32 := if c * (1 : Int32).toInt64 + q1 < c * (0 : Int32).toInt64 + q0 then (if c * (2 : Int32).toInt64 + q2 < c * (1 : Int32).toInt64 + q1 then 2 else 1) else (if c * (2 : Int32).toInt64 + q2 < c * (0 : Int32).toInt64 + q0 then 2 else 0)
def bitsV (c : Int64) (lo : Int32) (q0 q1 q2 : Int64) : Int64 := c * ((lo + bestV c q0 q1 q2) + 1).toInt64 + (if bestV c q0 q1 q2 = 0 then q0 else if bestV c q0 q1 q2 = 1 then q1 else q2)
theorem own_best (c q0 q1 q2 : Int64) : bestV c q0 q1 q2 = 0 ∨ bestV c q0 q1 q2 = 1 ∨ bestV c q0 q1 q2 = 2 := by
  unfold bestV; split <;> split <;> simp
theorem own_bits {c : Int64} {lo : Int32} {a1 a2 a3 b1 b2 b3 : Int64} (h1 : a1 = b1) (h2 : a2 = b2) (h3 : a3 = b3) : bitsV c lo a1 a2 a3 = bitsV c lo b1 b2 b3 := by rw [h1, h2, h3]
theorem own_par {c : Int64} {lo : Int32} {a1 a2 a3 b1 b2 b3 : Int64} (h1 : a1 = b1) (h2 : a2 = b2) (h3 : a3 = b3) : lo + bestV c a1 a2 a3 = lo + bestV c b1 b2 b3 := by rw [h1, h2, h3]
theorem d6_0 : decode jdk_33_method_47_code 0 = .ok (.iload_n 0, 1) := by decide +kernel
theorem d6_1 : decode jdk_33_method_47_code 1 = .ok (.ifCond .gt 14, 3) := by decide +kernel
theorem d6_4 : decode jdk_33_method_47_code 4 = .ok (.iload_n 0, 1) := by decide +kernel
theorem d6_5 : decode jdk_33_method_47_code 5 = .ok (.ifCond .ne 8, 3) := by decide +kernel
theorem d6_8 : decode jdk_33_method_47_code 8 = .ok (.bipush 32, 2) := by decide +kernel
theorem d6_10 : decode jdk_33_method_47_code 10 = .ok (.goto 4, 3) := by decide +kernel
theorem d6_13 : decode jdk_33_method_47_code 13 = .ok (.iconst 0, 1) := by decide +kernel
theorem d6_14 : decode jdk_33_method_47_code 14 = .ok (.ireturn, 1) := by decide +kernel
theorem d6_15 : decode jdk_33_method_47_code 15 = .ok (.bipush 31, 2) := by decide +kernel
theorem d6_17 : decode jdk_33_method_47_code 17 = .ok (.istore_n 1, 1) := by decide +kernel
theorem d6_18 : decode jdk_33_method_47_code 18 = .ok (.iload_n 0, 1) := by decide +kernel
theorem d6_19 : decode jdk_33_method_47_code 19 = .ok (.ldc_w 264, 3) := by decide +kernel
theorem d6_22 : decode jdk_33_method_47_code 22 = .ok (.if_icmp .lt 11, 3) := by decide +kernel
theorem d6_25 : decode jdk_33_method_47_code 25 = .ok (.iinc 1 (-16), 3) := by decide +kernel
theorem d6_28 : decode jdk_33_method_47_code 28 = .ok (.iload_n 0, 1) := by decide +kernel
theorem d6_29 : decode jdk_33_method_47_code 29 = .ok (.bipush 16, 2) := by decide +kernel
theorem d6_31 : decode jdk_33_method_47_code 31 = .ok (.iushr, 1) := by decide +kernel
theorem d6_32 : decode jdk_33_method_47_code 32 = .ok (.istore_n 0, 1) := by decide +kernel
theorem d6_33 : decode jdk_33_method_47_code 33 = .ok (.iload_n 0, 1) := by decide +kernel
theorem d6_34 : decode jdk_33_method_47_code 34 = .ok (.sipush 256, 3) := by decide +kernel
theorem d6_37 : decode jdk_33_method_47_code 37 = .ok (.if_icmp .lt 11, 3) := by decide +kernel
theorem d6_40 : decode jdk_33_method_47_code 40 = .ok (.iinc 1 (-8), 3) := by decide +kernel
theorem d6_43 : decode jdk_33_method_47_code 43 = .ok (.iload_n 0, 1) := by decide +kernel
theorem d6_44 : decode jdk_33_method_47_code 44 = .ok (.bipush 8, 2) := by decide +kernel
theorem d6_46 : decode jdk_33_method_47_code 46 = .ok (.iushr, 1) := by decide +kernel
theorem d6_47 : decode jdk_33_method_47_code 47 = .ok (.istore_n 0, 1) := by decide +kernel
theorem d6_48 : decode jdk_33_method_47_code 48 = .ok (.iload_n 0, 1) := by decide +kernel
theorem d6_49 : decode jdk_33_method_47_code 49 = .ok (.bipush 16, 2) := by decide +kernel
theorem d6_51 : decode jdk_33_method_47_code 51 = .ok (.if_icmp .lt 10, 3) := by decide +kernel
theorem d6_54 : decode jdk_33_method_47_code 54 = .ok (.iinc 1 (-4), 3) := by decide +kernel
theorem d6_57 : decode jdk_33_method_47_code 57 = .ok (.iload_n 0, 1) := by decide +kernel
theorem d6_58 : decode jdk_33_method_47_code 58 = .ok (.iconst 4, 1) := by decide +kernel
theorem d6_59 : decode jdk_33_method_47_code 59 = .ok (.iushr, 1) := by decide +kernel
theorem d6_60 : decode jdk_33_method_47_code 60 = .ok (.istore_n 0, 1) := by decide +kernel
theorem d6_61 : decode jdk_33_method_47_code 61 = .ok (.iload_n 0, 1) := by decide +kernel
theorem d6_62 : decode jdk_33_method_47_code 62 = .ok (.iconst 4, 1) := by decide +kernel
theorem d6_63 : decode jdk_33_method_47_code 63 = .ok (.if_icmp .lt 10, 3) := by decide +kernel
theorem d6_66 : decode jdk_33_method_47_code 66 = .ok (.iinc 1 (-2), 3) := by decide +kernel
theorem d6_69 : decode jdk_33_method_47_code 69 = .ok (.iload_n 0, 1) := by decide +kernel
theorem d6_70 : decode jdk_33_method_47_code 70 = .ok (.iconst 2, 1) := by decide +kernel
theorem d6_71 : decode jdk_33_method_47_code 71 = .ok (.iushr, 1) := by decide +kernel
theorem d6_72 : decode jdk_33_method_47_code 72 = .ok (.istore_n 0, 1) := by decide +kernel
theorem d6_73 : decode jdk_33_method_47_code 73 = .ok (.iload_n 1, 1) := by decide +kernel
theorem d6_74 : decode jdk_33_method_47_code 74 = .ok (.iload_n 0, 1) := by decide +kernel
theorem d6_75 : decode jdk_33_method_47_code 75 = .ok (.iconst 1, 1) := by decide +kernel
theorem d6_76 : decode jdk_33_method_47_code 76 = .ok (.iushr, 1) := by decide +kernel
theorem d6_77 : decode jdk_33_method_47_code 77 = .ok (.isub, 1) := by decide +kernel
theorem d6_78 : decode jdk_33_method_47_code 78 = .ok (.ireturn, 1) := by decide +kernel
theorem pn_6 : plainName "java/lang/Integer" = true := by first | (simp [plainName, overriddenIn]; done) | decide +kernel
theorem ef_6 (x0 : Int32) (m : MethodId) : entryFrame m #[(.int x0)] 2 = mkF m 0 #[.val (.int x0), .unset] [] := by first | (simp [entryFrame, mkF, argsToLocals, Value.category]; done) | rfl
def Q6 (Z : State) (p1 : Int32) (h0 : Heap) (n0 : Nat) : Option Value → Heap → Prop := fun v h => v = some (.int (nlzI p1)) ∧ h0 = h
set_option maxRecDepth 65536 in
set_option maxHeartbeats 40000000 in
theorem rm6 (l : Launch) (Z : State) (a0 : Array Value) (hw : ∀ d ∈ tables_1, d.before a0 Z = true) (p1 : Int32) (h0 : Heap) (n0 : Nat) (Z0 : n0 ≤ h0.size) : Ctr l Z (⟨"java/lang/Integer", "numberOfLeadingZeros", "(I)I"⟩ : MethodName) jdk_33_method_47_code 2 (some .int) ({ frames := 0, cells := 0, slots := 0, locals := 0 } : Room) #[(.int p1)] h0 n0 (Q6 Z p1 h0 n0) := by
  refine Ctr.of (plainFor_of_name pn_6) (ef_6 p1) ?_
  intro p e s m below meth c T0 hx hby hml hown hnm hret hlk hZ X0 e0
  have N0 := Fr.nil n0
  refine g_iloadN X0 hx (hb hby d6_0) (pc' := 1) rfl rfl ?_
  refine g_if_gt X0 hx (hb hby d6_1) (pc1 := 4) rfl (by decide) (pc2 := 15) (by decide) (fun hc1 => ?_) (fun hc1 => ?_)
  · skip
    refine g_bipush X0 hx (hb hby d6_15) (pc' := 17) rfl (z := (31 : Int32)) rfl ?_
    refine g_istoreN X0 hx (hb hby d6_17) (pc' := 18) rfl (Ls' := #[.val (.int p1), .val (.int (31 : Int32))]) rfl ?_
    refine g_iloadN X0 hx (hb hby d6_18) (pc' := 19) rfl rfl ?_
    refine g_ldc_w X0 hx hZ hown (hw _ (List.mem_of_getElem? (i := 117) rfl)) (hb hby d6_19) (pc' := 22) rfl ?_
    refine g_icmp_lt X0 hx (hb hby d6_22) (pc1 := 25) rfl (by decide) (pc2 := 33) (by decide) (fun hc22 => ?_) (fun hc22 => ?_)
    · skip
      refine g_iloadN X0 hx (hb hby d6_33) (pc' := 34) rfl rfl ?_
      refine g_sipush X0 hx (hb hby d6_34) (pc' := 37) rfl (z := (256 : Int32)) rfl ?_
      refine g_icmp_lt X0 hx (hb hby d6_37) (pc1 := 40) rfl (by decide) (pc2 := 48) (by decide) (fun hc37 => ?_) (fun hc37 => ?_)
      · skip
        refine g_iloadN X0 hx (hb hby d6_48) (pc' := 49) rfl rfl ?_
        refine g_bipush X0 hx (hb hby d6_49) (pc' := 51) rfl (z := (16 : Int32)) rfl ?_
        refine g_icmp_lt X0 hx (hb hby d6_51) (pc1 := 54) rfl (by decide) (pc2 := 61) (by decide) (fun hc51 => ?_) (fun hc51 => ?_)
        · skip
          refine g_iloadN X0 hx (hb hby d6_61) (pc' := 62) rfl rfl ?_
          refine g_iconst X0 hx (hb hby d6_62) (pc' := 63) rfl (z := (4 : Int32)) rfl ?_
          refine g_icmp_lt X0 hx (hb hby d6_63) (pc1 := 66) rfl (by decide) (pc2 := 73) (by decide) (fun hc63 => ?_) (fun hc63 => ?_)
          · skip
            refine g_iloadN X0 hx (hb hby d6_73) (pc' := 74) rfl rfl ?_
            refine g_iloadN X0 hx (hb hby d6_74) (pc' := 75) rfl rfl ?_
            refine g_iconst X0 hx (hb hby d6_75) (pc' := 76) rfl (z := (1 : Int32)) rfl ?_
            refine g_iushr X0 hx (hb hby d6_76) (pc' := 77) rfl ?_
            refine g_isub X0 hx (hb hby d6_77) (pc' := 78) rfl ?_
            exact g_ireturn X0 hx hret (hb hby d6_78) N0 hlk (fun v t => endF (by decide) (by decide) v) (by rw [e0]; refine ⟨?_, rfl⟩; simp [nlzI, nzA, hc1, hc22, hc37, hc51, hc63])
          · skip
            refine g_iinc X0 hx (hb hby d6_66) (pc' := 69) rfl rfl (z := (-2 : Int32)) rfl (Ls' := #[.val (.int p1), .val (.int (29 : Int32))]) rfl ?_
            refine g_iloadN X0 hx (hb hby d6_69) (pc' := 70) rfl rfl ?_
            refine g_iconst X0 hx (hb hby d6_70) (pc' := 71) rfl (z := (2 : Int32)) rfl ?_
            refine g_iushr X0 hx (hb hby d6_71) (pc' := 72) rfl ?_
            refine g_istoreN X0 hx (hb hby d6_72) (pc' := 73) rfl (Ls' := #[.val (.int (ushr p1 (2 : Int32))), .val (.int (29 : Int32))]) rfl ?_
            refine g_iloadN X0 hx (hb hby d6_73) (pc' := 74) rfl rfl ?_
            refine g_iloadN X0 hx (hb hby d6_74) (pc' := 75) rfl rfl ?_
            refine g_iconst X0 hx (hb hby d6_75) (pc' := 76) rfl (z := (1 : Int32)) rfl ?_
            refine g_iushr X0 hx (hb hby d6_76) (pc' := 77) rfl ?_
            refine g_isub X0 hx (hb hby d6_77) (pc' := 78) rfl ?_
            exact g_ireturn X0 hx hret (hb hby d6_78) N0 hlk (fun v t => endF (by decide) (by decide) v) (by rw [e0]; refine ⟨?_, rfl⟩; simp [nlzI, nzA, hc1, hc22, hc37, hc51, hc63])
        · skip
          refine g_iinc X0 hx (hb hby d6_54) (pc' := 57) rfl rfl (z := (-4 : Int32)) rfl (Ls' := #[.val (.int p1), .val (.int (27 : Int32))]) rfl ?_
          refine g_iloadN X0 hx (hb hby d6_57) (pc' := 58) rfl rfl ?_
          refine g_iconst X0 hx (hb hby d6_58) (pc' := 59) rfl (z := (4 : Int32)) rfl ?_
          refine g_iushr X0 hx (hb hby d6_59) (pc' := 60) rfl ?_
          refine g_istoreN X0 hx (hb hby d6_60) (pc' := 61) rfl (Ls' := #[.val (.int (ushr p1 (4 : Int32))), .val (.int (27 : Int32))]) rfl ?_
          refine g_iloadN X0 hx (hb hby d6_61) (pc' := 62) rfl rfl ?_
          refine g_iconst X0 hx (hb hby d6_62) (pc' := 63) rfl (z := (4 : Int32)) rfl ?_
          refine g_icmp_lt X0 hx (hb hby d6_63) (pc1 := 66) rfl (by decide) (pc2 := 73) (by decide) (fun hc63 => ?_) (fun hc63 => ?_)
          · skip
            refine g_iloadN X0 hx (hb hby d6_73) (pc' := 74) rfl rfl ?_
            refine g_iloadN X0 hx (hb hby d6_74) (pc' := 75) rfl rfl ?_
            refine g_iconst X0 hx (hb hby d6_75) (pc' := 76) rfl (z := (1 : Int32)) rfl ?_
            refine g_iushr X0 hx (hb hby d6_76) (pc' := 77) rfl ?_
            refine g_isub X0 hx (hb hby d6_77) (pc' := 78) rfl ?_
            exact g_ireturn X0 hx hret (hb hby d6_78) N0 hlk (fun v t => endF (by decide) (by decide) v) (by rw [e0]; refine ⟨?_, rfl⟩; simp [nlzI, nzA, hc1, hc22, hc37, hc51, hc63])
          · skip
            refine g_iinc X0 hx (hb hby d6_66) (pc' := 69) rfl rfl (z := (-2 : Int32)) rfl (Ls' := #[.val (.int (ushr p1 (4 : Int32))), .val (.int (25 : Int32))]) rfl ?_
            refine g_iloadN X0 hx (hb hby d6_69) (pc' := 70) rfl rfl ?_
            refine g_iconst X0 hx (hb hby d6_70) (pc' := 71) rfl (z := (2 : Int32)) rfl ?_
            refine g_iushr X0 hx (hb hby d6_71) (pc' := 72) rfl ?_
            refine g_istoreN X0 hx (hb hby d6_72) (pc' := 73) rfl (Ls' := #[.val (.int (ushr (ushr p1 (4 : Int32)) (2 : Int32))), .val (.int (25 : Int32))]) rfl ?_
            refine g_iloadN X0 hx (hb hby d6_73) (pc' := 74) rfl rfl ?_
            refine g_iloadN X0 hx (hb hby d6_74) (pc' := 75) rfl rfl ?_
            refine g_iconst X0 hx (hb hby d6_75) (pc' := 76) rfl (z := (1 : Int32)) rfl ?_
            refine g_iushr X0 hx (hb hby d6_76) (pc' := 77) rfl ?_
            refine g_isub X0 hx (hb hby d6_77) (pc' := 78) rfl ?_
            exact g_ireturn X0 hx hret (hb hby d6_78) N0 hlk (fun v t => endF (by decide) (by decide) v) (by rw [e0]; refine ⟨?_, rfl⟩; simp [nlzI, nzA, hc1, hc22, hc37, hc51, hc63])
      · skip
        refine g_iinc X0 hx (hb hby d6_40) (pc' := 43) rfl rfl (z := (-8 : Int32)) rfl (Ls' := #[.val (.int p1), .val (.int (23 : Int32))]) rfl ?_
        refine g_iloadN X0 hx (hb hby d6_43) (pc' := 44) rfl rfl ?_
        refine g_bipush X0 hx (hb hby d6_44) (pc' := 46) rfl (z := (8 : Int32)) rfl ?_
        refine g_iushr X0 hx (hb hby d6_46) (pc' := 47) rfl ?_
        refine g_istoreN X0 hx (hb hby d6_47) (pc' := 48) rfl (Ls' := #[.val (.int (ushr p1 (8 : Int32))), .val (.int (23 : Int32))]) rfl ?_
        refine g_iloadN X0 hx (hb hby d6_48) (pc' := 49) rfl rfl ?_
        refine g_bipush X0 hx (hb hby d6_49) (pc' := 51) rfl (z := (16 : Int32)) rfl ?_
        refine g_icmp_lt X0 hx (hb hby d6_51) (pc1 := 54) rfl (by decide) (pc2 := 61) (by decide) (fun hc51 => ?_) (fun hc51 => ?_)
        · skip
          refine g_iloadN X0 hx (hb hby d6_61) (pc' := 62) rfl rfl ?_
          refine g_iconst X0 hx (hb hby d6_62) (pc' := 63) rfl (z := (4 : Int32)) rfl ?_
          refine g_icmp_lt X0 hx (hb hby d6_63) (pc1 := 66) rfl (by decide) (pc2 := 73) (by decide) (fun hc63 => ?_) (fun hc63 => ?_)
          · skip
            refine g_iloadN X0 hx (hb hby d6_73) (pc' := 74) rfl rfl ?_
            refine g_iloadN X0 hx (hb hby d6_74) (pc' := 75) rfl rfl ?_
            refine g_iconst X0 hx (hb hby d6_75) (pc' := 76) rfl (z := (1 : Int32)) rfl ?_
            refine g_iushr X0 hx (hb hby d6_76) (pc' := 77) rfl ?_
            refine g_isub X0 hx (hb hby d6_77) (pc' := 78) rfl ?_
            exact g_ireturn X0 hx hret (hb hby d6_78) N0 hlk (fun v t => endF (by decide) (by decide) v) (by rw [e0]; refine ⟨?_, rfl⟩; simp [nlzI, nzA, hc1, hc22, hc37, hc51, hc63])
          · skip
            refine g_iinc X0 hx (hb hby d6_66) (pc' := 69) rfl rfl (z := (-2 : Int32)) rfl (Ls' := #[.val (.int (ushr p1 (8 : Int32))), .val (.int (21 : Int32))]) rfl ?_
            refine g_iloadN X0 hx (hb hby d6_69) (pc' := 70) rfl rfl ?_
            refine g_iconst X0 hx (hb hby d6_70) (pc' := 71) rfl (z := (2 : Int32)) rfl ?_
            refine g_iushr X0 hx (hb hby d6_71) (pc' := 72) rfl ?_
            refine g_istoreN X0 hx (hb hby d6_72) (pc' := 73) rfl (Ls' := #[.val (.int (ushr (ushr p1 (8 : Int32)) (2 : Int32))), .val (.int (21 : Int32))]) rfl ?_
            refine g_iloadN X0 hx (hb hby d6_73) (pc' := 74) rfl rfl ?_
            refine g_iloadN X0 hx (hb hby d6_74) (pc' := 75) rfl rfl ?_
            refine g_iconst X0 hx (hb hby d6_75) (pc' := 76) rfl (z := (1 : Int32)) rfl ?_
            refine g_iushr X0 hx (hb hby d6_76) (pc' := 77) rfl ?_
            refine g_isub X0 hx (hb hby d6_77) (pc' := 78) rfl ?_
            exact g_ireturn X0 hx hret (hb hby d6_78) N0 hlk (fun v t => endF (by decide) (by decide) v) (by rw [e0]; refine ⟨?_, rfl⟩; simp [nlzI, nzA, hc1, hc22, hc37, hc51, hc63])
        · skip
          refine g_iinc X0 hx (hb hby d6_54) (pc' := 57) rfl rfl (z := (-4 : Int32)) rfl (Ls' := #[.val (.int (ushr p1 (8 : Int32))), .val (.int (19 : Int32))]) rfl ?_
          refine g_iloadN X0 hx (hb hby d6_57) (pc' := 58) rfl rfl ?_
          refine g_iconst X0 hx (hb hby d6_58) (pc' := 59) rfl (z := (4 : Int32)) rfl ?_
          refine g_iushr X0 hx (hb hby d6_59) (pc' := 60) rfl ?_
          refine g_istoreN X0 hx (hb hby d6_60) (pc' := 61) rfl (Ls' := #[.val (.int (ushr (ushr p1 (8 : Int32)) (4 : Int32))), .val (.int (19 : Int32))]) rfl ?_
          refine g_iloadN X0 hx (hb hby d6_61) (pc' := 62) rfl rfl ?_
          refine g_iconst X0 hx (hb hby d6_62) (pc' := 63) rfl (z := (4 : Int32)) rfl ?_
          refine g_icmp_lt X0 hx (hb hby d6_63) (pc1 := 66) rfl (by decide) (pc2 := 73) (by decide) (fun hc63 => ?_) (fun hc63 => ?_)
          · skip
            refine g_iloadN X0 hx (hb hby d6_73) (pc' := 74) rfl rfl ?_
            refine g_iloadN X0 hx (hb hby d6_74) (pc' := 75) rfl rfl ?_
            refine g_iconst X0 hx (hb hby d6_75) (pc' := 76) rfl (z := (1 : Int32)) rfl ?_
            refine g_iushr X0 hx (hb hby d6_76) (pc' := 77) rfl ?_
            refine g_isub X0 hx (hb hby d6_77) (pc' := 78) rfl ?_
            exact g_ireturn X0 hx hret (hb hby d6_78) N0 hlk (fun v t => endF (by decide) (by decide) v) (by rw [e0]; refine ⟨?_, rfl⟩; simp [nlzI, nzA, hc1, hc22, hc37, hc51, hc63])
          · skip
            refine g_iinc X0 hx (hb hby d6_66) (pc' := 69) rfl rfl (z := (-2 : Int32)) rfl (Ls' := #[.val (.int (ushr (ushr p1 (8 : Int32)) (4 : Int32))), .val (.int (17 : Int32))]) rfl ?_
            refine g_iloadN X0 hx (hb hby d6_69) (pc' := 70) rfl rfl ?_
            refine g_iconst X0 hx (hb hby d6_70) (pc' := 71) rfl (z := (2 : Int32)) rfl ?_
            refine g_iushr X0 hx (hb hby d6_71) (pc' := 72) rfl ?_
            refine g_istoreN X0 hx (hb hby d6_72) (pc' := 73) rfl (Ls' := #[.val (.int (ushr (ushr (ushr p1 (8 : Int32)) (4 : Int32)) (2 : Int32))), .val (.int (17 : Int32))]) rfl ?_
            refine g_iloadN X0 hx (hb hby d6_73) (pc' := 74) rfl rfl ?_
            refine g_iloadN X0 hx (hb hby d6_74) (pc' := 75) rfl rfl ?_
            refine g_iconst X0 hx (hb hby d6_75) (pc' := 76) rfl (z := (1 : Int32)) rfl ?_
            refine g_iushr X0 hx (hb hby d6_76) (pc' := 77) rfl ?_
            refine g_isub X0 hx (hb hby d6_77) (pc' := 78) rfl ?_
            exact g_ireturn X0 hx hret (hb hby d6_78) N0 hlk (fun v t => endF (by decide) (by decide) v) (by rw [e0]; refine ⟨?_, rfl⟩; simp [nlzI, nzA, hc1, hc22, hc37, hc51, hc63])
    · skip
      refine g_iinc X0 hx (hb hby d6_25) (pc' := 28) rfl rfl (z := (-16 : Int32)) rfl (Ls' := #[.val (.int p1), .val (.int (15 : Int32))]) rfl ?_
      refine g_iloadN X0 hx (hb hby d6_28) (pc' := 29) rfl rfl ?_
      refine g_bipush X0 hx (hb hby d6_29) (pc' := 31) rfl (z := (16 : Int32)) rfl ?_
      refine g_iushr X0 hx (hb hby d6_31) (pc' := 32) rfl ?_
      refine g_istoreN X0 hx (hb hby d6_32) (pc' := 33) rfl (Ls' := #[.val (.int (ushr p1 (16 : Int32))), .val (.int (15 : Int32))]) rfl ?_
      refine g_iloadN X0 hx (hb hby d6_33) (pc' := 34) rfl rfl ?_
      refine g_sipush X0 hx (hb hby d6_34) (pc' := 37) rfl (z := (256 : Int32)) rfl ?_
      refine g_icmp_lt X0 hx (hb hby d6_37) (pc1 := 40) rfl (by decide) (pc2 := 48) (by decide) (fun hc37 => ?_) (fun hc37 => ?_)
      · skip
        refine g_iloadN X0 hx (hb hby d6_48) (pc' := 49) rfl rfl ?_
        refine g_bipush X0 hx (hb hby d6_49) (pc' := 51) rfl (z := (16 : Int32)) rfl ?_
        refine g_icmp_lt X0 hx (hb hby d6_51) (pc1 := 54) rfl (by decide) (pc2 := 61) (by decide) (fun hc51 => ?_) (fun hc51 => ?_)
        · skip
          refine g_iloadN X0 hx (hb hby d6_61) (pc' := 62) rfl rfl ?_
          refine g_iconst X0 hx (hb hby d6_62) (pc' := 63) rfl (z := (4 : Int32)) rfl ?_
          refine g_icmp_lt X0 hx (hb hby d6_63) (pc1 := 66) rfl (by decide) (pc2 := 73) (by decide) (fun hc63 => ?_) (fun hc63 => ?_)
          · skip
            refine g_iloadN X0 hx (hb hby d6_73) (pc' := 74) rfl rfl ?_
            refine g_iloadN X0 hx (hb hby d6_74) (pc' := 75) rfl rfl ?_
            refine g_iconst X0 hx (hb hby d6_75) (pc' := 76) rfl (z := (1 : Int32)) rfl ?_
            refine g_iushr X0 hx (hb hby d6_76) (pc' := 77) rfl ?_
            refine g_isub X0 hx (hb hby d6_77) (pc' := 78) rfl ?_
            exact g_ireturn X0 hx hret (hb hby d6_78) N0 hlk (fun v t => endF (by decide) (by decide) v) (by rw [e0]; refine ⟨?_, rfl⟩; simp [nlzI, nzA, hc1, hc22, hc37, hc51, hc63])
          · skip
            refine g_iinc X0 hx (hb hby d6_66) (pc' := 69) rfl rfl (z := (-2 : Int32)) rfl (Ls' := #[.val (.int (ushr p1 (16 : Int32))), .val (.int (13 : Int32))]) rfl ?_
            refine g_iloadN X0 hx (hb hby d6_69) (pc' := 70) rfl rfl ?_
            refine g_iconst X0 hx (hb hby d6_70) (pc' := 71) rfl (z := (2 : Int32)) rfl ?_
            refine g_iushr X0 hx (hb hby d6_71) (pc' := 72) rfl ?_
            refine g_istoreN X0 hx (hb hby d6_72) (pc' := 73) rfl (Ls' := #[.val (.int (ushr (ushr p1 (16 : Int32)) (2 : Int32))), .val (.int (13 : Int32))]) rfl ?_
            refine g_iloadN X0 hx (hb hby d6_73) (pc' := 74) rfl rfl ?_
            refine g_iloadN X0 hx (hb hby d6_74) (pc' := 75) rfl rfl ?_
            refine g_iconst X0 hx (hb hby d6_75) (pc' := 76) rfl (z := (1 : Int32)) rfl ?_
            refine g_iushr X0 hx (hb hby d6_76) (pc' := 77) rfl ?_
            refine g_isub X0 hx (hb hby d6_77) (pc' := 78) rfl ?_
            exact g_ireturn X0 hx hret (hb hby d6_78) N0 hlk (fun v t => endF (by decide) (by decide) v) (by rw [e0]; refine ⟨?_, rfl⟩; simp [nlzI, nzA, hc1, hc22, hc37, hc51, hc63])
        · skip
          refine g_iinc X0 hx (hb hby d6_54) (pc' := 57) rfl rfl (z := (-4 : Int32)) rfl (Ls' := #[.val (.int (ushr p1 (16 : Int32))), .val (.int (11 : Int32))]) rfl ?_
          refine g_iloadN X0 hx (hb hby d6_57) (pc' := 58) rfl rfl ?_
          refine g_iconst X0 hx (hb hby d6_58) (pc' := 59) rfl (z := (4 : Int32)) rfl ?_
          refine g_iushr X0 hx (hb hby d6_59) (pc' := 60) rfl ?_
          refine g_istoreN X0 hx (hb hby d6_60) (pc' := 61) rfl (Ls' := #[.val (.int (ushr (ushr p1 (16 : Int32)) (4 : Int32))), .val (.int (11 : Int32))]) rfl ?_
          refine g_iloadN X0 hx (hb hby d6_61) (pc' := 62) rfl rfl ?_
          refine g_iconst X0 hx (hb hby d6_62) (pc' := 63) rfl (z := (4 : Int32)) rfl ?_
          refine g_icmp_lt X0 hx (hb hby d6_63) (pc1 := 66) rfl (by decide) (pc2 := 73) (by decide) (fun hc63 => ?_) (fun hc63 => ?_)
          · skip
            refine g_iloadN X0 hx (hb hby d6_73) (pc' := 74) rfl rfl ?_
            refine g_iloadN X0 hx (hb hby d6_74) (pc' := 75) rfl rfl ?_
            refine g_iconst X0 hx (hb hby d6_75) (pc' := 76) rfl (z := (1 : Int32)) rfl ?_
            refine g_iushr X0 hx (hb hby d6_76) (pc' := 77) rfl ?_
            refine g_isub X0 hx (hb hby d6_77) (pc' := 78) rfl ?_
            exact g_ireturn X0 hx hret (hb hby d6_78) N0 hlk (fun v t => endF (by decide) (by decide) v) (by rw [e0]; refine ⟨?_, rfl⟩; simp [nlzI, nzA, hc1, hc22, hc37, hc51, hc63])
          · skip
            refine g_iinc X0 hx (hb hby d6_66) (pc' := 69) rfl rfl (z := (-2 : Int32)) rfl (Ls' := #[.val (.int (ushr (ushr p1 (16 : Int32)) (4 : Int32))), .val (.int (9 : Int32))]) rfl ?_
            refine g_iloadN X0 hx (hb hby d6_69) (pc' := 70) rfl rfl ?_
            refine g_iconst X0 hx (hb hby d6_70) (pc' := 71) rfl (z := (2 : Int32)) rfl ?_
            refine g_iushr X0 hx (hb hby d6_71) (pc' := 72) rfl ?_
            refine g_istoreN X0 hx (hb hby d6_72) (pc' := 73) rfl (Ls' := #[.val (.int (ushr (ushr (ushr p1 (16 : Int32)) (4 : Int32)) (2 : Int32))), .val (.int (9 : Int32))]) rfl ?_
            refine g_iloadN X0 hx (hb hby d6_73) (pc' := 74) rfl rfl ?_
            refine g_iloadN X0 hx (hb hby d6_74) (pc' := 75) rfl rfl ?_
            refine g_iconst X0 hx (hb hby d6_75) (pc' := 76) rfl (z := (1 : Int32)) rfl ?_
            refine g_iushr X0 hx (hb hby d6_76) (pc' := 77) rfl ?_
            refine g_isub X0 hx (hb hby d6_77) (pc' := 78) rfl ?_
            exact g_ireturn X0 hx hret (hb hby d6_78) N0 hlk (fun v t => endF (by decide) (by decide) v) (by rw [e0]; refine ⟨?_, rfl⟩; simp [nlzI, nzA, hc1, hc22, hc37, hc51, hc63])
      · skip
        refine g_iinc X0 hx (hb hby d6_40) (pc' := 43) rfl rfl (z := (-8 : Int32)) rfl (Ls' := #[.val (.int (ushr p1 (16 : Int32))), .val (.int (7 : Int32))]) rfl ?_
        refine g_iloadN X0 hx (hb hby d6_43) (pc' := 44) rfl rfl ?_
        refine g_bipush X0 hx (hb hby d6_44) (pc' := 46) rfl (z := (8 : Int32)) rfl ?_
        refine g_iushr X0 hx (hb hby d6_46) (pc' := 47) rfl ?_
        refine g_istoreN X0 hx (hb hby d6_47) (pc' := 48) rfl (Ls' := #[.val (.int (ushr (ushr p1 (16 : Int32)) (8 : Int32))), .val (.int (7 : Int32))]) rfl ?_
        refine g_iloadN X0 hx (hb hby d6_48) (pc' := 49) rfl rfl ?_
        refine g_bipush X0 hx (hb hby d6_49) (pc' := 51) rfl (z := (16 : Int32)) rfl ?_
        refine g_icmp_lt X0 hx (hb hby d6_51) (pc1 := 54) rfl (by decide) (pc2 := 61) (by decide) (fun hc51 => ?_) (fun hc51 => ?_)
        · skip
          refine g_iloadN X0 hx (hb hby d6_61) (pc' := 62) rfl rfl ?_
          refine g_iconst X0 hx (hb hby d6_62) (pc' := 63) rfl (z := (4 : Int32)) rfl ?_
          refine g_icmp_lt X0 hx (hb hby d6_63) (pc1 := 66) rfl (by decide) (pc2 := 73) (by decide) (fun hc63 => ?_) (fun hc63 => ?_)
          · skip
            refine g_iloadN X0 hx (hb hby d6_73) (pc' := 74) rfl rfl ?_
            refine g_iloadN X0 hx (hb hby d6_74) (pc' := 75) rfl rfl ?_
            refine g_iconst X0 hx (hb hby d6_75) (pc' := 76) rfl (z := (1 : Int32)) rfl ?_
            refine g_iushr X0 hx (hb hby d6_76) (pc' := 77) rfl ?_
            refine g_isub X0 hx (hb hby d6_77) (pc' := 78) rfl ?_
            exact g_ireturn X0 hx hret (hb hby d6_78) N0 hlk (fun v t => endF (by decide) (by decide) v) (by rw [e0]; refine ⟨?_, rfl⟩; simp [nlzI, nzA, hc1, hc22, hc37, hc51, hc63])
          · skip
            refine g_iinc X0 hx (hb hby d6_66) (pc' := 69) rfl rfl (z := (-2 : Int32)) rfl (Ls' := #[.val (.int (ushr (ushr p1 (16 : Int32)) (8 : Int32))), .val (.int (5 : Int32))]) rfl ?_
            refine g_iloadN X0 hx (hb hby d6_69) (pc' := 70) rfl rfl ?_
            refine g_iconst X0 hx (hb hby d6_70) (pc' := 71) rfl (z := (2 : Int32)) rfl ?_
            refine g_iushr X0 hx (hb hby d6_71) (pc' := 72) rfl ?_
            refine g_istoreN X0 hx (hb hby d6_72) (pc' := 73) rfl (Ls' := #[.val (.int (ushr (ushr (ushr p1 (16 : Int32)) (8 : Int32)) (2 : Int32))), .val (.int (5 : Int32))]) rfl ?_
            refine g_iloadN X0 hx (hb hby d6_73) (pc' := 74) rfl rfl ?_
            refine g_iloadN X0 hx (hb hby d6_74) (pc' := 75) rfl rfl ?_
            refine g_iconst X0 hx (hb hby d6_75) (pc' := 76) rfl (z := (1 : Int32)) rfl ?_
            refine g_iushr X0 hx (hb hby d6_76) (pc' := 77) rfl ?_
            refine g_isub X0 hx (hb hby d6_77) (pc' := 78) rfl ?_
            exact g_ireturn X0 hx hret (hb hby d6_78) N0 hlk (fun v t => endF (by decide) (by decide) v) (by rw [e0]; refine ⟨?_, rfl⟩; simp [nlzI, nzA, hc1, hc22, hc37, hc51, hc63])
        · skip
          refine g_iinc X0 hx (hb hby d6_54) (pc' := 57) rfl rfl (z := (-4 : Int32)) rfl (Ls' := #[.val (.int (ushr (ushr p1 (16 : Int32)) (8 : Int32))), .val (.int (3 : Int32))]) rfl ?_
          refine g_iloadN X0 hx (hb hby d6_57) (pc' := 58) rfl rfl ?_
          refine g_iconst X0 hx (hb hby d6_58) (pc' := 59) rfl (z := (4 : Int32)) rfl ?_
          refine g_iushr X0 hx (hb hby d6_59) (pc' := 60) rfl ?_
          refine g_istoreN X0 hx (hb hby d6_60) (pc' := 61) rfl (Ls' := #[.val (.int (ushr (ushr (ushr p1 (16 : Int32)) (8 : Int32)) (4 : Int32))), .val (.int (3 : Int32))]) rfl ?_
          refine g_iloadN X0 hx (hb hby d6_61) (pc' := 62) rfl rfl ?_
          refine g_iconst X0 hx (hb hby d6_62) (pc' := 63) rfl (z := (4 : Int32)) rfl ?_
          refine g_icmp_lt X0 hx (hb hby d6_63) (pc1 := 66) rfl (by decide) (pc2 := 73) (by decide) (fun hc63 => ?_) (fun hc63 => ?_)
          · skip
            refine g_iloadN X0 hx (hb hby d6_73) (pc' := 74) rfl rfl ?_
            refine g_iloadN X0 hx (hb hby d6_74) (pc' := 75) rfl rfl ?_
            refine g_iconst X0 hx (hb hby d6_75) (pc' := 76) rfl (z := (1 : Int32)) rfl ?_
            refine g_iushr X0 hx (hb hby d6_76) (pc' := 77) rfl ?_
            refine g_isub X0 hx (hb hby d6_77) (pc' := 78) rfl ?_
            exact g_ireturn X0 hx hret (hb hby d6_78) N0 hlk (fun v t => endF (by decide) (by decide) v) (by rw [e0]; refine ⟨?_, rfl⟩; simp [nlzI, nzA, hc1, hc22, hc37, hc51, hc63])
          · skip
            refine g_iinc X0 hx (hb hby d6_66) (pc' := 69) rfl rfl (z := (-2 : Int32)) rfl (Ls' := #[.val (.int (ushr (ushr (ushr p1 (16 : Int32)) (8 : Int32)) (4 : Int32))), .val (.int (1 : Int32))]) rfl ?_
            refine g_iloadN X0 hx (hb hby d6_69) (pc' := 70) rfl rfl ?_
            refine g_iconst X0 hx (hb hby d6_70) (pc' := 71) rfl (z := (2 : Int32)) rfl ?_
            refine g_iushr X0 hx (hb hby d6_71) (pc' := 72) rfl ?_
            refine g_istoreN X0 hx (hb hby d6_72) (pc' := 73) rfl (Ls' := #[.val (.int (ushr (ushr (ushr (ushr p1 (16 : Int32)) (8 : Int32)) (4 : Int32)) (2 : Int32))), .val (.int (1 : Int32))]) rfl ?_
            refine g_iloadN X0 hx (hb hby d6_73) (pc' := 74) rfl rfl ?_
            refine g_iloadN X0 hx (hb hby d6_74) (pc' := 75) rfl rfl ?_
            refine g_iconst X0 hx (hb hby d6_75) (pc' := 76) rfl (z := (1 : Int32)) rfl ?_
            refine g_iushr X0 hx (hb hby d6_76) (pc' := 77) rfl ?_
            refine g_isub X0 hx (hb hby d6_77) (pc' := 78) rfl ?_
            exact g_ireturn X0 hx hret (hb hby d6_78) N0 hlk (fun v t => endF (by decide) (by decide) v) (by rw [e0]; refine ⟨?_, rfl⟩; simp [nlzI, nzA, hc1, hc22, hc37, hc51, hc63])
  · skip
    refine g_iloadN X0 hx (hb hby d6_4) (pc' := 5) rfl rfl ?_
    refine g_if_ne X0 hx (hb hby d6_5) (pc1 := 8) rfl (by decide) (pc2 := 13) (by decide) (fun hc5 => ?_) (fun hc5 => ?_)
    · skip
      refine g_iconst X0 hx (hb hby d6_13) (pc' := 14) rfl (z := (0 : Int32)) rfl ?_
      exact g_ireturn X0 hx hret (hb hby d6_14) N0 hlk (fun v t => endF (by decide) (by decide) v) (by rw [e0]; refine ⟨?_, rfl⟩; simp [nlzI, nzA, hc1, hc5])
    · skip
      refine g_bipush X0 hx (hb hby d6_8) (pc' := 10) rfl (z := (32 : Int32)) rfl ?_
      refine g_goto X0 hx (hb hby d6_10) (by decide) (pc' := 14) (by decide) ?_
      exact g_ireturn X0 hx hret (hb hby d6_14) N0 hlk (fun v t => endF (by decide) (by decide) v) (by rw [e0]; refine ⟨?_, rfl⟩; simp [nlzI, nzA, hc1, hc5])
theorem pd__I_I : parseMethodDescriptor "(I)I" = some ⟨[.int], some .int⟩ := by decide +kernel
theorem d5_0 : decode jdk_35_method_48_code 0 = .ok (.lload_n 0, 1) := by decide +kernel
theorem d5_1 : decode jdk_35_method_48_code 1 = .ok (.bipush 32, 2) := by decide +kernel
theorem d5_3 : decode jdk_35_method_48_code 3 = .ok (.lushr, 1) := by decide +kernel
theorem d5_4 : decode jdk_35_method_48_code 4 = .ok (.l2i, 1) := by decide +kernel
theorem d5_5 : decode jdk_35_method_48_code 5 = .ok (.istore_n 2, 1) := by decide +kernel
theorem d5_6 : decode jdk_35_method_48_code 6 = .ok (.iload_n 2, 1) := by decide +kernel
theorem d5_7 : decode jdk_35_method_48_code 7 = .ok (.ifCond .ne 14, 3) := by decide +kernel
theorem d5_10 : decode jdk_35_method_48_code 10 = .ok (.bipush 32, 2) := by decide +kernel
theorem d5_12 : decode jdk_35_method_48_code 12 = .ok (.lload_n 0, 1) := by decide +kernel
theorem d5_13 : decode jdk_35_method_48_code 13 = .ok (.l2i, 1) := by decide +kernel
theorem d5_14 : decode jdk_35_method_48_code 14 = .ok (.invokestatic 308, 3) := by decide +kernel
theorem d5_17 : decode jdk_35_method_48_code 17 = .ok (.iadd, 1) := by decide +kernel
theorem d5_18 : decode jdk_35_method_48_code 18 = .ok (.goto 7, 3) := by decide +kernel
theorem d5_21 : decode jdk_35_method_48_code 21 = .ok (.iload_n 2, 1) := by decide +kernel
theorem d5_22 : decode jdk_35_method_48_code 22 = .ok (.invokestatic 308, 3) := by decide +kernel
theorem d5_25 : decode jdk_35_method_48_code 25 = .ok (.ireturn, 1) := by decide +kernel
theorem pn_5 : plainName "java/lang/Long" = true := by first | (simp [plainName, overriddenIn]; done) | decide +kernel
theorem ef_5 (x0 : Int64) (m : MethodId) : entryFrame m #[(.long x0)] 3 = mkF m 0 #[.val (.long x0), .second, .unset] [] := by first | (simp [entryFrame, mkF, argsToLocals, Value.category]; done) | rfl
def Q5 (Z : State) (p1 : Int64) (h0 : Heap) (n0 : Nat) : Option Value → Heap → Prop := fun v h => v = some (.int (nlzJ p1)) ∧ h0 = h
set_option maxRecDepth 65536 in
set_option maxHeartbeats 40000000 in
theorem rm5 (l : Launch) (Z : State) (a0 : Array Value) (hw : ∀ d ∈ tables_1, d.before a0 Z = true) (p1 : Int64) (h0 : Heap) (n0 : Nat) (Z0 : n0 ≤ h0.size) : Ctr l Z (⟨"java/lang/Long", "numberOfLeadingZeros", "(J)I"⟩ : MethodName) jdk_35_method_48_code 3 (some .int) ({ frames := 1, cells := 0, slots := 0, locals := 14 } : Room) #[(.long p1)] h0 n0 (Q5 Z p1 h0 n0) := by
  refine Ctr.of (plainFor_of_name pn_5) (ef_5 p1) ?_
  intro p e s m below meth c T0 hx hby hml hown hnm hret hlk hZ X0 e0
  have N0 := Fr.nil n0
  refine g_lloadN X0 hx (hb hby d5_0) (pc' := 1) rfl rfl ?_
  refine g_bipush X0 hx (hb hby d5_1) (pc' := 3) rfl (z := (32 : Int32)) rfl ?_
  refine g_lushr X0 hx (hb hby d5_3) (pc' := 4) rfl ?_
  refine g_l2i X0 hx (hb hby d5_4) (pc' := 5) rfl ?_
  refine g_istoreN X0 hx (hb hby d5_5) (pc' := 6) rfl (Ls' := #[.val (.long p1), .second, .val (.int (lushr p1 (32 : Int32)).toInt32)]) rfl ?_
  refine g_iloadN X0 hx (hb hby d5_6) (pc' := 7) rfl rfl ?_
  refine g_if_ne X0 hx (hb hby d5_7) (pc1 := 10) rfl (by decide) (pc2 := 21) (by decide) (fun hc7 => ?_) (fun hc7 => ?_)
  · skip
    refine g_iloadN X0 hx (hb hby d5_21) (pc' := 22) rfl rfl ?_
    obtain ⟨v1, T1, h1, L1, X1, e1, N1, q1, st1⟩ := h_static X0 hx (W := 0) (Ls := #[.val (.long p1), .second, .val (.int (lushr p1 (32 : Int32)).toInt32)]) (argsL := [(.int (lushr p1 (32 : Int32)).toInt32)]) (rest := []) hZ e0 N0 hml hown (rm6 l Z a0 hw (lushr p1 (32 : Int32)).toInt32 h0 n0 Z0) (hw _ (List.mem_of_getElem? (i := 37) rfl)) (hw _ (List.mem_of_getElem? (i := 38) rfl)) (hw _ (List.mem_of_getElem? (i := 39) rfl)) (hw _ (List.mem_of_getElem? (i := 40) rfl)) (by decide) pd__I_I rfl rfl (hb hby d5_22) rfl (by decide) (by decide) (by decide) (by decide)
    obtain ⟨rfl, rfl⟩ := q1
    refine Go.movp st1 (mkF m 25 #[.val (.long p1), .second, .val (.int (lushr p1 (32 : Int32)).toInt32)] [(.int (nlzI (lushr p1 (32 : Int32)).toInt32))]) rfl ?_
    exact g_ireturn X1 hx hret (hb hby d5_25) N1 hlk (fun v t => endF (by decide) (by decide) v) (by rw [e1]; refine ⟨?_, rfl⟩; simp [nlzJ, hc7])
  · skip
    refine g_bipush X0 hx (hb hby d5_10) (pc' := 12) rfl (z := (32 : Int32)) rfl ?_
    refine g_lloadN X0 hx (hb hby d5_12) (pc' := 13) rfl rfl ?_
    refine g_l2i X0 hx (hb hby d5_13) (pc' := 14) rfl ?_
    obtain ⟨v2, T2, h2, L2, X2, e2, N2, q2, st2⟩ := h_static X0 hx (W := 1) (Ls := #[.val (.long p1), .second, .val (.int (lushr p1 (32 : Int32)).toInt32)]) (argsL := [(.int p1.toInt32)]) (rest := [(.int (32 : Int32))]) hZ e0 N0 hml hown (rm6 l Z a0 hw p1.toInt32 h0 n0 Z0) (hw _ (List.mem_of_getElem? (i := 37) rfl)) (hw _ (List.mem_of_getElem? (i := 38) rfl)) (hw _ (List.mem_of_getElem? (i := 39) rfl)) (hw _ (List.mem_of_getElem? (i := 40) rfl)) (by decide) pd__I_I rfl rfl (hb hby d5_14) rfl (by decide) (by decide) (by decide) (by decide)
    obtain ⟨rfl, rfl⟩ := q2
    refine Go.movp st2 (mkF m 17 #[.val (.long p1), .second, .val (.int (lushr p1 (32 : Int32)).toInt32)] [(.int (nlzI p1.toInt32)), (.int (32 : Int32))]) rfl ?_
    refine g_iadd X2 hx (hb hby d5_17) (pc' := 18) rfl ?_
    refine g_goto X2 hx (hb hby d5_18) (by decide) (pc' := 25) (by decide) ?_
    exact g_ireturn X2 hx hret (hb hby d5_25) N2 hlk (fun v t => endF (by decide) (by decide) v) (by rw [e2]; refine ⟨?_, rfl⟩; simp [nlzJ, hc7])
theorem d7_0 : decode jdk_29_method_65_code 0 = .ok (.iload_n 0, 1) := by decide +kernel
theorem d7_1 : decode jdk_29_method_65_code 1 = .ok (.iload_n 1, 1) := by decide +kernel
theorem d7_2 : decode jdk_29_method_65_code 2 = .ok (.if_icmp .lt 7, 3) := by decide +kernel
theorem d7_5 : decode jdk_29_method_65_code 5 = .ok (.iload_n 0, 1) := by decide +kernel
theorem d7_6 : decode jdk_29_method_65_code 6 = .ok (.goto 4, 3) := by decide +kernel
theorem d7_9 : decode jdk_29_method_65_code 9 = .ok (.iload_n 1, 1) := by decide +kernel
theorem d7_10 : decode jdk_29_method_65_code 10 = .ok (.ireturn, 1) := by decide +kernel
theorem ef_7 (x0 : Int32) (x1 : Int32) (m : MethodId) : entryFrame m #[(.int x0), (.int x1)] 2 = mkF m 0 #[.val (.int x0), .val (.int x1)] [] := by first | (simp [entryFrame, mkF, argsToLocals, Value.category]; done) | rfl
def Q7 (Z : State) (p1 : Int32) (p2 : Int32) (h0 : Heap) (n0 : Nat) : Option Value → Heap → Prop := fun v h => v = some (.int (maxI p1 p2)) ∧ h0 = h
set_option maxRecDepth 65536 in
set_option maxHeartbeats 40000000 in
theorem rm7 (l : Launch) (Z : State) (a0 : Array Value) (hw : ∀ d ∈ tables_1, d.before a0 Z = true) (p1 : Int32) (p2 : Int32) (h0 : Heap) (n0 : Nat) (Z0 : n0 ≤ h0.size) : Ctr l Z (⟨"java/lang/Math", "max", "(II)I"⟩ : MethodName) jdk_29_method_65_code 2 (some .int) ({ frames := 0, cells := 0, slots := 0, locals := 0 } : Room) #[(.int p1), (.int p2)] h0 n0 (Q7 Z p1 p2 h0 n0) := by
  refine Ctr.of (Jvm.Free.JP.mathPlain rfl (by decide +kernel)) (ef_7 p1 p2) ?_
  intro p e s m below meth c T0 hx hby hml hown hnm hret hlk hZ X0 e0
  have N0 := Fr.nil n0
  refine g_iloadN X0 hx (hb hby d7_0) (pc' := 1) rfl rfl ?_
  refine g_iloadN X0 hx (hb hby d7_1) (pc' := 2) rfl rfl ?_
  refine g_icmp_lt X0 hx (hb hby d7_2) (pc1 := 5) rfl (by decide) (pc2 := 9) (by decide) (fun hc2 => ?_) (fun hc2 => ?_)
  · skip
    refine g_iloadN X0 hx (hb hby d7_9) (pc' := 10) rfl rfl ?_
    exact g_ireturn X0 hx hret (hb hby d7_10) N0 hlk (fun v t => endF (by decide) (by decide) v) (by rw [e0]; refine ⟨?_, rfl⟩; simp [maxI, hc2])
  · skip
    refine g_iloadN X0 hx (hb hby d7_5) (pc' := 6) rfl rfl ?_
    refine g_goto X0 hx (hb hby d7_6) (by decide) (pc' := 10) (by decide) ?_
    exact g_ireturn X0 hx hret (hb hby d7_10) N0 hlk (fun v t => endF (by decide) (by decide) v) (by rw [e0]; refine ⟨?_, rfl⟩; simp [maxI, hc2])
theorem pd__J_I : parseMethodDescriptor "(J)I" = some ⟨[.long], some .int⟩ := by decide +kernel
theorem pd__II_I : parseMethodDescriptor "(II)I" = some ⟨[.int, .int], some .int⟩ := by decide +kernel
theorem d4_0 : decode prog_131_method_1_code 0 = .ok (.aload_n 0, 1) := by decide +kernel
theorem d4_1 : decode prog_131_method_1_code 1 = .ok (.invokespecial 3, 3) := by decide +kernel
theorem d4_4 : decode prog_131_method_1_code 4 = .ok (.aload_n 0, 1) := by decide +kernel
theorem d4_5 : decode prog_131_method_1_code 5 = .ok (.lload_n 1, 1) := by decide +kernel
theorem d4_6 : decode prog_131_method_1_code 6 = .ok (.putfield 9, 3) := by decide +kernel
theorem d4_9 : decode prog_131_method_1_code 9 = .ok (.aload_n 0, 1) := by decide +kernel
theorem d4_10 : decode prog_131_method_1_code 10 = .ok (.lload_n 3, 1) := by decide +kernel
theorem d4_11 : decode prog_131_method_1_code 11 = .ok (.putfield 15, 3) := by decide +kernel
theorem d4_14 : decode prog_131_method_1_code 14 = .ok (.lload_n 1, 1) := by decide +kernel
theorem d4_15 : decode prog_131_method_1_code 15 = .ok (.lconst 0, 1) := by decide +kernel
theorem d4_16 : decode prog_131_method_1_code 16 = .ok (.lcmp, 1) := by decide +kernel
theorem d4_17 : decode prog_131_method_1_code 17 = .ok (.ifCond .ne 7, 3) := by decide +kernel
theorem d4_20 : decode prog_131_method_1_code 20 = .ok (.lconst 0, 1) := by decide +kernel
theorem d4_21 : decode prog_131_method_1_code 21 = .ok (.goto 6, 3) := by decide +kernel
theorem d4_24 : decode prog_131_method_1_code 24 = .ok (.lload_n 3, 1) := by decide +kernel
theorem d4_25 : decode prog_131_method_1_code 25 = .ok (.lload_n 1, 1) := by decide +kernel
theorem d4_26 : decode prog_131_method_1_code 26 = .ok (.ldiv, 1) := by decide +kernel
theorem d4_27 : decode prog_131_method_1_code 27 = .ok (.lstore 5, 2) := by decide +kernel
theorem d4_29 : decode prog_131_method_1_code 29 = .ok (.aload_n 0, 1) := by decide +kernel
theorem d4_30 : decode prog_131_method_1_code 30 = .ok (.iconst 0, 1) := by decide +kernel
theorem d4_31 : decode prog_131_method_1_code 31 = .ok (.bipush 62, 2) := by decide +kernel
theorem d4_33 : decode prog_131_method_1_code 33 = .ok (.lload 5, 2) := by decide +kernel
theorem d4_35 : decode prog_131_method_1_code 35 = .ok (.invokestatic 18, 3) := by decide +kernel
theorem d4_38 : decode prog_131_method_1_code 38 = .ok (.isub, 1) := by decide +kernel
theorem d4_39 : decode prog_131_method_1_code 39 = .ok (.invokestatic 24, 3) := by decide +kernel
theorem d4_42 : decode prog_131_method_1_code 42 = .ok (.putfield 30, 3) := by decide +kernel
theorem d4_45 : decode prog_131_method_1_code 45 = .ok (.return_, 1) := by decide +kernel
theorem pn_4 : plainName "com/example/stratasig/stratasig/index/GapCoding$Tally" = true := by first | (simp [plainName, overriddenIn]; done) | decide +kernel
theorem ef_4 (x0 : Addr) (x1 : Int64) (x2 : Int64) (m : MethodId) : entryFrame m #[(.ref x0), (.long x1), (.long x2)] 7 = mkF m 0 #[.val (.ref x0), .val (.long x1), .second, .val (.long x2), .second, .unset, .unset] [] := by first | (simp [entryFrame, mkF, argsToLocals, Value.category]; done) | rfl
def Q4 (Z : State) (a : Addr) (c0 : Int64) (s0 : Int64) (h0 : Heap) (n0 : Nat) : Option Value → Heap → Prop := fun v h => v = none ∧ Keep h0 h [a] ∧ Exa Z h a "com/example/stratasig/stratasig/index/GapCoding$Tally" ∧ Fld Z h a "com/example/stratasig/stratasig/index/GapCoding$Tally" "count" "J" (.long c0) ∧ Fld Z h a "com/example/stratasig/stratasig/index/GapCoding$Tally" "lowest" "I" (.int (lowV c0 s0)) ∧ Fld Z h a "com/example/stratasig/stratasig/index/GapCoding$Tally" "atLowest" "J" (.long (0 : Int64)) ∧ Fld Z h a "com/example/stratasig/stratasig/index/GapCoding$Tally" "oneAbove" "J" (.long (0 : Int64)) ∧ Fld Z h a "com/example/stratasig/stratasig/index/GapCoding$Tally" "twoAbove" "J" (.long (0 : Int64))
set_option maxRecDepth 65536 in
set_option maxHeartbeats 40000000 in
theorem rm4 (l : Launch) (Z : State) (a0 : Array Value) (hw : ∀ d ∈ tables_1, d.before a0 Z = true) (a : Addr) (c0 : Int64) (s0 : Int64) (h0 : Heap) (n0 : Nat) (Z0 : n0 ≤ h0.size) (F0 : Fld Z h0 a "com/example/stratasig/stratasig/index/GapCoding$Tally" "count" "J" (.long (0 : Int64))) (F1 : Fld Z h0 a "com/example/stratasig/stratasig/index/GapCoding$Tally" "sum" "J" (.long (0 : Int64))) (F2 : Fld Z h0 a "com/example/stratasig/stratasig/index/GapCoding$Tally" "lowest" "I" (.int (0 : Int32))) (F3 : Fld Z h0 a "com/example/stratasig/stratasig/index/GapCoding$Tally" "atLowest" "J" (.long (0 : Int64))) (F4 : Fld Z h0 a "com/example/stratasig/stratasig/index/GapCoding$Tally" "oneAbove" "J" (.long (0 : Int64))) (F5 : Fld Z h0 a "com/example/stratasig/stratasig/index/GapCoding$Tally" "twoAbove" "J" (.long (0 : Int64))) (E1 : Exa Z h0 a "com/example/stratasig/stratasig/index/GapCoding$Tally") (G1 : n0 ≤ a) : Ctr l Z (⟨"com/example/stratasig/stratasig/index/GapCoding$Tally", "<init>", "(JJ)V"⟩ : MethodName) prog_131_method_1_code 7 none ({ frames := 2, cells := 0, slots := 0, locals := 31 } : Room) #[(.ref a), (.long c0), (.long s0)] h0 n0 (Q4 Z a c0 s0 h0 n0) := by
  refine Ctr.of (plainFor_of_name pn_4) (ef_4 a c0 s0) ?_
  intro p e s m below meth c T0 hx hby hml hown hnm hret hlk hZ X0 e0
  have N0 := Fr.nil n0
  refine g_aloadN X0 hx (hb hby d4_0) (pc' := 1) rfl rfl rfl ?_
  obtain ⟨T3, X3, e3, st3⟩ := initO X0 hx hZ hown (hw _ (List.mem_of_getElem? (i := 28) rfl)) (hw _ (List.mem_of_getElem? (i := 9) rfl)) (hw _ (List.mem_of_getElem? (i := 10) rfl)) e0 (g := (mkF m 1 #[.val (.ref a), .val (.long c0), .second, .val (.long s0), .second, .unset, .unset] [(.ref a)])) rfl (by rw [hml]; rfl) rfl (hb hby d4_1) (by decide) (W := 0) (by show 2 * 0 + _ ≤ _; exact Nat.le_of_eq rfl) (by decide)
  refine Go.movp st3 (mkF m 4 #[.val (.ref a), .val (.long c0), .second, .val (.long s0), .second, .unset, .unset] []) rfl ?_
  refine g_aloadN X3 hx (hb hby d4_4) (pc' := 5) rfl rfl rfl ?_
  refine g_lloadN X3 hx (hb hby d4_5) (pc' := 6) rfl rfl ?_
  obtain ⟨T4, h4, X4, e4, W4, st4⟩ := putF X3 hx hZ hown (host := "") (Or.inl (hw _ (List.mem_of_getElem? (i := 29) rfl))) Via.refl e3 F0 E1 (Or.inr ⟨(hw _ (List.mem_of_getElem? (i := 30) rfl)), rfl, hnm⟩) (hw _ (List.mem_of_getElem? (i := 19) rfl)) (ty := .long) (by decide) rfl rfl (g := (mkF m 6 #[.val (.ref a), .val (.long c0), .second, .val (.long s0), .second, .unset, .unset] [(.long c0), (.ref a)])) rfl rfl (hb hby d4_6)
  have f5 : Fld Z h4 a "com/example/stratasig/stratasig/index/GapCoding$Tally" "count" "J" (.long c0) := Fld.same W4 F0
  have N4 := Fr.snoc X4 N0 G1
  have f6 := Fld.other W4 F1 (Or.inr (slot_ne (Or.inr (hw _ (List.mem_of_getElem? (i := 32) rfl))) (Or.inr (hw _ (List.mem_of_getElem? (i := 30) rfl))) (by decide) (t := .long) (t' := .long) (by decide) (by decide)))
  have f7 := Fld.other W4 F2 (Or.inr (slot_ne (Or.inr (hw _ (List.mem_of_getElem? (i := 46) rfl))) (Or.inr (hw _ (List.mem_of_getElem? (i := 30) rfl))) (by decide) (t := .int) (t' := .long) (by decide) (by decide)))
  have f8 := Fld.other W4 F3 (Or.inr (slot_ne (Or.inl (hw _ (List.mem_of_getElem? (i := 53) rfl))) (Or.inr (hw _ (List.mem_of_getElem? (i := 30) rfl))) (by decide) (t := .long) (t' := .long) (by decide) (by decide)))
  have f9 := Fld.other W4 F4 (Or.inr (slot_ne (Or.inl (hw _ (List.mem_of_getElem? (i := 55) rfl))) (Or.inr (hw _ (List.mem_of_getElem? (i := 30) rfl))) (by decide) (t := .long) (t' := .long) (by decide) (by decide)))
  have f10 := Fld.other W4 F5 (Or.inr (slot_ne (Or.inl (hw _ (List.mem_of_getElem? (i := 57) rfl))) (Or.inr (hw _ (List.mem_of_getElem? (i := 30) rfl))) (by decide) (t := .long) (t' := .long) (by decide) (by decide)))
  have f11 := Exa.wr W4 E1
  have Z12 : n0 ≤ h4.size := Nat.le_trans Z0 (Keep.of_wr W4).1
  have K13 := (Keep.refl h0 [a]).wr W4 (Or.inl (List.mem_of_getElem? (i := 0) rfl))
  refine Go.movp st4 (mkF m 9 #[.val (.ref a), .val (.long c0), .second, .val (.long s0), .second, .unset, .unset] []) rfl ?_
  refine g_aloadN X4 hx (hb hby d4_9) (pc' := 10) rfl rfl rfl ?_
  refine g_lloadN X4 hx (hb hby d4_10) (pc' := 11) rfl rfl ?_
  obtain ⟨T14, h14, X14, e14, W14, st14⟩ := putF X4 hx hZ hown (host := "") (Or.inl (hw _ (List.mem_of_getElem? (i := 31) rfl))) Via.refl e4 f6 f11 (Or.inr ⟨(hw _ (List.mem_of_getElem? (i := 32) rfl)), rfl, hnm⟩) (hw _ (List.mem_of_getElem? (i := 19) rfl)) (ty := .long) (by decide) rfl rfl (g := (mkF m 11 #[.val (.ref a), .val (.long c0), .second, .val (.long s0), .second, .unset, .unset] [(.long s0), (.ref a)])) rfl rfl (hb hby d4_11)
  have f15 : Fld Z h14 a "com/example/stratasig/stratasig/index/GapCoding$Tally" "sum" "J" (.long s0) := Fld.same W14 f6
  have N14 := Fr.snoc X14 N4 G1
  have f16 := Fld.other W14 f7 (Or.inr (slot_ne (Or.inr (hw _ (List.mem_of_getElem? (i := 46) rfl))) (Or.inr (hw _ (List.mem_of_getElem? (i := 32) rfl))) (by decide) (t := .int) (t' := .long) (by decide) (by decide)))
  have f17 := Fld.other W14 f8 (Or.inr (slot_ne (Or.inl (hw _ (List.mem_of_getElem? (i := 53) rfl))) (Or.inr (hw _ (List.mem_of_getElem? (i := 32) rfl))) (by decide) (t := .long) (t' := .long) (by decide) (by decide)))
  have f18 := Fld.other W14 f9 (Or.inr (slot_ne (Or.inl (hw _ (List.mem_of_getElem? (i := 55) rfl))) (Or.inr (hw _ (List.mem_of_getElem? (i := 32) rfl))) (by decide) (t := .long) (t' := .long) (by decide) (by decide)))
  have f19 := Fld.other W14 f10 (Or.inr (slot_ne (Or.inl (hw _ (List.mem_of_getElem? (i := 57) rfl))) (Or.inr (hw _ (List.mem_of_getElem? (i := 32) rfl))) (by decide) (t := .long) (t' := .long) (by decide) (by decide)))
  have f20 := Exa.wr W14 f11
  have f21 := Fld.other W14 f5 (Or.inr (slot_ne (Or.inr (hw _ (List.mem_of_getElem? (i := 30) rfl))) (Or.inr (hw _ (List.mem_of_getElem? (i := 32) rfl))) (by decide) (t := .long) (t' := .long) (by decide) (by decide)))
  have Z22 : n0 ≤ h14.size := Nat.le_trans Z12 (Keep.of_wr W14).1
  have K23 := K13.wr W14 (Or.inl (List.mem_of_getElem? (i := 0) rfl))
  refine Go.movp st14 (mkF m 14 #[.val (.ref a), .val (.long c0), .second, .val (.long s0), .second, .unset, .unset] []) rfl ?_
  refine g_lloadN X14 hx (hb hby d4_14) (pc' := 15) rfl rfl ?_
  refine g_lconst X14 hx (hb hby d4_15) (pc' := 16) rfl (z := (0 : Int64)) rfl ?_
  refine g_lcmp_ne X14 hx (hb hby d4_16) (pc' := 17) rfl (hb hby d4_17) (pc1 := 20) rfl (by decide) (pc2 := 24) (by decide) (fun hc16 => ?_) (fun hc16 => ?_)
  · skip
    refine g_lloadN X14 hx (hb hby d4_24) (pc' := 25) rfl rfl ?_
    refine g_lloadN X14 hx (hb hby d4_25) (pc' := 26) rfl rfl ?_
    refine g_ldiv X14 hx (hb hby d4_26) (pc' := 27) rfl hc16 ?_
    refine Go.cast (show (mkF m 27 #[.val (.ref a), .val (.long c0), .second, .val (.long s0), .second, .unset, .unset] [(.long (s0 / c0))]) = (mkF m 27 #[.val (.ref a), .val (.long c0), .second, .val (.long s0), .second, .unset, .unset] [(.long (meanV c0 s0))]) from by rw [show (s0 / c0) = (meanV c0 s0) from (if_neg hc16).symm]) ?_
    refine g_lstore X14 hx (hb hby d4_27) (pc' := 29) rfl (Ls' := #[.val (.ref a), .val (.long c0), .second, .val (.long s0), .second, .val (.long (meanV c0 s0)), .second]) rfl ?_
    refine g_aloadN X14 hx (hb hby d4_29) (pc' := 30) rfl rfl rfl ?_
    refine g_iconst X14 hx (hb hby d4_30) (pc' := 31) rfl (z := (0 : Int32)) rfl ?_
    refine g_bipush X14 hx (hb hby d4_31) (pc' := 33) rfl (z := (62 : Int32)) rfl ?_
    refine g_lload X14 hx (hb hby d4_33) (pc' := 35) rfl rfl ?_
    obtain ⟨v24, T24, h24, L24, X24, e24, N24, q24, st24⟩ := h_static X14 hx (W := 3) (Ls := #[.val (.ref a), .val (.long c0), .second, .val (.long s0), .second, .val (.long (meanV c0 s0)), .second]) (argsL := [(.long (meanV c0 s0))]) (rest := [(.int (62 : Int32)), (.int (0 : Int32)), (.ref a)]) hZ e14 N14 hml hown (rm5 l Z a0 hw (meanV c0 s0) h14 n0 Z22) (hw _ (List.mem_of_getElem? (i := 33) rfl)) (hw _ (List.mem_of_getElem? (i := 34) rfl)) (hw _ (List.mem_of_getElem? (i := 35) rfl)) (hw _ (List.mem_of_getElem? (i := 36) rfl)) (by decide) pd__J_I rfl rfl (hb hby d4_35) rfl (by decide) (by decide) (by decide) (by decide)
    obtain ⟨rfl, rfl⟩ := q24
    refine Go.movp st24 (mkF m 38 #[.val (.ref a), .val (.long c0), .second, .val (.long s0), .second, .val (.long (meanV c0 s0)), .second] [(.int (nlzJ (meanV c0 s0))), (.int (62 : Int32)), (.int (0 : Int32)), (.ref a)]) rfl ?_
    refine g_isub X24 hx (hb hby d4_38) (pc' := 39) rfl ?_
    obtain ⟨v25, T25, h25, L25, X25, e25, N25, q25, st25⟩ := h_static X24 hx (W := 1) (Ls := #[.val (.ref a), .val (.long c0), .second, .val (.long s0), .second, .val (.long (meanV c0 s0)), .second]) (argsL := [(.int (0 : Int32)), (.int ((62 : Int32) - (nlzJ (meanV c0 s0))))]) (rest := [(.ref a)]) hZ e24 N24 hml hown (rm7 l Z a0 hw (0 : Int32) ((62 : Int32) - (nlzJ (meanV c0 s0))) h14 n0 Z22) (hw _ (List.mem_of_getElem? (i := 41) rfl)) (hw _ (List.mem_of_getElem? (i := 42) rfl)) (hw _ (List.mem_of_getElem? (i := 43) rfl)) (hw _ (List.mem_of_getElem? (i := 44) rfl)) (by decide) pd__II_I rfl rfl (hb hby d4_39) rfl (by decide) (by decide) (by decide) (by decide)
    obtain ⟨rfl, rfl⟩ := q25
    refine Go.movp st25 (mkF m 42 #[.val (.ref a), .val (.long c0), .second, .val (.long s0), .second, .val (.long (meanV c0 s0)), .second] [(.int (maxI (0 : Int32) ((62 : Int32) - (nlzJ (meanV c0 s0))))), (.ref a)]) rfl ?_
    refine Go.cast (show (mkF m 42 #[.val (.ref a), .val (.long c0), .second, .val (.long s0), .second, .val (.long (meanV c0 s0)), .second] [(.int (maxI (0 : Int32) ((62 : Int32) - (nlzJ (meanV c0 s0))))), (.ref a)]) = (mkF m 42 #[.val (.ref a), .val (.long c0), .second, .val (.long s0), .second, .val (.long (meanV c0 s0)), .second] [(.int (lowV c0 s0)), (.ref a)]) from by rw [show (maxI (0 : Int32) ((62 : Int32) - (nlzJ (meanV c0 s0)))) = (lowV c0 s0) from rfl]) ?_
    obtain ⟨T26, h26, X26, e26, W26, st26⟩ := putF X25 hx hZ hown (host := "") (Or.inl (hw _ (List.mem_of_getElem? (i := 45) rfl))) Via.refl e25 f16 f20 (Or.inr ⟨(hw _ (List.mem_of_getElem? (i := 46) rfl)), rfl, hnm⟩) (hw _ (List.mem_of_getElem? (i := 19) rfl)) (ty := .int) (by decide) rfl rfl (g := (mkF m 42 #[.val (.ref a), .val (.long c0), .second, .val (.long s0), .second, .val (.long (meanV c0 s0)), .second] [(.int (lowV c0 s0)), (.ref a)])) rfl rfl (hb hby d4_42)
    have f27 : Fld Z h26 a "com/example/stratasig/stratasig/index/GapCoding$Tally" "lowest" "I" (.int (lowV c0 s0)) := Fld.same W26 f16
    have N26 := Fr.snoc X26 N25 G1
    have f28 := Fld.other W26 f17 (Or.inr (slot_ne (Or.inl (hw _ (List.mem_of_getElem? (i := 53) rfl))) (Or.inr (hw _ (List.mem_of_getElem? (i := 46) rfl))) (by decide) (t := .long) (t' := .int) (by decide) (by decide)))
    have f29 := Fld.other W26 f18 (Or.inr (slot_ne (Or.inl (hw _ (List.mem_of_getElem? (i := 55) rfl))) (Or.inr (hw _ (List.mem_of_getElem? (i := 46) rfl))) (by decide) (t := .long) (t' := .int) (by decide) (by decide)))
    have f30 := Fld.other W26 f19 (Or.inr (slot_ne (Or.inl (hw _ (List.mem_of_getElem? (i := 57) rfl))) (Or.inr (hw _ (List.mem_of_getElem? (i := 46) rfl))) (by decide) (t := .long) (t' := .int) (by decide) (by decide)))
    have f31 := Exa.wr W26 f20
    have f32 := Fld.other W26 f21 (Or.inr (slot_ne (Or.inr (hw _ (List.mem_of_getElem? (i := 30) rfl))) (Or.inr (hw _ (List.mem_of_getElem? (i := 46) rfl))) (by decide) (t := .long) (t' := .int) (by decide) (by decide)))
    have f33 := Fld.other W26 f15 (Or.inr (slot_ne (Or.inr (hw _ (List.mem_of_getElem? (i := 32) rfl))) (Or.inr (hw _ (List.mem_of_getElem? (i := 46) rfl))) (by decide) (t := .long) (t' := .int) (by decide) (by decide)))
    have Z34 : n0 ≤ h26.size := Nat.le_trans Z22 (Keep.of_wr W26).1
    have K35 := K23.wr W26 (Or.inl (List.mem_of_getElem? (i := 0) rfl))
    refine Go.movp st26 (mkF m 45 #[.val (.ref a), .val (.long c0), .second, .val (.long s0), .second, .val (.long (meanV c0 s0)), .second] []) rfl ?_
    exact g_return X26 hx hret (hb hby d4_45) N26 hlk (fun v t => endF (by decide) (by decide) v) (by rw [e26]; exact ⟨rfl, K35, f31, f32, f27, f28, f29, f30⟩)
  · skip
    refine g_lconst X14 hx (hb hby d4_20) (pc' := 21) rfl (z := (0 : Int64)) rfl ?_
    refine g_goto X14 hx (hb hby d4_21) (by decide) (pc' := 27) (by decide) ?_
    refine Go.cast (show (mkF m 27 #[.val (.ref a), .val (.long c0), .second, .val (.long s0), .second, .unset, .unset] [(.long (0 : Int64))]) = (mkF m 27 #[.val (.ref a), .val (.long c0), .second, .val (.long s0), .second, .unset, .unset] [(.long (meanV c0 s0))]) from by rw [show (0 : Int64) = (meanV c0 s0) from (if_pos hc16).symm]) ?_
    refine g_lstore X14 hx (hb hby d4_27) (pc' := 29) rfl (Ls' := #[.val (.ref a), .val (.long c0), .second, .val (.long s0), .second, .val (.long (meanV c0 s0)), .second]) rfl ?_
    refine g_aloadN X14 hx (hb hby d4_29) (pc' := 30) rfl rfl rfl ?_
    refine g_iconst X14 hx (hb hby d4_30) (pc' := 31) rfl (z := (0 : Int32)) rfl ?_
    refine g_bipush X14 hx (hb hby d4_31) (pc' := 33) rfl (z := (62 : Int32)) rfl ?_
    refine g_lload X14 hx (hb hby d4_33) (pc' := 35) rfl rfl ?_
    obtain ⟨v36, T36, h36, L36, X36, e36, N36, q36, st36⟩ := h_static X14 hx (W := 3) (Ls := #[.val (.ref a), .val (.long c0), .second, .val (.long s0), .second, .val (.long (meanV c0 s0)), .second]) (argsL := [(.long (meanV c0 s0))]) (rest := [(.int (62 : Int32)), (.int (0 : Int32)), (.ref a)]) hZ e14 N14 hml hown (rm5 l Z a0 hw (meanV c0 s0) h14 n0 Z22) (hw _ (List.mem_of_getElem? (i := 33) rfl)) (hw _ (List.mem_of_getElem? (i := 34) rfl)) (hw _ (List.mem_of_getElem? (i := 35) rfl)) (hw _ (List.mem_of_getElem? (i := 36) rfl)) (by decide) pd__J_I rfl rfl (hb hby d4_35) rfl (by decide) (by decide) (by decide) (by decide)
    obtain ⟨rfl, rfl⟩ := q36
    refine Go.movp st36 (mkF m 38 #[.val (.ref a), .val (.long c0), .second, .val (.long s0), .second, .val (.long (meanV c0 s0)), .second] [(.int (nlzJ (meanV c0 s0))), (.int (62 : Int32)), (.int (0 : Int32)), (.ref a)]) rfl ?_
    refine g_isub X36 hx (hb hby d4_38) (pc' := 39) rfl ?_
    obtain ⟨v37, T37, h37, L37, X37, e37, N37, q37, st37⟩ := h_static X36 hx (W := 1) (Ls := #[.val (.ref a), .val (.long c0), .second, .val (.long s0), .second, .val (.long (meanV c0 s0)), .second]) (argsL := [(.int (0 : Int32)), (.int ((62 : Int32) - (nlzJ (meanV c0 s0))))]) (rest := [(.ref a)]) hZ e36 N36 hml hown (rm7 l Z a0 hw (0 : Int32) ((62 : Int32) - (nlzJ (meanV c0 s0))) h14 n0 Z22) (hw _ (List.mem_of_getElem? (i := 41) rfl)) (hw _ (List.mem_of_getElem? (i := 42) rfl)) (hw _ (List.mem_of_getElem? (i := 43) rfl)) (hw _ (List.mem_of_getElem? (i := 44) rfl)) (by decide) pd__II_I rfl rfl (hb hby d4_39) rfl (by decide) (by decide) (by decide) (by decide)
    obtain ⟨rfl, rfl⟩ := q37
    refine Go.movp st37 (mkF m 42 #[.val (.ref a), .val (.long c0), .second, .val (.long s0), .second, .val (.long (meanV c0 s0)), .second] [(.int (maxI (0 : Int32) ((62 : Int32) - (nlzJ (meanV c0 s0))))), (.ref a)]) rfl ?_
    refine Go.cast (show (mkF m 42 #[.val (.ref a), .val (.long c0), .second, .val (.long s0), .second, .val (.long (meanV c0 s0)), .second] [(.int (maxI (0 : Int32) ((62 : Int32) - (nlzJ (meanV c0 s0))))), (.ref a)]) = (mkF m 42 #[.val (.ref a), .val (.long c0), .second, .val (.long s0), .second, .val (.long (meanV c0 s0)), .second] [(.int (lowV c0 s0)), (.ref a)]) from by rw [show (maxI (0 : Int32) ((62 : Int32) - (nlzJ (meanV c0 s0)))) = (lowV c0 s0) from rfl]) ?_
    obtain ⟨T38, h38, X38, e38, W38, st38⟩ := putF X37 hx hZ hown (host := "") (Or.inl (hw _ (List.mem_of_getElem? (i := 45) rfl))) Via.refl e37 f16 f20 (Or.inr ⟨(hw _ (List.mem_of_getElem? (i := 46) rfl)), rfl, hnm⟩) (hw _ (List.mem_of_getElem? (i := 19) rfl)) (ty := .int) (by decide) rfl rfl (g := (mkF m 42 #[.val (.ref a), .val (.long c0), .second, .val (.long s0), .second, .val (.long (meanV c0 s0)), .second] [(.int (lowV c0 s0)), (.ref a)])) rfl rfl (hb hby d4_42)
    have f39 : Fld Z h38 a "com/example/stratasig/stratasig/index/GapCoding$Tally" "lowest" "I" (.int (lowV c0 s0)) := Fld.same W38 f16
    have N38 := Fr.snoc X38 N37 G1
    have f40 := Fld.other W38 f17 (Or.inr (slot_ne (Or.inl (hw _ (List.mem_of_getElem? (i := 53) rfl))) (Or.inr (hw _ (List.mem_of_getElem? (i := 46) rfl))) (by decide) (t := .long) (t' := .int) (by decide) (by decide)))
    have f41 := Fld.other W38 f18 (Or.inr (slot_ne (Or.inl (hw _ (List.mem_of_getElem? (i := 55) rfl))) (Or.inr (hw _ (List.mem_of_getElem? (i := 46) rfl))) (by decide) (t := .long) (t' := .int) (by decide) (by decide)))
    have f42 := Fld.other W38 f19 (Or.inr (slot_ne (Or.inl (hw _ (List.mem_of_getElem? (i := 57) rfl))) (Or.inr (hw _ (List.mem_of_getElem? (i := 46) rfl))) (by decide) (t := .long) (t' := .int) (by decide) (by decide)))
    have f43 := Exa.wr W38 f20
    have f44 := Fld.other W38 f21 (Or.inr (slot_ne (Or.inr (hw _ (List.mem_of_getElem? (i := 30) rfl))) (Or.inr (hw _ (List.mem_of_getElem? (i := 46) rfl))) (by decide) (t := .long) (t' := .int) (by decide) (by decide)))
    have f45 := Fld.other W38 f15 (Or.inr (slot_ne (Or.inr (hw _ (List.mem_of_getElem? (i := 32) rfl))) (Or.inr (hw _ (List.mem_of_getElem? (i := 46) rfl))) (by decide) (t := .long) (t' := .int) (by decide) (by decide)))
    have Z46 : n0 ≤ h38.size := Nat.le_trans Z22 (Keep.of_wr W38).1
    have K47 := K23.wr W38 (Or.inl (List.mem_of_getElem? (i := 0) rfl))
    refine Go.movp st38 (mkF m 45 #[.val (.ref a), .val (.long c0), .second, .val (.long s0), .second, .val (.long (meanV c0 s0)), .second] []) rfl ?_
    exact g_return X38 hx hret (hb hby d4_45) N38 hlk (fun v t => endF (by decide) (by decide) v) (by rw [e38]; exact ⟨rfl, K47, f43, f44, f39, f40, f41, f42⟩)
theorem d12_0 : decode prog_131_method_13_code 0 = .ok (.iconst 3, 1) := by decide +kernel
theorem d12_1 : decode prog_131_method_13_code 1 = .ok (.newarray .long, 2) := by decide +kernel
theorem d12_3 : decode prog_131_method_13_code 3 = .ok (.dup, 1) := by decide +kernel
theorem d12_4 : decode prog_131_method_13_code 4 = .ok (.iconst 0, 1) := by decide +kernel
theorem d12_5 : decode prog_131_method_13_code 5 = .ok (.aload_n 0, 1) := by decide +kernel
theorem d12_6 : decode prog_131_method_13_code 6 = .ok (.getfield 37, 3) := by decide +kernel
theorem d12_9 : decode prog_131_method_13_code 9 = .ok (.lastore, 1) := by decide +kernel
theorem d12_10 : decode prog_131_method_13_code 10 = .ok (.dup, 1) := by decide +kernel
theorem d12_11 : decode prog_131_method_13_code 11 = .ok (.iconst 1, 1) := by decide +kernel
theorem d12_12 : decode prog_131_method_13_code 12 = .ok (.aload_n 0, 1) := by decide +kernel
theorem d12_13 : decode prog_131_method_13_code 13 = .ok (.getfield 40, 3) := by decide +kernel
theorem d12_16 : decode prog_131_method_13_code 16 = .ok (.lastore, 1) := by decide +kernel
theorem d12_17 : decode prog_131_method_13_code 17 = .ok (.dup, 1) := by decide +kernel
theorem d12_18 : decode prog_131_method_13_code 18 = .ok (.iconst 2, 1) := by decide +kernel
theorem d12_19 : decode prog_131_method_13_code 19 = .ok (.aload_n 0, 1) := by decide +kernel
theorem d12_20 : decode prog_131_method_13_code 20 = .ok (.getfield 43, 3) := by decide +kernel
theorem d12_23 : decode prog_131_method_13_code 23 = .ok (.lastore, 1) := by decide +kernel
theorem d12_24 : decode prog_131_method_13_code 24 = .ok (.areturn, 1) := by decide +kernel
theorem ef_12 (x0 : Addr) (m : MethodId) : entryFrame m #[(.ref x0)] 1 = mkF m 0 #[.val (.ref x0)] [] := by first | (simp [entryFrame, mkF, argsToLocals, Value.category]; done) | rfl
def Q12 (Z : State) (a : Addr) (q0 : Int64) (q1 : Int64) (q2 : Int64) (h0 : Heap) (n0 : Nat) : Option Value → Heap → Prop := fun v h => ∃ r, v = some (.ref r) ∧ n0 ≤ r ∧ Keep h0 h [] ∧ Va Z h r .long [(.long q0), (.long q1), (.long q2)]
set_option maxRecDepth 65536 in
set_option maxHeartbeats 40000000 in
theorem rm12 (l : Launch) (Z : State) (a0 : Array Value) (hw : ∀ d ∈ tables_1, d.before a0 Z = true) (a : Addr) (q0 : Int64) (q1 : Int64) (q2 : Int64) (h0 : Heap) (n0 : Nat) (Z0 : n0 ≤ h0.size) (F_atLowest : Fld Z h0 a "com/example/stratasig/stratasig/index/GapCoding$Tally" "atLowest" "J" (.long q0)) (F_oneAbove : Fld Z h0 a "com/example/stratasig/stratasig/index/GapCoding$Tally" "oneAbove" "J" (.long q1)) (F_twoAbove : Fld Z h0 a "com/example/stratasig/stratasig/index/GapCoding$Tally" "twoAbove" "J" (.long q2)) : Ctr l Z (⟨"com/example/stratasig/stratasig/index/GapCoding$Tally", "quotients", "()[J"⟩ : MethodName) prog_131_method_13_code 1 (some (.array .long)) ({ frames := 0, cells := 1, slots := 3, locals := 0 } : Room) #[(.ref a)] h0 n0 (Q12 Z a q0 q1 q2 h0 n0) := by
  refine Ctr.of (plainFor_of_name pn_4) (ef_12 a) ?_
  intro p e s m below meth c T0 hx hby hml hown hnm hret hlk hZ X0 e0
  have N0 := Fr.nil n0
  refine g_iconst X0 hx (hb hby d12_0) (pc' := 1) rfl (z := (3 : Int32)) rfl ?_
  obtain ⟨T48, h48, b48, X48, e48, g48, E48, V48, A48, st48⟩ := h_newarray X0 hx hZ e0 (n := (3 : Int32)) (ty := .long) rfl (hw _ (List.mem_of_getElem? (i := 1) rfl)) (hb hby d12_1) (k := 3) (cap := 3) (by decide) rfl (by decide) (by decide) (by decide) (by decide) (ad := "[J") (by decide) #[.val (.ref a)] []
  have ne49 : a ≠ b48 := Nat.ne_of_lt (g48 ▸ F_atLowest.lt)
  have ge50 : n0 ≤ b48 := g48 ▸ Z0
  have sz51 : h0.size ≤ b48 := g48 ▸ (Keep.refl h0 []).1
  have f52 := Fld.ext E48 F_atLowest
  have f53 := Fld.ext E48 F_oneAbove
  have f54 := Fld.ext E48 F_twoAbove
  have Z55 : n0 ≤ h48.size := Nat.le_trans Z0 E48.1
  have K56 := (Keep.refl h0 []).ext E48
  have f57 : Va Z h48 b48 .long [(.long (0 : Int64)), (.long (0 : Int64)), (.long (0 : Int64))] := V48
  refine Go.movp st48 (mkF m 3 #[.val (.ref a)] [(.ref b48)]) rfl ?_
  refine g_dup X48 hx (hb hby d12_3) (pc' := 4) rfl rfl ?_
  refine g_iconst X48 hx (hb hby d12_4) (pc' := 5) rfl (z := (0 : Int32)) rfl ?_
  refine g_aloadN X48 hx (hb hby d12_5) (pc' := 6) rfl rfl rfl ?_
  obtain ⟨T58, X58, e58, st58⟩ := getF X48 hx hZ hown (host := "") (Or.inl (hw _ (List.mem_of_getElem? (i := 76) rfl))) Via.refl e48 f52 (g := (mkF m 6 #[.val (.ref a)] [(.ref a), (.int (0 : Int32)), (.ref b48), (.ref b48)])) rfl rfl (hb hby d12_6)
  refine Go.movp st58 (mkF m 9 #[.val (.ref a)] [(.long q0), (.int (0 : Int32)), (.ref b48), (.ref b48)]) rfl ?_
  obtain ⟨T59, h59, L59, X59, e59, N59, W59, V59, st59⟩ := h_lastore X58 hx hZ e58 N0 f57 ge50 (j := (0 : Int32)) (i := 0) (x := q0) (hb hby d12_9) (by decide) rfl rfl #[.val (.ref a)] [(.ref b48)]
  have f60 := Fld.other W59 f52 (Or.inl ne49)
  have f61 := Fld.other W59 f53 (Or.inl ne49)
  have f62 := Fld.other W59 f54 (Or.inl ne49)
  have f63 := Exa.wr W59 A48
  have Z64 : n0 ≤ h59.size := Nat.le_trans Z55 (Keep.of_wr W59).1
  have K65 := K56.wr W59 (Or.inr sz51)
  have f66 : Va Z h59 b48 .long [(.long q0), (.long (0 : Int64)), (.long (0 : Int64))] := V59
  refine Go.movp st59 (mkF m 10 #[.val (.ref a)] [(.ref b48)]) rfl ?_
  refine g_dup X59 hx (hb hby d12_10) (pc' := 11) rfl rfl ?_
  refine g_iconst X59 hx (hb hby d12_11) (pc' := 12) rfl (z := (1 : Int32)) rfl ?_
  refine g_aloadN X59 hx (hb hby d12_12) (pc' := 13) rfl rfl rfl ?_
  obtain ⟨T67, X67, e67, st67⟩ := getF X59 hx hZ hown (host := "") (Or.inl (hw _ (List.mem_of_getElem? (i := 77) rfl))) Via.refl e59 f61 (g := (mkF m 13 #[.val (.ref a)] [(.ref a), (.int (1 : Int32)), (.ref b48), (.ref b48)])) rfl rfl (hb hby d12_13)
  refine Go.movp st67 (mkF m 16 #[.val (.ref a)] [(.long q1), (.int (1 : Int32)), (.ref b48), (.ref b48)]) rfl ?_
  obtain ⟨T68, h68, L68, X68, e68, N68, W68, V68, st68⟩ := h_lastore X67 hx hZ e67 N59 f66 ge50 (j := (1 : Int32)) (i := 1) (x := q1) (hb hby d12_16) (by decide) rfl rfl #[.val (.ref a)] [(.ref b48)]
  have f69 := Fld.other W68 f60 (Or.inl ne49)
  have f70 := Fld.other W68 f61 (Or.inl ne49)
  have f71 := Fld.other W68 f62 (Or.inl ne49)
  have f72 := Exa.wr W68 f63
  have Z73 : n0 ≤ h68.size := Nat.le_trans Z64 (Keep.of_wr W68).1
  have K74 := K65.wr W68 (Or.inr sz51)
  have f75 : Va Z h68 b48 .long [(.long q0), (.long q1), (.long (0 : Int64))] := V68
  refine Go.movp st68 (mkF m 17 #[.val (.ref a)] [(.ref b48)]) rfl ?_
  refine g_dup X68 hx (hb hby d12_17) (pc' := 18) rfl rfl ?_
  refine g_iconst X68 hx (hb hby d12_18) (pc' := 19) rfl (z := (2 : Int32)) rfl ?_
  refine g_aloadN X68 hx (hb hby d12_19) (pc' := 20) rfl rfl rfl ?_
  obtain ⟨T76, X76, e76, st76⟩ := getF X68 hx hZ hown (host := "") (Or.inl (hw _ (List.mem_of_getElem? (i := 78) rfl))) Via.refl e68 f71 (g := (mkF m 20 #[.val (.ref a)] [(.ref a), (.int (2 : Int32)), (.ref b48), (.ref b48)])) rfl rfl (hb hby d12_20)
  refine Go.movp st76 (mkF m 23 #[.val (.ref a)] [(.long q2), (.int (2 : Int32)), (.ref b48), (.ref b48)]) rfl ?_
  obtain ⟨T77, h77, L77, X77, e77, N77, W77, V77, st77⟩ := h_lastore X76 hx hZ e76 N68 f75 ge50 (j := (2 : Int32)) (i := 2) (x := q2) (hb hby d12_23) (by decide) rfl rfl #[.val (.ref a)] [(.ref b48)]
  have f78 := Fld.other W77 f69 (Or.inl ne49)
  have f79 := Fld.other W77 f70 (Or.inl ne49)
  have f80 := Fld.other W77 f71 (Or.inl ne49)
  have f81 := Exa.wr W77 f72
  have Z82 : n0 ≤ h77.size := Nat.le_trans Z73 (Keep.of_wr W77).1
  have K83 := K74.wr W77 (Or.inr sz51)
  have f84 : Va Z h77 b48 .long [(.long q0), (.long q1), (.long q2)] := V77
  refine Go.movp st77 (mkF m 24 #[.val (.ref a)] [(.ref b48)]) rfl ?_
  exact g_areturn X77 hx rfl rfl hret (hb hby d12_24) N77 hlk (fun v t => endF (by decide) (by decide) v) (by rw [e77]; exact ⟨_, rfl, ge50, K83, f84⟩)
theorem pd____J : parseMethodDescriptor "()[J" = some ⟨[], some (.array .long)⟩ := by decide +kernel
theorem d11_0 : decode prog_131_method_12_code 0 = .ok (.aload_n 0, 1) := by decide +kernel
theorem d11_1 : decode prog_131_method_12_code 1 = .ok (.invokevirtual 54, 3) := by decide +kernel
theorem d11_4 : decode prog_131_method_12_code 4 = .ok (.astore_n 1, 1) := by decide +kernel
theorem d11_5 : decode prog_131_method_12_code 5 = .ok (.iconst 0, 1) := by decide +kernel
theorem d11_6 : decode prog_131_method_12_code 6 = .ok (.istore_n 2, 1) := by decide +kernel
theorem d11_7 : decode prog_131_method_12_code 7 = .ok (.iconst 1, 1) := by decide +kernel
theorem d11_8 : decode prog_131_method_12_code 8 = .ok (.istore_n 3, 1) := by decide +kernel
theorem d11_9 : decode prog_131_method_12_code 9 = .ok (.iload_n 3, 1) := by decide +kernel
theorem d11_10 : decode prog_131_method_12_code 10 = .ok (.aload_n 1, 1) := by decide +kernel
theorem d11_11 : decode prog_131_method_12_code 11 = .ok (.arraylength, 1) := by decide +kernel
theorem d11_12 : decode prog_131_method_12_code 12 = .ok (.if_icmp .ge 37, 3) := by decide +kernel
theorem d11_15 : decode prog_131_method_12_code 15 = .ok (.aload_n 0, 1) := by decide +kernel
theorem d11_16 : decode prog_131_method_12_code 16 = .ok (.getfield 9, 3) := by decide +kernel
theorem d11_19 : decode prog_131_method_12_code 19 = .ok (.iload_n 3, 1) := by decide +kernel
theorem d11_20 : decode prog_131_method_12_code 20 = .ok (.i2l, 1) := by decide +kernel
theorem d11_21 : decode prog_131_method_12_code 21 = .ok (.lmul, 1) := by decide +kernel
theorem d11_22 : decode prog_131_method_12_code 22 = .ok (.aload_n 1, 1) := by decide +kernel
theorem d11_23 : decode prog_131_method_12_code 23 = .ok (.iload_n 3, 1) := by decide +kernel
theorem d11_24 : decode prog_131_method_12_code 24 = .ok (.laload, 1) := by decide +kernel
theorem d11_25 : decode prog_131_method_12_code 25 = .ok (.ladd, 1) := by decide +kernel
theorem d11_26 : decode prog_131_method_12_code 26 = .ok (.aload_n 0, 1) := by decide +kernel
theorem d11_27 : decode prog_131_method_12_code 27 = .ok (.getfield 9, 3) := by decide +kernel
theorem d11_30 : decode prog_131_method_12_code 30 = .ok (.iload_n 2, 1) := by decide +kernel
theorem d11_31 : decode prog_131_method_12_code 31 = .ok (.i2l, 1) := by decide +kernel
theorem d11_32 : decode prog_131_method_12_code 32 = .ok (.lmul, 1) := by decide +kernel
theorem d11_33 : decode prog_131_method_12_code 33 = .ok (.aload_n 1, 1) := by decide +kernel
theorem d11_34 : decode prog_131_method_12_code 34 = .ok (.iload_n 2, 1) := by decide +kernel
theorem d11_35 : decode prog_131_method_12_code 35 = .ok (.laload, 1) := by decide +kernel
theorem d11_36 : decode prog_131_method_12_code 36 = .ok (.ladd, 1) := by decide +kernel
theorem d11_37 : decode prog_131_method_12_code 37 = .ok (.lcmp, 1) := by decide +kernel
theorem d11_38 : decode prog_131_method_12_code 38 = .ok (.ifCond .ge 5, 3) := by decide +kernel
theorem d11_41 : decode prog_131_method_12_code 41 = .ok (.iload_n 3, 1) := by decide +kernel
theorem d11_42 : decode prog_131_method_12_code 42 = .ok (.istore_n 2, 1) := by decide +kernel
theorem d11_43 : decode prog_131_method_12_code 43 = .ok (.iinc 3 1, 3) := by decide +kernel
theorem d11_46 : decode prog_131_method_12_code 46 = .ok (.goto (-37), 3) := by decide +kernel
theorem d11_49 : decode prog_131_method_12_code 49 = .ok (.iload_n 2, 1) := by decide +kernel
theorem d11_50 : decode prog_131_method_12_code 50 = .ok (.ireturn, 1) := by decide +kernel
theorem ef_11 (x0 : Addr) (m : MethodId) : entryFrame m #[(.ref x0)] 4 = mkF m 0 #[.val (.ref x0), .unset, .unset, .unset] [] := by first | (simp [entryFrame, mkF, argsToLocals, Value.category]; done) | rfl
def Q11 (Z : State) (a : Addr) (c0 : Int64) (q0 : Int64) (q1 : Int64) (q2 : Int64) (h0 : Heap) (n0 : Nat) : Option Value → Heap → Prop := fun v h => v = some (.int (bestV c0 q0 q1 q2)) ∧ Keep h0 h []
set_option maxRecDepth 65536 in
set_option maxHeartbeats 40000000 in
theorem rm11 (l : Launch) (Z : State) (a0 : Array Value) (hw : ∀ d ∈ tables_1, d.before a0 Z = true) (a : Addr) (c0 : Int64) (q0 : Int64) (q1 : Int64) (q2 : Int64) (h0 : Heap) (n0 : Nat) (Z0 : n0 ≤ h0.size) (F_count : Fld Z h0 a "com/example/stratasig/stratasig/index/GapCoding$Tally" "count" "J" (.long c0)) (F_atLowest : Fld Z h0 a "com/example/stratasig/stratasig/index/GapCoding$Tally" "atLowest" "J" (.long q0)) (F_oneAbove : Fld Z h0 a "com/example/stratasig/stratasig/index/GapCoding$Tally" "oneAbove" "J" (.long q1)) (F_twoAbove : Fld Z h0 a "com/example/stratasig/stratasig/index/GapCoding$Tally" "twoAbove" "J" (.long q2)) (E1 : Exa Z h0 a "com/example/stratasig/stratasig/index/GapCoding$Tally") : Ctr l Z (⟨"com/example/stratasig/stratasig/index/GapCoding$Tally", "best", "()I"⟩ : MethodName) prog_131_method_12_code 4 (some .int) ({ frames := 1, cells := 1, slots := 3, locals := 12 } : Room) #[(.ref a)] h0 n0 (Q11 Z a c0 q0 q1 q2 h0 n0) := by
  refine Ctr.of (plainFor_of_name pn_4) (ef_11 a) ?_
  intro p e s m below meth c T0 hx hby hml hown hnm hret hlk hZ X0 e0
  have N0 := Fr.nil n0
  refine g_aloadN X0 hx (hb hby d11_0) (pc' := 1) rfl rfl rfl ?_
  obtain ⟨v85, T85, h85, L85, X85, e85, N85, q85, st85⟩ := h_private (a := a) X0 hx (W := 0) (Ls := #[.val (.ref a), .unset, .unset, .unset]) (argsL := []) (rest := []) hZ e0 N0 hml hown (rm12 l Z a0 hw a q0 q1 q2 h0 n0 Z0 F_atLowest F_oneAbove F_twoAbove) E1 (hw _ (List.mem_of_getElem? (i := 72) rfl)) (hw _ (List.mem_of_getElem? (i := 73) rfl)) (hw _ (List.mem_of_getElem? (i := 74) rfl)) (hw _ (List.mem_of_getElem? (i := 19) rfl)) (hw _ (List.mem_of_getElem? (i := 20) rfl)) (hw _ (List.mem_of_getElem? (i := 75) rfl)) (by decide) pd____J rfl rfl (hb hby d11_1) rfl (by decide) (by decide) (by decide) (by decide)
  obtain ⟨r85, rfl, ge85, K85, V85⟩ := q85
  have f86 := F_count.keep K85 nin0
  have f87 := F_atLowest.keep K85 nin0
  have f88 := F_oneAbove.keep K85 nin0
  have f89 := F_twoAbove.keep K85 nin0
  have f90 := E1.keep K85
  have Z91 : n0 ≤ h85.size := Nat.le_trans Z0 K85.1
  have K92 := (Keep.refl h0 []).trans K85 all0
  refine Go.movp st85 (mkF m 4 #[.val (.ref a), .unset, .unset, .unset] [(.ref r85)]) rfl ?_
  refine g_astoreN X85 hx (hb hby d11_4) (pc' := 5) rfl rfl (Ls' := #[.val (.ref a), .val (.ref r85), .unset, .unset]) rfl ?_
  refine g_iconst X85 hx (hb hby d11_5) (pc' := 6) rfl (z := (0 : Int32)) rfl ?_
  refine g_istoreN X85 hx (hb hby d11_6) (pc' := 7) rfl (Ls' := #[.val (.ref a), .val (.ref r85), .val (.int (0 : Int32)), .unset]) rfl ?_
  refine g_iconst X85 hx (hb hby d11_7) (pc' := 8) rfl (z := (1 : Int32)) rfl ?_
  refine g_istoreN X85 hx (hb hby d11_8) (pc' := 9) rfl (Ls' := #[.val (.ref a), .val (.ref r85), .val (.int (0 : Int32)), .val (.int (1 : Int32))]) rfl ?_
  refine g_iloadN X85 hx (hb hby d11_9) (pc' := 10) rfl rfl ?_
  refine g_aloadN X85 hx (hb hby d11_10) (pc' := 11) rfl rfl rfl ?_
  refine g_arraylength X85 hx hZ e85 V85 (z := (3 : Int32)) (hb hby d11_11) (pc' := 12) rfl rfl ?_
  refine g_icmp_ge X85 hx (hb hby d11_12) (pc1 := 15) rfl (by decide) (pc2 := 49) (by decide) (fun hc12 => absurd (by decide) hc12) (fun hc12 => ?_)
  refine g_aloadN X85 hx (hb hby d11_15) (pc' := 16) rfl rfl rfl ?_
  obtain ⟨T93, X93, e93, st93⟩ := getF X85 hx hZ hown (host := "") (Or.inl (hw _ (List.mem_of_getElem? (i := 29) rfl))) Via.refl e85 f86 (g := (mkF m 16 #[.val (.ref a), .val (.ref r85), .val (.int (0 : Int32)), .val (.int (1 : Int32))] [(.ref a)])) rfl rfl (hb hby d11_16)
  refine Go.movp st93 (mkF m 19 #[.val (.ref a), .val (.ref r85), .val (.int (0 : Int32)), .val (.int (1 : Int32))] [(.long c0)]) rfl ?_
  refine g_iloadN X93 hx (hb hby d11_19) (pc' := 20) rfl rfl ?_
  refine g_i2l X93 hx (hb hby d11_20) (pc' := 21) rfl ?_
  refine g_lmul X93 hx (hb hby d11_21) (pc' := 22) rfl ?_
  refine g_aloadN X93 hx (hb hby d11_22) (pc' := 23) rfl rfl rfl ?_
  refine g_iloadN X93 hx (hb hby d11_23) (pc' := 24) rfl rfl ?_
  refine g_laload X93 hx hZ e93 V85 (i := 1) (v := (.long q1)) (hb hby d11_24) (pc' := 25) rfl (by decide) rfl rfl ?_
  refine g_ladd X93 hx (hb hby d11_25) (pc' := 26) rfl ?_
  refine g_aloadN X93 hx (hb hby d11_26) (pc' := 27) rfl rfl rfl ?_
  obtain ⟨T94, X94, e94, st94⟩ := getF X93 hx hZ hown (host := "") (Or.inl (hw _ (List.mem_of_getElem? (i := 29) rfl))) Via.refl e93 f86 (g := (mkF m 27 #[.val (.ref a), .val (.ref r85), .val (.int (0 : Int32)), .val (.int (1 : Int32))] [(.ref a), (.long ((c0 * (1 : Int32).toInt64) + q1))])) rfl rfl (hb hby d11_27)
  refine Go.movp st94 (mkF m 30 #[.val (.ref a), .val (.ref r85), .val (.int (0 : Int32)), .val (.int (1 : Int32))] [(.long c0), (.long ((c0 * (1 : Int32).toInt64) + q1))]) rfl ?_
  refine g_iloadN X94 hx (hb hby d11_30) (pc' := 31) rfl rfl ?_
  refine g_i2l X94 hx (hb hby d11_31) (pc' := 32) rfl ?_
  refine g_lmul X94 hx (hb hby d11_32) (pc' := 33) rfl ?_
  refine g_aloadN X94 hx (hb hby d11_33) (pc' := 34) rfl rfl rfl ?_
  refine g_iloadN X94 hx (hb hby d11_34) (pc' := 35) rfl rfl ?_
  refine g_laload X94 hx hZ e94 V85 (i := 0) (v := (.long q0)) (hb hby d11_35) (pc' := 36) rfl (by decide) rfl rfl ?_
  refine g_ladd X94 hx (hb hby d11_36) (pc' := 37) rfl ?_
  refine g_lcmp_ge X94 hx (hb hby d11_37) (pc' := 38) rfl (hb hby d11_38) (pc1 := 41) rfl (by decide) (pc2 := 43) (by decide) (fun hc37 => ?_) (fun hc37 => ?_)
  · skip
    refine g_iinc X94 hx (hb hby d11_43) (pc' := 46) rfl rfl (z := (1 : Int32)) rfl (Ls' := #[.val (.ref a), .val (.ref r85), .val (.int (0 : Int32)), .val (.int (2 : Int32))]) rfl ?_
    refine g_goto X94 hx (hb hby d11_46) (by decide) (pc' := 9) (by decide) ?_
    refine g_iloadN X94 hx (hb hby d11_9) (pc' := 10) rfl rfl ?_
    refine g_aloadN X94 hx (hb hby d11_10) (pc' := 11) rfl rfl rfl ?_
    refine g_arraylength X94 hx hZ e94 V85 (z := (3 : Int32)) (hb hby d11_11) (pc' := 12) rfl rfl ?_
    refine g_icmp_ge X94 hx (hb hby d11_12) (pc1 := 15) rfl (by decide) (pc2 := 49) (by decide) (fun hc12_1 => absurd (by decide) hc12_1) (fun hc12_1 => ?_)
    refine g_aloadN X94 hx (hb hby d11_15) (pc' := 16) rfl rfl rfl ?_
    obtain ⟨T95, X95, e95, st95⟩ := getF X94 hx hZ hown (host := "") (Or.inl (hw _ (List.mem_of_getElem? (i := 29) rfl))) Via.refl e94 f86 (g := (mkF m 16 #[.val (.ref a), .val (.ref r85), .val (.int (0 : Int32)), .val (.int (2 : Int32))] [(.ref a)])) rfl rfl (hb hby d11_16)
    refine Go.movp st95 (mkF m 19 #[.val (.ref a), .val (.ref r85), .val (.int (0 : Int32)), .val (.int (2 : Int32))] [(.long c0)]) rfl ?_
    refine g_iloadN X95 hx (hb hby d11_19) (pc' := 20) rfl rfl ?_
    refine g_i2l X95 hx (hb hby d11_20) (pc' := 21) rfl ?_
    refine g_lmul X95 hx (hb hby d11_21) (pc' := 22) rfl ?_
    refine g_aloadN X95 hx (hb hby d11_22) (pc' := 23) rfl rfl rfl ?_
    refine g_iloadN X95 hx (hb hby d11_23) (pc' := 24) rfl rfl ?_
    refine g_laload X95 hx hZ e95 V85 (i := 2) (v := (.long q2)) (hb hby d11_24) (pc' := 25) rfl (by decide) rfl rfl ?_
    refine g_ladd X95 hx (hb hby d11_25) (pc' := 26) rfl ?_
    refine g_aloadN X95 hx (hb hby d11_26) (pc' := 27) rfl rfl rfl ?_
    obtain ⟨T96, X96, e96, st96⟩ := getF X95 hx hZ hown (host := "") (Or.inl (hw _ (List.mem_of_getElem? (i := 29) rfl))) Via.refl e95 f86 (g := (mkF m 27 #[.val (.ref a), .val (.ref r85), .val (.int (0 : Int32)), .val (.int (2 : Int32))] [(.ref a), (.long ((c0 * (2 : Int32).toInt64) + q2))])) rfl rfl (hb hby d11_27)
    refine Go.movp st96 (mkF m 30 #[.val (.ref a), .val (.ref r85), .val (.int (0 : Int32)), .val (.int (2 : Int32))] [(.long c0), (.long ((c0 * (2 : Int32).toInt64) + q2))]) rfl ?_
    refine g_iloadN X96 hx (hb hby d11_30) (pc' := 31) rfl rfl ?_
    refine g_i2l X96 hx (hb hby d11_31) (pc' := 32) rfl ?_
    refine g_lmul X96 hx (hb hby d11_32) (pc' := 33) rfl ?_
    refine g_aloadN X96 hx (hb hby d11_33) (pc' := 34) rfl rfl rfl ?_
    refine g_iloadN X96 hx (hb hby d11_34) (pc' := 35) rfl rfl ?_
    refine g_laload X96 hx hZ e96 V85 (i := 0) (v := (.long q0)) (hb hby d11_35) (pc' := 36) rfl (by decide) rfl rfl ?_
    refine g_ladd X96 hx (hb hby d11_36) (pc' := 37) rfl ?_
    refine g_lcmp_ge X96 hx (hb hby d11_37) (pc' := 38) rfl (hb hby d11_38) (pc1 := 41) rfl (by decide) (pc2 := 43) (by decide) (fun hc37_1 => ?_) (fun hc37_1 => ?_)
    · skip
      refine g_iinc X96 hx (hb hby d11_43) (pc' := 46) rfl rfl (z := (1 : Int32)) rfl (Ls' := #[.val (.ref a), .val (.ref r85), .val (.int (0 : Int32)), .val (.int (3 : Int32))]) rfl ?_
      refine g_goto X96 hx (hb hby d11_46) (by decide) (pc' := 9) (by decide) ?_
      refine g_iloadN X96 hx (hb hby d11_9) (pc' := 10) rfl rfl ?_
      refine g_aloadN X96 hx (hb hby d11_10) (pc' := 11) rfl rfl rfl ?_
      refine g_arraylength X96 hx hZ e96 V85 (z := (3 : Int32)) (hb hby d11_11) (pc' := 12) rfl rfl ?_
      refine g_icmp_ge X96 hx (hb hby d11_12) (pc1 := 15) rfl (by decide) (pc2 := 49) (by decide) (fun hc12_2 => ?_) (fun hc12_2 => absurd hc12_2 (by decide))
      refine g_iloadN X96 hx (hb hby d11_49) (pc' := 50) rfl rfl ?_
      exact g_ireturn X96 hx hret (hb hby d11_50) N85 hlk (fun v t => endF (by decide) (by decide) v) (by rw [e96]; refine ⟨?_, K92⟩; simp only [bestV, if_neg hc37, if_neg hc37_1])
    · skip
      refine g_iloadN X96 hx (hb hby d11_41) (pc' := 42) rfl rfl ?_
      refine g_istoreN X96 hx (hb hby d11_42) (pc' := 43) rfl (Ls' := #[.val (.ref a), .val (.ref r85), .val (.int (2 : Int32)), .val (.int (2 : Int32))]) rfl ?_
      refine g_iinc X96 hx (hb hby d11_43) (pc' := 46) rfl rfl (z := (1 : Int32)) rfl (Ls' := #[.val (.ref a), .val (.ref r85), .val (.int (2 : Int32)), .val (.int (3 : Int32))]) rfl ?_
      refine g_goto X96 hx (hb hby d11_46) (by decide) (pc' := 9) (by decide) ?_
      refine g_iloadN X96 hx (hb hby d11_9) (pc' := 10) rfl rfl ?_
      refine g_aloadN X96 hx (hb hby d11_10) (pc' := 11) rfl rfl rfl ?_
      refine g_arraylength X96 hx hZ e96 V85 (z := (3 : Int32)) (hb hby d11_11) (pc' := 12) rfl rfl ?_
      refine g_icmp_ge X96 hx (hb hby d11_12) (pc1 := 15) rfl (by decide) (pc2 := 49) (by decide) (fun hc12_2 => ?_) (fun hc12_2 => absurd hc12_2 (by decide))
      refine g_iloadN X96 hx (hb hby d11_49) (pc' := 50) rfl rfl ?_
      exact g_ireturn X96 hx hret (hb hby d11_50) N85 hlk (fun v t => endF (by decide) (by decide) v) (by rw [e96]; refine ⟨?_, K92⟩; simp only [bestV, if_neg hc37, if_pos hc37_1])
  · skip
    refine g_iloadN X94 hx (hb hby d11_41) (pc' := 42) rfl rfl ?_
    refine g_istoreN X94 hx (hb hby d11_42) (pc' := 43) rfl (Ls' := #[.val (.ref a), .val (.ref r85), .val (.int (1 : Int32)), .val (.int (1 : Int32))]) rfl ?_
    refine g_iinc X94 hx (hb hby d11_43) (pc' := 46) rfl rfl (z := (1 : Int32)) rfl (Ls' := #[.val (.ref a), .val (.ref r85), .val (.int (1 : Int32)), .val (.int (2 : Int32))]) rfl ?_
    refine g_goto X94 hx (hb hby d11_46) (by decide) (pc' := 9) (by decide) ?_
    refine g_iloadN X94 hx (hb hby d11_9) (pc' := 10) rfl rfl ?_
    refine g_aloadN X94 hx (hb hby d11_10) (pc' := 11) rfl rfl rfl ?_
    refine g_arraylength X94 hx hZ e94 V85 (z := (3 : Int32)) (hb hby d11_11) (pc' := 12) rfl rfl ?_
    refine g_icmp_ge X94 hx (hb hby d11_12) (pc1 := 15) rfl (by decide) (pc2 := 49) (by decide) (fun hc12_1 => absurd (by decide) hc12_1) (fun hc12_1 => ?_)
    refine g_aloadN X94 hx (hb hby d11_15) (pc' := 16) rfl rfl rfl ?_
    obtain ⟨T97, X97, e97, st97⟩ := getF X94 hx hZ hown (host := "") (Or.inl (hw _ (List.mem_of_getElem? (i := 29) rfl))) Via.refl e94 f86 (g := (mkF m 16 #[.val (.ref a), .val (.ref r85), .val (.int (1 : Int32)), .val (.int (2 : Int32))] [(.ref a)])) rfl rfl (hb hby d11_16)
    refine Go.movp st97 (mkF m 19 #[.val (.ref a), .val (.ref r85), .val (.int (1 : Int32)), .val (.int (2 : Int32))] [(.long c0)]) rfl ?_
    refine g_iloadN X97 hx (hb hby d11_19) (pc' := 20) rfl rfl ?_
    refine g_i2l X97 hx (hb hby d11_20) (pc' := 21) rfl ?_
    refine g_lmul X97 hx (hb hby d11_21) (pc' := 22) rfl ?_
    refine g_aloadN X97 hx (hb hby d11_22) (pc' := 23) rfl rfl rfl ?_
    refine g_iloadN X97 hx (hb hby d11_23) (pc' := 24) rfl rfl ?_
    refine g_laload X97 hx hZ e97 V85 (i := 2) (v := (.long q2)) (hb hby d11_24) (pc' := 25) rfl (by decide) rfl rfl ?_
    refine g_ladd X97 hx (hb hby d11_25) (pc' := 26) rfl ?_
    refine g_aloadN X97 hx (hb hby d11_26) (pc' := 27) rfl rfl rfl ?_
    obtain ⟨T98, X98, e98, st98⟩ := getF X97 hx hZ hown (host := "") (Or.inl (hw _ (List.mem_of_getElem? (i := 29) rfl))) Via.refl e97 f86 (g := (mkF m 27 #[.val (.ref a), .val (.ref r85), .val (.int (1 : Int32)), .val (.int (2 : Int32))] [(.ref a), (.long ((c0 * (2 : Int32).toInt64) + q2))])) rfl rfl (hb hby d11_27)
    refine Go.movp st98 (mkF m 30 #[.val (.ref a), .val (.ref r85), .val (.int (1 : Int32)), .val (.int (2 : Int32))] [(.long c0), (.long ((c0 * (2 : Int32).toInt64) + q2))]) rfl ?_
    refine g_iloadN X98 hx (hb hby d11_30) (pc' := 31) rfl rfl ?_
    refine g_i2l X98 hx (hb hby d11_31) (pc' := 32) rfl ?_
    refine g_lmul X98 hx (hb hby d11_32) (pc' := 33) rfl ?_
    refine g_aloadN X98 hx (hb hby d11_33) (pc' := 34) rfl rfl rfl ?_
    refine g_iloadN X98 hx (hb hby d11_34) (pc' := 35) rfl rfl ?_
    refine g_laload X98 hx hZ e98 V85 (i := 1) (v := (.long q1)) (hb hby d11_35) (pc' := 36) rfl (by decide) rfl rfl ?_
    refine g_ladd X98 hx (hb hby d11_36) (pc' := 37) rfl ?_
    refine g_lcmp_ge X98 hx (hb hby d11_37) (pc' := 38) rfl (hb hby d11_38) (pc1 := 41) rfl (by decide) (pc2 := 43) (by decide) (fun hc37_1 => ?_) (fun hc37_1 => ?_)
    · skip
      refine g_iinc X98 hx (hb hby d11_43) (pc' := 46) rfl rfl (z := (1 : Int32)) rfl (Ls' := #[.val (.ref a), .val (.ref r85), .val (.int (1 : Int32)), .val (.int (3 : Int32))]) rfl ?_
      refine g_goto X98 hx (hb hby d11_46) (by decide) (pc' := 9) (by decide) ?_
      refine g_iloadN X98 hx (hb hby d11_9) (pc' := 10) rfl rfl ?_
      refine g_aloadN X98 hx (hb hby d11_10) (pc' := 11) rfl rfl rfl ?_
      refine g_arraylength X98 hx hZ e98 V85 (z := (3 : Int32)) (hb hby d11_11) (pc' := 12) rfl rfl ?_
      refine g_icmp_ge X98 hx (hb hby d11_12) (pc1 := 15) rfl (by decide) (pc2 := 49) (by decide) (fun hc12_2 => ?_) (fun hc12_2 => absurd hc12_2 (by decide))
      refine g_iloadN X98 hx (hb hby d11_49) (pc' := 50) rfl rfl ?_
      exact g_ireturn X98 hx hret (hb hby d11_50) N85 hlk (fun v t => endF (by decide) (by decide) v) (by rw [e98]; refine ⟨?_, K92⟩; simp only [bestV, if_pos hc37, if_neg hc37_1])
    · skip
      refine g_iloadN X98 hx (hb hby d11_41) (pc' := 42) rfl rfl ?_
      refine g_istoreN X98 hx (hb hby d11_42) (pc' := 43) rfl (Ls' := #[.val (.ref a), .val (.ref r85), .val (.int (2 : Int32)), .val (.int (2 : Int32))]) rfl ?_
      refine g_iinc X98 hx (hb hby d11_43) (pc' := 46) rfl rfl (z := (1 : Int32)) rfl (Ls' := #[.val (.ref a), .val (.ref r85), .val (.int (2 : Int32)), .val (.int (3 : Int32))]) rfl ?_
      refine g_goto X98 hx (hb hby d11_46) (by decide) (pc' := 9) (by decide) ?_
      refine g_iloadN X98 hx (hb hby d11_9) (pc' := 10) rfl rfl ?_
      refine g_aloadN X98 hx (hb hby d11_10) (pc' := 11) rfl rfl rfl ?_
      refine g_arraylength X98 hx hZ e98 V85 (z := (3 : Int32)) (hb hby d11_11) (pc' := 12) rfl rfl ?_
      refine g_icmp_ge X98 hx (hb hby d11_12) (pc1 := 15) rfl (by decide) (pc2 := 49) (by decide) (fun hc12_2 => ?_) (fun hc12_2 => absurd hc12_2 (by decide))
      refine g_iloadN X98 hx (hb hby d11_49) (pc' := 50) rfl rfl ?_
      exact g_ireturn X98 hx hret (hb hby d11_50) N85 hlk (fun v t => endF (by decide) (by decide) v) (by rw [e98]; refine ⟨?_, K92⟩; simp only [bestV, if_pos hc37, if_pos hc37_1])
theorem pd___I : parseMethodDescriptor "()I" = some ⟨[], some .int⟩ := by decide +kernel
theorem d10_0 : decode prog_131_method_9_code 0 = .ok (.aload_n 0, 1) := by decide +kernel
theorem d10_1 : decode prog_131_method_9_code 1 = .ok (.invokevirtual 50, 3) := by decide +kernel
theorem d10_4 : decode prog_131_method_9_code 4 = .ok (.istore_n 1, 1) := by decide +kernel
theorem d10_5 : decode prog_131_method_9_code 5 = .ok (.aload_n 0, 1) := by decide +kernel
theorem d10_6 : decode prog_131_method_9_code 6 = .ok (.getfield 9, 3) := by decide +kernel
theorem d10_9 : decode prog_131_method_9_code 9 = .ok (.aload_n 0, 1) := by decide +kernel
theorem d10_10 : decode prog_131_method_9_code 10 = .ok (.getfield 30, 3) := by decide +kernel
theorem d10_13 : decode prog_131_method_9_code 13 = .ok (.iload_n 1, 1) := by decide +kernel
theorem d10_14 : decode prog_131_method_9_code 14 = .ok (.iadd, 1) := by decide +kernel
theorem d10_15 : decode prog_131_method_9_code 15 = .ok (.iconst 1, 1) := by decide +kernel
theorem d10_16 : decode prog_131_method_9_code 16 = .ok (.iadd, 1) := by decide +kernel
theorem d10_17 : decode prog_131_method_9_code 17 = .ok (.i2l, 1) := by decide +kernel
theorem d10_18 : decode prog_131_method_9_code 18 = .ok (.lmul, 1) := by decide +kernel
theorem d10_19 : decode prog_131_method_9_code 19 = .ok (.aload_n 0, 1) := by decide +kernel
theorem d10_20 : decode prog_131_method_9_code 20 = .ok (.invokevirtual 54, 3) := by decide +kernel
theorem d10_23 : decode prog_131_method_9_code 23 = .ok (.iload_n 1, 1) := by decide +kernel
theorem d10_24 : decode prog_131_method_9_code 24 = .ok (.laload, 1) := by decide +kernel
theorem d10_25 : decode prog_131_method_9_code 25 = .ok (.ladd, 1) := by decide +kernel
theorem d10_26 : decode prog_131_method_9_code 26 = .ok (.lreturn, 1) := by decide +kernel
theorem ef_10 (x0 : Addr) (m : MethodId) : entryFrame m #[(.ref x0)] 2 = mkF m 0 #[.val (.ref x0), .unset] [] := by first | (simp [entryFrame, mkF, argsToLocals, Value.category]; done) | rfl
def Q10 (Z : State) (a : Addr) (c0 : Int64) (lo : Int32) (q0 : Int64) (q1 : Int64) (q2 : Int64) (h0 : Heap) (n0 : Nat) : Option Value → Heap → Prop := fun v h => v = some (.long (bitsV c0 lo q0 q1 q2)) ∧ Keep h0 h []
set_option maxRecDepth 65536 in
set_option maxHeartbeats 40000000 in
theorem rm10 (l : Launch) (Z : State) (a0 : Array Value) (hw : ∀ d ∈ tables_1, d.before a0 Z = true) (a : Addr) (c0 : Int64) (lo : Int32) (q0 : Int64) (q1 : Int64) (q2 : Int64) (h0 : Heap) (n0 : Nat) (Z0 : n0 ≤ h0.size) (F_count : Fld Z h0 a "com/example/stratasig/stratasig/index/GapCoding$Tally" "count" "J" (.long c0)) (F_lowest : Fld Z h0 a "com/example/stratasig/stratasig/index/GapCoding$Tally" "lowest" "I" (.int lo)) (F_atLowest : Fld Z h0 a "com/example/stratasig/stratasig/index/GapCoding$Tally" "atLowest" "J" (.long q0)) (F_oneAbove : Fld Z h0 a "com/example/stratasig/stratasig/index/GapCoding$Tally" "oneAbove" "J" (.long q1)) (F_twoAbove : Fld Z h0 a "com/example/stratasig/stratasig/index/GapCoding$Tally" "twoAbove" "J" (.long q2)) (E1 : Exa Z h0 a "com/example/stratasig/stratasig/index/GapCoding$Tally") : Ctr l Z (⟨"com/example/stratasig/stratasig/index/GapCoding$Tally", "bits", "()J"⟩ : MethodName) prog_131_method_9_code 2 (some .long) ({ frames := 2, cells := 2, slots := 6, locals := 27 } : Room) #[(.ref a)] h0 n0 (Q10 Z a c0 lo q0 q1 q2 h0 n0) := by
  refine Ctr.of (plainFor_of_name pn_4) (ef_10 a) ?_
  intro p e s m below meth c T0 hx hby hml hown hnm hret hlk hZ X0 e0
  have N0 := Fr.nil n0
  refine g_aloadN X0 hx (hb hby d10_0) (pc' := 1) rfl rfl rfl ?_
  obtain ⟨v99, T99, h99, L99, X99, e99, N99, q99, st99⟩ := h_private (a := a) X0 hx (W := 0) (Ls := #[.val (.ref a), .unset]) (argsL := []) (rest := []) hZ e0 N0 hml hown (rm11 l Z a0 hw a c0 q0 q1 q2 h0 n0 Z0 F_count F_atLowest F_oneAbove F_twoAbove E1) E1 (hw _ (List.mem_of_getElem? (i := 68) rfl)) (hw _ (List.mem_of_getElem? (i := 69) rfl)) (hw _ (List.mem_of_getElem? (i := 70) rfl)) (hw _ (List.mem_of_getElem? (i := 19) rfl)) (hw _ (List.mem_of_getElem? (i := 20) rfl)) (hw _ (List.mem_of_getElem? (i := 71) rfl)) (by decide) pd___I rfl rfl (hb hby d10_1) rfl (by decide) (by decide) (by decide) (by decide)
  obtain ⟨rfl, K99⟩ := q99
  have f100 := F_count.keep K99 nin0
  have f101 := F_lowest.keep K99 nin0
  have f102 := F_atLowest.keep K99 nin0
  have f103 := F_oneAbove.keep K99 nin0
  have f104 := F_twoAbove.keep K99 nin0
  have f105 := E1.keep K99
  have Z106 : n0 ≤ h99.size := Nat.le_trans Z0 K99.1
  have K107 := (Keep.refl h0 []).trans K99 all0
  refine Go.movp st99 (mkF m 4 #[.val (.ref a), .unset] [(.int (bestV c0 q0 q1 q2))]) rfl ?_
  rcases own_best c0 q0 q1 q2 with qb | qb | qb
  · skip
    refine Go.cast (show (mkF m 4 #[.val (.ref a), .unset] [(.int (bestV c0 q0 q1 q2))]) = (mkF m 4 #[.val (.ref a), .unset] [(.int (0 : Int32))]) from by rw [show (bestV c0 q0 q1 q2) = (0 : Int32) from qb]) ?_
    refine g_istoreN X99 hx (hb hby d10_4) (pc' := 5) rfl (Ls' := #[.val (.ref a), .val (.int (0 : Int32))]) rfl ?_
    refine g_aloadN X99 hx (hb hby d10_5) (pc' := 6) rfl rfl rfl ?_
    obtain ⟨T108, X108, e108, st108⟩ := getF X99 hx hZ hown (host := "") (Or.inl (hw _ (List.mem_of_getElem? (i := 29) rfl))) Via.refl e99 f100 (g := (mkF m 6 #[.val (.ref a), .val (.int (0 : Int32))] [(.ref a)])) rfl rfl (hb hby d10_6)
    refine Go.movp st108 (mkF m 9 #[.val (.ref a), .val (.int (0 : Int32))] [(.long c0)]) rfl ?_
    refine g_aloadN X108 hx (hb hby d10_9) (pc' := 10) rfl rfl rfl ?_
    obtain ⟨T109, X109, e109, st109⟩ := getF X108 hx hZ hown (host := "") (Or.inl (hw _ (List.mem_of_getElem? (i := 45) rfl))) Via.refl e108 f101 (g := (mkF m 10 #[.val (.ref a), .val (.int (0 : Int32))] [(.ref a), (.long c0)])) rfl rfl (hb hby d10_10)
    refine Go.movp st109 (mkF m 13 #[.val (.ref a), .val (.int (0 : Int32))] [(.int lo), (.long c0)]) rfl ?_
    refine g_iloadN X109 hx (hb hby d10_13) (pc' := 14) rfl rfl ?_
    refine g_iadd X109 hx (hb hby d10_14) (pc' := 15) rfl ?_
    refine g_iconst X109 hx (hb hby d10_15) (pc' := 16) rfl (z := (1 : Int32)) rfl ?_
    refine g_iadd X109 hx (hb hby d10_16) (pc' := 17) rfl ?_
    refine g_i2l X109 hx (hb hby d10_17) (pc' := 18) rfl ?_
    refine g_lmul X109 hx (hb hby d10_18) (pc' := 19) rfl ?_
    refine g_aloadN X109 hx (hb hby d10_19) (pc' := 20) rfl rfl rfl ?_
    obtain ⟨v110, T110, h110, L110, X110, e110, N110, q110, st110⟩ := h_private (a := a) X109 hx (W := 2) (Ls := #[.val (.ref a), .val (.int (0 : Int32))]) (argsL := []) (rest := [(.long (c0 * ((lo + (0 : Int32)) + (1 : Int32)).toInt64))]) hZ e109 N99 hml hown (rm12 l Z a0 hw a q0 q1 q2 h99 n0 Z106 f102 f103 f104) f105 (hw _ (List.mem_of_getElem? (i := 72) rfl)) (hw _ (List.mem_of_getElem? (i := 73) rfl)) (hw _ (List.mem_of_getElem? (i := 74) rfl)) (hw _ (List.mem_of_getElem? (i := 19) rfl)) (hw _ (List.mem_of_getElem? (i := 20) rfl)) (hw _ (List.mem_of_getElem? (i := 75) rfl)) (by decide) pd____J rfl rfl (hb hby d10_20) rfl (by decide) (by decide) (by decide) (by decide)
    obtain ⟨r110, rfl, ge110, K110, V110⟩ := q110
    have f111 := f100.keep K110 nin0
    have f112 := f101.keep K110 nin0
    have f113 := f102.keep K110 nin0
    have f114 := f103.keep K110 nin0
    have f115 := f104.keep K110 nin0
    have f116 := f105.keep K110
    have Z117 : n0 ≤ h110.size := Nat.le_trans Z106 K110.1
    have K118 := K107.trans K110 all0
    refine Go.movp st110 (mkF m 23 #[.val (.ref a), .val (.int (0 : Int32))] [(.ref r110), (.long (c0 * ((lo + (0 : Int32)) + (1 : Int32)).toInt64))]) rfl ?_
    refine g_iloadN X110 hx (hb hby d10_23) (pc' := 24) rfl rfl ?_
    refine g_laload X110 hx hZ e110 V110 (i := 0) (v := (.long q0)) (hb hby d10_24) (pc' := 25) rfl (by decide) rfl rfl ?_
    refine g_ladd X110 hx (hb hby d10_25) (pc' := 26) rfl ?_
    exact g_lreturn X110 hx hret (hb hby d10_26) N110 hlk (fun v t => endF (by decide) (by decide) v) (by rw [e110]; refine ⟨?_, K118⟩; unfold bitsV; rw [qb]; rfl)
  · skip
    refine Go.cast (show (mkF m 4 #[.val (.ref a), .unset] [(.int (bestV c0 q0 q1 q2))]) = (mkF m 4 #[.val (.ref a), .unset] [(.int (1 : Int32))]) from by rw [show (bestV c0 q0 q1 q2) = (1 : Int32) from qb]) ?_
    refine g_istoreN X99 hx (hb hby d10_4) (pc' := 5) rfl (Ls' := #[.val (.ref a), .val (.int (1 : Int32))]) rfl ?_
    refine g_aloadN X99 hx (hb hby d10_5) (pc' := 6) rfl rfl rfl ?_
    obtain ⟨T119, X119, e119, st119⟩ := getF X99 hx hZ hown (host := "") (Or.inl (hw _ (List.mem_of_getElem? (i := 29) rfl))) Via.refl e99 f100 (g := (mkF m 6 #[.val (.ref a), .val (.int (1 : Int32))] [(.ref a)])) rfl rfl (hb hby d10_6)
    refine Go.movp st119 (mkF m 9 #[.val (.ref a), .val (.int (1 : Int32))] [(.long c0)]) rfl ?_
    refine g_aloadN X119 hx (hb hby d10_9) (pc' := 10) rfl rfl rfl ?_
    obtain ⟨T120, X120, e120, st120⟩ := getF X119 hx hZ hown (host := "") (Or.inl (hw _ (List.mem_of_getElem? (i := 45) rfl))) Via.refl e119 f101 (g := (mkF m 10 #[.val (.ref a), .val (.int (1 : Int32))] [(.ref a), (.long c0)])) rfl rfl (hb hby d10_10)
    refine Go.movp st120 (mkF m 13 #[.val (.ref a), .val (.int (1 : Int32))] [(.int lo), (.long c0)]) rfl ?_
    refine g_iloadN X120 hx (hb hby d10_13) (pc' := 14) rfl rfl ?_
    refine g_iadd X120 hx (hb hby d10_14) (pc' := 15) rfl ?_
    refine g_iconst X120 hx (hb hby d10_15) (pc' := 16) rfl (z := (1 : Int32)) rfl ?_
    refine g_iadd X120 hx (hb hby d10_16) (pc' := 17) rfl ?_
    refine g_i2l X120 hx (hb hby d10_17) (pc' := 18) rfl ?_
    refine g_lmul X120 hx (hb hby d10_18) (pc' := 19) rfl ?_
    refine g_aloadN X120 hx (hb hby d10_19) (pc' := 20) rfl rfl rfl ?_
    obtain ⟨v121, T121, h121, L121, X121, e121, N121, q121, st121⟩ := h_private (a := a) X120 hx (W := 2) (Ls := #[.val (.ref a), .val (.int (1 : Int32))]) (argsL := []) (rest := [(.long (c0 * ((lo + (1 : Int32)) + (1 : Int32)).toInt64))]) hZ e120 N99 hml hown (rm12 l Z a0 hw a q0 q1 q2 h99 n0 Z106 f102 f103 f104) f105 (hw _ (List.mem_of_getElem? (i := 72) rfl)) (hw _ (List.mem_of_getElem? (i := 73) rfl)) (hw _ (List.mem_of_getElem? (i := 74) rfl)) (hw _ (List.mem_of_getElem? (i := 19) rfl)) (hw _ (List.mem_of_getElem? (i := 20) rfl)) (hw _ (List.mem_of_getElem? (i := 75) rfl)) (by decide) pd____J rfl rfl (hb hby d10_20) rfl (by decide) (by decide) (by decide) (by decide)
    obtain ⟨r121, rfl, ge121, K121, V121⟩ := q121
    have f122 := f100.keep K121 nin0
    have f123 := f101.keep K121 nin0
    have f124 := f102.keep K121 nin0
    have f125 := f103.keep K121 nin0
    have f126 := f104.keep K121 nin0
    have f127 := f105.keep K121
    have Z128 : n0 ≤ h121.size := Nat.le_trans Z106 K121.1
    have K129 := K107.trans K121 all0
    refine Go.movp st121 (mkF m 23 #[.val (.ref a), .val (.int (1 : Int32))] [(.ref r121), (.long (c0 * ((lo + (1 : Int32)) + (1 : Int32)).toInt64))]) rfl ?_
    refine g_iloadN X121 hx (hb hby d10_23) (pc' := 24) rfl rfl ?_
    refine g_laload X121 hx hZ e121 V121 (i := 1) (v := (.long q1)) (hb hby d10_24) (pc' := 25) rfl (by decide) rfl rfl ?_
    refine g_ladd X121 hx (hb hby d10_25) (pc' := 26) rfl ?_
    exact g_lreturn X121 hx hret (hb hby d10_26) N121 hlk (fun v t => endF (by decide) (by decide) v) (by rw [e121]; refine ⟨?_, K129⟩; unfold bitsV; rw [qb]; rfl)
  · skip
    refine Go.cast (show (mkF m 4 #[.val (.ref a), .unset] [(.int (bestV c0 q0 q1 q2))]) = (mkF m 4 #[.val (.ref a), .unset] [(.int (2 : Int32))]) from by rw [show (bestV c0 q0 q1 q2) = (2 : Int32) from qb]) ?_
    refine g_istoreN X99 hx (hb hby d10_4) (pc' := 5) rfl (Ls' := #[.val (.ref a), .val (.int (2 : Int32))]) rfl ?_
    refine g_aloadN X99 hx (hb hby d10_5) (pc' := 6) rfl rfl rfl ?_
    obtain ⟨T130, X130, e130, st130⟩ := getF X99 hx hZ hown (host := "") (Or.inl (hw _ (List.mem_of_getElem? (i := 29) rfl))) Via.refl e99 f100 (g := (mkF m 6 #[.val (.ref a), .val (.int (2 : Int32))] [(.ref a)])) rfl rfl (hb hby d10_6)
    refine Go.movp st130 (mkF m 9 #[.val (.ref a), .val (.int (2 : Int32))] [(.long c0)]) rfl ?_
    refine g_aloadN X130 hx (hb hby d10_9) (pc' := 10) rfl rfl rfl ?_
    obtain ⟨T131, X131, e131, st131⟩ := getF X130 hx hZ hown (host := "") (Or.inl (hw _ (List.mem_of_getElem? (i := 45) rfl))) Via.refl e130 f101 (g := (mkF m 10 #[.val (.ref a), .val (.int (2 : Int32))] [(.ref a), (.long c0)])) rfl rfl (hb hby d10_10)
    refine Go.movp st131 (mkF m 13 #[.val (.ref a), .val (.int (2 : Int32))] [(.int lo), (.long c0)]) rfl ?_
    refine g_iloadN X131 hx (hb hby d10_13) (pc' := 14) rfl rfl ?_
    refine g_iadd X131 hx (hb hby d10_14) (pc' := 15) rfl ?_
    refine g_iconst X131 hx (hb hby d10_15) (pc' := 16) rfl (z := (1 : Int32)) rfl ?_
    refine g_iadd X131 hx (hb hby d10_16) (pc' := 17) rfl ?_
    refine g_i2l X131 hx (hb hby d10_17) (pc' := 18) rfl ?_
    refine g_lmul X131 hx (hb hby d10_18) (pc' := 19) rfl ?_
    refine g_aloadN X131 hx (hb hby d10_19) (pc' := 20) rfl rfl rfl ?_
    obtain ⟨v132, T132, h132, L132, X132, e132, N132, q132, st132⟩ := h_private (a := a) X131 hx (W := 2) (Ls := #[.val (.ref a), .val (.int (2 : Int32))]) (argsL := []) (rest := [(.long (c0 * ((lo + (2 : Int32)) + (1 : Int32)).toInt64))]) hZ e131 N99 hml hown (rm12 l Z a0 hw a q0 q1 q2 h99 n0 Z106 f102 f103 f104) f105 (hw _ (List.mem_of_getElem? (i := 72) rfl)) (hw _ (List.mem_of_getElem? (i := 73) rfl)) (hw _ (List.mem_of_getElem? (i := 74) rfl)) (hw _ (List.mem_of_getElem? (i := 19) rfl)) (hw _ (List.mem_of_getElem? (i := 20) rfl)) (hw _ (List.mem_of_getElem? (i := 75) rfl)) (by decide) pd____J rfl rfl (hb hby d10_20) rfl (by decide) (by decide) (by decide) (by decide)
    obtain ⟨r132, rfl, ge132, K132, V132⟩ := q132
    have f133 := f100.keep K132 nin0
    have f134 := f101.keep K132 nin0
    have f135 := f102.keep K132 nin0
    have f136 := f103.keep K132 nin0
    have f137 := f104.keep K132 nin0
    have f138 := f105.keep K132
    have Z139 : n0 ≤ h132.size := Nat.le_trans Z106 K132.1
    have K140 := K107.trans K132 all0
    refine Go.movp st132 (mkF m 23 #[.val (.ref a), .val (.int (2 : Int32))] [(.ref r132), (.long (c0 * ((lo + (2 : Int32)) + (1 : Int32)).toInt64))]) rfl ?_
    refine g_iloadN X132 hx (hb hby d10_23) (pc' := 24) rfl rfl ?_
    refine g_laload X132 hx hZ e132 V132 (i := 2) (v := (.long q2)) (hb hby d10_24) (pc' := 25) rfl (by decide) rfl rfl ?_
    refine g_ladd X132 hx (hb hby d10_25) (pc' := 26) rfl ?_
    exact g_lreturn X132 hx hret (hb hby d10_26) N132 hlk (fun v t => endF (by decide) (by decide) v) (by rw [e132]; refine ⟨?_, K140⟩; unfold bitsV; rw [qb]; rfl)
theorem d17_0 : decode prog_131_method_8_code 0 = .ok (.aload_n 0, 1) := by decide +kernel
theorem d17_1 : decode prog_131_method_8_code 1 = .ok (.getfield 30, 3) := by decide +kernel
theorem d17_4 : decode prog_131_method_8_code 4 = .ok (.aload_n 0, 1) := by decide +kernel
theorem d17_5 : decode prog_131_method_8_code 5 = .ok (.invokevirtual 50, 3) := by decide +kernel
theorem d17_8 : decode prog_131_method_8_code 8 = .ok (.iadd, 1) := by decide +kernel
theorem d17_9 : decode prog_131_method_8_code 9 = .ok (.ireturn, 1) := by decide +kernel
theorem ef_17 (x0 : Addr) (m : MethodId) : entryFrame m #[(.ref x0)] 1 = mkF m 0 #[.val (.ref x0)] [] := by first | (simp [entryFrame, mkF, argsToLocals, Value.category]; done) | rfl
def Q17 (Z : State) (a : Addr) (c0 : Int64) (lo : Int32) (q0 : Int64) (q1 : Int64) (q2 : Int64) (h0 : Heap) (n0 : Nat) : Option Value → Heap → Prop := fun v h => v = some (.int (lo + bestV c0 q0 q1 q2)) ∧ Keep h0 h []
set_option maxRecDepth 65536 in
set_option maxHeartbeats 40000000 in
theorem rm17 (l : Launch) (Z : State) (a0 : Array Value) (hw : ∀ d ∈ tables_1, d.before a0 Z = true) (a : Addr) (c0 : Int64) (lo : Int32) (q0 : Int64) (q1 : Int64) (q2 : Int64) (h0 : Heap) (n0 : Nat) (Z0 : n0 ≤ h0.size) (F_count : Fld Z h0 a "com/example/stratasig/stratasig/index/GapCoding$Tally" "count" "J" (.long c0)) (F_lowest : Fld Z h0 a "com/example/stratasig/stratasig/index/GapCoding$Tally" "lowest" "I" (.int lo)) (F_atLowest : Fld Z h0 a "com/example/stratasig/stratasig/index/GapCoding$Tally" "atLowest" "J" (.long q0)) (F_oneAbove : Fld Z h0 a "com/example/stratasig/stratasig/index/GapCoding$Tally" "oneAbove" "J" (.long q1)) (F_twoAbove : Fld Z h0 a "com/example/stratasig/stratasig/index/GapCoding$Tally" "twoAbove" "J" (.long q2)) (E1 : Exa Z h0 a "com/example/stratasig/stratasig/index/GapCoding$Tally") : Ctr l Z (⟨"com/example/stratasig/stratasig/index/GapCoding$Tally", "parameter", "()I"⟩ : MethodName) prog_131_method_8_code 1 (some .int) ({ frames := 2, cells := 1, slots := 3, locals := 28 } : Room) #[(.ref a)] h0 n0 (Q17 Z a c0 lo q0 q1 q2 h0 n0) := by
  refine Ctr.of (plainFor_of_name pn_4) (ef_17 a) ?_
  intro p e s m below meth c T0 hx hby hml hown hnm hret hlk hZ X0 e0
  have N0 := Fr.nil n0
  refine g_aloadN X0 hx (hb hby d17_0) (pc' := 1) rfl rfl rfl ?_
  obtain ⟨T141, X141, e141, st141⟩ := getF X0 hx hZ hown (host := "") (Or.inl (hw _ (List.mem_of_getElem? (i := 45) rfl))) Via.refl e0 F_lowest (g := (mkF m 1 #[.val (.ref a)] [(.ref a)])) rfl rfl (hb hby d17_1)
  refine Go.movp st141 (mkF m 4 #[.val (.ref a)] [(.int lo)]) rfl ?_
  refine g_aloadN X141 hx (hb hby d17_4) (pc' := 5) rfl rfl rfl ?_
  obtain ⟨v142, T142, h142, L142, X142, e142, N142, q142, st142⟩ := h_private (a := a) X141 hx (W := 1) (Ls := #[.val (.ref a)]) (argsL := []) (rest := [(.int lo)]) hZ e141 N0 hml hown (rm11 l Z a0 hw a c0 q0 q1 q2 h0 n0 Z0 F_count F_atLowest F_oneAbove F_twoAbove E1) E1 (hw _ (List.mem_of_getElem? (i := 68) rfl)) (hw _ (List.mem_of_getElem? (i := 69) rfl)) (hw _ (List.mem_of_getElem? (i := 70) rfl)) (hw _ (List.mem_of_getElem? (i := 19) rfl)) (hw _ (List.mem_of_getElem? (i := 20) rfl)) (hw _ (List.mem_of_getElem? (i := 71) rfl)) (by decide) pd___I rfl rfl (hb hby d17_5) rfl (by decide) (by decide) (by decide) (by decide)
  obtain ⟨rfl, K142⟩ := q142
  have f143 := F_count.keep K142 nin0
  have f144 := F_lowest.keep K142 nin0
  have f145 := F_atLowest.keep K142 nin0
  have f146 := F_oneAbove.keep K142 nin0
  have f147 := F_twoAbove.keep K142 nin0
  have f148 := E1.keep K142
  have Z149 : n0 ≤ h142.size := Nat.le_trans Z0 K142.1
  have K150 := (Keep.refl h0 []).trans K142 all0
  refine Go.movp st142 (mkF m 8 #[.val (.ref a)] [(.int (bestV c0 q0 q1 q2)), (.int lo)]) rfl ?_
  refine g_iadd X142 hx (hb hby d17_8) (pc' := 9) rfl ?_
  exact g_ireturn X142 hx hret (hb hby d17_9) N142 hlk (fun v t => endF (by decide) (by decide) v) (by rw [e142]; exact ⟨rfl, K150⟩)
/-! bits -/
theorem low_ex {w : Nat} (b : BitVec w) (h : b ≠ 0#w) : ∃ k, k < w ∧ b.getLsbD k = true ∧ ∀ j, j < k → b.getLsbD j = false := by
  have ex : ∃ i, i < w ∧ b.getLsbD i = true := by
    apply Classical.byContradiction
    intro q
    apply h
    apply BitVec.eq_of_getLsbD_eq
    intro i hi
    cases e : b.getLsbD i with
    | false => simp
    | true => exact absurd ⟨i, hi, e⟩ q
  have key : ∀ n i, i ≤ n → i < w → b.getLsbD i = true → ∃ k, k < w ∧ b.getLsbD k = true ∧ ∀ j, j < k → b.getLsbD j = false := by
    intro n
    induction n with
    | zero => intro i hi hw hb; exact ⟨i, hw, hb, fun j hj => by omega⟩
    | succ n ih =>
      intro i hi hw hb
      by_cases q : ∃ j, j < i ∧ b.getLsbD j = true
      · obtain ⟨j, hj, hbj⟩ := q
        exact ih j (by omega) (by omega) hbj
      · refine ⟨i, hw, hb, fun j hj => ?_⟩
        cases e : b.getLsbD j with
        | false => rfl
        | true => exact absurd ⟨j, hj, e⟩ q
  obtain ⟨i, hi, hb⟩ := ex
  exact key i i (Nat.le_refl _) hi hb
theorem nat_low {n k : Nat} (h1 : n.testBit k = true) (h0 : ∀ j, j < k → n.testBit j = false) : ∃ q, n = 2 ^ k * (2 * q + 1) := by
  have e : n % 2 ^ k = 0 := by
    apply Nat.eq_of_testBit_eq
    intro i
    rw [Nat.testBit_mod_two_pow]
    by_cases hi : i < k
    · simp [hi, h0 i hi]
    · simp [hi]
  have e2 : (n / 2 ^ k) % 2 = 1 := by
    have := h1
    rw [Nat.testBit_eq_decide_div_mod_eq] at this
    simpa using this
  refine ⟨n / 2 ^ k / 2, ?_⟩
  have a := Nat.div_add_mod n (2 ^ k)
  have b := Nat.div_add_mod (n / 2 ^ k) 2
  rw [e, Nat.add_zero] at a
  rw [e2] at b
  rw [b]; exact a.symm
theorem nat_sub_one {k q : Nat} (i : Nat) : (2 ^ k * (2 * q + 1) - 1).testBit i = if i < k then true else if i = k then false else (2 ^ k * (2 * q + 1)).testBit i := by
  have hp : 0 < 2 ^ k := Nat.two_pow_pos k
  have e : 2 ^ k * (2 * q + 1) - 1 = 2 ^ k * (2 * q) + (2 ^ k - 1) := by
    have : 2 ^ k * (2 * q + 1) = 2 ^ k * (2 * q) + 2 ^ k := by rw [Nat.mul_add, Nat.mul_one]
    omega
  rw [e, Nat.testBit_two_pow_mul_add _ (by omega)]
  split
  · rename_i hi
    rw [Nat.testBit_two_pow_sub_one]; simp [hi]
  · rename_i hi
    split
    · rename_i h; subst h; simp
    · rename_i h
      obtain ⟨j, rfl⟩ : ∃ j, i = k + (j + 1) := ⟨i - k - 1, by omega⟩
      rw [show k + (j + 1) - k = j + 1 by omega, Nat.testBit_succ, Nat.testBit_two_pow_mul]
      rw [show k + (j + 1) - k = j + 1 by omega, Nat.testBit_succ]
      simp
      congr 1; omega
theorem bv_sub_one {w k : Nat} {b : BitVec w} (hk : k < w) (h1 : b.getLsbD k = true) (h0 : ∀ j, j < k → b.getLsbD j = false) {i : Nat} (hi : i < w) :
    (b - 1#w).getLsbD i = if i < k then true else if i = k then false else b.getLsbD i := by
  obtain ⟨q, hq⟩ := nat_low (n := b.toNat) h1 h0
  have hw : 1 < 2 ^ w := Nat.one_lt_two_pow (by omega)
  have hpos : 0 < b.toNat := by rw [hq]; exact Nat.mul_pos (Nat.two_pow_pos k) (by omega)
  have hlt := b.isLt
  have e : (b - 1#w).toNat = b.toNat - 1 := by
    rw [BitVec.toNat_sub, BitVec.toNat_ofNat, Nat.mod_eq_of_lt hw]
    rw [show 2 ^ w - 1 + b.toNat = (b.toNat - 1) + 2 ^ w by omega, Nat.add_mod_right, Nat.mod_eq_of_lt (by omega)]
  show (b - 1#w).toNat.testBit i = _
  rw [e, hq, nat_sub_one]
  show (if i < k then true else if i = k then false else (2 ^ k * (2 * q + 1)).testBit i) = if i < k then true else if i = k then false else b.toNat.testBit i
  rw [← hq]
/-- the trailing zeros, as the JDK counts them -/
def nzU (k t sh : Int32) (p : Int32 × Int32) : Int32 × Int32 := if t < p.2 then (p.1 + k, ushr p.2 sh) else p
def ntF (y : Int32) : Int32 := if 0 < y then (nzU 2 4 2 (nzU 4 16 4 (nzU 8 256 8 (nzU 16 65536 16 (1, y))))).1 + ushr (nzU 2 4 2 (nzU 4 16 4 (nzU 8 256 8 (nzU 16 65536 16 (1, y))))).2 1 else y &&& 32
def ntzI (x : Int32) : Int32 := ntF ((x ^^^ (-1 : Int32)) &&& (x - 1))
def ntzJ (x : Int64) : Int32 := if x.toInt32 = 0 then 32 + ntzI (lushr x 32).toInt32 else ntzI x.toInt32
theorem nt_tab : ∀ k : Fin 32, ntF (Int32.ofBitVec (BitVec.ofNat 32 (2 ^ k.val - 1))) = Int32.ofNat k.val := by decide +kernel
theorem own_ntzI (x : Int32) (hx : ¬ x = 0) : ∃ k, k < 32 ∧ ntzI x = Int32.ofNat k ∧ x.toBitVec.getLsbD k = true ∧ ∀ j, j < k → x.toBitVec.getLsbD j = false := by
  obtain ⟨k, hk, h1, h0⟩ := low_ex x.toBitVec (fun q => hx (Int32.toBitVec_inj.mp q))
  refine ⟨k, hk, ?_, h1, h0⟩
  have e : ((x ^^^ (-1 : Int32)) &&& (x - 1)) = Int32.ofBitVec (BitVec.ofNat 32 (2 ^ k - 1)) := by
    apply Int32.toBitVec_inj.mp
    rw [Int32.toBitVec_and, Int32.toBitVec_xor, Int32.toBitVec_sub]
    show (x.toBitVec ^^^ BitVec.allOnes 32) &&& (x.toBitVec - 1#32) = BitVec.ofNat 32 (2 ^ k - 1)
    apply BitVec.eq_of_getLsbD_eq
    intro i hi
    rw [BitVec.getLsbD_and, BitVec.getLsbD_xor, bv_sub_one hk h1 h0 hi, BitVec.getLsbD_ofNat, Nat.testBit_two_pow_sub_one, BitVec.getLsbD_allOnes]
    by_cases q : i < k
    · rw [h0 i q]; simp [q, hi]
    · by_cases q2 : i = k
      · subst q2; simp
      · rw [if_neg q, if_neg q2]
        cases x.toBitVec.getLsbD i <;> simp [q, hi]
  unfold ntzI
  rw [e]
  exact nt_tab ⟨k, hk⟩
theorem own_ntzJ (x : Int64) (hx : ¬ x = 0) : ∃ k, k < 64 ∧ ntzJ x = Int32.ofNat k ∧ x.toBitVec.getLsbD k = true ∧ ∀ j, j < k → x.toBitVec.getLsbD j = false := by
  have lo : ∀ i, i < 32 → x.toInt32.toBitVec.getLsbD i = x.toBitVec.getLsbD i := fun i hi => by
    rw [Int64.toBitVec_toInt32, BitVec.getLsbD_signExtend]; simp [hi]; omega
  have hi' : ∀ i, i < 32 → (lushr x 32).toInt32.toBitVec.getLsbD i = x.toBitVec.getLsbD (32 + i) := fun i hi => by
    rw [Int64.toBitVec_toInt32, BitVec.getLsbD_signExtend, if_pos (by omega)]
    show (decide (i < 32) && (x.toBitVec >>> 32).getLsbD i) = _
    rw [BitVec.getLsbD_ushiftRight]; simp [hi]
  unfold ntzJ
  split
  · rename_i q
    have low0 : ∀ i, i < 32 → x.toBitVec.getLsbD i = false := fun i h => by rw [← lo i h, q]; simp
    have hne : ¬ (lushr x 32).toInt32 = 0 := fun r => hx (by
      apply Int64.toBitVec_inj.mp
      apply BitVec.eq_of_getLsbD_eq
      intro i h
      by_cases c : i < 32
      · rw [low0 i c]; simp
      · have := hi' (i - 32) (by omega)
        rw [r, show 32 + (i - 32) = i by omega] at this
        rw [← this]; simp)
    obtain ⟨k, hk, e, h1, h0⟩ := own_ntzI _ hne
    refine ⟨32 + k, by omega, ?_, by rw [← hi' k hk]; exact h1, fun j hj => ?_⟩
    · rw [e]
      have tab : ∀ k : Fin 32, (32 : Int32) + Int32.ofNat k.val = Int32.ofNat (32 + k.val) := by decide +kernel
      exact tab ⟨k, hk⟩
    · by_cases c : j < 32
      · exact low0 j c
      · have := hi' (j - 32) (by omega)
        rw [show 32 + (j - 32) = j by omega] at this
        rw [← this]; exact h0 _ (by omega)
  · rename_i q
    obtain ⟨k, hk, e, h1, h0⟩ := own_ntzI _ q
    exact ⟨k, by omega, e, by rw [← lo k hk]; exact h1, fun j hj => by rw [← lo j (by omega)]; exact h0 j hj⟩
/-- the bits counted -/
def bitV (g : Int64) (k : Nat) : Int64 := if g.toBitVec.getLsbD k then 1 else 0
def addB (g : Int64) (xs : List Int64) : List Int64 := xs.mapIdx (fun k x => x + bitV g k)
theorem addB_len (g : Int64) (xs : List Int64) : (addB g xs).length = xs.length := by simp [addB]
theorem addB_zero (xs : List Int64) : addB 0 xs = xs := by
  apply List.ext_getElem?
  intro i
  simp only [addB, List.getElem?_mapIdx]
  have : bitV 0 i = 0 := by simp [bitV]
  rw [this]
  cases xs[i]? <;> simp
theorem and_sub_one {x : Int64} {k : Nat} (hk : k < 64) (h1 : x.toBitVec.getLsbD k = true) (h0 : ∀ j, j < k → x.toBitVec.getLsbD j = false) (i : Nat) (hi : i < 64) : (x &&& (x - 1)).toBitVec.getLsbD i = (x.toBitVec.getLsbD i && decide (i ≠ k)) := by
  rw [Int64.toBitVec_and, Int64.toBitVec_sub]
  show (x.toBitVec &&& (x.toBitVec - 1#64)).getLsbD i = _
  rw [BitVec.getLsbD_and, bv_sub_one hk h1 h0 hi]
  by_cases q : i < k
  · simp [q, h0 i q]
  · by_cases q2 : i = k
    · simp [q2]
    · simp [q, q2]
theorem addB_step {x : Int64} {k : Nat} {xs : List Int64} (hk : k < 64) (hl : xs.length ≤ 64) (h1 : x.toBitVec.getLsbD k = true) (h0 : ∀ j, j < k → x.toBitVec.getLsbD j = false) {y : Int64} (hy : xs[k]? = some y) :
    addB (x &&& (x - 1)) (xs.set k (y + 1)) = addB x xs := by
  apply List.ext_getElem?
  intro i
  simp only [addB, List.getElem?_mapIdx]
  by_cases q : i < xs.length
  · by_cases c : i = k
    · subst c
      rw [List.getElem?_set_self q, hy]
      simp only [Option.map_some]
      have b1 : bitV (x &&& (x - 1)) i = 0 := by unfold bitV; rw [and_sub_one hk h1 h0 i hk]; simp
      have b2 : bitV x i = 1 := by simp [bitV, h1]
      rw [b1, b2, Int64.add_zero]
    · rw [List.getElem?_set_ne (Ne.symm c)]
      have : bitV (x &&& (x - 1)) i = bitV x i := by unfold bitV; rw [and_sub_one hk h1 h0 i (by omega)]; simp [c]
      rw [this]
  · rw [List.getElem?_eq_none (by rw [List.length_set]; omega), List.getElem?_eq_none (by omega)]; rfl
theorem less {x : Int64} {k : Nat} (hk : k < 64) (h1 : x.toBitVec.getLsbD k = true) (h0 : ∀ j, j < k → x.toBitVec.getLsbD j = false) : (x &&& (x - 1)).toBitVec.toNat < x.toBitVec.toNat := by
  have e : (x &&& (x - 1)).toBitVec.toNat = x.toBitVec.toNat &&& (x.toBitVec - 1#64).toNat := rfl
  obtain ⟨q, hq⟩ := nat_low (n := x.toBitVec.toNat) h1 h0
  have hpos : 0 < x.toBitVec.toNat := by rw [hq]; exact Nat.mul_pos (Nat.two_pow_pos k) (by omega)
  have hlt := x.toBitVec.isLt
  have e2 : (x.toBitVec - 1#64).toNat = x.toBitVec.toNat - 1 := by
    rw [BitVec.toNat_sub]; simp; omega
  rw [e, e2]
  have := Nat.and_le_right (n := x.toBitVec.toNat) (m := x.toBitVec.toNat - 1)
  omega

theorem t32_toInt {n : Nat} (h : n < 2 ^ 31) : n.toInt32.toInt = n := len_toInt h
theorem t32_nn {n : Nat} (h : n < 2 ^ 31) : ¬ n.toInt32 < 0 := by
  rw [Int32.lt_iff_toInt_lt, t32_toInt h]; show ¬ (n : Int) < 0; omega
theorem t32_nat {n : Nat} (h : n < 2 ^ 31) : n.toInt32.toNatClampNeg = n := by
  simp only [Int32.toNatClampNeg, t32_toInt h]; rfl
theorem t32_succ {n : Nat} (h : n + 1 < 2 ^ 31) : n.toInt32 + 1 = (n + 1).toInt32 := by
  apply Int32.toInt_inj.mp
  have e := c_iadd n.toInt32 1
  have r := rng32 (n.toInt32 + 1)
  have e1 : (1 : Int32).toInt = 1 := rfl
  rw [t32_toInt h]
  rw [t32_toInt (by omega), e1] at e
  omega
theorem t32_lt {n : Nat} (h : n < 63) : n.toInt32 < 63 := by
  rw [Int32.lt_iff_toInt_lt, t32_toInt (by omega)]; show (n : Int) < 63; omega
/-- shifts by a known count -/
theorem lshl_n (x : Int64) {s : Int32} {n : Nat} (h : s.toBitVec.toNat % 64 = n) : (lshl x s).toBitVec = x.toBitVec <<< n := by
  obtain ⟨e, hl⟩ := sm64 s n h
  unfold lshl
  rw [Int64.toBitVec_shiftLeft, e]
  show x.toBitVec <<< ((BitVec.ofNat 64 n).smod 64).toNat = _
  rw [smod64 n hl]
theorem lushr_n (x : Int64) {s : Int32} {n : Nat} (h : s.toBitVec.toNat % 64 = n) : (lushr x s).toBitVec = x.toBitVec >>> n := by
  obtain ⟨e, hl⟩ := sm64 s n h
  unfold lushr
  show x.toBitVec >>> (((s &&& 0x3f).toInt64.toBitVec) % 64#64).toNat = _
  rw [e]
  have : (BitVec.ofNat 64 n % 64#64).toNat = n := by simp; omega
  rw [this]
theorem t32_bv {n : Nat} (h : n < 64) : n.toInt32.toBitVec.toNat % 64 = n := by
  show (BitVec.ofNat 32 n).toNat % 64 = n
  simp; omega
theorem t32_sub {k r : Nat} (h : k < 64) (hr : r ≤ k) : (k.toInt32 - r.toInt32).toBitVec.toNat % 64 = k - r := by
  rw [Int32.toBitVec_sub]
  show (BitVec.ofNat 32 k - BitVec.ofNat 32 r).toNat % 64 = k - r
  rw [BitVec.toNat_sub]; simp; omega
theorem bv_shl_add {w : Nat} (x y : BitVec w) (n : Nat) : (x + y) <<< n = x <<< n + y <<< n := by
  rw [BitVec.shiftLeft_eq_mul_twoPow, BitVec.shiftLeft_eq_mul_twoPow, BitVec.shiftLeft_eq_mul_twoPow, BitVec.add_mul]
theorem lshl_add (x y : Int64) (s : Int32) : lshl (x + y) s = lshl x s + lshl y s := by
  apply Int64.toBitVec_inj.mp
  rw [Int64.toBitVec_add, lshl_n _ rfl, lshl_n _ rfl, lshl_n _ rfl, Int64.toBitVec_add, bv_shl_add]
theorem lshl_zero (s : Int32) : lshl 0 s = 0 := by
  apply Int64.toBitVec_inj.mp
  rw [lshl_n _ rfl]; simp
/-- the sum of the quotients, from the bits' counts -/
def qsum (xs : List Int64) (r : Nat) : Nat → Nat → Int64
  | _, 0 => 0
  | k, f + 1 => lshl (xs.getD k 0) (k.toInt32 - r.toInt32) + qsum xs r (k + 1) f
def qbit (g : Int64) (r : Nat) : Nat → Nat → Int64
  | _, 0 => 0
  | k, f + 1 => lshl (bitV g k) (k.toInt32 - r.toInt32) + qbit g r (k + 1) f
theorem qsum_add (g : Int64) (xs : List Int64) (r : Nat) : ∀ f k, k + f ≤ xs.length → qsum (addB g xs) r k f = qsum xs r k f + qbit g r k f
  | 0, _, _ => by simp [qsum, qbit]
  | f + 1, k, h => by
    have e : (addB g xs).getD k 0 = xs.getD k 0 + bitV g k := by
      have hk : k < xs.length := by omega
      simp [addB, List.getD_eq_getElem?_getD, List.getElem?_eq_getElem hk]
    simp only [qsum, qbit]
    rw [e, lshl_add, qsum_add g xs r f (k + 1) (by omega)]
    ac_rfl
theorem qsum_zero (r : Nat) (n : Nat) : ∀ f k, qsum (List.replicate n 0) r k f = 0
  | 0, _ => rfl
  | f + 1, k => by
    have e : (List.replicate n (0 : Int64)).getD k 0 = 0 := by
      rw [List.getD_eq_getElem?_getD, List.getElem?_replicate]; split <;> rfl
    simp only [qsum]
    rw [e, lshl_zero, qsum_zero r n f (k + 1)]; rfl
def Pos (g : Int64) : Prop := g.toBitVec.toNat < 2 ^ 63
theorem bv_split (G : BitVec 64) {k : Nat} : G >>> k = (G >>> (k + 1)) <<< 1 + (if G.getLsbD k then 1#64 else 0#64) := by
  apply BitVec.eq_of_toNat_eq
  have t : G.getLsbD k = decide (G.toNat / 2 ^ k % 2 = 1) := by
    show G.toNat.testBit k = _
    rw [Nat.testBit_eq_decide_div_mod_eq]
  have lt : G.toNat / 2 ^ k < 2 ^ 64 := Nat.lt_of_le_of_lt (Nat.div_le_self _ _) G.isLt
  have hd : G.toNat / 2 ^ (k + 1) = G.toNat / 2 ^ k / 2 := by rw [Nat.pow_succ, Nat.div_div_eq_div_mul]
  rw [BitVec.toNat_add, BitVec.toNat_shiftLeft, BitVec.toNat_ushiftRight, BitVec.toNat_ushiftRight, Nat.shiftRight_eq_div_pow, Nat.shiftRight_eq_div_pow, Nat.shiftLeft_eq, hd, t]
  generalize G.toNat / 2 ^ k = n at *
  by_cases q : n % 2 = 1
  · simp [q]; omega
  · simp [q]; omega
theorem qbit_eq (g : Int64) (hg : Pos g) (r : Nat) : ∀ f k, k + f = 63 → r ≤ k → qbit g r k f = lshl (lushr g k.toInt32) (k.toInt32 - r.toInt32)
  | 0, k, h, hr => by
    have hk : k = 63 := by omega
    subst hk
    have e : lushr g (63 : Nat).toInt32 = 0 := by
      apply Int64.toBitVec_inj.mp
      rw [lushr_n g (t32_bv (by omega))]
      apply BitVec.eq_of_toNat_eq
      rw [BitVec.toNat_ushiftRight, Nat.shiftRight_eq_div_pow, Nat.div_eq_of_lt hg]; rfl
    rw [e, lshl_zero]; rfl
  | f + 1, k, h, hr => by
    simp only [qbit]
    rw [qbit_eq g hg r f (k + 1) (by omega) (by omega)]
    apply Int64.toBitVec_inj.mp
    rw [Int64.toBitVec_add, lshl_n _ (t32_sub (by omega) hr), lshl_n _ (t32_sub (k := k + 1) (by omega) (by omega)), lshl_n _ (t32_sub (by omega) hr), lushr_n g (t32_bv (n := k + 1) (by omega)), lushr_n g (t32_bv (n := k) (by omega)), bv_split (k := k), bv_shl_add]
    have e : k + 1 - r = 1 + (k - r) := by omega
    rw [e, BitVec.shiftLeft_add]
    have b : (bitV g k).toBitVec = if g.toBitVec.getLsbD k then 1#64 else 0#64 := by unfold bitV; split <;> rfl
    rw [b, BitVec.add_comm]
theorem qbit_self (g : Int64) (hg : Pos g) {r : Nat} (hr : r ≤ 63) : qbit g r r (63 - r) = lushr g r.toInt32 := by
  rw [qbit_eq g hg r (63 - r) r (by omega) (Nat.le_refl _)]
  apply Int64.toBitVec_inj.mp
  rw [lshl_n _ (t32_sub (by omega) (Nat.le_refl _))]
  simp
theorem own_q {g : Int64} (hg : Pos g) {xs : List Int64} (hl : xs.length = 63) {r : Nat} (hr : r ≤ 63) {q : Int64} (h : qsum xs r r (63 - r) = q) : qsum (addB g xs) r r (63 - r) = q + lushr g r.toInt32 := by
  rw [qsum_add g xs r (63 - r) r (by omega), h, qbit_self g hg hr]
/-- the bounds of the lowest parameter -/
theorem nz_step {n y k t sh : Int32} {kk tt : Int} {s : Nat} (hk : k.toInt = -kk) (ht : t.toInt = tt) (hs : sh.toBitVec.toNat % 32 = s) (h0 : 0 < s) (hy : 0 < y.toInt) (hn : kk ≤ n.toInt) (h1 : 0 ≤ kk) (h2 : n.toInt ≤ 31) :
    (y.toInt < tt ∧ nzA k t sh (n, y) = (n, y)) ∨ (tt ≤ y.toInt ∧ (nzA k t sh (n, y)).1.toInt = n.toInt - kk ∧ (nzA k t sh (n, y)).2.toInt = y.toInt / (2 ^ s : Nat)) := by
  unfold nzA
  by_cases q : y < t
  · rw [if_pos q]; rw [Int32.lt_iff_toInt_lt] at q; exact Or.inl ⟨by omega, rfl⟩
  · rw [if_neg q]; rw [Int32.lt_iff_toInt_lt] at q
    refine Or.inr ⟨by omega, ?_, ?_⟩
    · have e := c_iadd n k
      have r := rng32 (n + k)
      show (n + k).toInt = _
      omega
    · have e := c_iushr y sh s hs h0
      have r := rng32 y
      show (ushr y sh).toInt = _
      rw [show (ushr y sh).toInt = (y.toInt % 4294967296) / (2 ^ s : Nat) from e, Int.emod_eq_of_lt (by omega) (by omega)]
theorem nlzI_pos {x : Int32} (h : 0 < x) : 1 ≤ (nlzI x).toInt ∧ (nlzI x).toInt ≤ 31 := by
  unfold nlzI
  rw [if_pos h]
  have hx : 0 < x.toInt := by rw [Int32.lt_iff_toInt_lt] at h; exact h
  have rx := rng32 x
  have e31 : (31 : Int32).toInt = 31 := rfl
  obtain ⟨n1, y1, p1⟩ : ∃ n y, nzA (-16) 65536 16 (31, x) = (n, y) := ⟨_, _, rfl⟩
  have s1 := nz_step (n := 31) (y := x) (k := -16) (t := 65536) (sh := 16) (kk := 16) (tt := 65536) (s := 16) rfl rfl rfl (by decide) hx (by decide) (by decide) (by decide)
  rw [p1] at s1 ⊢
  have i1 : 0 < y1.toInt ∧ y1.toInt < 65536 ∧ 15 ≤ n1.toInt ∧ n1.toInt ≤ 31 ∧ (23 ≤ n1.toInt ∨ y1.toInt < 32768) := by
    rcases s1 with ⟨a, b⟩ | ⟨a, b, c⟩
    · cases b; omega
    · simp only at b c; omega
  obtain ⟨n2, y2, p2⟩ : ∃ n y, nzA (-8) 256 8 (n1, y1) = (n, y) := ⟨_, _, rfl⟩
  have s2 := nz_step (n := n1) (y := y1) (k := -8) (t := 256) (sh := 8) (kk := 8) (tt := 256) (s := 8) rfl rfl rfl (by decide) i1.1 (by omega) (by decide) (by omega)
  rw [p2] at s2 ⊢
  have i2 : 0 < y2.toInt ∧ y2.toInt < 256 ∧ 7 ≤ n2.toInt ∧ n2.toInt ≤ 31 ∧ (11 ≤ n2.toInt ∨ y2.toInt < 128) := by
    rcases s2 with ⟨a, b⟩ | ⟨a, b, c⟩
    · cases b; omega
    · simp only at b c; omega
  obtain ⟨n3, y3, p3⟩ : ∃ n y, nzA (-4) 16 4 (n2, y2) = (n, y) := ⟨_, _, rfl⟩
  have s3 := nz_step (n := n2) (y := y2) (k := -4) (t := 16) (sh := 4) (kk := 4) (tt := 16) (s := 4) rfl rfl rfl (by decide) i2.1 (by omega) (by decide) (by omega)
  rw [p3] at s3 ⊢
  have i3 : 0 < y3.toInt ∧ y3.toInt < 16 ∧ 3 ≤ n3.toInt ∧ n3.toInt ≤ 31 ∧ (5 ≤ n3.toInt ∨ y3.toInt < 8) := by
    rcases s3 with ⟨a, b⟩ | ⟨a, b, c⟩
    · cases b; omega
    · simp only at b c; omega
  obtain ⟨n4, y4, p4⟩ : ∃ n y, nzA (-2) 4 2 (n3, y3) = (n, y) := ⟨_, _, rfl⟩
  have s4 := nz_step (n := n3) (y := y3) (k := -2) (t := 4) (sh := 2) (kk := 2) (tt := 4) (s := 2) rfl rfl rfl (by decide) i3.1 (by omega) (by decide) (by omega)
  rw [p4] at s4 ⊢
  have i4 : 0 < y4.toInt ∧ y4.toInt < 4 ∧ 1 ≤ n4.toInt ∧ n4.toInt ≤ 31 ∧ (2 ≤ n4.toInt ∨ y4.toInt < 2) := by
    rcases s4 with ⟨a, b⟩ | ⟨a, b, c⟩
    · cases b; omega
    · simp only at b c; omega
  show 1 ≤ (n4 - ushr y4 1).toInt ∧ (n4 - ushr y4 1).toInt ≤ 31
  have e := c_iushr y4 1 1 rfl (by decide)
  have e' : (ushr y4 1).toInt = y4.toInt / 2 := by
    rw [show (ushr y4 1).toInt = (y4.toInt % 4294967296) / (2 ^ 1 : Nat) from e]; omega
  have es := c_isub n4 (ushr y4 1)
  have rs := rng32 (n4 - ushr y4 1)
  omega
theorem pos_int {g : Int64} (h : Pos g) : 0 ≤ g.toInt := by
  show 0 ≤ g.toBitVec.toInt
  rw [BitVec.toInt_eq_toNat_cond]
  unfold Pos at h
  split <;> omega
theorem int_pos {g : Int64} (h : 0 ≤ g.toInt) : Pos g := by
  have h' : 0 ≤ g.toBitVec.toInt := h
  rw [BitVec.toInt_eq_toNat_cond] at h'
  unfold Pos
  have := g.toBitVec.isLt
  split at h' <;> omega
theorem nlzJ_pos {x : Int64} (h : Pos x) : 1 ≤ (nlzJ x).toInt ∧ (nlzJ x).toInt ≤ 64 := by
  unfold nlzJ
  have all : ∀ y : Int32, 0 ≤ (nlzI y).toInt ∧ (nlzI y).toInt ≤ 32 := fun y => by
    by_cases q : 0 < y
    · have := nlzI_pos q; omega
    · unfold nlzI; rw [if_neg q]; split <;> decide
  split
  · have a := all x.toInt32
    have e := c_iadd 32 (nlzI x.toInt32)
    have r := rng32 (32 + nlzI x.toInt32)
    have e32 : (32 : Int32).toInt = 32 := rfl
    omega
  · rename_i q
    have hn : (lushr x 32).toInt32.toBitVec.toNat < 2 ^ 31 := by
      rw [Int64.toBitVec_toInt32]
      have e : (lushr x 32).toBitVec = x.toBitVec >>> 32 := lushr_n x rfl
      rw [e]
      have : (BitVec.signExtend 32 (x.toBitVec >>> 32)) = (x.toBitVec >>> 32).setWidth 32 := BitVec.signExtend_eq_setWidth_of_le _ (by decide)
      rw [this, BitVec.toNat_setWidth, BitVec.toNat_ushiftRight, Nat.shiftRight_eq_div_pow]
      unfold Pos at h
      omega
    have hp : 0 < (lushr x 32).toInt32 := by
      rw [Int32.lt_iff_toInt_lt]
      have e0 : (0 : Int32).toInt = 0 := rfl
      have e1 : (lushr x 32).toInt32.toInt = (lushr x 32).toInt32.toBitVec.toNat := by
        show (lushr x 32).toInt32.toBitVec.toInt = _
        rw [BitVec.toInt_eq_toNat_cond]; split <;> omega
      have ne : (lushr x 32).toInt32.toBitVec.toNat ≠ 0 := fun r => q (Int32.toBitVec_inj.mp (BitVec.eq_of_toNat_eq r))
      omega
    have := nlzI_pos hp
    omega
theorem own_low {c s : Int64} (hc : Pos c) (hs : Pos s) : ∃ r, r ≤ 61 ∧ lowV c s = r.toInt32 := by
  have hm : Pos (meanV c s) := by
    unfold meanV
    split
    · exact int_pos (by decide)
    · rename_i q
      have hc' := pos_int hc
      have hs' := pos_int hs
      have hne : c ≠ -1 := fun e => by rw [e] at hc'; exact absurd hc' (by decide)
      apply int_pos
      rw [(c_ldiv s c c.toInt rfl hne).1 hs']
      exact Int.ediv_nonneg hs' hc'
  have b := nlzJ_pos hm
  unfold lowV
  generalize nlzJ (meanV c s) = n at *
  have e62 : (62 : Int32).toInt = 62 := rfl
  have es := c_isub 62 n
  have rs := rng32 (62 - n)
  have e0 : (0 : Int32).toInt = 0 := rfl
  have ed : (62 - n).toInt = 62 - n.toInt := by omega
  unfold maxI
  split
  · rename_i q
    rw [Int32.lt_iff_toInt_lt] at q
    refine ⟨(62 - n.toInt).toNat, by omega, ?_⟩
    apply Int32.toInt_inj.mp
    rw [t32_toInt (by omega), ed]; omega
  · exact ⟨0, by omega, rfl⟩
/-- the gaps that the law draws -/
theorem own_g (a m : Int64) (s : Int32) : (lushr (a &&& m) s).toBitVec.toNat ≤ m.toBitVec.toNat := by
  rw [lushr_n _ rfl, BitVec.toNat_ushiftRight, Nat.shiftRight_eq_div_pow]
  refine Nat.le_trans (Nat.div_le_self _ _) ?_
  rw [Int64.toBitVec_and, BitVec.toNat_and]
  exact Nat.and_le_right
theorem pos_of {g : Int64} {n : Nat} (h : g.toBitVec.toNat ≤ n) (hn : n < 2 ^ 63) : Pos g := Nat.lt_of_le_of_lt h hn
theorem pos_add {g k : Int64} {n m : Nat} (h : g.toBitVec.toNat ≤ n) (h2 : k.toBitVec.toNat ≤ m) (hn : n + m < 2 ^ 63) : (g + k).toBitVec.toNat ≤ n + m := by
  rw [Int64.toBitVec_add, BitVec.toNat_add]; omega
theorem pos_bit {g : Int64} (h : Pos g) {k : Nat} (hk : k < 64) (hb : g.toBitVec.getLsbD k = true) : k < 63 := by
  rcases Nat.lt_or_ge k 63 with q | q
  · exact q
  · have : k = 63 := by omega
    subst this
    have t : g.toBitVec.toNat.testBit 63 = true := hb
    rw [Nat.testBit_lt_two_pow h] at t; cases t
theorem pos_clear {g : Int64} (h : Pos g) : Pos (g &&& (g - 1)) := by
  unfold Pos at *
  rw [Int64.toBitVec_and, BitVec.toNat_and]
  exact Nat.lt_of_le_of_lt Nat.and_le_left h
theorem t32_two {n : Nat} (h : n + 2 < 2 ^ 31) : n.toInt32 + 2 = (n + 2).toInt32 := by
  apply Int32.toInt_inj.mp
  have e := c_iadd n.toInt32 2
  have r := rng32 (n.toInt32 + 2)
  have e1 : (2 : Int32).toInt = 2 := rfl
  rw [t32_toInt h]
  rw [t32_toInt (by omega), e1] at e
  omega
theorem getD_long {xs : List Int64} {k : Nat} (h : k < xs.length) : (xs.map Value.long)[k]? = some (.long (xs.getD k 0)) := by
  simp [List.getD_eq_getElem?_getD, List.getElem?_eq_getElem h]
theorem get_at {xs : List Int64} {k : Nat} (h : k < xs.length) : xs[k]? = some (xs.getD k 0) := by
  simp [List.getD_eq_getElem?_getD, List.getElem?_eq_getElem h]

theorem d21_0 : decode jdk_33_method_48_code 0 = .ok (.iload_n 0, 1) := by decide +kernel
theorem d21_1 : decode jdk_33_method_48_code 1 = .ok (.iconst (-1), 1) := by decide +kernel
theorem d21_2 : decode jdk_33_method_48_code 2 = .ok (.ixor, 1) := by decide +kernel
theorem d21_3 : decode jdk_33_method_48_code 3 = .ok (.iload_n 0, 1) := by decide +kernel
theorem d21_4 : decode jdk_33_method_48_code 4 = .ok (.iconst 1, 1) := by decide +kernel
theorem d21_5 : decode jdk_33_method_48_code 5 = .ok (.isub, 1) := by decide +kernel
theorem d21_6 : decode jdk_33_method_48_code 6 = .ok (.iand, 1) := by decide +kernel
theorem d21_7 : decode jdk_33_method_48_code 7 = .ok (.istore_n 0, 1) := by decide +kernel
theorem d21_8 : decode jdk_33_method_48_code 8 = .ok (.iload_n 0, 1) := by decide +kernel
theorem d21_9 : decode jdk_33_method_48_code 9 = .ok (.ifCond .gt 8, 3) := by decide +kernel
theorem d21_12 : decode jdk_33_method_48_code 12 = .ok (.iload_n 0, 1) := by decide +kernel
theorem d21_13 : decode jdk_33_method_48_code 13 = .ok (.bipush 32, 2) := by decide +kernel
theorem d21_15 : decode jdk_33_method_48_code 15 = .ok (.iand, 1) := by decide +kernel
theorem d21_16 : decode jdk_33_method_48_code 16 = .ok (.ireturn, 1) := by decide +kernel
theorem d21_17 : decode jdk_33_method_48_code 17 = .ok (.iconst 1, 1) := by decide +kernel
theorem d21_18 : decode jdk_33_method_48_code 18 = .ok (.istore_n 1, 1) := by decide +kernel
theorem d21_19 : decode jdk_33_method_48_code 19 = .ok (.iload_n 0, 1) := by decide +kernel
theorem d21_20 : decode jdk_33_method_48_code 20 = .ok (.ldc_w 264, 3) := by decide +kernel
theorem d21_23 : decode jdk_33_method_48_code 23 = .ok (.if_icmp .le 11, 3) := by decide +kernel
theorem d21_26 : decode jdk_33_method_48_code 26 = .ok (.iinc 1 16, 3) := by decide +kernel
theorem d21_29 : decode jdk_33_method_48_code 29 = .ok (.iload_n 0, 1) := by decide +kernel
theorem d21_30 : decode jdk_33_method_48_code 30 = .ok (.bipush 16, 2) := by decide +kernel
theorem d21_32 : decode jdk_33_method_48_code 32 = .ok (.iushr, 1) := by decide +kernel
theorem d21_33 : decode jdk_33_method_48_code 33 = .ok (.istore_n 0, 1) := by decide +kernel
theorem d21_34 : decode jdk_33_method_48_code 34 = .ok (.iload_n 0, 1) := by decide +kernel
theorem d21_35 : decode jdk_33_method_48_code 35 = .ok (.sipush 256, 3) := by decide +kernel
theorem d21_38 : decode jdk_33_method_48_code 38 = .ok (.if_icmp .le 11, 3) := by decide +kernel
theorem d21_41 : decode jdk_33_method_48_code 41 = .ok (.iinc 1 8, 3) := by decide +kernel
theorem d21_44 : decode jdk_33_method_48_code 44 = .ok (.iload_n 0, 1) := by decide +kernel
theorem d21_45 : decode jdk_33_method_48_code 45 = .ok (.bipush 8, 2) := by decide +kernel
theorem d21_47 : decode jdk_33_method_48_code 47 = .ok (.iushr, 1) := by decide +kernel
theorem d21_48 : decode jdk_33_method_48_code 48 = .ok (.istore_n 0, 1) := by decide +kernel
theorem d21_49 : decode jdk_33_method_48_code 49 = .ok (.iload_n 0, 1) := by decide +kernel
theorem d21_50 : decode jdk_33_method_48_code 50 = .ok (.bipush 16, 2) := by decide +kernel
theorem d21_52 : decode jdk_33_method_48_code 52 = .ok (.if_icmp .le 10, 3) := by decide +kernel
theorem d21_55 : decode jdk_33_method_48_code 55 = .ok (.iinc 1 4, 3) := by decide +kernel
theorem d21_58 : decode jdk_33_method_48_code 58 = .ok (.iload_n 0, 1) := by decide +kernel
theorem d21_59 : decode jdk_33_method_48_code 59 = .ok (.iconst 4, 1) := by decide +kernel
theorem d21_60 : decode jdk_33_method_48_code 60 = .ok (.iushr, 1) := by decide +kernel
theorem d21_61 : decode jdk_33_method_48_code 61 = .ok (.istore_n 0, 1) := by decide +kernel
theorem d21_62 : decode jdk_33_method_48_code 62 = .ok (.iload_n 0, 1) := by decide +kernel
theorem d21_63 : decode jdk_33_method_48_code 63 = .ok (.iconst 4, 1) := by decide +kernel
theorem d21_64 : decode jdk_33_method_48_code 64 = .ok (.if_icmp .le 10, 3) := by decide +kernel
theorem d21_67 : decode jdk_33_method_48_code 67 = .ok (.iinc 1 2, 3) := by decide +kernel
theorem d21_70 : decode jdk_33_method_48_code 70 = .ok (.iload_n 0, 1) := by decide +kernel
theorem d21_71 : decode jdk_33_method_48_code 71 = .ok (.iconst 2, 1) := by decide +kernel
theorem d21_72 : decode jdk_33_method_48_code 72 = .ok (.iushr, 1) := by decide +kernel
theorem d21_73 : decode jdk_33_method_48_code 73 = .ok (.istore_n 0, 1) := by decide +kernel
theorem d21_74 : decode jdk_33_method_48_code 74 = .ok (.iload_n 1, 1) := by decide +kernel
theorem d21_75 : decode jdk_33_method_48_code 75 = .ok (.iload_n 0, 1) := by decide +kernel
theorem d21_76 : decode jdk_33_method_48_code 76 = .ok (.iconst 1, 1) := by decide +kernel
theorem d21_77 : decode jdk_33_method_48_code 77 = .ok (.iushr, 1) := by decide +kernel
theorem d21_78 : decode jdk_33_method_48_code 78 = .ok (.iadd, 1) := by decide +kernel
theorem d21_79 : decode jdk_33_method_48_code 79 = .ok (.ireturn, 1) := by decide +kernel
theorem ef_21 (x0 : Int32) (m : MethodId) : entryFrame m #[(.int x0)] 2 = mkF m 0 #[.val (.int x0), .unset] [] := by first | (simp [entryFrame, mkF, argsToLocals, Value.category]; done) | rfl
def Q21 (Z : State) (p1 : Int32) (h0 : Heap) (n0 : Nat) : Option Value → Heap → Prop := fun v h => v = some (.int (ntzI p1)) ∧ h0 = h
set_option maxRecDepth 65536 in
set_option maxHeartbeats 40000000 in
theorem rm21 (l : Launch) (Z : State) (a0 : Array Value) (hw : ∀ d ∈ tables_1, d.before a0 Z = true) (p1 : Int32) (h0 : Heap) (n0 : Nat) (Z0 : n0 ≤ h0.size) : Ctr l Z (⟨"java/lang/Integer", "numberOfTrailingZeros", "(I)I"⟩ : MethodName) jdk_33_method_48_code 2 (some .int) ({ frames := 0, cells := 0, slots := 0, locals := 0 } : Room) #[(.int p1)] h0 n0 (Q21 Z p1 h0 n0) := by
  refine Ctr.of (plainFor_of_name pn_6) (ef_21 p1) ?_
  intro p e s m below meth c T0 hx hby hml hown hnm hret hlk hZ X0 e0
  have N0 := Fr.nil n0
  refine g_iloadN X0 hx (hb hby d21_0) (pc' := 1) rfl rfl ?_
  refine g_iconst X0 hx (hb hby d21_1) (pc' := 2) rfl (z := (-1 : Int32)) rfl ?_
  refine g_ixor X0 hx (hb hby d21_2) (pc' := 3) rfl ?_
  refine g_iloadN X0 hx (hb hby d21_3) (pc' := 4) rfl rfl ?_
  refine g_iconst X0 hx (hb hby d21_4) (pc' := 5) rfl (z := (1 : Int32)) rfl ?_
  refine g_isub X0 hx (hb hby d21_5) (pc' := 6) rfl ?_
  refine g_iand X0 hx (hb hby d21_6) (pc' := 7) rfl ?_
  obtain ⟨yy, eyy⟩ : ∃ z : Int32, z = ((p1 ^^^ (-1 : Int32)) &&& (p1 - (1 : Int32))) := ⟨_, rfl⟩
  refine Go.cast (show (mkF m 7 #[.val (.int p1), .unset] [(.int ((p1 ^^^ (-1 : Int32)) &&& (p1 - (1 : Int32))))]) = (mkF m 7 #[.val (.int p1), .unset] [(.int yy)]) from by rw [eyy]) ?_
  refine g_istoreN X0 hx (hb hby d21_7) (pc' := 8) rfl (Ls' := #[.val (.int yy), .unset]) rfl ?_
  refine g_iloadN X0 hx (hb hby d21_8) (pc' := 9) rfl rfl ?_
  refine g_if_gt X0 hx (hb hby d21_9) (pc1 := 12) rfl (by decide) (pc2 := 17) (by decide) (fun hc9 => ?_) (fun hc9 => ?_)
  · skip
    refine g_iconst X0 hx (hb hby d21_17) (pc' := 18) rfl (z := (1 : Int32)) rfl ?_
    refine g_istoreN X0 hx (hb hby d21_18) (pc' := 19) rfl (Ls' := #[.val (.int yy), .val (.int (1 : Int32))]) rfl ?_
    refine g_iloadN X0 hx (hb hby d21_19) (pc' := 20) rfl rfl ?_
    refine g_ldc_w X0 hx hZ hown (hw _ (List.mem_of_getElem? (i := 117) rfl)) (hb hby d21_20) (pc' := 23) rfl ?_
    refine g_icmp_le X0 hx (hb hby d21_23) (pc1 := 26) rfl (by decide) (pc2 := 34) (by decide) (fun hc23 => ?_) (fun hc23 => ?_)
    · skip
      refine g_iloadN X0 hx (hb hby d21_34) (pc' := 35) rfl rfl ?_
      refine g_sipush X0 hx (hb hby d21_35) (pc' := 38) rfl (z := (256 : Int32)) rfl ?_
      refine g_icmp_le X0 hx (hb hby d21_38) (pc1 := 41) rfl (by decide) (pc2 := 49) (by decide) (fun hc38 => ?_) (fun hc38 => ?_)
      · skip
        refine g_iloadN X0 hx (hb hby d21_49) (pc' := 50) rfl rfl ?_
        refine g_bipush X0 hx (hb hby d21_50) (pc' := 52) rfl (z := (16 : Int32)) rfl ?_
        refine g_icmp_le X0 hx (hb hby d21_52) (pc1 := 55) rfl (by decide) (pc2 := 62) (by decide) (fun hc52 => ?_) (fun hc52 => ?_)
        · skip
          refine g_iloadN X0 hx (hb hby d21_62) (pc' := 63) rfl rfl ?_
          refine g_iconst X0 hx (hb hby d21_63) (pc' := 64) rfl (z := (4 : Int32)) rfl ?_
          refine g_icmp_le X0 hx (hb hby d21_64) (pc1 := 67) rfl (by decide) (pc2 := 74) (by decide) (fun hc64 => ?_) (fun hc64 => ?_)
          · skip
            refine g_iloadN X0 hx (hb hby d21_74) (pc' := 75) rfl rfl ?_
            refine g_iloadN X0 hx (hb hby d21_75) (pc' := 76) rfl rfl ?_
            refine g_iconst X0 hx (hb hby d21_76) (pc' := 77) rfl (z := (1 : Int32)) rfl ?_
            refine g_iushr X0 hx (hb hby d21_77) (pc' := 78) rfl ?_
            refine g_iadd X0 hx (hb hby d21_78) (pc' := 79) rfl ?_
            exact g_ireturn X0 hx hret (hb hby d21_79) N0 hlk (fun v t => endF (by decide) (by decide) v) (by rw [e0]; refine ⟨?_, rfl⟩; unfold ntzI; rw [← eyy]; simp [ntF, nzU, hc9, hc23, hc38, hc52, hc64])
          · skip
            refine g_iinc X0 hx (hb hby d21_67) (pc' := 70) rfl rfl (z := (2 : Int32)) rfl (Ls' := #[.val (.int yy), .val (.int (3 : Int32))]) rfl ?_
            refine g_iloadN X0 hx (hb hby d21_70) (pc' := 71) rfl rfl ?_
            refine g_iconst X0 hx (hb hby d21_71) (pc' := 72) rfl (z := (2 : Int32)) rfl ?_
            refine g_iushr X0 hx (hb hby d21_72) (pc' := 73) rfl ?_
            refine g_istoreN X0 hx (hb hby d21_73) (pc' := 74) rfl (Ls' := #[.val (.int (ushr yy (2 : Int32))), .val (.int (3 : Int32))]) rfl ?_
            refine g_iloadN X0 hx (hb hby d21_74) (pc' := 75) rfl rfl ?_
            refine g_iloadN X0 hx (hb hby d21_75) (pc' := 76) rfl rfl ?_
            refine g_iconst X0 hx (hb hby d21_76) (pc' := 77) rfl (z := (1 : Int32)) rfl ?_
            refine g_iushr X0 hx (hb hby d21_77) (pc' := 78) rfl ?_
            refine g_iadd X0 hx (hb hby d21_78) (pc' := 79) rfl ?_
            exact g_ireturn X0 hx hret (hb hby d21_79) N0 hlk (fun v t => endF (by decide) (by decide) v) (by rw [e0]; refine ⟨?_, rfl⟩; unfold ntzI; rw [← eyy]; simp [ntF, nzU, hc9, hc23, hc38, hc52, hc64])
        · skip
          refine g_iinc X0 hx (hb hby d21_55) (pc' := 58) rfl rfl (z := (4 : Int32)) rfl (Ls' := #[.val (.int yy), .val (.int (5 : Int32))]) rfl ?_
          refine g_iloadN X0 hx (hb hby d21_58) (pc' := 59) rfl rfl ?_
          refine g_iconst X0 hx (hb hby d21_59) (pc' := 60) rfl (z := (4 : Int32)) rfl ?_
          refine g_iushr X0 hx (hb hby d21_60) (pc' := 61) rfl ?_
          refine g_istoreN X0 hx (hb hby d21_61) (pc' := 62) rfl (Ls' := #[.val (.int (ushr yy (4 : Int32))), .val (.int (5 : Int32))]) rfl ?_
          refine g_iloadN X0 hx (hb hby d21_62) (pc' := 63) rfl rfl ?_
          refine g_iconst X0 hx (hb hby d21_63) (pc' := 64) rfl (z := (4 : Int32)) rfl ?_
          refine g_icmp_le X0 hx (hb hby d21_64) (pc1 := 67) rfl (by decide) (pc2 := 74) (by decide) (fun hc64 => ?_) (fun hc64 => ?_)
          · skip
            refine g_iloadN X0 hx (hb hby d21_74) (pc' := 75) rfl rfl ?_
            refine g_iloadN X0 hx (hb hby d21_75) (pc' := 76) rfl rfl ?_
            refine g_iconst X0 hx (hb hby d21_76) (pc' := 77) rfl (z := (1 : Int32)) rfl ?_
            refine g_iushr X0 hx (hb hby d21_77) (pc' := 78) rfl ?_
            refine g_iadd X0 hx (hb hby d21_78) (pc' := 79) rfl ?_
            exact g_ireturn X0 hx hret (hb hby d21_79) N0 hlk (fun v t => endF (by decide) (by decide) v) (by rw [e0]; refine ⟨?_, rfl⟩; unfold ntzI; rw [← eyy]; simp [ntF, nzU, hc9, hc23, hc38, hc52, hc64])
          · skip
            refine g_iinc X0 hx (hb hby d21_67) (pc' := 70) rfl rfl (z := (2 : Int32)) rfl (Ls' := #[.val (.int (ushr yy (4 : Int32))), .val (.int (7 : Int32))]) rfl ?_
            refine g_iloadN X0 hx (hb hby d21_70) (pc' := 71) rfl rfl ?_
            refine g_iconst X0 hx (hb hby d21_71) (pc' := 72) rfl (z := (2 : Int32)) rfl ?_
            refine g_iushr X0 hx (hb hby d21_72) (pc' := 73) rfl ?_
            refine g_istoreN X0 hx (hb hby d21_73) (pc' := 74) rfl (Ls' := #[.val (.int (ushr (ushr yy (4 : Int32)) (2 : Int32))), .val (.int (7 : Int32))]) rfl ?_
            refine g_iloadN X0 hx (hb hby d21_74) (pc' := 75) rfl rfl ?_
            refine g_iloadN X0 hx (hb hby d21_75) (pc' := 76) rfl rfl ?_
            refine g_iconst X0 hx (hb hby d21_76) (pc' := 77) rfl (z := (1 : Int32)) rfl ?_
            refine g_iushr X0 hx (hb hby d21_77) (pc' := 78) rfl ?_
            refine g_iadd X0 hx (hb hby d21_78) (pc' := 79) rfl ?_
            exact g_ireturn X0 hx hret (hb hby d21_79) N0 hlk (fun v t => endF (by decide) (by decide) v) (by rw [e0]; refine ⟨?_, rfl⟩; unfold ntzI; rw [← eyy]; simp [ntF, nzU, hc9, hc23, hc38, hc52, hc64])
      · skip
        refine g_iinc X0 hx (hb hby d21_41) (pc' := 44) rfl rfl (z := (8 : Int32)) rfl (Ls' := #[.val (.int yy), .val (.int (9 : Int32))]) rfl ?_
        refine g_iloadN X0 hx (hb hby d21_44) (pc' := 45) rfl rfl ?_
        refine g_bipush X0 hx (hb hby d21_45) (pc' := 47) rfl (z := (8 : Int32)) rfl ?_
        refine g_iushr X0 hx (hb hby d21_47) (pc' := 48) rfl ?_
        refine g_istoreN X0 hx (hb hby d21_48) (pc' := 49) rfl (Ls' := #[.val (.int (ushr yy (8 : Int32))), .val (.int (9 : Int32))]) rfl ?_
        refine g_iloadN X0 hx (hb hby d21_49) (pc' := 50) rfl rfl ?_
        refine g_bipush X0 hx (hb hby d21_50) (pc' := 52) rfl (z := (16 : Int32)) rfl ?_
        refine g_icmp_le X0 hx (hb hby d21_52) (pc1 := 55) rfl (by decide) (pc2 := 62) (by decide) (fun hc52 => ?_) (fun hc52 => ?_)
        · skip
          refine g_iloadN X0 hx (hb hby d21_62) (pc' := 63) rfl rfl ?_
          refine g_iconst X0 hx (hb hby d21_63) (pc' := 64) rfl (z := (4 : Int32)) rfl ?_
          refine g_icmp_le X0 hx (hb hby d21_64) (pc1 := 67) rfl (by decide) (pc2 := 74) (by decide) (fun hc64 => ?_) (fun hc64 => ?_)
          · skip
            refine g_iloadN X0 hx (hb hby d21_74) (pc' := 75) rfl rfl ?_
            refine g_iloadN X0 hx (hb hby d21_75) (pc' := 76) rfl rfl ?_
            refine g_iconst X0 hx (hb hby d21_76) (pc' := 77) rfl (z := (1 : Int32)) rfl ?_
            refine g_iushr X0 hx (hb hby d21_77) (pc' := 78) rfl ?_
            refine g_iadd X0 hx (hb hby d21_78) (pc' := 79) rfl ?_
            exact g_ireturn X0 hx hret (hb hby d21_79) N0 hlk (fun v t => endF (by decide) (by decide) v) (by rw [e0]; refine ⟨?_, rfl⟩; unfold ntzI; rw [← eyy]; simp [ntF, nzU, hc9, hc23, hc38, hc52, hc64])
          · skip
            refine g_iinc X0 hx (hb hby d21_67) (pc' := 70) rfl rfl (z := (2 : Int32)) rfl (Ls' := #[.val (.int (ushr yy (8 : Int32))), .val (.int (11 : Int32))]) rfl ?_
            refine g_iloadN X0 hx (hb hby d21_70) (pc' := 71) rfl rfl ?_
            refine g_iconst X0 hx (hb hby d21_71) (pc' := 72) rfl (z := (2 : Int32)) rfl ?_
            refine g_iushr X0 hx (hb hby d21_72) (pc' := 73) rfl ?_
            refine g_istoreN X0 hx (hb hby d21_73) (pc' := 74) rfl (Ls' := #[.val (.int (ushr (ushr yy (8 : Int32)) (2 : Int32))), .val (.int (11 : Int32))]) rfl ?_
            refine g_iloadN X0 hx (hb hby d21_74) (pc' := 75) rfl rfl ?_
            refine g_iloadN X0 hx (hb hby d21_75) (pc' := 76) rfl rfl ?_
            refine g_iconst X0 hx (hb hby d21_76) (pc' := 77) rfl (z := (1 : Int32)) rfl ?_
            refine g_iushr X0 hx (hb hby d21_77) (pc' := 78) rfl ?_
            refine g_iadd X0 hx (hb hby d21_78) (pc' := 79) rfl ?_
            exact g_ireturn X0 hx hret (hb hby d21_79) N0 hlk (fun v t => endF (by decide) (by decide) v) (by rw [e0]; refine ⟨?_, rfl⟩; unfold ntzI; rw [← eyy]; simp [ntF, nzU, hc9, hc23, hc38, hc52, hc64])
        · skip
          refine g_iinc X0 hx (hb hby d21_55) (pc' := 58) rfl rfl (z := (4 : Int32)) rfl (Ls' := #[.val (.int (ushr yy (8 : Int32))), .val (.int (13 : Int32))]) rfl ?_
          refine g_iloadN X0 hx (hb hby d21_58) (pc' := 59) rfl rfl ?_
          refine g_iconst X0 hx (hb hby d21_59) (pc' := 60) rfl (z := (4 : Int32)) rfl ?_
          refine g_iushr X0 hx (hb hby d21_60) (pc' := 61) rfl ?_
          refine g_istoreN X0 hx (hb hby d21_61) (pc' := 62) rfl (Ls' := #[.val (.int (ushr (ushr yy (8 : Int32)) (4 : Int32))), .val (.int (13 : Int32))]) rfl ?_
          refine g_iloadN X0 hx (hb hby d21_62) (pc' := 63) rfl rfl ?_
          refine g_iconst X0 hx (hb hby d21_63) (pc' := 64) rfl (z := (4 : Int32)) rfl ?_
          refine g_icmp_le X0 hx (hb hby d21_64) (pc1 := 67) rfl (by decide) (pc2 := 74) (by decide) (fun hc64 => ?_) (fun hc64 => ?_)
          · skip
            refine g_iloadN X0 hx (hb hby d21_74) (pc' := 75) rfl rfl ?_
            refine g_iloadN X0 hx (hb hby d21_75) (pc' := 76) rfl rfl ?_
            refine g_iconst X0 hx (hb hby d21_76) (pc' := 77) rfl (z := (1 : Int32)) rfl ?_
            refine g_iushr X0 hx (hb hby d21_77) (pc' := 78) rfl ?_
            refine g_iadd X0 hx (hb hby d21_78) (pc' := 79) rfl ?_
            exact g_ireturn X0 hx hret (hb hby d21_79) N0 hlk (fun v t => endF (by decide) (by decide) v) (by rw [e0]; refine ⟨?_, rfl⟩; unfold ntzI; rw [← eyy]; simp [ntF, nzU, hc9, hc23, hc38, hc52, hc64])
          · skip
            refine g_iinc X0 hx (hb hby d21_67) (pc' := 70) rfl rfl (z := (2 : Int32)) rfl (Ls' := #[.val (.int (ushr (ushr yy (8 : Int32)) (4 : Int32))), .val (.int (15 : Int32))]) rfl ?_
            refine g_iloadN X0 hx (hb hby d21_70) (pc' := 71) rfl rfl ?_
            refine g_iconst X0 hx (hb hby d21_71) (pc' := 72) rfl (z := (2 : Int32)) rfl ?_
            refine g_iushr X0 hx (hb hby d21_72) (pc' := 73) rfl ?_
            refine g_istoreN X0 hx (hb hby d21_73) (pc' := 74) rfl (Ls' := #[.val (.int (ushr (ushr (ushr yy (8 : Int32)) (4 : Int32)) (2 : Int32))), .val (.int (15 : Int32))]) rfl ?_
            refine g_iloadN X0 hx (hb hby d21_74) (pc' := 75) rfl rfl ?_
            refine g_iloadN X0 hx (hb hby d21_75) (pc' := 76) rfl rfl ?_
            refine g_iconst X0 hx (hb hby d21_76) (pc' := 77) rfl (z := (1 : Int32)) rfl ?_
            refine g_iushr X0 hx (hb hby d21_77) (pc' := 78) rfl ?_
            refine g_iadd X0 hx (hb hby d21_78) (pc' := 79) rfl ?_
            exact g_ireturn X0 hx hret (hb hby d21_79) N0 hlk (fun v t => endF (by decide) (by decide) v) (by rw [e0]; refine ⟨?_, rfl⟩; unfold ntzI; rw [← eyy]; simp [ntF, nzU, hc9, hc23, hc38, hc52, hc64])
    · skip
      refine g_iinc X0 hx (hb hby d21_26) (pc' := 29) rfl rfl (z := (16 : Int32)) rfl (Ls' := #[.val (.int yy), .val (.int (17 : Int32))]) rfl ?_
      refine g_iloadN X0 hx (hb hby d21_29) (pc' := 30) rfl rfl ?_
      refine g_bipush X0 hx (hb hby d21_30) (pc' := 32) rfl (z := (16 : Int32)) rfl ?_
      refine g_iushr X0 hx (hb hby d21_32) (pc' := 33) rfl ?_
      refine g_istoreN X0 hx (hb hby d21_33) (pc' := 34) rfl (Ls' := #[.val (.int (ushr yy (16 : Int32))), .val (.int (17 : Int32))]) rfl ?_
      refine g_iloadN X0 hx (hb hby d21_34) (pc' := 35) rfl rfl ?_
      refine g_sipush X0 hx (hb hby d21_35) (pc' := 38) rfl (z := (256 : Int32)) rfl ?_
      refine g_icmp_le X0 hx (hb hby d21_38) (pc1 := 41) rfl (by decide) (pc2 := 49) (by decide) (fun hc38 => ?_) (fun hc38 => ?_)
      · skip
        refine g_iloadN X0 hx (hb hby d21_49) (pc' := 50) rfl rfl ?_
        refine g_bipush X0 hx (hb hby d21_50) (pc' := 52) rfl (z := (16 : Int32)) rfl ?_
        refine g_icmp_le X0 hx (hb hby d21_52) (pc1 := 55) rfl (by decide) (pc2 := 62) (by decide) (fun hc52 => ?_) (fun hc52 => ?_)
        · skip
          refine g_iloadN X0 hx (hb hby d21_62) (pc' := 63) rfl rfl ?_
          refine g_iconst X0 hx (hb hby d21_63) (pc' := 64) rfl (z := (4 : Int32)) rfl ?_
          refine g_icmp_le X0 hx (hb hby d21_64) (pc1 := 67) rfl (by decide) (pc2 := 74) (by decide) (fun hc64 => ?_) (fun hc64 => ?_)
          · skip
            refine g_iloadN X0 hx (hb hby d21_74) (pc' := 75) rfl rfl ?_
            refine g_iloadN X0 hx (hb hby d21_75) (pc' := 76) rfl rfl ?_
            refine g_iconst X0 hx (hb hby d21_76) (pc' := 77) rfl (z := (1 : Int32)) rfl ?_
            refine g_iushr X0 hx (hb hby d21_77) (pc' := 78) rfl ?_
            refine g_iadd X0 hx (hb hby d21_78) (pc' := 79) rfl ?_
            exact g_ireturn X0 hx hret (hb hby d21_79) N0 hlk (fun v t => endF (by decide) (by decide) v) (by rw [e0]; refine ⟨?_, rfl⟩; unfold ntzI; rw [← eyy]; simp [ntF, nzU, hc9, hc23, hc38, hc52, hc64])
          · skip
            refine g_iinc X0 hx (hb hby d21_67) (pc' := 70) rfl rfl (z := (2 : Int32)) rfl (Ls' := #[.val (.int (ushr yy (16 : Int32))), .val (.int (19 : Int32))]) rfl ?_
            refine g_iloadN X0 hx (hb hby d21_70) (pc' := 71) rfl rfl ?_
            refine g_iconst X0 hx (hb hby d21_71) (pc' := 72) rfl (z := (2 : Int32)) rfl ?_
            refine g_iushr X0 hx (hb hby d21_72) (pc' := 73) rfl ?_
            refine g_istoreN X0 hx (hb hby d21_73) (pc' := 74) rfl (Ls' := #[.val (.int (ushr (ushr yy (16 : Int32)) (2 : Int32))), .val (.int (19 : Int32))]) rfl ?_
            refine g_iloadN X0 hx (hb hby d21_74) (pc' := 75) rfl rfl ?_
            refine g_iloadN X0 hx (hb hby d21_75) (pc' := 76) rfl rfl ?_
            refine g_iconst X0 hx (hb hby d21_76) (pc' := 77) rfl (z := (1 : Int32)) rfl ?_
            refine g_iushr X0 hx (hb hby d21_77) (pc' := 78) rfl ?_
            refine g_iadd X0 hx (hb hby d21_78) (pc' := 79) rfl ?_
            exact g_ireturn X0 hx hret (hb hby d21_79) N0 hlk (fun v t => endF (by decide) (by decide) v) (by rw [e0]; refine ⟨?_, rfl⟩; unfold ntzI; rw [← eyy]; simp [ntF, nzU, hc9, hc23, hc38, hc52, hc64])
        · skip
          refine g_iinc X0 hx (hb hby d21_55) (pc' := 58) rfl rfl (z := (4 : Int32)) rfl (Ls' := #[.val (.int (ushr yy (16 : Int32))), .val (.int (21 : Int32))]) rfl ?_
          refine g_iloadN X0 hx (hb hby d21_58) (pc' := 59) rfl rfl ?_
          refine g_iconst X0 hx (hb hby d21_59) (pc' := 60) rfl (z := (4 : Int32)) rfl ?_
          refine g_iushr X0 hx (hb hby d21_60) (pc' := 61) rfl ?_
          refine g_istoreN X0 hx (hb hby d21_61) (pc' := 62) rfl (Ls' := #[.val (.int (ushr (ushr yy (16 : Int32)) (4 : Int32))), .val (.int (21 : Int32))]) rfl ?_
          refine g_iloadN X0 hx (hb hby d21_62) (pc' := 63) rfl rfl ?_
          refine g_iconst X0 hx (hb hby d21_63) (pc' := 64) rfl (z := (4 : Int32)) rfl ?_
          refine g_icmp_le X0 hx (hb hby d21_64) (pc1 := 67) rfl (by decide) (pc2 := 74) (by decide) (fun hc64 => ?_) (fun hc64 => ?_)
          · skip
            refine g_iloadN X0 hx (hb hby d21_74) (pc' := 75) rfl rfl ?_
            refine g_iloadN X0 hx (hb hby d21_75) (pc' := 76) rfl rfl ?_
            refine g_iconst X0 hx (hb hby d21_76) (pc' := 77) rfl (z := (1 : Int32)) rfl ?_
            refine g_iushr X0 hx (hb hby d21_77) (pc' := 78) rfl ?_
            refine g_iadd X0 hx (hb hby d21_78) (pc' := 79) rfl ?_
            exact g_ireturn X0 hx hret (hb hby d21_79) N0 hlk (fun v t => endF (by decide) (by decide) v) (by rw [e0]; refine ⟨?_, rfl⟩; unfold ntzI; rw [← eyy]; simp [ntF, nzU, hc9, hc23, hc38, hc52, hc64])
          · skip
            refine g_iinc X0 hx (hb hby d21_67) (pc' := 70) rfl rfl (z := (2 : Int32)) rfl (Ls' := #[.val (.int (ushr (ushr yy (16 : Int32)) (4 : Int32))), .val (.int (23 : Int32))]) rfl ?_
            refine g_iloadN X0 hx (hb hby d21_70) (pc' := 71) rfl rfl ?_
            refine g_iconst X0 hx (hb hby d21_71) (pc' := 72) rfl (z := (2 : Int32)) rfl ?_
            refine g_iushr X0 hx (hb hby d21_72) (pc' := 73) rfl ?_
            refine g_istoreN X0 hx (hb hby d21_73) (pc' := 74) rfl (Ls' := #[.val (.int (ushr (ushr (ushr yy (16 : Int32)) (4 : Int32)) (2 : Int32))), .val (.int (23 : Int32))]) rfl ?_
            refine g_iloadN X0 hx (hb hby d21_74) (pc' := 75) rfl rfl ?_
            refine g_iloadN X0 hx (hb hby d21_75) (pc' := 76) rfl rfl ?_
            refine g_iconst X0 hx (hb hby d21_76) (pc' := 77) rfl (z := (1 : Int32)) rfl ?_
            refine g_iushr X0 hx (hb hby d21_77) (pc' := 78) rfl ?_
            refine g_iadd X0 hx (hb hby d21_78) (pc' := 79) rfl ?_
            exact g_ireturn X0 hx hret (hb hby d21_79) N0 hlk (fun v t => endF (by decide) (by decide) v) (by rw [e0]; refine ⟨?_, rfl⟩; unfold ntzI; rw [← eyy]; simp [ntF, nzU, hc9, hc23, hc38, hc52, hc64])
      · skip
        refine g_iinc X0 hx (hb hby d21_41) (pc' := 44) rfl rfl (z := (8 : Int32)) rfl (Ls' := #[.val (.int (ushr yy (16 : Int32))), .val (.int (25 : Int32))]) rfl ?_
        refine g_iloadN X0 hx (hb hby d21_44) (pc' := 45) rfl rfl ?_
        refine g_bipush X0 hx (hb hby d21_45) (pc' := 47) rfl (z := (8 : Int32)) rfl ?_
        refine g_iushr X0 hx (hb hby d21_47) (pc' := 48) rfl ?_
        refine g_istoreN X0 hx (hb hby d21_48) (pc' := 49) rfl (Ls' := #[.val (.int (ushr (ushr yy (16 : Int32)) (8 : Int32))), .val (.int (25 : Int32))]) rfl ?_
        refine g_iloadN X0 hx (hb hby d21_49) (pc' := 50) rfl rfl ?_
        refine g_bipush X0 hx (hb hby d21_50) (pc' := 52) rfl (z := (16 : Int32)) rfl ?_
        refine g_icmp_le X0 hx (hb hby d21_52) (pc1 := 55) rfl (by decide) (pc2 := 62) (by decide) (fun hc52 => ?_) (fun hc52 => ?_)
        · skip
          refine g_iloadN X0 hx (hb hby d21_62) (pc' := 63) rfl rfl ?_
          refine g_iconst X0 hx (hb hby d21_63) (pc' := 64) rfl (z := (4 : Int32)) rfl ?_
          refine g_icmp_le X0 hx (hb hby d21_64) (pc1 := 67) rfl (by decide) (pc2 := 74) (by decide) (fun hc64 => ?_) (fun hc64 => ?_)
          · skip
            refine g_iloadN X0 hx (hb hby d21_74) (pc' := 75) rfl rfl ?_
            refine g_iloadN X0 hx (hb hby d21_75) (pc' := 76) rfl rfl ?_
            refine g_iconst X0 hx (hb hby d21_76) (pc' := 77) rfl (z := (1 : Int32)) rfl ?_
            refine g_iushr X0 hx (hb hby d21_77) (pc' := 78) rfl ?_
            refine g_iadd X0 hx (hb hby d21_78) (pc' := 79) rfl ?_
            exact g_ireturn X0 hx hret (hb hby d21_79) N0 hlk (fun v t => endF (by decide) (by decide) v) (by rw [e0]; refine ⟨?_, rfl⟩; unfold ntzI; rw [← eyy]; simp [ntF, nzU, hc9, hc23, hc38, hc52, hc64])
          · skip
            refine g_iinc X0 hx (hb hby d21_67) (pc' := 70) rfl rfl (z := (2 : Int32)) rfl (Ls' := #[.val (.int (ushr (ushr yy (16 : Int32)) (8 : Int32))), .val (.int (27 : Int32))]) rfl ?_
            refine g_iloadN X0 hx (hb hby d21_70) (pc' := 71) rfl rfl ?_
            refine g_iconst X0 hx (hb hby d21_71) (pc' := 72) rfl (z := (2 : Int32)) rfl ?_
            refine g_iushr X0 hx (hb hby d21_72) (pc' := 73) rfl ?_
            refine g_istoreN X0 hx (hb hby d21_73) (pc' := 74) rfl (Ls' := #[.val (.int (ushr (ushr (ushr yy (16 : Int32)) (8 : Int32)) (2 : Int32))), .val (.int (27 : Int32))]) rfl ?_
            refine g_iloadN X0 hx (hb hby d21_74) (pc' := 75) rfl rfl ?_
            refine g_iloadN X0 hx (hb hby d21_75) (pc' := 76) rfl rfl ?_
            refine g_iconst X0 hx (hb hby d21_76) (pc' := 77) rfl (z := (1 : Int32)) rfl ?_
            refine g_iushr X0 hx (hb hby d21_77) (pc' := 78) rfl ?_
            refine g_iadd X0 hx (hb hby d21_78) (pc' := 79) rfl ?_
            exact g_ireturn X0 hx hret (hb hby d21_79) N0 hlk (fun v t => endF (by decide) (by decide) v) (by rw [e0]; refine ⟨?_, rfl⟩; unfold ntzI; rw [← eyy]; simp [ntF, nzU, hc9, hc23, hc38, hc52, hc64])
        · skip
          refine g_iinc X0 hx (hb hby d21_55) (pc' := 58) rfl rfl (z := (4 : Int32)) rfl (Ls' := #[.val (.int (ushr (ushr yy (16 : Int32)) (8 : Int32))), .val (.int (29 : Int32))]) rfl ?_
          refine g_iloadN X0 hx (hb hby d21_58) (pc' := 59) rfl rfl ?_
          refine g_iconst X0 hx (hb hby d21_59) (pc' := 60) rfl (z := (4 : Int32)) rfl ?_
          refine g_iushr X0 hx (hb hby d21_60) (pc' := 61) rfl ?_
          refine g_istoreN X0 hx (hb hby d21_61) (pc' := 62) rfl (Ls' := #[.val (.int (ushr (ushr (ushr yy (16 : Int32)) (8 : Int32)) (4 : Int32))), .val (.int (29 : Int32))]) rfl ?_
          refine g_iloadN X0 hx (hb hby d21_62) (pc' := 63) rfl rfl ?_
          refine g_iconst X0 hx (hb hby d21_63) (pc' := 64) rfl (z := (4 : Int32)) rfl ?_
          refine g_icmp_le X0 hx (hb hby d21_64) (pc1 := 67) rfl (by decide) (pc2 := 74) (by decide) (fun hc64 => ?_) (fun hc64 => ?_)
          · skip
            refine g_iloadN X0 hx (hb hby d21_74) (pc' := 75) rfl rfl ?_
            refine g_iloadN X0 hx (hb hby d21_75) (pc' := 76) rfl rfl ?_
            refine g_iconst X0 hx (hb hby d21_76) (pc' := 77) rfl (z := (1 : Int32)) rfl ?_
            refine g_iushr X0 hx (hb hby d21_77) (pc' := 78) rfl ?_
            refine g_iadd X0 hx (hb hby d21_78) (pc' := 79) rfl ?_
            exact g_ireturn X0 hx hret (hb hby d21_79) N0 hlk (fun v t => endF (by decide) (by decide) v) (by rw [e0]; refine ⟨?_, rfl⟩; unfold ntzI; rw [← eyy]; simp [ntF, nzU, hc9, hc23, hc38, hc52, hc64])
          · skip
            refine g_iinc X0 hx (hb hby d21_67) (pc' := 70) rfl rfl (z := (2 : Int32)) rfl (Ls' := #[.val (.int (ushr (ushr (ushr yy (16 : Int32)) (8 : Int32)) (4 : Int32))), .val (.int (31 : Int32))]) rfl ?_
            refine g_iloadN X0 hx (hb hby d21_70) (pc' := 71) rfl rfl ?_
            refine g_iconst X0 hx (hb hby d21_71) (pc' := 72) rfl (z := (2 : Int32)) rfl ?_
            refine g_iushr X0 hx (hb hby d21_72) (pc' := 73) rfl ?_
            refine g_istoreN X0 hx (hb hby d21_73) (pc' := 74) rfl (Ls' := #[.val (.int (ushr (ushr (ushr (ushr yy (16 : Int32)) (8 : Int32)) (4 : Int32)) (2 : Int32))), .val (.int (31 : Int32))]) rfl ?_
            refine g_iloadN X0 hx (hb hby d21_74) (pc' := 75) rfl rfl ?_
            refine g_iloadN X0 hx (hb hby d21_75) (pc' := 76) rfl rfl ?_
            refine g_iconst X0 hx (hb hby d21_76) (pc' := 77) rfl (z := (1 : Int32)) rfl ?_
            refine g_iushr X0 hx (hb hby d21_77) (pc' := 78) rfl ?_
            refine g_iadd X0 hx (hb hby d21_78) (pc' := 79) rfl ?_
            exact g_ireturn X0 hx hret (hb hby d21_79) N0 hlk (fun v t => endF (by decide) (by decide) v) (by rw [e0]; refine ⟨?_, rfl⟩; unfold ntzI; rw [← eyy]; simp [ntF, nzU, hc9, hc23, hc38, hc52, hc64])
  · skip
    refine g_iloadN X0 hx (hb hby d21_12) (pc' := 13) rfl rfl ?_
    refine g_bipush X0 hx (hb hby d21_13) (pc' := 15) rfl (z := (32 : Int32)) rfl ?_
    refine g_iand X0 hx (hb hby d21_15) (pc' := 16) rfl ?_
    exact g_ireturn X0 hx hret (hb hby d21_16) N0 hlk (fun v t => endF (by decide) (by decide) v) (by rw [e0]; refine ⟨?_, rfl⟩; unfold ntzI; rw [← eyy]; simp [ntF, nzU, hc9])
theorem d20_0 : decode jdk_35_method_49_code 0 = .ok (.lload_n 0, 1) := by decide +kernel
theorem d20_1 : decode jdk_35_method_49_code 1 = .ok (.l2i, 1) := by decide +kernel
theorem d20_2 : decode jdk_35_method_49_code 2 = .ok (.istore_n 2, 1) := by decide +kernel
theorem d20_3 : decode jdk_35_method_49_code 3 = .ok (.iload_n 2, 1) := by decide +kernel
theorem d20_4 : decode jdk_35_method_49_code 4 = .ok (.ifCond .ne 17, 3) := by decide +kernel
theorem d20_7 : decode jdk_35_method_49_code 7 = .ok (.bipush 32, 2) := by decide +kernel
theorem d20_9 : decode jdk_35_method_49_code 9 = .ok (.lload_n 0, 1) := by decide +kernel
theorem d20_10 : decode jdk_35_method_49_code 10 = .ok (.bipush 32, 2) := by decide +kernel
theorem d20_12 : decode jdk_35_method_49_code 12 = .ok (.lushr, 1) := by decide +kernel
theorem d20_13 : decode jdk_35_method_49_code 13 = .ok (.l2i, 1) := by decide +kernel
theorem d20_14 : decode jdk_35_method_49_code 14 = .ok (.invokestatic 311, 3) := by decide +kernel
theorem d20_17 : decode jdk_35_method_49_code 17 = .ok (.iadd, 1) := by decide +kernel
theorem d20_18 : decode jdk_35_method_49_code 18 = .ok (.goto 7, 3) := by decide +kernel
theorem d20_21 : decode jdk_35_method_49_code 21 = .ok (.iload_n 2, 1) := by decide +kernel
theorem d20_22 : decode jdk_35_method_49_code 22 = .ok (.invokestatic 311, 3) := by decide +kernel
theorem d20_25 : decode jdk_35_method_49_code 25 = .ok (.ireturn, 1) := by decide +kernel
theorem ef_20 (x0 : Int64) (m : MethodId) : entryFrame m #[(.long x0)] 3 = mkF m 0 #[.val (.long x0), .second, .unset] [] := by first | (simp [entryFrame, mkF, argsToLocals, Value.category]; done) | rfl
def Q20 (Z : State) (p1 : Int64) (h0 : Heap) (n0 : Nat) : Option Value → Heap → Prop := fun v h => v = some (.int (ntzJ p1)) ∧ h0 = h
set_option maxRecDepth 65536 in
set_option maxHeartbeats 40000000 in
theorem rm20 (l : Launch) (Z : State) (a0 : Array Value) (hw : ∀ d ∈ tables_1, d.before a0 Z = true) (p1 : Int64) (h0 : Heap) (n0 : Nat) (Z0 : n0 ≤ h0.size) : Ctr l Z (⟨"java/lang/Long", "numberOfTrailingZeros", "(J)I"⟩ : MethodName) jdk_35_method_49_code 3 (some .int) ({ frames := 1, cells := 0, slots := 0, locals := 14 } : Room) #[(.long p1)] h0 n0 (Q20 Z p1 h0 n0) := by
  refine Ctr.of (plainFor_of_name pn_5) (ef_20 p1) ?_
  intro p e s m below meth c T0 hx hby hml hown hnm hret hlk hZ X0 e0
  have N0 := Fr.nil n0
  refine g_lloadN X0 hx (hb hby d20_0) (pc' := 1) rfl rfl ?_
  refine g_l2i X0 hx (hb hby d20_1) (pc' := 2) rfl ?_
  refine g_istoreN X0 hx (hb hby d20_2) (pc' := 3) rfl (Ls' := #[.val (.long p1), .second, .val (.int p1.toInt32)]) rfl ?_
  refine g_iloadN X0 hx (hb hby d20_3) (pc' := 4) rfl rfl ?_
  refine g_if_ne X0 hx (hb hby d20_4) (pc1 := 7) rfl (by decide) (pc2 := 21) (by decide) (fun hc4 => ?_) (fun hc4 => ?_)
  · skip
    refine g_iloadN X0 hx (hb hby d20_21) (pc' := 22) rfl rfl ?_
    obtain ⟨v151, T151, h151, L151, X151, e151, N151, q151, st151⟩ := h_static X0 hx (W := 0) (Ls := #[.val (.long p1), .second, .val (.int p1.toInt32)]) (argsL := [(.int p1.toInt32)]) (rest := []) hZ e0 N0 hml hown (rm21 l Z a0 hw p1.toInt32 h0 n0 Z0) (hw _ (List.mem_of_getElem? (i := 114) rfl)) (hw _ (List.mem_of_getElem? (i := 115) rfl)) (hw _ (List.mem_of_getElem? (i := 39) rfl)) (hw _ (List.mem_of_getElem? (i := 116) rfl)) (by decide) pd__I_I rfl rfl (hb hby d20_22) rfl (by decide) (by decide) (by decide) (by decide)
    obtain ⟨rfl, rfl⟩ := q151
    refine Go.movp st151 (mkF m 25 #[.val (.long p1), .second, .val (.int p1.toInt32)] [(.int (ntzI p1.toInt32))]) rfl ?_
    exact g_ireturn X151 hx hret (hb hby d20_25) N151 hlk (fun v t => endF (by decide) (by decide) v) (by rw [e151]; refine ⟨?_, rfl⟩; simp [ntzJ, hc4])
  · skip
    refine g_bipush X0 hx (hb hby d20_7) (pc' := 9) rfl (z := (32 : Int32)) rfl ?_
    refine g_lloadN X0 hx (hb hby d20_9) (pc' := 10) rfl rfl ?_
    refine g_bipush X0 hx (hb hby d20_10) (pc' := 12) rfl (z := (32 : Int32)) rfl ?_
    refine g_lushr X0 hx (hb hby d20_12) (pc' := 13) rfl ?_
    refine g_l2i X0 hx (hb hby d20_13) (pc' := 14) rfl ?_
    obtain ⟨v152, T152, h152, L152, X152, e152, N152, q152, st152⟩ := h_static X0 hx (W := 1) (Ls := #[.val (.long p1), .second, .val (.int p1.toInt32)]) (argsL := [(.int (lushr p1 (32 : Int32)).toInt32)]) (rest := [(.int (32 : Int32))]) hZ e0 N0 hml hown (rm21 l Z a0 hw (lushr p1 (32 : Int32)).toInt32 h0 n0 Z0) (hw _ (List.mem_of_getElem? (i := 114) rfl)) (hw _ (List.mem_of_getElem? (i := 115) rfl)) (hw _ (List.mem_of_getElem? (i := 39) rfl)) (hw _ (List.mem_of_getElem? (i := 116) rfl)) (by decide) pd__I_I rfl rfl (hb hby d20_14) rfl (by decide) (by decide) (by decide) (by decide)
    obtain ⟨rfl, rfl⟩ := q152
    refine Go.movp st152 (mkF m 17 #[.val (.long p1), .second, .val (.int p1.toInt32)] [(.int (ntzI (lushr p1 (32 : Int32)).toInt32)), (.int (32 : Int32))]) rfl ?_
    refine g_iadd X152 hx (hb hby d20_17) (pc' := 18) rfl ?_
    refine g_goto X152 hx (hb hby d20_18) (by decide) (pc' := 25) (by decide) ?_
    exact g_ireturn X152 hx hret (hb hby d20_25) N152 hlk (fun v t => endF (by decide) (by decide) v) (by rw [e152]; refine ⟨?_, rfl⟩; simp [ntzJ, hc4])
theorem d1_0 : decode prog_129_method_1_code 0 = .ok (.aload_n 0, 1) := by decide +kernel
theorem d1_1 : decode prog_129_method_1_code 1 = .ok (.invokespecial 3, 3) := by decide +kernel
theorem d1_4 : decode prog_129_method_1_code 4 = .ok (.aload_n 0, 1) := by decide +kernel
theorem d1_5 : decode prog_129_method_1_code 5 = .ok (.bipush 63, 2) := by decide +kernel
theorem d1_7 : decode prog_129_method_1_code 7 = .ok (.newarray .long, 2) := by decide +kernel
theorem d1_9 : decode prog_129_method_1_code 9 = .ok (.putfield 9, 3) := by decide +kernel
theorem d1_12 : decode prog_129_method_1_code 12 = .ok (.return_, 1) := by decide +kernel
theorem pn_1 : plainName "com/example/stratasig/stratasig/index/GapCoding$Counts" = true := by first | (simp [plainName, overriddenIn]; done) | decide +kernel
theorem ef_1 (x0 : Addr) (m : MethodId) : entryFrame m #[(.ref x0)] 1 = mkF m 0 #[.val (.ref x0)] [] := by first | (simp [entryFrame, mkF, argsToLocals, Value.category]; done) | rfl
def Q1 (Z : State) (a : Addr) (h0 : Heap) (n0 : Nat) : Option Value → Heap → Prop := fun v h => ∃ sb, v = none ∧ n0 ≤ sb ∧ a ≠ sb ∧ h0.size ≤ sb ∧ Keep h0 h [a] ∧ Exa Z h a "com/example/stratasig/stratasig/index/GapCoding$Counts" ∧ Fld Z h a "com/example/stratasig/stratasig/index/GapCoding$Counts" "count" "J" (.long (0 : Int64)) ∧ Fld Z h a "com/example/stratasig/stratasig/index/GapCoding$Counts" "sum" "J" (.long (0 : Int64)) ∧ Fld Z h a "com/example/stratasig/stratasig/index/GapCoding$Counts" "setBits" "[J" (.ref sb) ∧ Va Z h sb .long ((List.replicate 63 (0 : Int64)).map Value.long)
set_option maxRecDepth 65536 in
set_option maxHeartbeats 40000000 in
theorem rm1 (l : Launch) (Z : State) (a0 : Array Value) (hw : ∀ d ∈ tables_1, d.before a0 Z = true) (a : Addr) (h0 : Heap) (n0 : Nat) (Z0 : n0 ≤ h0.size) (F1 : Fld Z h0 a "com/example/stratasig/stratasig/index/GapCoding$Counts" "count" "J" (.long (0 : Int64))) (F2 : Fld Z h0 a "com/example/stratasig/stratasig/index/GapCoding$Counts" "sum" "J" (.long (0 : Int64))) (F3 : Fld Z h0 a "com/example/stratasig/stratasig/index/GapCoding$Counts" "setBits" "[J" .null) (E1 : Exa Z h0 a "com/example/stratasig/stratasig/index/GapCoding$Counts") (G1 : n0 ≤ a) : Ctr l Z (⟨"com/example/stratasig/stratasig/index/GapCoding$Counts", "<init>", "()V"⟩ : MethodName) prog_129_method_1_code 1 none ({ frames := 1, cells := 1, slots := 63, locals := 12 } : Room) #[(.ref a)] h0 n0 (Q1 Z a h0 n0) := by
  refine Ctr.of (plainFor_of_name pn_1) (ef_1 a) ?_
  intro p e s m below meth c T0 hx hby hml hown hnm hret hlk hZ X0 e0
  have N0 := Fr.nil n0
  refine g_aloadN X0 hx (hb hby d1_0) (pc' := 1) rfl rfl rfl ?_
  obtain ⟨T153, X153, e153, st153⟩ := initO X0 hx hZ hown (hw _ (List.mem_of_getElem? (i := 8) rfl)) (hw _ (List.mem_of_getElem? (i := 9) rfl)) (hw _ (List.mem_of_getElem? (i := 10) rfl)) e0 (g := (mkF m 1 #[.val (.ref a)] [(.ref a)])) rfl (by rw [hml]; rfl) rfl (hb hby d1_1) (by decide) (W := 0) (by show 2 * 0 + _ ≤ _; exact Nat.le_of_eq rfl) (by decide)
  refine Go.movp st153 (mkF m 4 #[.val (.ref a)] []) rfl ?_
  refine g_aloadN X153 hx (hb hby d1_4) (pc' := 5) rfl rfl rfl ?_
  refine g_bipush X153 hx (hb hby d1_5) (pc' := 7) rfl (z := (63 : Int32)) rfl ?_
  obtain ⟨T154, h154, b154, X154, e154, g154, E154, V154, A154, st154⟩ := h_newarray X153 hx hZ e153 (n := (63 : Int32)) (ty := .long) rfl (hw _ (List.mem_of_getElem? (i := 1) rfl)) (hb hby d1_7) (k := 63) (cap := 63) (by decide) rfl (by decide) (by decide) (by decide) (by decide) (ad := "[J") (by decide) #[.val (.ref a)] [(.ref a)]
  have ne155 : a ≠ b154 := Nat.ne_of_lt (g154 ▸ F1.lt)
  have ge156 : n0 ≤ b154 := g154 ▸ Z0
  have sz157 : h0.size ≤ b154 := g154 ▸ (Keep.refl h0 [a]).1
  have f158 := Fld.ext E154 F1
  have f159 := Fld.ext E154 F2
  have f160 := Fld.ext E154 F3
  have f161 := Exa.ext E154 E1
  have Z162 : n0 ≤ h154.size := Nat.le_trans Z0 E154.1
  have K163 := (Keep.refl h0 [a]).ext E154
  have f164 : Va Z h154 b154 .long [(.long (0 : Int64)), (.long (0 : Int64)), (.long (0 : Int64)), (.long (0 : Int64)), (.long (0 : Int64)), (.long (0 : Int64)), (.long (0 : Int64)), (.long (0 : Int64)), (.long (0 : Int64)), (.long (0 : Int64)), (.long (0 : Int64)), (.long (0 : Int64)), (.long (0 : Int64)), (.long (0 : Int64)), (.long (0 : Int64)), (.long (0 : Int64)), (.long (0 : Int64)), (.long (0 : Int64)), (.long (0 : Int64)), (.long (0 : Int64)), (.long (0 : Int64)), (.long (0 : Int64)), (.long (0 : Int64)), (.long (0 : Int64)), (.long (0 : Int64)), (.long (0 : Int64)), (.long (0 : Int64)), (.long (0 : Int64)), (.long (0 : Int64)), (.long (0 : Int64)), (.long (0 : Int64)), (.long (0 : Int64)), (.long (0 : Int64)), (.long (0 : Int64)), (.long (0 : Int64)), (.long (0 : Int64)), (.long (0 : Int64)), (.long (0 : Int64)), (.long (0 : Int64)), (.long (0 : Int64)), (.long (0 : Int64)), (.long (0 : Int64)), (.long (0 : Int64)), (.long (0 : Int64)), (.long (0 : Int64)), (.long (0 : Int64)), (.long (0 : Int64)), (.long (0 : Int64)), (.long (0 : Int64)), (.long (0 : Int64)), (.long (0 : Int64)), (.long (0 : Int64)), (.long (0 : Int64)), (.long (0 : Int64)), (.long (0 : Int64)), (.long (0 : Int64)), (.long (0 : Int64)), (.long (0 : Int64)), (.long (0 : Int64)), (.long (0 : Int64)), (.long (0 : Int64)), (.long (0 : Int64)), (.long (0 : Int64))] := V154
  refine Go.movp st154 (mkF m 9 #[.val (.ref a)] [(.ref b154), (.ref a)]) rfl ?_
  obtain ⟨T165, h165, X165, e165, W165, st165⟩ := putF X154 hx hZ hown (host := "") (Or.inl (hw _ (List.mem_of_getElem? (i := 11) rfl))) Via.refl e154 f160 f161 (Or.inr ⟨(hw _ (List.mem_of_getElem? (i := 12) rfl)), rfl, hnm⟩) (hw _ (List.mem_of_getElem? (i := 3) rfl)) (ty := (.array .long)) (by decide) rfl rfl (g := (mkF m 9 #[.val (.ref a)] [(.ref b154), (.ref a)])) rfl rfl (hb hby d1_9)
  have f166 : Fld Z h165 a "com/example/stratasig/stratasig/index/GapCoding$Counts" "setBits" "[J" (.ref b154) := Fld.same W165 f160
  have N165 := Fr.snoc X165 N0 G1
  have f167 := Fld.other W165 f158 (Or.inr (slot_ne (Or.inl (hw _ (List.mem_of_getElem? (i := 22) rfl))) (Or.inr (hw _ (List.mem_of_getElem? (i := 12) rfl))) (by decide) (t := .long) (t' := (.array .long)) (by decide) (by decide)))
  have f168 := Fld.other W165 f159 (Or.inr (slot_ne (Or.inl (hw _ (List.mem_of_getElem? (i := 24) rfl))) (Or.inr (hw _ (List.mem_of_getElem? (i := 12) rfl))) (by decide) (t := .long) (t' := (.array .long)) (by decide) (by decide)))
  have f169 := Exa.wr W165 f161
  have f170 := Exa.wr W165 A154
  have f171 := f164.other W165 (Ne.symm ne155)
  have Z172 : n0 ≤ h165.size := Nat.le_trans Z162 (Keep.of_wr W165).1
  have K173 := K163.wr W165 (Or.inl (List.mem_of_getElem? (i := 0) rfl))
  refine Go.movp st165 (mkF m 12 #[.val (.ref a)] []) rfl ?_
  exact g_return X165 hx hret (hb hby d1_12) N165 hlk (fun v t => endF (by decide) (by decide) v) (by rw [e165]; exact ⟨b154, rfl, ge156, ne155, sz157, K173, f169, f167, f168, f166, Va.eq f171 rfl⟩)
theorem d19_0 : decode prog_129_method_2_code 0 = .ok (.aload_n 0, 1) := by decide +kernel
theorem d19_1 : decode prog_129_method_2_code 1 = .ok (.dup, 1) := by decide +kernel
theorem d19_2 : decode prog_129_method_2_code 2 = .ok (.getfield 15, 3) := by decide +kernel
theorem d19_5 : decode prog_129_method_2_code 5 = .ok (.lconst 1, 1) := by decide +kernel
theorem d19_6 : decode prog_129_method_2_code 6 = .ok (.ladd, 1) := by decide +kernel
theorem d19_7 : decode prog_129_method_2_code 7 = .ok (.putfield 15, 3) := by decide +kernel
theorem d19_10 : decode prog_129_method_2_code 10 = .ok (.aload_n 0, 1) := by decide +kernel
theorem d19_11 : decode prog_129_method_2_code 11 = .ok (.dup, 1) := by decide +kernel
theorem d19_12 : decode prog_129_method_2_code 12 = .ok (.getfield 19, 3) := by decide +kernel
theorem d19_15 : decode prog_129_method_2_code 15 = .ok (.lload_n 1, 1) := by decide +kernel
theorem d19_16 : decode prog_129_method_2_code 16 = .ok (.ladd, 1) := by decide +kernel
theorem d19_17 : decode prog_129_method_2_code 17 = .ok (.putfield 19, 3) := by decide +kernel
theorem d19_20 : decode prog_129_method_2_code 20 = .ok (.lload_n 1, 1) := by decide +kernel
theorem d19_21 : decode prog_129_method_2_code 21 = .ok (.lstore_n 3, 1) := by decide +kernel
theorem d19_22 : decode prog_129_method_2_code 22 = .ok (.lload_n 3, 1) := by decide +kernel
theorem d19_23 : decode prog_129_method_2_code 23 = .ok (.lconst 0, 1) := by decide +kernel
theorem d19_24 : decode prog_129_method_2_code 24 = .ok (.lcmp, 1) := by decide +kernel
theorem d19_25 : decode prog_129_method_2_code 25 = .ok (.ifCond .eq 25, 3) := by decide +kernel
theorem d19_28 : decode prog_129_method_2_code 28 = .ok (.aload_n 0, 1) := by decide +kernel
theorem d19_29 : decode prog_129_method_2_code 29 = .ok (.getfield 9, 3) := by decide +kernel
theorem d19_32 : decode prog_129_method_2_code 32 = .ok (.lload_n 3, 1) := by decide +kernel
theorem d19_33 : decode prog_129_method_2_code 33 = .ok (.invokestatic 22, 3) := by decide +kernel
theorem d19_36 : decode prog_129_method_2_code 36 = .ok (.dup2, 1) := by decide +kernel
theorem d19_37 : decode prog_129_method_2_code 37 = .ok (.laload, 1) := by decide +kernel
theorem d19_38 : decode prog_129_method_2_code 38 = .ok (.lconst 1, 1) := by decide +kernel
theorem d19_39 : decode prog_129_method_2_code 39 = .ok (.ladd, 1) := by decide +kernel
theorem d19_40 : decode prog_129_method_2_code 40 = .ok (.lastore, 1) := by decide +kernel
theorem d19_41 : decode prog_129_method_2_code 41 = .ok (.lload_n 3, 1) := by decide +kernel
theorem d19_42 : decode prog_129_method_2_code 42 = .ok (.lload_n 3, 1) := by decide +kernel
theorem d19_43 : decode prog_129_method_2_code 43 = .ok (.lconst 1, 1) := by decide +kernel
theorem d19_44 : decode prog_129_method_2_code 44 = .ok (.lsub, 1) := by decide +kernel
theorem d19_45 : decode prog_129_method_2_code 45 = .ok (.land, 1) := by decide +kernel
theorem d19_46 : decode prog_129_method_2_code 46 = .ok (.lstore_n 3, 1) := by decide +kernel
theorem d19_47 : decode prog_129_method_2_code 47 = .ok (.goto (-25), 3) := by decide +kernel
theorem d19_50 : decode prog_129_method_2_code 50 = .ok (.return_, 1) := by decide +kernel
theorem ef_19 (x0 : Addr) (x1 : Int64) (m : MethodId) : entryFrame m #[(.ref x0), (.long x1)] 5 = mkF m 0 #[.val (.ref x0), .val (.long x1), .second, .unset, .unset] [] := by first | (simp [entryFrame, mkF, argsToLocals, Value.category]; done) | rfl
def Q19 (Z : State) (a : Addr) (sb : Addr) (c0 : Int64) (c1 : Int64) (s0 : Int64) (s1 : Int64) (xs : List Int64) (g : Int64) (h0 : Heap) (n0 : Nat) : Option Value → Heap → Prop := fun v h => v = none ∧ Keep h0 h [a, sb] ∧ Exa Z h a "com/example/stratasig/stratasig/index/GapCoding$Counts" ∧ Fld Z h a "com/example/stratasig/stratasig/index/GapCoding$Counts" "count" "J" (.long c1) ∧ Fld Z h a "com/example/stratasig/stratasig/index/GapCoding$Counts" "sum" "J" (.long s1) ∧ Fld Z h a "com/example/stratasig/stratasig/index/GapCoding$Counts" "setBits" "[J" (.ref sb) ∧ Va Z h sb .long ((addB g xs).map Value.long)
set_option maxRecDepth 65536 in
set_option maxHeartbeats 40000000 in
theorem rm19 (l : Launch) (Z : State) (a0 : Array Value) (hw : ∀ d ∈ tables_1, d.before a0 Z = true) (a : Addr) (sb : Addr) (c0 : Int64) (c1 : Int64) (s0 : Int64) (s1 : Int64) (xs : List Int64) (g : Int64) (h0 : Heap) (n0 : Nat) (Z0 : n0 ≤ h0.size) (F1 : Fld Z h0 a "com/example/stratasig/stratasig/index/GapCoding$Counts" "count" "J" (.long c0)) (F2 : Fld Z h0 a "com/example/stratasig/stratasig/index/GapCoding$Counts" "sum" "J" (.long s0)) (F3 : Fld Z h0 a "com/example/stratasig/stratasig/index/GapCoding$Counts" "setBits" "[J" (.ref sb)) (V1 : Va Z h0 sb .long (xs.map Value.long)) (E1 : Exa Z h0 a "com/example/stratasig/stratasig/index/GapCoding$Counts") (G1 : n0 ≤ a) (G2 : n0 ≤ sb) (ne1 : a ≠ sb) (hl : xs.length = 63) (hg : Pos g) (hc1 : c0 + 1 = c1) (hs1 : s0 + g = s1) : Ctr l Z (⟨"com/example/stratasig/stratasig/index/GapCoding$Counts", "add", "(J)V"⟩ : MethodName) prog_129_method_2_code 5 none ({ frames := 2, cells := 0, slots := 0, locals := 29 } : Room) #[(.ref a), (.long g)] h0 n0 (Q19 Z a sb c0 c1 s0 s1 xs g h0 n0) := by
  refine Ctr.of (plainFor_of_name pn_1) (ef_19 a g) ?_
  intro p e s m below meth c T0 hx hby hml hown hnm hret hlk hZ X0 e0
  have N0 := Fr.nil n0
  refine g_aloadN X0 hx (hb hby d19_0) (pc' := 1) rfl rfl rfl ?_
  refine g_dup X0 hx (hb hby d19_1) (pc' := 2) rfl rfl ?_
  obtain ⟨T174, X174, e174, st174⟩ := getF X0 hx hZ hown (host := "") (Or.inl (hw _ (List.mem_of_getElem? (i := 21) rfl))) Via.refl e0 F1 (g := (mkF m 2 #[.val (.ref a), .val (.long g), .second, .unset, .unset] [(.ref a), (.ref a)])) rfl rfl (hb hby d19_2)
  refine Go.movp st174 (mkF m 5 #[.val (.ref a), .val (.long g), .second, .unset, .unset] [(.long c0), (.ref a)]) rfl ?_
  refine g_lconst X174 hx (hb hby d19_5) (pc' := 6) rfl (z := (1 : Int64)) rfl ?_
  refine g_ladd X174 hx (hb hby d19_6) (pc' := 7) rfl ?_
  refine Go.cast (show (mkF m 7 #[.val (.ref a), .val (.long g), .second, .unset, .unset] [(.long (c0 + (1 : Int64))), (.ref a)]) = (mkF m 7 #[.val (.ref a), .val (.long g), .second, .unset, .unset] [(.long c1), (.ref a)]) from by rw [show (c0 + (1 : Int64)) = c1 from hc1]) ?_
  obtain ⟨T175, h175, X175, e175, W175, st175⟩ := putF X174 hx hZ hown (host := "") (Or.inl (hw _ (List.mem_of_getElem? (i := 21) rfl))) Via.refl e174 F1 E1 (Or.inl (hw _ (List.mem_of_getElem? (i := 22) rfl))) (hw _ (List.mem_of_getElem? (i := 3) rfl)) (ty := .long) (by decide) rfl rfl (g := (mkF m 7 #[.val (.ref a), .val (.long g), .second, .unset, .unset] [(.long c1), (.ref a)])) rfl rfl (hb hby d19_7)
  have f176 : Fld Z h175 a "com/example/stratasig/stratasig/index/GapCoding$Counts" "count" "J" (.long c1) := Fld.same W175 F1
  have N175 := Fr.snoc X175 N0 G1
  have f177 := Fld.other W175 F2 (Or.inr (slot_ne (Or.inl (hw _ (List.mem_of_getElem? (i := 24) rfl))) (Or.inl (hw _ (List.mem_of_getElem? (i := 22) rfl))) (by decide) (t := .long) (t' := .long) (by decide) (by decide)))
  have f178 := Fld.other W175 F3 (Or.inr (slot_ne (Or.inr (hw _ (List.mem_of_getElem? (i := 12) rfl))) (Or.inl (hw _ (List.mem_of_getElem? (i := 22) rfl))) (by decide) (t := (.array .long)) (t' := .long) (by decide) (by decide)))
  have f179 := V1.other W175 (Ne.symm ne1)
  have f180 := Exa.wr W175 E1
  have Z181 : n0 ≤ h175.size := Nat.le_trans Z0 (Keep.of_wr W175).1
  have K182 := (Keep.refl h0 [a, sb]).wr W175 (Or.inl (List.mem_of_getElem? (i := 0) rfl))
  refine Go.movp st175 (mkF m 10 #[.val (.ref a), .val (.long g), .second, .unset, .unset] []) rfl ?_
  refine g_aloadN X175 hx (hb hby d19_10) (pc' := 11) rfl rfl rfl ?_
  refine g_dup X175 hx (hb hby d19_11) (pc' := 12) rfl rfl ?_
  obtain ⟨T183, X183, e183, st183⟩ := getF X175 hx hZ hown (host := "") (Or.inl (hw _ (List.mem_of_getElem? (i := 23) rfl))) Via.refl e175 f177 (g := (mkF m 12 #[.val (.ref a), .val (.long g), .second, .unset, .unset] [(.ref a), (.ref a)])) rfl rfl (hb hby d19_12)
  refine Go.movp st183 (mkF m 15 #[.val (.ref a), .val (.long g), .second, .unset, .unset] [(.long s0), (.ref a)]) rfl ?_
  refine g_lloadN X183 hx (hb hby d19_15) (pc' := 16) rfl rfl ?_
  refine g_ladd X183 hx (hb hby d19_16) (pc' := 17) rfl ?_
  refine Go.cast (show (mkF m 17 #[.val (.ref a), .val (.long g), .second, .unset, .unset] [(.long (s0 + g)), (.ref a)]) = (mkF m 17 #[.val (.ref a), .val (.long g), .second, .unset, .unset] [(.long s1), (.ref a)]) from by rw [show (s0 + g) = s1 from hs1]) ?_
  obtain ⟨T184, h184, X184, e184, W184, st184⟩ := putF X183 hx hZ hown (host := "") (Or.inl (hw _ (List.mem_of_getElem? (i := 23) rfl))) Via.refl e183 f177 f180 (Or.inl (hw _ (List.mem_of_getElem? (i := 24) rfl))) (hw _ (List.mem_of_getElem? (i := 3) rfl)) (ty := .long) (by decide) rfl rfl (g := (mkF m 17 #[.val (.ref a), .val (.long g), .second, .unset, .unset] [(.long s1), (.ref a)])) rfl rfl (hb hby d19_17)
  have f185 : Fld Z h184 a "com/example/stratasig/stratasig/index/GapCoding$Counts" "sum" "J" (.long s1) := Fld.same W184 f177
  have N184 := Fr.snoc X184 N175 G1
  have f186 := Fld.other W184 f178 (Or.inr (slot_ne (Or.inr (hw _ (List.mem_of_getElem? (i := 12) rfl))) (Or.inl (hw _ (List.mem_of_getElem? (i := 24) rfl))) (by decide) (t := (.array .long)) (t' := .long) (by decide) (by decide)))
  have f187 := f179.other W184 (Ne.symm ne1)
  have f188 := Exa.wr W184 f180
  have f189 := Fld.other W184 f176 (Or.inr (slot_ne (Or.inl (hw _ (List.mem_of_getElem? (i := 22) rfl))) (Or.inl (hw _ (List.mem_of_getElem? (i := 24) rfl))) (by decide) (t := .long) (t' := .long) (by decide) (by decide)))
  have Z190 : n0 ≤ h184.size := Nat.le_trans Z181 (Keep.of_wr W184).1
  have K191 := K182.wr W184 (Or.inl (List.mem_of_getElem? (i := 0) rfl))
  refine Go.movp st184 (mkF m 20 #[.val (.ref a), .val (.long g), .second, .unset, .unset] []) rfl ?_
  refine g_lloadN X184 hx (hb hby d19_20) (pc' := 21) rfl rfl ?_
  refine g_lstoreN X184 hx (hb hby d19_21) (pc' := 22) rfl (Ls' := #[.val (.ref a), .val (.long g), .second, .val (.long g), .second]) rfl ?_
  have LOOP : ∀ (M : Nat) (rest : Int64) (ys : List Int64) (Tq192 : State) (hq192 : Heap) (Lq192 : List Loc) (Xq192 : Stand p l e ({ frames := 2, cells := 0, slots := 0, locals := 29 } : Room) s m #[(.ref a), (.long g)] below meth c Tq192 Lq192 0 0) (eq192 : Tq192.heap = hq192) (Nq192 : Fr n0 Lq192) (Vq192 : Va Z hq192 sb .long (ys.map Value.long)) (Fcq192 : Fld Z hq192 a "com/example/stratasig/stratasig/index/GapCoding$Counts" "count" "J" (.long c1)) (Fsq192 : Fld Z hq192 a "com/example/stratasig/stratasig/index/GapCoding$Counts" "sum" "J" (.long s1)) (Fbq192 : Fld Z hq192 a "com/example/stratasig/stratasig/index/GapCoding$Counts" "setBits" "[J" (.ref sb)) (Eaq192 : Exa Z hq192 a "com/example/stratasig/stratasig/index/GapCoding$Counts") (Kq192 : Keep h0 hq192 [a, sb]) (zzq192 : n0 ≤ hq192.size), rest.toBitVec.toNat = M → Pos rest → ys.length = 63 → addB rest ys = addB g xs → Go p e below (EndF s ({ frames := 2, cells := 0, slots := 0, locals := 29 } : Room).cells ({ frames := 2, cells := 0, slots := 0, locals := 29 } : Room).slots) n0 (Q19 Z a sb c0 c1 s0 s1 xs g h0 n0) Tq192 (mkF m 22 #[.val (.ref a), .val (.long g), .second, .val (.long rest), .second] []) := by
    intro M
    induction M using Nat.strongRecOn with
    | ind M ih =>
      intro rest ys Tq192 hq192 Lq192 Xq192 eq192 Nq192 Vq192 Fcq192 Fsq192 Fbq192 Eaq192 Kq192 zzq192 hM hp hy hq
      refine g_lloadN Xq192 hx (hb hby d19_22) (pc' := 23) rfl rfl ?_
      refine g_lconst Xq192 hx (hb hby d19_23) (pc' := 24) rfl (z := (0 : Int64)) rfl ?_
      refine g_lcmp_eq Xq192 hx (hb hby d19_24) (pc' := 25) rfl (hb hby d19_25) (pc1 := 28) rfl (by decide) (pc2 := 50) (by decide) (fun hc24 => ?_) (fun hc24 => ?_)
      · skip
        exact g_return Xq192 hx hret (hb hby d19_50) Nq192 hlk (fun v t => endF (by decide) (by decide) v) (by rw [eq192]; exact ⟨rfl, Kq192, Eaq192, Fcq192, Fsq192, Fbq192, Va.eq Vq192 (by rw [← hq, hc24, addB_zero])⟩)
      · skip
        refine g_aloadN Xq192 hx (hb hby d19_28) (pc' := 29) rfl rfl rfl ?_
        obtain ⟨T193, X193, e193, st193⟩ := getF Xq192 hx hZ hown (host := "") (Or.inl (hw _ (List.mem_of_getElem? (i := 11) rfl))) Via.refl eq192 Fbq192 (g := (mkF m 29 #[.val (.ref a), .val (.long g), .second, .val (.long rest), .second] [(.ref a)])) rfl rfl (hb hby d19_29)
        refine Go.movp st193 (mkF m 32 #[.val (.ref a), .val (.long g), .second, .val (.long rest), .second] [(.ref sb)]) rfl ?_
        refine g_lloadN X193 hx (hb hby d19_32) (pc' := 33) rfl rfl ?_
        obtain ⟨v194, T194, h194, L194, X194, e194, N194, q194, st194⟩ := h_static X193 hx (W := 1) (Ls := #[.val (.ref a), .val (.long g), .second, .val (.long rest), .second]) (argsL := [(.long rest)]) (rest := [(.ref sb)]) hZ e193 Nq192 hml hown (rm20 l Z a0 hw rest hq192 n0 zzq192) (hw _ (List.mem_of_getElem? (i := 111) rfl)) (hw _ (List.mem_of_getElem? (i := 112) rfl)) (hw _ (List.mem_of_getElem? (i := 35) rfl)) (hw _ (List.mem_of_getElem? (i := 113) rfl)) (by decide) pd__J_I rfl rfl (hb hby d19_33) rfl (by decide) (by decide) (by decide) (by decide)
        obtain ⟨rfl, rfl⟩ := q194
        refine Go.movp st194 (mkF m 36 #[.val (.ref a), .val (.long g), .second, .val (.long rest), .second] [(.int (ntzJ rest)), (.ref sb)]) rfl ?_
        obtain ⟨k, hk, ek, hb1, hb0⟩ := own_ntzJ rest hc24
        have hk3 := pos_bit hp hk hb1
        refine Go.cast (show (mkF m 36 #[.val (.ref a), .val (.long g), .second, .val (.long rest), .second] [(.int (ntzJ rest)), (.ref sb)]) = (mkF m 36 #[.val (.ref a), .val (.long g), .second, .val (.long rest), .second] [(.int k.toInt32), (.ref sb)]) from by rw [show (ntzJ rest) = k.toInt32 from ek]) ?_
        refine g_dup2 X194 hx (hb hby d19_36) (pc' := 37) rfl rfl rfl ?_
        refine g_laload X194 hx hZ e194 Vq192 (i := k) (v := (.long (ys.getD k 0))) (hb hby d19_37) (pc' := 38) rfl (t32_nn (by omega)) (t32_nat (by omega)) (getD_long (by omega)) ?_
        refine g_lconst X194 hx (hb hby d19_38) (pc' := 39) rfl (z := (1 : Int64)) rfl ?_
        refine g_ladd X194 hx (hb hby d19_39) (pc' := 40) rfl ?_
        obtain ⟨T195, h195, L195, X195, e195, N195, W195, V195, st195⟩ := h_lastore X194 hx hZ e194 N194 Vq192 G2 (j := k.toInt32) (i := k) (x := ((ys.getD k 0) + (1 : Int64))) (hb hby d19_40) (t32_nn (by omega)) (t32_nat (by omega)) (getD_long (by omega)) #[.val (.ref a), .val (.long g), .second, .val (.long rest), .second] []
        have f196 := Fld.other W195 Fbq192 (Or.inl ne1)
        have f197 := Exa.wr W195 Eaq192
        have f198 := Fld.other W195 Fcq192 (Or.inl ne1)
        have f199 := Fld.other W195 Fsq192 (Or.inl ne1)
        have Z200 : n0 ≤ h195.size := Nat.le_trans zzq192 (Keep.of_wr W195).1
        have K201 := Kq192.wr W195 (Or.inl (List.mem_of_getElem? (i := 1) rfl))
        refine Go.movp st195 (mkF m 41 #[.val (.ref a), .val (.long g), .second, .val (.long rest), .second] []) rfl ?_
        have f202 : Va Z h195 sb .long ((ys.set k ((ys.getD k 0) + (1 : Int64))).map Value.long) := Va.eq V195 (by rw [List.map_set])
        refine g_lloadN X195 hx (hb hby d19_41) (pc' := 42) rfl rfl ?_
        refine g_lloadN X195 hx (hb hby d19_42) (pc' := 43) rfl rfl ?_
        refine g_lconst X195 hx (hb hby d19_43) (pc' := 44) rfl (z := (1 : Int64)) rfl ?_
        refine g_lsub X195 hx (hb hby d19_44) (pc' := 45) rfl ?_
        refine g_land X195 hx (hb hby d19_45) (pc' := 46) rfl ?_
        refine g_lstoreN X195 hx (hb hby d19_46) (pc' := 47) rfl (Ls' := #[.val (.ref a), .val (.long g), .second, .val (.long (rest &&& (rest - (1 : Int64)))), .second]) rfl ?_
        refine g_goto X195 hx (hb hby d19_47) (by decide) (pc' := 22) (by decide) ?_
        exact ih _ (by rw [← hM]; exact less hk hb1 hb0) (rest &&& (rest - (1 : Int64))) (ys.set k ((ys.getD k 0) + (1 : Int64))) T195 h195 _ X195 e195 N195 f202 f198 f199 f196 f197 K201 Z200 rfl (pos_clear hp) (by rw [List.length_set]; exact hy) ((addB_step hk (by omega) hb1 hb0 (get_at (by omega))).trans hq)
  exact LOOP _ g xs T184 h184 _ X184 e184 N184 f187 f189 f185 f186 f188 K191 Z190 rfl hg hl rfl
theorem d8_0 : decode prog_129_method_7_code 0 = .ok (.lconst 0, 1) := by decide +kernel
theorem d8_1 : decode prog_129_method_7_code 1 = .ok (.lstore_n 2, 1) := by decide +kernel
theorem d8_2 : decode prog_129_method_7_code 2 = .ok (.iload_n 1, 1) := by decide +kernel
theorem d8_3 : decode prog_129_method_7_code 3 = .ok (.istore 4, 2) := by decide +kernel
theorem d8_5 : decode prog_129_method_7_code 5 = .ok (.iload 4, 2) := by decide +kernel
theorem d8_7 : decode prog_129_method_7_code 7 = .ok (.aload_n 0, 1) := by decide +kernel
theorem d8_8 : decode prog_129_method_7_code 8 = .ok (.getfield 9, 3) := by decide +kernel
theorem d8_11 : decode prog_129_method_7_code 11 = .ok (.arraylength, 1) := by decide +kernel
theorem d8_12 : decode prog_129_method_7_code 12 = .ok (.if_icmp .ge 24, 3) := by decide +kernel
theorem d8_15 : decode prog_129_method_7_code 15 = .ok (.lload_n 2, 1) := by decide +kernel
theorem d8_16 : decode prog_129_method_7_code 16 = .ok (.aload_n 0, 1) := by decide +kernel
theorem d8_17 : decode prog_129_method_7_code 17 = .ok (.getfield 9, 3) := by decide +kernel
theorem d8_20 : decode prog_129_method_7_code 20 = .ok (.iload 4, 2) := by decide +kernel
theorem d8_22 : decode prog_129_method_7_code 22 = .ok (.laload, 1) := by decide +kernel
theorem d8_23 : decode prog_129_method_7_code 23 = .ok (.iload 4, 2) := by decide +kernel
theorem d8_25 : decode prog_129_method_7_code 25 = .ok (.iload_n 1, 1) := by decide +kernel
theorem d8_26 : decode prog_129_method_7_code 26 = .ok (.isub, 1) := by decide +kernel
theorem d8_27 : decode prog_129_method_7_code 27 = .ok (.lshl, 1) := by decide +kernel
theorem d8_28 : decode prog_129_method_7_code 28 = .ok (.ladd, 1) := by decide +kernel
theorem d8_29 : decode prog_129_method_7_code 29 = .ok (.lstore_n 2, 1) := by decide +kernel
theorem d8_30 : decode prog_129_method_7_code 30 = .ok (.iinc 4 1, 3) := by decide +kernel
theorem d8_33 : decode prog_129_method_7_code 33 = .ok (.goto (-28), 3) := by decide +kernel
theorem d8_36 : decode prog_129_method_7_code 36 = .ok (.lload_n 2, 1) := by decide +kernel
theorem d8_37 : decode prog_129_method_7_code 37 = .ok (.lreturn, 1) := by decide +kernel
theorem ef_8 (x0 : Addr) (x1 : Int32) (m : MethodId) : entryFrame m #[(.ref x0), (.int x1)] 5 = mkF m 0 #[.val (.ref x0), .val (.int x1), .unset, .unset, .unset] [] := by first | (simp [entryFrame, mkF, argsToLocals, Value.category]; done) | rfl
def Q8 (Z : State) (a : Addr) (sb : Addr) (xs : List Int64) (r : Nat) (h0 : Heap) (n0 : Nat) : Option Value → Heap → Prop := fun v h => v = some (.long (qsum xs r r (63 - r))) ∧ h0 = h
set_option maxRecDepth 65536 in
set_option maxHeartbeats 40000000 in
theorem rm8 (l : Launch) (Z : State) (a0 : Array Value) (hw : ∀ d ∈ tables_1, d.before a0 Z = true) (a : Addr) (sb : Addr) (xs : List Int64) (r : Nat) (h0 : Heap) (n0 : Nat) (Z0 : n0 ≤ h0.size) (F3 : Fld Z h0 a "com/example/stratasig/stratasig/index/GapCoding$Counts" "setBits" "[J" (.ref sb)) (V1 : Va Z h0 sb .long (xs.map Value.long)) (hl : xs.length = 63) (hr : r ≤ 63) : Ctr l Z (⟨"com/example/stratasig/stratasig/index/GapCoding$Counts", "quotients", "(I)J"⟩ : MethodName) prog_129_method_7_code 5 (some .long) ({ frames := 0, cells := 0, slots := 0, locals := 0 } : Room) #[(.ref a), (.int r.toInt32)] h0 n0 (Q8 Z a sb xs r h0 n0) := by
  refine Ctr.of (plainFor_of_name pn_1) (ef_8 a r.toInt32) ?_
  intro p e s m below meth c T0 hx hby hml hown hnm hret hlk hZ X0 e0
  have N0 := Fr.nil n0
  refine g_lconst X0 hx (hb hby d8_0) (pc' := 1) rfl (z := (0 : Int64)) rfl ?_
  refine g_lstoreN X0 hx (hb hby d8_1) (pc' := 2) rfl (Ls' := #[.val (.ref a), .val (.int r.toInt32), .val (.long (0 : Int64)), .second, .unset]) rfl ?_
  refine g_iloadN X0 hx (hb hby d8_2) (pc' := 3) rfl rfl ?_
  refine g_istore X0 hx (hb hby d8_3) (pc' := 5) rfl (Ls' := #[.val (.ref a), .val (.int r.toInt32), .val (.long (0 : Int64)), .second, .val (.int r.toInt32)]) rfl ?_
  have LOOP : ∀ (f k : Nat) (acc : Int64) (Tq203 : State) (Lq203 : List Loc) (Xq203 : Stand p l e ({ frames := 0, cells := 0, slots := 0, locals := 0 } : Room) s m #[(.ref a), (.int r.toInt32)] below meth c Tq203 Lq203 0 0) (eq203 : Tq203.heap = h0) (Nq203 : Fr n0 Lq203), k + f = 63 → acc + qsum xs r k f = qsum xs r r (63 - r) → Go p e below (EndF s ({ frames := 0, cells := 0, slots := 0, locals := 0 } : Room).cells ({ frames := 0, cells := 0, slots := 0, locals := 0 } : Room).slots) n0 (Q8 Z a sb xs r h0 n0) Tq203 (mkF m 5 #[.val (.ref a), .val (.int r.toInt32), .val (.long acc), .second, .val (.int k.toInt32)] []) := by
    intro f
    induction f with
    | zero =>
      intro k acc Tq203 Lq203 Xq203 eq203 Nq203 hk hq
      refine g_iload Xq203 hx (hb hby d8_5) (pc' := 7) rfl rfl ?_
      refine g_aloadN Xq203 hx (hb hby d8_7) (pc' := 8) rfl rfl rfl ?_
      obtain ⟨T204, X204, e204, st204⟩ := getF Xq203 hx hZ hown (host := "") (Or.inl (hw _ (List.mem_of_getElem? (i := 11) rfl))) Via.refl eq203 F3 (g := (mkF m 8 #[.val (.ref a), .val (.int r.toInt32), .val (.long acc), .second, .val (.int k.toInt32)] [(.ref a), (.int k.toInt32)])) rfl rfl (hb hby d8_8)
      refine Go.movp st204 (mkF m 11 #[.val (.ref a), .val (.int r.toInt32), .val (.long acc), .second, .val (.int k.toInt32)] [(.ref sb), (.int k.toInt32)]) rfl ?_
      refine g_arraylength X204 hx hZ e204 V1 (z := (63 : Int32)) (hb hby d8_11) (pc' := 12) rfl (by rw [List.length_map, hl]; rfl) ?_
      refine g_icmp_ge X204 hx (hb hby d8_12) (pc1 := 15) rfl (by decide) (pc2 := 36) (by decide) (fun hc12 => ?_) (fun hc12 => absurd hc12 (by rw [show k = 63 by omega]; decide))
      refine g_lloadN X204 hx (hb hby d8_36) (pc' := 37) rfl rfl ?_
      exact g_lreturn X204 hx hret (hb hby d8_37) Nq203 hlk (fun v t => endF (by decide) (by decide) v) (by rw [e204]; exact ⟨by rw [← hq, show qsum xs r k 0 = 0 from rfl, Int64.add_zero], rfl⟩)
    | succ f ih =>
      intro k acc Tq203 Lq203 Xq203 eq203 Nq203 hk hq
      refine g_iload Xq203 hx (hb hby d8_5) (pc' := 7) rfl rfl ?_
      refine g_aloadN Xq203 hx (hb hby d8_7) (pc' := 8) rfl rfl rfl ?_
      obtain ⟨T205, X205, e205, st205⟩ := getF Xq203 hx hZ hown (host := "") (Or.inl (hw _ (List.mem_of_getElem? (i := 11) rfl))) Via.refl eq203 F3 (g := (mkF m 8 #[.val (.ref a), .val (.int r.toInt32), .val (.long acc), .second, .val (.int k.toInt32)] [(.ref a), (.int k.toInt32)])) rfl rfl (hb hby d8_8)
      refine Go.movp st205 (mkF m 11 #[.val (.ref a), .val (.int r.toInt32), .val (.long acc), .second, .val (.int k.toInt32)] [(.ref sb), (.int k.toInt32)]) rfl ?_
      refine g_arraylength X205 hx hZ e205 V1 (z := (63 : Int32)) (hb hby d8_11) (pc' := 12) rfl (by rw [List.length_map, hl]; rfl) ?_
      refine g_icmp_ge X205 hx (hb hby d8_12) (pc1 := 15) rfl (by decide) (pc2 := 36) (by decide) (fun hc12 => absurd (t32_lt (by omega)) hc12) (fun hc12 => ?_)
      refine g_lloadN X205 hx (hb hby d8_15) (pc' := 16) rfl rfl ?_
      refine g_aloadN X205 hx (hb hby d8_16) (pc' := 17) rfl rfl rfl ?_
      obtain ⟨T206, X206, e206, st206⟩ := getF X205 hx hZ hown (host := "") (Or.inl (hw _ (List.mem_of_getElem? (i := 11) rfl))) Via.refl e205 F3 (g := (mkF m 17 #[.val (.ref a), .val (.int r.toInt32), .val (.long acc), .second, .val (.int k.toInt32)] [(.ref a), (.long acc)])) rfl rfl (hb hby d8_17)
      refine Go.movp st206 (mkF m 20 #[.val (.ref a), .val (.int r.toInt32), .val (.long acc), .second, .val (.int k.toInt32)] [(.ref sb), (.long acc)]) rfl ?_
      refine g_iload X206 hx (hb hby d8_20) (pc' := 22) rfl rfl ?_
      refine g_laload X206 hx hZ e206 V1 (i := k) (v := (.long (xs.getD k 0))) (hb hby d8_22) (pc' := 23) rfl (t32_nn (by omega)) (t32_nat (by omega)) (getD_long (by omega)) ?_
      refine g_iload X206 hx (hb hby d8_23) (pc' := 25) rfl rfl ?_
      refine g_iloadN X206 hx (hb hby d8_25) (pc' := 26) rfl rfl ?_
      refine g_isub X206 hx (hb hby d8_26) (pc' := 27) rfl ?_
      refine g_lshl X206 hx (hb hby d8_27) (pc' := 28) rfl ?_
      refine g_ladd X206 hx (hb hby d8_28) (pc' := 29) rfl ?_
      refine g_lstoreN X206 hx (hb hby d8_29) (pc' := 30) rfl (Ls' := #[.val (.ref a), .val (.int r.toInt32), .val (.long (acc + (lshl (xs.getD k 0) (k.toInt32 - r.toInt32)))), .second, .val (.int k.toInt32)]) rfl ?_
      refine g_iinc X206 hx (hb hby d8_30) (pc' := 33) rfl rfl (z := (1 : Int32)) rfl (Ls' := #[.val (.ref a), .val (.int r.toInt32), .val (.long (acc + (lshl (xs.getD k 0) (k.toInt32 - r.toInt32)))), .second, .val (.int (k.toInt32 + (1 : Int32)))]) rfl ?_
      refine g_goto X206 hx (hb hby d8_33) (by decide) (pc' := 5) (by decide) ?_
      refine Go.cast (show (mkF m 5 #[.val (.ref a), .val (.int r.toInt32), .val (.long (acc + (lshl (xs.getD k 0) (k.toInt32 - r.toInt32)))), .second, .val (.int (k.toInt32 + (1 : Int32)))] []) = (mkF m 5 #[.val (.ref a), .val (.int r.toInt32), .val (.long (acc + (lshl (xs.getD k 0) (k.toInt32 - r.toInt32)))), .second, .val (.int (k + 1).toInt32)] []) from by rw [show (k.toInt32 + (1 : Int32)) = (k + 1).toInt32 from (t32_succ (by omega))]) ?_
      exact ih (k + 1) (acc + (lshl (xs.getD k 0) (k.toInt32 - r.toInt32))) T206 _ X206 e206 Nq203 (by omega) (by rw [Int64.add_assoc]; exact hq)
  exact LOOP (63 - r) r (0 : Int64) T0 _ X0 e0 N0 (by omega) (Int64.zero_add _)
theorem pd__JJ_V : parseMethodDescriptor "(JJ)V" = some ⟨[.long, .long], none⟩ := by decide +kernel
theorem pd__I_J : parseMethodDescriptor "(I)J" = some ⟨[.int], some .long⟩ := by decide +kernel
theorem d3_0 : decode prog_129_method_6_code 0 = .ok (.new 28, 3) := by decide +kernel
theorem d3_3 : decode prog_129_method_6_code 3 = .ok (.dup, 1) := by decide +kernel
theorem d3_4 : decode prog_129_method_6_code 4 = .ok (.aload_n 0, 1) := by decide +kernel
theorem d3_5 : decode prog_129_method_6_code 5 = .ok (.getfield 15, 3) := by decide +kernel
theorem d3_8 : decode prog_129_method_6_code 8 = .ok (.aload_n 0, 1) := by decide +kernel
theorem d3_9 : decode prog_129_method_6_code 9 = .ok (.getfield 19, 3) := by decide +kernel
theorem d3_12 : decode prog_129_method_6_code 12 = .ok (.invokespecial 30, 3) := by decide +kernel
theorem d3_15 : decode prog_129_method_6_code 15 = .ok (.astore_n 1, 1) := by decide +kernel
theorem d3_16 : decode prog_129_method_6_code 16 = .ok (.aload_n 1, 1) := by decide +kernel
theorem d3_17 : decode prog_129_method_6_code 17 = .ok (.aload_n 0, 1) := by decide +kernel
theorem d3_18 : decode prog_129_method_6_code 18 = .ok (.aload_n 1, 1) := by decide +kernel
theorem d3_19 : decode prog_129_method_6_code 19 = .ok (.getfield 33, 3) := by decide +kernel
theorem d3_22 : decode prog_129_method_6_code 22 = .ok (.invokevirtual 37, 3) := by decide +kernel
theorem d3_25 : decode prog_129_method_6_code 25 = .ok (.putfield 41, 3) := by decide +kernel
theorem d3_28 : decode prog_129_method_6_code 28 = .ok (.aload_n 1, 1) := by decide +kernel
theorem d3_29 : decode prog_129_method_6_code 29 = .ok (.aload_n 0, 1) := by decide +kernel
theorem d3_30 : decode prog_129_method_6_code 30 = .ok (.aload_n 1, 1) := by decide +kernel
theorem d3_31 : decode prog_129_method_6_code 31 = .ok (.getfield 33, 3) := by decide +kernel
theorem d3_34 : decode prog_129_method_6_code 34 = .ok (.iconst 1, 1) := by decide +kernel
theorem d3_35 : decode prog_129_method_6_code 35 = .ok (.iadd, 1) := by decide +kernel
theorem d3_36 : decode prog_129_method_6_code 36 = .ok (.invokevirtual 37, 3) := by decide +kernel
theorem d3_39 : decode prog_129_method_6_code 39 = .ok (.putfield 44, 3) := by decide +kernel
theorem d3_42 : decode prog_129_method_6_code 42 = .ok (.aload_n 1, 1) := by decide +kernel
theorem d3_43 : decode prog_129_method_6_code 43 = .ok (.aload_n 0, 1) := by decide +kernel
theorem d3_44 : decode prog_129_method_6_code 44 = .ok (.aload_n 1, 1) := by decide +kernel
theorem d3_45 : decode prog_129_method_6_code 45 = .ok (.getfield 33, 3) := by decide +kernel
theorem d3_48 : decode prog_129_method_6_code 48 = .ok (.iconst 2, 1) := by decide +kernel
theorem d3_49 : decode prog_129_method_6_code 49 = .ok (.iadd, 1) := by decide +kernel
theorem d3_50 : decode prog_129_method_6_code 50 = .ok (.invokevirtual 37, 3) := by decide +kernel
theorem d3_53 : decode prog_129_method_6_code 53 = .ok (.putfield 47, 3) := by decide +kernel
theorem d3_56 : decode prog_129_method_6_code 56 = .ok (.aload_n 1, 1) := by decide +kernel
theorem d3_57 : decode prog_129_method_6_code 57 = .ok (.areturn, 1) := by decide +kernel
theorem ef_3 (x0 : Addr) (m : MethodId) : entryFrame m #[(.ref x0)] 2 = mkF m 0 #[.val (.ref x0), .unset] [] := by first | (simp [entryFrame, mkF, argsToLocals, Value.category]; done) | rfl
def Q3 (Z : State) (a : Addr) (sb : Addr) (c0 : Int64) (s0 : Int64) (xs : List Int64) (r : Nat) (h0 : Heap) (n0 : Nat) : Option Value → Heap → Prop := fun v h => ∃ t, v = some (.ref t) ∧ n0 ≤ t ∧ Keep h0 h [] ∧ Exa Z h t "com/example/stratasig/stratasig/index/GapCoding$Tally" ∧ Fld Z h t "com/example/stratasig/stratasig/index/GapCoding$Tally" "count" "J" (.long c0) ∧ Fld Z h t "com/example/stratasig/stratasig/index/GapCoding$Tally" "lowest" "I" (.int r.toInt32) ∧ Fld Z h t "com/example/stratasig/stratasig/index/GapCoding$Tally" "atLowest" "J" (.long (qsum xs r r (63 - r))) ∧ Fld Z h t "com/example/stratasig/stratasig/index/GapCoding$Tally" "oneAbove" "J" (.long (qsum xs (r + 1) (r + 1) (63 - (r + 1)))) ∧ Fld Z h t "com/example/stratasig/stratasig/index/GapCoding$Tally" "twoAbove" "J" (.long (qsum xs (r + 2) (r + 2) (63 - (r + 2))))
set_option maxRecDepth 65536 in
set_option maxHeartbeats 40000000 in
theorem rm3 (l : Launch) (Z : State) (a0 : Array Value) (hw : ∀ d ∈ tables_1, d.before a0 Z = true) (a : Addr) (sb : Addr) (c0 : Int64) (s0 : Int64) (xs : List Int64) (r : Nat) (h0 : Heap) (n0 : Nat) (Z0 : n0 ≤ h0.size) (F1 : Fld Z h0 a "com/example/stratasig/stratasig/index/GapCoding$Counts" "count" "J" (.long c0)) (F2 : Fld Z h0 a "com/example/stratasig/stratasig/index/GapCoding$Counts" "sum" "J" (.long s0)) (F3 : Fld Z h0 a "com/example/stratasig/stratasig/index/GapCoding$Counts" "setBits" "[J" (.ref sb)) (V1 : Va Z h0 sb .long (xs.map Value.long)) (E1 : Exa Z h0 a "com/example/stratasig/stratasig/index/GapCoding$Counts") (hl : xs.length = 63) (hr : r ≤ 61) (hlo : lowV c0 s0 = r.toInt32) : Ctr l Z (⟨"com/example/stratasig/stratasig/index/GapCoding$Counts", "tally", "()Lcom/example/stratasig/stratasig/index/GapCoding$Tally;"⟩ : MethodName) prog_129_method_6_code 2 (some (.object "com/example/stratasig/stratasig/index/GapCoding$Tally")) ({ frames := 3, cells := 1, slots := 6, locals := 50 } : Room) #[(.ref a)] h0 n0 (Q3 Z a sb c0 s0 xs r h0 n0) := by
  refine Ctr.of (plainFor_of_name pn_1) (ef_3 a) ?_
  intro p e s m below meth c T0 hx hby hml hown hnm hret hlk hZ X0 e0
  have N0 := Fr.nil n0
  obtain ⟨T207, h207, X207, e207, E207, A207, D207, -, st207⟩ := newO X0 hx hZ hown (hw _ (List.mem_of_getElem? (i := 18) rfl)) (hw _ (List.mem_of_getElem? (i := 19) rfl)) (hw _ (List.mem_of_getElem? (i := 20) rfl)) e0 (g := (mkF m 0 #[.val (.ref a), .unset] [])) rfl (hb hby d3_0) (by decide) (by decide)
  obtain ⟨b207, g207⟩ : ∃ z, z = h0.size := ⟨_, rfl⟩
  rw [← g207] at A207 D207 st207
  have ne208 : a ≠ b207 := Nat.ne_of_lt (g207 ▸ F1.lt)
  have ne209 : sb ≠ b207 := Nat.ne_of_lt (g207 ▸ V1.lt)
  have ge210 : n0 ≤ b207 := g207 ▸ Z0
  have sz211 : h0.size ≤ b207 := g207 ▸ (Keep.refl h0 []).1
  have f212 := Fld.ext E207 F1
  have f213 := Fld.ext E207 F2
  have f214 := Fld.ext E207 F3
  have f215 := V1.ext E207
  have f216 := Exa.ext E207 E1
  have Z217 : n0 ≤ h207.size := Nat.le_trans Z0 E207.1
  have K218 := (Keep.refl h0 []).ext E207
  have f219 : Fld Z h207 b207 "com/example/stratasig/stratasig/index/GapCoding$Tally" "count" "J" (.long (0 : Int64)) := D207 (Or.inr (hw _ (List.mem_of_getElem? (i := 30) rfl))) (ty := .long) (by decide)
  have f220 : Fld Z h207 b207 "com/example/stratasig/stratasig/index/GapCoding$Tally" "sum" "J" (.long (0 : Int64)) := D207 (Or.inr (hw _ (List.mem_of_getElem? (i := 32) rfl))) (ty := .long) (by decide)
  have f221 : Fld Z h207 b207 "com/example/stratasig/stratasig/index/GapCoding$Tally" "lowest" "I" (.int (0 : Int32)) := D207 (Or.inr (hw _ (List.mem_of_getElem? (i := 46) rfl))) (ty := .int) (by decide)
  have f222 : Fld Z h207 b207 "com/example/stratasig/stratasig/index/GapCoding$Tally" "atLowest" "J" (.long (0 : Int64)) := D207 (Or.inl (hw _ (List.mem_of_getElem? (i := 53) rfl))) (ty := .long) (by decide)
  have f223 : Fld Z h207 b207 "com/example/stratasig/stratasig/index/GapCoding$Tally" "oneAbove" "J" (.long (0 : Int64)) := D207 (Or.inl (hw _ (List.mem_of_getElem? (i := 55) rfl))) (ty := .long) (by decide)
  have f224 : Fld Z h207 b207 "com/example/stratasig/stratasig/index/GapCoding$Tally" "twoAbove" "J" (.long (0 : Int64)) := D207 (Or.inl (hw _ (List.mem_of_getElem? (i := 57) rfl))) (ty := .long) (by decide)
  refine Go.movp st207 (mkF m 3 #[.val (.ref a), .unset] [(.ref b207)]) rfl ?_
  refine g_dup X207 hx (hb hby d3_3) (pc' := 4) rfl rfl ?_
  refine g_aloadN X207 hx (hb hby d3_4) (pc' := 5) rfl rfl rfl ?_
  obtain ⟨T225, X225, e225, st225⟩ := getF X207 hx hZ hown (host := "") (Or.inl (hw _ (List.mem_of_getElem? (i := 21) rfl))) Via.refl e207 f212 (g := (mkF m 5 #[.val (.ref a), .unset] [(.ref a), (.ref b207), (.ref b207)])) rfl rfl (hb hby d3_5)
  refine Go.movp st225 (mkF m 8 #[.val (.ref a), .unset] [(.long c0), (.ref b207), (.ref b207)]) rfl ?_
  refine g_aloadN X225 hx (hb hby d3_8) (pc' := 9) rfl rfl rfl ?_
  obtain ⟨T226, X226, e226, st226⟩ := getF X225 hx hZ hown (host := "") (Or.inl (hw _ (List.mem_of_getElem? (i := 23) rfl))) Via.refl e225 f213 (g := (mkF m 9 #[.val (.ref a), .unset] [(.ref a), (.long c0), (.ref b207), (.ref b207)])) rfl rfl (hb hby d3_9)
  refine Go.movp st226 (mkF m 12 #[.val (.ref a), .unset] [(.long s0), (.long c0), (.ref b207), (.ref b207)]) rfl ?_
  obtain ⟨v227, T227, h227, L227, X227, e227, N227, q227, st227⟩ := h_special (a := b207) X226 hx (W := 1) (Ls := #[.val (.ref a), .unset]) (argsL := [(.long c0), (.long s0)]) (rest := [(.ref b207)]) hZ e226 N0 hml hown rfl (rm4 l Z a0 hw b207 c0 s0 h207 n0 Z217 f219 f220 f221 f222 f223 f224 A207 ge210) (hw _ (List.mem_of_getElem? (i := 25) rfl)) (hw _ (List.mem_of_getElem? (i := 26) rfl)) (hw _ (List.mem_of_getElem? (i := 20) rfl)) (hw _ (List.mem_of_getElem? (i := 27) rfl)) (by decide) pd__JJ_V rfl rfl (hb hby d3_12) rfl (by decide) (by decide) (by decide) (by decide)
  obtain ⟨rfl, K227, A227, C227, L227, P227, Q227, R227⟩ := q227
  have f228 := f212.keep K227 (ninS ne208 nin0)
  have f229 := f213.keep K227 (ninS ne208 nin0)
  have f230 := f214.keep K227 (ninS ne208 nin0)
  have f231 := f215.keep K227 (ninS ne209 nin0)
  have f232 := f216.keep K227
  have f233 := A207.keep K227
  have Z234 : n0 ≤ h227.size := Nat.le_trans Z217 K227.1
  have K235 := K218.trans K227 (allS (Or.inr sz211) all0)
  refine Go.movp st227 (mkF m 15 #[.val (.ref a), .unset] [(.ref b207)]) rfl ?_
  have f236 : Fld Z h227 b207 "com/example/stratasig/stratasig/index/GapCoding$Tally" "lowest" "I" (.int r.toInt32) := by have q := L227; rw [hlo] at q; exact q
  refine g_astoreN X227 hx (hb hby d3_15) (pc' := 16) rfl rfl (Ls' := #[.val (.ref a), .val (.ref b207)]) rfl ?_
  refine g_aloadN X227 hx (hb hby d3_16) (pc' := 17) rfl rfl rfl ?_
  refine g_aloadN X227 hx (hb hby d3_17) (pc' := 18) rfl rfl rfl ?_
  refine g_aloadN X227 hx (hb hby d3_18) (pc' := 19) rfl rfl rfl ?_
  obtain ⟨T237, X237, e237, st237⟩ := getF X227 hx hZ hown (Or.inr (hw _ (List.mem_of_getElem? (i := 47) rfl))) Via.refl e227 f236 (g := (mkF m 19 #[.val (.ref a), .val (.ref b207)] [(.ref b207), (.ref a), (.ref b207)])) rfl rfl (hb hby d3_19)
  refine Go.movp st237 (mkF m 22 #[.val (.ref a), .val (.ref b207)] [(.int r.toInt32), (.ref a), (.ref b207)]) rfl ?_
  obtain ⟨v238, T238, h238, L238, X238, e238, N238, q238, st238⟩ := h_private (a := a) X237 hx (W := 1) (Ls := #[.val (.ref a), .val (.ref b207)]) (argsL := [(.int r.toInt32)]) (rest := [(.ref b207)]) hZ e237 N227 hml hown (rm8 l Z a0 hw a sb xs r h227 n0 Z234 f230 f231 hl (by omega)) f232 (hw _ (List.mem_of_getElem? (i := 48) rfl)) (hw _ (List.mem_of_getElem? (i := 49) rfl)) (hw _ (List.mem_of_getElem? (i := 50) rfl)) (hw _ (List.mem_of_getElem? (i := 3) rfl)) (hw _ (List.mem_of_getElem? (i := 4) rfl)) (hw _ (List.mem_of_getElem? (i := 51) rfl)) (by decide) pd__I_J rfl rfl (hb hby d3_22) rfl (by decide) (by decide) (by decide) (by decide)
  obtain ⟨rfl, rfl⟩ := q238
  refine Go.movp st238 (mkF m 25 #[.val (.ref a), .val (.ref b207)] [(.long (qsum xs r r (63 - r))), (.ref b207)]) rfl ?_
  obtain ⟨T239, h239, X239, e239, W239, st239⟩ := putF X238 hx hZ hown (Or.inr (hw _ (List.mem_of_getElem? (i := 52) rfl))) Via.refl e238 P227 A227 (Or.inl (hw _ (List.mem_of_getElem? (i := 53) rfl))) (hw _ (List.mem_of_getElem? (i := 19) rfl)) (ty := .long) (by decide) rfl rfl (g := (mkF m 25 #[.val (.ref a), .val (.ref b207)] [(.long (qsum xs r r (63 - r))), (.ref b207)])) rfl rfl (hb hby d3_25)
  have f240 : Fld Z h239 b207 "com/example/stratasig/stratasig/index/GapCoding$Tally" "atLowest" "J" (.long (qsum xs r r (63 - r))) := Fld.same W239 P227
  have N239 := Fr.snoc X239 N238 ge210
  have f241 := Fld.other W239 f228 (Or.inl ne208)
  have f242 := Fld.other W239 f229 (Or.inl ne208)
  have f243 := Fld.other W239 f230 (Or.inl ne208)
  have f244 := f231.other W239 ne209
  have f245 := Exa.wr W239 f232
  have f246 := Exa.wr W239 A227
  have f247 := Fld.other W239 C227 (Or.inr (slot_ne (Or.inr (hw _ (List.mem_of_getElem? (i := 30) rfl))) (Or.inl (hw _ (List.mem_of_getElem? (i := 53) rfl))) (by decide) (t := .long) (t' := .long) (by decide) (by decide)))
  have f248 := Fld.other W239 f236 (Or.inr (slot_ne (Or.inr (hw _ (List.mem_of_getElem? (i := 46) rfl))) (Or.inl (hw _ (List.mem_of_getElem? (i := 53) rfl))) (by decide) (t := .int) (t' := .long) (by decide) (by decide)))
  have f249 := Fld.other W239 Q227 (Or.inr (slot_ne (Or.inl (hw _ (List.mem_of_getElem? (i := 55) rfl))) (Or.inl (hw _ (List.mem_of_getElem? (i := 53) rfl))) (by decide) (t := .long) (t' := .long) (by decide) (by decide)))
  have f250 := Fld.other W239 R227 (Or.inr (slot_ne (Or.inl (hw _ (List.mem_of_getElem? (i := 57) rfl))) (Or.inl (hw _ (List.mem_of_getElem? (i := 53) rfl))) (by decide) (t := .long) (t' := .long) (by decide) (by decide)))
  have Z251 : n0 ≤ h239.size := Nat.le_trans Z234 (Keep.of_wr W239).1
  have K252 := K235.wr W239 (Or.inr sz211)
  refine Go.movp st239 (mkF m 28 #[.val (.ref a), .val (.ref b207)] []) rfl ?_
  refine g_aloadN X239 hx (hb hby d3_28) (pc' := 29) rfl rfl rfl ?_
  refine g_aloadN X239 hx (hb hby d3_29) (pc' := 30) rfl rfl rfl ?_
  refine g_aloadN X239 hx (hb hby d3_30) (pc' := 31) rfl rfl rfl ?_
  obtain ⟨T253, X253, e253, st253⟩ := getF X239 hx hZ hown (Or.inr (hw _ (List.mem_of_getElem? (i := 47) rfl))) Via.refl e239 f248 (g := (mkF m 31 #[.val (.ref a), .val (.ref b207)] [(.ref b207), (.ref a), (.ref b207)])) rfl rfl (hb hby d3_31)
  refine Go.movp st253 (mkF m 34 #[.val (.ref a), .val (.ref b207)] [(.int r.toInt32), (.ref a), (.ref b207)]) rfl ?_
  refine g_iconst X253 hx (hb hby d3_34) (pc' := 35) rfl (z := (1 : Int32)) rfl ?_
  refine g_iadd X253 hx (hb hby d3_35) (pc' := 36) rfl ?_
  refine Go.cast (show (mkF m 36 #[.val (.ref a), .val (.ref b207)] [(.int (r.toInt32 + (1 : Int32))), (.ref a), (.ref b207)]) = (mkF m 36 #[.val (.ref a), .val (.ref b207)] [(.int (r + 1).toInt32), (.ref a), (.ref b207)]) from by rw [show (r.toInt32 + (1 : Int32)) = (r + 1).toInt32 from (t32_succ (by omega))]) ?_
  obtain ⟨v254, T254, h254, L254, X254, e254, N254, q254, st254⟩ := h_private (a := a) X253 hx (W := 1) (Ls := #[.val (.ref a), .val (.ref b207)]) (argsL := [(.int (r + 1).toInt32)]) (rest := [(.ref b207)]) hZ e253 N239 hml hown (rm8 l Z a0 hw a sb xs (r + 1) h239 n0 Z251 f243 f244 hl (by omega)) f245 (hw _ (List.mem_of_getElem? (i := 48) rfl)) (hw _ (List.mem_of_getElem? (i := 49) rfl)) (hw _ (List.mem_of_getElem? (i := 50) rfl)) (hw _ (List.mem_of_getElem? (i := 3) rfl)) (hw _ (List.mem_of_getElem? (i := 4) rfl)) (hw _ (List.mem_of_getElem? (i := 51) rfl)) (by decide) pd__I_J rfl rfl (hb hby d3_36) rfl (by decide) (by decide) (by decide) (by decide)
  obtain ⟨rfl, rfl⟩ := q254
  refine Go.movp st254 (mkF m 39 #[.val (.ref a), .val (.ref b207)] [(.long (qsum xs (r + 1) (r + 1) (63 - (r + 1)))), (.ref b207)]) rfl ?_
  obtain ⟨T255, h255, X255, e255, W255, st255⟩ := putF X254 hx hZ hown (Or.inr (hw _ (List.mem_of_getElem? (i := 54) rfl))) Via.refl e254 f249 f246 (Or.inl (hw _ (List.mem_of_getElem? (i := 55) rfl))) (hw _ (List.mem_of_getElem? (i := 19) rfl)) (ty := .long) (by decide) rfl rfl (g := (mkF m 39 #[.val (.ref a), .val (.ref b207)] [(.long (qsum xs (r + 1) (r + 1) (63 - (r + 1)))), (.ref b207)])) rfl rfl (hb hby d3_39)
  have f256 : Fld Z h255 b207 "com/example/stratasig/stratasig/index/GapCoding$Tally" "oneAbove" "J" (.long (qsum xs (r + 1) (r + 1) (63 - (r + 1)))) := Fld.same W255 f249
  have N255 := Fr.snoc X255 N254 ge210
  have f257 := Fld.other W255 f241 (Or.inl ne208)
  have f258 := Fld.other W255 f242 (Or.inl ne208)
  have f259 := Fld.other W255 f243 (Or.inl ne208)
  have f260 := f244.other W255 ne209
  have f261 := Exa.wr W255 f245
  have f262 := Exa.wr W255 f246
  have f263 := Fld.other W255 f247 (Or.inr (slot_ne (Or.inr (hw _ (List.mem_of_getElem? (i := 30) rfl))) (Or.inl (hw _ (List.mem_of_getElem? (i := 55) rfl))) (by decide) (t := .long) (t' := .long) (by decide) (by decide)))
  have f264 := Fld.other W255 f248 (Or.inr (slot_ne (Or.inr (hw _ (List.mem_of_getElem? (i := 46) rfl))) (Or.inl (hw _ (List.mem_of_getElem? (i := 55) rfl))) (by decide) (t := .int) (t' := .long) (by decide) (by decide)))
  have f265 := Fld.other W255 f250 (Or.inr (slot_ne (Or.inl (hw _ (List.mem_of_getElem? (i := 57) rfl))) (Or.inl (hw _ (List.mem_of_getElem? (i := 55) rfl))) (by decide) (t := .long) (t' := .long) (by decide) (by decide)))
  have f266 := Fld.other W255 f240 (Or.inr (slot_ne (Or.inl (hw _ (List.mem_of_getElem? (i := 53) rfl))) (Or.inl (hw _ (List.mem_of_getElem? (i := 55) rfl))) (by decide) (t := .long) (t' := .long) (by decide) (by decide)))
  have Z267 : n0 ≤ h255.size := Nat.le_trans Z251 (Keep.of_wr W255).1
  have K268 := K252.wr W255 (Or.inr sz211)
  refine Go.movp st255 (mkF m 42 #[.val (.ref a), .val (.ref b207)] []) rfl ?_
  refine g_aloadN X255 hx (hb hby d3_42) (pc' := 43) rfl rfl rfl ?_
  refine g_aloadN X255 hx (hb hby d3_43) (pc' := 44) rfl rfl rfl ?_
  refine g_aloadN X255 hx (hb hby d3_44) (pc' := 45) rfl rfl rfl ?_
  obtain ⟨T269, X269, e269, st269⟩ := getF X255 hx hZ hown (Or.inr (hw _ (List.mem_of_getElem? (i := 47) rfl))) Via.refl e255 f264 (g := (mkF m 45 #[.val (.ref a), .val (.ref b207)] [(.ref b207), (.ref a), (.ref b207)])) rfl rfl (hb hby d3_45)
  refine Go.movp st269 (mkF m 48 #[.val (.ref a), .val (.ref b207)] [(.int r.toInt32), (.ref a), (.ref b207)]) rfl ?_
  refine g_iconst X269 hx (hb hby d3_48) (pc' := 49) rfl (z := (2 : Int32)) rfl ?_
  refine g_iadd X269 hx (hb hby d3_49) (pc' := 50) rfl ?_
  refine Go.cast (show (mkF m 50 #[.val (.ref a), .val (.ref b207)] [(.int (r.toInt32 + (2 : Int32))), (.ref a), (.ref b207)]) = (mkF m 50 #[.val (.ref a), .val (.ref b207)] [(.int (r + 2).toInt32), (.ref a), (.ref b207)]) from by rw [show (r.toInt32 + (2 : Int32)) = (r + 2).toInt32 from (t32_two (by omega))]) ?_
  obtain ⟨v270, T270, h270, L270, X270, e270, N270, q270, st270⟩ := h_private (a := a) X269 hx (W := 1) (Ls := #[.val (.ref a), .val (.ref b207)]) (argsL := [(.int (r + 2).toInt32)]) (rest := [(.ref b207)]) hZ e269 N255 hml hown (rm8 l Z a0 hw a sb xs (r + 2) h255 n0 Z267 f259 f260 hl (by omega)) f261 (hw _ (List.mem_of_getElem? (i := 48) rfl)) (hw _ (List.mem_of_getElem? (i := 49) rfl)) (hw _ (List.mem_of_getElem? (i := 50) rfl)) (hw _ (List.mem_of_getElem? (i := 3) rfl)) (hw _ (List.mem_of_getElem? (i := 4) rfl)) (hw _ (List.mem_of_getElem? (i := 51) rfl)) (by decide) pd__I_J rfl rfl (hb hby d3_50) rfl (by decide) (by decide) (by decide) (by decide)
  obtain ⟨rfl, rfl⟩ := q270
  refine Go.movp st270 (mkF m 53 #[.val (.ref a), .val (.ref b207)] [(.long (qsum xs (r + 2) (r + 2) (63 - (r + 2)))), (.ref b207)]) rfl ?_
  obtain ⟨T271, h271, X271, e271, W271, st271⟩ := putF X270 hx hZ hown (Or.inr (hw _ (List.mem_of_getElem? (i := 56) rfl))) Via.refl e270 f265 f262 (Or.inl (hw _ (List.mem_of_getElem? (i := 57) rfl))) (hw _ (List.mem_of_getElem? (i := 19) rfl)) (ty := .long) (by decide) rfl rfl (g := (mkF m 53 #[.val (.ref a), .val (.ref b207)] [(.long (qsum xs (r + 2) (r + 2) (63 - (r + 2)))), (.ref b207)])) rfl rfl (hb hby d3_53)
  have f272 : Fld Z h271 b207 "com/example/stratasig/stratasig/index/GapCoding$Tally" "twoAbove" "J" (.long (qsum xs (r + 2) (r + 2) (63 - (r + 2)))) := Fld.same W271 f265
  have N271 := Fr.snoc X271 N270 ge210
  have f273 := Fld.other W271 f257 (Or.inl ne208)
  have f274 := Fld.other W271 f258 (Or.inl ne208)
  have f275 := Fld.other W271 f259 (Or.inl ne208)
  have f276 := f260.other W271 ne209
  have f277 := Exa.wr W271 f261
  have f278 := Exa.wr W271 f262
  have f279 := Fld.other W271 f263 (Or.inr (slot_ne (Or.inr (hw _ (List.mem_of_getElem? (i := 30) rfl))) (Or.inl (hw _ (List.mem_of_getElem? (i := 57) rfl))) (by decide) (t := .long) (t' := .long) (by decide) (by decide)))
  have f280 := Fld.other W271 f264 (Or.inr (slot_ne (Or.inr (hw _ (List.mem_of_getElem? (i := 46) rfl))) (Or.inl (hw _ (List.mem_of_getElem? (i := 57) rfl))) (by decide) (t := .int) (t' := .long) (by decide) (by decide)))
  have f281 := Fld.other W271 f266 (Or.inr (slot_ne (Or.inl (hw _ (List.mem_of_getElem? (i := 53) rfl))) (Or.inl (hw _ (List.mem_of_getElem? (i := 57) rfl))) (by decide) (t := .long) (t' := .long) (by decide) (by decide)))
  have f282 := Fld.other W271 f256 (Or.inr (slot_ne (Or.inl (hw _ (List.mem_of_getElem? (i := 55) rfl))) (Or.inl (hw _ (List.mem_of_getElem? (i := 57) rfl))) (by decide) (t := .long) (t' := .long) (by decide) (by decide)))
  have Z283 : n0 ≤ h271.size := Nat.le_trans Z267 (Keep.of_wr W271).1
  have K284 := K268.wr W271 (Or.inr sz211)
  refine Go.movp st271 (mkF m 56 #[.val (.ref a), .val (.ref b207)] []) rfl ?_
  refine g_aloadN X271 hx (hb hby d3_56) (pc' := 57) rfl rfl rfl ?_
  exact g_areturn X271 hx rfl rfl hret (hb hby d3_57) N271 hlk (fun v t => endF (by decide) (by decide) v) (by rw [e271]; exact ⟨_, rfl, ge210, K284, f278, f279, f280, f281, f282, f272⟩)
theorem d9_0 : decode prog_129_method_5_code 0 = .ok (.aload_n 0, 1) := by decide +kernel
theorem d9_1 : decode prog_129_method_5_code 1 = .ok (.getfield 19, 3) := by decide +kernel
theorem d9_4 : decode prog_129_method_5_code 4 = .ok (.lreturn, 1) := by decide +kernel
theorem ef_9 (x0 : Addr) (m : MethodId) : entryFrame m #[(.ref x0)] 1 = mkF m 0 #[.val (.ref x0)] [] := by first | (simp [entryFrame, mkF, argsToLocals, Value.category]; done) | rfl
def Q9 (Z : State) (a : Addr) (s0 : Int64) (h0 : Heap) (n0 : Nat) : Option Value → Heap → Prop := fun v h => v = some (.long s0) ∧ h0 = h
set_option maxRecDepth 65536 in
set_option maxHeartbeats 40000000 in
theorem rm9 (l : Launch) (Z : State) (a0 : Array Value) (hw : ∀ d ∈ tables_1, d.before a0 Z = true) (a : Addr) (s0 : Int64) (h0 : Heap) (n0 : Nat) (Z0 : n0 ≤ h0.size) (F2 : Fld Z h0 a "com/example/stratasig/stratasig/index/GapCoding$Counts" "sum" "J" (.long s0)) : Ctr l Z (⟨"com/example/stratasig/stratasig/index/GapCoding$Counts", "sum", "()J"⟩ : MethodName) prog_129_method_5_code 1 (some .long) ({ frames := 0, cells := 0, slots := 0, locals := 0 } : Room) #[(.ref a)] h0 n0 (Q9 Z a s0 h0 n0) := by
  refine Ctr.of (plainFor_of_name pn_1) (ef_9 a) ?_
  intro p e s m below meth c T0 hx hby hml hown hnm hret hlk hZ X0 e0
  have N0 := Fr.nil n0
  refine g_aloadN X0 hx (hb hby d9_0) (pc' := 1) rfl rfl rfl ?_
  obtain ⟨T285, X285, e285, st285⟩ := getF X0 hx hZ hown (host := "") (Or.inl (hw _ (List.mem_of_getElem? (i := 23) rfl))) Via.refl e0 F2 (g := (mkF m 1 #[.val (.ref a)] [(.ref a)])) rfl rfl (hb hby d9_1)
  refine Go.movp st285 (mkF m 4 #[.val (.ref a)] [(.long s0)]) rfl ?_
  exact g_lreturn X285 hx hret (hb hby d9_4) N0 hlk (fun v t => endF (by decide) (by decide) v) (by rw [e285]; exact ⟨rfl, rfl⟩)
theorem d16_0 : decode prog_131_method_5_code 0 = .ok (.lconst 0, 1) := by decide +kernel
theorem d16_1 : decode prog_131_method_5_code 1 = .ok (.lstore_n 2, 1) := by decide +kernel
theorem d16_2 : decode prog_131_method_5_code 2 = .ok (.aload_n 0, 1) := by decide +kernel
theorem d16_3 : decode prog_131_method_5_code 3 = .ok (.astore 4, 2) := by decide +kernel
theorem d16_5 : decode prog_131_method_5_code 5 = .ok (.aload 4, 2) := by decide +kernel
theorem d16_7 : decode prog_131_method_5_code 7 = .ok (.arraylength, 1) := by decide +kernel
theorem d16_8 : decode prog_131_method_5_code 8 = .ok (.istore 5, 2) := by decide +kernel
theorem d16_10 : decode prog_131_method_5_code 10 = .ok (.iconst 0, 1) := by decide +kernel
theorem d16_11 : decode prog_131_method_5_code 11 = .ok (.istore 6, 2) := by decide +kernel
theorem d16_13 : decode prog_131_method_5_code 13 = .ok (.iload 6, 2) := by decide +kernel
theorem d16_15 : decode prog_131_method_5_code 15 = .ok (.iload 5, 2) := by decide +kernel
theorem d16_17 : decode prog_131_method_5_code 17 = .ok (.if_icmp .ge 23, 3) := by decide +kernel
theorem d16_40 : decode prog_131_method_5_code 40 = .ok (.lload_n 2, 1) := by decide +kernel
theorem d16_41 : decode prog_131_method_5_code 41 = .ok (.lreturn, 1) := by decide +kernel
theorem ef_16_0 (x0 : Addr) (x1 : Int32) (m : MethodId) : entryFrame m #[(.ref x0), (.int x1)] 9 = mkF m 0 #[.val (.ref x0), .val (.int x1), .unset, .unset, .unset, .unset, .unset, .unset, .unset] [] := by first | (simp [entryFrame, mkF, argsToLocals, Value.category]; done) | rfl
def Q16_0 (Z : State) (b : Addr) (rr : Int32) (h0 : Heap) (n0 : Nat) : Option Value → Heap → Prop := fun v h => v = some (.long (0 : Int64)) ∧ h0 = h
set_option maxRecDepth 65536 in
set_option maxHeartbeats 40000000 in
theorem rm16_0 (l : Launch) (Z : State) (a0 : Array Value) (hw : ∀ d ∈ tables_1, d.before a0 Z = true) (b : Addr) (rr : Int32) (h0 : Heap) (n0 : Nat) (Z0 : n0 ≤ h0.size) (V1 : Va Z h0 b .long []) : Ctr l Z (⟨"com/example/stratasig/stratasig/index/GapCoding$Tally", "quotients", "([JI)J"⟩ : MethodName) prog_131_method_5_code 9 (some .long) ({ frames := 0, cells := 0, slots := 0, locals := 0 } : Room) #[(.ref b), (.int rr)] h0 n0 (Q16_0 Z b rr h0 n0) := by
  refine Ctr.of (plainFor_of_name pn_4) (ef_16_0 b rr) ?_
  intro p e s m below meth c T0 hx hby hml hown hnm hret hlk hZ X0 e0
  have N0 := Fr.nil n0
  refine g_lconst X0 hx (hb hby d16_0) (pc' := 1) rfl (z := (0 : Int64)) rfl ?_
  refine g_lstoreN X0 hx (hb hby d16_1) (pc' := 2) rfl (Ls' := #[.val (.ref b), .val (.int rr), .val (.long (0 : Int64)), .second, .unset, .unset, .unset, .unset, .unset]) rfl ?_
  refine g_aloadN X0 hx (hb hby d16_2) (pc' := 3) rfl rfl rfl ?_
  refine g_astore X0 hx (hb hby d16_3) (pc' := 5) rfl rfl (Ls' := #[.val (.ref b), .val (.int rr), .val (.long (0 : Int64)), .second, .val (.ref b), .unset, .unset, .unset, .unset]) rfl ?_
  refine g_aload X0 hx (hb hby d16_5) (pc' := 7) rfl rfl rfl ?_
  refine g_arraylength X0 hx hZ e0 V1 (z := (0 : Int32)) (hb hby d16_7) (pc' := 8) rfl rfl ?_
  refine g_istore X0 hx (hb hby d16_8) (pc' := 10) rfl (Ls' := #[.val (.ref b), .val (.int rr), .val (.long (0 : Int64)), .second, .val (.ref b), .val (.int (0 : Int32)), .unset, .unset, .unset]) rfl ?_
  refine g_iconst X0 hx (hb hby d16_10) (pc' := 11) rfl (z := (0 : Int32)) rfl ?_
  refine g_istore X0 hx (hb hby d16_11) (pc' := 13) rfl (Ls' := #[.val (.ref b), .val (.int rr), .val (.long (0 : Int64)), .second, .val (.ref b), .val (.int (0 : Int32)), .val (.int (0 : Int32)), .unset, .unset]) rfl ?_
  refine g_iload X0 hx (hb hby d16_13) (pc' := 15) rfl rfl ?_
  refine g_iload X0 hx (hb hby d16_15) (pc' := 17) rfl rfl ?_
  refine g_icmp_ge X0 hx (hb hby d16_17) (pc1 := 20) rfl (by decide) (pc2 := 40) (by decide) (fun hc17 => ?_) (fun hc17 => absurd hc17 (by decide))
  refine g_lloadN X0 hx (hb hby d16_40) (pc' := 41) rfl rfl ?_
  exact g_lreturn X0 hx hret (hb hby d16_41) N0 hlk (fun v t => endF (by decide) (by decide) v) (by rw [e0]; exact ⟨rfl, rfl⟩)
theorem pd___JI_J : parseMethodDescriptor "([JI)J" = some ⟨[(.array .long), .int], some .long⟩ := by decide +kernel
theorem d15_0 : decode prog_131_method_4_code 0 = .ok (.aload_n 0, 1) := by decide +kernel
theorem d15_1 : decode prog_131_method_4_code 1 = .ok (.dup, 1) := by decide +kernel
theorem d15_2 : decode prog_131_method_4_code 2 = .ok (.getfield 37, 3) := by decide +kernel
theorem d15_5 : decode prog_131_method_4_code 5 = .ok (.aload_n 1, 1) := by decide +kernel
theorem d15_6 : decode prog_131_method_4_code 6 = .ok (.aload_n 0, 1) := by decide +kernel
theorem d15_7 : decode prog_131_method_4_code 7 = .ok (.getfield 30, 3) := by decide +kernel
theorem d15_10 : decode prog_131_method_4_code 10 = .ok (.invokestatic 46, 3) := by decide +kernel
theorem d15_13 : decode prog_131_method_4_code 13 = .ok (.ladd, 1) := by decide +kernel
theorem d15_14 : decode prog_131_method_4_code 14 = .ok (.putfield 37, 3) := by decide +kernel
theorem d15_17 : decode prog_131_method_4_code 17 = .ok (.aload_n 0, 1) := by decide +kernel
theorem d15_18 : decode prog_131_method_4_code 18 = .ok (.dup, 1) := by decide +kernel
theorem d15_19 : decode prog_131_method_4_code 19 = .ok (.getfield 40, 3) := by decide +kernel
theorem d15_22 : decode prog_131_method_4_code 22 = .ok (.aload_n 1, 1) := by decide +kernel
theorem d15_23 : decode prog_131_method_4_code 23 = .ok (.aload_n 0, 1) := by decide +kernel
theorem d15_24 : decode prog_131_method_4_code 24 = .ok (.getfield 30, 3) := by decide +kernel
theorem d15_27 : decode prog_131_method_4_code 27 = .ok (.iconst 1, 1) := by decide +kernel
theorem d15_28 : decode prog_131_method_4_code 28 = .ok (.iadd, 1) := by decide +kernel
theorem d15_29 : decode prog_131_method_4_code 29 = .ok (.invokestatic 46, 3) := by decide +kernel
theorem d15_32 : decode prog_131_method_4_code 32 = .ok (.ladd, 1) := by decide +kernel
theorem d15_33 : decode prog_131_method_4_code 33 = .ok (.putfield 40, 3) := by decide +kernel
theorem d15_36 : decode prog_131_method_4_code 36 = .ok (.aload_n 0, 1) := by decide +kernel
theorem d15_37 : decode prog_131_method_4_code 37 = .ok (.dup, 1) := by decide +kernel
theorem d15_38 : decode prog_131_method_4_code 38 = .ok (.getfield 43, 3) := by decide +kernel
theorem d15_41 : decode prog_131_method_4_code 41 = .ok (.aload_n 1, 1) := by decide +kernel
theorem d15_42 : decode prog_131_method_4_code 42 = .ok (.aload_n 0, 1) := by decide +kernel
theorem d15_43 : decode prog_131_method_4_code 43 = .ok (.getfield 30, 3) := by decide +kernel
theorem d15_46 : decode prog_131_method_4_code 46 = .ok (.iconst 2, 1) := by decide +kernel
theorem d15_47 : decode prog_131_method_4_code 47 = .ok (.iadd, 1) := by decide +kernel
theorem d15_48 : decode prog_131_method_4_code 48 = .ok (.invokestatic 46, 3) := by decide +kernel
theorem d15_51 : decode prog_131_method_4_code 51 = .ok (.ladd, 1) := by decide +kernel
theorem d15_52 : decode prog_131_method_4_code 52 = .ok (.putfield 43, 3) := by decide +kernel
theorem d15_55 : decode prog_131_method_4_code 55 = .ok (.return_, 1) := by decide +kernel
theorem ef_15_0 (x0 : Addr) (x1 : Addr) (m : MethodId) : entryFrame m #[(.ref x0), (.ref x1)] 2 = mkF m 0 #[.val (.ref x0), .val (.ref x1)] [] := by first | (simp [entryFrame, mkF, argsToLocals, Value.category]; done) | rfl
def Q15_0 (Z : State) (a : Addr) (b : Addr) (c0 : Int64) (lo : Int32) (h0 : Heap) (n0 : Nat) : Option Value → Heap → Prop := fun v h => v = none ∧ Keep h0 h [a] ∧ Exa Z h a "com/example/stratasig/stratasig/index/GapCoding$Tally" ∧ Fld Z h a "com/example/stratasig/stratasig/index/GapCoding$Tally" "count" "J" (.long c0) ∧ Fld Z h a "com/example/stratasig/stratasig/index/GapCoding$Tally" "lowest" "I" (.int lo) ∧ Fld Z h a "com/example/stratasig/stratasig/index/GapCoding$Tally" "atLowest" "J" (.long (0 : Int64)) ∧ Fld Z h a "com/example/stratasig/stratasig/index/GapCoding$Tally" "oneAbove" "J" (.long (0 : Int64)) ∧ Fld Z h a "com/example/stratasig/stratasig/index/GapCoding$Tally" "twoAbove" "J" (.long (0 : Int64))
set_option maxRecDepth 65536 in
set_option maxHeartbeats 40000000 in
theorem rm15_0 (l : Launch) (Z : State) (a0 : Array Value) (hw : ∀ d ∈ tables_1, d.before a0 Z = true) (a : Addr) (b : Addr) (c0 : Int64) (lo : Int32) (h0 : Heap) (n0 : Nat) (Z0 : n0 ≤ h0.size) (F_count : Fld Z h0 a "com/example/stratasig/stratasig/index/GapCoding$Tally" "count" "J" (.long c0)) (F_lowest : Fld Z h0 a "com/example/stratasig/stratasig/index/GapCoding$Tally" "lowest" "I" (.int lo)) (F_atLowest : Fld Z h0 a "com/example/stratasig/stratasig/index/GapCoding$Tally" "atLowest" "J" (.long (0 : Int64))) (F_oneAbove : Fld Z h0 a "com/example/stratasig/stratasig/index/GapCoding$Tally" "oneAbove" "J" (.long (0 : Int64))) (F_twoAbove : Fld Z h0 a "com/example/stratasig/stratasig/index/GapCoding$Tally" "twoAbove" "J" (.long (0 : Int64))) (V1 : Va Z h0 b .long []) (E1 : Exa Z h0 a "com/example/stratasig/stratasig/index/GapCoding$Tally") (G1 : n0 ≤ a) (ne1 : b ≠ a) : Ctr l Z (⟨"com/example/stratasig/stratasig/index/GapCoding$Tally", "add", "([J)V"⟩ : MethodName) prog_131_method_4_code 2 none ({ frames := 1, cells := 0, slots := 0, locals := 23 } : Room) #[(.ref a), (.ref b)] h0 n0 (Q15_0 Z a b c0 lo h0 n0) := by
  refine Ctr.of (plainFor_of_name pn_4) (ef_15_0 a b) ?_
  intro p e s m below meth c T0 hx hby hml hown hnm hret hlk hZ X0 e0
  have N0 := Fr.nil n0
  refine g_aloadN X0 hx (hb hby d15_0) (pc' := 1) rfl rfl rfl ?_
  refine g_dup X0 hx (hb hby d15_1) (pc' := 2) rfl rfl ?_
  obtain ⟨T286, X286, e286, st286⟩ := getF X0 hx hZ hown (host := "") (Or.inl (hw _ (List.mem_of_getElem? (i := 76) rfl))) Via.refl e0 F_atLowest (g := (mkF m 2 #[.val (.ref a), .val (.ref b)] [(.ref a), (.ref a)])) rfl rfl (hb hby d15_2)
  refine Go.movp st286 (mkF m 5 #[.val (.ref a), .val (.ref b)] [(.long (0 : Int64)), (.ref a)]) rfl ?_
  refine g_aloadN X286 hx (hb hby d15_5) (pc' := 6) rfl rfl rfl ?_
  refine g_aloadN X286 hx (hb hby d15_6) (pc' := 7) rfl rfl rfl ?_
  obtain ⟨T287, X287, e287, st287⟩ := getF X286 hx hZ hown (host := "") (Or.inl (hw _ (List.mem_of_getElem? (i := 45) rfl))) Via.refl e286 F_lowest (g := (mkF m 7 #[.val (.ref a), .val (.ref b)] [(.ref a), (.ref b), (.long (0 : Int64)), (.ref a)])) rfl rfl (hb hby d15_7)
  refine Go.movp st287 (mkF m 10 #[.val (.ref a), .val (.ref b)] [(.int lo), (.ref b), (.long (0 : Int64)), (.ref a)]) rfl ?_
  obtain ⟨v288, T288, h288, L288, X288, e288, N288, q288, st288⟩ := h_static X287 hx (W := 3) (Ls := #[.val (.ref a), .val (.ref b)]) (argsL := [(.ref b), (.int lo)]) (rest := [(.long (0 : Int64)), (.ref a)]) hZ e287 N0 hml hown (rm16_0 l Z a0 hw b lo  h0 n0 Z0 V1) (hw _ (List.mem_of_getElem? (i := 93) rfl)) (hw _ (List.mem_of_getElem? (i := 94) rfl)) (hw _ (List.mem_of_getElem? (i := 20) rfl)) (hw _ (List.mem_of_getElem? (i := 95) rfl)) (by decide) pd___JI_J rfl rfl (hb hby d15_10) rfl (by decide) (by decide) (by decide) (by decide)
  obtain ⟨rfl, rfl⟩ := q288
  refine Go.movp st288 (mkF m 13 #[.val (.ref a), .val (.ref b)] [(.long (0 : Int64)), (.long (0 : Int64)), (.ref a)]) rfl ?_
  refine g_ladd X288 hx (hb hby d15_13) (pc' := 14) rfl ?_
  refine Go.cast (show (mkF m 14 #[.val (.ref a), .val (.ref b)] [(.long ((0 : Int64) + (0 : Int64))), (.ref a)]) = (mkF m 14 #[.val (.ref a), .val (.ref b)] [(.long (0 : Int64)), (.ref a)]) from by rw [show ((0 : Int64) + (0 : Int64)) = (0 : Int64) from (by decide)]) ?_
  obtain ⟨T289, h289, X289, e289, W289, st289⟩ := putF X288 hx hZ hown (host := "") (Or.inl (hw _ (List.mem_of_getElem? (i := 76) rfl))) Via.refl e288 F_atLowest E1 (Or.inl (hw _ (List.mem_of_getElem? (i := 53) rfl))) (hw _ (List.mem_of_getElem? (i := 19) rfl)) (ty := .long) (by decide) rfl rfl (g := (mkF m 14 #[.val (.ref a), .val (.ref b)] [(.long (0 : Int64)), (.ref a)])) rfl rfl (hb hby d15_14)
  have f290 : Fld Z h289 a "com/example/stratasig/stratasig/index/GapCoding$Tally" "atLowest" "J" (.long (0 : Int64)) := Fld.same W289 F_atLowest
  have N289 := Fr.snoc X289 N288 G1
  have f291 := Fld.other W289 F_count (Or.inr (slot_ne (Or.inr (hw _ (List.mem_of_getElem? (i := 30) rfl))) (Or.inl (hw _ (List.mem_of_getElem? (i := 53) rfl))) (by decide) (t := .long) (t' := .long) (by decide) (by decide)))
  have f292 := Fld.other W289 F_lowest (Or.inr (slot_ne (Or.inr (hw _ (List.mem_of_getElem? (i := 46) rfl))) (Or.inl (hw _ (List.mem_of_getElem? (i := 53) rfl))) (by decide) (t := .int) (t' := .long) (by decide) (by decide)))
  have f293 := Fld.other W289 F_oneAbove (Or.inr (slot_ne (Or.inl (hw _ (List.mem_of_getElem? (i := 55) rfl))) (Or.inl (hw _ (List.mem_of_getElem? (i := 53) rfl))) (by decide) (t := .long) (t' := .long) (by decide) (by decide)))
  have f294 := Fld.other W289 F_twoAbove (Or.inr (slot_ne (Or.inl (hw _ (List.mem_of_getElem? (i := 57) rfl))) (Or.inl (hw _ (List.mem_of_getElem? (i := 53) rfl))) (by decide) (t := .long) (t' := .long) (by decide) (by decide)))
  have f295 := V1.other W289 ne1
  have f296 := Exa.wr W289 E1
  have Z297 : n0 ≤ h289.size := Nat.le_trans Z0 (Keep.of_wr W289).1
  have K298 := (Keep.refl h0 [a]).wr W289 (Or.inl (List.mem_of_getElem? (i := 0) rfl))
  refine Go.movp st289 (mkF m 17 #[.val (.ref a), .val (.ref b)] []) rfl ?_
  refine g_aloadN X289 hx (hb hby d15_17) (pc' := 18) rfl rfl rfl ?_
  refine g_dup X289 hx (hb hby d15_18) (pc' := 19) rfl rfl ?_
  obtain ⟨T299, X299, e299, st299⟩ := getF X289 hx hZ hown (host := "") (Or.inl (hw _ (List.mem_of_getElem? (i := 77) rfl))) Via.refl e289 f293 (g := (mkF m 19 #[.val (.ref a), .val (.ref b)] [(.ref a), (.ref a)])) rfl rfl (hb hby d15_19)
  refine Go.movp st299 (mkF m 22 #[.val (.ref a), .val (.ref b)] [(.long (0 : Int64)), (.ref a)]) rfl ?_
  refine g_aloadN X299 hx (hb hby d15_22) (pc' := 23) rfl rfl rfl ?_
  refine g_aloadN X299 hx (hb hby d15_23) (pc' := 24) rfl rfl rfl ?_
  obtain ⟨T300, X300, e300, st300⟩ := getF X299 hx hZ hown (host := "") (Or.inl (hw _ (List.mem_of_getElem? (i := 45) rfl))) Via.refl e299 f292 (g := (mkF m 24 #[.val (.ref a), .val (.ref b)] [(.ref a), (.ref b), (.long (0 : Int64)), (.ref a)])) rfl rfl (hb hby d15_24)
  refine Go.movp st300 (mkF m 27 #[.val (.ref a), .val (.ref b)] [(.int lo), (.ref b), (.long (0 : Int64)), (.ref a)]) rfl ?_
  refine g_iconst X300 hx (hb hby d15_27) (pc' := 28) rfl (z := (1 : Int32)) rfl ?_
  refine g_iadd X300 hx (hb hby d15_28) (pc' := 29) rfl ?_
  obtain ⟨v301, T301, h301, L301, X301, e301, N301, q301, st301⟩ := h_static X300 hx (W := 3) (Ls := #[.val (.ref a), .val (.ref b)]) (argsL := [(.ref b), (.int (lo + (1 : Int32)))]) (rest := [(.long (0 : Int64)), (.ref a)]) hZ e300 N289 hml hown (rm16_0 l Z a0 hw b (lo + (1 : Int32))  h289 n0 Z297 f295) (hw _ (List.mem_of_getElem? (i := 93) rfl)) (hw _ (List.mem_of_getElem? (i := 94) rfl)) (hw _ (List.mem_of_getElem? (i := 20) rfl)) (hw _ (List.mem_of_getElem? (i := 95) rfl)) (by decide) pd___JI_J rfl rfl (hb hby d15_29) rfl (by decide) (by decide) (by decide) (by decide)
  obtain ⟨rfl, rfl⟩ := q301
  refine Go.movp st301 (mkF m 32 #[.val (.ref a), .val (.ref b)] [(.long (0 : Int64)), (.long (0 : Int64)), (.ref a)]) rfl ?_
  refine g_ladd X301 hx (hb hby d15_32) (pc' := 33) rfl ?_
  refine Go.cast (show (mkF m 33 #[.val (.ref a), .val (.ref b)] [(.long ((0 : Int64) + (0 : Int64))), (.ref a)]) = (mkF m 33 #[.val (.ref a), .val (.ref b)] [(.long (0 : Int64)), (.ref a)]) from by rw [show ((0 : Int64) + (0 : Int64)) = (0 : Int64) from (by decide)]) ?_
  obtain ⟨T302, h302, X302, e302, W302, st302⟩ := putF X301 hx hZ hown (host := "") (Or.inl (hw _ (List.mem_of_getElem? (i := 77) rfl))) Via.refl e301 f293 f296 (Or.inl (hw _ (List.mem_of_getElem? (i := 55) rfl))) (hw _ (List.mem_of_getElem? (i := 19) rfl)) (ty := .long) (by decide) rfl rfl (g := (mkF m 33 #[.val (.ref a), .val (.ref b)] [(.long (0 : Int64)), (.ref a)])) rfl rfl (hb hby d15_33)
  have f303 : Fld Z h302 a "com/example/stratasig/stratasig/index/GapCoding$Tally" "oneAbove" "J" (.long (0 : Int64)) := Fld.same W302 f293
  have N302 := Fr.snoc X302 N301 G1
  have f304 := Fld.other W302 f291 (Or.inr (slot_ne (Or.inr (hw _ (List.mem_of_getElem? (i := 30) rfl))) (Or.inl (hw _ (List.mem_of_getElem? (i := 55) rfl))) (by decide) (t := .long) (t' := .long) (by decide) (by decide)))
  have f305 := Fld.other W302 f292 (Or.inr (slot_ne (Or.inr (hw _ (List.mem_of_getElem? (i := 46) rfl))) (Or.inl (hw _ (List.mem_of_getElem? (i := 55) rfl))) (by decide) (t := .int) (t' := .long) (by decide) (by decide)))
  have f306 := Fld.other W302 f294 (Or.inr (slot_ne (Or.inl (hw _ (List.mem_of_getElem? (i := 57) rfl))) (Or.inl (hw _ (List.mem_of_getElem? (i := 55) rfl))) (by decide) (t := .long) (t' := .long) (by decide) (by decide)))
  have f307 := f295.other W302 ne1
  have f308 := Exa.wr W302 f296
  have f309 := Fld.other W302 f290 (Or.inr (slot_ne (Or.inl (hw _ (List.mem_of_getElem? (i := 53) rfl))) (Or.inl (hw _ (List.mem_of_getElem? (i := 55) rfl))) (by decide) (t := .long) (t' := .long) (by decide) (by decide)))
  have Z310 : n0 ≤ h302.size := Nat.le_trans Z297 (Keep.of_wr W302).1
  have K311 := K298.wr W302 (Or.inl (List.mem_of_getElem? (i := 0) rfl))
  refine Go.movp st302 (mkF m 36 #[.val (.ref a), .val (.ref b)] []) rfl ?_
  refine g_aloadN X302 hx (hb hby d15_36) (pc' := 37) rfl rfl rfl ?_
  refine g_dup X302 hx (hb hby d15_37) (pc' := 38) rfl rfl ?_
  obtain ⟨T312, X312, e312, st312⟩ := getF X302 hx hZ hown (host := "") (Or.inl (hw _ (List.mem_of_getElem? (i := 78) rfl))) Via.refl e302 f306 (g := (mkF m 38 #[.val (.ref a), .val (.ref b)] [(.ref a), (.ref a)])) rfl rfl (hb hby d15_38)
  refine Go.movp st312 (mkF m 41 #[.val (.ref a), .val (.ref b)] [(.long (0 : Int64)), (.ref a)]) rfl ?_
  refine g_aloadN X312 hx (hb hby d15_41) (pc' := 42) rfl rfl rfl ?_
  refine g_aloadN X312 hx (hb hby d15_42) (pc' := 43) rfl rfl rfl ?_
  obtain ⟨T313, X313, e313, st313⟩ := getF X312 hx hZ hown (host := "") (Or.inl (hw _ (List.mem_of_getElem? (i := 45) rfl))) Via.refl e312 f305 (g := (mkF m 43 #[.val (.ref a), .val (.ref b)] [(.ref a), (.ref b), (.long (0 : Int64)), (.ref a)])) rfl rfl (hb hby d15_43)
  refine Go.movp st313 (mkF m 46 #[.val (.ref a), .val (.ref b)] [(.int lo), (.ref b), (.long (0 : Int64)), (.ref a)]) rfl ?_
  refine g_iconst X313 hx (hb hby d15_46) (pc' := 47) rfl (z := (2 : Int32)) rfl ?_
  refine g_iadd X313 hx (hb hby d15_47) (pc' := 48) rfl ?_
  obtain ⟨v314, T314, h314, L314, X314, e314, N314, q314, st314⟩ := h_static X313 hx (W := 3) (Ls := #[.val (.ref a), .val (.ref b)]) (argsL := [(.ref b), (.int (lo + (2 : Int32)))]) (rest := [(.long (0 : Int64)), (.ref a)]) hZ e313 N302 hml hown (rm16_0 l Z a0 hw b (lo + (2 : Int32))  h302 n0 Z310 f307) (hw _ (List.mem_of_getElem? (i := 93) rfl)) (hw _ (List.mem_of_getElem? (i := 94) rfl)) (hw _ (List.mem_of_getElem? (i := 20) rfl)) (hw _ (List.mem_of_getElem? (i := 95) rfl)) (by decide) pd___JI_J rfl rfl (hb hby d15_48) rfl (by decide) (by decide) (by decide) (by decide)
  obtain ⟨rfl, rfl⟩ := q314
  refine Go.movp st314 (mkF m 51 #[.val (.ref a), .val (.ref b)] [(.long (0 : Int64)), (.long (0 : Int64)), (.ref a)]) rfl ?_
  refine g_ladd X314 hx (hb hby d15_51) (pc' := 52) rfl ?_
  refine Go.cast (show (mkF m 52 #[.val (.ref a), .val (.ref b)] [(.long ((0 : Int64) + (0 : Int64))), (.ref a)]) = (mkF m 52 #[.val (.ref a), .val (.ref b)] [(.long (0 : Int64)), (.ref a)]) from by rw [show ((0 : Int64) + (0 : Int64)) = (0 : Int64) from (by decide)]) ?_
  obtain ⟨T315, h315, X315, e315, W315, st315⟩ := putF X314 hx hZ hown (host := "") (Or.inl (hw _ (List.mem_of_getElem? (i := 78) rfl))) Via.refl e314 f306 f308 (Or.inl (hw _ (List.mem_of_getElem? (i := 57) rfl))) (hw _ (List.mem_of_getElem? (i := 19) rfl)) (ty := .long) (by decide) rfl rfl (g := (mkF m 52 #[.val (.ref a), .val (.ref b)] [(.long (0 : Int64)), (.ref a)])) rfl rfl (hb hby d15_52)
  have f316 : Fld Z h315 a "com/example/stratasig/stratasig/index/GapCoding$Tally" "twoAbove" "J" (.long (0 : Int64)) := Fld.same W315 f306
  have N315 := Fr.snoc X315 N314 G1
  have f317 := Fld.other W315 f304 (Or.inr (slot_ne (Or.inr (hw _ (List.mem_of_getElem? (i := 30) rfl))) (Or.inl (hw _ (List.mem_of_getElem? (i := 57) rfl))) (by decide) (t := .long) (t' := .long) (by decide) (by decide)))
  have f318 := Fld.other W315 f305 (Or.inr (slot_ne (Or.inr (hw _ (List.mem_of_getElem? (i := 46) rfl))) (Or.inl (hw _ (List.mem_of_getElem? (i := 57) rfl))) (by decide) (t := .int) (t' := .long) (by decide) (by decide)))
  have f319 := f307.other W315 ne1
  have f320 := Exa.wr W315 f308
  have f321 := Fld.other W315 f309 (Or.inr (slot_ne (Or.inl (hw _ (List.mem_of_getElem? (i := 53) rfl))) (Or.inl (hw _ (List.mem_of_getElem? (i := 57) rfl))) (by decide) (t := .long) (t' := .long) (by decide) (by decide)))
  have f322 := Fld.other W315 f303 (Or.inr (slot_ne (Or.inl (hw _ (List.mem_of_getElem? (i := 55) rfl))) (Or.inl (hw _ (List.mem_of_getElem? (i := 57) rfl))) (by decide) (t := .long) (t' := .long) (by decide) (by decide)))
  have Z323 : n0 ≤ h315.size := Nat.le_trans Z310 (Keep.of_wr W315).1
  have K324 := K311.wr W315 (Or.inl (List.mem_of_getElem? (i := 0) rfl))
  refine Go.movp st315 (mkF m 55 #[.val (.ref a), .val (.ref b)] []) rfl ?_
  exact g_return X315 hx hret (hb hby d15_55) N315 hlk (fun v t => endF (by decide) (by decide) v) (by rw [e315]; exact ⟨rfl, K324, f320, f317, f318, f321, f322, f316⟩)
theorem pd___J_V : parseMethodDescriptor "([J)V" = some ⟨[(.array .long)], none⟩ := by decide +kernel
theorem d14_0 : decode prog_128_method_4_code 0 = .ok (.lconst 0, 1) := by decide +kernel
theorem d14_1 : decode prog_128_method_4_code 1 = .ok (.lstore_n 1, 1) := by decide +kernel
theorem d14_2 : decode prog_128_method_4_code 2 = .ok (.aload_n 0, 1) := by decide +kernel
theorem d14_3 : decode prog_128_method_4_code 3 = .ok (.astore_n 3, 1) := by decide +kernel
theorem d14_4 : decode prog_128_method_4_code 4 = .ok (.aload_n 3, 1) := by decide +kernel
theorem d14_5 : decode prog_128_method_4_code 5 = .ok (.arraylength, 1) := by decide +kernel
theorem d14_6 : decode prog_128_method_4_code 6 = .ok (.istore 4, 2) := by decide +kernel
theorem d14_8 : decode prog_128_method_4_code 8 = .ok (.iconst 0, 1) := by decide +kernel
theorem d14_9 : decode prog_128_method_4_code 9 = .ok (.istore 5, 2) := by decide +kernel
theorem d14_11 : decode prog_128_method_4_code 11 = .ok (.iload 5, 2) := by decide +kernel
theorem d14_13 : decode prog_128_method_4_code 13 = .ok (.iload 4, 2) := by decide +kernel
theorem d14_15 : decode prog_128_method_4_code 15 = .ok (.if_icmp .ge 20, 3) := by decide +kernel
theorem d14_35 : decode prog_128_method_4_code 35 = .ok (.new 14, 3) := by decide +kernel
theorem d14_38 : decode prog_128_method_4_code 38 = .ok (.dup, 1) := by decide +kernel
theorem d14_39 : decode prog_128_method_4_code 39 = .ok (.aload_n 0, 1) := by decide +kernel
theorem d14_40 : decode prog_128_method_4_code 40 = .ok (.arraylength, 1) := by decide +kernel
theorem d14_41 : decode prog_128_method_4_code 41 = .ok (.i2l, 1) := by decide +kernel
theorem d14_42 : decode prog_128_method_4_code 42 = .ok (.lload_n 1, 1) := by decide +kernel
theorem d14_43 : decode prog_128_method_4_code 43 = .ok (.invokespecial 23, 3) := by decide +kernel
theorem d14_46 : decode prog_128_method_4_code 46 = .ok (.astore_n 3, 1) := by decide +kernel
theorem d14_47 : decode prog_128_method_4_code 47 = .ok (.aload_n 3, 1) := by decide +kernel
theorem d14_48 : decode prog_128_method_4_code 48 = .ok (.aload_n 0, 1) := by decide +kernel
theorem d14_49 : decode prog_128_method_4_code 49 = .ok (.invokevirtual 26, 3) := by decide +kernel
theorem d14_52 : decode prog_128_method_4_code 52 = .ok (.aload_n 3, 1) := by decide +kernel
theorem d14_53 : decode prog_128_method_4_code 53 = .ok (.areturn, 1) := by decide +kernel
theorem pn_14 : plainName "com/example/stratasig/stratasig/index/GapCoding" = true := by first | (simp [plainName, overriddenIn]; done) | decide +kernel
theorem ef_14_0 (x0 : Addr) (m : MethodId) : entryFrame m #[(.ref x0)] 8 = mkF m 0 #[.val (.ref x0), .unset, .unset, .unset, .unset, .unset, .unset, .unset] [] := by first | (simp [entryFrame, mkF, argsToLocals, Value.category]; done) | rfl
def Q14_0 (Z : State) (b : Addr) (h0 : Heap) (n0 : Nat) : Option Value → Heap → Prop := fun v h => ∃ t, v = some (.ref t) ∧ n0 ≤ t ∧ Keep h0 h [] ∧ Exa Z h t "com/example/stratasig/stratasig/index/GapCoding$Tally" ∧ Fld Z h t "com/example/stratasig/stratasig/index/GapCoding$Tally" "count" "J" (.long (0 : Int64)) ∧ Fld Z h t "com/example/stratasig/stratasig/index/GapCoding$Tally" "lowest" "I" (.int (lowV (0 : Int64) (0 : Int64))) ∧ Fld Z h t "com/example/stratasig/stratasig/index/GapCoding$Tally" "atLowest" "J" (.long (0 : Int64)) ∧ Fld Z h t "com/example/stratasig/stratasig/index/GapCoding$Tally" "oneAbove" "J" (.long (0 : Int64)) ∧ Fld Z h t "com/example/stratasig/stratasig/index/GapCoding$Tally" "twoAbove" "J" (.long (0 : Int64))
set_option maxRecDepth 65536 in
set_option maxHeartbeats 40000000 in
theorem rm14_0 (l : Launch) (Z : State) (a0 : Array Value) (hw : ∀ d ∈ tables_1, d.before a0 Z = true) (b : Addr) (h0 : Heap) (n0 : Nat) (Z0 : n0 ≤ h0.size) (V1 : Va Z h0 b .long []) : Ctr l Z (⟨"com/example/stratasig/stratasig/index/GapCoding", "tally", "([J)Lcom/example/stratasig/stratasig/index/GapCoding$Tally;"⟩ : MethodName) prog_128_method_4_code 8 (some (.object "com/example/stratasig/stratasig/index/GapCoding$Tally")) ({ frames := 3, cells := 1, slots := 6, locals := 50 } : Room) #[(.ref b)] h0 n0 (Q14_0 Z b h0 n0) := by
  refine Ctr.of (plainFor_of_name pn_14) (ef_14_0 b) ?_
  intro p e s m below meth c T0 hx hby hml hown hnm hret hlk hZ X0 e0
  have N0 := Fr.nil n0
  refine g_lconst X0 hx (hb hby d14_0) (pc' := 1) rfl (z := (0 : Int64)) rfl ?_
  refine g_lstoreN X0 hx (hb hby d14_1) (pc' := 2) rfl (Ls' := #[.val (.ref b), .val (.long (0 : Int64)), .second, .unset, .unset, .unset, .unset, .unset]) rfl ?_
  refine g_aloadN X0 hx (hb hby d14_2) (pc' := 3) rfl rfl rfl ?_
  refine g_astoreN X0 hx (hb hby d14_3) (pc' := 4) rfl rfl (Ls' := #[.val (.ref b), .val (.long (0 : Int64)), .second, .val (.ref b), .unset, .unset, .unset, .unset]) rfl ?_
  refine g_aloadN X0 hx (hb hby d14_4) (pc' := 5) rfl rfl rfl ?_
  refine g_arraylength X0 hx hZ e0 V1 (z := (0 : Int32)) (hb hby d14_5) (pc' := 6) rfl rfl ?_
  refine g_istore X0 hx (hb hby d14_6) (pc' := 8) rfl (Ls' := #[.val (.ref b), .val (.long (0 : Int64)), .second, .val (.ref b), .val (.int (0 : Int32)), .unset, .unset, .unset]) rfl ?_
  refine g_iconst X0 hx (hb hby d14_8) (pc' := 9) rfl (z := (0 : Int32)) rfl ?_
  refine g_istore X0 hx (hb hby d14_9) (pc' := 11) rfl (Ls' := #[.val (.ref b), .val (.long (0 : Int64)), .second, .val (.ref b), .val (.int (0 : Int32)), .val (.int (0 : Int32)), .unset, .unset]) rfl ?_
  refine g_iload X0 hx (hb hby d14_11) (pc' := 13) rfl rfl ?_
  refine g_iload X0 hx (hb hby d14_13) (pc' := 15) rfl rfl ?_
  refine g_icmp_ge X0 hx (hb hby d14_15) (pc1 := 18) rfl (by decide) (pc2 := 35) (by decide) (fun hc15 => ?_) (fun hc15 => absurd hc15 (by decide))
  obtain ⟨T325, h325, X325, e325, E325, A325, D325, -, st325⟩ := newO X0 hx hZ hown (hw _ (List.mem_of_getElem? (i := 86) rfl)) (hw _ (List.mem_of_getElem? (i := 19) rfl)) (hw _ (List.mem_of_getElem? (i := 20) rfl)) e0 (g := (mkF m 35 #[.val (.ref b), .val (.long (0 : Int64)), .second, .val (.ref b), .val (.int (0 : Int32)), .val (.int (0 : Int32)), .unset, .unset] [])) rfl (hb hby d14_35) (by decide) (by decide)
  obtain ⟨b325, g325⟩ : ∃ z, z = h0.size := ⟨_, rfl⟩
  rw [← g325] at A325 D325 st325
  have ne326 : b ≠ b325 := Nat.ne_of_lt (g325 ▸ V1.lt)
  have ge327 : n0 ≤ b325 := g325 ▸ Z0
  have sz328 : h0.size ≤ b325 := g325 ▸ (Keep.refl h0 []).1
  have f329 := V1.ext E325
  have Z330 : n0 ≤ h325.size := Nat.le_trans Z0 E325.1
  have K331 := (Keep.refl h0 []).ext E325
  have f332 : Fld Z h325 b325 "com/example/stratasig/stratasig/index/GapCoding$Tally" "count" "J" (.long (0 : Int64)) := D325 (Or.inr (hw _ (List.mem_of_getElem? (i := 30) rfl))) (ty := .long) (by decide)
  have f333 : Fld Z h325 b325 "com/example/stratasig/stratasig/index/GapCoding$Tally" "sum" "J" (.long (0 : Int64)) := D325 (Or.inr (hw _ (List.mem_of_getElem? (i := 32) rfl))) (ty := .long) (by decide)
  have f334 : Fld Z h325 b325 "com/example/stratasig/stratasig/index/GapCoding$Tally" "lowest" "I" (.int (0 : Int32)) := D325 (Or.inr (hw _ (List.mem_of_getElem? (i := 46) rfl))) (ty := .int) (by decide)
  have f335 : Fld Z h325 b325 "com/example/stratasig/stratasig/index/GapCoding$Tally" "atLowest" "J" (.long (0 : Int64)) := D325 (Or.inl (hw _ (List.mem_of_getElem? (i := 53) rfl))) (ty := .long) (by decide)
  have f336 : Fld Z h325 b325 "com/example/stratasig/stratasig/index/GapCoding$Tally" "oneAbove" "J" (.long (0 : Int64)) := D325 (Or.inl (hw _ (List.mem_of_getElem? (i := 55) rfl))) (ty := .long) (by decide)
  have f337 : Fld Z h325 b325 "com/example/stratasig/stratasig/index/GapCoding$Tally" "twoAbove" "J" (.long (0 : Int64)) := D325 (Or.inl (hw _ (List.mem_of_getElem? (i := 57) rfl))) (ty := .long) (by decide)
  refine Go.movp st325 (mkF m 38 #[.val (.ref b), .val (.long (0 : Int64)), .second, .val (.ref b), .val (.int (0 : Int32)), .val (.int (0 : Int32)), .unset, .unset] [(.ref b325)]) rfl ?_
  refine g_dup X325 hx (hb hby d14_38) (pc' := 39) rfl rfl ?_
  refine g_aloadN X325 hx (hb hby d14_39) (pc' := 40) rfl rfl rfl ?_
  refine g_arraylength X325 hx hZ e325 f329 (z := (0 : Int32)) (hb hby d14_40) (pc' := 41) rfl rfl ?_
  refine g_i2l X325 hx (hb hby d14_41) (pc' := 42) rfl ?_
  refine Go.cast (show (mkF m 42 #[.val (.ref b), .val (.long (0 : Int64)), .second, .val (.ref b), .val (.int (0 : Int32)), .val (.int (0 : Int32)), .unset, .unset] [(.long (0 : Int32).toInt64), (.ref b325), (.ref b325)]) = (mkF m 42 #[.val (.ref b), .val (.long (0 : Int64)), .second, .val (.ref b), .val (.int (0 : Int32)), .val (.int (0 : Int32)), .unset, .unset] [(.long (0 : Int64)), (.ref b325), (.ref b325)]) from by rw [show (0 : Int32).toInt64 = (0 : Int64) from (by decide)]) ?_
  refine g_lloadN X325 hx (hb hby d14_42) (pc' := 43) rfl rfl ?_
  obtain ⟨v338, T338, h338, L338, X338, e338, N338, q338, st338⟩ := h_special (a := b325) X325 hx (W := 1) (Ls := #[.val (.ref b), .val (.long (0 : Int64)), .second, .val (.ref b), .val (.int (0 : Int32)), .val (.int (0 : Int32)), .unset, .unset]) (argsL := [(.long (0 : Int64)), (.long (0 : Int64))]) (rest := [(.ref b325)]) hZ e325 N0 hml hown rfl (rm4 l Z a0 hw b325 (0 : Int64) (0 : Int64) h325 n0 Z330 f332 f333 f334 f335 f336 f337 A325 ge327) (hw _ (List.mem_of_getElem? (i := 87) rfl)) (hw _ (List.mem_of_getElem? (i := 26) rfl)) (hw _ (List.mem_of_getElem? (i := 20) rfl)) (hw _ (List.mem_of_getElem? (i := 27) rfl)) (by decide) pd__JJ_V rfl rfl (hb hby d14_43) rfl (by decide) (by decide) (by decide) (by decide)
  obtain ⟨rfl, K338, A338, C338, L338, P338, Q338, R338⟩ := q338
  have f339 := f329.keep K338 (ninS ne326 nin0)
  have f340 := A325.keep K338
  have Z341 : n0 ≤ h338.size := Nat.le_trans Z330 K338.1
  have K342 := K331.trans K338 (allS (Or.inr sz328) all0)
  refine Go.movp st338 (mkF m 46 #[.val (.ref b), .val (.long (0 : Int64)), .second, .val (.ref b), .val (.int (0 : Int32)), .val (.int (0 : Int32)), .unset, .unset] [(.ref b325)]) rfl ?_
  refine g_astoreN X338 hx (hb hby d14_46) (pc' := 47) rfl rfl (Ls' := #[.val (.ref b), .val (.long (0 : Int64)), .second, .val (.ref b325), .val (.int (0 : Int32)), .val (.int (0 : Int32)), .unset, .unset]) rfl ?_
  refine g_aloadN X338 hx (hb hby d14_47) (pc' := 48) rfl rfl rfl ?_
  refine g_aloadN X338 hx (hb hby d14_48) (pc' := 49) rfl rfl rfl ?_
  obtain ⟨v343, T343, h343, L343, X343, e343, N343, q343, st343⟩ := h_virtual (a := b325) (z := (⟨"com/example/stratasig/stratasig/index/GapCoding$Tally", "add", "([J)V"⟩ : MethodName)) X338 hx (W := 0) (Ls := #[.val (.ref b), .val (.long (0 : Int64)), .second, .val (.ref b325), .val (.int (0 : Int32)), .val (.int (0 : Int32)), .unset, .unset]) (argsL := [(.ref b)]) (rest := []) hZ e338 N338 hml hown (rm15_0 l Z a0 hw b325 b (0 : Int64) (lowV (0 : Int64) (0 : Int64))  h338 n0 Z341 C338 L338 P338 Q338 R338 f339 A338 ge327 ne326) A338 (hw _ (List.mem_of_getElem? (i := 88) rfl)) (hw _ (List.mem_of_getElem? (i := 89) rfl)) (notFace_of_selects (args := #[]) (mvT hZ (hw _ (List.mem_of_getElem? (i := 91) rfl)))) (hw _ (List.mem_of_getElem? (i := 91) rfl)) (hw _ (List.mem_of_getElem? (i := 90) rfl)) (hw _ (List.mem_of_getElem? (i := 20) rfl)) (hw _ (List.mem_of_getElem? (i := 92) rfl)) (by decide) pd___J_V rfl rfl (hb hby d14_49) rfl (by decide) (by decide) (by decide) (by decide)
  obtain ⟨rfl, K343, A343, C343, L343, P343, Q343, R343⟩ := q343
  have f344 := f339.keep K343 (ninS ne326 nin0)
  have f345 := A338.keep K343
  have Z346 : n0 ≤ h343.size := Nat.le_trans Z341 K343.1
  have K347 := K342.trans K343 (allS (Or.inr sz328) all0)
  refine Go.movp st343 (mkF m 52 #[.val (.ref b), .val (.long (0 : Int64)), .second, .val (.ref b325), .val (.int (0 : Int32)), .val (.int (0 : Int32)), .unset, .unset] []) rfl ?_
  refine g_aloadN X343 hx (hb hby d14_52) (pc' := 53) rfl rfl rfl ?_
  exact g_areturn X343 hx rfl rfl hret (hb hby d14_53) N343 hlk (fun v t => endF (by decide) (by decide) v) (by rw [e343]; exact ⟨_, rfl, ge327, K347, A343, C343, L343, P343, Q343, R343⟩)
theorem pd___J_Lcom_example_stratasig_stratasig_index_GapCoding_Tally_ : parseMethodDescriptor "([J)Lcom/example/stratasig/stratasig/index/GapCoding$Tally;" = some ⟨[(.array .long)], some (.object "com/example/stratasig/stratasig/index/GapCoding$Tally")⟩ := by decide +kernel
theorem pd___J : parseMethodDescriptor "()J" = some ⟨[], some .long⟩ := by decide +kernel
theorem d13_0 : decode prog_128_method_3_code 0 = .ok (.aload_n 0, 1) := by decide +kernel
theorem d13_1 : decode prog_128_method_3_code 1 = .ok (.invokestatic 7, 3) := by decide +kernel
theorem d13_4 : decode prog_128_method_3_code 4 = .ok (.invokevirtual 19, 3) := by decide +kernel
theorem d13_7 : decode prog_128_method_3_code 7 = .ok (.lreturn, 1) := by decide +kernel
theorem ef_13_0 (x0 : Addr) (m : MethodId) : entryFrame m #[(.ref x0)] 1 = mkF m 0 #[.val (.ref x0)] [] := by first | (simp [entryFrame, mkF, argsToLocals, Value.category]; done) | rfl
def Q13_0 (Z : State) (b : Addr) (h0 : Heap) (n0 : Nat) : Option Value → Heap → Prop := fun v h => v = some (.long (bitsV (0 : Int64) (lowV (0 : Int64) (0 : Int64)) (0 : Int64) (0 : Int64) (0 : Int64))) ∧ Keep h0 h []
set_option maxRecDepth 65536 in
set_option maxHeartbeats 40000000 in
theorem rm13_0 (l : Launch) (Z : State) (a0 : Array Value) (hw : ∀ d ∈ tables_1, d.before a0 Z = true) (b : Addr) (h0 : Heap) (n0 : Nat) (Z0 : n0 ≤ h0.size) (V1 : Va Z h0 b .long []) : Ctr l Z (⟨"com/example/stratasig/stratasig/index/GapCoding", "bits", "([J)J"⟩ : MethodName) prog_128_method_3_code 1 (some .long) ({ frames := 4, cells := 3, slots := 12, locals := 69 } : Room) #[(.ref b)] h0 n0 (Q13_0 Z b h0 n0) := by
  refine Ctr.of (plainFor_of_name pn_14) (ef_13_0 b) ?_
  intro p e s m below meth c T0 hx hby hml hown hnm hret hlk hZ X0 e0
  have N0 := Fr.nil n0
  refine g_aloadN X0 hx (hb hby d13_0) (pc' := 1) rfl rfl rfl ?_
  obtain ⟨v348, T348, h348, L348, X348, e348, N348, q348, st348⟩ := h_static X0 hx (W := 0) (Ls := #[.val (.ref b)]) (argsL := [(.ref b)]) (rest := []) hZ e0 N0 hml hown (rm14_0 l Z a0 hw b  h0 n0 Z0 V1) (hw _ (List.mem_of_getElem? (i := 83) rfl)) (hw _ (List.mem_of_getElem? (i := 84) rfl)) (hw _ (List.mem_of_getElem? (i := 81) rfl)) (hw _ (List.mem_of_getElem? (i := 85) rfl)) (by decide) pd___J_Lcom_example_stratasig_stratasig_index_GapCoding_Tally_ rfl rfl (hb hby d13_1) rfl (by decide) (by decide) (by decide) (by decide)
  obtain ⟨t348, rfl, ge348, K348, A348, C348, L348, P348, Q348, R348⟩ := q348
  have f349 := V1.keep K348 nin0
  have Z350 : n0 ≤ h348.size := Nat.le_trans Z0 K348.1
  have K351 := (Keep.refl h0 []).trans K348 all0
  refine Go.movp st348 (mkF m 4 #[.val (.ref b)] [(.ref t348)]) rfl ?_
  obtain ⟨v352, T352, h352, L352, X352, e352, N352, q352, st352⟩ := h_virtual (a := t348) (z := (⟨"com/example/stratasig/stratasig/index/GapCoding$Tally", "bits", "()J"⟩ : MethodName)) X348 hx (W := 0) (Ls := #[.val (.ref b)]) (argsL := []) (rest := []) hZ e348 N348 hml hown (rm10 l Z a0 hw t348 (0 : Int64) (lowV (0 : Int64) (0 : Int64)) (0 : Int64) (0 : Int64) (0 : Int64) h348 n0 Z350 C348 L348 P348 Q348 R348 A348) A348 (hw _ (List.mem_of_getElem? (i := 96) rfl)) (hw _ (List.mem_of_getElem? (i := 64) rfl)) (notFace_of_selects (args := #[]) (mvT hZ (hw _ (List.mem_of_getElem? (i := 66) rfl)))) (hw _ (List.mem_of_getElem? (i := 66) rfl)) (hw _ (List.mem_of_getElem? (i := 65) rfl)) (hw _ (List.mem_of_getElem? (i := 20) rfl)) (hw _ (List.mem_of_getElem? (i := 67) rfl)) (by decide) pd___J rfl rfl (hb hby d13_4) rfl (by decide) (by decide) (by decide) (by decide)
  obtain ⟨rfl, K352⟩ := q352
  have f353 := f349.keep K352 nin0
  have f354 := C348.keep K352 nin0
  have f355 := L348.keep K352 nin0
  have f356 := P348.keep K352 nin0
  have f357 := Q348.keep K352 nin0
  have f358 := R348.keep K352 nin0
  have f359 := A348.keep K352
  have Z360 : n0 ≤ h352.size := Nat.le_trans Z350 K352.1
  have K361 := K351.trans K352 all0
  refine Go.movp st352 (mkF m 7 #[.val (.ref b)] [(.long (bitsV (0 : Int64) (lowV (0 : Int64) (0 : Int64)) (0 : Int64) (0 : Int64) (0 : Int64)))]) rfl ?_
  exact g_lreturn X352 hx hret (hb hby d13_7) N352 hlk (fun v t => endF (by decide) (by decide) v) (by rw [e352]; exact ⟨rfl, K361⟩)
theorem d18_0 : decode prog_128_method_2_code 0 = .ok (.aload_n 0, 1) := by decide +kernel
theorem d18_1 : decode prog_128_method_2_code 1 = .ok (.invokestatic 7, 3) := by decide +kernel
theorem d18_4 : decode prog_128_method_2_code 4 = .ok (.invokevirtual 13, 3) := by decide +kernel
theorem d18_7 : decode prog_128_method_2_code 7 = .ok (.ireturn, 1) := by decide +kernel
theorem ef_18_0 (x0 : Addr) (m : MethodId) : entryFrame m #[(.ref x0)] 1 = mkF m 0 #[.val (.ref x0)] [] := by first | (simp [entryFrame, mkF, argsToLocals, Value.category]; done) | rfl
def Q18_0 (Z : State) (b : Addr) (h0 : Heap) (n0 : Nat) : Option Value → Heap → Prop := fun v h => v = some (.int ((lowV (0 : Int64) (0 : Int64)) + bestV (0 : Int64) (0 : Int64) (0 : Int64) (0 : Int64))) ∧ Keep h0 h []
set_option maxRecDepth 65536 in
set_option maxHeartbeats 40000000 in
theorem rm18_0 (l : Launch) (Z : State) (a0 : Array Value) (hw : ∀ d ∈ tables_1, d.before a0 Z = true) (b : Addr) (h0 : Heap) (n0 : Nat) (Z0 : n0 ≤ h0.size) (V1 : Va Z h0 b .long []) : Ctr l Z (⟨"com/example/stratasig/stratasig/index/GapCoding", "parameter", "([J)I"⟩ : MethodName) prog_128_method_2_code 1 (some .int) ({ frames := 4, cells := 2, slots := 9, locals := 69 } : Room) #[(.ref b)] h0 n0 (Q18_0 Z b h0 n0) := by
  refine Ctr.of (plainFor_of_name pn_14) (ef_18_0 b) ?_
  intro p e s m below meth c T0 hx hby hml hown hnm hret hlk hZ X0 e0
  have N0 := Fr.nil n0
  refine g_aloadN X0 hx (hb hby d18_0) (pc' := 1) rfl rfl rfl ?_
  obtain ⟨v362, T362, h362, L362, X362, e362, N362, q362, st362⟩ := h_static X0 hx (W := 0) (Ls := #[.val (.ref b)]) (argsL := [(.ref b)]) (rest := []) hZ e0 N0 hml hown (rm14_0 l Z a0 hw b  h0 n0 Z0 V1) (hw _ (List.mem_of_getElem? (i := 83) rfl)) (hw _ (List.mem_of_getElem? (i := 84) rfl)) (hw _ (List.mem_of_getElem? (i := 81) rfl)) (hw _ (List.mem_of_getElem? (i := 85) rfl)) (by decide) pd___J_Lcom_example_stratasig_stratasig_index_GapCoding_Tally_ rfl rfl (hb hby d18_1) rfl (by decide) (by decide) (by decide) (by decide)
  obtain ⟨t362, rfl, ge362, K362, A362, C362, L362, P362, Q362, R362⟩ := q362
  have f363 := V1.keep K362 nin0
  have Z364 : n0 ≤ h362.size := Nat.le_trans Z0 K362.1
  have K365 := (Keep.refl h0 []).trans K362 all0
  refine Go.movp st362 (mkF m 4 #[.val (.ref b)] [(.ref t362)]) rfl ?_
  obtain ⟨v366, T366, h366, L366, X366, e366, N366, q366, st366⟩ := h_virtual (a := t362) (z := (⟨"com/example/stratasig/stratasig/index/GapCoding$Tally", "parameter", "()I"⟩ : MethodName)) X362 hx (W := 0) (Ls := #[.val (.ref b)]) (argsL := []) (rest := []) hZ e362 N362 hml hown (rm17 l Z a0 hw t362 (0 : Int64) (lowV (0 : Int64) (0 : Int64)) (0 : Int64) (0 : Int64) (0 : Int64) h362 n0 Z364 C362 L362 P362 Q362 R362 A362) A362 (hw _ (List.mem_of_getElem? (i := 105) rfl)) (hw _ (List.mem_of_getElem? (i := 98) rfl)) (notFace_of_selects (args := #[]) (mvT hZ (hw _ (List.mem_of_getElem? (i := 100) rfl)))) (hw _ (List.mem_of_getElem? (i := 100) rfl)) (hw _ (List.mem_of_getElem? (i := 99) rfl)) (hw _ (List.mem_of_getElem? (i := 20) rfl)) (hw _ (List.mem_of_getElem? (i := 101) rfl)) (by decide) pd___I rfl rfl (hb hby d18_4) rfl (by decide) (by decide) (by decide) (by decide)
  obtain ⟨rfl, K366⟩ := q366
  have f367 := f363.keep K366 nin0
  have f368 := C362.keep K366 nin0
  have f369 := L362.keep K366 nin0
  have f370 := P362.keep K366 nin0
  have f371 := Q362.keep K366 nin0
  have f372 := R362.keep K366 nin0
  have f373 := A362.keep K366
  have Z374 : n0 ≤ h366.size := Nat.le_trans Z364 K366.1
  have K375 := K365.trans K366 all0
  refine Go.movp st366 (mkF m 7 #[.val (.ref b)] [(.int ((lowV (0 : Int64) (0 : Int64)) + (bestV (0 : Int64) (0 : Int64) (0 : Int64) (0 : Int64))))]) rfl ?_
  exact g_ireturn X366 hx hret (hb hby d18_7) N366 hlk (fun v t => endF (by decide) (by decide) v) (by rw [e366]; exact ⟨rfl, K375⟩)
theorem d16_20 : decode prog_131_method_5_code 20 = .ok (.aload 4, 2) := by decide +kernel
theorem d16_22 : decode prog_131_method_5_code 22 = .ok (.iload 6, 2) := by decide +kernel
theorem d16_24 : decode prog_131_method_5_code 24 = .ok (.laload, 1) := by decide +kernel
theorem d16_25 : decode prog_131_method_5_code 25 = .ok (.lstore 7, 2) := by decide +kernel
theorem d16_27 : decode prog_131_method_5_code 27 = .ok (.lload_n 2, 1) := by decide +kernel
theorem d16_28 : decode prog_131_method_5_code 28 = .ok (.lload 7, 2) := by decide +kernel
theorem d16_30 : decode prog_131_method_5_code 30 = .ok (.iload_n 1, 1) := by decide +kernel
theorem d16_31 : decode prog_131_method_5_code 31 = .ok (.lushr, 1) := by decide +kernel
theorem d16_32 : decode prog_131_method_5_code 32 = .ok (.ladd, 1) := by decide +kernel
theorem d16_33 : decode prog_131_method_5_code 33 = .ok (.lstore_n 2, 1) := by decide +kernel
theorem d16_34 : decode prog_131_method_5_code 34 = .ok (.iinc 6 1, 3) := by decide +kernel
theorem d16_37 : decode prog_131_method_5_code 37 = .ok (.goto (-24), 3) := by decide +kernel
theorem ef_16_1 (x0 : Addr) (x1 : Int32) (m : MethodId) : entryFrame m #[(.ref x0), (.int x1)] 9 = mkF m 0 #[.val (.ref x0), .val (.int x1), .unset, .unset, .unset, .unset, .unset, .unset, .unset] [] := by first | (simp [entryFrame, mkF, argsToLocals, Value.category]; done) | rfl
def Q16_1 (Z : State) (b : Addr) (rr : Int32) (g0 : Int64) (h0 : Heap) (n0 : Nat) : Option Value → Heap → Prop := fun v h => v = some (.long (lushr g0 rr)) ∧ h0 = h
set_option maxRecDepth 65536 in
set_option maxHeartbeats 40000000 in
theorem rm16_1 (l : Launch) (Z : State) (a0 : Array Value) (hw : ∀ d ∈ tables_1, d.before a0 Z = true) (b : Addr) (rr : Int32) (g0 : Int64) (h0 : Heap) (n0 : Nat) (Z0 : n0 ≤ h0.size) (V1 : Va Z h0 b .long [(.long g0)]) : Ctr l Z (⟨"com/example/stratasig/stratasig/index/GapCoding$Tally", "quotients", "([JI)J"⟩ : MethodName) prog_131_method_5_code 9 (some .long) ({ frames := 0, cells := 0, slots := 0, locals := 0 } : Room) #[(.ref b), (.int rr)] h0 n0 (Q16_1 Z b rr g0 h0 n0) := by
  refine Ctr.of (plainFor_of_name pn_4) (ef_16_1 b rr) ?_
  intro p e s m below meth c T0 hx hby hml hown hnm hret hlk hZ X0 e0
  have N0 := Fr.nil n0
  refine g_lconst X0 hx (hb hby d16_0) (pc' := 1) rfl (z := (0 : Int64)) rfl ?_
  refine g_lstoreN X0 hx (hb hby d16_1) (pc' := 2) rfl (Ls' := #[.val (.ref b), .val (.int rr), .val (.long (0 : Int64)), .second, .unset, .unset, .unset, .unset, .unset]) rfl ?_
  refine g_aloadN X0 hx (hb hby d16_2) (pc' := 3) rfl rfl rfl ?_
  refine g_astore X0 hx (hb hby d16_3) (pc' := 5) rfl rfl (Ls' := #[.val (.ref b), .val (.int rr), .val (.long (0 : Int64)), .second, .val (.ref b), .unset, .unset, .unset, .unset]) rfl ?_
  refine g_aload X0 hx (hb hby d16_5) (pc' := 7) rfl rfl rfl ?_
  refine g_arraylength X0 hx hZ e0 V1 (z := (1 : Int32)) (hb hby d16_7) (pc' := 8) rfl rfl ?_
  refine g_istore X0 hx (hb hby d16_8) (pc' := 10) rfl (Ls' := #[.val (.ref b), .val (.int rr), .val (.long (0 : Int64)), .second, .val (.ref b), .val (.int (1 : Int32)), .unset, .unset, .unset]) rfl ?_
  refine g_iconst X0 hx (hb hby d16_10) (pc' := 11) rfl (z := (0 : Int32)) rfl ?_
  refine g_istore X0 hx (hb hby d16_11) (pc' := 13) rfl (Ls' := #[.val (.ref b), .val (.int rr), .val (.long (0 : Int64)), .second, .val (.ref b), .val (.int (1 : Int32)), .val (.int (0 : Int32)), .unset, .unset]) rfl ?_
  refine g_iload X0 hx (hb hby d16_13) (pc' := 15) rfl rfl ?_
  refine g_iload X0 hx (hb hby d16_15) (pc' := 17) rfl rfl ?_
  refine g_icmp_ge X0 hx (hb hby d16_17) (pc1 := 20) rfl (by decide) (pc2 := 40) (by decide) (fun hc17 => absurd (by decide) hc17) (fun hc17 => ?_)
  refine g_aload X0 hx (hb hby d16_20) (pc' := 22) rfl rfl rfl ?_
  refine g_iload X0 hx (hb hby d16_22) (pc' := 24) rfl rfl ?_
  refine g_laload X0 hx hZ e0 V1 (i := 0) (v := (.long g0)) (hb hby d16_24) (pc' := 25) rfl (by decide) rfl rfl ?_
  refine g_lstore X0 hx (hb hby d16_25) (pc' := 27) rfl (Ls' := #[.val (.ref b), .val (.int rr), .val (.long (0 : Int64)), .second, .val (.ref b), .val (.int (1 : Int32)), .val (.int (0 : Int32)), .val (.long g0), .second]) rfl ?_
  refine g_lloadN X0 hx (hb hby d16_27) (pc' := 28) rfl rfl ?_
  refine g_lload X0 hx (hb hby d16_28) (pc' := 30) rfl rfl ?_
  refine g_iloadN X0 hx (hb hby d16_30) (pc' := 31) rfl rfl ?_
  refine g_lushr X0 hx (hb hby d16_31) (pc' := 32) rfl ?_
  refine g_ladd X0 hx (hb hby d16_32) (pc' := 33) rfl ?_
  refine Go.cast (show (mkF m 33 #[.val (.ref b), .val (.int rr), .val (.long (0 : Int64)), .second, .val (.ref b), .val (.int (1 : Int32)), .val (.int (0 : Int32)), .val (.long g0), .second] [(.long ((0 : Int64) + (lushr g0 rr)))]) = (mkF m 33 #[.val (.ref b), .val (.int rr), .val (.long (0 : Int64)), .second, .val (.ref b), .val (.int (1 : Int32)), .val (.int (0 : Int32)), .val (.long g0), .second] [(.long (lushr g0 rr))]) from by rw [show ((0 : Int64) + (lushr g0 rr)) = (lushr g0 rr) from (Int64.zero_add _)]) ?_
  refine g_lstoreN X0 hx (hb hby d16_33) (pc' := 34) rfl (Ls' := #[.val (.ref b), .val (.int rr), .val (.long (lushr g0 rr)), .second, .val (.ref b), .val (.int (1 : Int32)), .val (.int (0 : Int32)), .val (.long g0), .second]) rfl ?_
  refine g_iinc X0 hx (hb hby d16_34) (pc' := 37) rfl rfl (z := (1 : Int32)) rfl (Ls' := #[.val (.ref b), .val (.int rr), .val (.long (lushr g0 rr)), .second, .val (.ref b), .val (.int (1 : Int32)), .val (.int (1 : Int32)), .val (.long g0), .second]) rfl ?_
  refine g_goto X0 hx (hb hby d16_37) (by decide) (pc' := 13) (by decide) ?_
  refine g_iload X0 hx (hb hby d16_13) (pc' := 15) rfl rfl ?_
  refine g_iload X0 hx (hb hby d16_15) (pc' := 17) rfl rfl ?_
  refine g_icmp_ge X0 hx (hb hby d16_17) (pc1 := 20) rfl (by decide) (pc2 := 40) (by decide) (fun hc17_1 => ?_) (fun hc17_1 => absurd hc17_1 (by decide))
  refine g_lloadN X0 hx (hb hby d16_40) (pc' := 41) rfl rfl ?_
  exact g_lreturn X0 hx hret (hb hby d16_41) N0 hlk (fun v t => endF (by decide) (by decide) v) (by rw [e0]; exact ⟨rfl, rfl⟩)
theorem ef_15_1 (x0 : Addr) (x1 : Addr) (m : MethodId) : entryFrame m #[(.ref x0), (.ref x1)] 2 = mkF m 0 #[.val (.ref x0), .val (.ref x1)] [] := by first | (simp [entryFrame, mkF, argsToLocals, Value.category]; done) | rfl
def Q15_1 (Z : State) (a : Addr) (b : Addr) (c0 : Int64) (lo : Int32) (g0 : Int64) (h0 : Heap) (n0 : Nat) : Option Value → Heap → Prop := fun v h => v = none ∧ Keep h0 h [a] ∧ Exa Z h a "com/example/stratasig/stratasig/index/GapCoding$Tally" ∧ Fld Z h a "com/example/stratasig/stratasig/index/GapCoding$Tally" "count" "J" (.long c0) ∧ Fld Z h a "com/example/stratasig/stratasig/index/GapCoding$Tally" "lowest" "I" (.int lo) ∧ Fld Z h a "com/example/stratasig/stratasig/index/GapCoding$Tally" "atLowest" "J" (.long (lushr g0 lo)) ∧ Fld Z h a "com/example/stratasig/stratasig/index/GapCoding$Tally" "oneAbove" "J" (.long (lushr g0 (lo + (1 : Int32)))) ∧ Fld Z h a "com/example/stratasig/stratasig/index/GapCoding$Tally" "twoAbove" "J" (.long (lushr g0 (lo + (2 : Int32))))
set_option maxRecDepth 65536 in
set_option maxHeartbeats 40000000 in
theorem rm15_1 (l : Launch) (Z : State) (a0 : Array Value) (hw : ∀ d ∈ tables_1, d.before a0 Z = true) (a : Addr) (b : Addr) (c0 : Int64) (lo : Int32) (g0 : Int64) (h0 : Heap) (n0 : Nat) (Z0 : n0 ≤ h0.size) (F_count : Fld Z h0 a "com/example/stratasig/stratasig/index/GapCoding$Tally" "count" "J" (.long c0)) (F_lowest : Fld Z h0 a "com/example/stratasig/stratasig/index/GapCoding$Tally" "lowest" "I" (.int lo)) (F_atLowest : Fld Z h0 a "com/example/stratasig/stratasig/index/GapCoding$Tally" "atLowest" "J" (.long (0 : Int64))) (F_oneAbove : Fld Z h0 a "com/example/stratasig/stratasig/index/GapCoding$Tally" "oneAbove" "J" (.long (0 : Int64))) (F_twoAbove : Fld Z h0 a "com/example/stratasig/stratasig/index/GapCoding$Tally" "twoAbove" "J" (.long (0 : Int64))) (V1 : Va Z h0 b .long [(.long g0)]) (E1 : Exa Z h0 a "com/example/stratasig/stratasig/index/GapCoding$Tally") (G1 : n0 ≤ a) (ne1 : b ≠ a) : Ctr l Z (⟨"com/example/stratasig/stratasig/index/GapCoding$Tally", "add", "([J)V"⟩ : MethodName) prog_131_method_4_code 2 none ({ frames := 1, cells := 0, slots := 0, locals := 23 } : Room) #[(.ref a), (.ref b)] h0 n0 (Q15_1 Z a b c0 lo g0 h0 n0) := by
  refine Ctr.of (plainFor_of_name pn_4) (ef_15_1 a b) ?_
  intro p e s m below meth c T0 hx hby hml hown hnm hret hlk hZ X0 e0
  have N0 := Fr.nil n0
  refine g_aloadN X0 hx (hb hby d15_0) (pc' := 1) rfl rfl rfl ?_
  refine g_dup X0 hx (hb hby d15_1) (pc' := 2) rfl rfl ?_
  obtain ⟨T376, X376, e376, st376⟩ := getF X0 hx hZ hown (host := "") (Or.inl (hw _ (List.mem_of_getElem? (i := 76) rfl))) Via.refl e0 F_atLowest (g := (mkF m 2 #[.val (.ref a), .val (.ref b)] [(.ref a), (.ref a)])) rfl rfl (hb hby d15_2)
  refine Go.movp st376 (mkF m 5 #[.val (.ref a), .val (.ref b)] [(.long (0 : Int64)), (.ref a)]) rfl ?_
  refine g_aloadN X376 hx (hb hby d15_5) (pc' := 6) rfl rfl rfl ?_
  refine g_aloadN X376 hx (hb hby d15_6) (pc' := 7) rfl rfl rfl ?_
  obtain ⟨T377, X377, e377, st377⟩ := getF X376 hx hZ hown (host := "") (Or.inl (hw _ (List.mem_of_getElem? (i := 45) rfl))) Via.refl e376 F_lowest (g := (mkF m 7 #[.val (.ref a), .val (.ref b)] [(.ref a), (.ref b), (.long (0 : Int64)), (.ref a)])) rfl rfl (hb hby d15_7)
  refine Go.movp st377 (mkF m 10 #[.val (.ref a), .val (.ref b)] [(.int lo), (.ref b), (.long (0 : Int64)), (.ref a)]) rfl ?_
  obtain ⟨v378, T378, h378, L378, X378, e378, N378, q378, st378⟩ := h_static X377 hx (W := 3) (Ls := #[.val (.ref a), .val (.ref b)]) (argsL := [(.ref b), (.int lo)]) (rest := [(.long (0 : Int64)), (.ref a)]) hZ e377 N0 hml hown (rm16_1 l Z a0 hw b lo g0 h0 n0 Z0 V1) (hw _ (List.mem_of_getElem? (i := 93) rfl)) (hw _ (List.mem_of_getElem? (i := 94) rfl)) (hw _ (List.mem_of_getElem? (i := 20) rfl)) (hw _ (List.mem_of_getElem? (i := 95) rfl)) (by decide) pd___JI_J rfl rfl (hb hby d15_10) rfl (by decide) (by decide) (by decide) (by decide)
  obtain ⟨rfl, rfl⟩ := q378
  refine Go.movp st378 (mkF m 13 #[.val (.ref a), .val (.ref b)] [(.long (lushr g0 lo)), (.long (0 : Int64)), (.ref a)]) rfl ?_
  refine g_ladd X378 hx (hb hby d15_13) (pc' := 14) rfl ?_
  refine Go.cast (show (mkF m 14 #[.val (.ref a), .val (.ref b)] [(.long ((0 : Int64) + (lushr g0 lo))), (.ref a)]) = (mkF m 14 #[.val (.ref a), .val (.ref b)] [(.long (lushr g0 lo)), (.ref a)]) from by rw [show ((0 : Int64) + (lushr g0 lo)) = (lushr g0 lo) from (Int64.zero_add _)]) ?_
  obtain ⟨T379, h379, X379, e379, W379, st379⟩ := putF X378 hx hZ hown (host := "") (Or.inl (hw _ (List.mem_of_getElem? (i := 76) rfl))) Via.refl e378 F_atLowest E1 (Or.inl (hw _ (List.mem_of_getElem? (i := 53) rfl))) (hw _ (List.mem_of_getElem? (i := 19) rfl)) (ty := .long) (by decide) rfl rfl (g := (mkF m 14 #[.val (.ref a), .val (.ref b)] [(.long (lushr g0 lo)), (.ref a)])) rfl rfl (hb hby d15_14)
  have f380 : Fld Z h379 a "com/example/stratasig/stratasig/index/GapCoding$Tally" "atLowest" "J" (.long (lushr g0 lo)) := Fld.same W379 F_atLowest
  have N379 := Fr.snoc X379 N378 G1
  have f381 := Fld.other W379 F_count (Or.inr (slot_ne (Or.inr (hw _ (List.mem_of_getElem? (i := 30) rfl))) (Or.inl (hw _ (List.mem_of_getElem? (i := 53) rfl))) (by decide) (t := .long) (t' := .long) (by decide) (by decide)))
  have f382 := Fld.other W379 F_lowest (Or.inr (slot_ne (Or.inr (hw _ (List.mem_of_getElem? (i := 46) rfl))) (Or.inl (hw _ (List.mem_of_getElem? (i := 53) rfl))) (by decide) (t := .int) (t' := .long) (by decide) (by decide)))
  have f383 := Fld.other W379 F_oneAbove (Or.inr (slot_ne (Or.inl (hw _ (List.mem_of_getElem? (i := 55) rfl))) (Or.inl (hw _ (List.mem_of_getElem? (i := 53) rfl))) (by decide) (t := .long) (t' := .long) (by decide) (by decide)))
  have f384 := Fld.other W379 F_twoAbove (Or.inr (slot_ne (Or.inl (hw _ (List.mem_of_getElem? (i := 57) rfl))) (Or.inl (hw _ (List.mem_of_getElem? (i := 53) rfl))) (by decide) (t := .long) (t' := .long) (by decide) (by decide)))
  have f385 := V1.other W379 ne1
  have f386 := Exa.wr W379 E1
  have Z387 : n0 ≤ h379.size := Nat.le_trans Z0 (Keep.of_wr W379).1
  have K388 := (Keep.refl h0 [a]).wr W379 (Or.inl (List.mem_of_getElem? (i := 0) rfl))
  refine Go.movp st379 (mkF m 17 #[.val (.ref a), .val (.ref b)] []) rfl ?_
  refine g_aloadN X379 hx (hb hby d15_17) (pc' := 18) rfl rfl rfl ?_
  refine g_dup X379 hx (hb hby d15_18) (pc' := 19) rfl rfl ?_
  obtain ⟨T389, X389, e389, st389⟩ := getF X379 hx hZ hown (host := "") (Or.inl (hw _ (List.mem_of_getElem? (i := 77) rfl))) Via.refl e379 f383 (g := (mkF m 19 #[.val (.ref a), .val (.ref b)] [(.ref a), (.ref a)])) rfl rfl (hb hby d15_19)
  refine Go.movp st389 (mkF m 22 #[.val (.ref a), .val (.ref b)] [(.long (0 : Int64)), (.ref a)]) rfl ?_
  refine g_aloadN X389 hx (hb hby d15_22) (pc' := 23) rfl rfl rfl ?_
  refine g_aloadN X389 hx (hb hby d15_23) (pc' := 24) rfl rfl rfl ?_
  obtain ⟨T390, X390, e390, st390⟩ := getF X389 hx hZ hown (host := "") (Or.inl (hw _ (List.mem_of_getElem? (i := 45) rfl))) Via.refl e389 f382 (g := (mkF m 24 #[.val (.ref a), .val (.ref b)] [(.ref a), (.ref b), (.long (0 : Int64)), (.ref a)])) rfl rfl (hb hby d15_24)
  refine Go.movp st390 (mkF m 27 #[.val (.ref a), .val (.ref b)] [(.int lo), (.ref b), (.long (0 : Int64)), (.ref a)]) rfl ?_
  refine g_iconst X390 hx (hb hby d15_27) (pc' := 28) rfl (z := (1 : Int32)) rfl ?_
  refine g_iadd X390 hx (hb hby d15_28) (pc' := 29) rfl ?_
  obtain ⟨v391, T391, h391, L391, X391, e391, N391, q391, st391⟩ := h_static X390 hx (W := 3) (Ls := #[.val (.ref a), .val (.ref b)]) (argsL := [(.ref b), (.int (lo + (1 : Int32)))]) (rest := [(.long (0 : Int64)), (.ref a)]) hZ e390 N379 hml hown (rm16_1 l Z a0 hw b (lo + (1 : Int32)) g0 h379 n0 Z387 f385) (hw _ (List.mem_of_getElem? (i := 93) rfl)) (hw _ (List.mem_of_getElem? (i := 94) rfl)) (hw _ (List.mem_of_getElem? (i := 20) rfl)) (hw _ (List.mem_of_getElem? (i := 95) rfl)) (by decide) pd___JI_J rfl rfl (hb hby d15_29) rfl (by decide) (by decide) (by decide) (by decide)
  obtain ⟨rfl, rfl⟩ := q391
  refine Go.movp st391 (mkF m 32 #[.val (.ref a), .val (.ref b)] [(.long (lushr g0 (lo + (1 : Int32)))), (.long (0 : Int64)), (.ref a)]) rfl ?_
  refine g_ladd X391 hx (hb hby d15_32) (pc' := 33) rfl ?_
  refine Go.cast (show (mkF m 33 #[.val (.ref a), .val (.ref b)] [(.long ((0 : Int64) + (lushr g0 (lo + (1 : Int32))))), (.ref a)]) = (mkF m 33 #[.val (.ref a), .val (.ref b)] [(.long (lushr g0 (lo + (1 : Int32)))), (.ref a)]) from by rw [show ((0 : Int64) + (lushr g0 (lo + (1 : Int32)))) = (lushr g0 (lo + (1 : Int32))) from (Int64.zero_add _)]) ?_
  obtain ⟨T392, h392, X392, e392, W392, st392⟩ := putF X391 hx hZ hown (host := "") (Or.inl (hw _ (List.mem_of_getElem? (i := 77) rfl))) Via.refl e391 f383 f386 (Or.inl (hw _ (List.mem_of_getElem? (i := 55) rfl))) (hw _ (List.mem_of_getElem? (i := 19) rfl)) (ty := .long) (by decide) rfl rfl (g := (mkF m 33 #[.val (.ref a), .val (.ref b)] [(.long (lushr g0 (lo + (1 : Int32)))), (.ref a)])) rfl rfl (hb hby d15_33)
  have f393 : Fld Z h392 a "com/example/stratasig/stratasig/index/GapCoding$Tally" "oneAbove" "J" (.long (lushr g0 (lo + (1 : Int32)))) := Fld.same W392 f383
  have N392 := Fr.snoc X392 N391 G1
  have f394 := Fld.other W392 f381 (Or.inr (slot_ne (Or.inr (hw _ (List.mem_of_getElem? (i := 30) rfl))) (Or.inl (hw _ (List.mem_of_getElem? (i := 55) rfl))) (by decide) (t := .long) (t' := .long) (by decide) (by decide)))
  have f395 := Fld.other W392 f382 (Or.inr (slot_ne (Or.inr (hw _ (List.mem_of_getElem? (i := 46) rfl))) (Or.inl (hw _ (List.mem_of_getElem? (i := 55) rfl))) (by decide) (t := .int) (t' := .long) (by decide) (by decide)))
  have f396 := Fld.other W392 f384 (Or.inr (slot_ne (Or.inl (hw _ (List.mem_of_getElem? (i := 57) rfl))) (Or.inl (hw _ (List.mem_of_getElem? (i := 55) rfl))) (by decide) (t := .long) (t' := .long) (by decide) (by decide)))
  have f397 := f385.other W392 ne1
  have f398 := Exa.wr W392 f386
  have f399 := Fld.other W392 f380 (Or.inr (slot_ne (Or.inl (hw _ (List.mem_of_getElem? (i := 53) rfl))) (Or.inl (hw _ (List.mem_of_getElem? (i := 55) rfl))) (by decide) (t := .long) (t' := .long) (by decide) (by decide)))
  have Z400 : n0 ≤ h392.size := Nat.le_trans Z387 (Keep.of_wr W392).1
  have K401 := K388.wr W392 (Or.inl (List.mem_of_getElem? (i := 0) rfl))
  refine Go.movp st392 (mkF m 36 #[.val (.ref a), .val (.ref b)] []) rfl ?_
  refine g_aloadN X392 hx (hb hby d15_36) (pc' := 37) rfl rfl rfl ?_
  refine g_dup X392 hx (hb hby d15_37) (pc' := 38) rfl rfl ?_
  obtain ⟨T402, X402, e402, st402⟩ := getF X392 hx hZ hown (host := "") (Or.inl (hw _ (List.mem_of_getElem? (i := 78) rfl))) Via.refl e392 f396 (g := (mkF m 38 #[.val (.ref a), .val (.ref b)] [(.ref a), (.ref a)])) rfl rfl (hb hby d15_38)
  refine Go.movp st402 (mkF m 41 #[.val (.ref a), .val (.ref b)] [(.long (0 : Int64)), (.ref a)]) rfl ?_
  refine g_aloadN X402 hx (hb hby d15_41) (pc' := 42) rfl rfl rfl ?_
  refine g_aloadN X402 hx (hb hby d15_42) (pc' := 43) rfl rfl rfl ?_
  obtain ⟨T403, X403, e403, st403⟩ := getF X402 hx hZ hown (host := "") (Or.inl (hw _ (List.mem_of_getElem? (i := 45) rfl))) Via.refl e402 f395 (g := (mkF m 43 #[.val (.ref a), .val (.ref b)] [(.ref a), (.ref b), (.long (0 : Int64)), (.ref a)])) rfl rfl (hb hby d15_43)
  refine Go.movp st403 (mkF m 46 #[.val (.ref a), .val (.ref b)] [(.int lo), (.ref b), (.long (0 : Int64)), (.ref a)]) rfl ?_
  refine g_iconst X403 hx (hb hby d15_46) (pc' := 47) rfl (z := (2 : Int32)) rfl ?_
  refine g_iadd X403 hx (hb hby d15_47) (pc' := 48) rfl ?_
  obtain ⟨v404, T404, h404, L404, X404, e404, N404, q404, st404⟩ := h_static X403 hx (W := 3) (Ls := #[.val (.ref a), .val (.ref b)]) (argsL := [(.ref b), (.int (lo + (2 : Int32)))]) (rest := [(.long (0 : Int64)), (.ref a)]) hZ e403 N392 hml hown (rm16_1 l Z a0 hw b (lo + (2 : Int32)) g0 h392 n0 Z400 f397) (hw _ (List.mem_of_getElem? (i := 93) rfl)) (hw _ (List.mem_of_getElem? (i := 94) rfl)) (hw _ (List.mem_of_getElem? (i := 20) rfl)) (hw _ (List.mem_of_getElem? (i := 95) rfl)) (by decide) pd___JI_J rfl rfl (hb hby d15_48) rfl (by decide) (by decide) (by decide) (by decide)
  obtain ⟨rfl, rfl⟩ := q404
  refine Go.movp st404 (mkF m 51 #[.val (.ref a), .val (.ref b)] [(.long (lushr g0 (lo + (2 : Int32)))), (.long (0 : Int64)), (.ref a)]) rfl ?_
  refine g_ladd X404 hx (hb hby d15_51) (pc' := 52) rfl ?_
  refine Go.cast (show (mkF m 52 #[.val (.ref a), .val (.ref b)] [(.long ((0 : Int64) + (lushr g0 (lo + (2 : Int32))))), (.ref a)]) = (mkF m 52 #[.val (.ref a), .val (.ref b)] [(.long (lushr g0 (lo + (2 : Int32)))), (.ref a)]) from by rw [show ((0 : Int64) + (lushr g0 (lo + (2 : Int32)))) = (lushr g0 (lo + (2 : Int32))) from (Int64.zero_add _)]) ?_
  obtain ⟨T405, h405, X405, e405, W405, st405⟩ := putF X404 hx hZ hown (host := "") (Or.inl (hw _ (List.mem_of_getElem? (i := 78) rfl))) Via.refl e404 f396 f398 (Or.inl (hw _ (List.mem_of_getElem? (i := 57) rfl))) (hw _ (List.mem_of_getElem? (i := 19) rfl)) (ty := .long) (by decide) rfl rfl (g := (mkF m 52 #[.val (.ref a), .val (.ref b)] [(.long (lushr g0 (lo + (2 : Int32)))), (.ref a)])) rfl rfl (hb hby d15_52)
  have f406 : Fld Z h405 a "com/example/stratasig/stratasig/index/GapCoding$Tally" "twoAbove" "J" (.long (lushr g0 (lo + (2 : Int32)))) := Fld.same W405 f396
  have N405 := Fr.snoc X405 N404 G1
  have f407 := Fld.other W405 f394 (Or.inr (slot_ne (Or.inr (hw _ (List.mem_of_getElem? (i := 30) rfl))) (Or.inl (hw _ (List.mem_of_getElem? (i := 57) rfl))) (by decide) (t := .long) (t' := .long) (by decide) (by decide)))
  have f408 := Fld.other W405 f395 (Or.inr (slot_ne (Or.inr (hw _ (List.mem_of_getElem? (i := 46) rfl))) (Or.inl (hw _ (List.mem_of_getElem? (i := 57) rfl))) (by decide) (t := .int) (t' := .long) (by decide) (by decide)))
  have f409 := f397.other W405 ne1
  have f410 := Exa.wr W405 f398
  have f411 := Fld.other W405 f399 (Or.inr (slot_ne (Or.inl (hw _ (List.mem_of_getElem? (i := 53) rfl))) (Or.inl (hw _ (List.mem_of_getElem? (i := 57) rfl))) (by decide) (t := .long) (t' := .long) (by decide) (by decide)))
  have f412 := Fld.other W405 f393 (Or.inr (slot_ne (Or.inl (hw _ (List.mem_of_getElem? (i := 55) rfl))) (Or.inl (hw _ (List.mem_of_getElem? (i := 57) rfl))) (by decide) (t := .long) (t' := .long) (by decide) (by decide)))
  have Z413 : n0 ≤ h405.size := Nat.le_trans Z400 (Keep.of_wr W405).1
  have K414 := K401.wr W405 (Or.inl (List.mem_of_getElem? (i := 0) rfl))
  refine Go.movp st405 (mkF m 55 #[.val (.ref a), .val (.ref b)] []) rfl ?_
  exact g_return X405 hx hret (hb hby d15_55) N405 hlk (fun v t => endF (by decide) (by decide) v) (by rw [e405]; exact ⟨rfl, K414, f410, f407, f408, f411, f412, f406⟩)
theorem d14_18 : decode prog_128_method_4_code 18 = .ok (.aload_n 3, 1) := by decide +kernel
theorem d14_19 : decode prog_128_method_4_code 19 = .ok (.iload 5, 2) := by decide +kernel
theorem d14_21 : decode prog_128_method_4_code 21 = .ok (.laload, 1) := by decide +kernel
theorem d14_22 : decode prog_128_method_4_code 22 = .ok (.lstore 6, 2) := by decide +kernel
theorem d14_24 : decode prog_128_method_4_code 24 = .ok (.lload_n 1, 1) := by decide +kernel
theorem d14_25 : decode prog_128_method_4_code 25 = .ok (.lload 6, 2) := by decide +kernel
theorem d14_27 : decode prog_128_method_4_code 27 = .ok (.ladd, 1) := by decide +kernel
theorem d14_28 : decode prog_128_method_4_code 28 = .ok (.lstore_n 1, 1) := by decide +kernel
theorem d14_29 : decode prog_128_method_4_code 29 = .ok (.iinc 5 1, 3) := by decide +kernel
theorem d14_32 : decode prog_128_method_4_code 32 = .ok (.goto (-21), 3) := by decide +kernel
theorem ef_14_1 (x0 : Addr) (m : MethodId) : entryFrame m #[(.ref x0)] 8 = mkF m 0 #[.val (.ref x0), .unset, .unset, .unset, .unset, .unset, .unset, .unset] [] := by first | (simp [entryFrame, mkF, argsToLocals, Value.category]; done) | rfl
def Q14_1 (Z : State) (b : Addr) (g0 : Int64) (h0 : Heap) (n0 : Nat) : Option Value → Heap → Prop := fun v h => ∃ t, v = some (.ref t) ∧ n0 ≤ t ∧ Keep h0 h [] ∧ Exa Z h t "com/example/stratasig/stratasig/index/GapCoding$Tally" ∧ Fld Z h t "com/example/stratasig/stratasig/index/GapCoding$Tally" "count" "J" (.long (1 : Int64)) ∧ Fld Z h t "com/example/stratasig/stratasig/index/GapCoding$Tally" "lowest" "I" (.int (lowV (1 : Int64) g0)) ∧ Fld Z h t "com/example/stratasig/stratasig/index/GapCoding$Tally" "atLowest" "J" (.long (lushr g0 (lowV (1 : Int64) g0))) ∧ Fld Z h t "com/example/stratasig/stratasig/index/GapCoding$Tally" "oneAbove" "J" (.long (lushr g0 ((lowV (1 : Int64) g0) + (1 : Int32)))) ∧ Fld Z h t "com/example/stratasig/stratasig/index/GapCoding$Tally" "twoAbove" "J" (.long (lushr g0 ((lowV (1 : Int64) g0) + (2 : Int32))))
set_option maxRecDepth 65536 in
set_option maxHeartbeats 40000000 in
theorem rm14_1 (l : Launch) (Z : State) (a0 : Array Value) (hw : ∀ d ∈ tables_1, d.before a0 Z = true) (b : Addr) (g0 : Int64) (h0 : Heap) (n0 : Nat) (Z0 : n0 ≤ h0.size) (V1 : Va Z h0 b .long [(.long g0)]) : Ctr l Z (⟨"com/example/stratasig/stratasig/index/GapCoding", "tally", "([J)Lcom/example/stratasig/stratasig/index/GapCoding$Tally;"⟩ : MethodName) prog_128_method_4_code 8 (some (.object "com/example/stratasig/stratasig/index/GapCoding$Tally")) ({ frames := 3, cells := 1, slots := 6, locals := 50 } : Room) #[(.ref b)] h0 n0 (Q14_1 Z b g0 h0 n0) := by
  refine Ctr.of (plainFor_of_name pn_14) (ef_14_1 b) ?_
  intro p e s m below meth c T0 hx hby hml hown hnm hret hlk hZ X0 e0
  have N0 := Fr.nil n0
  refine g_lconst X0 hx (hb hby d14_0) (pc' := 1) rfl (z := (0 : Int64)) rfl ?_
  refine g_lstoreN X0 hx (hb hby d14_1) (pc' := 2) rfl (Ls' := #[.val (.ref b), .val (.long (0 : Int64)), .second, .unset, .unset, .unset, .unset, .unset]) rfl ?_
  refine g_aloadN X0 hx (hb hby d14_2) (pc' := 3) rfl rfl rfl ?_
  refine g_astoreN X0 hx (hb hby d14_3) (pc' := 4) rfl rfl (Ls' := #[.val (.ref b), .val (.long (0 : Int64)), .second, .val (.ref b), .unset, .unset, .unset, .unset]) rfl ?_
  refine g_aloadN X0 hx (hb hby d14_4) (pc' := 5) rfl rfl rfl ?_
  refine g_arraylength X0 hx hZ e0 V1 (z := (1 : Int32)) (hb hby d14_5) (pc' := 6) rfl rfl ?_
  refine g_istore X0 hx (hb hby d14_6) (pc' := 8) rfl (Ls' := #[.val (.ref b), .val (.long (0 : Int64)), .second, .val (.ref b), .val (.int (1 : Int32)), .unset, .unset, .unset]) rfl ?_
  refine g_iconst X0 hx (hb hby d14_8) (pc' := 9) rfl (z := (0 : Int32)) rfl ?_
  refine g_istore X0 hx (hb hby d14_9) (pc' := 11) rfl (Ls' := #[.val (.ref b), .val (.long (0 : Int64)), .second, .val (.ref b), .val (.int (1 : Int32)), .val (.int (0 : Int32)), .unset, .unset]) rfl ?_
  refine g_iload X0 hx (hb hby d14_11) (pc' := 13) rfl rfl ?_
  refine g_iload X0 hx (hb hby d14_13) (pc' := 15) rfl rfl ?_
  refine g_icmp_ge X0 hx (hb hby d14_15) (pc1 := 18) rfl (by decide) (pc2 := 35) (by decide) (fun hc15 => absurd (by decide) hc15) (fun hc15 => ?_)
  refine g_aloadN X0 hx (hb hby d14_18) (pc' := 19) rfl rfl rfl ?_
  refine g_iload X0 hx (hb hby d14_19) (pc' := 21) rfl rfl ?_
  refine g_laload X0 hx hZ e0 V1 (i := 0) (v := (.long g0)) (hb hby d14_21) (pc' := 22) rfl (by decide) rfl rfl ?_
  refine g_lstore X0 hx (hb hby d14_22) (pc' := 24) rfl (Ls' := #[.val (.ref b), .val (.long (0 : Int64)), .second, .val (.ref b), .val (.int (1 : Int32)), .val (.int (0 : Int32)), .val (.long g0), .second]) rfl ?_
  refine g_lloadN X0 hx (hb hby d14_24) (pc' := 25) rfl rfl ?_
  refine g_lload X0 hx (hb hby d14_25) (pc' := 27) rfl rfl ?_
  refine g_ladd X0 hx (hb hby d14_27) (pc' := 28) rfl ?_
  refine Go.cast (show (mkF m 28 #[.val (.ref b), .val (.long (0 : Int64)), .second, .val (.ref b), .val (.int (1 : Int32)), .val (.int (0 : Int32)), .val (.long g0), .second] [(.long ((0 : Int64) + g0))]) = (mkF m 28 #[.val (.ref b), .val (.long (0 : Int64)), .second, .val (.ref b), .val (.int (1 : Int32)), .val (.int (0 : Int32)), .val (.long g0), .second] [(.long g0)]) from by rw [show ((0 : Int64) + g0) = g0 from (Int64.zero_add _)]) ?_
  refine g_lstoreN X0 hx (hb hby d14_28) (pc' := 29) rfl (Ls' := #[.val (.ref b), .val (.long g0), .second, .val (.ref b), .val (.int (1 : Int32)), .val (.int (0 : Int32)), .val (.long g0), .second]) rfl ?_
  refine g_iinc X0 hx (hb hby d14_29) (pc' := 32) rfl rfl (z := (1 : Int32)) rfl (Ls' := #[.val (.ref b), .val (.long g0), .second, .val (.ref b), .val (.int (1 : Int32)), .val (.int (1 : Int32)), .val (.long g0), .second]) rfl ?_
  refine g_goto X0 hx (hb hby d14_32) (by decide) (pc' := 11) (by decide) ?_
  refine g_iload X0 hx (hb hby d14_11) (pc' := 13) rfl rfl ?_
  refine g_iload X0 hx (hb hby d14_13) (pc' := 15) rfl rfl ?_
  refine g_icmp_ge X0 hx (hb hby d14_15) (pc1 := 18) rfl (by decide) (pc2 := 35) (by decide) (fun hc15_1 => ?_) (fun hc15_1 => absurd hc15_1 (by decide))
  obtain ⟨T415, h415, X415, e415, E415, A415, D415, -, st415⟩ := newO X0 hx hZ hown (hw _ (List.mem_of_getElem? (i := 86) rfl)) (hw _ (List.mem_of_getElem? (i := 19) rfl)) (hw _ (List.mem_of_getElem? (i := 20) rfl)) e0 (g := (mkF m 35 #[.val (.ref b), .val (.long g0), .second, .val (.ref b), .val (.int (1 : Int32)), .val (.int (1 : Int32)), .val (.long g0), .second] [])) rfl (hb hby d14_35) (by decide) (by decide)
  obtain ⟨b415, g415⟩ : ∃ z, z = h0.size := ⟨_, rfl⟩
  rw [← g415] at A415 D415 st415
  have ne416 : b ≠ b415 := Nat.ne_of_lt (g415 ▸ V1.lt)
  have ge417 : n0 ≤ b415 := g415 ▸ Z0
  have sz418 : h0.size ≤ b415 := g415 ▸ (Keep.refl h0 []).1
  have f419 := V1.ext E415
  have Z420 : n0 ≤ h415.size := Nat.le_trans Z0 E415.1
  have K421 := (Keep.refl h0 []).ext E415
  have f422 : Fld Z h415 b415 "com/example/stratasig/stratasig/index/GapCoding$Tally" "count" "J" (.long (0 : Int64)) := D415 (Or.inr (hw _ (List.mem_of_getElem? (i := 30) rfl))) (ty := .long) (by decide)
  have f423 : Fld Z h415 b415 "com/example/stratasig/stratasig/index/GapCoding$Tally" "sum" "J" (.long (0 : Int64)) := D415 (Or.inr (hw _ (List.mem_of_getElem? (i := 32) rfl))) (ty := .long) (by decide)
  have f424 : Fld Z h415 b415 "com/example/stratasig/stratasig/index/GapCoding$Tally" "lowest" "I" (.int (0 : Int32)) := D415 (Or.inr (hw _ (List.mem_of_getElem? (i := 46) rfl))) (ty := .int) (by decide)
  have f425 : Fld Z h415 b415 "com/example/stratasig/stratasig/index/GapCoding$Tally" "atLowest" "J" (.long (0 : Int64)) := D415 (Or.inl (hw _ (List.mem_of_getElem? (i := 53) rfl))) (ty := .long) (by decide)
  have f426 : Fld Z h415 b415 "com/example/stratasig/stratasig/index/GapCoding$Tally" "oneAbove" "J" (.long (0 : Int64)) := D415 (Or.inl (hw _ (List.mem_of_getElem? (i := 55) rfl))) (ty := .long) (by decide)
  have f427 : Fld Z h415 b415 "com/example/stratasig/stratasig/index/GapCoding$Tally" "twoAbove" "J" (.long (0 : Int64)) := D415 (Or.inl (hw _ (List.mem_of_getElem? (i := 57) rfl))) (ty := .long) (by decide)
  refine Go.movp st415 (mkF m 38 #[.val (.ref b), .val (.long g0), .second, .val (.ref b), .val (.int (1 : Int32)), .val (.int (1 : Int32)), .val (.long g0), .second] [(.ref b415)]) rfl ?_
  refine g_dup X415 hx (hb hby d14_38) (pc' := 39) rfl rfl ?_
  refine g_aloadN X415 hx (hb hby d14_39) (pc' := 40) rfl rfl rfl ?_
  refine g_arraylength X415 hx hZ e415 f419 (z := (1 : Int32)) (hb hby d14_40) (pc' := 41) rfl rfl ?_
  refine g_i2l X415 hx (hb hby d14_41) (pc' := 42) rfl ?_
  refine Go.cast (show (mkF m 42 #[.val (.ref b), .val (.long g0), .second, .val (.ref b), .val (.int (1 : Int32)), .val (.int (1 : Int32)), .val (.long g0), .second] [(.long (1 : Int32).toInt64), (.ref b415), (.ref b415)]) = (mkF m 42 #[.val (.ref b), .val (.long g0), .second, .val (.ref b), .val (.int (1 : Int32)), .val (.int (1 : Int32)), .val (.long g0), .second] [(.long (1 : Int64)), (.ref b415), (.ref b415)]) from by rw [show (1 : Int32).toInt64 = (1 : Int64) from (by decide)]) ?_
  refine g_lloadN X415 hx (hb hby d14_42) (pc' := 43) rfl rfl ?_
  obtain ⟨v428, T428, h428, L428, X428, e428, N428, q428, st428⟩ := h_special (a := b415) X415 hx (W := 1) (Ls := #[.val (.ref b), .val (.long g0), .second, .val (.ref b), .val (.int (1 : Int32)), .val (.int (1 : Int32)), .val (.long g0), .second]) (argsL := [(.long (1 : Int64)), (.long g0)]) (rest := [(.ref b415)]) hZ e415 N0 hml hown rfl (rm4 l Z a0 hw b415 (1 : Int64) g0 h415 n0 Z420 f422 f423 f424 f425 f426 f427 A415 ge417) (hw _ (List.mem_of_getElem? (i := 87) rfl)) (hw _ (List.mem_of_getElem? (i := 26) rfl)) (hw _ (List.mem_of_getElem? (i := 20) rfl)) (hw _ (List.mem_of_getElem? (i := 27) rfl)) (by decide) pd__JJ_V rfl rfl (hb hby d14_43) rfl (by decide) (by decide) (by decide) (by decide)
  obtain ⟨rfl, K428, A428, C428, L428, P428, Q428, R428⟩ := q428
  have f429 := f419.keep K428 (ninS ne416 nin0)
  have f430 := A415.keep K428
  have Z431 : n0 ≤ h428.size := Nat.le_trans Z420 K428.1
  have K432 := K421.trans K428 (allS (Or.inr sz418) all0)
  refine Go.movp st428 (mkF m 46 #[.val (.ref b), .val (.long g0), .second, .val (.ref b), .val (.int (1 : Int32)), .val (.int (1 : Int32)), .val (.long g0), .second] [(.ref b415)]) rfl ?_
  refine g_astoreN X428 hx (hb hby d14_46) (pc' := 47) rfl rfl (Ls' := #[.val (.ref b), .val (.long g0), .second, .val (.ref b415), .val (.int (1 : Int32)), .val (.int (1 : Int32)), .val (.long g0), .second]) rfl ?_
  refine g_aloadN X428 hx (hb hby d14_47) (pc' := 48) rfl rfl rfl ?_
  refine g_aloadN X428 hx (hb hby d14_48) (pc' := 49) rfl rfl rfl ?_
  obtain ⟨v433, T433, h433, L433, X433, e433, N433, q433, st433⟩ := h_virtual (a := b415) (z := (⟨"com/example/stratasig/stratasig/index/GapCoding$Tally", "add", "([J)V"⟩ : MethodName)) X428 hx (W := 0) (Ls := #[.val (.ref b), .val (.long g0), .second, .val (.ref b415), .val (.int (1 : Int32)), .val (.int (1 : Int32)), .val (.long g0), .second]) (argsL := [(.ref b)]) (rest := []) hZ e428 N428 hml hown (rm15_1 l Z a0 hw b415 b (1 : Int64) (lowV (1 : Int64) g0) g0 h428 n0 Z431 C428 L428 P428 Q428 R428 f429 A428 ge417 ne416) A428 (hw _ (List.mem_of_getElem? (i := 88) rfl)) (hw _ (List.mem_of_getElem? (i := 89) rfl)) (notFace_of_selects (args := #[]) (mvT hZ (hw _ (List.mem_of_getElem? (i := 91) rfl)))) (hw _ (List.mem_of_getElem? (i := 91) rfl)) (hw _ (List.mem_of_getElem? (i := 90) rfl)) (hw _ (List.mem_of_getElem? (i := 20) rfl)) (hw _ (List.mem_of_getElem? (i := 92) rfl)) (by decide) pd___J_V rfl rfl (hb hby d14_49) rfl (by decide) (by decide) (by decide) (by decide)
  obtain ⟨rfl, K433, A433, C433, L433, P433, Q433, R433⟩ := q433
  have f434 := f429.keep K433 (ninS ne416 nin0)
  have f435 := A428.keep K433
  have Z436 : n0 ≤ h433.size := Nat.le_trans Z431 K433.1
  have K437 := K432.trans K433 (allS (Or.inr sz418) all0)
  refine Go.movp st433 (mkF m 52 #[.val (.ref b), .val (.long g0), .second, .val (.ref b415), .val (.int (1 : Int32)), .val (.int (1 : Int32)), .val (.long g0), .second] []) rfl ?_
  refine g_aloadN X433 hx (hb hby d14_52) (pc' := 53) rfl rfl rfl ?_
  exact g_areturn X433 hx rfl rfl hret (hb hby d14_53) N433 hlk (fun v t => endF (by decide) (by decide) v) (by rw [e433]; exact ⟨_, rfl, ge417, K437, A433, C433, L433, P433, Q433, R433⟩)
theorem ef_13_1 (x0 : Addr) (m : MethodId) : entryFrame m #[(.ref x0)] 1 = mkF m 0 #[.val (.ref x0)] [] := by first | (simp [entryFrame, mkF, argsToLocals, Value.category]; done) | rfl
def Q13_1 (Z : State) (b : Addr) (g0 : Int64) (h0 : Heap) (n0 : Nat) : Option Value → Heap → Prop := fun v h => v = some (.long (bitsV (1 : Int64) (lowV (1 : Int64) g0) (lushr g0 (lowV (1 : Int64) g0)) (lushr g0 ((lowV (1 : Int64) g0) + (1 : Int32))) (lushr g0 ((lowV (1 : Int64) g0) + (2 : Int32))))) ∧ Keep h0 h []
set_option maxRecDepth 65536 in
set_option maxHeartbeats 40000000 in
theorem rm13_1 (l : Launch) (Z : State) (a0 : Array Value) (hw : ∀ d ∈ tables_1, d.before a0 Z = true) (b : Addr) (g0 : Int64) (h0 : Heap) (n0 : Nat) (Z0 : n0 ≤ h0.size) (V1 : Va Z h0 b .long [(.long g0)]) : Ctr l Z (⟨"com/example/stratasig/stratasig/index/GapCoding", "bits", "([J)J"⟩ : MethodName) prog_128_method_3_code 1 (some .long) ({ frames := 4, cells := 3, slots := 12, locals := 69 } : Room) #[(.ref b)] h0 n0 (Q13_1 Z b g0 h0 n0) := by
  refine Ctr.of (plainFor_of_name pn_14) (ef_13_1 b) ?_
  intro p e s m below meth c T0 hx hby hml hown hnm hret hlk hZ X0 e0
  have N0 := Fr.nil n0
  refine g_aloadN X0 hx (hb hby d13_0) (pc' := 1) rfl rfl rfl ?_
  obtain ⟨v438, T438, h438, L438, X438, e438, N438, q438, st438⟩ := h_static X0 hx (W := 0) (Ls := #[.val (.ref b)]) (argsL := [(.ref b)]) (rest := []) hZ e0 N0 hml hown (rm14_1 l Z a0 hw b g0 h0 n0 Z0 V1) (hw _ (List.mem_of_getElem? (i := 83) rfl)) (hw _ (List.mem_of_getElem? (i := 84) rfl)) (hw _ (List.mem_of_getElem? (i := 81) rfl)) (hw _ (List.mem_of_getElem? (i := 85) rfl)) (by decide) pd___J_Lcom_example_stratasig_stratasig_index_GapCoding_Tally_ rfl rfl (hb hby d13_1) rfl (by decide) (by decide) (by decide) (by decide)
  obtain ⟨t438, rfl, ge438, K438, A438, C438, L438, P438, Q438, R438⟩ := q438
  have f439 := V1.keep K438 nin0
  have Z440 : n0 ≤ h438.size := Nat.le_trans Z0 K438.1
  have K441 := (Keep.refl h0 []).trans K438 all0
  refine Go.movp st438 (mkF m 4 #[.val (.ref b)] [(.ref t438)]) rfl ?_
  obtain ⟨v442, T442, h442, L442, X442, e442, N442, q442, st442⟩ := h_virtual (a := t438) (z := (⟨"com/example/stratasig/stratasig/index/GapCoding$Tally", "bits", "()J"⟩ : MethodName)) X438 hx (W := 0) (Ls := #[.val (.ref b)]) (argsL := []) (rest := []) hZ e438 N438 hml hown (rm10 l Z a0 hw t438 (1 : Int64) (lowV (1 : Int64) g0) (lushr g0 (lowV (1 : Int64) g0)) (lushr g0 ((lowV (1 : Int64) g0) + (1 : Int32))) (lushr g0 ((lowV (1 : Int64) g0) + (2 : Int32))) h438 n0 Z440 C438 L438 P438 Q438 R438 A438) A438 (hw _ (List.mem_of_getElem? (i := 96) rfl)) (hw _ (List.mem_of_getElem? (i := 64) rfl)) (notFace_of_selects (args := #[]) (mvT hZ (hw _ (List.mem_of_getElem? (i := 66) rfl)))) (hw _ (List.mem_of_getElem? (i := 66) rfl)) (hw _ (List.mem_of_getElem? (i := 65) rfl)) (hw _ (List.mem_of_getElem? (i := 20) rfl)) (hw _ (List.mem_of_getElem? (i := 67) rfl)) (by decide) pd___J rfl rfl (hb hby d13_4) rfl (by decide) (by decide) (by decide) (by decide)
  obtain ⟨rfl, K442⟩ := q442
  have f443 := f439.keep K442 nin0
  have f444 := C438.keep K442 nin0
  have f445 := L438.keep K442 nin0
  have f446 := P438.keep K442 nin0
  have f447 := Q438.keep K442 nin0
  have f448 := R438.keep K442 nin0
  have f449 := A438.keep K442
  have Z450 : n0 ≤ h442.size := Nat.le_trans Z440 K442.1
  have K451 := K441.trans K442 all0
  refine Go.movp st442 (mkF m 7 #[.val (.ref b)] [(.long (bitsV (1 : Int64) (lowV (1 : Int64) g0) (lushr g0 (lowV (1 : Int64) g0)) (lushr g0 ((lowV (1 : Int64) g0) + (1 : Int32))) (lushr g0 ((lowV (1 : Int64) g0) + (2 : Int32)))))]) rfl ?_
  exact g_lreturn X442 hx hret (hb hby d13_7) N442 hlk (fun v t => endF (by decide) (by decide) v) (by rw [e442]; exact ⟨rfl, K451⟩)
theorem ef_18_1 (x0 : Addr) (m : MethodId) : entryFrame m #[(.ref x0)] 1 = mkF m 0 #[.val (.ref x0)] [] := by first | (simp [entryFrame, mkF, argsToLocals, Value.category]; done) | rfl
def Q18_1 (Z : State) (b : Addr) (g0 : Int64) (h0 : Heap) (n0 : Nat) : Option Value → Heap → Prop := fun v h => v = some (.int ((lowV (1 : Int64) g0) + bestV (1 : Int64) (lushr g0 (lowV (1 : Int64) g0)) (lushr g0 ((lowV (1 : Int64) g0) + (1 : Int32))) (lushr g0 ((lowV (1 : Int64) g0) + (2 : Int32))))) ∧ Keep h0 h []
set_option maxRecDepth 65536 in
set_option maxHeartbeats 40000000 in
theorem rm18_1 (l : Launch) (Z : State) (a0 : Array Value) (hw : ∀ d ∈ tables_1, d.before a0 Z = true) (b : Addr) (g0 : Int64) (h0 : Heap) (n0 : Nat) (Z0 : n0 ≤ h0.size) (V1 : Va Z h0 b .long [(.long g0)]) : Ctr l Z (⟨"com/example/stratasig/stratasig/index/GapCoding", "parameter", "([J)I"⟩ : MethodName) prog_128_method_2_code 1 (some .int) ({ frames := 4, cells := 2, slots := 9, locals := 69 } : Room) #[(.ref b)] h0 n0 (Q18_1 Z b g0 h0 n0) := by
  refine Ctr.of (plainFor_of_name pn_14) (ef_18_1 b) ?_
  intro p e s m below meth c T0 hx hby hml hown hnm hret hlk hZ X0 e0
  have N0 := Fr.nil n0
  refine g_aloadN X0 hx (hb hby d18_0) (pc' := 1) rfl rfl rfl ?_
  obtain ⟨v452, T452, h452, L452, X452, e452, N452, q452, st452⟩ := h_static X0 hx (W := 0) (Ls := #[.val (.ref b)]) (argsL := [(.ref b)]) (rest := []) hZ e0 N0 hml hown (rm14_1 l Z a0 hw b g0 h0 n0 Z0 V1) (hw _ (List.mem_of_getElem? (i := 83) rfl)) (hw _ (List.mem_of_getElem? (i := 84) rfl)) (hw _ (List.mem_of_getElem? (i := 81) rfl)) (hw _ (List.mem_of_getElem? (i := 85) rfl)) (by decide) pd___J_Lcom_example_stratasig_stratasig_index_GapCoding_Tally_ rfl rfl (hb hby d18_1) rfl (by decide) (by decide) (by decide) (by decide)
  obtain ⟨t452, rfl, ge452, K452, A452, C452, L452, P452, Q452, R452⟩ := q452
  have f453 := V1.keep K452 nin0
  have Z454 : n0 ≤ h452.size := Nat.le_trans Z0 K452.1
  have K455 := (Keep.refl h0 []).trans K452 all0
  refine Go.movp st452 (mkF m 4 #[.val (.ref b)] [(.ref t452)]) rfl ?_
  obtain ⟨v456, T456, h456, L456, X456, e456, N456, q456, st456⟩ := h_virtual (a := t452) (z := (⟨"com/example/stratasig/stratasig/index/GapCoding$Tally", "parameter", "()I"⟩ : MethodName)) X452 hx (W := 0) (Ls := #[.val (.ref b)]) (argsL := []) (rest := []) hZ e452 N452 hml hown (rm17 l Z a0 hw t452 (1 : Int64) (lowV (1 : Int64) g0) (lushr g0 (lowV (1 : Int64) g0)) (lushr g0 ((lowV (1 : Int64) g0) + (1 : Int32))) (lushr g0 ((lowV (1 : Int64) g0) + (2 : Int32))) h452 n0 Z454 C452 L452 P452 Q452 R452 A452) A452 (hw _ (List.mem_of_getElem? (i := 105) rfl)) (hw _ (List.mem_of_getElem? (i := 98) rfl)) (notFace_of_selects (args := #[]) (mvT hZ (hw _ (List.mem_of_getElem? (i := 100) rfl)))) (hw _ (List.mem_of_getElem? (i := 100) rfl)) (hw _ (List.mem_of_getElem? (i := 99) rfl)) (hw _ (List.mem_of_getElem? (i := 20) rfl)) (hw _ (List.mem_of_getElem? (i := 101) rfl)) (by decide) pd___I rfl rfl (hb hby d18_4) rfl (by decide) (by decide) (by decide) (by decide)
  obtain ⟨rfl, K456⟩ := q456
  have f457 := f453.keep K456 nin0
  have f458 := C452.keep K456 nin0
  have f459 := L452.keep K456 nin0
  have f460 := P452.keep K456 nin0
  have f461 := Q452.keep K456 nin0
  have f462 := R452.keep K456 nin0
  have f463 := A452.keep K456
  have Z464 : n0 ≤ h456.size := Nat.le_trans Z454 K456.1
  have K465 := K455.trans K456 all0
  refine Go.movp st456 (mkF m 7 #[.val (.ref b)] [(.int ((lowV (1 : Int64) g0) + (bestV (1 : Int64) (lushr g0 (lowV (1 : Int64) g0)) (lushr g0 ((lowV (1 : Int64) g0) + (1 : Int32))) (lushr g0 ((lowV (1 : Int64) g0) + (2 : Int32))))))]) rfl ?_
  exact g_ireturn X456 hx hret (hb hby d18_7) N456 hlk (fun v t => endF (by decide) (by decide) v) (by rw [e456]; exact ⟨rfl, K465⟩)
theorem ef_16_2 (x0 : Addr) (x1 : Int32) (m : MethodId) : entryFrame m #[(.ref x0), (.int x1)] 9 = mkF m 0 #[.val (.ref x0), .val (.int x1), .unset, .unset, .unset, .unset, .unset, .unset, .unset] [] := by first | (simp [entryFrame, mkF, argsToLocals, Value.category]; done) | rfl
def Q16_2 (Z : State) (b : Addr) (rr : Int32) (g0 : Int64) (g1 : Int64) (h0 : Heap) (n0 : Nat) : Option Value → Heap → Prop := fun v h => v = some (.long ((lushr g0 rr) + (lushr g1 rr))) ∧ h0 = h
set_option maxRecDepth 65536 in
set_option maxHeartbeats 40000000 in
theorem rm16_2 (l : Launch) (Z : State) (a0 : Array Value) (hw : ∀ d ∈ tables_1, d.before a0 Z = true) (b : Addr) (rr : Int32) (g0 : Int64) (g1 : Int64) (h0 : Heap) (n0 : Nat) (Z0 : n0 ≤ h0.size) (V1 : Va Z h0 b .long [(.long g0), (.long g1)]) : Ctr l Z (⟨"com/example/stratasig/stratasig/index/GapCoding$Tally", "quotients", "([JI)J"⟩ : MethodName) prog_131_method_5_code 9 (some .long) ({ frames := 0, cells := 0, slots := 0, locals := 0 } : Room) #[(.ref b), (.int rr)] h0 n0 (Q16_2 Z b rr g0 g1 h0 n0) := by
  refine Ctr.of (plainFor_of_name pn_4) (ef_16_2 b rr) ?_
  intro p e s m below meth c T0 hx hby hml hown hnm hret hlk hZ X0 e0
  have N0 := Fr.nil n0
  refine g_lconst X0 hx (hb hby d16_0) (pc' := 1) rfl (z := (0 : Int64)) rfl ?_
  refine g_lstoreN X0 hx (hb hby d16_1) (pc' := 2) rfl (Ls' := #[.val (.ref b), .val (.int rr), .val (.long (0 : Int64)), .second, .unset, .unset, .unset, .unset, .unset]) rfl ?_
  refine g_aloadN X0 hx (hb hby d16_2) (pc' := 3) rfl rfl rfl ?_
  refine g_astore X0 hx (hb hby d16_3) (pc' := 5) rfl rfl (Ls' := #[.val (.ref b), .val (.int rr), .val (.long (0 : Int64)), .second, .val (.ref b), .unset, .unset, .unset, .unset]) rfl ?_
  refine g_aload X0 hx (hb hby d16_5) (pc' := 7) rfl rfl rfl ?_
  refine g_arraylength X0 hx hZ e0 V1 (z := (2 : Int32)) (hb hby d16_7) (pc' := 8) rfl rfl ?_
  refine g_istore X0 hx (hb hby d16_8) (pc' := 10) rfl (Ls' := #[.val (.ref b), .val (.int rr), .val (.long (0 : Int64)), .second, .val (.ref b), .val (.int (2 : Int32)), .unset, .unset, .unset]) rfl ?_
  refine g_iconst X0 hx (hb hby d16_10) (pc' := 11) rfl (z := (0 : Int32)) rfl ?_
  refine g_istore X0 hx (hb hby d16_11) (pc' := 13) rfl (Ls' := #[.val (.ref b), .val (.int rr), .val (.long (0 : Int64)), .second, .val (.ref b), .val (.int (2 : Int32)), .val (.int (0 : Int32)), .unset, .unset]) rfl ?_
  refine g_iload X0 hx (hb hby d16_13) (pc' := 15) rfl rfl ?_
  refine g_iload X0 hx (hb hby d16_15) (pc' := 17) rfl rfl ?_
  refine g_icmp_ge X0 hx (hb hby d16_17) (pc1 := 20) rfl (by decide) (pc2 := 40) (by decide) (fun hc17 => absurd (by decide) hc17) (fun hc17 => ?_)
  refine g_aload X0 hx (hb hby d16_20) (pc' := 22) rfl rfl rfl ?_
  refine g_iload X0 hx (hb hby d16_22) (pc' := 24) rfl rfl ?_
  refine g_laload X0 hx hZ e0 V1 (i := 0) (v := (.long g0)) (hb hby d16_24) (pc' := 25) rfl (by decide) rfl rfl ?_
  refine g_lstore X0 hx (hb hby d16_25) (pc' := 27) rfl (Ls' := #[.val (.ref b), .val (.int rr), .val (.long (0 : Int64)), .second, .val (.ref b), .val (.int (2 : Int32)), .val (.int (0 : Int32)), .val (.long g0), .second]) rfl ?_
  refine g_lloadN X0 hx (hb hby d16_27) (pc' := 28) rfl rfl ?_
  refine g_lload X0 hx (hb hby d16_28) (pc' := 30) rfl rfl ?_
  refine g_iloadN X0 hx (hb hby d16_30) (pc' := 31) rfl rfl ?_
  refine g_lushr X0 hx (hb hby d16_31) (pc' := 32) rfl ?_
  refine g_ladd X0 hx (hb hby d16_32) (pc' := 33) rfl ?_
  refine Go.cast (show (mkF m 33 #[.val (.ref b), .val (.int rr), .val (.long (0 : Int64)), .second, .val (.ref b), .val (.int (2 : Int32)), .val (.int (0 : Int32)), .val (.long g0), .second] [(.long ((0 : Int64) + (lushr g0 rr)))]) = (mkF m 33 #[.val (.ref b), .val (.int rr), .val (.long (0 : Int64)), .second, .val (.ref b), .val (.int (2 : Int32)), .val (.int (0 : Int32)), .val (.long g0), .second] [(.long (lushr g0 rr))]) from by rw [show ((0 : Int64) + (lushr g0 rr)) = (lushr g0 rr) from (Int64.zero_add _)]) ?_
  refine g_lstoreN X0 hx (hb hby d16_33) (pc' := 34) rfl (Ls' := #[.val (.ref b), .val (.int rr), .val (.long (lushr g0 rr)), .second, .val (.ref b), .val (.int (2 : Int32)), .val (.int (0 : Int32)), .val (.long g0), .second]) rfl ?_
  refine g_iinc X0 hx (hb hby d16_34) (pc' := 37) rfl rfl (z := (1 : Int32)) rfl (Ls' := #[.val (.ref b), .val (.int rr), .val (.long (lushr g0 rr)), .second, .val (.ref b), .val (.int (2 : Int32)), .val (.int (1 : Int32)), .val (.long g0), .second]) rfl ?_
  refine g_goto X0 hx (hb hby d16_37) (by decide) (pc' := 13) (by decide) ?_
  refine g_iload X0 hx (hb hby d16_13) (pc' := 15) rfl rfl ?_
  refine g_iload X0 hx (hb hby d16_15) (pc' := 17) rfl rfl ?_
  refine g_icmp_ge X0 hx (hb hby d16_17) (pc1 := 20) rfl (by decide) (pc2 := 40) (by decide) (fun hc17_1 => absurd (by decide) hc17_1) (fun hc17_1 => ?_)
  refine g_aload X0 hx (hb hby d16_20) (pc' := 22) rfl rfl rfl ?_
  refine g_iload X0 hx (hb hby d16_22) (pc' := 24) rfl rfl ?_
  refine g_laload X0 hx hZ e0 V1 (i := 1) (v := (.long g1)) (hb hby d16_24) (pc' := 25) rfl (by decide) rfl rfl ?_
  refine g_lstore X0 hx (hb hby d16_25) (pc' := 27) rfl (Ls' := #[.val (.ref b), .val (.int rr), .val (.long (lushr g0 rr)), .second, .val (.ref b), .val (.int (2 : Int32)), .val (.int (1 : Int32)), .val (.long g1), .second]) rfl ?_
  refine g_lloadN X0 hx (hb hby d16_27) (pc' := 28) rfl rfl ?_
  refine g_lload X0 hx (hb hby d16_28) (pc' := 30) rfl rfl ?_
  refine g_iloadN X0 hx (hb hby d16_30) (pc' := 31) rfl rfl ?_
  refine g_lushr X0 hx (hb hby d16_31) (pc' := 32) rfl ?_
  refine g_ladd X0 hx (hb hby d16_32) (pc' := 33) rfl ?_
  refine g_lstoreN X0 hx (hb hby d16_33) (pc' := 34) rfl (Ls' := #[.val (.ref b), .val (.int rr), .val (.long ((lushr g0 rr) + (lushr g1 rr))), .second, .val (.ref b), .val (.int (2 : Int32)), .val (.int (1 : Int32)), .val (.long g1), .second]) rfl ?_
  refine g_iinc X0 hx (hb hby d16_34) (pc' := 37) rfl rfl (z := (1 : Int32)) rfl (Ls' := #[.val (.ref b), .val (.int rr), .val (.long ((lushr g0 rr) + (lushr g1 rr))), .second, .val (.ref b), .val (.int (2 : Int32)), .val (.int (2 : Int32)), .val (.long g1), .second]) rfl ?_
  refine g_goto X0 hx (hb hby d16_37) (by decide) (pc' := 13) (by decide) ?_
  refine g_iload X0 hx (hb hby d16_13) (pc' := 15) rfl rfl ?_
  refine g_iload X0 hx (hb hby d16_15) (pc' := 17) rfl rfl ?_
  refine g_icmp_ge X0 hx (hb hby d16_17) (pc1 := 20) rfl (by decide) (pc2 := 40) (by decide) (fun hc17_2 => ?_) (fun hc17_2 => absurd hc17_2 (by decide))
  refine g_lloadN X0 hx (hb hby d16_40) (pc' := 41) rfl rfl ?_
  exact g_lreturn X0 hx hret (hb hby d16_41) N0 hlk (fun v t => endF (by decide) (by decide) v) (by rw [e0]; exact ⟨rfl, rfl⟩)
theorem ef_15_2 (x0 : Addr) (x1 : Addr) (m : MethodId) : entryFrame m #[(.ref x0), (.ref x1)] 2 = mkF m 0 #[.val (.ref x0), .val (.ref x1)] [] := by first | (simp [entryFrame, mkF, argsToLocals, Value.category]; done) | rfl
def Q15_2 (Z : State) (a : Addr) (b : Addr) (c0 : Int64) (lo : Int32) (g0 : Int64) (g1 : Int64) (h0 : Heap) (n0 : Nat) : Option Value → Heap → Prop := fun v h => v = none ∧ Keep h0 h [a] ∧ Exa Z h a "com/example/stratasig/stratasig/index/GapCoding$Tally" ∧ Fld Z h a "com/example/stratasig/stratasig/index/GapCoding$Tally" "count" "J" (.long c0) ∧ Fld Z h a "com/example/stratasig/stratasig/index/GapCoding$Tally" "lowest" "I" (.int lo) ∧ Fld Z h a "com/example/stratasig/stratasig/index/GapCoding$Tally" "atLowest" "J" (.long ((lushr g0 lo) + (lushr g1 lo))) ∧ Fld Z h a "com/example/stratasig/stratasig/index/GapCoding$Tally" "oneAbove" "J" (.long ((lushr g0 (lo + (1 : Int32))) + (lushr g1 (lo + (1 : Int32))))) ∧ Fld Z h a "com/example/stratasig/stratasig/index/GapCoding$Tally" "twoAbove" "J" (.long ((lushr g0 (lo + (2 : Int32))) + (lushr g1 (lo + (2 : Int32)))))
set_option maxRecDepth 65536 in
set_option maxHeartbeats 40000000 in
theorem rm15_2 (l : Launch) (Z : State) (a0 : Array Value) (hw : ∀ d ∈ tables_1, d.before a0 Z = true) (a : Addr) (b : Addr) (c0 : Int64) (lo : Int32) (g0 : Int64) (g1 : Int64) (h0 : Heap) (n0 : Nat) (Z0 : n0 ≤ h0.size) (F_count : Fld Z h0 a "com/example/stratasig/stratasig/index/GapCoding$Tally" "count" "J" (.long c0)) (F_lowest : Fld Z h0 a "com/example/stratasig/stratasig/index/GapCoding$Tally" "lowest" "I" (.int lo)) (F_atLowest : Fld Z h0 a "com/example/stratasig/stratasig/index/GapCoding$Tally" "atLowest" "J" (.long (0 : Int64))) (F_oneAbove : Fld Z h0 a "com/example/stratasig/stratasig/index/GapCoding$Tally" "oneAbove" "J" (.long (0 : Int64))) (F_twoAbove : Fld Z h0 a "com/example/stratasig/stratasig/index/GapCoding$Tally" "twoAbove" "J" (.long (0 : Int64))) (V1 : Va Z h0 b .long [(.long g0), (.long g1)]) (E1 : Exa Z h0 a "com/example/stratasig/stratasig/index/GapCoding$Tally") (G1 : n0 ≤ a) (ne1 : b ≠ a) : Ctr l Z (⟨"com/example/stratasig/stratasig/index/GapCoding$Tally", "add", "([J)V"⟩ : MethodName) prog_131_method_4_code 2 none ({ frames := 1, cells := 0, slots := 0, locals := 23 } : Room) #[(.ref a), (.ref b)] h0 n0 (Q15_2 Z a b c0 lo g0 g1 h0 n0) := by
  refine Ctr.of (plainFor_of_name pn_4) (ef_15_2 a b) ?_
  intro p e s m below meth c T0 hx hby hml hown hnm hret hlk hZ X0 e0
  have N0 := Fr.nil n0
  refine g_aloadN X0 hx (hb hby d15_0) (pc' := 1) rfl rfl rfl ?_
  refine g_dup X0 hx (hb hby d15_1) (pc' := 2) rfl rfl ?_
  obtain ⟨T466, X466, e466, st466⟩ := getF X0 hx hZ hown (host := "") (Or.inl (hw _ (List.mem_of_getElem? (i := 76) rfl))) Via.refl e0 F_atLowest (g := (mkF m 2 #[.val (.ref a), .val (.ref b)] [(.ref a), (.ref a)])) rfl rfl (hb hby d15_2)
  refine Go.movp st466 (mkF m 5 #[.val (.ref a), .val (.ref b)] [(.long (0 : Int64)), (.ref a)]) rfl ?_
  refine g_aloadN X466 hx (hb hby d15_5) (pc' := 6) rfl rfl rfl ?_
  refine g_aloadN X466 hx (hb hby d15_6) (pc' := 7) rfl rfl rfl ?_
  obtain ⟨T467, X467, e467, st467⟩ := getF X466 hx hZ hown (host := "") (Or.inl (hw _ (List.mem_of_getElem? (i := 45) rfl))) Via.refl e466 F_lowest (g := (mkF m 7 #[.val (.ref a), .val (.ref b)] [(.ref a), (.ref b), (.long (0 : Int64)), (.ref a)])) rfl rfl (hb hby d15_7)
  refine Go.movp st467 (mkF m 10 #[.val (.ref a), .val (.ref b)] [(.int lo), (.ref b), (.long (0 : Int64)), (.ref a)]) rfl ?_
  obtain ⟨v468, T468, h468, L468, X468, e468, N468, q468, st468⟩ := h_static X467 hx (W := 3) (Ls := #[.val (.ref a), .val (.ref b)]) (argsL := [(.ref b), (.int lo)]) (rest := [(.long (0 : Int64)), (.ref a)]) hZ e467 N0 hml hown (rm16_2 l Z a0 hw b lo g0 g1 h0 n0 Z0 V1) (hw _ (List.mem_of_getElem? (i := 93) rfl)) (hw _ (List.mem_of_getElem? (i := 94) rfl)) (hw _ (List.mem_of_getElem? (i := 20) rfl)) (hw _ (List.mem_of_getElem? (i := 95) rfl)) (by decide) pd___JI_J rfl rfl (hb hby d15_10) rfl (by decide) (by decide) (by decide) (by decide)
  obtain ⟨rfl, rfl⟩ := q468
  refine Go.movp st468 (mkF m 13 #[.val (.ref a), .val (.ref b)] [(.long ((lushr g0 lo) + (lushr g1 lo))), (.long (0 : Int64)), (.ref a)]) rfl ?_
  refine g_ladd X468 hx (hb hby d15_13) (pc' := 14) rfl ?_
  refine Go.cast (show (mkF m 14 #[.val (.ref a), .val (.ref b)] [(.long ((0 : Int64) + ((lushr g0 lo) + (lushr g1 lo)))), (.ref a)]) = (mkF m 14 #[.val (.ref a), .val (.ref b)] [(.long ((lushr g0 lo) + (lushr g1 lo))), (.ref a)]) from by rw [show ((0 : Int64) + ((lushr g0 lo) + (lushr g1 lo))) = ((lushr g0 lo) + (lushr g1 lo)) from (Int64.zero_add _)]) ?_
  obtain ⟨T469, h469, X469, e469, W469, st469⟩ := putF X468 hx hZ hown (host := "") (Or.inl (hw _ (List.mem_of_getElem? (i := 76) rfl))) Via.refl e468 F_atLowest E1 (Or.inl (hw _ (List.mem_of_getElem? (i := 53) rfl))) (hw _ (List.mem_of_getElem? (i := 19) rfl)) (ty := .long) (by decide) rfl rfl (g := (mkF m 14 #[.val (.ref a), .val (.ref b)] [(.long ((lushr g0 lo) + (lushr g1 lo))), (.ref a)])) rfl rfl (hb hby d15_14)
  have f470 : Fld Z h469 a "com/example/stratasig/stratasig/index/GapCoding$Tally" "atLowest" "J" (.long ((lushr g0 lo) + (lushr g1 lo))) := Fld.same W469 F_atLowest
  have N469 := Fr.snoc X469 N468 G1
  have f471 := Fld.other W469 F_count (Or.inr (slot_ne (Or.inr (hw _ (List.mem_of_getElem? (i := 30) rfl))) (Or.inl (hw _ (List.mem_of_getElem? (i := 53) rfl))) (by decide) (t := .long) (t' := .long) (by decide) (by decide)))
  have f472 := Fld.other W469 F_lowest (Or.inr (slot_ne (Or.inr (hw _ (List.mem_of_getElem? (i := 46) rfl))) (Or.inl (hw _ (List.mem_of_getElem? (i := 53) rfl))) (by decide) (t := .int) (t' := .long) (by decide) (by decide)))
  have f473 := Fld.other W469 F_oneAbove (Or.inr (slot_ne (Or.inl (hw _ (List.mem_of_getElem? (i := 55) rfl))) (Or.inl (hw _ (List.mem_of_getElem? (i := 53) rfl))) (by decide) (t := .long) (t' := .long) (by decide) (by decide)))
  have f474 := Fld.other W469 F_twoAbove (Or.inr (slot_ne (Or.inl (hw _ (List.mem_of_getElem? (i := 57) rfl))) (Or.inl (hw _ (List.mem_of_getElem? (i := 53) rfl))) (by decide) (t := .long) (t' := .long) (by decide) (by decide)))
  have f475 := V1.other W469 ne1
  have f476 := Exa.wr W469 E1
  have Z477 : n0 ≤ h469.size := Nat.le_trans Z0 (Keep.of_wr W469).1
  have K478 := (Keep.refl h0 [a]).wr W469 (Or.inl (List.mem_of_getElem? (i := 0) rfl))
  refine Go.movp st469 (mkF m 17 #[.val (.ref a), .val (.ref b)] []) rfl ?_
  refine g_aloadN X469 hx (hb hby d15_17) (pc' := 18) rfl rfl rfl ?_
  refine g_dup X469 hx (hb hby d15_18) (pc' := 19) rfl rfl ?_
  obtain ⟨T479, X479, e479, st479⟩ := getF X469 hx hZ hown (host := "") (Or.inl (hw _ (List.mem_of_getElem? (i := 77) rfl))) Via.refl e469 f473 (g := (mkF m 19 #[.val (.ref a), .val (.ref b)] [(.ref a), (.ref a)])) rfl rfl (hb hby d15_19)
  refine Go.movp st479 (mkF m 22 #[.val (.ref a), .val (.ref b)] [(.long (0 : Int64)), (.ref a)]) rfl ?_
  refine g_aloadN X479 hx (hb hby d15_22) (pc' := 23) rfl rfl rfl ?_
  refine g_aloadN X479 hx (hb hby d15_23) (pc' := 24) rfl rfl rfl ?_
  obtain ⟨T480, X480, e480, st480⟩ := getF X479 hx hZ hown (host := "") (Or.inl (hw _ (List.mem_of_getElem? (i := 45) rfl))) Via.refl e479 f472 (g := (mkF m 24 #[.val (.ref a), .val (.ref b)] [(.ref a), (.ref b), (.long (0 : Int64)), (.ref a)])) rfl rfl (hb hby d15_24)
  refine Go.movp st480 (mkF m 27 #[.val (.ref a), .val (.ref b)] [(.int lo), (.ref b), (.long (0 : Int64)), (.ref a)]) rfl ?_
  refine g_iconst X480 hx (hb hby d15_27) (pc' := 28) rfl (z := (1 : Int32)) rfl ?_
  refine g_iadd X480 hx (hb hby d15_28) (pc' := 29) rfl ?_
  obtain ⟨v481, T481, h481, L481, X481, e481, N481, q481, st481⟩ := h_static X480 hx (W := 3) (Ls := #[.val (.ref a), .val (.ref b)]) (argsL := [(.ref b), (.int (lo + (1 : Int32)))]) (rest := [(.long (0 : Int64)), (.ref a)]) hZ e480 N469 hml hown (rm16_2 l Z a0 hw b (lo + (1 : Int32)) g0 g1 h469 n0 Z477 f475) (hw _ (List.mem_of_getElem? (i := 93) rfl)) (hw _ (List.mem_of_getElem? (i := 94) rfl)) (hw _ (List.mem_of_getElem? (i := 20) rfl)) (hw _ (List.mem_of_getElem? (i := 95) rfl)) (by decide) pd___JI_J rfl rfl (hb hby d15_29) rfl (by decide) (by decide) (by decide) (by decide)
  obtain ⟨rfl, rfl⟩ := q481
  refine Go.movp st481 (mkF m 32 #[.val (.ref a), .val (.ref b)] [(.long ((lushr g0 (lo + (1 : Int32))) + (lushr g1 (lo + (1 : Int32))))), (.long (0 : Int64)), (.ref a)]) rfl ?_
  refine g_ladd X481 hx (hb hby d15_32) (pc' := 33) rfl ?_
  refine Go.cast (show (mkF m 33 #[.val (.ref a), .val (.ref b)] [(.long ((0 : Int64) + ((lushr g0 (lo + (1 : Int32))) + (lushr g1 (lo + (1 : Int32)))))), (.ref a)]) = (mkF m 33 #[.val (.ref a), .val (.ref b)] [(.long ((lushr g0 (lo + (1 : Int32))) + (lushr g1 (lo + (1 : Int32))))), (.ref a)]) from by rw [show ((0 : Int64) + ((lushr g0 (lo + (1 : Int32))) + (lushr g1 (lo + (1 : Int32))))) = ((lushr g0 (lo + (1 : Int32))) + (lushr g1 (lo + (1 : Int32)))) from (Int64.zero_add _)]) ?_
  obtain ⟨T482, h482, X482, e482, W482, st482⟩ := putF X481 hx hZ hown (host := "") (Or.inl (hw _ (List.mem_of_getElem? (i := 77) rfl))) Via.refl e481 f473 f476 (Or.inl (hw _ (List.mem_of_getElem? (i := 55) rfl))) (hw _ (List.mem_of_getElem? (i := 19) rfl)) (ty := .long) (by decide) rfl rfl (g := (mkF m 33 #[.val (.ref a), .val (.ref b)] [(.long ((lushr g0 (lo + (1 : Int32))) + (lushr g1 (lo + (1 : Int32))))), (.ref a)])) rfl rfl (hb hby d15_33)
  have f483 : Fld Z h482 a "com/example/stratasig/stratasig/index/GapCoding$Tally" "oneAbove" "J" (.long ((lushr g0 (lo + (1 : Int32))) + (lushr g1 (lo + (1 : Int32))))) := Fld.same W482 f473
  have N482 := Fr.snoc X482 N481 G1
  have f484 := Fld.other W482 f471 (Or.inr (slot_ne (Or.inr (hw _ (List.mem_of_getElem? (i := 30) rfl))) (Or.inl (hw _ (List.mem_of_getElem? (i := 55) rfl))) (by decide) (t := .long) (t' := .long) (by decide) (by decide)))
  have f485 := Fld.other W482 f472 (Or.inr (slot_ne (Or.inr (hw _ (List.mem_of_getElem? (i := 46) rfl))) (Or.inl (hw _ (List.mem_of_getElem? (i := 55) rfl))) (by decide) (t := .int) (t' := .long) (by decide) (by decide)))
  have f486 := Fld.other W482 f474 (Or.inr (slot_ne (Or.inl (hw _ (List.mem_of_getElem? (i := 57) rfl))) (Or.inl (hw _ (List.mem_of_getElem? (i := 55) rfl))) (by decide) (t := .long) (t' := .long) (by decide) (by decide)))
  have f487 := f475.other W482 ne1
  have f488 := Exa.wr W482 f476
  have f489 := Fld.other W482 f470 (Or.inr (slot_ne (Or.inl (hw _ (List.mem_of_getElem? (i := 53) rfl))) (Or.inl (hw _ (List.mem_of_getElem? (i := 55) rfl))) (by decide) (t := .long) (t' := .long) (by decide) (by decide)))
  have Z490 : n0 ≤ h482.size := Nat.le_trans Z477 (Keep.of_wr W482).1
  have K491 := K478.wr W482 (Or.inl (List.mem_of_getElem? (i := 0) rfl))
  refine Go.movp st482 (mkF m 36 #[.val (.ref a), .val (.ref b)] []) rfl ?_
  refine g_aloadN X482 hx (hb hby d15_36) (pc' := 37) rfl rfl rfl ?_
  refine g_dup X482 hx (hb hby d15_37) (pc' := 38) rfl rfl ?_
  obtain ⟨T492, X492, e492, st492⟩ := getF X482 hx hZ hown (host := "") (Or.inl (hw _ (List.mem_of_getElem? (i := 78) rfl))) Via.refl e482 f486 (g := (mkF m 38 #[.val (.ref a), .val (.ref b)] [(.ref a), (.ref a)])) rfl rfl (hb hby d15_38)
  refine Go.movp st492 (mkF m 41 #[.val (.ref a), .val (.ref b)] [(.long (0 : Int64)), (.ref a)]) rfl ?_
  refine g_aloadN X492 hx (hb hby d15_41) (pc' := 42) rfl rfl rfl ?_
  refine g_aloadN X492 hx (hb hby d15_42) (pc' := 43) rfl rfl rfl ?_
  obtain ⟨T493, X493, e493, st493⟩ := getF X492 hx hZ hown (host := "") (Or.inl (hw _ (List.mem_of_getElem? (i := 45) rfl))) Via.refl e492 f485 (g := (mkF m 43 #[.val (.ref a), .val (.ref b)] [(.ref a), (.ref b), (.long (0 : Int64)), (.ref a)])) rfl rfl (hb hby d15_43)
  refine Go.movp st493 (mkF m 46 #[.val (.ref a), .val (.ref b)] [(.int lo), (.ref b), (.long (0 : Int64)), (.ref a)]) rfl ?_
  refine g_iconst X493 hx (hb hby d15_46) (pc' := 47) rfl (z := (2 : Int32)) rfl ?_
  refine g_iadd X493 hx (hb hby d15_47) (pc' := 48) rfl ?_
  obtain ⟨v494, T494, h494, L494, X494, e494, N494, q494, st494⟩ := h_static X493 hx (W := 3) (Ls := #[.val (.ref a), .val (.ref b)]) (argsL := [(.ref b), (.int (lo + (2 : Int32)))]) (rest := [(.long (0 : Int64)), (.ref a)]) hZ e493 N482 hml hown (rm16_2 l Z a0 hw b (lo + (2 : Int32)) g0 g1 h482 n0 Z490 f487) (hw _ (List.mem_of_getElem? (i := 93) rfl)) (hw _ (List.mem_of_getElem? (i := 94) rfl)) (hw _ (List.mem_of_getElem? (i := 20) rfl)) (hw _ (List.mem_of_getElem? (i := 95) rfl)) (by decide) pd___JI_J rfl rfl (hb hby d15_48) rfl (by decide) (by decide) (by decide) (by decide)
  obtain ⟨rfl, rfl⟩ := q494
  refine Go.movp st494 (mkF m 51 #[.val (.ref a), .val (.ref b)] [(.long ((lushr g0 (lo + (2 : Int32))) + (lushr g1 (lo + (2 : Int32))))), (.long (0 : Int64)), (.ref a)]) rfl ?_
  refine g_ladd X494 hx (hb hby d15_51) (pc' := 52) rfl ?_
  refine Go.cast (show (mkF m 52 #[.val (.ref a), .val (.ref b)] [(.long ((0 : Int64) + ((lushr g0 (lo + (2 : Int32))) + (lushr g1 (lo + (2 : Int32)))))), (.ref a)]) = (mkF m 52 #[.val (.ref a), .val (.ref b)] [(.long ((lushr g0 (lo + (2 : Int32))) + (lushr g1 (lo + (2 : Int32))))), (.ref a)]) from by rw [show ((0 : Int64) + ((lushr g0 (lo + (2 : Int32))) + (lushr g1 (lo + (2 : Int32))))) = ((lushr g0 (lo + (2 : Int32))) + (lushr g1 (lo + (2 : Int32)))) from (Int64.zero_add _)]) ?_
  obtain ⟨T495, h495, X495, e495, W495, st495⟩ := putF X494 hx hZ hown (host := "") (Or.inl (hw _ (List.mem_of_getElem? (i := 78) rfl))) Via.refl e494 f486 f488 (Or.inl (hw _ (List.mem_of_getElem? (i := 57) rfl))) (hw _ (List.mem_of_getElem? (i := 19) rfl)) (ty := .long) (by decide) rfl rfl (g := (mkF m 52 #[.val (.ref a), .val (.ref b)] [(.long ((lushr g0 (lo + (2 : Int32))) + (lushr g1 (lo + (2 : Int32))))), (.ref a)])) rfl rfl (hb hby d15_52)
  have f496 : Fld Z h495 a "com/example/stratasig/stratasig/index/GapCoding$Tally" "twoAbove" "J" (.long ((lushr g0 (lo + (2 : Int32))) + (lushr g1 (lo + (2 : Int32))))) := Fld.same W495 f486
  have N495 := Fr.snoc X495 N494 G1
  have f497 := Fld.other W495 f484 (Or.inr (slot_ne (Or.inr (hw _ (List.mem_of_getElem? (i := 30) rfl))) (Or.inl (hw _ (List.mem_of_getElem? (i := 57) rfl))) (by decide) (t := .long) (t' := .long) (by decide) (by decide)))
  have f498 := Fld.other W495 f485 (Or.inr (slot_ne (Or.inr (hw _ (List.mem_of_getElem? (i := 46) rfl))) (Or.inl (hw _ (List.mem_of_getElem? (i := 57) rfl))) (by decide) (t := .int) (t' := .long) (by decide) (by decide)))
  have f499 := f487.other W495 ne1
  have f500 := Exa.wr W495 f488
  have f501 := Fld.other W495 f489 (Or.inr (slot_ne (Or.inl (hw _ (List.mem_of_getElem? (i := 53) rfl))) (Or.inl (hw _ (List.mem_of_getElem? (i := 57) rfl))) (by decide) (t := .long) (t' := .long) (by decide) (by decide)))
  have f502 := Fld.other W495 f483 (Or.inr (slot_ne (Or.inl (hw _ (List.mem_of_getElem? (i := 55) rfl))) (Or.inl (hw _ (List.mem_of_getElem? (i := 57) rfl))) (by decide) (t := .long) (t' := .long) (by decide) (by decide)))
  have Z503 : n0 ≤ h495.size := Nat.le_trans Z490 (Keep.of_wr W495).1
  have K504 := K491.wr W495 (Or.inl (List.mem_of_getElem? (i := 0) rfl))
  refine Go.movp st495 (mkF m 55 #[.val (.ref a), .val (.ref b)] []) rfl ?_
  exact g_return X495 hx hret (hb hby d15_55) N495 hlk (fun v t => endF (by decide) (by decide) v) (by rw [e495]; exact ⟨rfl, K504, f500, f497, f498, f501, f502, f496⟩)
theorem ef_14_2 (x0 : Addr) (m : MethodId) : entryFrame m #[(.ref x0)] 8 = mkF m 0 #[.val (.ref x0), .unset, .unset, .unset, .unset, .unset, .unset, .unset] [] := by first | (simp [entryFrame, mkF, argsToLocals, Value.category]; done) | rfl
def Q14_2 (Z : State) (b : Addr) (g0 : Int64) (g1 : Int64) (h0 : Heap) (n0 : Nat) : Option Value → Heap → Prop := fun v h => ∃ t, v = some (.ref t) ∧ n0 ≤ t ∧ Keep h0 h [] ∧ Exa Z h t "com/example/stratasig/stratasig/index/GapCoding$Tally" ∧ Fld Z h t "com/example/stratasig/stratasig/index/GapCoding$Tally" "count" "J" (.long (2 : Int64)) ∧ Fld Z h t "com/example/stratasig/stratasig/index/GapCoding$Tally" "lowest" "I" (.int (lowV (2 : Int64) (g0 + g1))) ∧ Fld Z h t "com/example/stratasig/stratasig/index/GapCoding$Tally" "atLowest" "J" (.long ((lushr g0 (lowV (2 : Int64) (g0 + g1))) + (lushr g1 (lowV (2 : Int64) (g0 + g1))))) ∧ Fld Z h t "com/example/stratasig/stratasig/index/GapCoding$Tally" "oneAbove" "J" (.long ((lushr g0 ((lowV (2 : Int64) (g0 + g1)) + (1 : Int32))) + (lushr g1 ((lowV (2 : Int64) (g0 + g1)) + (1 : Int32))))) ∧ Fld Z h t "com/example/stratasig/stratasig/index/GapCoding$Tally" "twoAbove" "J" (.long ((lushr g0 ((lowV (2 : Int64) (g0 + g1)) + (2 : Int32))) + (lushr g1 ((lowV (2 : Int64) (g0 + g1)) + (2 : Int32)))))
set_option maxRecDepth 65536 in
set_option maxHeartbeats 40000000 in
theorem rm14_2 (l : Launch) (Z : State) (a0 : Array Value) (hw : ∀ d ∈ tables_1, d.before a0 Z = true) (b : Addr) (g0 : Int64) (g1 : Int64) (h0 : Heap) (n0 : Nat) (Z0 : n0 ≤ h0.size) (V1 : Va Z h0 b .long [(.long g0), (.long g1)]) : Ctr l Z (⟨"com/example/stratasig/stratasig/index/GapCoding", "tally", "([J)Lcom/example/stratasig/stratasig/index/GapCoding$Tally;"⟩ : MethodName) prog_128_method_4_code 8 (some (.object "com/example/stratasig/stratasig/index/GapCoding$Tally")) ({ frames := 3, cells := 1, slots := 6, locals := 50 } : Room) #[(.ref b)] h0 n0 (Q14_2 Z b g0 g1 h0 n0) := by
  refine Ctr.of (plainFor_of_name pn_14) (ef_14_2 b) ?_
  intro p e s m below meth c T0 hx hby hml hown hnm hret hlk hZ X0 e0
  have N0 := Fr.nil n0
  refine g_lconst X0 hx (hb hby d14_0) (pc' := 1) rfl (z := (0 : Int64)) rfl ?_
  refine g_lstoreN X0 hx (hb hby d14_1) (pc' := 2) rfl (Ls' := #[.val (.ref b), .val (.long (0 : Int64)), .second, .unset, .unset, .unset, .unset, .unset]) rfl ?_
  refine g_aloadN X0 hx (hb hby d14_2) (pc' := 3) rfl rfl rfl ?_
  refine g_astoreN X0 hx (hb hby d14_3) (pc' := 4) rfl rfl (Ls' := #[.val (.ref b), .val (.long (0 : Int64)), .second, .val (.ref b), .unset, .unset, .unset, .unset]) rfl ?_
  refine g_aloadN X0 hx (hb hby d14_4) (pc' := 5) rfl rfl rfl ?_
  refine g_arraylength X0 hx hZ e0 V1 (z := (2 : Int32)) (hb hby d14_5) (pc' := 6) rfl rfl ?_
  refine g_istore X0 hx (hb hby d14_6) (pc' := 8) rfl (Ls' := #[.val (.ref b), .val (.long (0 : Int64)), .second, .val (.ref b), .val (.int (2 : Int32)), .unset, .unset, .unset]) rfl ?_
  refine g_iconst X0 hx (hb hby d14_8) (pc' := 9) rfl (z := (0 : Int32)) rfl ?_
  refine g_istore X0 hx (hb hby d14_9) (pc' := 11) rfl (Ls' := #[.val (.ref b), .val (.long (0 : Int64)), .second, .val (.ref b), .val (.int (2 : Int32)), .val (.int (0 : Int32)), .unset, .unset]) rfl ?_
  refine g_iload X0 hx (hb hby d14_11) (pc' := 13) rfl rfl ?_
  refine g_iload X0 hx (hb hby d14_13) (pc' := 15) rfl rfl ?_
  refine g_icmp_ge X0 hx (hb hby d14_15) (pc1 := 18) rfl (by decide) (pc2 := 35) (by decide) (fun hc15 => absurd (by decide) hc15) (fun hc15 => ?_)
  refine g_aloadN X0 hx (hb hby d14_18) (pc' := 19) rfl rfl rfl ?_
  refine g_iload X0 hx (hb hby d14_19) (pc' := 21) rfl rfl ?_
  refine g_laload X0 hx hZ e0 V1 (i := 0) (v := (.long g0)) (hb hby d14_21) (pc' := 22) rfl (by decide) rfl rfl ?_
  refine g_lstore X0 hx (hb hby d14_22) (pc' := 24) rfl (Ls' := #[.val (.ref b), .val (.long (0 : Int64)), .second, .val (.ref b), .val (.int (2 : Int32)), .val (.int (0 : Int32)), .val (.long g0), .second]) rfl ?_
  refine g_lloadN X0 hx (hb hby d14_24) (pc' := 25) rfl rfl ?_
  refine g_lload X0 hx (hb hby d14_25) (pc' := 27) rfl rfl ?_
  refine g_ladd X0 hx (hb hby d14_27) (pc' := 28) rfl ?_
  refine Go.cast (show (mkF m 28 #[.val (.ref b), .val (.long (0 : Int64)), .second, .val (.ref b), .val (.int (2 : Int32)), .val (.int (0 : Int32)), .val (.long g0), .second] [(.long ((0 : Int64) + g0))]) = (mkF m 28 #[.val (.ref b), .val (.long (0 : Int64)), .second, .val (.ref b), .val (.int (2 : Int32)), .val (.int (0 : Int32)), .val (.long g0), .second] [(.long g0)]) from by rw [show ((0 : Int64) + g0) = g0 from (Int64.zero_add _)]) ?_
  refine g_lstoreN X0 hx (hb hby d14_28) (pc' := 29) rfl (Ls' := #[.val (.ref b), .val (.long g0), .second, .val (.ref b), .val (.int (2 : Int32)), .val (.int (0 : Int32)), .val (.long g0), .second]) rfl ?_
  refine g_iinc X0 hx (hb hby d14_29) (pc' := 32) rfl rfl (z := (1 : Int32)) rfl (Ls' := #[.val (.ref b), .val (.long g0), .second, .val (.ref b), .val (.int (2 : Int32)), .val (.int (1 : Int32)), .val (.long g0), .second]) rfl ?_
  refine g_goto X0 hx (hb hby d14_32) (by decide) (pc' := 11) (by decide) ?_
  refine g_iload X0 hx (hb hby d14_11) (pc' := 13) rfl rfl ?_
  refine g_iload X0 hx (hb hby d14_13) (pc' := 15) rfl rfl ?_
  refine g_icmp_ge X0 hx (hb hby d14_15) (pc1 := 18) rfl (by decide) (pc2 := 35) (by decide) (fun hc15_1 => absurd (by decide) hc15_1) (fun hc15_1 => ?_)
  refine g_aloadN X0 hx (hb hby d14_18) (pc' := 19) rfl rfl rfl ?_
  refine g_iload X0 hx (hb hby d14_19) (pc' := 21) rfl rfl ?_
  refine g_laload X0 hx hZ e0 V1 (i := 1) (v := (.long g1)) (hb hby d14_21) (pc' := 22) rfl (by decide) rfl rfl ?_
  refine g_lstore X0 hx (hb hby d14_22) (pc' := 24) rfl (Ls' := #[.val (.ref b), .val (.long g0), .second, .val (.ref b), .val (.int (2 : Int32)), .val (.int (1 : Int32)), .val (.long g1), .second]) rfl ?_
  refine g_lloadN X0 hx (hb hby d14_24) (pc' := 25) rfl rfl ?_
  refine g_lload X0 hx (hb hby d14_25) (pc' := 27) rfl rfl ?_
  refine g_ladd X0 hx (hb hby d14_27) (pc' := 28) rfl ?_
  refine g_lstoreN X0 hx (hb hby d14_28) (pc' := 29) rfl (Ls' := #[.val (.ref b), .val (.long (g0 + g1)), .second, .val (.ref b), .val (.int (2 : Int32)), .val (.int (1 : Int32)), .val (.long g1), .second]) rfl ?_
  refine g_iinc X0 hx (hb hby d14_29) (pc' := 32) rfl rfl (z := (1 : Int32)) rfl (Ls' := #[.val (.ref b), .val (.long (g0 + g1)), .second, .val (.ref b), .val (.int (2 : Int32)), .val (.int (2 : Int32)), .val (.long g1), .second]) rfl ?_
  refine g_goto X0 hx (hb hby d14_32) (by decide) (pc' := 11) (by decide) ?_
  refine g_iload X0 hx (hb hby d14_11) (pc' := 13) rfl rfl ?_
  refine g_iload X0 hx (hb hby d14_13) (pc' := 15) rfl rfl ?_
  refine g_icmp_ge X0 hx (hb hby d14_15) (pc1 := 18) rfl (by decide) (pc2 := 35) (by decide) (fun hc15_2 => ?_) (fun hc15_2 => absurd hc15_2 (by decide))
  obtain ⟨T505, h505, X505, e505, E505, A505, D505, -, st505⟩ := newO X0 hx hZ hown (hw _ (List.mem_of_getElem? (i := 86) rfl)) (hw _ (List.mem_of_getElem? (i := 19) rfl)) (hw _ (List.mem_of_getElem? (i := 20) rfl)) e0 (g := (mkF m 35 #[.val (.ref b), .val (.long (g0 + g1)), .second, .val (.ref b), .val (.int (2 : Int32)), .val (.int (2 : Int32)), .val (.long g1), .second] [])) rfl (hb hby d14_35) (by decide) (by decide)
  obtain ⟨b505, g505⟩ : ∃ z, z = h0.size := ⟨_, rfl⟩
  rw [← g505] at A505 D505 st505
  have ne506 : b ≠ b505 := Nat.ne_of_lt (g505 ▸ V1.lt)
  have ge507 : n0 ≤ b505 := g505 ▸ Z0
  have sz508 : h0.size ≤ b505 := g505 ▸ (Keep.refl h0 []).1
  have f509 := V1.ext E505
  have Z510 : n0 ≤ h505.size := Nat.le_trans Z0 E505.1
  have K511 := (Keep.refl h0 []).ext E505
  have f512 : Fld Z h505 b505 "com/example/stratasig/stratasig/index/GapCoding$Tally" "count" "J" (.long (0 : Int64)) := D505 (Or.inr (hw _ (List.mem_of_getElem? (i := 30) rfl))) (ty := .long) (by decide)
  have f513 : Fld Z h505 b505 "com/example/stratasig/stratasig/index/GapCoding$Tally" "sum" "J" (.long (0 : Int64)) := D505 (Or.inr (hw _ (List.mem_of_getElem? (i := 32) rfl))) (ty := .long) (by decide)
  have f514 : Fld Z h505 b505 "com/example/stratasig/stratasig/index/GapCoding$Tally" "lowest" "I" (.int (0 : Int32)) := D505 (Or.inr (hw _ (List.mem_of_getElem? (i := 46) rfl))) (ty := .int) (by decide)
  have f515 : Fld Z h505 b505 "com/example/stratasig/stratasig/index/GapCoding$Tally" "atLowest" "J" (.long (0 : Int64)) := D505 (Or.inl (hw _ (List.mem_of_getElem? (i := 53) rfl))) (ty := .long) (by decide)
  have f516 : Fld Z h505 b505 "com/example/stratasig/stratasig/index/GapCoding$Tally" "oneAbove" "J" (.long (0 : Int64)) := D505 (Or.inl (hw _ (List.mem_of_getElem? (i := 55) rfl))) (ty := .long) (by decide)
  have f517 : Fld Z h505 b505 "com/example/stratasig/stratasig/index/GapCoding$Tally" "twoAbove" "J" (.long (0 : Int64)) := D505 (Or.inl (hw _ (List.mem_of_getElem? (i := 57) rfl))) (ty := .long) (by decide)
  refine Go.movp st505 (mkF m 38 #[.val (.ref b), .val (.long (g0 + g1)), .second, .val (.ref b), .val (.int (2 : Int32)), .val (.int (2 : Int32)), .val (.long g1), .second] [(.ref b505)]) rfl ?_
  refine g_dup X505 hx (hb hby d14_38) (pc' := 39) rfl rfl ?_
  refine g_aloadN X505 hx (hb hby d14_39) (pc' := 40) rfl rfl rfl ?_
  refine g_arraylength X505 hx hZ e505 f509 (z := (2 : Int32)) (hb hby d14_40) (pc' := 41) rfl rfl ?_
  refine g_i2l X505 hx (hb hby d14_41) (pc' := 42) rfl ?_
  refine Go.cast (show (mkF m 42 #[.val (.ref b), .val (.long (g0 + g1)), .second, .val (.ref b), .val (.int (2 : Int32)), .val (.int (2 : Int32)), .val (.long g1), .second] [(.long (2 : Int32).toInt64), (.ref b505), (.ref b505)]) = (mkF m 42 #[.val (.ref b), .val (.long (g0 + g1)), .second, .val (.ref b), .val (.int (2 : Int32)), .val (.int (2 : Int32)), .val (.long g1), .second] [(.long (2 : Int64)), (.ref b505), (.ref b505)]) from by rw [show (2 : Int32).toInt64 = (2 : Int64) from (by decide)]) ?_
  refine g_lloadN X505 hx (hb hby d14_42) (pc' := 43) rfl rfl ?_
  obtain ⟨v518, T518, h518, L518, X518, e518, N518, q518, st518⟩ := h_special (a := b505) X505 hx (W := 1) (Ls := #[.val (.ref b), .val (.long (g0 + g1)), .second, .val (.ref b), .val (.int (2 : Int32)), .val (.int (2 : Int32)), .val (.long g1), .second]) (argsL := [(.long (2 : Int64)), (.long (g0 + g1))]) (rest := [(.ref b505)]) hZ e505 N0 hml hown rfl (rm4 l Z a0 hw b505 (2 : Int64) (g0 + g1) h505 n0 Z510 f512 f513 f514 f515 f516 f517 A505 ge507) (hw _ (List.mem_of_getElem? (i := 87) rfl)) (hw _ (List.mem_of_getElem? (i := 26) rfl)) (hw _ (List.mem_of_getElem? (i := 20) rfl)) (hw _ (List.mem_of_getElem? (i := 27) rfl)) (by decide) pd__JJ_V rfl rfl (hb hby d14_43) rfl (by decide) (by decide) (by decide) (by decide)
  obtain ⟨rfl, K518, A518, C518, L518, P518, Q518, R518⟩ := q518
  have f519 := f509.keep K518 (ninS ne506 nin0)
  have f520 := A505.keep K518
  have Z521 : n0 ≤ h518.size := Nat.le_trans Z510 K518.1
  have K522 := K511.trans K518 (allS (Or.inr sz508) all0)
  refine Go.movp st518 (mkF m 46 #[.val (.ref b), .val (.long (g0 + g1)), .second, .val (.ref b), .val (.int (2 : Int32)), .val (.int (2 : Int32)), .val (.long g1), .second] [(.ref b505)]) rfl ?_
  refine g_astoreN X518 hx (hb hby d14_46) (pc' := 47) rfl rfl (Ls' := #[.val (.ref b), .val (.long (g0 + g1)), .second, .val (.ref b505), .val (.int (2 : Int32)), .val (.int (2 : Int32)), .val (.long g1), .second]) rfl ?_
  refine g_aloadN X518 hx (hb hby d14_47) (pc' := 48) rfl rfl rfl ?_
  refine g_aloadN X518 hx (hb hby d14_48) (pc' := 49) rfl rfl rfl ?_
  obtain ⟨v523, T523, h523, L523, X523, e523, N523, q523, st523⟩ := h_virtual (a := b505) (z := (⟨"com/example/stratasig/stratasig/index/GapCoding$Tally", "add", "([J)V"⟩ : MethodName)) X518 hx (W := 0) (Ls := #[.val (.ref b), .val (.long (g0 + g1)), .second, .val (.ref b505), .val (.int (2 : Int32)), .val (.int (2 : Int32)), .val (.long g1), .second]) (argsL := [(.ref b)]) (rest := []) hZ e518 N518 hml hown (rm15_2 l Z a0 hw b505 b (2 : Int64) (lowV (2 : Int64) (g0 + g1)) g0 g1 h518 n0 Z521 C518 L518 P518 Q518 R518 f519 A518 ge507 ne506) A518 (hw _ (List.mem_of_getElem? (i := 88) rfl)) (hw _ (List.mem_of_getElem? (i := 89) rfl)) (notFace_of_selects (args := #[]) (mvT hZ (hw _ (List.mem_of_getElem? (i := 91) rfl)))) (hw _ (List.mem_of_getElem? (i := 91) rfl)) (hw _ (List.mem_of_getElem? (i := 90) rfl)) (hw _ (List.mem_of_getElem? (i := 20) rfl)) (hw _ (List.mem_of_getElem? (i := 92) rfl)) (by decide) pd___J_V rfl rfl (hb hby d14_49) rfl (by decide) (by decide) (by decide) (by decide)
  obtain ⟨rfl, K523, A523, C523, L523, P523, Q523, R523⟩ := q523
  have f524 := f519.keep K523 (ninS ne506 nin0)
  have f525 := A518.keep K523
  have Z526 : n0 ≤ h523.size := Nat.le_trans Z521 K523.1
  have K527 := K522.trans K523 (allS (Or.inr sz508) all0)
  refine Go.movp st523 (mkF m 52 #[.val (.ref b), .val (.long (g0 + g1)), .second, .val (.ref b505), .val (.int (2 : Int32)), .val (.int (2 : Int32)), .val (.long g1), .second] []) rfl ?_
  refine g_aloadN X523 hx (hb hby d14_52) (pc' := 53) rfl rfl rfl ?_
  exact g_areturn X523 hx rfl rfl hret (hb hby d14_53) N523 hlk (fun v t => endF (by decide) (by decide) v) (by rw [e523]; exact ⟨_, rfl, ge507, K527, A523, C523, L523, P523, Q523, R523⟩)
theorem ef_13_2 (x0 : Addr) (m : MethodId) : entryFrame m #[(.ref x0)] 1 = mkF m 0 #[.val (.ref x0)] [] := by first | (simp [entryFrame, mkF, argsToLocals, Value.category]; done) | rfl
def Q13_2 (Z : State) (b : Addr) (g0 : Int64) (g1 : Int64) (h0 : Heap) (n0 : Nat) : Option Value → Heap → Prop := fun v h => v = some (.long (bitsV (2 : Int64) (lowV (2 : Int64) (g0 + g1)) ((lushr g0 (lowV (2 : Int64) (g0 + g1))) + (lushr g1 (lowV (2 : Int64) (g0 + g1)))) ((lushr g0 ((lowV (2 : Int64) (g0 + g1)) + (1 : Int32))) + (lushr g1 ((lowV (2 : Int64) (g0 + g1)) + (1 : Int32)))) ((lushr g0 ((lowV (2 : Int64) (g0 + g1)) + (2 : Int32))) + (lushr g1 ((lowV (2 : Int64) (g0 + g1)) + (2 : Int32)))))) ∧ Keep h0 h []
set_option maxRecDepth 65536 in
set_option maxHeartbeats 40000000 in
theorem rm13_2 (l : Launch) (Z : State) (a0 : Array Value) (hw : ∀ d ∈ tables_1, d.before a0 Z = true) (b : Addr) (g0 : Int64) (g1 : Int64) (h0 : Heap) (n0 : Nat) (Z0 : n0 ≤ h0.size) (V1 : Va Z h0 b .long [(.long g0), (.long g1)]) : Ctr l Z (⟨"com/example/stratasig/stratasig/index/GapCoding", "bits", "([J)J"⟩ : MethodName) prog_128_method_3_code 1 (some .long) ({ frames := 4, cells := 3, slots := 12, locals := 69 } : Room) #[(.ref b)] h0 n0 (Q13_2 Z b g0 g1 h0 n0) := by
  refine Ctr.of (plainFor_of_name pn_14) (ef_13_2 b) ?_
  intro p e s m below meth c T0 hx hby hml hown hnm hret hlk hZ X0 e0
  have N0 := Fr.nil n0
  refine g_aloadN X0 hx (hb hby d13_0) (pc' := 1) rfl rfl rfl ?_
  obtain ⟨v528, T528, h528, L528, X528, e528, N528, q528, st528⟩ := h_static X0 hx (W := 0) (Ls := #[.val (.ref b)]) (argsL := [(.ref b)]) (rest := []) hZ e0 N0 hml hown (rm14_2 l Z a0 hw b g0 g1 h0 n0 Z0 V1) (hw _ (List.mem_of_getElem? (i := 83) rfl)) (hw _ (List.mem_of_getElem? (i := 84) rfl)) (hw _ (List.mem_of_getElem? (i := 81) rfl)) (hw _ (List.mem_of_getElem? (i := 85) rfl)) (by decide) pd___J_Lcom_example_stratasig_stratasig_index_GapCoding_Tally_ rfl rfl (hb hby d13_1) rfl (by decide) (by decide) (by decide) (by decide)
  obtain ⟨t528, rfl, ge528, K528, A528, C528, L528, P528, Q528, R528⟩ := q528
  have f529 := V1.keep K528 nin0
  have Z530 : n0 ≤ h528.size := Nat.le_trans Z0 K528.1
  have K531 := (Keep.refl h0 []).trans K528 all0
  refine Go.movp st528 (mkF m 4 #[.val (.ref b)] [(.ref t528)]) rfl ?_
  obtain ⟨v532, T532, h532, L532, X532, e532, N532, q532, st532⟩ := h_virtual (a := t528) (z := (⟨"com/example/stratasig/stratasig/index/GapCoding$Tally", "bits", "()J"⟩ : MethodName)) X528 hx (W := 0) (Ls := #[.val (.ref b)]) (argsL := []) (rest := []) hZ e528 N528 hml hown (rm10 l Z a0 hw t528 (2 : Int64) (lowV (2 : Int64) (g0 + g1)) ((lushr g0 (lowV (2 : Int64) (g0 + g1))) + (lushr g1 (lowV (2 : Int64) (g0 + g1)))) ((lushr g0 ((lowV (2 : Int64) (g0 + g1)) + (1 : Int32))) + (lushr g1 ((lowV (2 : Int64) (g0 + g1)) + (1 : Int32)))) ((lushr g0 ((lowV (2 : Int64) (g0 + g1)) + (2 : Int32))) + (lushr g1 ((lowV (2 : Int64) (g0 + g1)) + (2 : Int32)))) h528 n0 Z530 C528 L528 P528 Q528 R528 A528) A528 (hw _ (List.mem_of_getElem? (i := 96) rfl)) (hw _ (List.mem_of_getElem? (i := 64) rfl)) (notFace_of_selects (args := #[]) (mvT hZ (hw _ (List.mem_of_getElem? (i := 66) rfl)))) (hw _ (List.mem_of_getElem? (i := 66) rfl)) (hw _ (List.mem_of_getElem? (i := 65) rfl)) (hw _ (List.mem_of_getElem? (i := 20) rfl)) (hw _ (List.mem_of_getElem? (i := 67) rfl)) (by decide) pd___J rfl rfl (hb hby d13_4) rfl (by decide) (by decide) (by decide) (by decide)
  obtain ⟨rfl, K532⟩ := q532
  have f533 := f529.keep K532 nin0
  have f534 := C528.keep K532 nin0
  have f535 := L528.keep K532 nin0
  have f536 := P528.keep K532 nin0
  have f537 := Q528.keep K532 nin0
  have f538 := R528.keep K532 nin0
  have f539 := A528.keep K532
  have Z540 : n0 ≤ h532.size := Nat.le_trans Z530 K532.1
  have K541 := K531.trans K532 all0
  refine Go.movp st532 (mkF m 7 #[.val (.ref b)] [(.long (bitsV (2 : Int64) (lowV (2 : Int64) (g0 + g1)) ((lushr g0 (lowV (2 : Int64) (g0 + g1))) + (lushr g1 (lowV (2 : Int64) (g0 + g1)))) ((lushr g0 ((lowV (2 : Int64) (g0 + g1)) + (1 : Int32))) + (lushr g1 ((lowV (2 : Int64) (g0 + g1)) + (1 : Int32)))) ((lushr g0 ((lowV (2 : Int64) (g0 + g1)) + (2 : Int32))) + (lushr g1 ((lowV (2 : Int64) (g0 + g1)) + (2 : Int32))))))]) rfl ?_
  exact g_lreturn X532 hx hret (hb hby d13_7) N532 hlk (fun v t => endF (by decide) (by decide) v) (by rw [e532]; exact ⟨rfl, K541⟩)
theorem ef_18_2 (x0 : Addr) (m : MethodId) : entryFrame m #[(.ref x0)] 1 = mkF m 0 #[.val (.ref x0)] [] := by first | (simp [entryFrame, mkF, argsToLocals, Value.category]; done) | rfl
def Q18_2 (Z : State) (b : Addr) (g0 : Int64) (g1 : Int64) (h0 : Heap) (n0 : Nat) : Option Value → Heap → Prop := fun v h => v = some (.int ((lowV (2 : Int64) (g0 + g1)) + bestV (2 : Int64) ((lushr g0 (lowV (2 : Int64) (g0 + g1))) + (lushr g1 (lowV (2 : Int64) (g0 + g1)))) ((lushr g0 ((lowV (2 : Int64) (g0 + g1)) + (1 : Int32))) + (lushr g1 ((lowV (2 : Int64) (g0 + g1)) + (1 : Int32)))) ((lushr g0 ((lowV (2 : Int64) (g0 + g1)) + (2 : Int32))) + (lushr g1 ((lowV (2 : Int64) (g0 + g1)) + (2 : Int32)))))) ∧ Keep h0 h []
set_option maxRecDepth 65536 in
set_option maxHeartbeats 40000000 in
theorem rm18_2 (l : Launch) (Z : State) (a0 : Array Value) (hw : ∀ d ∈ tables_1, d.before a0 Z = true) (b : Addr) (g0 : Int64) (g1 : Int64) (h0 : Heap) (n0 : Nat) (Z0 : n0 ≤ h0.size) (V1 : Va Z h0 b .long [(.long g0), (.long g1)]) : Ctr l Z (⟨"com/example/stratasig/stratasig/index/GapCoding", "parameter", "([J)I"⟩ : MethodName) prog_128_method_2_code 1 (some .int) ({ frames := 4, cells := 2, slots := 9, locals := 69 } : Room) #[(.ref b)] h0 n0 (Q18_2 Z b g0 g1 h0 n0) := by
  refine Ctr.of (plainFor_of_name pn_14) (ef_18_2 b) ?_
  intro p e s m below meth c T0 hx hby hml hown hnm hret hlk hZ X0 e0
  have N0 := Fr.nil n0
  refine g_aloadN X0 hx (hb hby d18_0) (pc' := 1) rfl rfl rfl ?_
  obtain ⟨v542, T542, h542, L542, X542, e542, N542, q542, st542⟩ := h_static X0 hx (W := 0) (Ls := #[.val (.ref b)]) (argsL := [(.ref b)]) (rest := []) hZ e0 N0 hml hown (rm14_2 l Z a0 hw b g0 g1 h0 n0 Z0 V1) (hw _ (List.mem_of_getElem? (i := 83) rfl)) (hw _ (List.mem_of_getElem? (i := 84) rfl)) (hw _ (List.mem_of_getElem? (i := 81) rfl)) (hw _ (List.mem_of_getElem? (i := 85) rfl)) (by decide) pd___J_Lcom_example_stratasig_stratasig_index_GapCoding_Tally_ rfl rfl (hb hby d18_1) rfl (by decide) (by decide) (by decide) (by decide)
  obtain ⟨t542, rfl, ge542, K542, A542, C542, L542, P542, Q542, R542⟩ := q542
  have f543 := V1.keep K542 nin0
  have Z544 : n0 ≤ h542.size := Nat.le_trans Z0 K542.1
  have K545 := (Keep.refl h0 []).trans K542 all0
  refine Go.movp st542 (mkF m 4 #[.val (.ref b)] [(.ref t542)]) rfl ?_
  obtain ⟨v546, T546, h546, L546, X546, e546, N546, q546, st546⟩ := h_virtual (a := t542) (z := (⟨"com/example/stratasig/stratasig/index/GapCoding$Tally", "parameter", "()I"⟩ : MethodName)) X542 hx (W := 0) (Ls := #[.val (.ref b)]) (argsL := []) (rest := []) hZ e542 N542 hml hown (rm17 l Z a0 hw t542 (2 : Int64) (lowV (2 : Int64) (g0 + g1)) ((lushr g0 (lowV (2 : Int64) (g0 + g1))) + (lushr g1 (lowV (2 : Int64) (g0 + g1)))) ((lushr g0 ((lowV (2 : Int64) (g0 + g1)) + (1 : Int32))) + (lushr g1 ((lowV (2 : Int64) (g0 + g1)) + (1 : Int32)))) ((lushr g0 ((lowV (2 : Int64) (g0 + g1)) + (2 : Int32))) + (lushr g1 ((lowV (2 : Int64) (g0 + g1)) + (2 : Int32)))) h542 n0 Z544 C542 L542 P542 Q542 R542 A542) A542 (hw _ (List.mem_of_getElem? (i := 105) rfl)) (hw _ (List.mem_of_getElem? (i := 98) rfl)) (notFace_of_selects (args := #[]) (mvT hZ (hw _ (List.mem_of_getElem? (i := 100) rfl)))) (hw _ (List.mem_of_getElem? (i := 100) rfl)) (hw _ (List.mem_of_getElem? (i := 99) rfl)) (hw _ (List.mem_of_getElem? (i := 20) rfl)) (hw _ (List.mem_of_getElem? (i := 101) rfl)) (by decide) pd___I rfl rfl (hb hby d18_4) rfl (by decide) (by decide) (by decide) (by decide)
  obtain ⟨rfl, K546⟩ := q546
  have f547 := f543.keep K546 nin0
  have f548 := C542.keep K546 nin0
  have f549 := L542.keep K546 nin0
  have f550 := P542.keep K546 nin0
  have f551 := Q542.keep K546 nin0
  have f552 := R542.keep K546 nin0
  have f553 := A542.keep K546
  have Z554 : n0 ≤ h546.size := Nat.le_trans Z544 K546.1
  have K555 := K545.trans K546 all0
  refine Go.movp st546 (mkF m 7 #[.val (.ref b)] [(.int ((lowV (2 : Int64) (g0 + g1)) + (bestV (2 : Int64) ((lushr g0 (lowV (2 : Int64) (g0 + g1))) + (lushr g1 (lowV (2 : Int64) (g0 + g1)))) ((lushr g0 ((lowV (2 : Int64) (g0 + g1)) + (1 : Int32))) + (lushr g1 ((lowV (2 : Int64) (g0 + g1)) + (1 : Int32)))) ((lushr g0 ((lowV (2 : Int64) (g0 + g1)) + (2 : Int32))) + (lushr g1 ((lowV (2 : Int64) (g0 + g1)) + (2 : Int32)))))))]) rfl ?_
  exact g_ireturn X546 hx hret (hb hby d18_7) N546 hlk (fun v t => endF (by decide) (by decide) v) (by rw [e546]; exact ⟨rfl, K555⟩)
theorem ef_16_3 (x0 : Addr) (x1 : Int32) (m : MethodId) : entryFrame m #[(.ref x0), (.int x1)] 9 = mkF m 0 #[.val (.ref x0), .val (.int x1), .unset, .unset, .unset, .unset, .unset, .unset, .unset] [] := by first | (simp [entryFrame, mkF, argsToLocals, Value.category]; done) | rfl
def Q16_3 (Z : State) (b : Addr) (rr : Int32) (g0 : Int64) (g1 : Int64) (g2 : Int64) (h0 : Heap) (n0 : Nat) : Option Value → Heap → Prop := fun v h => v = some (.long (((lushr g0 rr) + (lushr g1 rr)) + (lushr g2 rr))) ∧ h0 = h
set_option maxRecDepth 65536 in
set_option maxHeartbeats 40000000 in
theorem rm16_3 (l : Launch) (Z : State) (a0 : Array Value) (hw : ∀ d ∈ tables_1, d.before a0 Z = true) (b : Addr) (rr : Int32) (g0 : Int64) (g1 : Int64) (g2 : Int64) (h0 : Heap) (n0 : Nat) (Z0 : n0 ≤ h0.size) (V1 : Va Z h0 b .long [(.long g0), (.long g1), (.long g2)]) : Ctr l Z (⟨"com/example/stratasig/stratasig/index/GapCoding$Tally", "quotients", "([JI)J"⟩ : MethodName) prog_131_method_5_code 9 (some .long) ({ frames := 0, cells := 0, slots := 0, locals := 0 } : Room) #[(.ref b), (.int rr)] h0 n0 (Q16_3 Z b rr g0 g1 g2 h0 n0) := by
  refine Ctr.of (plainFor_of_name pn_4) (ef_16_3 b rr) ?_
  intro p e s m below meth c T0 hx hby hml hown hnm hret hlk hZ X0 e0
  have N0 := Fr.nil n0
  refine g_lconst X0 hx (hb hby d16_0) (pc' := 1) rfl (z := (0 : Int64)) rfl ?_
  refine g_lstoreN X0 hx (hb hby d16_1) (pc' := 2) rfl (Ls' := #[.val (.ref b), .val (.int rr), .val (.long (0 : Int64)), .second, .unset, .unset, .unset, .unset, .unset]) rfl ?_
  refine g_aloadN X0 hx (hb hby d16_2) (pc' := 3) rfl rfl rfl ?_
  refine g_astore X0 hx (hb hby d16_3) (pc' := 5) rfl rfl (Ls' := #[.val (.ref b), .val (.int rr), .val (.long (0 : Int64)), .second, .val (.ref b), .unset, .unset, .unset, .unset]) rfl ?_
  refine g_aload X0 hx (hb hby d16_5) (pc' := 7) rfl rfl rfl ?_
  refine g_arraylength X0 hx hZ e0 V1 (z := (3 : Int32)) (hb hby d16_7) (pc' := 8) rfl rfl ?_
  refine g_istore X0 hx (hb hby d16_8) (pc' := 10) rfl (Ls' := #[.val (.ref b), .val (.int rr), .val (.long (0 : Int64)), .second, .val (.ref b), .val (.int (3 : Int32)), .unset, .unset, .unset]) rfl ?_
  refine g_iconst X0 hx (hb hby d16_10) (pc' := 11) rfl (z := (0 : Int32)) rfl ?_
  refine g_istore X0 hx (hb hby d16_11) (pc' := 13) rfl (Ls' := #[.val (.ref b), .val (.int rr), .val (.long (0 : Int64)), .second, .val (.ref b), .val (.int (3 : Int32)), .val (.int (0 : Int32)), .unset, .unset]) rfl ?_
  refine g_iload X0 hx (hb hby d16_13) (pc' := 15) rfl rfl ?_
  refine g_iload X0 hx (hb hby d16_15) (pc' := 17) rfl rfl ?_
  refine g_icmp_ge X0 hx (hb hby d16_17) (pc1 := 20) rfl (by decide) (pc2 := 40) (by decide) (fun hc17 => absurd (by decide) hc17) (fun hc17 => ?_)
  refine g_aload X0 hx (hb hby d16_20) (pc' := 22) rfl rfl rfl ?_
  refine g_iload X0 hx (hb hby d16_22) (pc' := 24) rfl rfl ?_
  refine g_laload X0 hx hZ e0 V1 (i := 0) (v := (.long g0)) (hb hby d16_24) (pc' := 25) rfl (by decide) rfl rfl ?_
  refine g_lstore X0 hx (hb hby d16_25) (pc' := 27) rfl (Ls' := #[.val (.ref b), .val (.int rr), .val (.long (0 : Int64)), .second, .val (.ref b), .val (.int (3 : Int32)), .val (.int (0 : Int32)), .val (.long g0), .second]) rfl ?_
  refine g_lloadN X0 hx (hb hby d16_27) (pc' := 28) rfl rfl ?_
  refine g_lload X0 hx (hb hby d16_28) (pc' := 30) rfl rfl ?_
  refine g_iloadN X0 hx (hb hby d16_30) (pc' := 31) rfl rfl ?_
  refine g_lushr X0 hx (hb hby d16_31) (pc' := 32) rfl ?_
  refine g_ladd X0 hx (hb hby d16_32) (pc' := 33) rfl ?_
  refine Go.cast (show (mkF m 33 #[.val (.ref b), .val (.int rr), .val (.long (0 : Int64)), .second, .val (.ref b), .val (.int (3 : Int32)), .val (.int (0 : Int32)), .val (.long g0), .second] [(.long ((0 : Int64) + (lushr g0 rr)))]) = (mkF m 33 #[.val (.ref b), .val (.int rr), .val (.long (0 : Int64)), .second, .val (.ref b), .val (.int (3 : Int32)), .val (.int (0 : Int32)), .val (.long g0), .second] [(.long (lushr g0 rr))]) from by rw [show ((0 : Int64) + (lushr g0 rr)) = (lushr g0 rr) from (Int64.zero_add _)]) ?_
  refine g_lstoreN X0 hx (hb hby d16_33) (pc' := 34) rfl (Ls' := #[.val (.ref b), .val (.int rr), .val (.long (lushr g0 rr)), .second, .val (.ref b), .val (.int (3 : Int32)), .val (.int (0 : Int32)), .val (.long g0), .second]) rfl ?_
  refine g_iinc X0 hx (hb hby d16_34) (pc' := 37) rfl rfl (z := (1 : Int32)) rfl (Ls' := #[.val (.ref b), .val (.int rr), .val (.long (lushr g0 rr)), .second, .val (.ref b), .val (.int (3 : Int32)), .val (.int (1 : Int32)), .val (.long g0), .second]) rfl ?_
  refine g_goto X0 hx (hb hby d16_37) (by decide) (pc' := 13) (by decide) ?_
  refine g_iload X0 hx (hb hby d16_13) (pc' := 15) rfl rfl ?_
  refine g_iload X0 hx (hb hby d16_15) (pc' := 17) rfl rfl ?_
  refine g_icmp_ge X0 hx (hb hby d16_17) (pc1 := 20) rfl (by decide) (pc2 := 40) (by decide) (fun hc17_1 => absurd (by decide) hc17_1) (fun hc17_1 => ?_)
  refine g_aload X0 hx (hb hby d16_20) (pc' := 22) rfl rfl rfl ?_
  refine g_iload X0 hx (hb hby d16_22) (pc' := 24) rfl rfl ?_
  refine g_laload X0 hx hZ e0 V1 (i := 1) (v := (.long g1)) (hb hby d16_24) (pc' := 25) rfl (by decide) rfl rfl ?_
  refine g_lstore X0 hx (hb hby d16_25) (pc' := 27) rfl (Ls' := #[.val (.ref b), .val (.int rr), .val (.long (lushr g0 rr)), .second, .val (.ref b), .val (.int (3 : Int32)), .val (.int (1 : Int32)), .val (.long g1), .second]) rfl ?_
  refine g_lloadN X0 hx (hb hby d16_27) (pc' := 28) rfl rfl ?_
  refine g_lload X0 hx (hb hby d16_28) (pc' := 30) rfl rfl ?_
  refine g_iloadN X0 hx (hb hby d16_30) (pc' := 31) rfl rfl ?_
  refine g_lushr X0 hx (hb hby d16_31) (pc' := 32) rfl ?_
  refine g_ladd X0 hx (hb hby d16_32) (pc' := 33) rfl ?_
  refine g_lstoreN X0 hx (hb hby d16_33) (pc' := 34) rfl (Ls' := #[.val (.ref b), .val (.int rr), .val (.long ((lushr g0 rr) + (lushr g1 rr))), .second, .val (.ref b), .val (.int (3 : Int32)), .val (.int (1 : Int32)), .val (.long g1), .second]) rfl ?_
  refine g_iinc X0 hx (hb hby d16_34) (pc' := 37) rfl rfl (z := (1 : Int32)) rfl (Ls' := #[.val (.ref b), .val (.int rr), .val (.long ((lushr g0 rr) + (lushr g1 rr))), .second, .val (.ref b), .val (.int (3 : Int32)), .val (.int (2 : Int32)), .val (.long g1), .second]) rfl ?_
  refine g_goto X0 hx (hb hby d16_37) (by decide) (pc' := 13) (by decide) ?_
  refine g_iload X0 hx (hb hby d16_13) (pc' := 15) rfl rfl ?_
  refine g_iload X0 hx (hb hby d16_15) (pc' := 17) rfl rfl ?_
  refine g_icmp_ge X0 hx (hb hby d16_17) (pc1 := 20) rfl (by decide) (pc2 := 40) (by decide) (fun hc17_2 => absurd (by decide) hc17_2) (fun hc17_2 => ?_)
  refine g_aload X0 hx (hb hby d16_20) (pc' := 22) rfl rfl rfl ?_
  refine g_iload X0 hx (hb hby d16_22) (pc' := 24) rfl rfl ?_
  refine g_laload X0 hx hZ e0 V1 (i := 2) (v := (.long g2)) (hb hby d16_24) (pc' := 25) rfl (by decide) rfl rfl ?_
  refine g_lstore X0 hx (hb hby d16_25) (pc' := 27) rfl (Ls' := #[.val (.ref b), .val (.int rr), .val (.long ((lushr g0 rr) + (lushr g1 rr))), .second, .val (.ref b), .val (.int (3 : Int32)), .val (.int (2 : Int32)), .val (.long g2), .second]) rfl ?_
  refine g_lloadN X0 hx (hb hby d16_27) (pc' := 28) rfl rfl ?_
  refine g_lload X0 hx (hb hby d16_28) (pc' := 30) rfl rfl ?_
  refine g_iloadN X0 hx (hb hby d16_30) (pc' := 31) rfl rfl ?_
  refine g_lushr X0 hx (hb hby d16_31) (pc' := 32) rfl ?_
  refine g_ladd X0 hx (hb hby d16_32) (pc' := 33) rfl ?_
  refine g_lstoreN X0 hx (hb hby d16_33) (pc' := 34) rfl (Ls' := #[.val (.ref b), .val (.int rr), .val (.long (((lushr g0 rr) + (lushr g1 rr)) + (lushr g2 rr))), .second, .val (.ref b), .val (.int (3 : Int32)), .val (.int (2 : Int32)), .val (.long g2), .second]) rfl ?_
  refine g_iinc X0 hx (hb hby d16_34) (pc' := 37) rfl rfl (z := (1 : Int32)) rfl (Ls' := #[.val (.ref b), .val (.int rr), .val (.long (((lushr g0 rr) + (lushr g1 rr)) + (lushr g2 rr))), .second, .val (.ref b), .val (.int (3 : Int32)), .val (.int (3 : Int32)), .val (.long g2), .second]) rfl ?_
  refine g_goto X0 hx (hb hby d16_37) (by decide) (pc' := 13) (by decide) ?_
  refine g_iload X0 hx (hb hby d16_13) (pc' := 15) rfl rfl ?_
  refine g_iload X0 hx (hb hby d16_15) (pc' := 17) rfl rfl ?_
  refine g_icmp_ge X0 hx (hb hby d16_17) (pc1 := 20) rfl (by decide) (pc2 := 40) (by decide) (fun hc17_3 => ?_) (fun hc17_3 => absurd hc17_3 (by decide))
  refine g_lloadN X0 hx (hb hby d16_40) (pc' := 41) rfl rfl ?_
  exact g_lreturn X0 hx hret (hb hby d16_41) N0 hlk (fun v t => endF (by decide) (by decide) v) (by rw [e0]; exact ⟨rfl, rfl⟩)
theorem ef_15_3 (x0 : Addr) (x1 : Addr) (m : MethodId) : entryFrame m #[(.ref x0), (.ref x1)] 2 = mkF m 0 #[.val (.ref x0), .val (.ref x1)] [] := by first | (simp [entryFrame, mkF, argsToLocals, Value.category]; done) | rfl
def Q15_3 (Z : State) (a : Addr) (b : Addr) (c0 : Int64) (lo : Int32) (g0 : Int64) (g1 : Int64) (g2 : Int64) (h0 : Heap) (n0 : Nat) : Option Value → Heap → Prop := fun v h => v = none ∧ Keep h0 h [a] ∧ Exa Z h a "com/example/stratasig/stratasig/index/GapCoding$Tally" ∧ Fld Z h a "com/example/stratasig/stratasig/index/GapCoding$Tally" "count" "J" (.long c0) ∧ Fld Z h a "com/example/stratasig/stratasig/index/GapCoding$Tally" "lowest" "I" (.int lo) ∧ Fld Z h a "com/example/stratasig/stratasig/index/GapCoding$Tally" "atLowest" "J" (.long (((lushr g0 lo) + (lushr g1 lo)) + (lushr g2 lo))) ∧ Fld Z h a "com/example/stratasig/stratasig/index/GapCoding$Tally" "oneAbove" "J" (.long (((lushr g0 (lo + (1 : Int32))) + (lushr g1 (lo + (1 : Int32)))) + (lushr g2 (lo + (1 : Int32))))) ∧ Fld Z h a "com/example/stratasig/stratasig/index/GapCoding$Tally" "twoAbove" "J" (.long (((lushr g0 (lo + (2 : Int32))) + (lushr g1 (lo + (2 : Int32)))) + (lushr g2 (lo + (2 : Int32)))))
set_option maxRecDepth 65536 in
set_option maxHeartbeats 40000000 in
theorem rm15_3 (l : Launch) (Z : State) (a0 : Array Value) (hw : ∀ d ∈ tables_1, d.before a0 Z = true) (a : Addr) (b : Addr) (c0 : Int64) (lo : Int32) (g0 : Int64) (g1 : Int64) (g2 : Int64) (h0 : Heap) (n0 : Nat) (Z0 : n0 ≤ h0.size) (F_count : Fld Z h0 a "com/example/stratasig/stratasig/index/GapCoding$Tally" "count" "J" (.long c0)) (F_lowest : Fld Z h0 a "com/example/stratasig/stratasig/index/GapCoding$Tally" "lowest" "I" (.int lo)) (F_atLowest : Fld Z h0 a "com/example/stratasig/stratasig/index/GapCoding$Tally" "atLowest" "J" (.long (0 : Int64))) (F_oneAbove : Fld Z h0 a "com/example/stratasig/stratasig/index/GapCoding$Tally" "oneAbove" "J" (.long (0 : Int64))) (F_twoAbove : Fld Z h0 a "com/example/stratasig/stratasig/index/GapCoding$Tally" "twoAbove" "J" (.long (0 : Int64))) (V1 : Va Z h0 b .long [(.long g0), (.long g1), (.long g2)]) (E1 : Exa Z h0 a "com/example/stratasig/stratasig/index/GapCoding$Tally") (G1 : n0 ≤ a) (ne1 : b ≠ a) : Ctr l Z (⟨"com/example/stratasig/stratasig/index/GapCoding$Tally", "add", "([J)V"⟩ : MethodName) prog_131_method_4_code 2 none ({ frames := 1, cells := 0, slots := 0, locals := 23 } : Room) #[(.ref a), (.ref b)] h0 n0 (Q15_3 Z a b c0 lo g0 g1 g2 h0 n0) := by
  refine Ctr.of (plainFor_of_name pn_4) (ef_15_3 a b) ?_
  intro p e s m below meth c T0 hx hby hml hown hnm hret hlk hZ X0 e0
  have N0 := Fr.nil n0
  refine g_aloadN X0 hx (hb hby d15_0) (pc' := 1) rfl rfl rfl ?_
  refine g_dup X0 hx (hb hby d15_1) (pc' := 2) rfl rfl ?_
  obtain ⟨T556, X556, e556, st556⟩ := getF X0 hx hZ hown (host := "") (Or.inl (hw _ (List.mem_of_getElem? (i := 76) rfl))) Via.refl e0 F_atLowest (g := (mkF m 2 #[.val (.ref a), .val (.ref b)] [(.ref a), (.ref a)])) rfl rfl (hb hby d15_2)
  refine Go.movp st556 (mkF m 5 #[.val (.ref a), .val (.ref b)] [(.long (0 : Int64)), (.ref a)]) rfl ?_
  refine g_aloadN X556 hx (hb hby d15_5) (pc' := 6) rfl rfl rfl ?_
  refine g_aloadN X556 hx (hb hby d15_6) (pc' := 7) rfl rfl rfl ?_
  obtain ⟨T557, X557, e557, st557⟩ := getF X556 hx hZ hown (host := "") (Or.inl (hw _ (List.mem_of_getElem? (i := 45) rfl))) Via.refl e556 F_lowest (g := (mkF m 7 #[.val (.ref a), .val (.ref b)] [(.ref a), (.ref b), (.long (0 : Int64)), (.ref a)])) rfl rfl (hb hby d15_7)
  refine Go.movp st557 (mkF m 10 #[.val (.ref a), .val (.ref b)] [(.int lo), (.ref b), (.long (0 : Int64)), (.ref a)]) rfl ?_
  obtain ⟨v558, T558, h558, L558, X558, e558, N558, q558, st558⟩ := h_static X557 hx (W := 3) (Ls := #[.val (.ref a), .val (.ref b)]) (argsL := [(.ref b), (.int lo)]) (rest := [(.long (0 : Int64)), (.ref a)]) hZ e557 N0 hml hown (rm16_3 l Z a0 hw b lo g0 g1 g2 h0 n0 Z0 V1) (hw _ (List.mem_of_getElem? (i := 93) rfl)) (hw _ (List.mem_of_getElem? (i := 94) rfl)) (hw _ (List.mem_of_getElem? (i := 20) rfl)) (hw _ (List.mem_of_getElem? (i := 95) rfl)) (by decide) pd___JI_J rfl rfl (hb hby d15_10) rfl (by decide) (by decide) (by decide) (by decide)
  obtain ⟨rfl, rfl⟩ := q558
  refine Go.movp st558 (mkF m 13 #[.val (.ref a), .val (.ref b)] [(.long (((lushr g0 lo) + (lushr g1 lo)) + (lushr g2 lo))), (.long (0 : Int64)), (.ref a)]) rfl ?_
  refine g_ladd X558 hx (hb hby d15_13) (pc' := 14) rfl ?_
  refine Go.cast (show (mkF m 14 #[.val (.ref a), .val (.ref b)] [(.long ((0 : Int64) + (((lushr g0 lo) + (lushr g1 lo)) + (lushr g2 lo)))), (.ref a)]) = (mkF m 14 #[.val (.ref a), .val (.ref b)] [(.long (((lushr g0 lo) + (lushr g1 lo)) + (lushr g2 lo))), (.ref a)]) from by rw [show ((0 : Int64) + (((lushr g0 lo) + (lushr g1 lo)) + (lushr g2 lo))) = (((lushr g0 lo) + (lushr g1 lo)) + (lushr g2 lo)) from (Int64.zero_add _)]) ?_
  obtain ⟨T559, h559, X559, e559, W559, st559⟩ := putF X558 hx hZ hown (host := "") (Or.inl (hw _ (List.mem_of_getElem? (i := 76) rfl))) Via.refl e558 F_atLowest E1 (Or.inl (hw _ (List.mem_of_getElem? (i := 53) rfl))) (hw _ (List.mem_of_getElem? (i := 19) rfl)) (ty := .long) (by decide) rfl rfl (g := (mkF m 14 #[.val (.ref a), .val (.ref b)] [(.long (((lushr g0 lo) + (lushr g1 lo)) + (lushr g2 lo))), (.ref a)])) rfl rfl (hb hby d15_14)
  have f560 : Fld Z h559 a "com/example/stratasig/stratasig/index/GapCoding$Tally" "atLowest" "J" (.long (((lushr g0 lo) + (lushr g1 lo)) + (lushr g2 lo))) := Fld.same W559 F_atLowest
  have N559 := Fr.snoc X559 N558 G1
  have f561 := Fld.other W559 F_count (Or.inr (slot_ne (Or.inr (hw _ (List.mem_of_getElem? (i := 30) rfl))) (Or.inl (hw _ (List.mem_of_getElem? (i := 53) rfl))) (by decide) (t := .long) (t' := .long) (by decide) (by decide)))
  have f562 := Fld.other W559 F_lowest (Or.inr (slot_ne (Or.inr (hw _ (List.mem_of_getElem? (i := 46) rfl))) (Or.inl (hw _ (List.mem_of_getElem? (i := 53) rfl))) (by decide) (t := .int) (t' := .long) (by decide) (by decide)))
  have f563 := Fld.other W559 F_oneAbove (Or.inr (slot_ne (Or.inl (hw _ (List.mem_of_getElem? (i := 55) rfl))) (Or.inl (hw _ (List.mem_of_getElem? (i := 53) rfl))) (by decide) (t := .long) (t' := .long) (by decide) (by decide)))
  have f564 := Fld.other W559 F_twoAbove (Or.inr (slot_ne (Or.inl (hw _ (List.mem_of_getElem? (i := 57) rfl))) (Or.inl (hw _ (List.mem_of_getElem? (i := 53) rfl))) (by decide) (t := .long) (t' := .long) (by decide) (by decide)))
  have f565 := V1.other W559 ne1
  have f566 := Exa.wr W559 E1
  have Z567 : n0 ≤ h559.size := Nat.le_trans Z0 (Keep.of_wr W559).1
  have K568 := (Keep.refl h0 [a]).wr W559 (Or.inl (List.mem_of_getElem? (i := 0) rfl))
  refine Go.movp st559 (mkF m 17 #[.val (.ref a), .val (.ref b)] []) rfl ?_
  refine g_aloadN X559 hx (hb hby d15_17) (pc' := 18) rfl rfl rfl ?_
  refine g_dup X559 hx (hb hby d15_18) (pc' := 19) rfl rfl ?_
  obtain ⟨T569, X569, e569, st569⟩ := getF X559 hx hZ hown (host := "") (Or.inl (hw _ (List.mem_of_getElem? (i := 77) rfl))) Via.refl e559 f563 (g := (mkF m 19 #[.val (.ref a), .val (.ref b)] [(.ref a), (.ref a)])) rfl rfl (hb hby d15_19)
  refine Go.movp st569 (mkF m 22 #[.val (.ref a), .val (.ref b)] [(.long (0 : Int64)), (.ref a)]) rfl ?_
  refine g_aloadN X569 hx (hb hby d15_22) (pc' := 23) rfl rfl rfl ?_
  refine g_aloadN X569 hx (hb hby d15_23) (pc' := 24) rfl rfl rfl ?_
  obtain ⟨T570, X570, e570, st570⟩ := getF X569 hx hZ hown (host := "") (Or.inl (hw _ (List.mem_of_getElem? (i := 45) rfl))) Via.refl e569 f562 (g := (mkF m 24 #[.val (.ref a), .val (.ref b)] [(.ref a), (.ref b), (.long (0 : Int64)), (.ref a)])) rfl rfl (hb hby d15_24)
  refine Go.movp st570 (mkF m 27 #[.val (.ref a), .val (.ref b)] [(.int lo), (.ref b), (.long (0 : Int64)), (.ref a)]) rfl ?_
  refine g_iconst X570 hx (hb hby d15_27) (pc' := 28) rfl (z := (1 : Int32)) rfl ?_
  refine g_iadd X570 hx (hb hby d15_28) (pc' := 29) rfl ?_
  obtain ⟨v571, T571, h571, L571, X571, e571, N571, q571, st571⟩ := h_static X570 hx (W := 3) (Ls := #[.val (.ref a), .val (.ref b)]) (argsL := [(.ref b), (.int (lo + (1 : Int32)))]) (rest := [(.long (0 : Int64)), (.ref a)]) hZ e570 N559 hml hown (rm16_3 l Z a0 hw b (lo + (1 : Int32)) g0 g1 g2 h559 n0 Z567 f565) (hw _ (List.mem_of_getElem? (i := 93) rfl)) (hw _ (List.mem_of_getElem? (i := 94) rfl)) (hw _ (List.mem_of_getElem? (i := 20) rfl)) (hw _ (List.mem_of_getElem? (i := 95) rfl)) (by decide) pd___JI_J rfl rfl (hb hby d15_29) rfl (by decide) (by decide) (by decide) (by decide)
  obtain ⟨rfl, rfl⟩ := q571
  refine Go.movp st571 (mkF m 32 #[.val (.ref a), .val (.ref b)] [(.long (((lushr g0 (lo + (1 : Int32))) + (lushr g1 (lo + (1 : Int32)))) + (lushr g2 (lo + (1 : Int32))))), (.long (0 : Int64)), (.ref a)]) rfl ?_
  refine g_ladd X571 hx (hb hby d15_32) (pc' := 33) rfl ?_
  refine Go.cast (show (mkF m 33 #[.val (.ref a), .val (.ref b)] [(.long ((0 : Int64) + (((lushr g0 (lo + (1 : Int32))) + (lushr g1 (lo + (1 : Int32)))) + (lushr g2 (lo + (1 : Int32)))))), (.ref a)]) = (mkF m 33 #[.val (.ref a), .val (.ref b)] [(.long (((lushr g0 (lo + (1 : Int32))) + (lushr g1 (lo + (1 : Int32)))) + (lushr g2 (lo + (1 : Int32))))), (.ref a)]) from by rw [show ((0 : Int64) + (((lushr g0 (lo + (1 : Int32))) + (lushr g1 (lo + (1 : Int32)))) + (lushr g2 (lo + (1 : Int32))))) = (((lushr g0 (lo + (1 : Int32))) + (lushr g1 (lo + (1 : Int32)))) + (lushr g2 (lo + (1 : Int32)))) from (Int64.zero_add _)]) ?_
  obtain ⟨T572, h572, X572, e572, W572, st572⟩ := putF X571 hx hZ hown (host := "") (Or.inl (hw _ (List.mem_of_getElem? (i := 77) rfl))) Via.refl e571 f563 f566 (Or.inl (hw _ (List.mem_of_getElem? (i := 55) rfl))) (hw _ (List.mem_of_getElem? (i := 19) rfl)) (ty := .long) (by decide) rfl rfl (g := (mkF m 33 #[.val (.ref a), .val (.ref b)] [(.long (((lushr g0 (lo + (1 : Int32))) + (lushr g1 (lo + (1 : Int32)))) + (lushr g2 (lo + (1 : Int32))))), (.ref a)])) rfl rfl (hb hby d15_33)
  have f573 : Fld Z h572 a "com/example/stratasig/stratasig/index/GapCoding$Tally" "oneAbove" "J" (.long (((lushr g0 (lo + (1 : Int32))) + (lushr g1 (lo + (1 : Int32)))) + (lushr g2 (lo + (1 : Int32))))) := Fld.same W572 f563
  have N572 := Fr.snoc X572 N571 G1
  have f574 := Fld.other W572 f561 (Or.inr (slot_ne (Or.inr (hw _ (List.mem_of_getElem? (i := 30) rfl))) (Or.inl (hw _ (List.mem_of_getElem? (i := 55) rfl))) (by decide) (t := .long) (t' := .long) (by decide) (by decide)))
  have f575 := Fld.other W572 f562 (Or.inr (slot_ne (Or.inr (hw _ (List.mem_of_getElem? (i := 46) rfl))) (Or.inl (hw _ (List.mem_of_getElem? (i := 55) rfl))) (by decide) (t := .int) (t' := .long) (by decide) (by decide)))
  have f576 := Fld.other W572 f564 (Or.inr (slot_ne (Or.inl (hw _ (List.mem_of_getElem? (i := 57) rfl))) (Or.inl (hw _ (List.mem_of_getElem? (i := 55) rfl))) (by decide) (t := .long) (t' := .long) (by decide) (by decide)))
  have f577 := f565.other W572 ne1
  have f578 := Exa.wr W572 f566
  have f579 := Fld.other W572 f560 (Or.inr (slot_ne (Or.inl (hw _ (List.mem_of_getElem? (i := 53) rfl))) (Or.inl (hw _ (List.mem_of_getElem? (i := 55) rfl))) (by decide) (t := .long) (t' := .long) (by decide) (by decide)))
  have Z580 : n0 ≤ h572.size := Nat.le_trans Z567 (Keep.of_wr W572).1
  have K581 := K568.wr W572 (Or.inl (List.mem_of_getElem? (i := 0) rfl))
  refine Go.movp st572 (mkF m 36 #[.val (.ref a), .val (.ref b)] []) rfl ?_
  refine g_aloadN X572 hx (hb hby d15_36) (pc' := 37) rfl rfl rfl ?_
  refine g_dup X572 hx (hb hby d15_37) (pc' := 38) rfl rfl ?_
  obtain ⟨T582, X582, e582, st582⟩ := getF X572 hx hZ hown (host := "") (Or.inl (hw _ (List.mem_of_getElem? (i := 78) rfl))) Via.refl e572 f576 (g := (mkF m 38 #[.val (.ref a), .val (.ref b)] [(.ref a), (.ref a)])) rfl rfl (hb hby d15_38)
  refine Go.movp st582 (mkF m 41 #[.val (.ref a), .val (.ref b)] [(.long (0 : Int64)), (.ref a)]) rfl ?_
  refine g_aloadN X582 hx (hb hby d15_41) (pc' := 42) rfl rfl rfl ?_
  refine g_aloadN X582 hx (hb hby d15_42) (pc' := 43) rfl rfl rfl ?_
  obtain ⟨T583, X583, e583, st583⟩ := getF X582 hx hZ hown (host := "") (Or.inl (hw _ (List.mem_of_getElem? (i := 45) rfl))) Via.refl e582 f575 (g := (mkF m 43 #[.val (.ref a), .val (.ref b)] [(.ref a), (.ref b), (.long (0 : Int64)), (.ref a)])) rfl rfl (hb hby d15_43)
  refine Go.movp st583 (mkF m 46 #[.val (.ref a), .val (.ref b)] [(.int lo), (.ref b), (.long (0 : Int64)), (.ref a)]) rfl ?_
  refine g_iconst X583 hx (hb hby d15_46) (pc' := 47) rfl (z := (2 : Int32)) rfl ?_
  refine g_iadd X583 hx (hb hby d15_47) (pc' := 48) rfl ?_
  obtain ⟨v584, T584, h584, L584, X584, e584, N584, q584, st584⟩ := h_static X583 hx (W := 3) (Ls := #[.val (.ref a), .val (.ref b)]) (argsL := [(.ref b), (.int (lo + (2 : Int32)))]) (rest := [(.long (0 : Int64)), (.ref a)]) hZ e583 N572 hml hown (rm16_3 l Z a0 hw b (lo + (2 : Int32)) g0 g1 g2 h572 n0 Z580 f577) (hw _ (List.mem_of_getElem? (i := 93) rfl)) (hw _ (List.mem_of_getElem? (i := 94) rfl)) (hw _ (List.mem_of_getElem? (i := 20) rfl)) (hw _ (List.mem_of_getElem? (i := 95) rfl)) (by decide) pd___JI_J rfl rfl (hb hby d15_48) rfl (by decide) (by decide) (by decide) (by decide)
  obtain ⟨rfl, rfl⟩ := q584
  refine Go.movp st584 (mkF m 51 #[.val (.ref a), .val (.ref b)] [(.long (((lushr g0 (lo + (2 : Int32))) + (lushr g1 (lo + (2 : Int32)))) + (lushr g2 (lo + (2 : Int32))))), (.long (0 : Int64)), (.ref a)]) rfl ?_
  refine g_ladd X584 hx (hb hby d15_51) (pc' := 52) rfl ?_
  refine Go.cast (show (mkF m 52 #[.val (.ref a), .val (.ref b)] [(.long ((0 : Int64) + (((lushr g0 (lo + (2 : Int32))) + (lushr g1 (lo + (2 : Int32)))) + (lushr g2 (lo + (2 : Int32)))))), (.ref a)]) = (mkF m 52 #[.val (.ref a), .val (.ref b)] [(.long (((lushr g0 (lo + (2 : Int32))) + (lushr g1 (lo + (2 : Int32)))) + (lushr g2 (lo + (2 : Int32))))), (.ref a)]) from by rw [show ((0 : Int64) + (((lushr g0 (lo + (2 : Int32))) + (lushr g1 (lo + (2 : Int32)))) + (lushr g2 (lo + (2 : Int32))))) = (((lushr g0 (lo + (2 : Int32))) + (lushr g1 (lo + (2 : Int32)))) + (lushr g2 (lo + (2 : Int32)))) from (Int64.zero_add _)]) ?_
  obtain ⟨T585, h585, X585, e585, W585, st585⟩ := putF X584 hx hZ hown (host := "") (Or.inl (hw _ (List.mem_of_getElem? (i := 78) rfl))) Via.refl e584 f576 f578 (Or.inl (hw _ (List.mem_of_getElem? (i := 57) rfl))) (hw _ (List.mem_of_getElem? (i := 19) rfl)) (ty := .long) (by decide) rfl rfl (g := (mkF m 52 #[.val (.ref a), .val (.ref b)] [(.long (((lushr g0 (lo + (2 : Int32))) + (lushr g1 (lo + (2 : Int32)))) + (lushr g2 (lo + (2 : Int32))))), (.ref a)])) rfl rfl (hb hby d15_52)
  have f586 : Fld Z h585 a "com/example/stratasig/stratasig/index/GapCoding$Tally" "twoAbove" "J" (.long (((lushr g0 (lo + (2 : Int32))) + (lushr g1 (lo + (2 : Int32)))) + (lushr g2 (lo + (2 : Int32))))) := Fld.same W585 f576
  have N585 := Fr.snoc X585 N584 G1
  have f587 := Fld.other W585 f574 (Or.inr (slot_ne (Or.inr (hw _ (List.mem_of_getElem? (i := 30) rfl))) (Or.inl (hw _ (List.mem_of_getElem? (i := 57) rfl))) (by decide) (t := .long) (t' := .long) (by decide) (by decide)))
  have f588 := Fld.other W585 f575 (Or.inr (slot_ne (Or.inr (hw _ (List.mem_of_getElem? (i := 46) rfl))) (Or.inl (hw _ (List.mem_of_getElem? (i := 57) rfl))) (by decide) (t := .int) (t' := .long) (by decide) (by decide)))
  have f589 := f577.other W585 ne1
  have f590 := Exa.wr W585 f578
  have f591 := Fld.other W585 f579 (Or.inr (slot_ne (Or.inl (hw _ (List.mem_of_getElem? (i := 53) rfl))) (Or.inl (hw _ (List.mem_of_getElem? (i := 57) rfl))) (by decide) (t := .long) (t' := .long) (by decide) (by decide)))
  have f592 := Fld.other W585 f573 (Or.inr (slot_ne (Or.inl (hw _ (List.mem_of_getElem? (i := 55) rfl))) (Or.inl (hw _ (List.mem_of_getElem? (i := 57) rfl))) (by decide) (t := .long) (t' := .long) (by decide) (by decide)))
  have Z593 : n0 ≤ h585.size := Nat.le_trans Z580 (Keep.of_wr W585).1
  have K594 := K581.wr W585 (Or.inl (List.mem_of_getElem? (i := 0) rfl))
  refine Go.movp st585 (mkF m 55 #[.val (.ref a), .val (.ref b)] []) rfl ?_
  exact g_return X585 hx hret (hb hby d15_55) N585 hlk (fun v t => endF (by decide) (by decide) v) (by rw [e585]; exact ⟨rfl, K594, f590, f587, f588, f591, f592, f586⟩)
theorem ef_14_3 (x0 : Addr) (m : MethodId) : entryFrame m #[(.ref x0)] 8 = mkF m 0 #[.val (.ref x0), .unset, .unset, .unset, .unset, .unset, .unset, .unset] [] := by first | (simp [entryFrame, mkF, argsToLocals, Value.category]; done) | rfl
def Q14_3 (Z : State) (b : Addr) (g0 : Int64) (g1 : Int64) (g2 : Int64) (h0 : Heap) (n0 : Nat) : Option Value → Heap → Prop := fun v h => ∃ t, v = some (.ref t) ∧ n0 ≤ t ∧ Keep h0 h [] ∧ Exa Z h t "com/example/stratasig/stratasig/index/GapCoding$Tally" ∧ Fld Z h t "com/example/stratasig/stratasig/index/GapCoding$Tally" "count" "J" (.long (3 : Int64)) ∧ Fld Z h t "com/example/stratasig/stratasig/index/GapCoding$Tally" "lowest" "I" (.int (lowV (3 : Int64) ((g0 + g1) + g2))) ∧ Fld Z h t "com/example/stratasig/stratasig/index/GapCoding$Tally" "atLowest" "J" (.long (((lushr g0 (lowV (3 : Int64) ((g0 + g1) + g2))) + (lushr g1 (lowV (3 : Int64) ((g0 + g1) + g2)))) + (lushr g2 (lowV (3 : Int64) ((g0 + g1) + g2))))) ∧ Fld Z h t "com/example/stratasig/stratasig/index/GapCoding$Tally" "oneAbove" "J" (.long (((lushr g0 ((lowV (3 : Int64) ((g0 + g1) + g2)) + (1 : Int32))) + (lushr g1 ((lowV (3 : Int64) ((g0 + g1) + g2)) + (1 : Int32)))) + (lushr g2 ((lowV (3 : Int64) ((g0 + g1) + g2)) + (1 : Int32))))) ∧ Fld Z h t "com/example/stratasig/stratasig/index/GapCoding$Tally" "twoAbove" "J" (.long (((lushr g0 ((lowV (3 : Int64) ((g0 + g1) + g2)) + (2 : Int32))) + (lushr g1 ((lowV (3 : Int64) ((g0 + g1) + g2)) + (2 : Int32)))) + (lushr g2 ((lowV (3 : Int64) ((g0 + g1) + g2)) + (2 : Int32)))))
set_option maxRecDepth 65536 in
set_option maxHeartbeats 40000000 in
theorem rm14_3 (l : Launch) (Z : State) (a0 : Array Value) (hw : ∀ d ∈ tables_1, d.before a0 Z = true) (b : Addr) (g0 : Int64) (g1 : Int64) (g2 : Int64) (h0 : Heap) (n0 : Nat) (Z0 : n0 ≤ h0.size) (V1 : Va Z h0 b .long [(.long g0), (.long g1), (.long g2)]) : Ctr l Z (⟨"com/example/stratasig/stratasig/index/GapCoding", "tally", "([J)Lcom/example/stratasig/stratasig/index/GapCoding$Tally;"⟩ : MethodName) prog_128_method_4_code 8 (some (.object "com/example/stratasig/stratasig/index/GapCoding$Tally")) ({ frames := 3, cells := 1, slots := 6, locals := 50 } : Room) #[(.ref b)] h0 n0 (Q14_3 Z b g0 g1 g2 h0 n0) := by
  refine Ctr.of (plainFor_of_name pn_14) (ef_14_3 b) ?_
  intro p e s m below meth c T0 hx hby hml hown hnm hret hlk hZ X0 e0
  have N0 := Fr.nil n0
  refine g_lconst X0 hx (hb hby d14_0) (pc' := 1) rfl (z := (0 : Int64)) rfl ?_
  refine g_lstoreN X0 hx (hb hby d14_1) (pc' := 2) rfl (Ls' := #[.val (.ref b), .val (.long (0 : Int64)), .second, .unset, .unset, .unset, .unset, .unset]) rfl ?_
  refine g_aloadN X0 hx (hb hby d14_2) (pc' := 3) rfl rfl rfl ?_
  refine g_astoreN X0 hx (hb hby d14_3) (pc' := 4) rfl rfl (Ls' := #[.val (.ref b), .val (.long (0 : Int64)), .second, .val (.ref b), .unset, .unset, .unset, .unset]) rfl ?_
  refine g_aloadN X0 hx (hb hby d14_4) (pc' := 5) rfl rfl rfl ?_
  refine g_arraylength X0 hx hZ e0 V1 (z := (3 : Int32)) (hb hby d14_5) (pc' := 6) rfl rfl ?_
  refine g_istore X0 hx (hb hby d14_6) (pc' := 8) rfl (Ls' := #[.val (.ref b), .val (.long (0 : Int64)), .second, .val (.ref b), .val (.int (3 : Int32)), .unset, .unset, .unset]) rfl ?_
  refine g_iconst X0 hx (hb hby d14_8) (pc' := 9) rfl (z := (0 : Int32)) rfl ?_
  refine g_istore X0 hx (hb hby d14_9) (pc' := 11) rfl (Ls' := #[.val (.ref b), .val (.long (0 : Int64)), .second, .val (.ref b), .val (.int (3 : Int32)), .val (.int (0 : Int32)), .unset, .unset]) rfl ?_
  refine g_iload X0 hx (hb hby d14_11) (pc' := 13) rfl rfl ?_
  refine g_iload X0 hx (hb hby d14_13) (pc' := 15) rfl rfl ?_
  refine g_icmp_ge X0 hx (hb hby d14_15) (pc1 := 18) rfl (by decide) (pc2 := 35) (by decide) (fun hc15 => absurd (by decide) hc15) (fun hc15 => ?_)
  refine g_aloadN X0 hx (hb hby d14_18) (pc' := 19) rfl rfl rfl ?_
  refine g_iload X0 hx (hb hby d14_19) (pc' := 21) rfl rfl ?_
  refine g_laload X0 hx hZ e0 V1 (i := 0) (v := (.long g0)) (hb hby d14_21) (pc' := 22) rfl (by decide) rfl rfl ?_
  refine g_lstore X0 hx (hb hby d14_22) (pc' := 24) rfl (Ls' := #[.val (.ref b), .val (.long (0 : Int64)), .second, .val (.ref b), .val (.int (3 : Int32)), .val (.int (0 : Int32)), .val (.long g0), .second]) rfl ?_
  refine g_lloadN X0 hx (hb hby d14_24) (pc' := 25) rfl rfl ?_
  refine g_lload X0 hx (hb hby d14_25) (pc' := 27) rfl rfl ?_
  refine g_ladd X0 hx (hb hby d14_27) (pc' := 28) rfl ?_
  refine Go.cast (show (mkF m 28 #[.val (.ref b), .val (.long (0 : Int64)), .second, .val (.ref b), .val (.int (3 : Int32)), .val (.int (0 : Int32)), .val (.long g0), .second] [(.long ((0 : Int64) + g0))]) = (mkF m 28 #[.val (.ref b), .val (.long (0 : Int64)), .second, .val (.ref b), .val (.int (3 : Int32)), .val (.int (0 : Int32)), .val (.long g0), .second] [(.long g0)]) from by rw [show ((0 : Int64) + g0) = g0 from (Int64.zero_add _)]) ?_
  refine g_lstoreN X0 hx (hb hby d14_28) (pc' := 29) rfl (Ls' := #[.val (.ref b), .val (.long g0), .second, .val (.ref b), .val (.int (3 : Int32)), .val (.int (0 : Int32)), .val (.long g0), .second]) rfl ?_
  refine g_iinc X0 hx (hb hby d14_29) (pc' := 32) rfl rfl (z := (1 : Int32)) rfl (Ls' := #[.val (.ref b), .val (.long g0), .second, .val (.ref b), .val (.int (3 : Int32)), .val (.int (1 : Int32)), .val (.long g0), .second]) rfl ?_
  refine g_goto X0 hx (hb hby d14_32) (by decide) (pc' := 11) (by decide) ?_
  refine g_iload X0 hx (hb hby d14_11) (pc' := 13) rfl rfl ?_
  refine g_iload X0 hx (hb hby d14_13) (pc' := 15) rfl rfl ?_
  refine g_icmp_ge X0 hx (hb hby d14_15) (pc1 := 18) rfl (by decide) (pc2 := 35) (by decide) (fun hc15_1 => absurd (by decide) hc15_1) (fun hc15_1 => ?_)
  refine g_aloadN X0 hx (hb hby d14_18) (pc' := 19) rfl rfl rfl ?_
  refine g_iload X0 hx (hb hby d14_19) (pc' := 21) rfl rfl ?_
  refine g_laload X0 hx hZ e0 V1 (i := 1) (v := (.long g1)) (hb hby d14_21) (pc' := 22) rfl (by decide) rfl rfl ?_
  refine g_lstore X0 hx (hb hby d14_22) (pc' := 24) rfl (Ls' := #[.val (.ref b), .val (.long g0), .second, .val (.ref b), .val (.int (3 : Int32)), .val (.int (1 : Int32)), .val (.long g1), .second]) rfl ?_
  refine g_lloadN X0 hx (hb hby d14_24) (pc' := 25) rfl rfl ?_
  refine g_lload X0 hx (hb hby d14_25) (pc' := 27) rfl rfl ?_
  refine g_ladd X0 hx (hb hby d14_27) (pc' := 28) rfl ?_
  refine g_lstoreN X0 hx (hb hby d14_28) (pc' := 29) rfl (Ls' := #[.val (.ref b), .val (.long (g0 + g1)), .second, .val (.ref b), .val (.int (3 : Int32)), .val (.int (1 : Int32)), .val (.long g1), .second]) rfl ?_
  refine g_iinc X0 hx (hb hby d14_29) (pc' := 32) rfl rfl (z := (1 : Int32)) rfl (Ls' := #[.val (.ref b), .val (.long (g0 + g1)), .second, .val (.ref b), .val (.int (3 : Int32)), .val (.int (2 : Int32)), .val (.long g1), .second]) rfl ?_
  refine g_goto X0 hx (hb hby d14_32) (by decide) (pc' := 11) (by decide) ?_
  refine g_iload X0 hx (hb hby d14_11) (pc' := 13) rfl rfl ?_
  refine g_iload X0 hx (hb hby d14_13) (pc' := 15) rfl rfl ?_
  refine g_icmp_ge X0 hx (hb hby d14_15) (pc1 := 18) rfl (by decide) (pc2 := 35) (by decide) (fun hc15_2 => absurd (by decide) hc15_2) (fun hc15_2 => ?_)
  refine g_aloadN X0 hx (hb hby d14_18) (pc' := 19) rfl rfl rfl ?_
  refine g_iload X0 hx (hb hby d14_19) (pc' := 21) rfl rfl ?_
  refine g_laload X0 hx hZ e0 V1 (i := 2) (v := (.long g2)) (hb hby d14_21) (pc' := 22) rfl (by decide) rfl rfl ?_
  refine g_lstore X0 hx (hb hby d14_22) (pc' := 24) rfl (Ls' := #[.val (.ref b), .val (.long (g0 + g1)), .second, .val (.ref b), .val (.int (3 : Int32)), .val (.int (2 : Int32)), .val (.long g2), .second]) rfl ?_
  refine g_lloadN X0 hx (hb hby d14_24) (pc' := 25) rfl rfl ?_
  refine g_lload X0 hx (hb hby d14_25) (pc' := 27) rfl rfl ?_
  refine g_ladd X0 hx (hb hby d14_27) (pc' := 28) rfl ?_
  refine g_lstoreN X0 hx (hb hby d14_28) (pc' := 29) rfl (Ls' := #[.val (.ref b), .val (.long ((g0 + g1) + g2)), .second, .val (.ref b), .val (.int (3 : Int32)), .val (.int (2 : Int32)), .val (.long g2), .second]) rfl ?_
  refine g_iinc X0 hx (hb hby d14_29) (pc' := 32) rfl rfl (z := (1 : Int32)) rfl (Ls' := #[.val (.ref b), .val (.long ((g0 + g1) + g2)), .second, .val (.ref b), .val (.int (3 : Int32)), .val (.int (3 : Int32)), .val (.long g2), .second]) rfl ?_
  refine g_goto X0 hx (hb hby d14_32) (by decide) (pc' := 11) (by decide) ?_
  refine g_iload X0 hx (hb hby d14_11) (pc' := 13) rfl rfl ?_
  refine g_iload X0 hx (hb hby d14_13) (pc' := 15) rfl rfl ?_
  refine g_icmp_ge X0 hx (hb hby d14_15) (pc1 := 18) rfl (by decide) (pc2 := 35) (by decide) (fun hc15_3 => ?_) (fun hc15_3 => absurd hc15_3 (by decide))
  obtain ⟨T595, h595, X595, e595, E595, A595, D595, -, st595⟩ := newO X0 hx hZ hown (hw _ (List.mem_of_getElem? (i := 86) rfl)) (hw _ (List.mem_of_getElem? (i := 19) rfl)) (hw _ (List.mem_of_getElem? (i := 20) rfl)) e0 (g := (mkF m 35 #[.val (.ref b), .val (.long ((g0 + g1) + g2)), .second, .val (.ref b), .val (.int (3 : Int32)), .val (.int (3 : Int32)), .val (.long g2), .second] [])) rfl (hb hby d14_35) (by decide) (by decide)
  obtain ⟨b595, g595⟩ : ∃ z, z = h0.size := ⟨_, rfl⟩
  rw [← g595] at A595 D595 st595
  have ne596 : b ≠ b595 := Nat.ne_of_lt (g595 ▸ V1.lt)
  have ge597 : n0 ≤ b595 := g595 ▸ Z0
  have sz598 : h0.size ≤ b595 := g595 ▸ (Keep.refl h0 []).1
  have f599 := V1.ext E595
  have Z600 : n0 ≤ h595.size := Nat.le_trans Z0 E595.1
  have K601 := (Keep.refl h0 []).ext E595
  have f602 : Fld Z h595 b595 "com/example/stratasig/stratasig/index/GapCoding$Tally" "count" "J" (.long (0 : Int64)) := D595 (Or.inr (hw _ (List.mem_of_getElem? (i := 30) rfl))) (ty := .long) (by decide)
  have f603 : Fld Z h595 b595 "com/example/stratasig/stratasig/index/GapCoding$Tally" "sum" "J" (.long (0 : Int64)) := D595 (Or.inr (hw _ (List.mem_of_getElem? (i := 32) rfl))) (ty := .long) (by decide)
  have f604 : Fld Z h595 b595 "com/example/stratasig/stratasig/index/GapCoding$Tally" "lowest" "I" (.int (0 : Int32)) := D595 (Or.inr (hw _ (List.mem_of_getElem? (i := 46) rfl))) (ty := .int) (by decide)
  have f605 : Fld Z h595 b595 "com/example/stratasig/stratasig/index/GapCoding$Tally" "atLowest" "J" (.long (0 : Int64)) := D595 (Or.inl (hw _ (List.mem_of_getElem? (i := 53) rfl))) (ty := .long) (by decide)
  have f606 : Fld Z h595 b595 "com/example/stratasig/stratasig/index/GapCoding$Tally" "oneAbove" "J" (.long (0 : Int64)) := D595 (Or.inl (hw _ (List.mem_of_getElem? (i := 55) rfl))) (ty := .long) (by decide)
  have f607 : Fld Z h595 b595 "com/example/stratasig/stratasig/index/GapCoding$Tally" "twoAbove" "J" (.long (0 : Int64)) := D595 (Or.inl (hw _ (List.mem_of_getElem? (i := 57) rfl))) (ty := .long) (by decide)
  refine Go.movp st595 (mkF m 38 #[.val (.ref b), .val (.long ((g0 + g1) + g2)), .second, .val (.ref b), .val (.int (3 : Int32)), .val (.int (3 : Int32)), .val (.long g2), .second] [(.ref b595)]) rfl ?_
  refine g_dup X595 hx (hb hby d14_38) (pc' := 39) rfl rfl ?_
  refine g_aloadN X595 hx (hb hby d14_39) (pc' := 40) rfl rfl rfl ?_
  refine g_arraylength X595 hx hZ e595 f599 (z := (3 : Int32)) (hb hby d14_40) (pc' := 41) rfl rfl ?_
  refine g_i2l X595 hx (hb hby d14_41) (pc' := 42) rfl ?_
  refine Go.cast (show (mkF m 42 #[.val (.ref b), .val (.long ((g0 + g1) + g2)), .second, .val (.ref b), .val (.int (3 : Int32)), .val (.int (3 : Int32)), .val (.long g2), .second] [(.long (3 : Int32).toInt64), (.ref b595), (.ref b595)]) = (mkF m 42 #[.val (.ref b), .val (.long ((g0 + g1) + g2)), .second, .val (.ref b), .val (.int (3 : Int32)), .val (.int (3 : Int32)), .val (.long g2), .second] [(.long (3 : Int64)), (.ref b595), (.ref b595)]) from by rw [show (3 : Int32).toInt64 = (3 : Int64) from (by decide)]) ?_
  refine g_lloadN X595 hx (hb hby d14_42) (pc' := 43) rfl rfl ?_
  obtain ⟨v608, T608, h608, L608, X608, e608, N608, q608, st608⟩ := h_special (a := b595) X595 hx (W := 1) (Ls := #[.val (.ref b), .val (.long ((g0 + g1) + g2)), .second, .val (.ref b), .val (.int (3 : Int32)), .val (.int (3 : Int32)), .val (.long g2), .second]) (argsL := [(.long (3 : Int64)), (.long ((g0 + g1) + g2))]) (rest := [(.ref b595)]) hZ e595 N0 hml hown rfl (rm4 l Z a0 hw b595 (3 : Int64) ((g0 + g1) + g2) h595 n0 Z600 f602 f603 f604 f605 f606 f607 A595 ge597) (hw _ (List.mem_of_getElem? (i := 87) rfl)) (hw _ (List.mem_of_getElem? (i := 26) rfl)) (hw _ (List.mem_of_getElem? (i := 20) rfl)) (hw _ (List.mem_of_getElem? (i := 27) rfl)) (by decide) pd__JJ_V rfl rfl (hb hby d14_43) rfl (by decide) (by decide) (by decide) (by decide)
  obtain ⟨rfl, K608, A608, C608, L608, P608, Q608, R608⟩ := q608
  have f609 := f599.keep K608 (ninS ne596 nin0)
  have f610 := A595.keep K608
  have Z611 : n0 ≤ h608.size := Nat.le_trans Z600 K608.1
  have K612 := K601.trans K608 (allS (Or.inr sz598) all0)
  refine Go.movp st608 (mkF m 46 #[.val (.ref b), .val (.long ((g0 + g1) + g2)), .second, .val (.ref b), .val (.int (3 : Int32)), .val (.int (3 : Int32)), .val (.long g2), .second] [(.ref b595)]) rfl ?_
  refine g_astoreN X608 hx (hb hby d14_46) (pc' := 47) rfl rfl (Ls' := #[.val (.ref b), .val (.long ((g0 + g1) + g2)), .second, .val (.ref b595), .val (.int (3 : Int32)), .val (.int (3 : Int32)), .val (.long g2), .second]) rfl ?_
  refine g_aloadN X608 hx (hb hby d14_47) (pc' := 48) rfl rfl rfl ?_
  refine g_aloadN X608 hx (hb hby d14_48) (pc' := 49) rfl rfl rfl ?_
  obtain ⟨v613, T613, h613, L613, X613, e613, N613, q613, st613⟩ := h_virtual (a := b595) (z := (⟨"com/example/stratasig/stratasig/index/GapCoding$Tally", "add", "([J)V"⟩ : MethodName)) X608 hx (W := 0) (Ls := #[.val (.ref b), .val (.long ((g0 + g1) + g2)), .second, .val (.ref b595), .val (.int (3 : Int32)), .val (.int (3 : Int32)), .val (.long g2), .second]) (argsL := [(.ref b)]) (rest := []) hZ e608 N608 hml hown (rm15_3 l Z a0 hw b595 b (3 : Int64) (lowV (3 : Int64) ((g0 + g1) + g2)) g0 g1 g2 h608 n0 Z611 C608 L608 P608 Q608 R608 f609 A608 ge597 ne596) A608 (hw _ (List.mem_of_getElem? (i := 88) rfl)) (hw _ (List.mem_of_getElem? (i := 89) rfl)) (notFace_of_selects (args := #[]) (mvT hZ (hw _ (List.mem_of_getElem? (i := 91) rfl)))) (hw _ (List.mem_of_getElem? (i := 91) rfl)) (hw _ (List.mem_of_getElem? (i := 90) rfl)) (hw _ (List.mem_of_getElem? (i := 20) rfl)) (hw _ (List.mem_of_getElem? (i := 92) rfl)) (by decide) pd___J_V rfl rfl (hb hby d14_49) rfl (by decide) (by decide) (by decide) (by decide)
  obtain ⟨rfl, K613, A613, C613, L613, P613, Q613, R613⟩ := q613
  have f614 := f609.keep K613 (ninS ne596 nin0)
  have f615 := A608.keep K613
  have Z616 : n0 ≤ h613.size := Nat.le_trans Z611 K613.1
  have K617 := K612.trans K613 (allS (Or.inr sz598) all0)
  refine Go.movp st613 (mkF m 52 #[.val (.ref b), .val (.long ((g0 + g1) + g2)), .second, .val (.ref b595), .val (.int (3 : Int32)), .val (.int (3 : Int32)), .val (.long g2), .second] []) rfl ?_
  refine g_aloadN X613 hx (hb hby d14_52) (pc' := 53) rfl rfl rfl ?_
  exact g_areturn X613 hx rfl rfl hret (hb hby d14_53) N613 hlk (fun v t => endF (by decide) (by decide) v) (by rw [e613]; exact ⟨_, rfl, ge597, K617, A613, C613, L613, P613, Q613, R613⟩)
theorem ef_13_3 (x0 : Addr) (m : MethodId) : entryFrame m #[(.ref x0)] 1 = mkF m 0 #[.val (.ref x0)] [] := by first | (simp [entryFrame, mkF, argsToLocals, Value.category]; done) | rfl
def Q13_3 (Z : State) (b : Addr) (g0 : Int64) (g1 : Int64) (g2 : Int64) (h0 : Heap) (n0 : Nat) : Option Value → Heap → Prop := fun v h => v = some (.long (bitsV (3 : Int64) (lowV (3 : Int64) ((g0 + g1) + g2)) (((lushr g0 (lowV (3 : Int64) ((g0 + g1) + g2))) + (lushr g1 (lowV (3 : Int64) ((g0 + g1) + g2)))) + (lushr g2 (lowV (3 : Int64) ((g0 + g1) + g2)))) (((lushr g0 ((lowV (3 : Int64) ((g0 + g1) + g2)) + (1 : Int32))) + (lushr g1 ((lowV (3 : Int64) ((g0 + g1) + g2)) + (1 : Int32)))) + (lushr g2 ((lowV (3 : Int64) ((g0 + g1) + g2)) + (1 : Int32)))) (((lushr g0 ((lowV (3 : Int64) ((g0 + g1) + g2)) + (2 : Int32))) + (lushr g1 ((lowV (3 : Int64) ((g0 + g1) + g2)) + (2 : Int32)))) + (lushr g2 ((lowV (3 : Int64) ((g0 + g1) + g2)) + (2 : Int32)))))) ∧ Keep h0 h []
set_option maxRecDepth 65536 in
set_option maxHeartbeats 40000000 in
theorem rm13_3 (l : Launch) (Z : State) (a0 : Array Value) (hw : ∀ d ∈ tables_1, d.before a0 Z = true) (b : Addr) (g0 : Int64) (g1 : Int64) (g2 : Int64) (h0 : Heap) (n0 : Nat) (Z0 : n0 ≤ h0.size) (V1 : Va Z h0 b .long [(.long g0), (.long g1), (.long g2)]) : Ctr l Z (⟨"com/example/stratasig/stratasig/index/GapCoding", "bits", "([J)J"⟩ : MethodName) prog_128_method_3_code 1 (some .long) ({ frames := 4, cells := 3, slots := 12, locals := 69 } : Room) #[(.ref b)] h0 n0 (Q13_3 Z b g0 g1 g2 h0 n0) := by
  refine Ctr.of (plainFor_of_name pn_14) (ef_13_3 b) ?_
  intro p e s m below meth c T0 hx hby hml hown hnm hret hlk hZ X0 e0
  have N0 := Fr.nil n0
  refine g_aloadN X0 hx (hb hby d13_0) (pc' := 1) rfl rfl rfl ?_
  obtain ⟨v618, T618, h618, L618, X618, e618, N618, q618, st618⟩ := h_static X0 hx (W := 0) (Ls := #[.val (.ref b)]) (argsL := [(.ref b)]) (rest := []) hZ e0 N0 hml hown (rm14_3 l Z a0 hw b g0 g1 g2 h0 n0 Z0 V1) (hw _ (List.mem_of_getElem? (i := 83) rfl)) (hw _ (List.mem_of_getElem? (i := 84) rfl)) (hw _ (List.mem_of_getElem? (i := 81) rfl)) (hw _ (List.mem_of_getElem? (i := 85) rfl)) (by decide) pd___J_Lcom_example_stratasig_stratasig_index_GapCoding_Tally_ rfl rfl (hb hby d13_1) rfl (by decide) (by decide) (by decide) (by decide)
  obtain ⟨t618, rfl, ge618, K618, A618, C618, L618, P618, Q618, R618⟩ := q618
  have f619 := V1.keep K618 nin0
  have Z620 : n0 ≤ h618.size := Nat.le_trans Z0 K618.1
  have K621 := (Keep.refl h0 []).trans K618 all0
  refine Go.movp st618 (mkF m 4 #[.val (.ref b)] [(.ref t618)]) rfl ?_
  obtain ⟨v622, T622, h622, L622, X622, e622, N622, q622, st622⟩ := h_virtual (a := t618) (z := (⟨"com/example/stratasig/stratasig/index/GapCoding$Tally", "bits", "()J"⟩ : MethodName)) X618 hx (W := 0) (Ls := #[.val (.ref b)]) (argsL := []) (rest := []) hZ e618 N618 hml hown (rm10 l Z a0 hw t618 (3 : Int64) (lowV (3 : Int64) ((g0 + g1) + g2)) (((lushr g0 (lowV (3 : Int64) ((g0 + g1) + g2))) + (lushr g1 (lowV (3 : Int64) ((g0 + g1) + g2)))) + (lushr g2 (lowV (3 : Int64) ((g0 + g1) + g2)))) (((lushr g0 ((lowV (3 : Int64) ((g0 + g1) + g2)) + (1 : Int32))) + (lushr g1 ((lowV (3 : Int64) ((g0 + g1) + g2)) + (1 : Int32)))) + (lushr g2 ((lowV (3 : Int64) ((g0 + g1) + g2)) + (1 : Int32)))) (((lushr g0 ((lowV (3 : Int64) ((g0 + g1) + g2)) + (2 : Int32))) + (lushr g1 ((lowV (3 : Int64) ((g0 + g1) + g2)) + (2 : Int32)))) + (lushr g2 ((lowV (3 : Int64) ((g0 + g1) + g2)) + (2 : Int32)))) h618 n0 Z620 C618 L618 P618 Q618 R618 A618) A618 (hw _ (List.mem_of_getElem? (i := 96) rfl)) (hw _ (List.mem_of_getElem? (i := 64) rfl)) (notFace_of_selects (args := #[]) (mvT hZ (hw _ (List.mem_of_getElem? (i := 66) rfl)))) (hw _ (List.mem_of_getElem? (i := 66) rfl)) (hw _ (List.mem_of_getElem? (i := 65) rfl)) (hw _ (List.mem_of_getElem? (i := 20) rfl)) (hw _ (List.mem_of_getElem? (i := 67) rfl)) (by decide) pd___J rfl rfl (hb hby d13_4) rfl (by decide) (by decide) (by decide) (by decide)
  obtain ⟨rfl, K622⟩ := q622
  have f623 := f619.keep K622 nin0
  have f624 := C618.keep K622 nin0
  have f625 := L618.keep K622 nin0
  have f626 := P618.keep K622 nin0
  have f627 := Q618.keep K622 nin0
  have f628 := R618.keep K622 nin0
  have f629 := A618.keep K622
  have Z630 : n0 ≤ h622.size := Nat.le_trans Z620 K622.1
  have K631 := K621.trans K622 all0
  refine Go.movp st622 (mkF m 7 #[.val (.ref b)] [(.long (bitsV (3 : Int64) (lowV (3 : Int64) ((g0 + g1) + g2)) (((lushr g0 (lowV (3 : Int64) ((g0 + g1) + g2))) + (lushr g1 (lowV (3 : Int64) ((g0 + g1) + g2)))) + (lushr g2 (lowV (3 : Int64) ((g0 + g1) + g2)))) (((lushr g0 ((lowV (3 : Int64) ((g0 + g1) + g2)) + (1 : Int32))) + (lushr g1 ((lowV (3 : Int64) ((g0 + g1) + g2)) + (1 : Int32)))) + (lushr g2 ((lowV (3 : Int64) ((g0 + g1) + g2)) + (1 : Int32)))) (((lushr g0 ((lowV (3 : Int64) ((g0 + g1) + g2)) + (2 : Int32))) + (lushr g1 ((lowV (3 : Int64) ((g0 + g1) + g2)) + (2 : Int32)))) + (lushr g2 ((lowV (3 : Int64) ((g0 + g1) + g2)) + (2 : Int32))))))]) rfl ?_
  exact g_lreturn X622 hx hret (hb hby d13_7) N622 hlk (fun v t => endF (by decide) (by decide) v) (by rw [e622]; exact ⟨rfl, K631⟩)
theorem ef_18_3 (x0 : Addr) (m : MethodId) : entryFrame m #[(.ref x0)] 1 = mkF m 0 #[.val (.ref x0)] [] := by first | (simp [entryFrame, mkF, argsToLocals, Value.category]; done) | rfl
def Q18_3 (Z : State) (b : Addr) (g0 : Int64) (g1 : Int64) (g2 : Int64) (h0 : Heap) (n0 : Nat) : Option Value → Heap → Prop := fun v h => v = some (.int ((lowV (3 : Int64) ((g0 + g1) + g2)) + bestV (3 : Int64) (((lushr g0 (lowV (3 : Int64) ((g0 + g1) + g2))) + (lushr g1 (lowV (3 : Int64) ((g0 + g1) + g2)))) + (lushr g2 (lowV (3 : Int64) ((g0 + g1) + g2)))) (((lushr g0 ((lowV (3 : Int64) ((g0 + g1) + g2)) + (1 : Int32))) + (lushr g1 ((lowV (3 : Int64) ((g0 + g1) + g2)) + (1 : Int32)))) + (lushr g2 ((lowV (3 : Int64) ((g0 + g1) + g2)) + (1 : Int32)))) (((lushr g0 ((lowV (3 : Int64) ((g0 + g1) + g2)) + (2 : Int32))) + (lushr g1 ((lowV (3 : Int64) ((g0 + g1) + g2)) + (2 : Int32)))) + (lushr g2 ((lowV (3 : Int64) ((g0 + g1) + g2)) + (2 : Int32)))))) ∧ Keep h0 h []
set_option maxRecDepth 65536 in
set_option maxHeartbeats 40000000 in
theorem rm18_3 (l : Launch) (Z : State) (a0 : Array Value) (hw : ∀ d ∈ tables_1, d.before a0 Z = true) (b : Addr) (g0 : Int64) (g1 : Int64) (g2 : Int64) (h0 : Heap) (n0 : Nat) (Z0 : n0 ≤ h0.size) (V1 : Va Z h0 b .long [(.long g0), (.long g1), (.long g2)]) : Ctr l Z (⟨"com/example/stratasig/stratasig/index/GapCoding", "parameter", "([J)I"⟩ : MethodName) prog_128_method_2_code 1 (some .int) ({ frames := 4, cells := 2, slots := 9, locals := 69 } : Room) #[(.ref b)] h0 n0 (Q18_3 Z b g0 g1 g2 h0 n0) := by
  refine Ctr.of (plainFor_of_name pn_14) (ef_18_3 b) ?_
  intro p e s m below meth c T0 hx hby hml hown hnm hret hlk hZ X0 e0
  have N0 := Fr.nil n0
  refine g_aloadN X0 hx (hb hby d18_0) (pc' := 1) rfl rfl rfl ?_
  obtain ⟨v632, T632, h632, L632, X632, e632, N632, q632, st632⟩ := h_static X0 hx (W := 0) (Ls := #[.val (.ref b)]) (argsL := [(.ref b)]) (rest := []) hZ e0 N0 hml hown (rm14_3 l Z a0 hw b g0 g1 g2 h0 n0 Z0 V1) (hw _ (List.mem_of_getElem? (i := 83) rfl)) (hw _ (List.mem_of_getElem? (i := 84) rfl)) (hw _ (List.mem_of_getElem? (i := 81) rfl)) (hw _ (List.mem_of_getElem? (i := 85) rfl)) (by decide) pd___J_Lcom_example_stratasig_stratasig_index_GapCoding_Tally_ rfl rfl (hb hby d18_1) rfl (by decide) (by decide) (by decide) (by decide)
  obtain ⟨t632, rfl, ge632, K632, A632, C632, L632, P632, Q632, R632⟩ := q632
  have f633 := V1.keep K632 nin0
  have Z634 : n0 ≤ h632.size := Nat.le_trans Z0 K632.1
  have K635 := (Keep.refl h0 []).trans K632 all0
  refine Go.movp st632 (mkF m 4 #[.val (.ref b)] [(.ref t632)]) rfl ?_
  obtain ⟨v636, T636, h636, L636, X636, e636, N636, q636, st636⟩ := h_virtual (a := t632) (z := (⟨"com/example/stratasig/stratasig/index/GapCoding$Tally", "parameter", "()I"⟩ : MethodName)) X632 hx (W := 0) (Ls := #[.val (.ref b)]) (argsL := []) (rest := []) hZ e632 N632 hml hown (rm17 l Z a0 hw t632 (3 : Int64) (lowV (3 : Int64) ((g0 + g1) + g2)) (((lushr g0 (lowV (3 : Int64) ((g0 + g1) + g2))) + (lushr g1 (lowV (3 : Int64) ((g0 + g1) + g2)))) + (lushr g2 (lowV (3 : Int64) ((g0 + g1) + g2)))) (((lushr g0 ((lowV (3 : Int64) ((g0 + g1) + g2)) + (1 : Int32))) + (lushr g1 ((lowV (3 : Int64) ((g0 + g1) + g2)) + (1 : Int32)))) + (lushr g2 ((lowV (3 : Int64) ((g0 + g1) + g2)) + (1 : Int32)))) (((lushr g0 ((lowV (3 : Int64) ((g0 + g1) + g2)) + (2 : Int32))) + (lushr g1 ((lowV (3 : Int64) ((g0 + g1) + g2)) + (2 : Int32)))) + (lushr g2 ((lowV (3 : Int64) ((g0 + g1) + g2)) + (2 : Int32)))) h632 n0 Z634 C632 L632 P632 Q632 R632 A632) A632 (hw _ (List.mem_of_getElem? (i := 105) rfl)) (hw _ (List.mem_of_getElem? (i := 98) rfl)) (notFace_of_selects (args := #[]) (mvT hZ (hw _ (List.mem_of_getElem? (i := 100) rfl)))) (hw _ (List.mem_of_getElem? (i := 100) rfl)) (hw _ (List.mem_of_getElem? (i := 99) rfl)) (hw _ (List.mem_of_getElem? (i := 20) rfl)) (hw _ (List.mem_of_getElem? (i := 101) rfl)) (by decide) pd___I rfl rfl (hb hby d18_4) rfl (by decide) (by decide) (by decide) (by decide)
  obtain ⟨rfl, K636⟩ := q636
  have f637 := f633.keep K636 nin0
  have f638 := C632.keep K636 nin0
  have f639 := L632.keep K636 nin0
  have f640 := P632.keep K636 nin0
  have f641 := Q632.keep K636 nin0
  have f642 := R632.keep K636 nin0
  have f643 := A632.keep K636
  have Z644 : n0 ≤ h636.size := Nat.le_trans Z634 K636.1
  have K645 := K635.trans K636 all0
  refine Go.movp st636 (mkF m 7 #[.val (.ref b)] [(.int ((lowV (3 : Int64) ((g0 + g1) + g2)) + (bestV (3 : Int64) (((lushr g0 (lowV (3 : Int64) ((g0 + g1) + g2))) + (lushr g1 (lowV (3 : Int64) ((g0 + g1) + g2)))) + (lushr g2 (lowV (3 : Int64) ((g0 + g1) + g2)))) (((lushr g0 ((lowV (3 : Int64) ((g0 + g1) + g2)) + (1 : Int32))) + (lushr g1 ((lowV (3 : Int64) ((g0 + g1) + g2)) + (1 : Int32)))) + (lushr g2 ((lowV (3 : Int64) ((g0 + g1) + g2)) + (1 : Int32)))) (((lushr g0 ((lowV (3 : Int64) ((g0 + g1) + g2)) + (2 : Int32))) + (lushr g1 ((lowV (3 : Int64) ((g0 + g1) + g2)) + (2 : Int32)))) + (lushr g2 ((lowV (3 : Int64) ((g0 + g1) + g2)) + (2 : Int32)))))))]) rfl ?_
  exact g_ireturn X636 hx hret (hb hby d18_7) N636 hlk (fun v t => endF (by decide) (by decide) v) (by rw [e636]; exact ⟨rfl, K645⟩)
theorem own_and3 (x : Int32) : x &&& 3 = 0 ∨ x &&& 3 = 1 ∨ x &&& 3 = 2 ∨ x &&& 3 = 3 := by
  have h := c_mask x 3 2 (by decide) (by decide)
  have : (x &&& 3).toInt = 0 ∨ (x &&& 3).toInt = 1 ∨ (x &&& 3).toInt = 2 ∨ (x &&& 3).toInt = 3 := by omega
  rcases this with q | q | q | q
  · exact Or.inl (Int32.toInt_inj.mp q)
  · exact Or.inr (Or.inl (Int32.toInt_inj.mp q))
  · exact Or.inr (Or.inr (Or.inl (Int32.toInt_inj.mp q)))
  · exact Or.inr (Or.inr (Or.inr (Int32.toInt_inj.mp q)))
theorem own_q0  {r : Nat} (hr : r ≤ 63) : qsum (List.replicate 63 (0 : Int64)) r r (63 - r) = (0 : Int64) := by
  exact qsum_zero r 63 _ _
theorem own_q1 {g0 : Int64} (h0 : Pos g0) {r : Nat} (hr : r ≤ 63) : qsum (addB g0 (List.replicate 63 (0 : Int64))) r r (63 - r) = (lushr g0 r.toInt32) := by
  have q := (own_q h0 (by simp [addB_len]) hr (qsum_zero r 63 _ _))
  rw [Int64.zero_add] at q; exact q
theorem own_q2 {g0 g1 : Int64} (h0 : Pos g0) (h1 : Pos g1) {r : Nat} (hr : r ≤ 63) : qsum (addB g1 (addB g0 (List.replicate 63 (0 : Int64)))) r r (63 - r) = ((lushr g0 r.toInt32) + (lushr g1 r.toInt32)) := by
  have q := (own_q h1 (by simp [addB_len]) hr (own_q h0 (by simp [addB_len]) hr (qsum_zero r 63 _ _)))
  rw [Int64.zero_add] at q; exact q
theorem own_q3 {g0 g1 g2 : Int64} (h0 : Pos g0) (h1 : Pos g1) (h2 : Pos g2) {r : Nat} (hr : r ≤ 63) : qsum (addB g2 (addB g1 (addB g0 (List.replicate 63 (0 : Int64))))) r r (63 - r) = (((lushr g0 r.toInt32) + (lushr g1 r.toInt32)) + (lushr g2 r.toInt32)) := by
  have q := (own_q h2 (by simp [addB_len]) hr (own_q h1 (by simp [addB_len]) hr (own_q h0 (by simp [addB_len]) hr (qsum_zero r 63 _ _))))
  rw [Int64.zero_add] at q; exact q
theorem own_bitsL {c : Int64} {lo lo' : Int32} {a1 a2 a3 b1 b2 b3 : Int64} (h0 : lo = lo') (h1 : a1 = b1) (h2 : a2 = b2) (h3 : a3 = b3) : bitsV c lo a1 a2 a3 = bitsV c lo' b1 b2 b3 := by rw [h0, h1, h2, h3]
theorem own_parL {c : Int64} {lo lo' : Int32} {a1 a2 a3 b1 b2 b3 : Int64} (h0 : lo = lo') (h1 : a1 = b1) (h2 : a2 = b2) (h3 : a3 = b3) : lo + bestV c a1 a2 a3 = lo' + bestV c b1 b2 b3 := by rw [h0, h1, h2, h3]
theorem pd___V : parseMethodDescriptor "()V" = some ⟨[], none⟩ := by decide +kernel
theorem pd___Lcom_example_stratasig_stratasig_index_GapCoding_Tally_ : parseMethodDescriptor "()Lcom/example/stratasig/stratasig/index/GapCoding$Tally;" = some ⟨[], some (.object "com/example/stratasig/stratasig/index/GapCoding$Tally")⟩ := by decide +kernel
theorem pd___J_J : parseMethodDescriptor "([J)J" = some ⟨[(.array .long)], some .long⟩ := by decide +kernel
theorem pd___J_I : parseMethodDescriptor "([J)I" = some ⟨[(.array .long)], some .int⟩ := by decide +kernel
theorem pd__J_V : parseMethodDescriptor "(J)V" = some ⟨[.long], none⟩ := by decide +kernel
theorem pn_0 : plainName "com/example/stratasig/stratasig/index/CountsAddPinLaw" = true := by first | (simp [plainName, overriddenIn]; done) | decide +kernel
theorem ef_0 (x0 : Int32) (x1 : Int64) (x2 : Int64) (x3 : Int64) (m : MethodId) : entryFrame m #[(.int x0), (.long x1), (.long x2), (.long x3)] maxLocals = mkF m 0 #[.val (.int x0), .val (.long x1), .second, .val (.long x2), .second, .val (.long x3), .second, .unset, .unset, .unset, .unset, .unset, .unset, .unset, .unset, .unset, .unset, .unset, .unset, .unset, .unset] [] := by first | (simp [entryFrame, mkF, argsToLocals, Value.category, maxLocals]; done) | rfl
def Q0 (Z : State) (p0 : Int32) (p1 : Int64) (p2 : Int64) (p3 : Int64) (h0 : Heap) (n0 : Nat) : Option Value → Heap → Prop := fun v h => v = some (.int 1)
set_option maxRecDepth 65536 in
set_option maxHeartbeats 40000000 in
theorem rm0 (l : Launch) (Z : State) (a0 : Array Value) (hw : ∀ d ∈ tables_1, d.before a0 Z = true) (p0 : Int32) (p1 : Int64) (p2 : Int64) (p3 : Int64) (h0 : Heap) (n0 : Nat) (Z0 : n0 ≤ h0.size) : Ctr l Z x code maxLocals ret room_1 #[(.int p0), (.long p1), (.long p2), (.long p3)] h0 n0 (Q0 Z p0 p1 p2 p3 h0 n0) := by
  refine Ctr.of (plainFor_of_name pn_0) (ef_0 p0 p1 p2 p3) ?_
  intro p e s m below meth c T0 hx hby hml hown hnm hret hlk hZ X0 e0
  have N0 := Fr.nil n0
  change c.maxLocals = 21 at hml
  change meth.sig.returnType = some .boolean at hret
  refine g_iloadN X0 hx (hb hby at_0) (pc' := 1) rfl rfl ?_
  refine g_iconst X0 hx (hb hby at_1) (pc' := 2) rfl (z := (3 : Int32)) rfl ?_
  refine g_iand X0 hx (hb hby at_2) (pc' := 3) rfl ?_
  rcases own_and3 p0 with qn | qn | qn | qn
  · skip
    refine Go.cast (show (mkF m 3 #[.val (.int p0), .val (.long p1), .second, .val (.long p2), .second, .val (.long p3), .second, .unset, .unset, .unset, .unset, .unset, .unset, .unset, .unset, .unset, .unset, .unset, .unset, .unset, .unset] [(.int (p0 &&& (3 : Int32)))]) = (mkF m 3 #[.val (.int p0), .val (.long p1), .second, .val (.long p2), .second, .val (.long p3), .second, .unset, .unset, .unset, .unset, .unset, .unset, .unset, .unset, .unset, .unset, .unset, .unset, .unset, .unset] [(.int (0 : Int32))]) from by rw [show (p0 &&& (3 : Int32)) = (0 : Int32) from qn]) ?_
    refine g_istore X0 hx (hb hby at_3) (pc' := 5) rfl (Ls' := #[.val (.int p0), .val (.long p1), .second, .val (.long p2), .second, .val (.long p3), .second, .val (.int (0 : Int32)), .unset, .unset, .unset, .unset, .unset, .unset, .unset, .unset, .unset, .unset, .unset, .unset, .unset]) rfl ?_
    refine g_iload X0 hx (hb hby at_5) (pc' := 7) rfl rfl ?_
    refine g_iconst X0 hx (hb hby at_7) (pc' := 8) rfl (z := (1 : Int32)) rfl ?_
    refine g_icmp_ne X0 hx (hb hby at_8) (pc1 := 11) rfl (by decide) (pc2 := 17) (by decide) (fun hc8 => ?_) (fun hc8 => absurd hc8 (by decide))
    refine g_iload X0 hx (hb hby at_17) (pc' := 19) rfl rfl ?_
    refine g_iconst X0 hx (hb hby at_19) (pc' := 20) rfl (z := (2 : Int32)) rfl ?_
    refine g_icmp_ne X0 hx (hb hby at_20) (pc1 := 23) rfl (by decide) (pc2 := 29) (by decide) (fun hc20 => ?_) (fun hc20 => absurd hc20 (by decide))
    refine g_ldc2_w X0 hx hZ hown (hw _ (List.mem_of_getElem? (i := 0) rfl)) (hb hby at_29) (pc' := 32) rfl ?_
    refine g_lstore X0 hx (hb hby at_32) (pc' := 34) rfl (Ls' := #[.val (.int p0), .val (.long p1), .second, .val (.long p2), .second, .val (.long p3), .second, .val (.int (0 : Int32)), .val (.long (2305843009213693951 : Int64)), .second, .unset, .unset, .unset, .unset, .unset, .unset, .unset, .unset, .unset, .unset, .unset]) rfl ?_
    refine g_lloadN X0 hx (hb hby at_34) (pc' := 35) rfl rfl ?_
    refine g_lload X0 hx (hb hby at_35) (pc' := 37) rfl rfl ?_
    refine g_land X0 hx (hb hby at_37) (pc' := 38) rfl ?_
    refine g_iloadN X0 hx (hb hby at_38) (pc' := 39) rfl rfl ?_
    refine g_iconst X0 hx (hb hby at_39) (pc' := 40) rfl (z := (2 : Int32)) rfl ?_
    refine g_iushr X0 hx (hb hby at_40) (pc' := 41) rfl ?_
    refine g_bipush X0 hx (hb hby at_41) (pc' := 43) rfl (z := (63 : Int32)) rfl ?_
    refine g_iand X0 hx (hb hby at_43) (pc' := 44) rfl ?_
    refine g_lushr X0 hx (hb hby at_44) (pc' := 45) rfl ?_
    obtain ⟨g0, eg0⟩ : ∃ z : Int64, z = (lushr (p1 &&& (2305843009213693951 : Int64)) ((ushr p0 (2 : Int32)) &&& (63 : Int32))) := ⟨_, rfl⟩
    refine Go.cast (show (mkF m 45 #[.val (.int p0), .val (.long p1), .second, .val (.long p2), .second, .val (.long p3), .second, .val (.int (0 : Int32)), .val (.long (2305843009213693951 : Int64)), .second, .unset, .unset, .unset, .unset, .unset, .unset, .unset, .unset, .unset, .unset, .unset] [(.long (lushr (p1 &&& (2305843009213693951 : Int64)) ((ushr p0 (2 : Int32)) &&& (63 : Int32))))]) = (mkF m 45 #[.val (.int p0), .val (.long p1), .second, .val (.long p2), .second, .val (.long p3), .second, .val (.int (0 : Int32)), .val (.long (2305843009213693951 : Int64)), .second, .unset, .unset, .unset, .unset, .unset, .unset, .unset, .unset, .unset, .unset, .unset] [(.long g0)]) from by rw [eg0]) ?_
    have m0 : g0.toBitVec.toNat ≤ 2305843009213693951 := by rw [eg0]; exact own_g _ _ _
    have k0 : Pos g0 := pos_of m0 (by decide)
    refine g_lstore X0 hx (hb hby at_45) (pc' := 47) rfl (Ls' := #[.val (.int p0), .val (.long p1), .second, .val (.long p2), .second, .val (.long p3), .second, .val (.int (0 : Int32)), .val (.long (2305843009213693951 : Int64)), .second, .val (.long g0), .second, .unset, .unset, .unset, .unset, .unset, .unset, .unset, .unset, .unset]) rfl ?_
    refine g_lloadN X0 hx (hb hby at_47) (pc' := 48) rfl rfl ?_
    refine g_lload X0 hx (hb hby at_48) (pc' := 50) rfl rfl ?_
    refine g_land X0 hx (hb hby at_50) (pc' := 51) rfl ?_
    refine g_iloadN X0 hx (hb hby at_51) (pc' := 52) rfl rfl ?_
    refine g_bipush X0 hx (hb hby at_52) (pc' := 54) rfl (z := (8 : Int32)) rfl ?_
    refine g_iushr X0 hx (hb hby at_54) (pc' := 55) rfl ?_
    refine g_bipush X0 hx (hb hby at_55) (pc' := 57) rfl (z := (63 : Int32)) rfl ?_
    refine g_iand X0 hx (hb hby at_57) (pc' := 58) rfl ?_
    refine g_lushr X0 hx (hb hby at_58) (pc' := 59) rfl ?_
    obtain ⟨g1, eg1⟩ : ∃ z : Int64, z = (lushr (p2 &&& (2305843009213693951 : Int64)) ((ushr p0 (8 : Int32)) &&& (63 : Int32))) := ⟨_, rfl⟩
    refine Go.cast (show (mkF m 59 #[.val (.int p0), .val (.long p1), .second, .val (.long p2), .second, .val (.long p3), .second, .val (.int (0 : Int32)), .val (.long (2305843009213693951 : Int64)), .second, .val (.long g0), .second, .unset, .unset, .unset, .unset, .unset, .unset, .unset, .unset, .unset] [(.long (lushr (p2 &&& (2305843009213693951 : Int64)) ((ushr p0 (8 : Int32)) &&& (63 : Int32))))]) = (mkF m 59 #[.val (.int p0), .val (.long p1), .second, .val (.long p2), .second, .val (.long p3), .second, .val (.int (0 : Int32)), .val (.long (2305843009213693951 : Int64)), .second, .val (.long g0), .second, .unset, .unset, .unset, .unset, .unset, .unset, .unset, .unset, .unset] [(.long g1)]) from by rw [eg1]) ?_
    have m1 : g1.toBitVec.toNat ≤ 2305843009213693951 := by rw [eg1]; exact own_g _ _ _
    have k1 : Pos g1 := pos_of m1 (by decide)
    refine g_lstore X0 hx (hb hby at_59) (pc' := 61) rfl (Ls' := #[.val (.int p0), .val (.long p1), .second, .val (.long p2), .second, .val (.long p3), .second, .val (.int (0 : Int32)), .val (.long (2305843009213693951 : Int64)), .second, .val (.long g0), .second, .val (.long g1), .second, .unset, .unset, .unset, .unset, .unset, .unset, .unset]) rfl ?_
    refine g_lload X0 hx (hb hby at_61) (pc' := 63) rfl rfl ?_
    refine g_lload X0 hx (hb hby at_63) (pc' := 65) rfl rfl ?_
    refine g_land X0 hx (hb hby at_65) (pc' := 66) rfl ?_
    refine g_iloadN X0 hx (hb hby at_66) (pc' := 67) rfl rfl ?_
    refine g_bipush X0 hx (hb hby at_67) (pc' := 69) rfl (z := (14 : Int32)) rfl ?_
    refine g_iushr X0 hx (hb hby at_69) (pc' := 70) rfl ?_
    refine g_bipush X0 hx (hb hby at_70) (pc' := 72) rfl (z := (63 : Int32)) rfl ?_
    refine g_iand X0 hx (hb hby at_72) (pc' := 73) rfl ?_
    refine g_lushr X0 hx (hb hby at_73) (pc' := 74) rfl ?_
    obtain ⟨g2, eg2⟩ : ∃ z : Int64, z = (lushr (p3 &&& (2305843009213693951 : Int64)) ((ushr p0 (14 : Int32)) &&& (63 : Int32))) := ⟨_, rfl⟩
    refine Go.cast (show (mkF m 74 #[.val (.int p0), .val (.long p1), .second, .val (.long p2), .second, .val (.long p3), .second, .val (.int (0 : Int32)), .val (.long (2305843009213693951 : Int64)), .second, .val (.long g0), .second, .val (.long g1), .second, .unset, .unset, .unset, .unset, .unset, .unset, .unset] [(.long (lushr (p3 &&& (2305843009213693951 : Int64)) ((ushr p0 (14 : Int32)) &&& (63 : Int32))))]) = (mkF m 74 #[.val (.int p0), .val (.long p1), .second, .val (.long p2), .second, .val (.long p3), .second, .val (.int (0 : Int32)), .val (.long (2305843009213693951 : Int64)), .second, .val (.long g0), .second, .val (.long g1), .second, .unset, .unset, .unset, .unset, .unset, .unset, .unset] [(.long g2)]) from by rw [eg2]) ?_
    have m2 : g2.toBitVec.toNat ≤ 2305843009213693951 := by rw [eg2]; exact own_g _ _ _
    have k2 : Pos g2 := pos_of m2 (by decide)
    refine g_lstore X0 hx (hb hby at_74) (pc' := 76) rfl (Ls' := #[.val (.int p0), .val (.long p1), .second, .val (.long p2), .second, .val (.long p3), .second, .val (.int (0 : Int32)), .val (.long (2305843009213693951 : Int64)), .second, .val (.long g0), .second, .val (.long g1), .second, .val (.long g2), .second, .unset, .unset, .unset, .unset, .unset]) rfl ?_
    refine g_iload X0 hx (hb hby at_76) (pc' := 78) rfl rfl ?_
    refine g_if_ne X0 hx (hb hby at_78) (pc1 := 81) rfl (by decide) (pc2 := 92) (by decide) (fun hc78 => absurd (by decide) hc78) (fun hc78 => ?_)
    refine g_iconst X0 hx (hb hby at_81) (pc' := 82) rfl (z := (0 : Int32)) rfl ?_
    obtain ⟨T646, h646, b646, X646, e646, g646, E646, V646, A646, st646⟩ := h_newarray X0 hx hZ e0 (n := (0 : Int32)) (ty := .long) rfl (hw _ (List.mem_of_getElem? (i := 1) rfl)) (hb hby at_82) (k := 0) (cap := 0) (by decide) rfl (by decide) (by decide) (by decide) (by decide) (ad := "[J") (by decide) #[.val (.int p0), .val (.long p1), .second, .val (.long p2), .second, .val (.long p3), .second, .val (.int (0 : Int32)), .val (.long (2305843009213693951 : Int64)), .second, .val (.long g0), .second, .val (.long g1), .second, .val (.long g2), .second, .unset, .unset, .unset, .unset, .unset] []
    have ge647 : n0 ≤ b646 := g646 ▸ Z0
    have Z648 : n0 ≤ h646.size := Nat.le_trans Z0 E646.1
    have f649 : Va Z h646 b646 .long [] := V646
    refine Go.movp st646 (mkF m 84 #[.val (.int p0), .val (.long p1), .second, .val (.long p2), .second, .val (.long p3), .second, .val (.int (0 : Int32)), .val (.long (2305843009213693951 : Int64)), .second, .val (.long g0), .second, .val (.long g1), .second, .val (.long g2), .second, .unset, .unset, .unset, .unset, .unset] [(.ref b646)]) rfl ?_
    refine g_astore X646 hx (hb hby at_84) (pc' := 86) rfl rfl (Ls' := #[.val (.int p0), .val (.long p1), .second, .val (.long p2), .second, .val (.long p3), .second, .val (.int (0 : Int32)), .val (.long (2305843009213693951 : Int64)), .second, .val (.long g0), .second, .val (.long g1), .second, .val (.long g2), .second, .val (.ref b646), .unset, .unset, .unset, .unset]) rfl ?_
    refine g_lconst X646 hx (hb hby at_86) (pc' := 87) rfl (z := (0 : Int64)) rfl ?_
    refine g_lstore X646 hx (hb hby at_87) (pc' := 89) rfl (Ls' := #[.val (.int p0), .val (.long p1), .second, .val (.long p2), .second, .val (.long p3), .second, .val (.int (0 : Int32)), .val (.long (2305843009213693951 : Int64)), .second, .val (.long g0), .second, .val (.long g1), .second, .val (.long g2), .second, .val (.ref b646), .val (.long (0 : Int64)), .second, .unset, .unset]) rfl ?_
    refine g_goto X646 hx (hb hby at_89) (by decide) (pc' := 176) (by decide) ?_
    obtain ⟨T650, h650, X650, e650, E650, A650, D650, -, st650⟩ := newO X646 hx hZ hown (hw _ (List.mem_of_getElem? (i := 2) rfl)) (hw _ (List.mem_of_getElem? (i := 3) rfl)) (hw _ (List.mem_of_getElem? (i := 4) rfl)) e646 (g := (mkF m 176 #[.val (.int p0), .val (.long p1), .second, .val (.long p2), .second, .val (.long p3), .second, .val (.int (0 : Int32)), .val (.long (2305843009213693951 : Int64)), .second, .val (.long g0), .second, .val (.long g1), .second, .val (.long g2), .second, .val (.ref b646), .val (.long (0 : Int64)), .second, .unset, .unset] [])) rfl (hb hby at_176) (by decide) (by decide)
    obtain ⟨b650, g650⟩ : ∃ z, z = h646.size := ⟨_, rfl⟩
    rw [← g650] at A650 D650 st650
    have ne651 : b646 ≠ b650 := Nat.ne_of_lt (g650 ▸ A646.lt)
    have ge652 : n0 ≤ b650 := g650 ▸ Z648
    have f653 := Exa.ext E650 A646
    have f654 := f649.ext E650
    have Z655 : n0 ≤ h650.size := Nat.le_trans Z648 E650.1
    have f656 : Fld Z h650 b650 "com/example/stratasig/stratasig/index/GapCoding$Counts" "setBits" "[J" .null := D650 (Or.inr (hw _ (List.mem_of_getElem? (i := 12) rfl))) (ty := (.array .long)) (by decide)
    have f657 : Fld Z h650 b650 "com/example/stratasig/stratasig/index/GapCoding$Counts" "count" "J" (.long (0 : Int64)) := D650 (Or.inl (hw _ (List.mem_of_getElem? (i := 22) rfl))) (ty := .long) (by decide)
    have f658 : Fld Z h650 b650 "com/example/stratasig/stratasig/index/GapCoding$Counts" "sum" "J" (.long (0 : Int64)) := D650 (Or.inl (hw _ (List.mem_of_getElem? (i := 24) rfl))) (ty := .long) (by decide)
    refine Go.movp st650 (mkF m 179 #[.val (.int p0), .val (.long p1), .second, .val (.long p2), .second, .val (.long p3), .second, .val (.int (0 : Int32)), .val (.long (2305843009213693951 : Int64)), .second, .val (.long g0), .second, .val (.long g1), .second, .val (.long g2), .second, .val (.ref b646), .val (.long (0 : Int64)), .second, .unset, .unset] [(.ref b650)]) rfl ?_
    refine g_dup X650 hx (hb hby at_179) (pc' := 180) rfl rfl ?_
    obtain ⟨v659, T659, h659, L659, X659, e659, N659, q659, st659⟩ := h_special (a := b650) X650 hx (W := 1) (Ls := #[.val (.int p0), .val (.long p1), .second, .val (.long p2), .second, .val (.long p3), .second, .val (.int (0 : Int32)), .val (.long (2305843009213693951 : Int64)), .second, .val (.long g0), .second, .val (.long g1), .second, .val (.long g2), .second, .val (.ref b646), .val (.long (0 : Int64)), .second, .unset, .unset]) (argsL := []) (rest := [(.ref b650)]) hZ e650 N0 hml hown rfl (rm1 l Z a0 hw b650 h650 n0 Z655 f657 f658 f656 A650 ge652) (hw _ (List.mem_of_getElem? (i := 5) rfl)) (hw _ (List.mem_of_getElem? (i := 6) rfl)) (hw _ (List.mem_of_getElem? (i := 4) rfl)) (hw _ (List.mem_of_getElem? (i := 7) rfl)) (by decide) pd___V rfl rfl (hb hby at_180) rfl (by decide) (by decide) (by decide) (by decide)
    obtain ⟨sb659, rfl, ge659, ne659, sz659, K659, A659, C659, S659, B659, V659⟩ := q659
    have f660 := f653.keep K659
    have f661 := f654.keep K659 (ninS ne651 nin0)
    have f662 := A650.keep K659
    have Z663 : n0 ≤ h659.size := Nat.le_trans Z655 K659.1
    refine Go.movp st659 (mkF m 183 #[.val (.int p0), .val (.long p1), .second, .val (.long p2), .second, .val (.long p3), .second, .val (.int (0 : Int32)), .val (.long (2305843009213693951 : Int64)), .second, .val (.long g0), .second, .val (.long g1), .second, .val (.long g2), .second, .val (.ref b646), .val (.long (0 : Int64)), .second, .unset, .unset] [(.ref b650)]) rfl ?_
    have ne664 : b646 ≠ sb659 := Nat.ne_of_lt (Nat.lt_of_lt_of_le f654.lt sz659)
    refine g_astore X659 hx (hb hby at_183) (pc' := 185) rfl rfl (Ls' := #[.val (.int p0), .val (.long p1), .second, .val (.long p2), .second, .val (.long p3), .second, .val (.int (0 : Int32)), .val (.long (2305843009213693951 : Int64)), .second, .val (.long g0), .second, .val (.long g1), .second, .val (.long g2), .second, .val (.ref b646), .val (.long (0 : Int64)), .second, .val (.ref b650), .unset]) rfl ?_
    refine g_iload X659 hx (hb hby at_185) (pc' := 187) rfl rfl ?_
    refine g_iconst X659 hx (hb hby at_187) (pc' := 188) rfl (z := (1 : Int32)) rfl ?_
    refine g_icmp_lt X659 hx (hb hby at_188) (pc1 := 191) rfl (by decide) (pc2 := 198) (by decide) (fun hc188 => ?_) (fun hc188 => absurd hc188 (by decide))
    refine g_iload X659 hx (hb hby at_198) (pc' := 200) rfl rfl ?_
    refine g_iconst X659 hx (hb hby at_200) (pc' := 201) rfl (z := (2 : Int32)) rfl ?_
    refine g_icmp_lt X659 hx (hb hby at_201) (pc1 := 204) rfl (by decide) (pc2 := 211) (by decide) (fun hc201 => ?_) (fun hc201 => absurd hc201 (by decide))
    refine g_iload X659 hx (hb hby at_211) (pc' := 213) rfl rfl ?_
    refine g_iconst X659 hx (hb hby at_213) (pc' := 214) rfl (z := (3 : Int32)) rfl ?_
    refine g_icmp_lt X659 hx (hb hby at_214) (pc1 := 217) rfl (by decide) (pc2 := 224) (by decide) (fun hc214 => ?_) (fun hc214 => absurd hc214 (by decide))
    refine g_aload X659 hx (hb hby at_224) (pc' := 226) rfl rfl rfl ?_
    obtain ⟨r, hr, elo⟩ := own_low (c := (0 : Int64)) (s := (0 : Int64)) (int_pos (by decide)) (int_pos (by decide))
    obtain ⟨v665, T665, h665, L665, X665, e665, N665, q665, st665⟩ := h_virtual (a := b650) (z := (⟨"com/example/stratasig/stratasig/index/GapCoding$Counts", "tally", "()Lcom/example/stratasig/stratasig/index/GapCoding$Tally;"⟩ : MethodName)) X659 hx (W := 0) (Ls := #[.val (.int p0), .val (.long p1), .second, .val (.long p2), .second, .val (.long p3), .second, .val (.int (0 : Int32)), .val (.long (2305843009213693951 : Int64)), .second, .val (.long g0), .second, .val (.long g1), .second, .val (.long g2), .second, .val (.ref b646), .val (.long (0 : Int64)), .second, .val (.ref b650), .unset]) (argsL := []) (rest := []) hZ e659 N659 hml hown (rm3 l Z a0 hw b650 sb659 (0 : Int64) (0 : Int64) (List.replicate 63 (0 : Int64)) r h659 n0 Z663 C659 S659 B659 V659 A659 (by simp [addB_len]) hr elo) A659 (hw _ (List.mem_of_getElem? (i := 13) rfl)) (hw _ (List.mem_of_getElem? (i := 14) rfl)) (notFace_of_selects (args := #[]) (mvT hZ (hw _ (List.mem_of_getElem? (i := 16) rfl)))) (hw _ (List.mem_of_getElem? (i := 16) rfl)) (hw _ (List.mem_of_getElem? (i := 15) rfl)) (hw _ (List.mem_of_getElem? (i := 4) rfl)) (hw _ (List.mem_of_getElem? (i := 17) rfl)) (by decide) pd___Lcom_example_stratasig_stratasig_index_GapCoding_Tally_ rfl rfl (hb hby at_226) rfl (by decide) (by decide) (by decide) (by decide)
    obtain ⟨t665, rfl, ge665, K665, A665, C665, L665, P665, Q665, R665⟩ := q665
    have f666 := f660.keep K665
    have f667 := f661.keep K665 nin0
    have f668 := A659.keep K665
    have f669 := C659.keep K665 nin0
    have f670 := S659.keep K665 nin0
    have f671 := B659.keep K665 nin0
    have f672 := V659.keep K665 nin0
    have Z673 : n0 ≤ h665.size := Nat.le_trans Z663 K665.1
    refine Go.movp st665 (mkF m 229 #[.val (.int p0), .val (.long p1), .second, .val (.long p2), .second, .val (.long p3), .second, .val (.int (0 : Int32)), .val (.long (2305843009213693951 : Int64)), .second, .val (.long g0), .second, .val (.long g1), .second, .val (.long g2), .second, .val (.ref b646), .val (.long (0 : Int64)), .second, .val (.ref b650), .unset] [(.ref t665)]) rfl ?_
    refine g_astore X665 hx (hb hby at_229) (pc' := 231) rfl rfl (Ls' := #[.val (.int p0), .val (.long p1), .second, .val (.long p2), .second, .val (.long p3), .second, .val (.int (0 : Int32)), .val (.long (2305843009213693951 : Int64)), .second, .val (.long g0), .second, .val (.long g1), .second, .val (.long g2), .second, .val (.ref b646), .val (.long (0 : Int64)), .second, .val (.ref b650), .val (.ref t665)]) rfl ?_
    refine g_aload X665 hx (hb hby at_231) (pc' := 233) rfl rfl rfl ?_
    obtain ⟨v674, T674, h674, L674, X674, e674, N674, q674, st674⟩ := h_virtual (a := b650) (z := (⟨"com/example/stratasig/stratasig/index/GapCoding$Counts", "sum", "()J"⟩ : MethodName)) X665 hx (W := 0) (Ls := #[.val (.int p0), .val (.long p1), .second, .val (.long p2), .second, .val (.long p3), .second, .val (.int (0 : Int32)), .val (.long (2305843009213693951 : Int64)), .second, .val (.long g0), .second, .val (.long g1), .second, .val (.long g2), .second, .val (.ref b646), .val (.long (0 : Int64)), .second, .val (.ref b650), .val (.ref t665)]) (argsL := []) (rest := []) hZ e665 N665 hml hown (rm9 l Z a0 hw b650 (0 : Int64) h665 n0 Z673 f670) f668 (hw _ (List.mem_of_getElem? (i := 58) rfl)) (hw _ (List.mem_of_getElem? (i := 59) rfl)) (notFace_of_selects (args := #[]) (mvT hZ (hw _ (List.mem_of_getElem? (i := 61) rfl)))) (hw _ (List.mem_of_getElem? (i := 61) rfl)) (hw _ (List.mem_of_getElem? (i := 60) rfl)) (hw _ (List.mem_of_getElem? (i := 4) rfl)) (hw _ (List.mem_of_getElem? (i := 62) rfl)) (by decide) pd___J rfl rfl (hb hby at_233) rfl (by decide) (by decide) (by decide) (by decide)
    obtain ⟨rfl, rfl⟩ := q674
    refine Go.movp st674 (mkF m 236 #[.val (.int p0), .val (.long p1), .second, .val (.long p2), .second, .val (.long p3), .second, .val (.int (0 : Int32)), .val (.long (2305843009213693951 : Int64)), .second, .val (.long g0), .second, .val (.long g1), .second, .val (.long g2), .second, .val (.ref b646), .val (.long (0 : Int64)), .second, .val (.ref b650), .val (.ref t665)] [(.long (0 : Int64))]) rfl ?_
    refine g_lload X674 hx (hb hby at_236) (pc' := 238) rfl rfl ?_
    refine g_lcmp_ne X674 hx (hb hby at_238) (pc' := 239) rfl (hb hby at_239) (pc1 := 242) rfl (by decide) (pc2 := 273) (by decide) (fun hc238 => absurd rfl hc238) (fun hc238 => ?_)
    refine g_aload X674 hx (hb hby at_242) (pc' := 244) rfl rfl rfl ?_
    obtain ⟨v675, T675, h675, L675, X675, e675, N675, q675, st675⟩ := h_virtual (a := t665) (z := (⟨"com/example/stratasig/stratasig/index/GapCoding$Tally", "bits", "()J"⟩ : MethodName)) X674 hx (W := 0) (Ls := #[.val (.int p0), .val (.long p1), .second, .val (.long p2), .second, .val (.long p3), .second, .val (.int (0 : Int32)), .val (.long (2305843009213693951 : Int64)), .second, .val (.long g0), .second, .val (.long g1), .second, .val (.long g2), .second, .val (.ref b646), .val (.long (0 : Int64)), .second, .val (.ref b650), .val (.ref t665)]) (argsL := []) (rest := []) hZ e674 N674 hml hown (rm10 l Z a0 hw t665 (0 : Int64) r.toInt32 (qsum (List.replicate 63 (0 : Int64)) r r (63 - r)) (qsum (List.replicate 63 (0 : Int64)) (r + 1) (r + 1) (63 - (r + 1))) (qsum (List.replicate 63 (0 : Int64)) (r + 2) (r + 2) (63 - (r + 2))) h665 n0 Z673 C665 L665 P665 Q665 R665 A665) A665 (hw _ (List.mem_of_getElem? (i := 63) rfl)) (hw _ (List.mem_of_getElem? (i := 64) rfl)) (notFace_of_selects (args := #[]) (mvT hZ (hw _ (List.mem_of_getElem? (i := 66) rfl)))) (hw _ (List.mem_of_getElem? (i := 66) rfl)) (hw _ (List.mem_of_getElem? (i := 65) rfl)) (hw _ (List.mem_of_getElem? (i := 20) rfl)) (hw _ (List.mem_of_getElem? (i := 67) rfl)) (by decide) pd___J rfl rfl (hb hby at_244) rfl (by decide) (by decide) (by decide) (by decide)
    obtain ⟨rfl, K675⟩ := q675
    have f676 := f666.keep K675
    have f677 := f667.keep K675 nin0
    have f678 := f668.keep K675
    have f679 := f669.keep K675 nin0
    have f680 := f670.keep K675 nin0
    have f681 := f671.keep K675 nin0
    have f682 := f672.keep K675 nin0
    have f683 := C665.keep K675 nin0
    have f684 := L665.keep K675 nin0
    have f685 := P665.keep K675 nin0
    have f686 := Q665.keep K675 nin0
    have f687 := R665.keep K675 nin0
    have f688 := A665.keep K675
    have Z689 : n0 ≤ h675.size := Nat.le_trans Z673 K675.1
    refine Go.movp st675 (mkF m 247 #[.val (.int p0), .val (.long p1), .second, .val (.long p2), .second, .val (.long p3), .second, .val (.int (0 : Int32)), .val (.long (2305843009213693951 : Int64)), .second, .val (.long g0), .second, .val (.long g1), .second, .val (.long g2), .second, .val (.ref b646), .val (.long (0 : Int64)), .second, .val (.ref b650), .val (.ref t665)] [(.long (bitsV (0 : Int64) r.toInt32 (qsum (List.replicate 63 (0 : Int64)) r r (63 - r)) (qsum (List.replicate 63 (0 : Int64)) (r + 1) (r + 1) (63 - (r + 1))) (qsum (List.replicate 63 (0 : Int64)) (r + 2) (r + 2) (63 - (r + 2)))))]) rfl ?_
    refine g_aload X675 hx (hb hby at_247) (pc' := 249) rfl rfl rfl ?_
    obtain ⟨v690, T690, h690, L690, X690, e690, N690, q690, st690⟩ := h_static X675 hx (W := 2) (Ls := #[.val (.int p0), .val (.long p1), .second, .val (.long p2), .second, .val (.long p3), .second, .val (.int (0 : Int32)), .val (.long (2305843009213693951 : Int64)), .second, .val (.long g0), .second, .val (.long g1), .second, .val (.long g2), .second, .val (.ref b646), .val (.long (0 : Int64)), .second, .val (.ref b650), .val (.ref t665)]) (argsL := [(.ref b646)]) (rest := [(.long (bitsV (0 : Int64) r.toInt32 (qsum (List.replicate 63 (0 : Int64)) r r (63 - r)) (qsum (List.replicate 63 (0 : Int64)) (r + 1) (r + 1) (63 - (r + 1))) (qsum (List.replicate 63 (0 : Int64)) (r + 2) (r + 2) (63 - (r + 2)))))]) hZ e675 N675 hml hown (rm13_0 l Z a0 hw b646  h675 n0 Z689 f677) (hw _ (List.mem_of_getElem? (i := 79) rfl)) (hw _ (List.mem_of_getElem? (i := 80) rfl)) (hw _ (List.mem_of_getElem? (i := 81) rfl)) (hw _ (List.mem_of_getElem? (i := 82) rfl)) (by decide) pd___J_J rfl rfl (hb hby at_249) rfl (by decide) (by decide) (by decide) (by decide)
    obtain ⟨rfl, K690⟩ := q690
    have f691 := f676.keep K690
    have f692 := f677.keep K690 nin0
    have f693 := f678.keep K690
    have f694 := f679.keep K690 nin0
    have f695 := f680.keep K690 nin0
    have f696 := f681.keep K690 nin0
    have f697 := f682.keep K690 nin0
    have f698 := f683.keep K690 nin0
    have f699 := f684.keep K690 nin0
    have f700 := f685.keep K690 nin0
    have f701 := f686.keep K690 nin0
    have f702 := f687.keep K690 nin0
    have f703 := f688.keep K690
    have Z704 : n0 ≤ h690.size := Nat.le_trans Z689 K690.1
    refine Go.movp st690 (mkF m 252 #[.val (.int p0), .val (.long p1), .second, .val (.long p2), .second, .val (.long p3), .second, .val (.int (0 : Int32)), .val (.long (2305843009213693951 : Int64)), .second, .val (.long g0), .second, .val (.long g1), .second, .val (.long g2), .second, .val (.ref b646), .val (.long (0 : Int64)), .second, .val (.ref b650), .val (.ref t665)] [(.long (bitsV (0 : Int64) (lowV (0 : Int64) (0 : Int64)) (0 : Int64) (0 : Int64) (0 : Int64))), (.long (bitsV (0 : Int64) r.toInt32 (qsum (List.replicate 63 (0 : Int64)) r r (63 - r)) (qsum (List.replicate 63 (0 : Int64)) (r + 1) (r + 1) (63 - (r + 1))) (qsum (List.replicate 63 (0 : Int64)) (r + 2) (r + 2) (63 - (r + 2)))))]) rfl ?_
    refine g_lcmp_ne X690 hx (hb hby at_252) (pc' := 253) rfl (hb hby at_253) (pc1 := 256) rfl (by decide) (pc2 := 273) (by decide) (fun hc252 => absurd (own_bitsL elo.symm (own_q0  (r := r) (by omega)) (own_q0  (r := r + 1) (by omega)) (own_q0  (r := r + 2) (by omega))) hc252) (fun hc252 => ?_)
    refine g_aload X690 hx (hb hby at_256) (pc' := 258) rfl rfl rfl ?_
    obtain ⟨v705, T705, h705, L705, X705, e705, N705, q705, st705⟩ := h_virtual (a := t665) (z := (⟨"com/example/stratasig/stratasig/index/GapCoding$Tally", "parameter", "()I"⟩ : MethodName)) X690 hx (W := 0) (Ls := #[.val (.int p0), .val (.long p1), .second, .val (.long p2), .second, .val (.long p3), .second, .val (.int (0 : Int32)), .val (.long (2305843009213693951 : Int64)), .second, .val (.long g0), .second, .val (.long g1), .second, .val (.long g2), .second, .val (.ref b646), .val (.long (0 : Int64)), .second, .val (.ref b650), .val (.ref t665)]) (argsL := []) (rest := []) hZ e690 N690 hml hown (rm17 l Z a0 hw t665 (0 : Int64) r.toInt32 (qsum (List.replicate 63 (0 : Int64)) r r (63 - r)) (qsum (List.replicate 63 (0 : Int64)) (r + 1) (r + 1) (63 - (r + 1))) (qsum (List.replicate 63 (0 : Int64)) (r + 2) (r + 2) (63 - (r + 2))) h690 n0 Z704 f698 f699 f700 f701 f702 f703) f703 (hw _ (List.mem_of_getElem? (i := 97) rfl)) (hw _ (List.mem_of_getElem? (i := 98) rfl)) (notFace_of_selects (args := #[]) (mvT hZ (hw _ (List.mem_of_getElem? (i := 100) rfl)))) (hw _ (List.mem_of_getElem? (i := 100) rfl)) (hw _ (List.mem_of_getElem? (i := 99) rfl)) (hw _ (List.mem_of_getElem? (i := 20) rfl)) (hw _ (List.mem_of_getElem? (i := 101) rfl)) (by decide) pd___I rfl rfl (hb hby at_258) rfl (by decide) (by decide) (by decide) (by decide)
    obtain ⟨rfl, K705⟩ := q705
    have f706 := f691.keep K705
    have f707 := f692.keep K705 nin0
    have f708 := f693.keep K705
    have f709 := f694.keep K705 nin0
    have f710 := f695.keep K705 nin0
    have f711 := f696.keep K705 nin0
    have f712 := f697.keep K705 nin0
    have f713 := f698.keep K705 nin0
    have f714 := f699.keep K705 nin0
    have f715 := f700.keep K705 nin0
    have f716 := f701.keep K705 nin0
    have f717 := f702.keep K705 nin0
    have f718 := f703.keep K705
    have Z719 : n0 ≤ h705.size := Nat.le_trans Z704 K705.1
    refine Go.movp st705 (mkF m 261 #[.val (.int p0), .val (.long p1), .second, .val (.long p2), .second, .val (.long p3), .second, .val (.int (0 : Int32)), .val (.long (2305843009213693951 : Int64)), .second, .val (.long g0), .second, .val (.long g1), .second, .val (.long g2), .second, .val (.ref b646), .val (.long (0 : Int64)), .second, .val (.ref b650), .val (.ref t665)] [(.int (r.toInt32 + (bestV (0 : Int64) (qsum (List.replicate 63 (0 : Int64)) r r (63 - r)) (qsum (List.replicate 63 (0 : Int64)) (r + 1) (r + 1) (63 - (r + 1))) (qsum (List.replicate 63 (0 : Int64)) (r + 2) (r + 2) (63 - (r + 2))))))]) rfl ?_
    refine g_aload X705 hx (hb hby at_261) (pc' := 263) rfl rfl rfl ?_
    obtain ⟨v720, T720, h720, L720, X720, e720, N720, q720, st720⟩ := h_static X705 hx (W := 1) (Ls := #[.val (.int p0), .val (.long p1), .second, .val (.long p2), .second, .val (.long p3), .second, .val (.int (0 : Int32)), .val (.long (2305843009213693951 : Int64)), .second, .val (.long g0), .second, .val (.long g1), .second, .val (.long g2), .second, .val (.ref b646), .val (.long (0 : Int64)), .second, .val (.ref b650), .val (.ref t665)]) (argsL := [(.ref b646)]) (rest := [(.int (r.toInt32 + (bestV (0 : Int64) (qsum (List.replicate 63 (0 : Int64)) r r (63 - r)) (qsum (List.replicate 63 (0 : Int64)) (r + 1) (r + 1) (63 - (r + 1))) (qsum (List.replicate 63 (0 : Int64)) (r + 2) (r + 2) (63 - (r + 2))))))]) hZ e705 N705 hml hown (rm18_0 l Z a0 hw b646  h705 n0 Z719 f707) (hw _ (List.mem_of_getElem? (i := 102) rfl)) (hw _ (List.mem_of_getElem? (i := 103) rfl)) (hw _ (List.mem_of_getElem? (i := 81) rfl)) (hw _ (List.mem_of_getElem? (i := 104) rfl)) (by decide) pd___J_I rfl rfl (hb hby at_263) rfl (by decide) (by decide) (by decide) (by decide)
    obtain ⟨rfl, K720⟩ := q720
    have f721 := f706.keep K720
    have f722 := f707.keep K720 nin0
    have f723 := f708.keep K720
    have f724 := f709.keep K720 nin0
    have f725 := f710.keep K720 nin0
    have f726 := f711.keep K720 nin0
    have f727 := f712.keep K720 nin0
    have f728 := f713.keep K720 nin0
    have f729 := f714.keep K720 nin0
    have f730 := f715.keep K720 nin0
    have f731 := f716.keep K720 nin0
    have f732 := f717.keep K720 nin0
    have f733 := f718.keep K720
    have Z734 : n0 ≤ h720.size := Nat.le_trans Z719 K720.1
    refine Go.movp st720 (mkF m 266 #[.val (.int p0), .val (.long p1), .second, .val (.long p2), .second, .val (.long p3), .second, .val (.int (0 : Int32)), .val (.long (2305843009213693951 : Int64)), .second, .val (.long g0), .second, .val (.long g1), .second, .val (.long g2), .second, .val (.ref b646), .val (.long (0 : Int64)), .second, .val (.ref b650), .val (.ref t665)] [(.int ((lowV (0 : Int64) (0 : Int64)) + bestV (0 : Int64) (0 : Int64) (0 : Int64) (0 : Int64))), (.int (r.toInt32 + (bestV (0 : Int64) (qsum (List.replicate 63 (0 : Int64)) r r (63 - r)) (qsum (List.replicate 63 (0 : Int64)) (r + 1) (r + 1) (63 - (r + 1))) (qsum (List.replicate 63 (0 : Int64)) (r + 2) (r + 2) (63 - (r + 2))))))]) rfl ?_
    refine g_icmp_ne X720 hx (hb hby at_266) (pc1 := 269) rfl (by decide) (pc2 := 273) (by decide) (fun hc266 => absurd (own_parL elo.symm (own_q0  (r := r) (by omega)) (own_q0  (r := r + 1) (by omega)) (own_q0  (r := r + 2) (by omega))) hc266) (fun hc266 => ?_)
    refine g_iconst X720 hx (hb hby at_269) (pc' := 270) rfl (z := (1 : Int32)) rfl ?_
    refine g_goto X720 hx (hb hby at_270) (by decide) (pc' := 274) (by decide) ?_
    exact g_zreturn X720 hx rfl hret (hb hby at_274) N720 hlk (fun v t => endF (by decide) (by decide) v) (by rw [e720]; exact rfl)
  · skip
    refine Go.cast (show (mkF m 3 #[.val (.int p0), .val (.long p1), .second, .val (.long p2), .second, .val (.long p3), .second, .unset, .unset, .unset, .unset, .unset, .unset, .unset, .unset, .unset, .unset, .unset, .unset, .unset, .unset] [(.int (p0 &&& (3 : Int32)))]) = (mkF m 3 #[.val (.int p0), .val (.long p1), .second, .val (.long p2), .second, .val (.long p3), .second, .unset, .unset, .unset, .unset, .unset, .unset, .unset, .unset, .unset, .unset, .unset, .unset, .unset, .unset] [(.int (1 : Int32))]) from by rw [show (p0 &&& (3 : Int32)) = (1 : Int32) from qn]) ?_
    refine g_istore X0 hx (hb hby at_3) (pc' := 5) rfl (Ls' := #[.val (.int p0), .val (.long p1), .second, .val (.long p2), .second, .val (.long p3), .second, .val (.int (1 : Int32)), .unset, .unset, .unset, .unset, .unset, .unset, .unset, .unset, .unset, .unset, .unset, .unset, .unset]) rfl ?_
    refine g_iload X0 hx (hb hby at_5) (pc' := 7) rfl rfl ?_
    refine g_iconst X0 hx (hb hby at_7) (pc' := 8) rfl (z := (1 : Int32)) rfl ?_
    refine g_icmp_ne X0 hx (hb hby at_8) (pc1 := 11) rfl (by decide) (pc2 := 17) (by decide) (fun hc8 => absurd (by decide) hc8) (fun hc8 => ?_)
    refine g_ldc2_w X0 hx hZ hown (hw _ (List.mem_of_getElem? (i := 118) rfl)) (hb hby at_11) (pc' := 14) rfl ?_
    refine g_goto X0 hx (hb hby at_14) (by decide) (pc' := 32) (by decide) ?_
    refine g_lstore X0 hx (hb hby at_32) (pc' := 34) rfl (Ls' := #[.val (.int p0), .val (.long p1), .second, .val (.long p2), .second, .val (.long p3), .second, .val (.int (1 : Int32)), .val (.long (9223372036854775807 : Int64)), .second, .unset, .unset, .unset, .unset, .unset, .unset, .unset, .unset, .unset, .unset, .unset]) rfl ?_
    refine g_lloadN X0 hx (hb hby at_34) (pc' := 35) rfl rfl ?_
    refine g_lload X0 hx (hb hby at_35) (pc' := 37) rfl rfl ?_
    refine g_land X0 hx (hb hby at_37) (pc' := 38) rfl ?_
    refine g_iloadN X0 hx (hb hby at_38) (pc' := 39) rfl rfl ?_
    refine g_iconst X0 hx (hb hby at_39) (pc' := 40) rfl (z := (2 : Int32)) rfl ?_
    refine g_iushr X0 hx (hb hby at_40) (pc' := 41) rfl ?_
    refine g_bipush X0 hx (hb hby at_41) (pc' := 43) rfl (z := (63 : Int32)) rfl ?_
    refine g_iand X0 hx (hb hby at_43) (pc' := 44) rfl ?_
    refine g_lushr X0 hx (hb hby at_44) (pc' := 45) rfl ?_
    obtain ⟨g0, eg0⟩ : ∃ z : Int64, z = (lushr (p1 &&& (9223372036854775807 : Int64)) ((ushr p0 (2 : Int32)) &&& (63 : Int32))) := ⟨_, rfl⟩
    refine Go.cast (show (mkF m 45 #[.val (.int p0), .val (.long p1), .second, .val (.long p2), .second, .val (.long p3), .second, .val (.int (1 : Int32)), .val (.long (9223372036854775807 : Int64)), .second, .unset, .unset, .unset, .unset, .unset, .unset, .unset, .unset, .unset, .unset, .unset] [(.long (lushr (p1 &&& (9223372036854775807 : Int64)) ((ushr p0 (2 : Int32)) &&& (63 : Int32))))]) = (mkF m 45 #[.val (.int p0), .val (.long p1), .second, .val (.long p2), .second, .val (.long p3), .second, .val (.int (1 : Int32)), .val (.long (9223372036854775807 : Int64)), .second, .unset, .unset, .unset, .unset, .unset, .unset, .unset, .unset, .unset, .unset, .unset] [(.long g0)]) from by rw [eg0]) ?_
    have m0 : g0.toBitVec.toNat ≤ 9223372036854775807 := by rw [eg0]; exact own_g _ _ _
    have k0 : Pos g0 := pos_of m0 (by decide)
    refine g_lstore X0 hx (hb hby at_45) (pc' := 47) rfl (Ls' := #[.val (.int p0), .val (.long p1), .second, .val (.long p2), .second, .val (.long p3), .second, .val (.int (1 : Int32)), .val (.long (9223372036854775807 : Int64)), .second, .val (.long g0), .second, .unset, .unset, .unset, .unset, .unset, .unset, .unset, .unset, .unset]) rfl ?_
    refine g_lloadN X0 hx (hb hby at_47) (pc' := 48) rfl rfl ?_
    refine g_lload X0 hx (hb hby at_48) (pc' := 50) rfl rfl ?_
    refine g_land X0 hx (hb hby at_50) (pc' := 51) rfl ?_
    refine g_iloadN X0 hx (hb hby at_51) (pc' := 52) rfl rfl ?_
    refine g_bipush X0 hx (hb hby at_52) (pc' := 54) rfl (z := (8 : Int32)) rfl ?_
    refine g_iushr X0 hx (hb hby at_54) (pc' := 55) rfl ?_
    refine g_bipush X0 hx (hb hby at_55) (pc' := 57) rfl (z := (63 : Int32)) rfl ?_
    refine g_iand X0 hx (hb hby at_57) (pc' := 58) rfl ?_
    refine g_lushr X0 hx (hb hby at_58) (pc' := 59) rfl ?_
    obtain ⟨g1, eg1⟩ : ∃ z : Int64, z = (lushr (p2 &&& (9223372036854775807 : Int64)) ((ushr p0 (8 : Int32)) &&& (63 : Int32))) := ⟨_, rfl⟩
    refine Go.cast (show (mkF m 59 #[.val (.int p0), .val (.long p1), .second, .val (.long p2), .second, .val (.long p3), .second, .val (.int (1 : Int32)), .val (.long (9223372036854775807 : Int64)), .second, .val (.long g0), .second, .unset, .unset, .unset, .unset, .unset, .unset, .unset, .unset, .unset] [(.long (lushr (p2 &&& (9223372036854775807 : Int64)) ((ushr p0 (8 : Int32)) &&& (63 : Int32))))]) = (mkF m 59 #[.val (.int p0), .val (.long p1), .second, .val (.long p2), .second, .val (.long p3), .second, .val (.int (1 : Int32)), .val (.long (9223372036854775807 : Int64)), .second, .val (.long g0), .second, .unset, .unset, .unset, .unset, .unset, .unset, .unset, .unset, .unset] [(.long g1)]) from by rw [eg1]) ?_
    have m1 : g1.toBitVec.toNat ≤ 9223372036854775807 := by rw [eg1]; exact own_g _ _ _
    have k1 : Pos g1 := pos_of m1 (by decide)
    refine g_lstore X0 hx (hb hby at_59) (pc' := 61) rfl (Ls' := #[.val (.int p0), .val (.long p1), .second, .val (.long p2), .second, .val (.long p3), .second, .val (.int (1 : Int32)), .val (.long (9223372036854775807 : Int64)), .second, .val (.long g0), .second, .val (.long g1), .second, .unset, .unset, .unset, .unset, .unset, .unset, .unset]) rfl ?_
    refine g_lload X0 hx (hb hby at_61) (pc' := 63) rfl rfl ?_
    refine g_lload X0 hx (hb hby at_63) (pc' := 65) rfl rfl ?_
    refine g_land X0 hx (hb hby at_65) (pc' := 66) rfl ?_
    refine g_iloadN X0 hx (hb hby at_66) (pc' := 67) rfl rfl ?_
    refine g_bipush X0 hx (hb hby at_67) (pc' := 69) rfl (z := (14 : Int32)) rfl ?_
    refine g_iushr X0 hx (hb hby at_69) (pc' := 70) rfl ?_
    refine g_bipush X0 hx (hb hby at_70) (pc' := 72) rfl (z := (63 : Int32)) rfl ?_
    refine g_iand X0 hx (hb hby at_72) (pc' := 73) rfl ?_
    refine g_lushr X0 hx (hb hby at_73) (pc' := 74) rfl ?_
    obtain ⟨g2, eg2⟩ : ∃ z : Int64, z = (lushr (p3 &&& (9223372036854775807 : Int64)) ((ushr p0 (14 : Int32)) &&& (63 : Int32))) := ⟨_, rfl⟩
    refine Go.cast (show (mkF m 74 #[.val (.int p0), .val (.long p1), .second, .val (.long p2), .second, .val (.long p3), .second, .val (.int (1 : Int32)), .val (.long (9223372036854775807 : Int64)), .second, .val (.long g0), .second, .val (.long g1), .second, .unset, .unset, .unset, .unset, .unset, .unset, .unset] [(.long (lushr (p3 &&& (9223372036854775807 : Int64)) ((ushr p0 (14 : Int32)) &&& (63 : Int32))))]) = (mkF m 74 #[.val (.int p0), .val (.long p1), .second, .val (.long p2), .second, .val (.long p3), .second, .val (.int (1 : Int32)), .val (.long (9223372036854775807 : Int64)), .second, .val (.long g0), .second, .val (.long g1), .second, .unset, .unset, .unset, .unset, .unset, .unset, .unset] [(.long g2)]) from by rw [eg2]) ?_
    have m2 : g2.toBitVec.toNat ≤ 9223372036854775807 := by rw [eg2]; exact own_g _ _ _
    have k2 : Pos g2 := pos_of m2 (by decide)
    refine g_lstore X0 hx (hb hby at_74) (pc' := 76) rfl (Ls' := #[.val (.int p0), .val (.long p1), .second, .val (.long p2), .second, .val (.long p3), .second, .val (.int (1 : Int32)), .val (.long (9223372036854775807 : Int64)), .second, .val (.long g0), .second, .val (.long g1), .second, .val (.long g2), .second, .unset, .unset, .unset, .unset, .unset]) rfl ?_
    refine g_iload X0 hx (hb hby at_76) (pc' := 78) rfl rfl ?_
    refine g_if_ne X0 hx (hb hby at_78) (pc1 := 81) rfl (by decide) (pc2 := 92) (by decide) (fun hc78 => ?_) (fun hc78 => absurd hc78 (by decide))
    refine g_iload X0 hx (hb hby at_92) (pc' := 94) rfl rfl ?_
    refine g_iconst X0 hx (hb hby at_94) (pc' := 95) rfl (z := (1 : Int32)) rfl ?_
    refine g_icmp_ne X0 hx (hb hby at_95) (pc1 := 98) rfl (by decide) (pc2 := 115) (by decide) (fun hc95 => absurd (by decide) hc95) (fun hc95 => ?_)
    refine g_iconst X0 hx (hb hby at_98) (pc' := 99) rfl (z := (1 : Int32)) rfl ?_
    obtain ⟨T735, h735, b735, X735, e735, g735, E735, V735, A735, st735⟩ := h_newarray X0 hx hZ e0 (n := (1 : Int32)) (ty := .long) rfl (hw _ (List.mem_of_getElem? (i := 1) rfl)) (hb hby at_99) (k := 1) (cap := 1) (by decide) rfl (by decide) (by decide) (by decide) (by decide) (ad := "[J") (by decide) #[.val (.int p0), .val (.long p1), .second, .val (.long p2), .second, .val (.long p3), .second, .val (.int (1 : Int32)), .val (.long (9223372036854775807 : Int64)), .second, .val (.long g0), .second, .val (.long g1), .second, .val (.long g2), .second, .unset, .unset, .unset, .unset, .unset] []
    have ge736 : n0 ≤ b735 := g735 ▸ Z0
    have Z737 : n0 ≤ h735.size := Nat.le_trans Z0 E735.1
    have f738 : Va Z h735 b735 .long [(.long (0 : Int64))] := V735
    refine Go.movp st735 (mkF m 101 #[.val (.int p0), .val (.long p1), .second, .val (.long p2), .second, .val (.long p3), .second, .val (.int (1 : Int32)), .val (.long (9223372036854775807 : Int64)), .second, .val (.long g0), .second, .val (.long g1), .second, .val (.long g2), .second, .unset, .unset, .unset, .unset, .unset] [(.ref b735)]) rfl ?_
    refine g_dup X735 hx (hb hby at_101) (pc' := 102) rfl rfl ?_
    refine g_iconst X735 hx (hb hby at_102) (pc' := 103) rfl (z := (0 : Int32)) rfl ?_
    refine g_lload X735 hx (hb hby at_103) (pc' := 105) rfl rfl ?_
    obtain ⟨T739, h739, L739, X739, e739, N739, W739, V739, st739⟩ := h_lastore X735 hx hZ e735 N0 f738 ge736 (j := (0 : Int32)) (i := 0) (x := g0) (hb hby at_105) (by decide) rfl rfl #[.val (.int p0), .val (.long p1), .second, .val (.long p2), .second, .val (.long p3), .second, .val (.int (1 : Int32)), .val (.long (9223372036854775807 : Int64)), .second, .val (.long g0), .second, .val (.long g1), .second, .val (.long g2), .second, .unset, .unset, .unset, .unset, .unset] [(.ref b735)]
    have f740 := Exa.wr W739 A735
    have Z741 : n0 ≤ h739.size := Nat.le_trans Z737 (Keep.of_wr W739).1
    have f742 : Va Z h739 b735 .long [(.long g0)] := V739
    refine Go.movp st739 (mkF m 106 #[.val (.int p0), .val (.long p1), .second, .val (.long p2), .second, .val (.long p3), .second, .val (.int (1 : Int32)), .val (.long (9223372036854775807 : Int64)), .second, .val (.long g0), .second, .val (.long g1), .second, .val (.long g2), .second, .unset, .unset, .unset, .unset, .unset] [(.ref b735)]) rfl ?_
    refine g_astore X739 hx (hb hby at_106) (pc' := 108) rfl rfl (Ls' := #[.val (.int p0), .val (.long p1), .second, .val (.long p2), .second, .val (.long p3), .second, .val (.int (1 : Int32)), .val (.long (9223372036854775807 : Int64)), .second, .val (.long g0), .second, .val (.long g1), .second, .val (.long g2), .second, .val (.ref b735), .unset, .unset, .unset, .unset]) rfl ?_
    refine g_lload X739 hx (hb hby at_108) (pc' := 110) rfl rfl ?_
    refine g_lstore X739 hx (hb hby at_110) (pc' := 112) rfl (Ls' := #[.val (.int p0), .val (.long p1), .second, .val (.long p2), .second, .val (.long p3), .second, .val (.int (1 : Int32)), .val (.long (9223372036854775807 : Int64)), .second, .val (.long g0), .second, .val (.long g1), .second, .val (.long g2), .second, .val (.ref b735), .val (.long g0), .second, .unset, .unset]) rfl ?_
    refine g_goto X739 hx (hb hby at_112) (by decide) (pc' := 176) (by decide) ?_
    obtain ⟨T743, h743, X743, e743, E743, A743, D743, -, st743⟩ := newO X739 hx hZ hown (hw _ (List.mem_of_getElem? (i := 2) rfl)) (hw _ (List.mem_of_getElem? (i := 3) rfl)) (hw _ (List.mem_of_getElem? (i := 4) rfl)) e739 (g := (mkF m 176 #[.val (.int p0), .val (.long p1), .second, .val (.long p2), .second, .val (.long p3), .second, .val (.int (1 : Int32)), .val (.long (9223372036854775807 : Int64)), .second, .val (.long g0), .second, .val (.long g1), .second, .val (.long g2), .second, .val (.ref b735), .val (.long g0), .second, .unset, .unset] [])) rfl (hb hby at_176) (by decide) (by decide)
    obtain ⟨b743, g743⟩ : ∃ z, z = h739.size := ⟨_, rfl⟩
    rw [← g743] at A743 D743 st743
    have ne744 : b735 ≠ b743 := Nat.ne_of_lt (g743 ▸ f740.lt)
    have ge745 : n0 ≤ b743 := g743 ▸ Z741
    have f746 := Exa.ext E743 f740
    have f747 := f742.ext E743
    have Z748 : n0 ≤ h743.size := Nat.le_trans Z741 E743.1
    have f749 : Fld Z h743 b743 "com/example/stratasig/stratasig/index/GapCoding$Counts" "setBits" "[J" .null := D743 (Or.inr (hw _ (List.mem_of_getElem? (i := 12) rfl))) (ty := (.array .long)) (by decide)
    have f750 : Fld Z h743 b743 "com/example/stratasig/stratasig/index/GapCoding$Counts" "count" "J" (.long (0 : Int64)) := D743 (Or.inl (hw _ (List.mem_of_getElem? (i := 22) rfl))) (ty := .long) (by decide)
    have f751 : Fld Z h743 b743 "com/example/stratasig/stratasig/index/GapCoding$Counts" "sum" "J" (.long (0 : Int64)) := D743 (Or.inl (hw _ (List.mem_of_getElem? (i := 24) rfl))) (ty := .long) (by decide)
    refine Go.movp st743 (mkF m 179 #[.val (.int p0), .val (.long p1), .second, .val (.long p2), .second, .val (.long p3), .second, .val (.int (1 : Int32)), .val (.long (9223372036854775807 : Int64)), .second, .val (.long g0), .second, .val (.long g1), .second, .val (.long g2), .second, .val (.ref b735), .val (.long g0), .second, .unset, .unset] [(.ref b743)]) rfl ?_
    refine g_dup X743 hx (hb hby at_179) (pc' := 180) rfl rfl ?_
    obtain ⟨v752, T752, h752, L752, X752, e752, N752, q752, st752⟩ := h_special (a := b743) X743 hx (W := 1) (Ls := #[.val (.int p0), .val (.long p1), .second, .val (.long p2), .second, .val (.long p3), .second, .val (.int (1 : Int32)), .val (.long (9223372036854775807 : Int64)), .second, .val (.long g0), .second, .val (.long g1), .second, .val (.long g2), .second, .val (.ref b735), .val (.long g0), .second, .unset, .unset]) (argsL := []) (rest := [(.ref b743)]) hZ e743 N739 hml hown rfl (rm1 l Z a0 hw b743 h743 n0 Z748 f750 f751 f749 A743 ge745) (hw _ (List.mem_of_getElem? (i := 5) rfl)) (hw _ (List.mem_of_getElem? (i := 6) rfl)) (hw _ (List.mem_of_getElem? (i := 4) rfl)) (hw _ (List.mem_of_getElem? (i := 7) rfl)) (by decide) pd___V rfl rfl (hb hby at_180) rfl (by decide) (by decide) (by decide) (by decide)
    obtain ⟨sb752, rfl, ge752, ne752, sz752, K752, A752, C752, S752, B752, V752⟩ := q752
    have f753 := f746.keep K752
    have f754 := f747.keep K752 (ninS ne744 nin0)
    have f755 := A743.keep K752
    have Z756 : n0 ≤ h752.size := Nat.le_trans Z748 K752.1
    refine Go.movp st752 (mkF m 183 #[.val (.int p0), .val (.long p1), .second, .val (.long p2), .second, .val (.long p3), .second, .val (.int (1 : Int32)), .val (.long (9223372036854775807 : Int64)), .second, .val (.long g0), .second, .val (.long g1), .second, .val (.long g2), .second, .val (.ref b735), .val (.long g0), .second, .unset, .unset] [(.ref b743)]) rfl ?_
    have ne757 : b735 ≠ sb752 := Nat.ne_of_lt (Nat.lt_of_lt_of_le f747.lt sz752)
    refine g_astore X752 hx (hb hby at_183) (pc' := 185) rfl rfl (Ls' := #[.val (.int p0), .val (.long p1), .second, .val (.long p2), .second, .val (.long p3), .second, .val (.int (1 : Int32)), .val (.long (9223372036854775807 : Int64)), .second, .val (.long g0), .second, .val (.long g1), .second, .val (.long g2), .second, .val (.ref b735), .val (.long g0), .second, .val (.ref b743), .unset]) rfl ?_
    refine g_iload X752 hx (hb hby at_185) (pc' := 187) rfl rfl ?_
    refine g_iconst X752 hx (hb hby at_187) (pc' := 188) rfl (z := (1 : Int32)) rfl ?_
    refine g_icmp_lt X752 hx (hb hby at_188) (pc1 := 191) rfl (by decide) (pc2 := 198) (by decide) (fun hc188 => absurd hc188 (by decide)) (fun hc188 => ?_)
    refine g_aload X752 hx (hb hby at_191) (pc' := 193) rfl rfl rfl ?_
    refine g_lload X752 hx (hb hby at_193) (pc' := 195) rfl rfl ?_
    obtain ⟨v758, T758, h758, L758, X758, e758, N758, q758, st758⟩ := h_virtual (a := b743) (z := (⟨"com/example/stratasig/stratasig/index/GapCoding$Counts", "add", "(J)V"⟩ : MethodName)) X752 hx (W := 0) (Ls := #[.val (.int p0), .val (.long p1), .second, .val (.long p2), .second, .val (.long p3), .second, .val (.int (1 : Int32)), .val (.long (9223372036854775807 : Int64)), .second, .val (.long g0), .second, .val (.long g1), .second, .val (.long g2), .second, .val (.ref b735), .val (.long g0), .second, .val (.ref b743), .unset]) (argsL := [(.long g0)]) (rest := []) hZ e752 N752 hml hown (rm19 l Z a0 hw b743 sb752 (0 : Int64) (1 : Int64) (0 : Int64) g0 (List.replicate 63 (0 : Int64)) g0 h752 n0 Z756 C752 S752 B752 V752 A752 ge745 ge752 ne752 (by simp [addB_len]) k0 (by decide) (Int64.zero_add _)) A752 (hw _ (List.mem_of_getElem? (i := 106) rfl)) (hw _ (List.mem_of_getElem? (i := 107) rfl)) (notFace_of_selects (args := #[]) (mvT hZ (hw _ (List.mem_of_getElem? (i := 109) rfl)))) (hw _ (List.mem_of_getElem? (i := 109) rfl)) (hw _ (List.mem_of_getElem? (i := 108) rfl)) (hw _ (List.mem_of_getElem? (i := 4) rfl)) (hw _ (List.mem_of_getElem? (i := 110) rfl)) (by decide) pd__J_V rfl rfl (hb hby at_195) rfl (by decide) (by decide) (by decide) (by decide)
    obtain ⟨rfl, K758, A758, C758, S758, B758, V758⟩ := q758
    have f759 := f753.keep K758
    have f760 := f754.keep K758 (ninS ne744 (ninS ne757 nin0))
    have f761 := A752.keep K758
    have Z762 : n0 ≤ h758.size := Nat.le_trans Z756 K758.1
    refine Go.movp st758 (mkF m 198 #[.val (.int p0), .val (.long p1), .second, .val (.long p2), .second, .val (.long p3), .second, .val (.int (1 : Int32)), .val (.long (9223372036854775807 : Int64)), .second, .val (.long g0), .second, .val (.long g1), .second, .val (.long g2), .second, .val (.ref b735), .val (.long g0), .second, .val (.ref b743), .unset] []) rfl ?_
    refine g_iload X758 hx (hb hby at_198) (pc' := 200) rfl rfl ?_
    refine g_iconst X758 hx (hb hby at_200) (pc' := 201) rfl (z := (2 : Int32)) rfl ?_
    refine g_icmp_lt X758 hx (hb hby at_201) (pc1 := 204) rfl (by decide) (pc2 := 211) (by decide) (fun hc201 => ?_) (fun hc201 => absurd hc201 (by decide))
    refine g_iload X758 hx (hb hby at_211) (pc' := 213) rfl rfl ?_
    refine g_iconst X758 hx (hb hby at_213) (pc' := 214) rfl (z := (3 : Int32)) rfl ?_
    refine g_icmp_lt X758 hx (hb hby at_214) (pc1 := 217) rfl (by decide) (pc2 := 224) (by decide) (fun hc214 => ?_) (fun hc214 => absurd hc214 (by decide))
    refine g_aload X758 hx (hb hby at_224) (pc' := 226) rfl rfl rfl ?_
    obtain ⟨r, hr, elo⟩ := own_low (c := (1 : Int64)) (s := g0) (int_pos (by decide)) k0
    obtain ⟨v763, T763, h763, L763, X763, e763, N763, q763, st763⟩ := h_virtual (a := b743) (z := (⟨"com/example/stratasig/stratasig/index/GapCoding$Counts", "tally", "()Lcom/example/stratasig/stratasig/index/GapCoding$Tally;"⟩ : MethodName)) X758 hx (W := 0) (Ls := #[.val (.int p0), .val (.long p1), .second, .val (.long p2), .second, .val (.long p3), .second, .val (.int (1 : Int32)), .val (.long (9223372036854775807 : Int64)), .second, .val (.long g0), .second, .val (.long g1), .second, .val (.long g2), .second, .val (.ref b735), .val (.long g0), .second, .val (.ref b743), .unset]) (argsL := []) (rest := []) hZ e758 N758 hml hown (rm3 l Z a0 hw b743 sb752 (1 : Int64) g0 (addB g0 (List.replicate 63 (0 : Int64))) r h758 n0 Z762 C758 S758 B758 V758 A758 (by simp [addB_len]) hr elo) A758 (hw _ (List.mem_of_getElem? (i := 13) rfl)) (hw _ (List.mem_of_getElem? (i := 14) rfl)) (notFace_of_selects (args := #[]) (mvT hZ (hw _ (List.mem_of_getElem? (i := 16) rfl)))) (hw _ (List.mem_of_getElem? (i := 16) rfl)) (hw _ (List.mem_of_getElem? (i := 15) rfl)) (hw _ (List.mem_of_getElem? (i := 4) rfl)) (hw _ (List.mem_of_getElem? (i := 17) rfl)) (by decide) pd___Lcom_example_stratasig_stratasig_index_GapCoding_Tally_ rfl rfl (hb hby at_226) rfl (by decide) (by decide) (by decide) (by decide)
    obtain ⟨t763, rfl, ge763, K763, A763, C763, L763, P763, Q763, R763⟩ := q763
    have f764 := f759.keep K763
    have f765 := f760.keep K763 nin0
    have f766 := A758.keep K763
    have f767 := C758.keep K763 nin0
    have f768 := S758.keep K763 nin0
    have f769 := B758.keep K763 nin0
    have f770 := V758.keep K763 nin0
    have Z771 : n0 ≤ h763.size := Nat.le_trans Z762 K763.1
    refine Go.movp st763 (mkF m 229 #[.val (.int p0), .val (.long p1), .second, .val (.long p2), .second, .val (.long p3), .second, .val (.int (1 : Int32)), .val (.long (9223372036854775807 : Int64)), .second, .val (.long g0), .second, .val (.long g1), .second, .val (.long g2), .second, .val (.ref b735), .val (.long g0), .second, .val (.ref b743), .unset] [(.ref t763)]) rfl ?_
    refine g_astore X763 hx (hb hby at_229) (pc' := 231) rfl rfl (Ls' := #[.val (.int p0), .val (.long p1), .second, .val (.long p2), .second, .val (.long p3), .second, .val (.int (1 : Int32)), .val (.long (9223372036854775807 : Int64)), .second, .val (.long g0), .second, .val (.long g1), .second, .val (.long g2), .second, .val (.ref b735), .val (.long g0), .second, .val (.ref b743), .val (.ref t763)]) rfl ?_
    refine g_aload X763 hx (hb hby at_231) (pc' := 233) rfl rfl rfl ?_
    obtain ⟨v772, T772, h772, L772, X772, e772, N772, q772, st772⟩ := h_virtual (a := b743) (z := (⟨"com/example/stratasig/stratasig/index/GapCoding$Counts", "sum", "()J"⟩ : MethodName)) X763 hx (W := 0) (Ls := #[.val (.int p0), .val (.long p1), .second, .val (.long p2), .second, .val (.long p3), .second, .val (.int (1 : Int32)), .val (.long (9223372036854775807 : Int64)), .second, .val (.long g0), .second, .val (.long g1), .second, .val (.long g2), .second, .val (.ref b735), .val (.long g0), .second, .val (.ref b743), .val (.ref t763)]) (argsL := []) (rest := []) hZ e763 N763 hml hown (rm9 l Z a0 hw b743 g0 h763 n0 Z771 f768) f766 (hw _ (List.mem_of_getElem? (i := 58) rfl)) (hw _ (List.mem_of_getElem? (i := 59) rfl)) (notFace_of_selects (args := #[]) (mvT hZ (hw _ (List.mem_of_getElem? (i := 61) rfl)))) (hw _ (List.mem_of_getElem? (i := 61) rfl)) (hw _ (List.mem_of_getElem? (i := 60) rfl)) (hw _ (List.mem_of_getElem? (i := 4) rfl)) (hw _ (List.mem_of_getElem? (i := 62) rfl)) (by decide) pd___J rfl rfl (hb hby at_233) rfl (by decide) (by decide) (by decide) (by decide)
    obtain ⟨rfl, rfl⟩ := q772
    refine Go.movp st772 (mkF m 236 #[.val (.int p0), .val (.long p1), .second, .val (.long p2), .second, .val (.long p3), .second, .val (.int (1 : Int32)), .val (.long (9223372036854775807 : Int64)), .second, .val (.long g0), .second, .val (.long g1), .second, .val (.long g2), .second, .val (.ref b735), .val (.long g0), .second, .val (.ref b743), .val (.ref t763)] [(.long g0)]) rfl ?_
    refine g_lload X772 hx (hb hby at_236) (pc' := 238) rfl rfl ?_
    refine g_lcmp_ne X772 hx (hb hby at_238) (pc' := 239) rfl (hb hby at_239) (pc1 := 242) rfl (by decide) (pc2 := 273) (by decide) (fun hc238 => absurd rfl hc238) (fun hc238 => ?_)
    refine g_aload X772 hx (hb hby at_242) (pc' := 244) rfl rfl rfl ?_
    obtain ⟨v773, T773, h773, L773, X773, e773, N773, q773, st773⟩ := h_virtual (a := t763) (z := (⟨"com/example/stratasig/stratasig/index/GapCoding$Tally", "bits", "()J"⟩ : MethodName)) X772 hx (W := 0) (Ls := #[.val (.int p0), .val (.long p1), .second, .val (.long p2), .second, .val (.long p3), .second, .val (.int (1 : Int32)), .val (.long (9223372036854775807 : Int64)), .second, .val (.long g0), .second, .val (.long g1), .second, .val (.long g2), .second, .val (.ref b735), .val (.long g0), .second, .val (.ref b743), .val (.ref t763)]) (argsL := []) (rest := []) hZ e772 N772 hml hown (rm10 l Z a0 hw t763 (1 : Int64) r.toInt32 (qsum (addB g0 (List.replicate 63 (0 : Int64))) r r (63 - r)) (qsum (addB g0 (List.replicate 63 (0 : Int64))) (r + 1) (r + 1) (63 - (r + 1))) (qsum (addB g0 (List.replicate 63 (0 : Int64))) (r + 2) (r + 2) (63 - (r + 2))) h763 n0 Z771 C763 L763 P763 Q763 R763 A763) A763 (hw _ (List.mem_of_getElem? (i := 63) rfl)) (hw _ (List.mem_of_getElem? (i := 64) rfl)) (notFace_of_selects (args := #[]) (mvT hZ (hw _ (List.mem_of_getElem? (i := 66) rfl)))) (hw _ (List.mem_of_getElem? (i := 66) rfl)) (hw _ (List.mem_of_getElem? (i := 65) rfl)) (hw _ (List.mem_of_getElem? (i := 20) rfl)) (hw _ (List.mem_of_getElem? (i := 67) rfl)) (by decide) pd___J rfl rfl (hb hby at_244) rfl (by decide) (by decide) (by decide) (by decide)
    obtain ⟨rfl, K773⟩ := q773
    have f774 := f764.keep K773
    have f775 := f765.keep K773 nin0
    have f776 := f766.keep K773
    have f777 := f767.keep K773 nin0
    have f778 := f768.keep K773 nin0
    have f779 := f769.keep K773 nin0
    have f780 := f770.keep K773 nin0
    have f781 := C763.keep K773 nin0
    have f782 := L763.keep K773 nin0
    have f783 := P763.keep K773 nin0
    have f784 := Q763.keep K773 nin0
    have f785 := R763.keep K773 nin0
    have f786 := A763.keep K773
    have Z787 : n0 ≤ h773.size := Nat.le_trans Z771 K773.1
    refine Go.movp st773 (mkF m 247 #[.val (.int p0), .val (.long p1), .second, .val (.long p2), .second, .val (.long p3), .second, .val (.int (1 : Int32)), .val (.long (9223372036854775807 : Int64)), .second, .val (.long g0), .second, .val (.long g1), .second, .val (.long g2), .second, .val (.ref b735), .val (.long g0), .second, .val (.ref b743), .val (.ref t763)] [(.long (bitsV (1 : Int64) r.toInt32 (qsum (addB g0 (List.replicate 63 (0 : Int64))) r r (63 - r)) (qsum (addB g0 (List.replicate 63 (0 : Int64))) (r + 1) (r + 1) (63 - (r + 1))) (qsum (addB g0 (List.replicate 63 (0 : Int64))) (r + 2) (r + 2) (63 - (r + 2)))))]) rfl ?_
    refine g_aload X773 hx (hb hby at_247) (pc' := 249) rfl rfl rfl ?_
    obtain ⟨v788, T788, h788, L788, X788, e788, N788, q788, st788⟩ := h_static X773 hx (W := 2) (Ls := #[.val (.int p0), .val (.long p1), .second, .val (.long p2), .second, .val (.long p3), .second, .val (.int (1 : Int32)), .val (.long (9223372036854775807 : Int64)), .second, .val (.long g0), .second, .val (.long g1), .second, .val (.long g2), .second, .val (.ref b735), .val (.long g0), .second, .val (.ref b743), .val (.ref t763)]) (argsL := [(.ref b735)]) (rest := [(.long (bitsV (1 : Int64) r.toInt32 (qsum (addB g0 (List.replicate 63 (0 : Int64))) r r (63 - r)) (qsum (addB g0 (List.replicate 63 (0 : Int64))) (r + 1) (r + 1) (63 - (r + 1))) (qsum (addB g0 (List.replicate 63 (0 : Int64))) (r + 2) (r + 2) (63 - (r + 2)))))]) hZ e773 N773 hml hown (rm13_1 l Z a0 hw b735 g0 h773 n0 Z787 f775) (hw _ (List.mem_of_getElem? (i := 79) rfl)) (hw _ (List.mem_of_getElem? (i := 80) rfl)) (hw _ (List.mem_of_getElem? (i := 81) rfl)) (hw _ (List.mem_of_getElem? (i := 82) rfl)) (by decide) pd___J_J rfl rfl (hb hby at_249) rfl (by decide) (by decide) (by decide) (by decide)
    obtain ⟨rfl, K788⟩ := q788
    have f789 := f774.keep K788
    have f790 := f775.keep K788 nin0
    have f791 := f776.keep K788
    have f792 := f777.keep K788 nin0
    have f793 := f778.keep K788 nin0
    have f794 := f779.keep K788 nin0
    have f795 := f780.keep K788 nin0
    have f796 := f781.keep K788 nin0
    have f797 := f782.keep K788 nin0
    have f798 := f783.keep K788 nin0
    have f799 := f784.keep K788 nin0
    have f800 := f785.keep K788 nin0
    have f801 := f786.keep K788
    have Z802 : n0 ≤ h788.size := Nat.le_trans Z787 K788.1
    refine Go.movp st788 (mkF m 252 #[.val (.int p0), .val (.long p1), .second, .val (.long p2), .second, .val (.long p3), .second, .val (.int (1 : Int32)), .val (.long (9223372036854775807 : Int64)), .second, .val (.long g0), .second, .val (.long g1), .second, .val (.long g2), .second, .val (.ref b735), .val (.long g0), .second, .val (.ref b743), .val (.ref t763)] [(.long (bitsV (1 : Int64) (lowV (1 : Int64) g0) (lushr g0 (lowV (1 : Int64) g0)) (lushr g0 ((lowV (1 : Int64) g0) + (1 : Int32))) (lushr g0 ((lowV (1 : Int64) g0) + (2 : Int32))))), (.long (bitsV (1 : Int64) r.toInt32 (qsum (addB g0 (List.replicate 63 (0 : Int64))) r r (63 - r)) (qsum (addB g0 (List.replicate 63 (0 : Int64))) (r + 1) (r + 1) (63 - (r + 1))) (qsum (addB g0 (List.replicate 63 (0 : Int64))) (r + 2) (r + 2) (63 - (r + 2)))))]) rfl ?_
    refine g_lcmp_ne X788 hx (hb hby at_252) (pc' := 253) rfl (hb hby at_253) (pc1 := 256) rfl (by decide) (pc2 := 273) (by decide) (fun hc252 => absurd (own_bitsL elo.symm (by rw [elo]; exact (own_q1 k0 (r := r) (by omega))) (by rw [elo, t32_succ (by omega)]; exact (own_q1 k0 (r := r + 1) (by omega))) (by rw [elo, t32_two (by omega)]; exact (own_q1 k0 (r := r + 2) (by omega)))) hc252) (fun hc252 => ?_)
    refine g_aload X788 hx (hb hby at_256) (pc' := 258) rfl rfl rfl ?_
    obtain ⟨v803, T803, h803, L803, X803, e803, N803, q803, st803⟩ := h_virtual (a := t763) (z := (⟨"com/example/stratasig/stratasig/index/GapCoding$Tally", "parameter", "()I"⟩ : MethodName)) X788 hx (W := 0) (Ls := #[.val (.int p0), .val (.long p1), .second, .val (.long p2), .second, .val (.long p3), .second, .val (.int (1 : Int32)), .val (.long (9223372036854775807 : Int64)), .second, .val (.long g0), .second, .val (.long g1), .second, .val (.long g2), .second, .val (.ref b735), .val (.long g0), .second, .val (.ref b743), .val (.ref t763)]) (argsL := []) (rest := []) hZ e788 N788 hml hown (rm17 l Z a0 hw t763 (1 : Int64) r.toInt32 (qsum (addB g0 (List.replicate 63 (0 : Int64))) r r (63 - r)) (qsum (addB g0 (List.replicate 63 (0 : Int64))) (r + 1) (r + 1) (63 - (r + 1))) (qsum (addB g0 (List.replicate 63 (0 : Int64))) (r + 2) (r + 2) (63 - (r + 2))) h788 n0 Z802 f796 f797 f798 f799 f800 f801) f801 (hw _ (List.mem_of_getElem? (i := 97) rfl)) (hw _ (List.mem_of_getElem? (i := 98) rfl)) (notFace_of_selects (args := #[]) (mvT hZ (hw _ (List.mem_of_getElem? (i := 100) rfl)))) (hw _ (List.mem_of_getElem? (i := 100) rfl)) (hw _ (List.mem_of_getElem? (i := 99) rfl)) (hw _ (List.mem_of_getElem? (i := 20) rfl)) (hw _ (List.mem_of_getElem? (i := 101) rfl)) (by decide) pd___I rfl rfl (hb hby at_258) rfl (by decide) (by decide) (by decide) (by decide)
    obtain ⟨rfl, K803⟩ := q803
    have f804 := f789.keep K803
    have f805 := f790.keep K803 nin0
    have f806 := f791.keep K803
    have f807 := f792.keep K803 nin0
    have f808 := f793.keep K803 nin0
    have f809 := f794.keep K803 nin0
    have f810 := f795.keep K803 nin0
    have f811 := f796.keep K803 nin0
    have f812 := f797.keep K803 nin0
    have f813 := f798.keep K803 nin0
    have f814 := f799.keep K803 nin0
    have f815 := f800.keep K803 nin0
    have f816 := f801.keep K803
    have Z817 : n0 ≤ h803.size := Nat.le_trans Z802 K803.1
    refine Go.movp st803 (mkF m 261 #[.val (.int p0), .val (.long p1), .second, .val (.long p2), .second, .val (.long p3), .second, .val (.int (1 : Int32)), .val (.long (9223372036854775807 : Int64)), .second, .val (.long g0), .second, .val (.long g1), .second, .val (.long g2), .second, .val (.ref b735), .val (.long g0), .second, .val (.ref b743), .val (.ref t763)] [(.int (r.toInt32 + (bestV (1 : Int64) (qsum (addB g0 (List.replicate 63 (0 : Int64))) r r (63 - r)) (qsum (addB g0 (List.replicate 63 (0 : Int64))) (r + 1) (r + 1) (63 - (r + 1))) (qsum (addB g0 (List.replicate 63 (0 : Int64))) (r + 2) (r + 2) (63 - (r + 2))))))]) rfl ?_
    refine g_aload X803 hx (hb hby at_261) (pc' := 263) rfl rfl rfl ?_
    obtain ⟨v818, T818, h818, L818, X818, e818, N818, q818, st818⟩ := h_static X803 hx (W := 1) (Ls := #[.val (.int p0), .val (.long p1), .second, .val (.long p2), .second, .val (.long p3), .second, .val (.int (1 : Int32)), .val (.long (9223372036854775807 : Int64)), .second, .val (.long g0), .second, .val (.long g1), .second, .val (.long g2), .second, .val (.ref b735), .val (.long g0), .second, .val (.ref b743), .val (.ref t763)]) (argsL := [(.ref b735)]) (rest := [(.int (r.toInt32 + (bestV (1 : Int64) (qsum (addB g0 (List.replicate 63 (0 : Int64))) r r (63 - r)) (qsum (addB g0 (List.replicate 63 (0 : Int64))) (r + 1) (r + 1) (63 - (r + 1))) (qsum (addB g0 (List.replicate 63 (0 : Int64))) (r + 2) (r + 2) (63 - (r + 2))))))]) hZ e803 N803 hml hown (rm18_1 l Z a0 hw b735 g0 h803 n0 Z817 f805) (hw _ (List.mem_of_getElem? (i := 102) rfl)) (hw _ (List.mem_of_getElem? (i := 103) rfl)) (hw _ (List.mem_of_getElem? (i := 81) rfl)) (hw _ (List.mem_of_getElem? (i := 104) rfl)) (by decide) pd___J_I rfl rfl (hb hby at_263) rfl (by decide) (by decide) (by decide) (by decide)
    obtain ⟨rfl, K818⟩ := q818
    have f819 := f804.keep K818
    have f820 := f805.keep K818 nin0
    have f821 := f806.keep K818
    have f822 := f807.keep K818 nin0
    have f823 := f808.keep K818 nin0
    have f824 := f809.keep K818 nin0
    have f825 := f810.keep K818 nin0
    have f826 := f811.keep K818 nin0
    have f827 := f812.keep K818 nin0
    have f828 := f813.keep K818 nin0
    have f829 := f814.keep K818 nin0
    have f830 := f815.keep K818 nin0
    have f831 := f816.keep K818
    have Z832 : n0 ≤ h818.size := Nat.le_trans Z817 K818.1
    refine Go.movp st818 (mkF m 266 #[.val (.int p0), .val (.long p1), .second, .val (.long p2), .second, .val (.long p3), .second, .val (.int (1 : Int32)), .val (.long (9223372036854775807 : Int64)), .second, .val (.long g0), .second, .val (.long g1), .second, .val (.long g2), .second, .val (.ref b735), .val (.long g0), .second, .val (.ref b743), .val (.ref t763)] [(.int ((lowV (1 : Int64) g0) + bestV (1 : Int64) (lushr g0 (lowV (1 : Int64) g0)) (lushr g0 ((lowV (1 : Int64) g0) + (1 : Int32))) (lushr g0 ((lowV (1 : Int64) g0) + (2 : Int32))))), (.int (r.toInt32 + (bestV (1 : Int64) (qsum (addB g0 (List.replicate 63 (0 : Int64))) r r (63 - r)) (qsum (addB g0 (List.replicate 63 (0 : Int64))) (r + 1) (r + 1) (63 - (r + 1))) (qsum (addB g0 (List.replicate 63 (0 : Int64))) (r + 2) (r + 2) (63 - (r + 2))))))]) rfl ?_
    refine g_icmp_ne X818 hx (hb hby at_266) (pc1 := 269) rfl (by decide) (pc2 := 273) (by decide) (fun hc266 => absurd (own_parL elo.symm (by rw [elo]; exact (own_q1 k0 (r := r) (by omega))) (by rw [elo, t32_succ (by omega)]; exact (own_q1 k0 (r := r + 1) (by omega))) (by rw [elo, t32_two (by omega)]; exact (own_q1 k0 (r := r + 2) (by omega)))) hc266) (fun hc266 => ?_)
    refine g_iconst X818 hx (hb hby at_269) (pc' := 270) rfl (z := (1 : Int32)) rfl ?_
    refine g_goto X818 hx (hb hby at_270) (by decide) (pc' := 274) (by decide) ?_
    exact g_zreturn X818 hx rfl hret (hb hby at_274) N818 hlk (fun v t => endF (by decide) (by decide) v) (by rw [e818]; exact rfl)
  · skip
    refine Go.cast (show (mkF m 3 #[.val (.int p0), .val (.long p1), .second, .val (.long p2), .second, .val (.long p3), .second, .unset, .unset, .unset, .unset, .unset, .unset, .unset, .unset, .unset, .unset, .unset, .unset, .unset, .unset] [(.int (p0 &&& (3 : Int32)))]) = (mkF m 3 #[.val (.int p0), .val (.long p1), .second, .val (.long p2), .second, .val (.long p3), .second, .unset, .unset, .unset, .unset, .unset, .unset, .unset, .unset, .unset, .unset, .unset, .unset, .unset, .unset] [(.int (2 : Int32))]) from by rw [show (p0 &&& (3 : Int32)) = (2 : Int32) from qn]) ?_
    refine g_istore X0 hx (hb hby at_3) (pc' := 5) rfl (Ls' := #[.val (.int p0), .val (.long p1), .second, .val (.long p2), .second, .val (.long p3), .second, .val (.int (2 : Int32)), .unset, .unset, .unset, .unset, .unset, .unset, .unset, .unset, .unset, .unset, .unset, .unset, .unset]) rfl ?_
    refine g_iload X0 hx (hb hby at_5) (pc' := 7) rfl rfl ?_
    refine g_iconst X0 hx (hb hby at_7) (pc' := 8) rfl (z := (1 : Int32)) rfl ?_
    refine g_icmp_ne X0 hx (hb hby at_8) (pc1 := 11) rfl (by decide) (pc2 := 17) (by decide) (fun hc8 => ?_) (fun hc8 => absurd hc8 (by decide))
    refine g_iload X0 hx (hb hby at_17) (pc' := 19) rfl rfl ?_
    refine g_iconst X0 hx (hb hby at_19) (pc' := 20) rfl (z := (2 : Int32)) rfl ?_
    refine g_icmp_ne X0 hx (hb hby at_20) (pc1 := 23) rfl (by decide) (pc2 := 29) (by decide) (fun hc20 => absurd (by decide) hc20) (fun hc20 => ?_)
    refine g_ldc2_w X0 hx hZ hown (hw _ (List.mem_of_getElem? (i := 119) rfl)) (hb hby at_23) (pc' := 26) rfl ?_
    refine g_goto X0 hx (hb hby at_26) (by decide) (pc' := 32) (by decide) ?_
    refine g_lstore X0 hx (hb hby at_32) (pc' := 34) rfl (Ls' := #[.val (.int p0), .val (.long p1), .second, .val (.long p2), .second, .val (.long p3), .second, .val (.int (2 : Int32)), .val (.long (4611686018427387903 : Int64)), .second, .unset, .unset, .unset, .unset, .unset, .unset, .unset, .unset, .unset, .unset, .unset]) rfl ?_
    refine g_lloadN X0 hx (hb hby at_34) (pc' := 35) rfl rfl ?_
    refine g_lload X0 hx (hb hby at_35) (pc' := 37) rfl rfl ?_
    refine g_land X0 hx (hb hby at_37) (pc' := 38) rfl ?_
    refine g_iloadN X0 hx (hb hby at_38) (pc' := 39) rfl rfl ?_
    refine g_iconst X0 hx (hb hby at_39) (pc' := 40) rfl (z := (2 : Int32)) rfl ?_
    refine g_iushr X0 hx (hb hby at_40) (pc' := 41) rfl ?_
    refine g_bipush X0 hx (hb hby at_41) (pc' := 43) rfl (z := (63 : Int32)) rfl ?_
    refine g_iand X0 hx (hb hby at_43) (pc' := 44) rfl ?_
    refine g_lushr X0 hx (hb hby at_44) (pc' := 45) rfl ?_
    obtain ⟨g0, eg0⟩ : ∃ z : Int64, z = (lushr (p1 &&& (4611686018427387903 : Int64)) ((ushr p0 (2 : Int32)) &&& (63 : Int32))) := ⟨_, rfl⟩
    refine Go.cast (show (mkF m 45 #[.val (.int p0), .val (.long p1), .second, .val (.long p2), .second, .val (.long p3), .second, .val (.int (2 : Int32)), .val (.long (4611686018427387903 : Int64)), .second, .unset, .unset, .unset, .unset, .unset, .unset, .unset, .unset, .unset, .unset, .unset] [(.long (lushr (p1 &&& (4611686018427387903 : Int64)) ((ushr p0 (2 : Int32)) &&& (63 : Int32))))]) = (mkF m 45 #[.val (.int p0), .val (.long p1), .second, .val (.long p2), .second, .val (.long p3), .second, .val (.int (2 : Int32)), .val (.long (4611686018427387903 : Int64)), .second, .unset, .unset, .unset, .unset, .unset, .unset, .unset, .unset, .unset, .unset, .unset] [(.long g0)]) from by rw [eg0]) ?_
    have m0 : g0.toBitVec.toNat ≤ 4611686018427387903 := by rw [eg0]; exact own_g _ _ _
    have k0 : Pos g0 := pos_of m0 (by decide)
    refine g_lstore X0 hx (hb hby at_45) (pc' := 47) rfl (Ls' := #[.val (.int p0), .val (.long p1), .second, .val (.long p2), .second, .val (.long p3), .second, .val (.int (2 : Int32)), .val (.long (4611686018427387903 : Int64)), .second, .val (.long g0), .second, .unset, .unset, .unset, .unset, .unset, .unset, .unset, .unset, .unset]) rfl ?_
    refine g_lloadN X0 hx (hb hby at_47) (pc' := 48) rfl rfl ?_
    refine g_lload X0 hx (hb hby at_48) (pc' := 50) rfl rfl ?_
    refine g_land X0 hx (hb hby at_50) (pc' := 51) rfl ?_
    refine g_iloadN X0 hx (hb hby at_51) (pc' := 52) rfl rfl ?_
    refine g_bipush X0 hx (hb hby at_52) (pc' := 54) rfl (z := (8 : Int32)) rfl ?_
    refine g_iushr X0 hx (hb hby at_54) (pc' := 55) rfl ?_
    refine g_bipush X0 hx (hb hby at_55) (pc' := 57) rfl (z := (63 : Int32)) rfl ?_
    refine g_iand X0 hx (hb hby at_57) (pc' := 58) rfl ?_
    refine g_lushr X0 hx (hb hby at_58) (pc' := 59) rfl ?_
    obtain ⟨g1, eg1⟩ : ∃ z : Int64, z = (lushr (p2 &&& (4611686018427387903 : Int64)) ((ushr p0 (8 : Int32)) &&& (63 : Int32))) := ⟨_, rfl⟩
    refine Go.cast (show (mkF m 59 #[.val (.int p0), .val (.long p1), .second, .val (.long p2), .second, .val (.long p3), .second, .val (.int (2 : Int32)), .val (.long (4611686018427387903 : Int64)), .second, .val (.long g0), .second, .unset, .unset, .unset, .unset, .unset, .unset, .unset, .unset, .unset] [(.long (lushr (p2 &&& (4611686018427387903 : Int64)) ((ushr p0 (8 : Int32)) &&& (63 : Int32))))]) = (mkF m 59 #[.val (.int p0), .val (.long p1), .second, .val (.long p2), .second, .val (.long p3), .second, .val (.int (2 : Int32)), .val (.long (4611686018427387903 : Int64)), .second, .val (.long g0), .second, .unset, .unset, .unset, .unset, .unset, .unset, .unset, .unset, .unset] [(.long g1)]) from by rw [eg1]) ?_
    have m1 : g1.toBitVec.toNat ≤ 4611686018427387903 := by rw [eg1]; exact own_g _ _ _
    have k1 : Pos g1 := pos_of m1 (by decide)
    refine g_lstore X0 hx (hb hby at_59) (pc' := 61) rfl (Ls' := #[.val (.int p0), .val (.long p1), .second, .val (.long p2), .second, .val (.long p3), .second, .val (.int (2 : Int32)), .val (.long (4611686018427387903 : Int64)), .second, .val (.long g0), .second, .val (.long g1), .second, .unset, .unset, .unset, .unset, .unset, .unset, .unset]) rfl ?_
    refine g_lload X0 hx (hb hby at_61) (pc' := 63) rfl rfl ?_
    refine g_lload X0 hx (hb hby at_63) (pc' := 65) rfl rfl ?_
    refine g_land X0 hx (hb hby at_65) (pc' := 66) rfl ?_
    refine g_iloadN X0 hx (hb hby at_66) (pc' := 67) rfl rfl ?_
    refine g_bipush X0 hx (hb hby at_67) (pc' := 69) rfl (z := (14 : Int32)) rfl ?_
    refine g_iushr X0 hx (hb hby at_69) (pc' := 70) rfl ?_
    refine g_bipush X0 hx (hb hby at_70) (pc' := 72) rfl (z := (63 : Int32)) rfl ?_
    refine g_iand X0 hx (hb hby at_72) (pc' := 73) rfl ?_
    refine g_lushr X0 hx (hb hby at_73) (pc' := 74) rfl ?_
    obtain ⟨g2, eg2⟩ : ∃ z : Int64, z = (lushr (p3 &&& (4611686018427387903 : Int64)) ((ushr p0 (14 : Int32)) &&& (63 : Int32))) := ⟨_, rfl⟩
    refine Go.cast (show (mkF m 74 #[.val (.int p0), .val (.long p1), .second, .val (.long p2), .second, .val (.long p3), .second, .val (.int (2 : Int32)), .val (.long (4611686018427387903 : Int64)), .second, .val (.long g0), .second, .val (.long g1), .second, .unset, .unset, .unset, .unset, .unset, .unset, .unset] [(.long (lushr (p3 &&& (4611686018427387903 : Int64)) ((ushr p0 (14 : Int32)) &&& (63 : Int32))))]) = (mkF m 74 #[.val (.int p0), .val (.long p1), .second, .val (.long p2), .second, .val (.long p3), .second, .val (.int (2 : Int32)), .val (.long (4611686018427387903 : Int64)), .second, .val (.long g0), .second, .val (.long g1), .second, .unset, .unset, .unset, .unset, .unset, .unset, .unset] [(.long g2)]) from by rw [eg2]) ?_
    have m2 : g2.toBitVec.toNat ≤ 4611686018427387903 := by rw [eg2]; exact own_g _ _ _
    have k2 : Pos g2 := pos_of m2 (by decide)
    refine g_lstore X0 hx (hb hby at_74) (pc' := 76) rfl (Ls' := #[.val (.int p0), .val (.long p1), .second, .val (.long p2), .second, .val (.long p3), .second, .val (.int (2 : Int32)), .val (.long (4611686018427387903 : Int64)), .second, .val (.long g0), .second, .val (.long g1), .second, .val (.long g2), .second, .unset, .unset, .unset, .unset, .unset]) rfl ?_
    refine g_iload X0 hx (hb hby at_76) (pc' := 78) rfl rfl ?_
    refine g_if_ne X0 hx (hb hby at_78) (pc1 := 81) rfl (by decide) (pc2 := 92) (by decide) (fun hc78 => ?_) (fun hc78 => absurd hc78 (by decide))
    refine g_iload X0 hx (hb hby at_92) (pc' := 94) rfl rfl ?_
    refine g_iconst X0 hx (hb hby at_94) (pc' := 95) rfl (z := (1 : Int32)) rfl ?_
    refine g_icmp_ne X0 hx (hb hby at_95) (pc1 := 98) rfl (by decide) (pc2 := 115) (by decide) (fun hc95 => ?_) (fun hc95 => absurd hc95 (by decide))
    refine g_iload X0 hx (hb hby at_115) (pc' := 117) rfl rfl ?_
    refine g_iconst X0 hx (hb hby at_117) (pc' := 118) rfl (z := (2 : Int32)) rfl ?_
    refine g_icmp_ne X0 hx (hb hby at_118) (pc1 := 121) rfl (by decide) (pc2 := 146) (by decide) (fun hc118 => absurd (by decide) hc118) (fun hc118 => ?_)
    refine g_iconst X0 hx (hb hby at_121) (pc' := 122) rfl (z := (2 : Int32)) rfl ?_
    obtain ⟨T833, h833, b833, X833, e833, g833, E833, V833, A833, st833⟩ := h_newarray X0 hx hZ e0 (n := (2 : Int32)) (ty := .long) rfl (hw _ (List.mem_of_getElem? (i := 1) rfl)) (hb hby at_122) (k := 2) (cap := 2) (by decide) rfl (by decide) (by decide) (by decide) (by decide) (ad := "[J") (by decide) #[.val (.int p0), .val (.long p1), .second, .val (.long p2), .second, .val (.long p3), .second, .val (.int (2 : Int32)), .val (.long (4611686018427387903 : Int64)), .second, .val (.long g0), .second, .val (.long g1), .second, .val (.long g2), .second, .unset, .unset, .unset, .unset, .unset] []
    have ge834 : n0 ≤ b833 := g833 ▸ Z0
    have Z835 : n0 ≤ h833.size := Nat.le_trans Z0 E833.1
    have f836 : Va Z h833 b833 .long [(.long (0 : Int64)), (.long (0 : Int64))] := V833
    refine Go.movp st833 (mkF m 124 #[.val (.int p0), .val (.long p1), .second, .val (.long p2), .second, .val (.long p3), .second, .val (.int (2 : Int32)), .val (.long (4611686018427387903 : Int64)), .second, .val (.long g0), .second, .val (.long g1), .second, .val (.long g2), .second, .unset, .unset, .unset, .unset, .unset] [(.ref b833)]) rfl ?_
    refine g_dup X833 hx (hb hby at_124) (pc' := 125) rfl rfl ?_
    refine g_iconst X833 hx (hb hby at_125) (pc' := 126) rfl (z := (0 : Int32)) rfl ?_
    refine g_lload X833 hx (hb hby at_126) (pc' := 128) rfl rfl ?_
    obtain ⟨T837, h837, L837, X837, e837, N837, W837, V837, st837⟩ := h_lastore X833 hx hZ e833 N0 f836 ge834 (j := (0 : Int32)) (i := 0) (x := g0) (hb hby at_128) (by decide) rfl rfl #[.val (.int p0), .val (.long p1), .second, .val (.long p2), .second, .val (.long p3), .second, .val (.int (2 : Int32)), .val (.long (4611686018427387903 : Int64)), .second, .val (.long g0), .second, .val (.long g1), .second, .val (.long g2), .second, .unset, .unset, .unset, .unset, .unset] [(.ref b833)]
    have f838 := Exa.wr W837 A833
    have Z839 : n0 ≤ h837.size := Nat.le_trans Z835 (Keep.of_wr W837).1
    have f840 : Va Z h837 b833 .long [(.long g0), (.long (0 : Int64))] := V837
    refine Go.movp st837 (mkF m 129 #[.val (.int p0), .val (.long p1), .second, .val (.long p2), .second, .val (.long p3), .second, .val (.int (2 : Int32)), .val (.long (4611686018427387903 : Int64)), .second, .val (.long g0), .second, .val (.long g1), .second, .val (.long g2), .second, .unset, .unset, .unset, .unset, .unset] [(.ref b833)]) rfl ?_
    refine g_dup X837 hx (hb hby at_129) (pc' := 130) rfl rfl ?_
    refine g_iconst X837 hx (hb hby at_130) (pc' := 131) rfl (z := (1 : Int32)) rfl ?_
    refine g_lload X837 hx (hb hby at_131) (pc' := 133) rfl rfl ?_
    obtain ⟨T841, h841, L841, X841, e841, N841, W841, V841, st841⟩ := h_lastore X837 hx hZ e837 N837 f840 ge834 (j := (1 : Int32)) (i := 1) (x := g1) (hb hby at_133) (by decide) rfl rfl #[.val (.int p0), .val (.long p1), .second, .val (.long p2), .second, .val (.long p3), .second, .val (.int (2 : Int32)), .val (.long (4611686018427387903 : Int64)), .second, .val (.long g0), .second, .val (.long g1), .second, .val (.long g2), .second, .unset, .unset, .unset, .unset, .unset] [(.ref b833)]
    have f842 := Exa.wr W841 f838
    have Z843 : n0 ≤ h841.size := Nat.le_trans Z839 (Keep.of_wr W841).1
    have f844 : Va Z h841 b833 .long [(.long g0), (.long g1)] := V841
    refine Go.movp st841 (mkF m 134 #[.val (.int p0), .val (.long p1), .second, .val (.long p2), .second, .val (.long p3), .second, .val (.int (2 : Int32)), .val (.long (4611686018427387903 : Int64)), .second, .val (.long g0), .second, .val (.long g1), .second, .val (.long g2), .second, .unset, .unset, .unset, .unset, .unset] [(.ref b833)]) rfl ?_
    refine g_astore X841 hx (hb hby at_134) (pc' := 136) rfl rfl (Ls' := #[.val (.int p0), .val (.long p1), .second, .val (.long p2), .second, .val (.long p3), .second, .val (.int (2 : Int32)), .val (.long (4611686018427387903 : Int64)), .second, .val (.long g0), .second, .val (.long g1), .second, .val (.long g2), .second, .val (.ref b833), .unset, .unset, .unset, .unset]) rfl ?_
    refine g_lload X841 hx (hb hby at_136) (pc' := 138) rfl rfl ?_
    refine g_lload X841 hx (hb hby at_138) (pc' := 140) rfl rfl ?_
    refine g_ladd X841 hx (hb hby at_140) (pc' := 141) rfl ?_
    refine g_lstore X841 hx (hb hby at_141) (pc' := 143) rfl (Ls' := #[.val (.int p0), .val (.long p1), .second, .val (.long p2), .second, .val (.long p3), .second, .val (.int (2 : Int32)), .val (.long (4611686018427387903 : Int64)), .second, .val (.long g0), .second, .val (.long g1), .second, .val (.long g2), .second, .val (.ref b833), .val (.long (g0 + g1)), .second, .unset, .unset]) rfl ?_
    refine g_goto X841 hx (hb hby at_143) (by decide) (pc' := 176) (by decide) ?_
    obtain ⟨T845, h845, X845, e845, E845, A845, D845, -, st845⟩ := newO X841 hx hZ hown (hw _ (List.mem_of_getElem? (i := 2) rfl)) (hw _ (List.mem_of_getElem? (i := 3) rfl)) (hw _ (List.mem_of_getElem? (i := 4) rfl)) e841 (g := (mkF m 176 #[.val (.int p0), .val (.long p1), .second, .val (.long p2), .second, .val (.long p3), .second, .val (.int (2 : Int32)), .val (.long (4611686018427387903 : Int64)), .second, .val (.long g0), .second, .val (.long g1), .second, .val (.long g2), .second, .val (.ref b833), .val (.long (g0 + g1)), .second, .unset, .unset] [])) rfl (hb hby at_176) (by decide) (by decide)
    obtain ⟨b845, g845⟩ : ∃ z, z = h841.size := ⟨_, rfl⟩
    rw [← g845] at A845 D845 st845
    have ne846 : b833 ≠ b845 := Nat.ne_of_lt (g845 ▸ f842.lt)
    have ge847 : n0 ≤ b845 := g845 ▸ Z843
    have f848 := Exa.ext E845 f842
    have f849 := f844.ext E845
    have Z850 : n0 ≤ h845.size := Nat.le_trans Z843 E845.1
    have f851 : Fld Z h845 b845 "com/example/stratasig/stratasig/index/GapCoding$Counts" "setBits" "[J" .null := D845 (Or.inr (hw _ (List.mem_of_getElem? (i := 12) rfl))) (ty := (.array .long)) (by decide)
    have f852 : Fld Z h845 b845 "com/example/stratasig/stratasig/index/GapCoding$Counts" "count" "J" (.long (0 : Int64)) := D845 (Or.inl (hw _ (List.mem_of_getElem? (i := 22) rfl))) (ty := .long) (by decide)
    have f853 : Fld Z h845 b845 "com/example/stratasig/stratasig/index/GapCoding$Counts" "sum" "J" (.long (0 : Int64)) := D845 (Or.inl (hw _ (List.mem_of_getElem? (i := 24) rfl))) (ty := .long) (by decide)
    refine Go.movp st845 (mkF m 179 #[.val (.int p0), .val (.long p1), .second, .val (.long p2), .second, .val (.long p3), .second, .val (.int (2 : Int32)), .val (.long (4611686018427387903 : Int64)), .second, .val (.long g0), .second, .val (.long g1), .second, .val (.long g2), .second, .val (.ref b833), .val (.long (g0 + g1)), .second, .unset, .unset] [(.ref b845)]) rfl ?_
    refine g_dup X845 hx (hb hby at_179) (pc' := 180) rfl rfl ?_
    obtain ⟨v854, T854, h854, L854, X854, e854, N854, q854, st854⟩ := h_special (a := b845) X845 hx (W := 1) (Ls := #[.val (.int p0), .val (.long p1), .second, .val (.long p2), .second, .val (.long p3), .second, .val (.int (2 : Int32)), .val (.long (4611686018427387903 : Int64)), .second, .val (.long g0), .second, .val (.long g1), .second, .val (.long g2), .second, .val (.ref b833), .val (.long (g0 + g1)), .second, .unset, .unset]) (argsL := []) (rest := [(.ref b845)]) hZ e845 N841 hml hown rfl (rm1 l Z a0 hw b845 h845 n0 Z850 f852 f853 f851 A845 ge847) (hw _ (List.mem_of_getElem? (i := 5) rfl)) (hw _ (List.mem_of_getElem? (i := 6) rfl)) (hw _ (List.mem_of_getElem? (i := 4) rfl)) (hw _ (List.mem_of_getElem? (i := 7) rfl)) (by decide) pd___V rfl rfl (hb hby at_180) rfl (by decide) (by decide) (by decide) (by decide)
    obtain ⟨sb854, rfl, ge854, ne854, sz854, K854, A854, C854, S854, B854, V854⟩ := q854
    have f855 := f848.keep K854
    have f856 := f849.keep K854 (ninS ne846 nin0)
    have f857 := A845.keep K854
    have Z858 : n0 ≤ h854.size := Nat.le_trans Z850 K854.1
    refine Go.movp st854 (mkF m 183 #[.val (.int p0), .val (.long p1), .second, .val (.long p2), .second, .val (.long p3), .second, .val (.int (2 : Int32)), .val (.long (4611686018427387903 : Int64)), .second, .val (.long g0), .second, .val (.long g1), .second, .val (.long g2), .second, .val (.ref b833), .val (.long (g0 + g1)), .second, .unset, .unset] [(.ref b845)]) rfl ?_
    have ne859 : b833 ≠ sb854 := Nat.ne_of_lt (Nat.lt_of_lt_of_le f849.lt sz854)
    refine g_astore X854 hx (hb hby at_183) (pc' := 185) rfl rfl (Ls' := #[.val (.int p0), .val (.long p1), .second, .val (.long p2), .second, .val (.long p3), .second, .val (.int (2 : Int32)), .val (.long (4611686018427387903 : Int64)), .second, .val (.long g0), .second, .val (.long g1), .second, .val (.long g2), .second, .val (.ref b833), .val (.long (g0 + g1)), .second, .val (.ref b845), .unset]) rfl ?_
    refine g_iload X854 hx (hb hby at_185) (pc' := 187) rfl rfl ?_
    refine g_iconst X854 hx (hb hby at_187) (pc' := 188) rfl (z := (1 : Int32)) rfl ?_
    refine g_icmp_lt X854 hx (hb hby at_188) (pc1 := 191) rfl (by decide) (pc2 := 198) (by decide) (fun hc188 => absurd hc188 (by decide)) (fun hc188 => ?_)
    refine g_aload X854 hx (hb hby at_191) (pc' := 193) rfl rfl rfl ?_
    refine g_lload X854 hx (hb hby at_193) (pc' := 195) rfl rfl ?_
    obtain ⟨v860, T860, h860, L860, X860, e860, N860, q860, st860⟩ := h_virtual (a := b845) (z := (⟨"com/example/stratasig/stratasig/index/GapCoding$Counts", "add", "(J)V"⟩ : MethodName)) X854 hx (W := 0) (Ls := #[.val (.int p0), .val (.long p1), .second, .val (.long p2), .second, .val (.long p3), .second, .val (.int (2 : Int32)), .val (.long (4611686018427387903 : Int64)), .second, .val (.long g0), .second, .val (.long g1), .second, .val (.long g2), .second, .val (.ref b833), .val (.long (g0 + g1)), .second, .val (.ref b845), .unset]) (argsL := [(.long g0)]) (rest := []) hZ e854 N854 hml hown (rm19 l Z a0 hw b845 sb854 (0 : Int64) (1 : Int64) (0 : Int64) g0 (List.replicate 63 (0 : Int64)) g0 h854 n0 Z858 C854 S854 B854 V854 A854 ge847 ge854 ne854 (by simp [addB_len]) k0 (by decide) (Int64.zero_add _)) A854 (hw _ (List.mem_of_getElem? (i := 106) rfl)) (hw _ (List.mem_of_getElem? (i := 107) rfl)) (notFace_of_selects (args := #[]) (mvT hZ (hw _ (List.mem_of_getElem? (i := 109) rfl)))) (hw _ (List.mem_of_getElem? (i := 109) rfl)) (hw _ (List.mem_of_getElem? (i := 108) rfl)) (hw _ (List.mem_of_getElem? (i := 4) rfl)) (hw _ (List.mem_of_getElem? (i := 110) rfl)) (by decide) pd__J_V rfl rfl (hb hby at_195) rfl (by decide) (by decide) (by decide) (by decide)
    obtain ⟨rfl, K860, A860, C860, S860, B860, V860⟩ := q860
    have f861 := f855.keep K860
    have f862 := f856.keep K860 (ninS ne846 (ninS ne859 nin0))
    have f863 := A854.keep K860
    have Z864 : n0 ≤ h860.size := Nat.le_trans Z858 K860.1
    refine Go.movp st860 (mkF m 198 #[.val (.int p0), .val (.long p1), .second, .val (.long p2), .second, .val (.long p3), .second, .val (.int (2 : Int32)), .val (.long (4611686018427387903 : Int64)), .second, .val (.long g0), .second, .val (.long g1), .second, .val (.long g2), .second, .val (.ref b833), .val (.long (g0 + g1)), .second, .val (.ref b845), .unset] []) rfl ?_
    refine g_iload X860 hx (hb hby at_198) (pc' := 200) rfl rfl ?_
    refine g_iconst X860 hx (hb hby at_200) (pc' := 201) rfl (z := (2 : Int32)) rfl ?_
    refine g_icmp_lt X860 hx (hb hby at_201) (pc1 := 204) rfl (by decide) (pc2 := 211) (by decide) (fun hc201 => absurd hc201 (by decide)) (fun hc201 => ?_)
    refine g_aload X860 hx (hb hby at_204) (pc' := 206) rfl rfl rfl ?_
    refine g_lload X860 hx (hb hby at_206) (pc' := 208) rfl rfl ?_
    obtain ⟨v865, T865, h865, L865, X865, e865, N865, q865, st865⟩ := h_virtual (a := b845) (z := (⟨"com/example/stratasig/stratasig/index/GapCoding$Counts", "add", "(J)V"⟩ : MethodName)) X860 hx (W := 0) (Ls := #[.val (.int p0), .val (.long p1), .second, .val (.long p2), .second, .val (.long p3), .second, .val (.int (2 : Int32)), .val (.long (4611686018427387903 : Int64)), .second, .val (.long g0), .second, .val (.long g1), .second, .val (.long g2), .second, .val (.ref b833), .val (.long (g0 + g1)), .second, .val (.ref b845), .unset]) (argsL := [(.long g1)]) (rest := []) hZ e860 N860 hml hown (rm19 l Z a0 hw b845 sb854 (1 : Int64) (2 : Int64) g0 (g0 + g1) (addB g0 (List.replicate 63 (0 : Int64))) g1 h860 n0 Z864 C860 S860 B860 V860 A860 ge847 ge854 ne854 (by simp [addB_len]) k1 (by decide) rfl) A860 (hw _ (List.mem_of_getElem? (i := 106) rfl)) (hw _ (List.mem_of_getElem? (i := 107) rfl)) (notFace_of_selects (args := #[]) (mvT hZ (hw _ (List.mem_of_getElem? (i := 109) rfl)))) (hw _ (List.mem_of_getElem? (i := 109) rfl)) (hw _ (List.mem_of_getElem? (i := 108) rfl)) (hw _ (List.mem_of_getElem? (i := 4) rfl)) (hw _ (List.mem_of_getElem? (i := 110) rfl)) (by decide) pd__J_V rfl rfl (hb hby at_208) rfl (by decide) (by decide) (by decide) (by decide)
    obtain ⟨rfl, K865, A865, C865, S865, B865, V865⟩ := q865
    have f866 := f861.keep K865
    have f867 := f862.keep K865 (ninS ne846 (ninS ne859 nin0))
    have f868 := A860.keep K865
    have Z869 : n0 ≤ h865.size := Nat.le_trans Z864 K865.1
    refine Go.movp st865 (mkF m 211 #[.val (.int p0), .val (.long p1), .second, .val (.long p2), .second, .val (.long p3), .second, .val (.int (2 : Int32)), .val (.long (4611686018427387903 : Int64)), .second, .val (.long g0), .second, .val (.long g1), .second, .val (.long g2), .second, .val (.ref b833), .val (.long (g0 + g1)), .second, .val (.ref b845), .unset] []) rfl ?_
    refine g_iload X865 hx (hb hby at_211) (pc' := 213) rfl rfl ?_
    refine g_iconst X865 hx (hb hby at_213) (pc' := 214) rfl (z := (3 : Int32)) rfl ?_
    refine g_icmp_lt X865 hx (hb hby at_214) (pc1 := 217) rfl (by decide) (pc2 := 224) (by decide) (fun hc214 => ?_) (fun hc214 => absurd hc214 (by decide))
    refine g_aload X865 hx (hb hby at_224) (pc' := 226) rfl rfl rfl ?_
    obtain ⟨r, hr, elo⟩ := own_low (c := (2 : Int64)) (s := (g0 + g1)) (int_pos (by decide)) (pos_of (pos_add m0 m1 (by decide)) (by decide))
    obtain ⟨v870, T870, h870, L870, X870, e870, N870, q870, st870⟩ := h_virtual (a := b845) (z := (⟨"com/example/stratasig/stratasig/index/GapCoding$Counts", "tally", "()Lcom/example/stratasig/stratasig/index/GapCoding$Tally;"⟩ : MethodName)) X865 hx (W := 0) (Ls := #[.val (.int p0), .val (.long p1), .second, .val (.long p2), .second, .val (.long p3), .second, .val (.int (2 : Int32)), .val (.long (4611686018427387903 : Int64)), .second, .val (.long g0), .second, .val (.long g1), .second, .val (.long g2), .second, .val (.ref b833), .val (.long (g0 + g1)), .second, .val (.ref b845), .unset]) (argsL := []) (rest := []) hZ e865 N865 hml hown (rm3 l Z a0 hw b845 sb854 (2 : Int64) (g0 + g1) (addB g1 (addB g0 (List.replicate 63 (0 : Int64)))) r h865 n0 Z869 C865 S865 B865 V865 A865 (by simp [addB_len]) hr elo) A865 (hw _ (List.mem_of_getElem? (i := 13) rfl)) (hw _ (List.mem_of_getElem? (i := 14) rfl)) (notFace_of_selects (args := #[]) (mvT hZ (hw _ (List.mem_of_getElem? (i := 16) rfl)))) (hw _ (List.mem_of_getElem? (i := 16) rfl)) (hw _ (List.mem_of_getElem? (i := 15) rfl)) (hw _ (List.mem_of_getElem? (i := 4) rfl)) (hw _ (List.mem_of_getElem? (i := 17) rfl)) (by decide) pd___Lcom_example_stratasig_stratasig_index_GapCoding_Tally_ rfl rfl (hb hby at_226) rfl (by decide) (by decide) (by decide) (by decide)
    obtain ⟨t870, rfl, ge870, K870, A870, C870, L870, P870, Q870, R870⟩ := q870
    have f871 := f866.keep K870
    have f872 := f867.keep K870 nin0
    have f873 := A865.keep K870
    have f874 := C865.keep K870 nin0
    have f875 := S865.keep K870 nin0
    have f876 := B865.keep K870 nin0
    have f877 := V865.keep K870 nin0
    have Z878 : n0 ≤ h870.size := Nat.le_trans Z869 K870.1
    refine Go.movp st870 (mkF m 229 #[.val (.int p0), .val (.long p1), .second, .val (.long p2), .second, .val (.long p3), .second, .val (.int (2 : Int32)), .val (.long (4611686018427387903 : Int64)), .second, .val (.long g0), .second, .val (.long g1), .second, .val (.long g2), .second, .val (.ref b833), .val (.long (g0 + g1)), .second, .val (.ref b845), .unset] [(.ref t870)]) rfl ?_
    refine g_astore X870 hx (hb hby at_229) (pc' := 231) rfl rfl (Ls' := #[.val (.int p0), .val (.long p1), .second, .val (.long p2), .second, .val (.long p3), .second, .val (.int (2 : Int32)), .val (.long (4611686018427387903 : Int64)), .second, .val (.long g0), .second, .val (.long g1), .second, .val (.long g2), .second, .val (.ref b833), .val (.long (g0 + g1)), .second, .val (.ref b845), .val (.ref t870)]) rfl ?_
    refine g_aload X870 hx (hb hby at_231) (pc' := 233) rfl rfl rfl ?_
    obtain ⟨v879, T879, h879, L879, X879, e879, N879, q879, st879⟩ := h_virtual (a := b845) (z := (⟨"com/example/stratasig/stratasig/index/GapCoding$Counts", "sum", "()J"⟩ : MethodName)) X870 hx (W := 0) (Ls := #[.val (.int p0), .val (.long p1), .second, .val (.long p2), .second, .val (.long p3), .second, .val (.int (2 : Int32)), .val (.long (4611686018427387903 : Int64)), .second, .val (.long g0), .second, .val (.long g1), .second, .val (.long g2), .second, .val (.ref b833), .val (.long (g0 + g1)), .second, .val (.ref b845), .val (.ref t870)]) (argsL := []) (rest := []) hZ e870 N870 hml hown (rm9 l Z a0 hw b845 (g0 + g1) h870 n0 Z878 f875) f873 (hw _ (List.mem_of_getElem? (i := 58) rfl)) (hw _ (List.mem_of_getElem? (i := 59) rfl)) (notFace_of_selects (args := #[]) (mvT hZ (hw _ (List.mem_of_getElem? (i := 61) rfl)))) (hw _ (List.mem_of_getElem? (i := 61) rfl)) (hw _ (List.mem_of_getElem? (i := 60) rfl)) (hw _ (List.mem_of_getElem? (i := 4) rfl)) (hw _ (List.mem_of_getElem? (i := 62) rfl)) (by decide) pd___J rfl rfl (hb hby at_233) rfl (by decide) (by decide) (by decide) (by decide)
    obtain ⟨rfl, rfl⟩ := q879
    refine Go.movp st879 (mkF m 236 #[.val (.int p0), .val (.long p1), .second, .val (.long p2), .second, .val (.long p3), .second, .val (.int (2 : Int32)), .val (.long (4611686018427387903 : Int64)), .second, .val (.long g0), .second, .val (.long g1), .second, .val (.long g2), .second, .val (.ref b833), .val (.long (g0 + g1)), .second, .val (.ref b845), .val (.ref t870)] [(.long (g0 + g1))]) rfl ?_
    refine g_lload X879 hx (hb hby at_236) (pc' := 238) rfl rfl ?_
    refine g_lcmp_ne X879 hx (hb hby at_238) (pc' := 239) rfl (hb hby at_239) (pc1 := 242) rfl (by decide) (pc2 := 273) (by decide) (fun hc238 => absurd rfl hc238) (fun hc238 => ?_)
    refine g_aload X879 hx (hb hby at_242) (pc' := 244) rfl rfl rfl ?_
    obtain ⟨v880, T880, h880, L880, X880, e880, N880, q880, st880⟩ := h_virtual (a := t870) (z := (⟨"com/example/stratasig/stratasig/index/GapCoding$Tally", "bits", "()J"⟩ : MethodName)) X879 hx (W := 0) (Ls := #[.val (.int p0), .val (.long p1), .second, .val (.long p2), .second, .val (.long p3), .second, .val (.int (2 : Int32)), .val (.long (4611686018427387903 : Int64)), .second, .val (.long g0), .second, .val (.long g1), .second, .val (.long g2), .second, .val (.ref b833), .val (.long (g0 + g1)), .second, .val (.ref b845), .val (.ref t870)]) (argsL := []) (rest := []) hZ e879 N879 hml hown (rm10 l Z a0 hw t870 (2 : Int64) r.toInt32 (qsum (addB g1 (addB g0 (List.replicate 63 (0 : Int64)))) r r (63 - r)) (qsum (addB g1 (addB g0 (List.replicate 63 (0 : Int64)))) (r + 1) (r + 1) (63 - (r + 1))) (qsum (addB g1 (addB g0 (List.replicate 63 (0 : Int64)))) (r + 2) (r + 2) (63 - (r + 2))) h870 n0 Z878 C870 L870 P870 Q870 R870 A870) A870 (hw _ (List.mem_of_getElem? (i := 63) rfl)) (hw _ (List.mem_of_getElem? (i := 64) rfl)) (notFace_of_selects (args := #[]) (mvT hZ (hw _ (List.mem_of_getElem? (i := 66) rfl)))) (hw _ (List.mem_of_getElem? (i := 66) rfl)) (hw _ (List.mem_of_getElem? (i := 65) rfl)) (hw _ (List.mem_of_getElem? (i := 20) rfl)) (hw _ (List.mem_of_getElem? (i := 67) rfl)) (by decide) pd___J rfl rfl (hb hby at_244) rfl (by decide) (by decide) (by decide) (by decide)
    obtain ⟨rfl, K880⟩ := q880
    have f881 := f871.keep K880
    have f882 := f872.keep K880 nin0
    have f883 := f873.keep K880
    have f884 := f874.keep K880 nin0
    have f885 := f875.keep K880 nin0
    have f886 := f876.keep K880 nin0
    have f887 := f877.keep K880 nin0
    have f888 := C870.keep K880 nin0
    have f889 := L870.keep K880 nin0
    have f890 := P870.keep K880 nin0
    have f891 := Q870.keep K880 nin0
    have f892 := R870.keep K880 nin0
    have f893 := A870.keep K880
    have Z894 : n0 ≤ h880.size := Nat.le_trans Z878 K880.1
    refine Go.movp st880 (mkF m 247 #[.val (.int p0), .val (.long p1), .second, .val (.long p2), .second, .val (.long p3), .second, .val (.int (2 : Int32)), .val (.long (4611686018427387903 : Int64)), .second, .val (.long g0), .second, .val (.long g1), .second, .val (.long g2), .second, .val (.ref b833), .val (.long (g0 + g1)), .second, .val (.ref b845), .val (.ref t870)] [(.long (bitsV (2 : Int64) r.toInt32 (qsum (addB g1 (addB g0 (List.replicate 63 (0 : Int64)))) r r (63 - r)) (qsum (addB g1 (addB g0 (List.replicate 63 (0 : Int64)))) (r + 1) (r + 1) (63 - (r + 1))) (qsum (addB g1 (addB g0 (List.replicate 63 (0 : Int64)))) (r + 2) (r + 2) (63 - (r + 2)))))]) rfl ?_
    refine g_aload X880 hx (hb hby at_247) (pc' := 249) rfl rfl rfl ?_
    obtain ⟨v895, T895, h895, L895, X895, e895, N895, q895, st895⟩ := h_static X880 hx (W := 2) (Ls := #[.val (.int p0), .val (.long p1), .second, .val (.long p2), .second, .val (.long p3), .second, .val (.int (2 : Int32)), .val (.long (4611686018427387903 : Int64)), .second, .val (.long g0), .second, .val (.long g1), .second, .val (.long g2), .second, .val (.ref b833), .val (.long (g0 + g1)), .second, .val (.ref b845), .val (.ref t870)]) (argsL := [(.ref b833)]) (rest := [(.long (bitsV (2 : Int64) r.toInt32 (qsum (addB g1 (addB g0 (List.replicate 63 (0 : Int64)))) r r (63 - r)) (qsum (addB g1 (addB g0 (List.replicate 63 (0 : Int64)))) (r + 1) (r + 1) (63 - (r + 1))) (qsum (addB g1 (addB g0 (List.replicate 63 (0 : Int64)))) (r + 2) (r + 2) (63 - (r + 2)))))]) hZ e880 N880 hml hown (rm13_2 l Z a0 hw b833 g0 g1 h880 n0 Z894 f882) (hw _ (List.mem_of_getElem? (i := 79) rfl)) (hw _ (List.mem_of_getElem? (i := 80) rfl)) (hw _ (List.mem_of_getElem? (i := 81) rfl)) (hw _ (List.mem_of_getElem? (i := 82) rfl)) (by decide) pd___J_J rfl rfl (hb hby at_249) rfl (by decide) (by decide) (by decide) (by decide)
    obtain ⟨rfl, K895⟩ := q895
    have f896 := f881.keep K895
    have f897 := f882.keep K895 nin0
    have f898 := f883.keep K895
    have f899 := f884.keep K895 nin0
    have f900 := f885.keep K895 nin0
    have f901 := f886.keep K895 nin0
    have f902 := f887.keep K895 nin0
    have f903 := f888.keep K895 nin0
    have f904 := f889.keep K895 nin0
    have f905 := f890.keep K895 nin0
    have f906 := f891.keep K895 nin0
    have f907 := f892.keep K895 nin0
    have f908 := f893.keep K895
    have Z909 : n0 ≤ h895.size := Nat.le_trans Z894 K895.1
    refine Go.movp st895 (mkF m 252 #[.val (.int p0), .val (.long p1), .second, .val (.long p2), .second, .val (.long p3), .second, .val (.int (2 : Int32)), .val (.long (4611686018427387903 : Int64)), .second, .val (.long g0), .second, .val (.long g1), .second, .val (.long g2), .second, .val (.ref b833), .val (.long (g0 + g1)), .second, .val (.ref b845), .val (.ref t870)] [(.long (bitsV (2 : Int64) (lowV (2 : Int64) (g0 + g1)) ((lushr g0 (lowV (2 : Int64) (g0 + g1))) + (lushr g1 (lowV (2 : Int64) (g0 + g1)))) ((lushr g0 ((lowV (2 : Int64) (g0 + g1)) + (1 : Int32))) + (lushr g1 ((lowV (2 : Int64) (g0 + g1)) + (1 : Int32)))) ((lushr g0 ((lowV (2 : Int64) (g0 + g1)) + (2 : Int32))) + (lushr g1 ((lowV (2 : Int64) (g0 + g1)) + (2 : Int32)))))), (.long (bitsV (2 : Int64) r.toInt32 (qsum (addB g1 (addB g0 (List.replicate 63 (0 : Int64)))) r r (63 - r)) (qsum (addB g1 (addB g0 (List.replicate 63 (0 : Int64)))) (r + 1) (r + 1) (63 - (r + 1))) (qsum (addB g1 (addB g0 (List.replicate 63 (0 : Int64)))) (r + 2) (r + 2) (63 - (r + 2)))))]) rfl ?_
    refine g_lcmp_ne X895 hx (hb hby at_252) (pc' := 253) rfl (hb hby at_253) (pc1 := 256) rfl (by decide) (pc2 := 273) (by decide) (fun hc252 => absurd (own_bitsL elo.symm (by rw [elo]; exact (own_q2 k0 k1 (r := r) (by omega))) (by rw [elo, t32_succ (by omega)]; exact (own_q2 k0 k1 (r := r + 1) (by omega))) (by rw [elo, t32_two (by omega)]; exact (own_q2 k0 k1 (r := r + 2) (by omega)))) hc252) (fun hc252 => ?_)
    refine g_aload X895 hx (hb hby at_256) (pc' := 258) rfl rfl rfl ?_
    obtain ⟨v910, T910, h910, L910, X910, e910, N910, q910, st910⟩ := h_virtual (a := t870) (z := (⟨"com/example/stratasig/stratasig/index/GapCoding$Tally", "parameter", "()I"⟩ : MethodName)) X895 hx (W := 0) (Ls := #[.val (.int p0), .val (.long p1), .second, .val (.long p2), .second, .val (.long p3), .second, .val (.int (2 : Int32)), .val (.long (4611686018427387903 : Int64)), .second, .val (.long g0), .second, .val (.long g1), .second, .val (.long g2), .second, .val (.ref b833), .val (.long (g0 + g1)), .second, .val (.ref b845), .val (.ref t870)]) (argsL := []) (rest := []) hZ e895 N895 hml hown (rm17 l Z a0 hw t870 (2 : Int64) r.toInt32 (qsum (addB g1 (addB g0 (List.replicate 63 (0 : Int64)))) r r (63 - r)) (qsum (addB g1 (addB g0 (List.replicate 63 (0 : Int64)))) (r + 1) (r + 1) (63 - (r + 1))) (qsum (addB g1 (addB g0 (List.replicate 63 (0 : Int64)))) (r + 2) (r + 2) (63 - (r + 2))) h895 n0 Z909 f903 f904 f905 f906 f907 f908) f908 (hw _ (List.mem_of_getElem? (i := 97) rfl)) (hw _ (List.mem_of_getElem? (i := 98) rfl)) (notFace_of_selects (args := #[]) (mvT hZ (hw _ (List.mem_of_getElem? (i := 100) rfl)))) (hw _ (List.mem_of_getElem? (i := 100) rfl)) (hw _ (List.mem_of_getElem? (i := 99) rfl)) (hw _ (List.mem_of_getElem? (i := 20) rfl)) (hw _ (List.mem_of_getElem? (i := 101) rfl)) (by decide) pd___I rfl rfl (hb hby at_258) rfl (by decide) (by decide) (by decide) (by decide)
    obtain ⟨rfl, K910⟩ := q910
    have f911 := f896.keep K910
    have f912 := f897.keep K910 nin0
    have f913 := f898.keep K910
    have f914 := f899.keep K910 nin0
    have f915 := f900.keep K910 nin0
    have f916 := f901.keep K910 nin0
    have f917 := f902.keep K910 nin0
    have f918 := f903.keep K910 nin0
    have f919 := f904.keep K910 nin0
    have f920 := f905.keep K910 nin0
    have f921 := f906.keep K910 nin0
    have f922 := f907.keep K910 nin0
    have f923 := f908.keep K910
    have Z924 : n0 ≤ h910.size := Nat.le_trans Z909 K910.1
    refine Go.movp st910 (mkF m 261 #[.val (.int p0), .val (.long p1), .second, .val (.long p2), .second, .val (.long p3), .second, .val (.int (2 : Int32)), .val (.long (4611686018427387903 : Int64)), .second, .val (.long g0), .second, .val (.long g1), .second, .val (.long g2), .second, .val (.ref b833), .val (.long (g0 + g1)), .second, .val (.ref b845), .val (.ref t870)] [(.int (r.toInt32 + (bestV (2 : Int64) (qsum (addB g1 (addB g0 (List.replicate 63 (0 : Int64)))) r r (63 - r)) (qsum (addB g1 (addB g0 (List.replicate 63 (0 : Int64)))) (r + 1) (r + 1) (63 - (r + 1))) (qsum (addB g1 (addB g0 (List.replicate 63 (0 : Int64)))) (r + 2) (r + 2) (63 - (r + 2))))))]) rfl ?_
    refine g_aload X910 hx (hb hby at_261) (pc' := 263) rfl rfl rfl ?_
    obtain ⟨v925, T925, h925, L925, X925, e925, N925, q925, st925⟩ := h_static X910 hx (W := 1) (Ls := #[.val (.int p0), .val (.long p1), .second, .val (.long p2), .second, .val (.long p3), .second, .val (.int (2 : Int32)), .val (.long (4611686018427387903 : Int64)), .second, .val (.long g0), .second, .val (.long g1), .second, .val (.long g2), .second, .val (.ref b833), .val (.long (g0 + g1)), .second, .val (.ref b845), .val (.ref t870)]) (argsL := [(.ref b833)]) (rest := [(.int (r.toInt32 + (bestV (2 : Int64) (qsum (addB g1 (addB g0 (List.replicate 63 (0 : Int64)))) r r (63 - r)) (qsum (addB g1 (addB g0 (List.replicate 63 (0 : Int64)))) (r + 1) (r + 1) (63 - (r + 1))) (qsum (addB g1 (addB g0 (List.replicate 63 (0 : Int64)))) (r + 2) (r + 2) (63 - (r + 2))))))]) hZ e910 N910 hml hown (rm18_2 l Z a0 hw b833 g0 g1 h910 n0 Z924 f912) (hw _ (List.mem_of_getElem? (i := 102) rfl)) (hw _ (List.mem_of_getElem? (i := 103) rfl)) (hw _ (List.mem_of_getElem? (i := 81) rfl)) (hw _ (List.mem_of_getElem? (i := 104) rfl)) (by decide) pd___J_I rfl rfl (hb hby at_263) rfl (by decide) (by decide) (by decide) (by decide)
    obtain ⟨rfl, K925⟩ := q925
    have f926 := f911.keep K925
    have f927 := f912.keep K925 nin0
    have f928 := f913.keep K925
    have f929 := f914.keep K925 nin0
    have f930 := f915.keep K925 nin0
    have f931 := f916.keep K925 nin0
    have f932 := f917.keep K925 nin0
    have f933 := f918.keep K925 nin0
    have f934 := f919.keep K925 nin0
    have f935 := f920.keep K925 nin0
    have f936 := f921.keep K925 nin0
    have f937 := f922.keep K925 nin0
    have f938 := f923.keep K925
    have Z939 : n0 ≤ h925.size := Nat.le_trans Z924 K925.1
    refine Go.movp st925 (mkF m 266 #[.val (.int p0), .val (.long p1), .second, .val (.long p2), .second, .val (.long p3), .second, .val (.int (2 : Int32)), .val (.long (4611686018427387903 : Int64)), .second, .val (.long g0), .second, .val (.long g1), .second, .val (.long g2), .second, .val (.ref b833), .val (.long (g0 + g1)), .second, .val (.ref b845), .val (.ref t870)] [(.int ((lowV (2 : Int64) (g0 + g1)) + bestV (2 : Int64) ((lushr g0 (lowV (2 : Int64) (g0 + g1))) + (lushr g1 (lowV (2 : Int64) (g0 + g1)))) ((lushr g0 ((lowV (2 : Int64) (g0 + g1)) + (1 : Int32))) + (lushr g1 ((lowV (2 : Int64) (g0 + g1)) + (1 : Int32)))) ((lushr g0 ((lowV (2 : Int64) (g0 + g1)) + (2 : Int32))) + (lushr g1 ((lowV (2 : Int64) (g0 + g1)) + (2 : Int32)))))), (.int (r.toInt32 + (bestV (2 : Int64) (qsum (addB g1 (addB g0 (List.replicate 63 (0 : Int64)))) r r (63 - r)) (qsum (addB g1 (addB g0 (List.replicate 63 (0 : Int64)))) (r + 1) (r + 1) (63 - (r + 1))) (qsum (addB g1 (addB g0 (List.replicate 63 (0 : Int64)))) (r + 2) (r + 2) (63 - (r + 2))))))]) rfl ?_
    refine g_icmp_ne X925 hx (hb hby at_266) (pc1 := 269) rfl (by decide) (pc2 := 273) (by decide) (fun hc266 => absurd (own_parL elo.symm (by rw [elo]; exact (own_q2 k0 k1 (r := r) (by omega))) (by rw [elo, t32_succ (by omega)]; exact (own_q2 k0 k1 (r := r + 1) (by omega))) (by rw [elo, t32_two (by omega)]; exact (own_q2 k0 k1 (r := r + 2) (by omega)))) hc266) (fun hc266 => ?_)
    refine g_iconst X925 hx (hb hby at_269) (pc' := 270) rfl (z := (1 : Int32)) rfl ?_
    refine g_goto X925 hx (hb hby at_270) (by decide) (pc' := 274) (by decide) ?_
    exact g_zreturn X925 hx rfl hret (hb hby at_274) N925 hlk (fun v t => endF (by decide) (by decide) v) (by rw [e925]; exact rfl)
  · skip
    refine Go.cast (show (mkF m 3 #[.val (.int p0), .val (.long p1), .second, .val (.long p2), .second, .val (.long p3), .second, .unset, .unset, .unset, .unset, .unset, .unset, .unset, .unset, .unset, .unset, .unset, .unset, .unset, .unset] [(.int (p0 &&& (3 : Int32)))]) = (mkF m 3 #[.val (.int p0), .val (.long p1), .second, .val (.long p2), .second, .val (.long p3), .second, .unset, .unset, .unset, .unset, .unset, .unset, .unset, .unset, .unset, .unset, .unset, .unset, .unset, .unset] [(.int (3 : Int32))]) from by rw [show (p0 &&& (3 : Int32)) = (3 : Int32) from qn]) ?_
    refine g_istore X0 hx (hb hby at_3) (pc' := 5) rfl (Ls' := #[.val (.int p0), .val (.long p1), .second, .val (.long p2), .second, .val (.long p3), .second, .val (.int (3 : Int32)), .unset, .unset, .unset, .unset, .unset, .unset, .unset, .unset, .unset, .unset, .unset, .unset, .unset]) rfl ?_
    refine g_iload X0 hx (hb hby at_5) (pc' := 7) rfl rfl ?_
    refine g_iconst X0 hx (hb hby at_7) (pc' := 8) rfl (z := (1 : Int32)) rfl ?_
    refine g_icmp_ne X0 hx (hb hby at_8) (pc1 := 11) rfl (by decide) (pc2 := 17) (by decide) (fun hc8 => ?_) (fun hc8 => absurd hc8 (by decide))
    refine g_iload X0 hx (hb hby at_17) (pc' := 19) rfl rfl ?_
    refine g_iconst X0 hx (hb hby at_19) (pc' := 20) rfl (z := (2 : Int32)) rfl ?_
    refine g_icmp_ne X0 hx (hb hby at_20) (pc1 := 23) rfl (by decide) (pc2 := 29) (by decide) (fun hc20 => ?_) (fun hc20 => absurd hc20 (by decide))
    refine g_ldc2_w X0 hx hZ hown (hw _ (List.mem_of_getElem? (i := 0) rfl)) (hb hby at_29) (pc' := 32) rfl ?_
    refine g_lstore X0 hx (hb hby at_32) (pc' := 34) rfl (Ls' := #[.val (.int p0), .val (.long p1), .second, .val (.long p2), .second, .val (.long p3), .second, .val (.int (3 : Int32)), .val (.long (2305843009213693951 : Int64)), .second, .unset, .unset, .unset, .unset, .unset, .unset, .unset, .unset, .unset, .unset, .unset]) rfl ?_
    refine g_lloadN X0 hx (hb hby at_34) (pc' := 35) rfl rfl ?_
    refine g_lload X0 hx (hb hby at_35) (pc' := 37) rfl rfl ?_
    refine g_land X0 hx (hb hby at_37) (pc' := 38) rfl ?_
    refine g_iloadN X0 hx (hb hby at_38) (pc' := 39) rfl rfl ?_
    refine g_iconst X0 hx (hb hby at_39) (pc' := 40) rfl (z := (2 : Int32)) rfl ?_
    refine g_iushr X0 hx (hb hby at_40) (pc' := 41) rfl ?_
    refine g_bipush X0 hx (hb hby at_41) (pc' := 43) rfl (z := (63 : Int32)) rfl ?_
    refine g_iand X0 hx (hb hby at_43) (pc' := 44) rfl ?_
    refine g_lushr X0 hx (hb hby at_44) (pc' := 45) rfl ?_
    obtain ⟨g0, eg0⟩ : ∃ z : Int64, z = (lushr (p1 &&& (2305843009213693951 : Int64)) ((ushr p0 (2 : Int32)) &&& (63 : Int32))) := ⟨_, rfl⟩
    refine Go.cast (show (mkF m 45 #[.val (.int p0), .val (.long p1), .second, .val (.long p2), .second, .val (.long p3), .second, .val (.int (3 : Int32)), .val (.long (2305843009213693951 : Int64)), .second, .unset, .unset, .unset, .unset, .unset, .unset, .unset, .unset, .unset, .unset, .unset] [(.long (lushr (p1 &&& (2305843009213693951 : Int64)) ((ushr p0 (2 : Int32)) &&& (63 : Int32))))]) = (mkF m 45 #[.val (.int p0), .val (.long p1), .second, .val (.long p2), .second, .val (.long p3), .second, .val (.int (3 : Int32)), .val (.long (2305843009213693951 : Int64)), .second, .unset, .unset, .unset, .unset, .unset, .unset, .unset, .unset, .unset, .unset, .unset] [(.long g0)]) from by rw [eg0]) ?_
    have m0 : g0.toBitVec.toNat ≤ 2305843009213693951 := by rw [eg0]; exact own_g _ _ _
    have k0 : Pos g0 := pos_of m0 (by decide)
    refine g_lstore X0 hx (hb hby at_45) (pc' := 47) rfl (Ls' := #[.val (.int p0), .val (.long p1), .second, .val (.long p2), .second, .val (.long p3), .second, .val (.int (3 : Int32)), .val (.long (2305843009213693951 : Int64)), .second, .val (.long g0), .second, .unset, .unset, .unset, .unset, .unset, .unset, .unset, .unset, .unset]) rfl ?_
    refine g_lloadN X0 hx (hb hby at_47) (pc' := 48) rfl rfl ?_
    refine g_lload X0 hx (hb hby at_48) (pc' := 50) rfl rfl ?_
    refine g_land X0 hx (hb hby at_50) (pc' := 51) rfl ?_
    refine g_iloadN X0 hx (hb hby at_51) (pc' := 52) rfl rfl ?_
    refine g_bipush X0 hx (hb hby at_52) (pc' := 54) rfl (z := (8 : Int32)) rfl ?_
    refine g_iushr X0 hx (hb hby at_54) (pc' := 55) rfl ?_
    refine g_bipush X0 hx (hb hby at_55) (pc' := 57) rfl (z := (63 : Int32)) rfl ?_
    refine g_iand X0 hx (hb hby at_57) (pc' := 58) rfl ?_
    refine g_lushr X0 hx (hb hby at_58) (pc' := 59) rfl ?_
    obtain ⟨g1, eg1⟩ : ∃ z : Int64, z = (lushr (p2 &&& (2305843009213693951 : Int64)) ((ushr p0 (8 : Int32)) &&& (63 : Int32))) := ⟨_, rfl⟩
    refine Go.cast (show (mkF m 59 #[.val (.int p0), .val (.long p1), .second, .val (.long p2), .second, .val (.long p3), .second, .val (.int (3 : Int32)), .val (.long (2305843009213693951 : Int64)), .second, .val (.long g0), .second, .unset, .unset, .unset, .unset, .unset, .unset, .unset, .unset, .unset] [(.long (lushr (p2 &&& (2305843009213693951 : Int64)) ((ushr p0 (8 : Int32)) &&& (63 : Int32))))]) = (mkF m 59 #[.val (.int p0), .val (.long p1), .second, .val (.long p2), .second, .val (.long p3), .second, .val (.int (3 : Int32)), .val (.long (2305843009213693951 : Int64)), .second, .val (.long g0), .second, .unset, .unset, .unset, .unset, .unset, .unset, .unset, .unset, .unset] [(.long g1)]) from by rw [eg1]) ?_
    have m1 : g1.toBitVec.toNat ≤ 2305843009213693951 := by rw [eg1]; exact own_g _ _ _
    have k1 : Pos g1 := pos_of m1 (by decide)
    refine g_lstore X0 hx (hb hby at_59) (pc' := 61) rfl (Ls' := #[.val (.int p0), .val (.long p1), .second, .val (.long p2), .second, .val (.long p3), .second, .val (.int (3 : Int32)), .val (.long (2305843009213693951 : Int64)), .second, .val (.long g0), .second, .val (.long g1), .second, .unset, .unset, .unset, .unset, .unset, .unset, .unset]) rfl ?_
    refine g_lload X0 hx (hb hby at_61) (pc' := 63) rfl rfl ?_
    refine g_lload X0 hx (hb hby at_63) (pc' := 65) rfl rfl ?_
    refine g_land X0 hx (hb hby at_65) (pc' := 66) rfl ?_
    refine g_iloadN X0 hx (hb hby at_66) (pc' := 67) rfl rfl ?_
    refine g_bipush X0 hx (hb hby at_67) (pc' := 69) rfl (z := (14 : Int32)) rfl ?_
    refine g_iushr X0 hx (hb hby at_69) (pc' := 70) rfl ?_
    refine g_bipush X0 hx (hb hby at_70) (pc' := 72) rfl (z := (63 : Int32)) rfl ?_
    refine g_iand X0 hx (hb hby at_72) (pc' := 73) rfl ?_
    refine g_lushr X0 hx (hb hby at_73) (pc' := 74) rfl ?_
    obtain ⟨g2, eg2⟩ : ∃ z : Int64, z = (lushr (p3 &&& (2305843009213693951 : Int64)) ((ushr p0 (14 : Int32)) &&& (63 : Int32))) := ⟨_, rfl⟩
    refine Go.cast (show (mkF m 74 #[.val (.int p0), .val (.long p1), .second, .val (.long p2), .second, .val (.long p3), .second, .val (.int (3 : Int32)), .val (.long (2305843009213693951 : Int64)), .second, .val (.long g0), .second, .val (.long g1), .second, .unset, .unset, .unset, .unset, .unset, .unset, .unset] [(.long (lushr (p3 &&& (2305843009213693951 : Int64)) ((ushr p0 (14 : Int32)) &&& (63 : Int32))))]) = (mkF m 74 #[.val (.int p0), .val (.long p1), .second, .val (.long p2), .second, .val (.long p3), .second, .val (.int (3 : Int32)), .val (.long (2305843009213693951 : Int64)), .second, .val (.long g0), .second, .val (.long g1), .second, .unset, .unset, .unset, .unset, .unset, .unset, .unset] [(.long g2)]) from by rw [eg2]) ?_
    have m2 : g2.toBitVec.toNat ≤ 2305843009213693951 := by rw [eg2]; exact own_g _ _ _
    have k2 : Pos g2 := pos_of m2 (by decide)
    refine g_lstore X0 hx (hb hby at_74) (pc' := 76) rfl (Ls' := #[.val (.int p0), .val (.long p1), .second, .val (.long p2), .second, .val (.long p3), .second, .val (.int (3 : Int32)), .val (.long (2305843009213693951 : Int64)), .second, .val (.long g0), .second, .val (.long g1), .second, .val (.long g2), .second, .unset, .unset, .unset, .unset, .unset]) rfl ?_
    refine g_iload X0 hx (hb hby at_76) (pc' := 78) rfl rfl ?_
    refine g_if_ne X0 hx (hb hby at_78) (pc1 := 81) rfl (by decide) (pc2 := 92) (by decide) (fun hc78 => ?_) (fun hc78 => absurd hc78 (by decide))
    refine g_iload X0 hx (hb hby at_92) (pc' := 94) rfl rfl ?_
    refine g_iconst X0 hx (hb hby at_94) (pc' := 95) rfl (z := (1 : Int32)) rfl ?_
    refine g_icmp_ne X0 hx (hb hby at_95) (pc1 := 98) rfl (by decide) (pc2 := 115) (by decide) (fun hc95 => ?_) (fun hc95 => absurd hc95 (by decide))
    refine g_iload X0 hx (hb hby at_115) (pc' := 117) rfl rfl ?_
    refine g_iconst X0 hx (hb hby at_117) (pc' := 118) rfl (z := (2 : Int32)) rfl ?_
    refine g_icmp_ne X0 hx (hb hby at_118) (pc1 := 121) rfl (by decide) (pc2 := 146) (by decide) (fun hc118 => ?_) (fun hc118 => absurd hc118 (by decide))
    refine g_iconst X0 hx (hb hby at_146) (pc' := 147) rfl (z := (3 : Int32)) rfl ?_
    obtain ⟨T940, h940, b940, X940, e940, g940, E940, V940, A940, st940⟩ := h_newarray X0 hx hZ e0 (n := (3 : Int32)) (ty := .long) rfl (hw _ (List.mem_of_getElem? (i := 1) rfl)) (hb hby at_147) (k := 3) (cap := 3) (by decide) rfl (by decide) (by decide) (by decide) (by decide) (ad := "[J") (by decide) #[.val (.int p0), .val (.long p1), .second, .val (.long p2), .second, .val (.long p3), .second, .val (.int (3 : Int32)), .val (.long (2305843009213693951 : Int64)), .second, .val (.long g0), .second, .val (.long g1), .second, .val (.long g2), .second, .unset, .unset, .unset, .unset, .unset] []
    have ge941 : n0 ≤ b940 := g940 ▸ Z0
    have Z942 : n0 ≤ h940.size := Nat.le_trans Z0 E940.1
    have f943 : Va Z h940 b940 .long [(.long (0 : Int64)), (.long (0 : Int64)), (.long (0 : Int64))] := V940
    refine Go.movp st940 (mkF m 149 #[.val (.int p0), .val (.long p1), .second, .val (.long p2), .second, .val (.long p3), .second, .val (.int (3 : Int32)), .val (.long (2305843009213693951 : Int64)), .second, .val (.long g0), .second, .val (.long g1), .second, .val (.long g2), .second, .unset, .unset, .unset, .unset, .unset] [(.ref b940)]) rfl ?_
    refine g_dup X940 hx (hb hby at_149) (pc' := 150) rfl rfl ?_
    refine g_iconst X940 hx (hb hby at_150) (pc' := 151) rfl (z := (0 : Int32)) rfl ?_
    refine g_lload X940 hx (hb hby at_151) (pc' := 153) rfl rfl ?_
    obtain ⟨T944, h944, L944, X944, e944, N944, W944, V944, st944⟩ := h_lastore X940 hx hZ e940 N0 f943 ge941 (j := (0 : Int32)) (i := 0) (x := g0) (hb hby at_153) (by decide) rfl rfl #[.val (.int p0), .val (.long p1), .second, .val (.long p2), .second, .val (.long p3), .second, .val (.int (3 : Int32)), .val (.long (2305843009213693951 : Int64)), .second, .val (.long g0), .second, .val (.long g1), .second, .val (.long g2), .second, .unset, .unset, .unset, .unset, .unset] [(.ref b940)]
    have f945 := Exa.wr W944 A940
    have Z946 : n0 ≤ h944.size := Nat.le_trans Z942 (Keep.of_wr W944).1
    have f947 : Va Z h944 b940 .long [(.long g0), (.long (0 : Int64)), (.long (0 : Int64))] := V944
    refine Go.movp st944 (mkF m 154 #[.val (.int p0), .val (.long p1), .second, .val (.long p2), .second, .val (.long p3), .second, .val (.int (3 : Int32)), .val (.long (2305843009213693951 : Int64)), .second, .val (.long g0), .second, .val (.long g1), .second, .val (.long g2), .second, .unset, .unset, .unset, .unset, .unset] [(.ref b940)]) rfl ?_
    refine g_dup X944 hx (hb hby at_154) (pc' := 155) rfl rfl ?_
    refine g_iconst X944 hx (hb hby at_155) (pc' := 156) rfl (z := (1 : Int32)) rfl ?_
    refine g_lload X944 hx (hb hby at_156) (pc' := 158) rfl rfl ?_
    obtain ⟨T948, h948, L948, X948, e948, N948, W948, V948, st948⟩ := h_lastore X944 hx hZ e944 N944 f947 ge941 (j := (1 : Int32)) (i := 1) (x := g1) (hb hby at_158) (by decide) rfl rfl #[.val (.int p0), .val (.long p1), .second, .val (.long p2), .second, .val (.long p3), .second, .val (.int (3 : Int32)), .val (.long (2305843009213693951 : Int64)), .second, .val (.long g0), .second, .val (.long g1), .second, .val (.long g2), .second, .unset, .unset, .unset, .unset, .unset] [(.ref b940)]
    have f949 := Exa.wr W948 f945
    have Z950 : n0 ≤ h948.size := Nat.le_trans Z946 (Keep.of_wr W948).1
    have f951 : Va Z h948 b940 .long [(.long g0), (.long g1), (.long (0 : Int64))] := V948
    refine Go.movp st948 (mkF m 159 #[.val (.int p0), .val (.long p1), .second, .val (.long p2), .second, .val (.long p3), .second, .val (.int (3 : Int32)), .val (.long (2305843009213693951 : Int64)), .second, .val (.long g0), .second, .val (.long g1), .second, .val (.long g2), .second, .unset, .unset, .unset, .unset, .unset] [(.ref b940)]) rfl ?_
    refine g_dup X948 hx (hb hby at_159) (pc' := 160) rfl rfl ?_
    refine g_iconst X948 hx (hb hby at_160) (pc' := 161) rfl (z := (2 : Int32)) rfl ?_
    refine g_lload X948 hx (hb hby at_161) (pc' := 163) rfl rfl ?_
    obtain ⟨T952, h952, L952, X952, e952, N952, W952, V952, st952⟩ := h_lastore X948 hx hZ e948 N948 f951 ge941 (j := (2 : Int32)) (i := 2) (x := g2) (hb hby at_163) (by decide) rfl rfl #[.val (.int p0), .val (.long p1), .second, .val (.long p2), .second, .val (.long p3), .second, .val (.int (3 : Int32)), .val (.long (2305843009213693951 : Int64)), .second, .val (.long g0), .second, .val (.long g1), .second, .val (.long g2), .second, .unset, .unset, .unset, .unset, .unset] [(.ref b940)]
    have f953 := Exa.wr W952 f949
    have Z954 : n0 ≤ h952.size := Nat.le_trans Z950 (Keep.of_wr W952).1
    have f955 : Va Z h952 b940 .long [(.long g0), (.long g1), (.long g2)] := V952
    refine Go.movp st952 (mkF m 164 #[.val (.int p0), .val (.long p1), .second, .val (.long p2), .second, .val (.long p3), .second, .val (.int (3 : Int32)), .val (.long (2305843009213693951 : Int64)), .second, .val (.long g0), .second, .val (.long g1), .second, .val (.long g2), .second, .unset, .unset, .unset, .unset, .unset] [(.ref b940)]) rfl ?_
    refine g_astore X952 hx (hb hby at_164) (pc' := 166) rfl rfl (Ls' := #[.val (.int p0), .val (.long p1), .second, .val (.long p2), .second, .val (.long p3), .second, .val (.int (3 : Int32)), .val (.long (2305843009213693951 : Int64)), .second, .val (.long g0), .second, .val (.long g1), .second, .val (.long g2), .second, .val (.ref b940), .unset, .unset, .unset, .unset]) rfl ?_
    refine g_lload X952 hx (hb hby at_166) (pc' := 168) rfl rfl ?_
    refine g_lload X952 hx (hb hby at_168) (pc' := 170) rfl rfl ?_
    refine g_ladd X952 hx (hb hby at_170) (pc' := 171) rfl ?_
    refine g_lload X952 hx (hb hby at_171) (pc' := 173) rfl rfl ?_
    refine g_ladd X952 hx (hb hby at_173) (pc' := 174) rfl ?_
    refine g_lstore X952 hx (hb hby at_174) (pc' := 176) rfl (Ls' := #[.val (.int p0), .val (.long p1), .second, .val (.long p2), .second, .val (.long p3), .second, .val (.int (3 : Int32)), .val (.long (2305843009213693951 : Int64)), .second, .val (.long g0), .second, .val (.long g1), .second, .val (.long g2), .second, .val (.ref b940), .val (.long ((g0 + g1) + g2)), .second, .unset, .unset]) rfl ?_
    obtain ⟨T956, h956, X956, e956, E956, A956, D956, -, st956⟩ := newO X952 hx hZ hown (hw _ (List.mem_of_getElem? (i := 2) rfl)) (hw _ (List.mem_of_getElem? (i := 3) rfl)) (hw _ (List.mem_of_getElem? (i := 4) rfl)) e952 (g := (mkF m 176 #[.val (.int p0), .val (.long p1), .second, .val (.long p2), .second, .val (.long p3), .second, .val (.int (3 : Int32)), .val (.long (2305843009213693951 : Int64)), .second, .val (.long g0), .second, .val (.long g1), .second, .val (.long g2), .second, .val (.ref b940), .val (.long ((g0 + g1) + g2)), .second, .unset, .unset] [])) rfl (hb hby at_176) (by decide) (by decide)
    obtain ⟨b956, g956⟩ : ∃ z, z = h952.size := ⟨_, rfl⟩
    rw [← g956] at A956 D956 st956
    have ne957 : b940 ≠ b956 := Nat.ne_of_lt (g956 ▸ f953.lt)
    have ge958 : n0 ≤ b956 := g956 ▸ Z954
    have f959 := Exa.ext E956 f953
    have f960 := f955.ext E956
    have Z961 : n0 ≤ h956.size := Nat.le_trans Z954 E956.1
    have f962 : Fld Z h956 b956 "com/example/stratasig/stratasig/index/GapCoding$Counts" "setBits" "[J" .null := D956 (Or.inr (hw _ (List.mem_of_getElem? (i := 12) rfl))) (ty := (.array .long)) (by decide)
    have f963 : Fld Z h956 b956 "com/example/stratasig/stratasig/index/GapCoding$Counts" "count" "J" (.long (0 : Int64)) := D956 (Or.inl (hw _ (List.mem_of_getElem? (i := 22) rfl))) (ty := .long) (by decide)
    have f964 : Fld Z h956 b956 "com/example/stratasig/stratasig/index/GapCoding$Counts" "sum" "J" (.long (0 : Int64)) := D956 (Or.inl (hw _ (List.mem_of_getElem? (i := 24) rfl))) (ty := .long) (by decide)
    refine Go.movp st956 (mkF m 179 #[.val (.int p0), .val (.long p1), .second, .val (.long p2), .second, .val (.long p3), .second, .val (.int (3 : Int32)), .val (.long (2305843009213693951 : Int64)), .second, .val (.long g0), .second, .val (.long g1), .second, .val (.long g2), .second, .val (.ref b940), .val (.long ((g0 + g1) + g2)), .second, .unset, .unset] [(.ref b956)]) rfl ?_
    refine g_dup X956 hx (hb hby at_179) (pc' := 180) rfl rfl ?_
    obtain ⟨v965, T965, h965, L965, X965, e965, N965, q965, st965⟩ := h_special (a := b956) X956 hx (W := 1) (Ls := #[.val (.int p0), .val (.long p1), .second, .val (.long p2), .second, .val (.long p3), .second, .val (.int (3 : Int32)), .val (.long (2305843009213693951 : Int64)), .second, .val (.long g0), .second, .val (.long g1), .second, .val (.long g2), .second, .val (.ref b940), .val (.long ((g0 + g1) + g2)), .second, .unset, .unset]) (argsL := []) (rest := [(.ref b956)]) hZ e956 N952 hml hown rfl (rm1 l Z a0 hw b956 h956 n0 Z961 f963 f964 f962 A956 ge958) (hw _ (List.mem_of_getElem? (i := 5) rfl)) (hw _ (List.mem_of_getElem? (i := 6) rfl)) (hw _ (List.mem_of_getElem? (i := 4) rfl)) (hw _ (List.mem_of_getElem? (i := 7) rfl)) (by decide) pd___V rfl rfl (hb hby at_180) rfl (by decide) (by decide) (by decide) (by decide)
    obtain ⟨sb965, rfl, ge965, ne965, sz965, K965, A965, C965, S965, B965, V965⟩ := q965
    have f966 := f959.keep K965
    have f967 := f960.keep K965 (ninS ne957 nin0)
    have f968 := A956.keep K965
    have Z969 : n0 ≤ h965.size := Nat.le_trans Z961 K965.1
    refine Go.movp st965 (mkF m 183 #[.val (.int p0), .val (.long p1), .second, .val (.long p2), .second, .val (.long p3), .second, .val (.int (3 : Int32)), .val (.long (2305843009213693951 : Int64)), .second, .val (.long g0), .second, .val (.long g1), .second, .val (.long g2), .second, .val (.ref b940), .val (.long ((g0 + g1) + g2)), .second, .unset, .unset] [(.ref b956)]) rfl ?_
    have ne970 : b940 ≠ sb965 := Nat.ne_of_lt (Nat.lt_of_lt_of_le f960.lt sz965)
    refine g_astore X965 hx (hb hby at_183) (pc' := 185) rfl rfl (Ls' := #[.val (.int p0), .val (.long p1), .second, .val (.long p2), .second, .val (.long p3), .second, .val (.int (3 : Int32)), .val (.long (2305843009213693951 : Int64)), .second, .val (.long g0), .second, .val (.long g1), .second, .val (.long g2), .second, .val (.ref b940), .val (.long ((g0 + g1) + g2)), .second, .val (.ref b956), .unset]) rfl ?_
    refine g_iload X965 hx (hb hby at_185) (pc' := 187) rfl rfl ?_
    refine g_iconst X965 hx (hb hby at_187) (pc' := 188) rfl (z := (1 : Int32)) rfl ?_
    refine g_icmp_lt X965 hx (hb hby at_188) (pc1 := 191) rfl (by decide) (pc2 := 198) (by decide) (fun hc188 => absurd hc188 (by decide)) (fun hc188 => ?_)
    refine g_aload X965 hx (hb hby at_191) (pc' := 193) rfl rfl rfl ?_
    refine g_lload X965 hx (hb hby at_193) (pc' := 195) rfl rfl ?_
    obtain ⟨v971, T971, h971, L971, X971, e971, N971, q971, st971⟩ := h_virtual (a := b956) (z := (⟨"com/example/stratasig/stratasig/index/GapCoding$Counts", "add", "(J)V"⟩ : MethodName)) X965 hx (W := 0) (Ls := #[.val (.int p0), .val (.long p1), .second, .val (.long p2), .second, .val (.long p3), .second, .val (.int (3 : Int32)), .val (.long (2305843009213693951 : Int64)), .second, .val (.long g0), .second, .val (.long g1), .second, .val (.long g2), .second, .val (.ref b940), .val (.long ((g0 + g1) + g2)), .second, .val (.ref b956), .unset]) (argsL := [(.long g0)]) (rest := []) hZ e965 N965 hml hown (rm19 l Z a0 hw b956 sb965 (0 : Int64) (1 : Int64) (0 : Int64) g0 (List.replicate 63 (0 : Int64)) g0 h965 n0 Z969 C965 S965 B965 V965 A965 ge958 ge965 ne965 (by simp [addB_len]) k0 (by decide) (Int64.zero_add _)) A965 (hw _ (List.mem_of_getElem? (i := 106) rfl)) (hw _ (List.mem_of_getElem? (i := 107) rfl)) (notFace_of_selects (args := #[]) (mvT hZ (hw _ (List.mem_of_getElem? (i := 109) rfl)))) (hw _ (List.mem_of_getElem? (i := 109) rfl)) (hw _ (List.mem_of_getElem? (i := 108) rfl)) (hw _ (List.mem_of_getElem? (i := 4) rfl)) (hw _ (List.mem_of_getElem? (i := 110) rfl)) (by decide) pd__J_V rfl rfl (hb hby at_195) rfl (by decide) (by decide) (by decide) (by decide)
    obtain ⟨rfl, K971, A971, C971, S971, B971, V971⟩ := q971
    have f972 := f966.keep K971
    have f973 := f967.keep K971 (ninS ne957 (ninS ne970 nin0))
    have f974 := A965.keep K971
    have Z975 : n0 ≤ h971.size := Nat.le_trans Z969 K971.1
    refine Go.movp st971 (mkF m 198 #[.val (.int p0), .val (.long p1), .second, .val (.long p2), .second, .val (.long p3), .second, .val (.int (3 : Int32)), .val (.long (2305843009213693951 : Int64)), .second, .val (.long g0), .second, .val (.long g1), .second, .val (.long g2), .second, .val (.ref b940), .val (.long ((g0 + g1) + g2)), .second, .val (.ref b956), .unset] []) rfl ?_
    refine g_iload X971 hx (hb hby at_198) (pc' := 200) rfl rfl ?_
    refine g_iconst X971 hx (hb hby at_200) (pc' := 201) rfl (z := (2 : Int32)) rfl ?_
    refine g_icmp_lt X971 hx (hb hby at_201) (pc1 := 204) rfl (by decide) (pc2 := 211) (by decide) (fun hc201 => absurd hc201 (by decide)) (fun hc201 => ?_)
    refine g_aload X971 hx (hb hby at_204) (pc' := 206) rfl rfl rfl ?_
    refine g_lload X971 hx (hb hby at_206) (pc' := 208) rfl rfl ?_
    obtain ⟨v976, T976, h976, L976, X976, e976, N976, q976, st976⟩ := h_virtual (a := b956) (z := (⟨"com/example/stratasig/stratasig/index/GapCoding$Counts", "add", "(J)V"⟩ : MethodName)) X971 hx (W := 0) (Ls := #[.val (.int p0), .val (.long p1), .second, .val (.long p2), .second, .val (.long p3), .second, .val (.int (3 : Int32)), .val (.long (2305843009213693951 : Int64)), .second, .val (.long g0), .second, .val (.long g1), .second, .val (.long g2), .second, .val (.ref b940), .val (.long ((g0 + g1) + g2)), .second, .val (.ref b956), .unset]) (argsL := [(.long g1)]) (rest := []) hZ e971 N971 hml hown (rm19 l Z a0 hw b956 sb965 (1 : Int64) (2 : Int64) g0 (g0 + g1) (addB g0 (List.replicate 63 (0 : Int64))) g1 h971 n0 Z975 C971 S971 B971 V971 A971 ge958 ge965 ne965 (by simp [addB_len]) k1 (by decide) rfl) A971 (hw _ (List.mem_of_getElem? (i := 106) rfl)) (hw _ (List.mem_of_getElem? (i := 107) rfl)) (notFace_of_selects (args := #[]) (mvT hZ (hw _ (List.mem_of_getElem? (i := 109) rfl)))) (hw _ (List.mem_of_getElem? (i := 109) rfl)) (hw _ (List.mem_of_getElem? (i := 108) rfl)) (hw _ (List.mem_of_getElem? (i := 4) rfl)) (hw _ (List.mem_of_getElem? (i := 110) rfl)) (by decide) pd__J_V rfl rfl (hb hby at_208) rfl (by decide) (by decide) (by decide) (by decide)
    obtain ⟨rfl, K976, A976, C976, S976, B976, V976⟩ := q976
    have f977 := f972.keep K976
    have f978 := f973.keep K976 (ninS ne957 (ninS ne970 nin0))
    have f979 := A971.keep K976
    have Z980 : n0 ≤ h976.size := Nat.le_trans Z975 K976.1
    refine Go.movp st976 (mkF m 211 #[.val (.int p0), .val (.long p1), .second, .val (.long p2), .second, .val (.long p3), .second, .val (.int (3 : Int32)), .val (.long (2305843009213693951 : Int64)), .second, .val (.long g0), .second, .val (.long g1), .second, .val (.long g2), .second, .val (.ref b940), .val (.long ((g0 + g1) + g2)), .second, .val (.ref b956), .unset] []) rfl ?_
    refine g_iload X976 hx (hb hby at_211) (pc' := 213) rfl rfl ?_
    refine g_iconst X976 hx (hb hby at_213) (pc' := 214) rfl (z := (3 : Int32)) rfl ?_
    refine g_icmp_lt X976 hx (hb hby at_214) (pc1 := 217) rfl (by decide) (pc2 := 224) (by decide) (fun hc214 => absurd hc214 (by decide)) (fun hc214 => ?_)
    refine g_aload X976 hx (hb hby at_217) (pc' := 219) rfl rfl rfl ?_
    refine g_lload X976 hx (hb hby at_219) (pc' := 221) rfl rfl ?_
    obtain ⟨v981, T981, h981, L981, X981, e981, N981, q981, st981⟩ := h_virtual (a := b956) (z := (⟨"com/example/stratasig/stratasig/index/GapCoding$Counts", "add", "(J)V"⟩ : MethodName)) X976 hx (W := 0) (Ls := #[.val (.int p0), .val (.long p1), .second, .val (.long p2), .second, .val (.long p3), .second, .val (.int (3 : Int32)), .val (.long (2305843009213693951 : Int64)), .second, .val (.long g0), .second, .val (.long g1), .second, .val (.long g2), .second, .val (.ref b940), .val (.long ((g0 + g1) + g2)), .second, .val (.ref b956), .unset]) (argsL := [(.long g2)]) (rest := []) hZ e976 N976 hml hown (rm19 l Z a0 hw b956 sb965 (2 : Int64) (3 : Int64) (g0 + g1) ((g0 + g1) + g2) (addB g1 (addB g0 (List.replicate 63 (0 : Int64)))) g2 h976 n0 Z980 C976 S976 B976 V976 A976 ge958 ge965 ne965 (by simp [addB_len]) k2 (by decide) rfl) A976 (hw _ (List.mem_of_getElem? (i := 106) rfl)) (hw _ (List.mem_of_getElem? (i := 107) rfl)) (notFace_of_selects (args := #[]) (mvT hZ (hw _ (List.mem_of_getElem? (i := 109) rfl)))) (hw _ (List.mem_of_getElem? (i := 109) rfl)) (hw _ (List.mem_of_getElem? (i := 108) rfl)) (hw _ (List.mem_of_getElem? (i := 4) rfl)) (hw _ (List.mem_of_getElem? (i := 110) rfl)) (by decide) pd__J_V rfl rfl (hb hby at_221) rfl (by decide) (by decide) (by decide) (by decide)
    obtain ⟨rfl, K981, A981, C981, S981, B981, V981⟩ := q981
    have f982 := f977.keep K981
    have f983 := f978.keep K981 (ninS ne957 (ninS ne970 nin0))
    have f984 := A976.keep K981
    have Z985 : n0 ≤ h981.size := Nat.le_trans Z980 K981.1
    refine Go.movp st981 (mkF m 224 #[.val (.int p0), .val (.long p1), .second, .val (.long p2), .second, .val (.long p3), .second, .val (.int (3 : Int32)), .val (.long (2305843009213693951 : Int64)), .second, .val (.long g0), .second, .val (.long g1), .second, .val (.long g2), .second, .val (.ref b940), .val (.long ((g0 + g1) + g2)), .second, .val (.ref b956), .unset] []) rfl ?_
    refine g_aload X981 hx (hb hby at_224) (pc' := 226) rfl rfl rfl ?_
    obtain ⟨r, hr, elo⟩ := own_low (c := (3 : Int64)) (s := ((g0 + g1) + g2)) (int_pos (by decide)) (pos_of (pos_add (pos_add m0 m1 (by decide)) m2 (by decide)) (by decide))
    obtain ⟨v986, T986, h986, L986, X986, e986, N986, q986, st986⟩ := h_virtual (a := b956) (z := (⟨"com/example/stratasig/stratasig/index/GapCoding$Counts", "tally", "()Lcom/example/stratasig/stratasig/index/GapCoding$Tally;"⟩ : MethodName)) X981 hx (W := 0) (Ls := #[.val (.int p0), .val (.long p1), .second, .val (.long p2), .second, .val (.long p3), .second, .val (.int (3 : Int32)), .val (.long (2305843009213693951 : Int64)), .second, .val (.long g0), .second, .val (.long g1), .second, .val (.long g2), .second, .val (.ref b940), .val (.long ((g0 + g1) + g2)), .second, .val (.ref b956), .unset]) (argsL := []) (rest := []) hZ e981 N981 hml hown (rm3 l Z a0 hw b956 sb965 (3 : Int64) ((g0 + g1) + g2) (addB g2 (addB g1 (addB g0 (List.replicate 63 (0 : Int64))))) r h981 n0 Z985 C981 S981 B981 V981 A981 (by simp [addB_len]) hr elo) A981 (hw _ (List.mem_of_getElem? (i := 13) rfl)) (hw _ (List.mem_of_getElem? (i := 14) rfl)) (notFace_of_selects (args := #[]) (mvT hZ (hw _ (List.mem_of_getElem? (i := 16) rfl)))) (hw _ (List.mem_of_getElem? (i := 16) rfl)) (hw _ (List.mem_of_getElem? (i := 15) rfl)) (hw _ (List.mem_of_getElem? (i := 4) rfl)) (hw _ (List.mem_of_getElem? (i := 17) rfl)) (by decide) pd___Lcom_example_stratasig_stratasig_index_GapCoding_Tally_ rfl rfl (hb hby at_226) rfl (by decide) (by decide) (by decide) (by decide)
    obtain ⟨t986, rfl, ge986, K986, A986, C986, L986, P986, Q986, R986⟩ := q986
    have f987 := f982.keep K986
    have f988 := f983.keep K986 nin0
    have f989 := A981.keep K986
    have f990 := C981.keep K986 nin0
    have f991 := S981.keep K986 nin0
    have f992 := B981.keep K986 nin0
    have f993 := V981.keep K986 nin0
    have Z994 : n0 ≤ h986.size := Nat.le_trans Z985 K986.1
    refine Go.movp st986 (mkF m 229 #[.val (.int p0), .val (.long p1), .second, .val (.long p2), .second, .val (.long p3), .second, .val (.int (3 : Int32)), .val (.long (2305843009213693951 : Int64)), .second, .val (.long g0), .second, .val (.long g1), .second, .val (.long g2), .second, .val (.ref b940), .val (.long ((g0 + g1) + g2)), .second, .val (.ref b956), .unset] [(.ref t986)]) rfl ?_
    refine g_astore X986 hx (hb hby at_229) (pc' := 231) rfl rfl (Ls' := #[.val (.int p0), .val (.long p1), .second, .val (.long p2), .second, .val (.long p3), .second, .val (.int (3 : Int32)), .val (.long (2305843009213693951 : Int64)), .second, .val (.long g0), .second, .val (.long g1), .second, .val (.long g2), .second, .val (.ref b940), .val (.long ((g0 + g1) + g2)), .second, .val (.ref b956), .val (.ref t986)]) rfl ?_
    refine g_aload X986 hx (hb hby at_231) (pc' := 233) rfl rfl rfl ?_
    obtain ⟨v995, T995, h995, L995, X995, e995, N995, q995, st995⟩ := h_virtual (a := b956) (z := (⟨"com/example/stratasig/stratasig/index/GapCoding$Counts", "sum", "()J"⟩ : MethodName)) X986 hx (W := 0) (Ls := #[.val (.int p0), .val (.long p1), .second, .val (.long p2), .second, .val (.long p3), .second, .val (.int (3 : Int32)), .val (.long (2305843009213693951 : Int64)), .second, .val (.long g0), .second, .val (.long g1), .second, .val (.long g2), .second, .val (.ref b940), .val (.long ((g0 + g1) + g2)), .second, .val (.ref b956), .val (.ref t986)]) (argsL := []) (rest := []) hZ e986 N986 hml hown (rm9 l Z a0 hw b956 ((g0 + g1) + g2) h986 n0 Z994 f991) f989 (hw _ (List.mem_of_getElem? (i := 58) rfl)) (hw _ (List.mem_of_getElem? (i := 59) rfl)) (notFace_of_selects (args := #[]) (mvT hZ (hw _ (List.mem_of_getElem? (i := 61) rfl)))) (hw _ (List.mem_of_getElem? (i := 61) rfl)) (hw _ (List.mem_of_getElem? (i := 60) rfl)) (hw _ (List.mem_of_getElem? (i := 4) rfl)) (hw _ (List.mem_of_getElem? (i := 62) rfl)) (by decide) pd___J rfl rfl (hb hby at_233) rfl (by decide) (by decide) (by decide) (by decide)
    obtain ⟨rfl, rfl⟩ := q995
    refine Go.movp st995 (mkF m 236 #[.val (.int p0), .val (.long p1), .second, .val (.long p2), .second, .val (.long p3), .second, .val (.int (3 : Int32)), .val (.long (2305843009213693951 : Int64)), .second, .val (.long g0), .second, .val (.long g1), .second, .val (.long g2), .second, .val (.ref b940), .val (.long ((g0 + g1) + g2)), .second, .val (.ref b956), .val (.ref t986)] [(.long ((g0 + g1) + g2))]) rfl ?_
    refine g_lload X995 hx (hb hby at_236) (pc' := 238) rfl rfl ?_
    refine g_lcmp_ne X995 hx (hb hby at_238) (pc' := 239) rfl (hb hby at_239) (pc1 := 242) rfl (by decide) (pc2 := 273) (by decide) (fun hc238 => absurd rfl hc238) (fun hc238 => ?_)
    refine g_aload X995 hx (hb hby at_242) (pc' := 244) rfl rfl rfl ?_
    obtain ⟨v996, T996, h996, L996, X996, e996, N996, q996, st996⟩ := h_virtual (a := t986) (z := (⟨"com/example/stratasig/stratasig/index/GapCoding$Tally", "bits", "()J"⟩ : MethodName)) X995 hx (W := 0) (Ls := #[.val (.int p0), .val (.long p1), .second, .val (.long p2), .second, .val (.long p3), .second, .val (.int (3 : Int32)), .val (.long (2305843009213693951 : Int64)), .second, .val (.long g0), .second, .val (.long g1), .second, .val (.long g2), .second, .val (.ref b940), .val (.long ((g0 + g1) + g2)), .second, .val (.ref b956), .val (.ref t986)]) (argsL := []) (rest := []) hZ e995 N995 hml hown (rm10 l Z a0 hw t986 (3 : Int64) r.toInt32 (qsum (addB g2 (addB g1 (addB g0 (List.replicate 63 (0 : Int64))))) r r (63 - r)) (qsum (addB g2 (addB g1 (addB g0 (List.replicate 63 (0 : Int64))))) (r + 1) (r + 1) (63 - (r + 1))) (qsum (addB g2 (addB g1 (addB g0 (List.replicate 63 (0 : Int64))))) (r + 2) (r + 2) (63 - (r + 2))) h986 n0 Z994 C986 L986 P986 Q986 R986 A986) A986 (hw _ (List.mem_of_getElem? (i := 63) rfl)) (hw _ (List.mem_of_getElem? (i := 64) rfl)) (notFace_of_selects (args := #[]) (mvT hZ (hw _ (List.mem_of_getElem? (i := 66) rfl)))) (hw _ (List.mem_of_getElem? (i := 66) rfl)) (hw _ (List.mem_of_getElem? (i := 65) rfl)) (hw _ (List.mem_of_getElem? (i := 20) rfl)) (hw _ (List.mem_of_getElem? (i := 67) rfl)) (by decide) pd___J rfl rfl (hb hby at_244) rfl (by decide) (by decide) (by decide) (by decide)
    obtain ⟨rfl, K996⟩ := q996
    have f997 := f987.keep K996
    have f998 := f988.keep K996 nin0
    have f999 := f989.keep K996
    have f1000 := f990.keep K996 nin0
    have f1001 := f991.keep K996 nin0
    have f1002 := f992.keep K996 nin0
    have f1003 := f993.keep K996 nin0
    have f1004 := C986.keep K996 nin0
    have f1005 := L986.keep K996 nin0
    have f1006 := P986.keep K996 nin0
    have f1007 := Q986.keep K996 nin0
    have f1008 := R986.keep K996 nin0
    have f1009 := A986.keep K996
    have Z1010 : n0 ≤ h996.size := Nat.le_trans Z994 K996.1
    refine Go.movp st996 (mkF m 247 #[.val (.int p0), .val (.long p1), .second, .val (.long p2), .second, .val (.long p3), .second, .val (.int (3 : Int32)), .val (.long (2305843009213693951 : Int64)), .second, .val (.long g0), .second, .val (.long g1), .second, .val (.long g2), .second, .val (.ref b940), .val (.long ((g0 + g1) + g2)), .second, .val (.ref b956), .val (.ref t986)] [(.long (bitsV (3 : Int64) r.toInt32 (qsum (addB g2 (addB g1 (addB g0 (List.replicate 63 (0 : Int64))))) r r (63 - r)) (qsum (addB g2 (addB g1 (addB g0 (List.replicate 63 (0 : Int64))))) (r + 1) (r + 1) (63 - (r + 1))) (qsum (addB g2 (addB g1 (addB g0 (List.replicate 63 (0 : Int64))))) (r + 2) (r + 2) (63 - (r + 2)))))]) rfl ?_
    refine g_aload X996 hx (hb hby at_247) (pc' := 249) rfl rfl rfl ?_
    obtain ⟨v1011, T1011, h1011, L1011, X1011, e1011, N1011, q1011, st1011⟩ := h_static X996 hx (W := 2) (Ls := #[.val (.int p0), .val (.long p1), .second, .val (.long p2), .second, .val (.long p3), .second, .val (.int (3 : Int32)), .val (.long (2305843009213693951 : Int64)), .second, .val (.long g0), .second, .val (.long g1), .second, .val (.long g2), .second, .val (.ref b940), .val (.long ((g0 + g1) + g2)), .second, .val (.ref b956), .val (.ref t986)]) (argsL := [(.ref b940)]) (rest := [(.long (bitsV (3 : Int64) r.toInt32 (qsum (addB g2 (addB g1 (addB g0 (List.replicate 63 (0 : Int64))))) r r (63 - r)) (qsum (addB g2 (addB g1 (addB g0 (List.replicate 63 (0 : Int64))))) (r + 1) (r + 1) (63 - (r + 1))) (qsum (addB g2 (addB g1 (addB g0 (List.replicate 63 (0 : Int64))))) (r + 2) (r + 2) (63 - (r + 2)))))]) hZ e996 N996 hml hown (rm13_3 l Z a0 hw b940 g0 g1 g2 h996 n0 Z1010 f998) (hw _ (List.mem_of_getElem? (i := 79) rfl)) (hw _ (List.mem_of_getElem? (i := 80) rfl)) (hw _ (List.mem_of_getElem? (i := 81) rfl)) (hw _ (List.mem_of_getElem? (i := 82) rfl)) (by decide) pd___J_J rfl rfl (hb hby at_249) rfl (by decide) (by decide) (by decide) (by decide)
    obtain ⟨rfl, K1011⟩ := q1011
    have f1012 := f997.keep K1011
    have f1013 := f998.keep K1011 nin0
    have f1014 := f999.keep K1011
    have f1015 := f1000.keep K1011 nin0
    have f1016 := f1001.keep K1011 nin0
    have f1017 := f1002.keep K1011 nin0
    have f1018 := f1003.keep K1011 nin0
    have f1019 := f1004.keep K1011 nin0
    have f1020 := f1005.keep K1011 nin0
    have f1021 := f1006.keep K1011 nin0
    have f1022 := f1007.keep K1011 nin0
    have f1023 := f1008.keep K1011 nin0
    have f1024 := f1009.keep K1011
    have Z1025 : n0 ≤ h1011.size := Nat.le_trans Z1010 K1011.1
    refine Go.movp st1011 (mkF m 252 #[.val (.int p0), .val (.long p1), .second, .val (.long p2), .second, .val (.long p3), .second, .val (.int (3 : Int32)), .val (.long (2305843009213693951 : Int64)), .second, .val (.long g0), .second, .val (.long g1), .second, .val (.long g2), .second, .val (.ref b940), .val (.long ((g0 + g1) + g2)), .second, .val (.ref b956), .val (.ref t986)] [(.long (bitsV (3 : Int64) (lowV (3 : Int64) ((g0 + g1) + g2)) (((lushr g0 (lowV (3 : Int64) ((g0 + g1) + g2))) + (lushr g1 (lowV (3 : Int64) ((g0 + g1) + g2)))) + (lushr g2 (lowV (3 : Int64) ((g0 + g1) + g2)))) (((lushr g0 ((lowV (3 : Int64) ((g0 + g1) + g2)) + (1 : Int32))) + (lushr g1 ((lowV (3 : Int64) ((g0 + g1) + g2)) + (1 : Int32)))) + (lushr g2 ((lowV (3 : Int64) ((g0 + g1) + g2)) + (1 : Int32)))) (((lushr g0 ((lowV (3 : Int64) ((g0 + g1) + g2)) + (2 : Int32))) + (lushr g1 ((lowV (3 : Int64) ((g0 + g1) + g2)) + (2 : Int32)))) + (lushr g2 ((lowV (3 : Int64) ((g0 + g1) + g2)) + (2 : Int32)))))), (.long (bitsV (3 : Int64) r.toInt32 (qsum (addB g2 (addB g1 (addB g0 (List.replicate 63 (0 : Int64))))) r r (63 - r)) (qsum (addB g2 (addB g1 (addB g0 (List.replicate 63 (0 : Int64))))) (r + 1) (r + 1) (63 - (r + 1))) (qsum (addB g2 (addB g1 (addB g0 (List.replicate 63 (0 : Int64))))) (r + 2) (r + 2) (63 - (r + 2)))))]) rfl ?_
    refine g_lcmp_ne X1011 hx (hb hby at_252) (pc' := 253) rfl (hb hby at_253) (pc1 := 256) rfl (by decide) (pc2 := 273) (by decide) (fun hc252 => absurd (own_bitsL elo.symm (by rw [elo]; exact (own_q3 k0 k1 k2 (r := r) (by omega))) (by rw [elo, t32_succ (by omega)]; exact (own_q3 k0 k1 k2 (r := r + 1) (by omega))) (by rw [elo, t32_two (by omega)]; exact (own_q3 k0 k1 k2 (r := r + 2) (by omega)))) hc252) (fun hc252 => ?_)
    refine g_aload X1011 hx (hb hby at_256) (pc' := 258) rfl rfl rfl ?_
    obtain ⟨v1026, T1026, h1026, L1026, X1026, e1026, N1026, q1026, st1026⟩ := h_virtual (a := t986) (z := (⟨"com/example/stratasig/stratasig/index/GapCoding$Tally", "parameter", "()I"⟩ : MethodName)) X1011 hx (W := 0) (Ls := #[.val (.int p0), .val (.long p1), .second, .val (.long p2), .second, .val (.long p3), .second, .val (.int (3 : Int32)), .val (.long (2305843009213693951 : Int64)), .second, .val (.long g0), .second, .val (.long g1), .second, .val (.long g2), .second, .val (.ref b940), .val (.long ((g0 + g1) + g2)), .second, .val (.ref b956), .val (.ref t986)]) (argsL := []) (rest := []) hZ e1011 N1011 hml hown (rm17 l Z a0 hw t986 (3 : Int64) r.toInt32 (qsum (addB g2 (addB g1 (addB g0 (List.replicate 63 (0 : Int64))))) r r (63 - r)) (qsum (addB g2 (addB g1 (addB g0 (List.replicate 63 (0 : Int64))))) (r + 1) (r + 1) (63 - (r + 1))) (qsum (addB g2 (addB g1 (addB g0 (List.replicate 63 (0 : Int64))))) (r + 2) (r + 2) (63 - (r + 2))) h1011 n0 Z1025 f1019 f1020 f1021 f1022 f1023 f1024) f1024 (hw _ (List.mem_of_getElem? (i := 97) rfl)) (hw _ (List.mem_of_getElem? (i := 98) rfl)) (notFace_of_selects (args := #[]) (mvT hZ (hw _ (List.mem_of_getElem? (i := 100) rfl)))) (hw _ (List.mem_of_getElem? (i := 100) rfl)) (hw _ (List.mem_of_getElem? (i := 99) rfl)) (hw _ (List.mem_of_getElem? (i := 20) rfl)) (hw _ (List.mem_of_getElem? (i := 101) rfl)) (by decide) pd___I rfl rfl (hb hby at_258) rfl (by decide) (by decide) (by decide) (by decide)
    obtain ⟨rfl, K1026⟩ := q1026
    have f1027 := f1012.keep K1026
    have f1028 := f1013.keep K1026 nin0
    have f1029 := f1014.keep K1026
    have f1030 := f1015.keep K1026 nin0
    have f1031 := f1016.keep K1026 nin0
    have f1032 := f1017.keep K1026 nin0
    have f1033 := f1018.keep K1026 nin0
    have f1034 := f1019.keep K1026 nin0
    have f1035 := f1020.keep K1026 nin0
    have f1036 := f1021.keep K1026 nin0
    have f1037 := f1022.keep K1026 nin0
    have f1038 := f1023.keep K1026 nin0
    have f1039 := f1024.keep K1026
    have Z1040 : n0 ≤ h1026.size := Nat.le_trans Z1025 K1026.1
    refine Go.movp st1026 (mkF m 261 #[.val (.int p0), .val (.long p1), .second, .val (.long p2), .second, .val (.long p3), .second, .val (.int (3 : Int32)), .val (.long (2305843009213693951 : Int64)), .second, .val (.long g0), .second, .val (.long g1), .second, .val (.long g2), .second, .val (.ref b940), .val (.long ((g0 + g1) + g2)), .second, .val (.ref b956), .val (.ref t986)] [(.int (r.toInt32 + (bestV (3 : Int64) (qsum (addB g2 (addB g1 (addB g0 (List.replicate 63 (0 : Int64))))) r r (63 - r)) (qsum (addB g2 (addB g1 (addB g0 (List.replicate 63 (0 : Int64))))) (r + 1) (r + 1) (63 - (r + 1))) (qsum (addB g2 (addB g1 (addB g0 (List.replicate 63 (0 : Int64))))) (r + 2) (r + 2) (63 - (r + 2))))))]) rfl ?_
    refine g_aload X1026 hx (hb hby at_261) (pc' := 263) rfl rfl rfl ?_
    obtain ⟨v1041, T1041, h1041, L1041, X1041, e1041, N1041, q1041, st1041⟩ := h_static X1026 hx (W := 1) (Ls := #[.val (.int p0), .val (.long p1), .second, .val (.long p2), .second, .val (.long p3), .second, .val (.int (3 : Int32)), .val (.long (2305843009213693951 : Int64)), .second, .val (.long g0), .second, .val (.long g1), .second, .val (.long g2), .second, .val (.ref b940), .val (.long ((g0 + g1) + g2)), .second, .val (.ref b956), .val (.ref t986)]) (argsL := [(.ref b940)]) (rest := [(.int (r.toInt32 + (bestV (3 : Int64) (qsum (addB g2 (addB g1 (addB g0 (List.replicate 63 (0 : Int64))))) r r (63 - r)) (qsum (addB g2 (addB g1 (addB g0 (List.replicate 63 (0 : Int64))))) (r + 1) (r + 1) (63 - (r + 1))) (qsum (addB g2 (addB g1 (addB g0 (List.replicate 63 (0 : Int64))))) (r + 2) (r + 2) (63 - (r + 2))))))]) hZ e1026 N1026 hml hown (rm18_3 l Z a0 hw b940 g0 g1 g2 h1026 n0 Z1040 f1028) (hw _ (List.mem_of_getElem? (i := 102) rfl)) (hw _ (List.mem_of_getElem? (i := 103) rfl)) (hw _ (List.mem_of_getElem? (i := 81) rfl)) (hw _ (List.mem_of_getElem? (i := 104) rfl)) (by decide) pd___J_I rfl rfl (hb hby at_263) rfl (by decide) (by decide) (by decide) (by decide)
    obtain ⟨rfl, K1041⟩ := q1041
    have f1042 := f1027.keep K1041
    have f1043 := f1028.keep K1041 nin0
    have f1044 := f1029.keep K1041
    have f1045 := f1030.keep K1041 nin0
    have f1046 := f1031.keep K1041 nin0
    have f1047 := f1032.keep K1041 nin0
    have f1048 := f1033.keep K1041 nin0
    have f1049 := f1034.keep K1041 nin0
    have f1050 := f1035.keep K1041 nin0
    have f1051 := f1036.keep K1041 nin0
    have f1052 := f1037.keep K1041 nin0
    have f1053 := f1038.keep K1041 nin0
    have f1054 := f1039.keep K1041
    have Z1055 : n0 ≤ h1041.size := Nat.le_trans Z1040 K1041.1
    refine Go.movp st1041 (mkF m 266 #[.val (.int p0), .val (.long p1), .second, .val (.long p2), .second, .val (.long p3), .second, .val (.int (3 : Int32)), .val (.long (2305843009213693951 : Int64)), .second, .val (.long g0), .second, .val (.long g1), .second, .val (.long g2), .second, .val (.ref b940), .val (.long ((g0 + g1) + g2)), .second, .val (.ref b956), .val (.ref t986)] [(.int ((lowV (3 : Int64) ((g0 + g1) + g2)) + bestV (3 : Int64) (((lushr g0 (lowV (3 : Int64) ((g0 + g1) + g2))) + (lushr g1 (lowV (3 : Int64) ((g0 + g1) + g2)))) + (lushr g2 (lowV (3 : Int64) ((g0 + g1) + g2)))) (((lushr g0 ((lowV (3 : Int64) ((g0 + g1) + g2)) + (1 : Int32))) + (lushr g1 ((lowV (3 : Int64) ((g0 + g1) + g2)) + (1 : Int32)))) + (lushr g2 ((lowV (3 : Int64) ((g0 + g1) + g2)) + (1 : Int32)))) (((lushr g0 ((lowV (3 : Int64) ((g0 + g1) + g2)) + (2 : Int32))) + (lushr g1 ((lowV (3 : Int64) ((g0 + g1) + g2)) + (2 : Int32)))) + (lushr g2 ((lowV (3 : Int64) ((g0 + g1) + g2)) + (2 : Int32)))))), (.int (r.toInt32 + (bestV (3 : Int64) (qsum (addB g2 (addB g1 (addB g0 (List.replicate 63 (0 : Int64))))) r r (63 - r)) (qsum (addB g2 (addB g1 (addB g0 (List.replicate 63 (0 : Int64))))) (r + 1) (r + 1) (63 - (r + 1))) (qsum (addB g2 (addB g1 (addB g0 (List.replicate 63 (0 : Int64))))) (r + 2) (r + 2) (63 - (r + 2))))))]) rfl ?_
    refine g_icmp_ne X1041 hx (hb hby at_266) (pc1 := 269) rfl (by decide) (pc2 := 273) (by decide) (fun hc266 => absurd (own_parL elo.symm (by rw [elo]; exact (own_q3 k0 k1 k2 (r := r) (by omega))) (by rw [elo, t32_succ (by omega)]; exact (own_q3 k0 k1 k2 (r := r + 1) (by omega))) (by rw [elo, t32_two (by omega)]; exact (own_q3 k0 k1 k2 (r := r + 2) (by omega)))) hc266) (fun hc266 => ?_)
    refine g_iconst X1041 hx (hb hby at_269) (pc' := 270) rfl (z := (1 : Int32)) rfl ?_
    refine g_goto X1041 hx (hb hby at_270) (by decide) (pc' := 274) (by decide) ?_
    exact g_zreturn X1041 hx rfl hret (hb hby at_274) N1041 hlk (fun v t => endF (by decide) (by decide) v) (by rw [e1041]; exact rfl)
set_option maxRecDepth 65536 in
set_option maxHeartbeats 40000000 in
theorem comes_1 {Post : Tables → Env → Array Value → State → Outcome → State → Prop} (hpost : ∀ tb e args s v u, (limb_1_1.after args s (.returned v) u = true ∧ limb_1_2.after args s (.returned v) u = true ∧ True) → FrameEnd s (.returned v) u (Jvm.fieldLocs frame_1_writes args s ++ Jvm.arrayLocs frame_1_arrays args s ++ Jvm.staticLocs frame_1_statics s) 32 320 → Post tb e args s (.returned v) u) :
    ArmFor flags0 classFile x code maxLocals ret World_1 tables_1 room_1 Calls_1 rest_1 Pre_1 Post := by
  intro l hfl _ _ p e ha hc hk s m args below hf hA hF happ hP
  obtain ⟨hcalls, hrest, hpre⟩ := hP
  obtain ⟨-, -, -, hnamed, -, -, -, hat⟩ := (Spec.applies_iff hf).mp happ
  obtain ⟨hg, hn⟩ := and_e (Cond.before_iff.mp (show (Jvm.Cond.and given_1 narrow_1).before args s = true from hpre))
  obtain ⟨g1, g2⟩ := and_e hg
  obtain ⟨g3, g4⟩ := and_e g2
  obtain ⟨g5, g6⟩ := and_e g4
  obtain ⟨g7, g8⟩ := and_e g6
  obtain ⟨w0, w1, w2, w3, rfl⟩ : ∃ w0 w1 w2 w3 : Value, args = #[w0, w1, w2, w3] := by
    have hs : args.size = 4 := by simpa [Cond.value, given_1] using g1
    obtain ⟨L⟩ := args
    match L, hs with
    | [w0, w1, w2, w3], _ => exact ⟨w0, w1, w2, w3, rfl⟩
  have hw := fun d (hd : d ∈ tables_1) => atoms_spec (ws := Jvm.Cond.code x code maxLocals ret :: tables_1) hat d (List.mem_cons_of_mem _ hd)
  have hfit : Fit s := fun {y c} hc i hi => by
    obtain ⟨ha, rfl⟩ := Array.getElem?_eq_some_iff.mp hc
    have q := List.all_eq_true.mp ((Array.all_eq_true_iff_forall_mem.mp hF) _ (Array.getElem_mem ha)) i (List.mem_range.mpr hi)
    simpa [Array.getElem?_eq_getElem hi] using q
  obtain ⟨i0, ei0⟩ := is_v g3
  obtain rfl : w0 = (.int i0) := Option.some.inj ei0
  obtain ⟨i1, ei1⟩ := isL_v g5
  obtain rfl : w1 = (.long i1) := Option.some.inj ei1
  obtain ⟨i2, ei2⟩ := isL_v g7
  obtain rfl : w2 = (.long i2) := Option.some.inj ei2
  obtain ⟨i3, ei3⟩ := isL_v g8
  obtain rfl : w3 = (.long i3) := Option.some.inj ei3
  obtain ⟨n, o, h1, h2, h3, _, L, rfl, ⟨rfl, N⟩, hq⟩ := rm0 l s _ hw i0 i1 i2 i3 s.heap s.heap.size (Nat.le_refl _) tables_1 p e ha hc hk s m _ below hf ((Spec.applies_iff_loose hf).mp happ).1 ⟨rfl, State.Warmed39.refl s, rfl⟩ trivial
  refine ⟨n, _, h1, h2, h3, hpost _ _ _ _ _ _ ⟨Cond.after_iff.mpr rfl, Cond.after_iff.mpr (eq_i res_at (Term.int_eval (1)) rfl), trivial⟩ ⟨hq.1, hq.2.1, (hq.2.2.sift fun y hy => Or.inr (N y hy)).mono (by decide) (by decide)⟩⟩
theorem main_1_1 : Claimed_1_1 := comes_1 fun _ _ _ _ _ _ h hF => ⟨h.1, hF⟩
theorem main_1_2 : Claimed_1_2 := comes_1 fun _ _ _ _ _ _ h hF => ⟨h.2.1, hF⟩
end Jvm.Pilot.@@N@@
namespace Jvm.Pilot.@@N@@
open Jvm Jvm.ClassFile Sem Op Lib Jvm.Free Jvm.Stand Jvm.Pilot.@@N@@.Jvm.D
/-! MADE BY PROGRAM (witnessworld.py) out of the Statement's table words and the real class files: 20 classes; the members and pool entries that the words name. The judged class is class 1, her method 1. -/
namespace start1
open Jvm.ClassFile
def u (s : String) : CpInfo := .utf8 (stringToUtf16 s)
/-- a pool by its gaps: so many unusable entries, then the entry; so many at the end -/
def gap : Nat → List CpInfo → List CpInfo
  | 0, r => r
  | n + 1, r => .unusable :: gap n r
def poolList (es : List (Nat × CpInfo)) (last : Nat) : List CpInfo := es.foldr (fun e r => gap e.1 (e.2 :: r)) (gap last [])
def pool (es : List (Nat × CpInfo)) (last : Nat) : Array CpInfo := ⟨poolList es last⟩
def fileOf (pool : Array CpInfo) (this : Nat) (attrs : Array Attribute := #[]) (ms : Array MethodInfo := #[]) (fl : Nat := 33) (sup : Nat := 0) (ifs : Array Nat := #[]) (fds : Array FieldInfo := #[]) : ClassFile where
  minorVersion := 0
  majorVersion := 65
  constantPool := pool
  accessFlags := fl
  thisClass := this
  superClass := sup
  interfaces := ifs
  fields := fds
  methods := ms
  attributes := attrs
def plain (name : String) (sup : Option ClassId) : Class where
  name := name
  kind := .ordinary
  loader := none
  accessFlags := 33
  super := sup
  interfaces := #[]
  cf := none
  fields := #[]
  methods := #[]
  instanceTypes := #[]
  staticTypes := #[]
  resolved := #[]
  callSites := []
  init := .initialized
  statics := none
  mirror := none

def pool0 : Array CpInfo := pool [(5, u "<init>"), (0, u "()V"), (1, .class_ 10), (1, u "java/lang/Object")] 113

def k0c0 : Code := { maxStack := 0, maxLocals := 1, code := object_method_1_code, exceptionTable := #[], attributes := #[] }
def k0m0 : Method := { name := "<init>", desc := "()V", sig := { parameters := [], returnType := none }, accessFlags := 1, code := some k0c0 }
/-- java/lang/Object -/
def k0 : Class := { plain "java/lang/Object" none with
  accessFlags := 33
  interfaces := #[]
  cf := some (fileOf pool0 8 #[] #[{ accessFlags := 1, nameIndex := 5, descriptorIndex := 6, attributes := #[] }] 33 0 #[] #[])
  fields := #[]
  methods := #[k0m0]
  instanceTypes := #[]
  staticTypes := #[]
  resolved := Array.replicate 124 none
  statics := none }

def pool1 : Array CpInfo := pool [(2, .class_ 4), (0, .nameAndType 5 6), (0, u "java/lang/Object"), (0, u "<init>"), (0, u "()V"), (2, .long 9223372036854775807), (1, .long 4611686018427387903), (1, .long 2305843009213693951), (1, .class_ 16), (0, u "com/example/stratasig/stratasig/index/GapCoding$Counts"), (0, .methodref 15 3), (0, .methodref 15 19), (0, .nameAndType 20 21), (0, u "add"), (0, u "(J)V"), (0, .methodref 15 23), (0, .nameAndType 24 25), (0, u "tally"), (0, u "()Lcom/example/stratasig/stratasig/index/GapCoding$Tally;"), (0, .methodref 15 27), (0, .nameAndType 28 29), (0, u "sum"), (0, u "()J"), (0, .methodref 31 32), (0, .class_ 33), (0, .nameAndType 34 29), (0, u "com/example/stratasig/stratasig/index/GapCoding$Tally"), (0, u "bits"), (0, .methodref 36 37), (0, .class_ 38), (0, .nameAndType 34 39), (0, u "com/example/stratasig/stratasig/index/GapCoding"), (0, u "([J)J"), (0, .methodref 31 41), (0, .nameAndType 42 43), (0, u "parameter"), (0, u "()I"), (0, .methodref 36 45), (0, .nameAndType 42 46), (0, u "([J)I"), (0, .class_ 48), (0, u "com/example/stratasig/stratasig/index/CountsAddPinLaw"), (2, u "law"), (0, u "(IJJJ)Z")] 8

def k1m0 : Method := { name := "<init>", desc := "()V", sig := { parameters := [], returnType := none }, accessFlags := 1, code := none }
def k1c1 : Code := { maxStack := 5, maxLocals := 21, code := code, exceptionTable := #[], attributes := #[] }
def k1m1 : Method := { name := "law", desc := "(IJJJ)Z", sig := { parameters := [.int, .long, .long, .long], returnType := some .boolean }, accessFlags := 9, code := some k1c1 }
/-- com/example/stratasig/stratasig/index/CountsAddPinLaw -/
def k1 : Class := { plain "com/example/stratasig/stratasig/index/CountsAddPinLaw" (some 0) with
  accessFlags := 49
  interfaces := #[]
  cf := some (fileOf pool1 47 #[] #[{ accessFlags := 1, nameIndex := 5, descriptorIndex := 6, attributes := #[] }, { accessFlags := 9, nameIndex := 51, descriptorIndex := 52, attributes := #[] }] 49 2 #[] #[])
  fields := #[]
  methods := #[k1m0, k1m1]
  instanceTypes := #[]
  staticTypes := #[]
  resolved := Array.replicate 61 none
  statics := none }

def pool2 : Array CpInfo := pool [(1, .class_ 2), (0, u "com/example/stratasig/stratasig/index/GapCoding"), (0, .methodref 4 5), (0, .class_ 6), (0, .nameAndType 7 8), (0, u "java/lang/Object"), (0, u "<init>"), (0, u "()V"), (0, .fieldref 10 11), (0, .class_ 12), (0, .nameAndType 13 14), (0, u "com/example/stratasig/stratasig/index/GapCoding$Counts"), (0, u "setBits"), (0, u "[J"), (0, .fieldref 10 16), (0, .nameAndType 17 18), (0, u "count"), (0, u "J"), (0, .fieldref 10 20), (0, .nameAndType 21 18), (0, u "sum"), (0, .methodref 23 24), (0, .class_ 25), (0, .nameAndType 26 27), (0, u "java/lang/Long"), (0, u "numberOfTrailingZeros"), (0, u "(J)I"), (0, .class_ 29), (0, u "com/example/stratasig/stratasig/index/GapCoding$Tally"), (0, .methodref 28 31), (0, .nameAndType 7 32), (0, u "(JJ)V"), (0, .fieldref 28 34), (0, .nameAndType 35 36), (0, u "lowest"), (0, u "I"), (0, .methodref 10 38), (0, .nameAndType 39 40), (0, u "quotients"), (0, u "(I)J"), (0, .fieldref 28 42), (0, .nameAndType 43 18), (0, u "atLowest"), (0, .fieldref 28 45), (0, .nameAndType 46 18), (0, u "oneAbove"), (0, .fieldref 28 48), (0, .nameAndType 49 18), (0, u "twoAbove"), (2, u "add"), (0, u "(J)V"), (3, u "()J"), (0, u "tally"), (0, u "()Lcom/example/stratasig/stratasig/index/GapCoding$Tally;")] 6

def k2c0 : Code := { maxStack := 2, maxLocals := 1, code := prog_129_method_1_code, exceptionTable := #[], attributes := #[] }
def k2m0 : Method := { name := "<init>", desc := "()V", sig := { parameters := [], returnType := none }, accessFlags := 0, code := some k2c0 }
def k2c1 : Code := { maxStack := 6, maxLocals := 5, code := prog_129_method_2_code, exceptionTable := #[], attributes := #[] }
def k2m1 : Method := { name := "add", desc := "(J)V", sig := { parameters := [.long], returnType := none }, accessFlags := 0, code := some k2c1 }
def k2c2 : Code := { maxStack := 2, maxLocals := 1, code := prog_129_method_5_code, exceptionTable := #[], attributes := #[] }
def k2m2 : Method := { name := "sum", desc := "()J", sig := { parameters := [], returnType := some .long }, accessFlags := 0, code := some k2c2 }
def k2c3 : Code := { maxStack := 6, maxLocals := 2, code := prog_129_method_6_code, exceptionTable := #[], attributes := #[] }
def k2m3 : Method := { name := "tally", desc := "()Lcom/example/stratasig/stratasig/index/GapCoding$Tally;", sig := { parameters := [], returnType := some (.object "com/example/stratasig/stratasig/index/GapCoding$Tally") }, accessFlags := 0, code := some k2c3 }
def k2c4 : Code := { maxStack := 6, maxLocals := 5, code := prog_129_method_7_code, exceptionTable := #[], attributes := #[] }
def k2m4 : Method := { name := "quotients", desc := "(I)J", sig := { parameters := [.int], returnType := some .long }, accessFlags := 2, code := some k2c4 }
/-- com/example/stratasig/stratasig/index/GapCoding$Counts -/
def k2 : Class := { plain "com/example/stratasig/stratasig/index/GapCoding$Counts" (some 0) with
  accessFlags := 48
  interfaces := #[]
  cf := some (fileOf pool2 10 #[.nestHost 1] #[{ accessFlags := 0, nameIndex := 7, descriptorIndex := 8, attributes := #[] }, { accessFlags := 0, nameIndex := 52, descriptorIndex := 53, attributes := #[] }, { accessFlags := 0, nameIndex := 21, descriptorIndex := 57, attributes := #[] }, { accessFlags := 0, nameIndex := 58, descriptorIndex := 59, attributes := #[] }, { accessFlags := 2, nameIndex := 39, descriptorIndex := 40, attributes := #[] }] 48 4 #[] #[{ accessFlags := 2, nameIndex := 17, descriptorIndex := 18, attributes := #[] }, { accessFlags := 2, nameIndex := 21, descriptorIndex := 18, attributes := #[] }, { accessFlags := 18, nameIndex := 13, descriptorIndex := 14, attributes := #[] }])
  fields := #[{ name := "count", type := .long, accessFlags := 2, slot := 0, constantValue := 0 }, { name := "sum", type := .long, accessFlags := 2, slot := 1, constantValue := 0 }, { name := "setBits", type := (.array .long), accessFlags := 18, slot := 2, constantValue := 0 }]
  methods := #[k2m0, k2m1, k2m2, k2m3, k2m4]
  instanceTypes := #[.long, .long, (.array .long)]
  staticTypes := #[]
  resolved := Array.replicate 66 none
  statics := none }

def pool3 : Array CpInfo := pool [(1, .class_ 2), (0, u "com/example/stratasig/stratasig/index/GapCoding"), (0, .methodref 4 5), (0, .class_ 6), (0, .nameAndType 7 8), (0, u "java/lang/Object"), (0, u "<init>"), (0, u "()V"), (0, .fieldref 10 11), (0, .class_ 12), (0, .nameAndType 13 14), (0, u "com/example/stratasig/stratasig/index/GapCoding$Tally"), (0, u "count"), (0, u "J"), (0, .fieldref 10 16), (0, .nameAndType 17 14), (0, u "sum"), (0, .methodref 19 20), (0, .class_ 21), (0, .nameAndType 22 23), (0, u "java/lang/Long"), (0, u "numberOfLeadingZeros"), (0, u "(J)I"), (0, .methodref 25 26), (0, .class_ 27), (0, .nameAndType 28 29), (0, u "java/lang/Math"), (0, u "max"), (0, u "(II)I"), (0, .fieldref 10 31), (0, .nameAndType 32 33), (0, u "lowest"), (0, u "I"), (2, u "(JJ)V"), (0, .fieldref 10 38), (0, .nameAndType 39 14), (0, u "atLowest"), (0, .fieldref 10 41), (0, .nameAndType 42 14), (0, u "oneAbove"), (0, .fieldref 10 44), (0, .nameAndType 45 14), (0, u "twoAbove"), (0, .methodref 10 47), (0, .nameAndType 48 49), (0, u "quotients"), (0, u "([JI)J"), (0, .methodref 10 51), (0, .nameAndType 52 53), (0, u "best"), (0, u "()I"), (0, .methodref 10 55), (0, .nameAndType 48 56), (0, u "()[J"), (12, u "add"), (1, u "([J)V"), (2, u "parameter"), (0, u "bits"), (0, u "()J")] 7

def k3c0 : Code := { maxStack := 5, maxLocals := 7, code := prog_131_method_1_code, exceptionTable := #[], attributes := #[] }
def k3m0 : Method := { name := "<init>", desc := "(JJ)V", sig := { parameters := [.long, .long], returnType := none }, accessFlags := 0, code := some k3c0 }
def k3c1 : Code := { maxStack := 6, maxLocals := 2, code := prog_131_method_4_code, exceptionTable := #[], attributes := #[] }
def k3m1 : Method := { name := "add", desc := "([J)V", sig := { parameters := [(.array .long)], returnType := none }, accessFlags := 0, code := some k3c1 }
def k3c2 : Code := { maxStack := 5, maxLocals := 9, code := prog_131_method_5_code, exceptionTable := #[], attributes := #[] }
def k3m2 : Method := { name := "quotients", desc := "([JI)J", sig := { parameters := [(.array .long), .int], returnType := some .long }, accessFlags := 10, code := some k3c2 }
def k3c3 : Code := { maxStack := 2, maxLocals := 1, code := prog_131_method_8_code, exceptionTable := #[], attributes := #[] }
def k3m3 : Method := { name := "parameter", desc := "()I", sig := { parameters := [], returnType := some .int }, accessFlags := 0, code := some k3c3 }
def k3c4 : Code := { maxStack := 4, maxLocals := 2, code := prog_131_method_9_code, exceptionTable := #[], attributes := #[] }
def k3m4 : Method := { name := "bits", desc := "()J", sig := { parameters := [], returnType := some .long }, accessFlags := 0, code := some k3c4 }
def k3c5 : Code := { maxStack := 6, maxLocals := 4, code := prog_131_method_12_code, exceptionTable := #[], attributes := #[] }
def k3m5 : Method := { name := "best", desc := "()I", sig := { parameters := [], returnType := some .int }, accessFlags := 2, code := some k3c5 }
def k3c6 : Code := { maxStack := 5, maxLocals := 1, code := prog_131_method_13_code, exceptionTable := #[], attributes := #[] }
def k3m6 : Method := { name := "quotients", desc := "()[J", sig := { parameters := [], returnType := some (.array .long) }, accessFlags := 2, code := some k3c6 }
/-- com/example/stratasig/stratasig/index/GapCoding$Tally -/
def k3 : Class := { plain "com/example/stratasig/stratasig/index/GapCoding$Tally" (some 0) with
  accessFlags := 48
  interfaces := #[]
  cf := some (fileOf pool3 10 #[.nestHost 1] #[{ accessFlags := 0, nameIndex := 7, descriptorIndex := 36, attributes := #[] }, { accessFlags := 0, nameIndex := 69, descriptorIndex := 71, attributes := #[] }, { accessFlags := 10, nameIndex := 48, descriptorIndex := 49, attributes := #[] }, { accessFlags := 0, nameIndex := 74, descriptorIndex := 53, attributes := #[] }, { accessFlags := 0, nameIndex := 75, descriptorIndex := 76, attributes := #[] }, { accessFlags := 2, nameIndex := 52, descriptorIndex := 53, attributes := #[] }, { accessFlags := 2, nameIndex := 48, descriptorIndex := 56, attributes := #[] }] 48 4 #[] #[{ accessFlags := 18, nameIndex := 13, descriptorIndex := 14, attributes := #[] }, { accessFlags := 18, nameIndex := 17, descriptorIndex := 14, attributes := #[] }, { accessFlags := 18, nameIndex := 32, descriptorIndex := 33, attributes := #[] }, { accessFlags := 2, nameIndex := 39, descriptorIndex := 14, attributes := #[] }, { accessFlags := 2, nameIndex := 42, descriptorIndex := 14, attributes := #[] }, { accessFlags := 2, nameIndex := 45, descriptorIndex := 14, attributes := #[] }])
  fields := #[{ name := "count", type := .long, accessFlags := 18, slot := 0, constantValue := 0 }, { name := "sum", type := .long, accessFlags := 18, slot := 1, constantValue := 0 }, { name := "lowest", type := .int, accessFlags := 18, slot := 2, constantValue := 0 }, { name := "atLowest", type := .long, accessFlags := 2, slot := 3, constantValue := 0 }, { name := "oneAbove", type := .long, accessFlags := 2, slot := 4, constantValue := 0 }, { name := "twoAbove", type := .long, accessFlags := 2, slot := 5, constantValue := 0 }]
  methods := #[k3m0, k3m1, k3m2, k3m3, k3m4, k3m5, k3m6]
  instanceTypes := #[.long, .long, .int, .long, .long, .long]
  staticTypes := #[]
  resolved := Array.replicate 84 none
  statics := none }

def pool4 : Array CpInfo := pool [(1, .class_ 2), (0, u "java/io/Serializable"), (0, .class_ 4), (0, u "java/lang/Object")] 2

/-- java/io/Serializable -/
def k4 : Class := { plain "java/io/Serializable" (some 0) with
  accessFlags := 1537
  interfaces := #[]
  cf := some (fileOf pool4 1 #[] #[] 1537 3 #[] #[])
  fields := #[]
  methods := #[]
  instanceTypes := #[]
  staticTypes := #[]
  resolved := Array.replicate 7 none
  statics := none }

def pool5 : Array CpInfo := pool [(2, .class_ 4), (1, u "java/lang/Object"), (0, u "<init>"), (0, u "()V"), (1, .class_ 10), (1, u "java/lang/Number"), (2, .class_ 14), (0, u "java/io/Serializable"), (0, u "serialVersionUID"), (0, u "J")] 20

def k5m0 : Method := { name := "<init>", desc := "()V", sig := { parameters := [], returnType := none }, accessFlags := 1, code := none }
/-- java/lang/Number -/
def k5 : Class := { plain "java/lang/Number" (some 0) with
  accessFlags := 1057
  interfaces := #[4]
  cf := some (fileOf pool5 8 #[] #[{ accessFlags := 1, nameIndex := 5, descriptorIndex := 6, attributes := #[] }] 1057 2 #[13] #[{ accessFlags := 26, nameIndex := 15, descriptorIndex := 16, attributes := #[] }])
  fields := #[{ name := "serialVersionUID", type := .long, accessFlags := 26, slot := 0, constantValue := 0 }]
  methods := #[k5m0]
  instanceTypes := #[]
  staticTypes := #[.long]
  resolved := Array.replicate 37 none
  statics := none }

def pool6 : Array CpInfo := pool [(1, .class_ 2), (0, u "java/lang/Comparable"), (0, .class_ 4), (0, u "java/lang/Object")] 7

/-- java/lang/Comparable -/
def k6 : Class := { plain "java/lang/Comparable" (some 0) with
  accessFlags := 1537
  interfaces := #[]
  cf := some (fileOf pool6 1 #[] #[] 1537 3 #[] #[])
  fields := #[]
  methods := #[]
  instanceTypes := #[]
  staticTypes := #[]
  resolved := Array.replicate 12 none
  statics := none }

def pool7 : Array CpInfo := pool [(1, .class_ 2), (0, u "java/lang/constant/Constable"), (0, .class_ 4), (0, u "java/lang/Object")] 6

/-- java/lang/constant/Constable -/
def k7 : Class := { plain "java/lang/constant/Constable" (some 0) with
  accessFlags := 1537
  interfaces := #[]
  cf := some (fileOf pool7 1 #[] #[] 1537 3 #[] #[])
  fields := #[]
  methods := #[]
  instanceTypes := #[]
  staticTypes := #[]
  resolved := Array.replicate 11 none
  statics := none }

def pool8 : Array CpInfo := pool [(1, .class_ 2), (0, u "java/lang/constant/ConstantDesc"), (0, .class_ 4), (0, u "java/lang/Object")] 32

/-- java/lang/constant/ConstantDesc -/
def k8 : Class := { plain "java/lang/constant/ConstantDesc" (some 0) with
  accessFlags := 1537
  interfaces := #[]
  cf := some (fileOf pool8 1 #[] #[] 1537 3 #[] #[])
  fields := #[]
  methods := #[]
  instanceTypes := #[]
  staticTypes := #[]
  resolved := Array.replicate 37 none
  statics := none }

def pool9 : Array CpInfo := pool [(1, .class_ 2), (0, u "java/lang/Long"), (15, .class_ 20), (1, u "java/lang/Integer"), (79, u "numberOfLeadingZeros"), (0, u "(J)I"), (133, .class_ 237), (1, u "java/lang/Long$LongCache"), (33, .class_ 272), (0, u "java/lang/Number"), (2, u "value"), (0, u "J"), (31, .methodref 18 309), (0, .nameAndType 100 310), (0, u "(I)I"), (0, .methodref 18 312), (0, .nameAndType 313 310), (0, u "numberOfTrailingZeros"), (47, u "TYPE"), (0, u "Ljava/lang/Class;"), (0, .class_ 364), (0, u "java/lang/Comparable"), (0, .class_ 366), (0, u "java/lang/constant/Constable"), (0, .class_ 368), (0, u "java/lang/constant/ConstantDesc"), (0, u "MIN_VALUE"), (1, u "MAX_VALUE"), (4, u "SIZE"), (0, u "I"), (1, u "BYTES"), (1, u "serialVersionUID")] 142

def k9c0 : Code := { maxStack := 3, maxLocals := 3, code := jdk_35_method_48_code, exceptionTable := #[], attributes := #[] }
def k9m0 : Method := { name := "numberOfLeadingZeros", desc := "(J)I", sig := { parameters := [.long], returnType := some .int }, accessFlags := 9, code := some k9c0 }
def k9c1 : Code := { maxStack := 4, maxLocals := 3, code := jdk_35_method_49_code, exceptionTable := #[], attributes := #[] }
def k9m1 : Method := { name := "numberOfTrailingZeros", desc := "(J)I", sig := { parameters := [.long], returnType := some .int }, accessFlags := 9, code := some k9c1 }
/-- java/lang/Long -/
def k9 : Class := { plain "java/lang/Long" (some 5) with
  accessFlags := 49
  interfaces := #[6, 7, 8]
  cf := some (fileOf pool9 1 #[.nestMembers #[235]] #[{ accessFlags := 9, nameIndex := 100, descriptorIndex := 101, attributes := #[] }, { accessFlags := 9, nameIndex := 313, descriptorIndex := 101, attributes := #[] }] 49 271 #[363, 365, 367] #[{ accessFlags := 25, nameIndex := 369, descriptorIndex := 276, attributes := #[] }, { accessFlags := 25, nameIndex := 371, descriptorIndex := 276, attributes := #[] }, { accessFlags := 25, nameIndex := 361, descriptorIndex := 362, attributes := #[] }, { accessFlags := 18, nameIndex := 275, descriptorIndex := 276, attributes := #[] }, { accessFlags := 25, nameIndex := 376, descriptorIndex := 377, attributes := #[] }, { accessFlags := 25, nameIndex := 379, descriptorIndex := 377, attributes := #[] }, { accessFlags := 26, nameIndex := 381, descriptorIndex := 276, attributes := #[] }])
  fields := #[{ name := "MIN_VALUE", type := .long, accessFlags := 25, slot := 0, constantValue := 0 }, { name := "MAX_VALUE", type := .long, accessFlags := 25, slot := 1, constantValue := 0 }, { name := "TYPE", type := (.object "java/lang/Class"), accessFlags := 25, slot := 2, constantValue := 0 }, { name := "value", type := .long, accessFlags := 18, slot := 0, constantValue := 0 }, { name := "SIZE", type := .int, accessFlags := 25, slot := 3, constantValue := 0 }, { name := "BYTES", type := .int, accessFlags := 25, slot := 4, constantValue := 0 }, { name := "serialVersionUID", type := .long, accessFlags := 26, slot := 5, constantValue := 0 }]
  methods := #[k9m0, k9m1]
  instanceTypes := #[.long]
  staticTypes := #[.long, .long, (.object "java/lang/Class"), .int, .int, .long]
  resolved := Array.replicate 524 none
  statics := none }

def pool10 : Array CpInfo := pool [(1, .class_ 2), (0, u "java/lang/Integer"), (16, u "digits"), (0, u "[C"), (32, u "numberOfLeadingZeros"), (0, u "(I)I"), (30, u "DigitOnes"), (0, u "[B"), (2, u "DigitTens"), (99, .class_ 190), (0, u "java/lang/Integer$IntegerCache"), (3, u "I"), (8, .class_ 204), (0, u "java/lang/Number"), (2, u "value"), (56, .integer 65536), (37, u "TYPE"), (0, u "Ljava/lang/Class;"), (0, .class_ 305), (0, u "java/lang/Comparable"), (0, .class_ 307), (0, u "java/lang/constant/Constable"), (0, .class_ 309), (0, u "java/lang/constant/ConstantDesc"), (0, u "MIN_VALUE"), (1, u "MAX_VALUE"), (3, u "SIZE"), (1, u "BYTES"), (1, u "serialVersionUID"), (0, u "J"), (84, u "numberOfTrailingZeros")] 46

def k10c0 : Code := { maxStack := 3, maxLocals := 2, code := jdk_33_method_47_code, exceptionTable := #[], attributes := #[] }
def k10m0 : Method := { name := "numberOfLeadingZeros", desc := "(I)I", sig := { parameters := [.int], returnType := some .int }, accessFlags := 9, code := some k10c0 }
def k10c1 : Code := { maxStack := 3, maxLocals := 2, code := jdk_33_method_48_code, exceptionTable := #[], attributes := #[] }
def k10m1 : Method := { name := "numberOfTrailingZeros", desc := "(I)I", sig := { parameters := [.int], returnType := some .int }, accessFlags := 9, code := some k10c1 }
/-- java/lang/Integer -/
def k10 : Class := { plain "java/lang/Integer" (some 5) with
  accessFlags := 49
  interfaces := #[6, 7, 8]
  cf := some (fileOf pool10 1 #[.nestMembers #[189]] #[{ accessFlags := 9, nameIndex := 53, descriptorIndex := 54, attributes := #[] }, { accessFlags := 9, nameIndex := 406, descriptorIndex := 54, attributes := #[] }] 49 203 #[304, 306, 308] #[{ accessFlags := 25, nameIndex := 310, descriptorIndex := 194, attributes := #[] }, { accessFlags := 25, nameIndex := 312, descriptorIndex := 194, attributes := #[] }, { accessFlags := 25, nameIndex := 302, descriptorIndex := 303, attributes := #[] }, { accessFlags := 24, nameIndex := 19, descriptorIndex := 20, attributes := #[] }, { accessFlags := 24, nameIndex := 89, descriptorIndex := 86, attributes := #[] }, { accessFlags := 24, nameIndex := 85, descriptorIndex := 86, attributes := #[] }, { accessFlags := 18, nameIndex := 207, descriptorIndex := 194, attributes := #[] }, { accessFlags := 25, nameIndex := 316, descriptorIndex := 194, attributes := #[] }, { accessFlags := 25, nameIndex := 318, descriptorIndex := 194, attributes := #[] }, { accessFlags := 26, nameIndex := 320, descriptorIndex := 321, attributes := #[] }])
  fields := #[{ name := "MIN_VALUE", type := .int, accessFlags := 25, slot := 0, constantValue := 0 }, { name := "MAX_VALUE", type := .int, accessFlags := 25, slot := 1, constantValue := 0 }, { name := "TYPE", type := (.object "java/lang/Class"), accessFlags := 25, slot := 2, constantValue := 0 }, { name := "digits", type := (.array .char), accessFlags := 24, slot := 3, constantValue := 0 }, { name := "DigitTens", type := (.array .byte), accessFlags := 24, slot := 4, constantValue := 0 }, { name := "DigitOnes", type := (.array .byte), accessFlags := 24, slot := 5, constantValue := 0 }, { name := "value", type := .int, accessFlags := 18, slot := 0, constantValue := 0 }, { name := "SIZE", type := .int, accessFlags := 25, slot := 6, constantValue := 0 }, { name := "BYTES", type := .int, accessFlags := 25, slot := 7, constantValue := 0 }, { name := "serialVersionUID", type := .long, accessFlags := 26, slot := 8, constantValue := 0 }]
  methods := #[k10m0, k10m1]
  instanceTypes := #[.int]
  staticTypes := #[.int, .int, (.object "java/lang/Class"), (.array .char), (.array .byte), (.array .byte), .int, .int, .long]
  resolved := Array.replicate 453 none
  statics := none }

def pool11 : Array CpInfo := pool [(1, .class_ 2), (0, u "java/lang/Math"), (1, .class_ 6), (1, u "java/lang/Object"), (0, u "<init>"), (0, u "()V"), (89, .class_ 100), (1, u "java/lang/Math$RandomNumberGeneratorHolder"), (71, u "negativeZeroFloatBits"), (0, u "J"), (2, u "negativeZeroDoubleBits"), (21, u "max"), (46, u "$assertionsDisabled"), (0, u "Z"), (88, u "(II)I"), (2, u "twoToTheDoubleScaleDown"), (0, u "D"), (4, u "twoToTheDoubleScaleUp"), (9, u "E"), (3, u "PI"), (2, u "TAU"), (2, u "DEGREES_TO_RADIANS"), (0, u "RADIANS_TO_DEGREES")] 94

def k11m0 : Method := { name := "<init>", desc := "()V", sig := { parameters := [], returnType := none }, accessFlags := 2, code := none }
def k11c1 : Code := { maxStack := 2, maxLocals := 2, code := jdk_29_method_65_code, exceptionTable := #[], attributes := #[] }
def k11m1 : Method := { name := "max", desc := "(II)I", sig := { parameters := [.int, .int], returnType := some .int }, accessFlags := 9, code := some k11c1 }
/-- java/lang/Math -/
def k11 : Class := { plain "java/lang/Math" (some 0) with
  accessFlags := 49
  interfaces := #[]
  cf := some (fileOf pool11 1 #[.nestMembers #[98]] #[{ accessFlags := 2, nameIndex := 7, descriptorIndex := 8, attributes := #[] }, { accessFlags := 9, nameIndex := 198, descriptorIndex := 335, attributes := #[] }] 49 4 #[] #[{ accessFlags := 25, nameIndex := 354, descriptorIndex := 339, attributes := #[] }, { accessFlags := 25, nameIndex := 358, descriptorIndex := 339, attributes := #[] }, { accessFlags := 25, nameIndex := 361, descriptorIndex := 339, attributes := #[] }, { accessFlags := 26, nameIndex := 364, descriptorIndex := 339, attributes := #[] }, { accessFlags := 26, nameIndex := 365, descriptorIndex := 339, attributes := #[] }, { accessFlags := 26, nameIndex := 172, descriptorIndex := 173, attributes := #[] }, { accessFlags := 26, nameIndex := 176, descriptorIndex := 173, attributes := #[] }, { accessFlags := 8, nameIndex := 344, descriptorIndex := 339, attributes := #[] }, { accessFlags := 8, nameIndex := 338, descriptorIndex := 339, attributes := #[] }, { accessFlags := 4120, nameIndex := 245, descriptorIndex := 246, attributes := #[] }])
  fields := #[{ name := "E", type := .double, accessFlags := 25, slot := 0, constantValue := 0 }, { name := "PI", type := .double, accessFlags := 25, slot := 1, constantValue := 0 }, { name := "TAU", type := .double, accessFlags := 25, slot := 2, constantValue := 0 }, { name := "DEGREES_TO_RADIANS", type := .double, accessFlags := 26, slot := 3, constantValue := 0 }, { name := "RADIANS_TO_DEGREES", type := .double, accessFlags := 26, slot := 4, constantValue := 0 }, { name := "negativeZeroFloatBits", type := .long, accessFlags := 26, slot := 5, constantValue := 0 }, { name := "negativeZeroDoubleBits", type := .long, accessFlags := 26, slot := 6, constantValue := 0 }, { name := "twoToTheDoubleScaleUp", type := .double, accessFlags := 8, slot := 7, constantValue := 0 }, { name := "twoToTheDoubleScaleDown", type := .double, accessFlags := 8, slot := 8, constantValue := 0 }, { name := "$assertionsDisabled", type := .boolean, accessFlags := 4120, slot := 9, constantValue := 0 }]
  methods := #[k11m0, k11m1]
  instanceTypes := #[]
  staticTypes := #[.double, .double, .double, .double, .double, .long, .long, .double, .double, .boolean]
  resolved := Array.replicate 460 none
  statics := none }

def pool12 : Array CpInfo := pool [(2, .class_ 4), (1, u "java/lang/Object"), (0, u "<init>"), (0, u "()V"), (0, .methodref 8 9), (0, .class_ 10), (0, .nameAndType 11 12), (0, u "com/example/stratasig/stratasig/index/GapCoding"), (0, u "tally"), (0, u "([J)Lcom/example/stratasig/stratasig/index/GapCoding$Tally;"), (0, .methodref 14 15), (0, .class_ 16), (0, .nameAndType 17 18), (0, u "com/example/stratasig/stratasig/index/GapCoding$Tally"), (0, u "parameter"), (0, u "()I"), (0, .methodref 14 20), (0, .nameAndType 21 22), (0, u "bits"), (0, u "()J"), (0, .methodref 14 24), (0, .nameAndType 5 25), (0, u "(JJ)V"), (0, .methodref 14 27), (0, .nameAndType 28 29), (0, u "add"), (0, u "([J)V"), (23, u "MAX_PARAMETER"), (0, u "I"), (4, u "([J)I"), (0, u "([J)J"), (12, .class_ 74), (0, u "com/example/stratasig/stratasig/index/GapCoding$Decoder"), (0, .class_ 76), (0, u "com/example/stratasig/stratasig/index/GapCoding$Counts")] 4

def k12m0 : Method := { name := "<init>", desc := "()V", sig := { parameters := [], returnType := none }, accessFlags := 2, code := none }
def k12c1 : Code := { maxStack := 1, maxLocals := 1, code := prog_128_method_2_code, exceptionTable := #[], attributes := #[] }
def k12m1 : Method := { name := "parameter", desc := "([J)I", sig := { parameters := [(.array .long)], returnType := some .int }, accessFlags := 8, code := some k12c1 }
def k12c2 : Code := { maxStack := 2, maxLocals := 1, code := prog_128_method_3_code, exceptionTable := #[], attributes := #[] }
def k12m2 : Method := { name := "bits", desc := "([J)J", sig := { parameters := [(.array .long)], returnType := some .long }, accessFlags := 8, code := some k12c2 }
def k12c3 : Code := { maxStack := 6, maxLocals := 8, code := prog_128_method_4_code, exceptionTable := #[], attributes := #[] }
def k12m3 : Method := { name := "tally", desc := "([J)Lcom/example/stratasig/stratasig/index/GapCoding$Tally;", sig := { parameters := [(.array .long)], returnType := some (.object "com/example/stratasig/stratasig/index/GapCoding$Tally") }, accessFlags := 10, code := some k12c3 }
/-- com/example/stratasig/stratasig/index/GapCoding -/
def k12 : Class := { plain "com/example/stratasig/stratasig/index/GapCoding" (some 0) with
  accessFlags := 48
  interfaces := #[]
  cf := some (fileOf pool12 8 #[.nestMembers #[14, 73, 75]] #[{ accessFlags := 2, nameIndex := 5, descriptorIndex := 6, attributes := #[] }, { accessFlags := 8, nameIndex := 17, descriptorIndex := 59, attributes := #[] }, { accessFlags := 8, nameIndex := 21, descriptorIndex := 60, attributes := #[] }, { accessFlags := 10, nameIndex := 11, descriptorIndex := 12, attributes := #[] }] 48 2 #[] #[{ accessFlags := 24, nameIndex := 53, descriptorIndex := 54, attributes := #[] }])
  fields := #[{ name := "MAX_PARAMETER", type := .int, accessFlags := 24, slot := 0, constantValue := 0 }]
  methods := #[k12m0, k12m1, k12m2, k12m3]
  instanceTypes := #[]
  staticTypes := #[.int]
  resolved := Array.replicate 81 none
  statics := none }

def pool13 : Array CpInfo := pool [(1, u "java/lang/Cloneable"), (0, .class_ 1), (0, u "java/lang/Object"), (0, .class_ 3)] 3

/-- java/lang/Cloneable -/
def k13 : Class := { plain "java/lang/Cloneable" (some 0) with
  accessFlags := 1537
  interfaces := #[]
  cf := some (fileOf pool13 2 #[] #[] 1537 4 #[] #[])
  fields := #[]
  methods := #[]
  instanceTypes := #[]
  staticTypes := #[]
  resolved := Array.replicate 8 none
  statics := none }

/-- the primitive byte -/
def k14 : Class := { plain "byte" none with kind := .primitive 'B', accessFlags := 0x411 }
/-- [B -/
def k15 : Class := { plain "[B" (some 0) with kind := .array 14 .byte, interfaces := #[13, 4], accessFlags := 1041 }

/-- the primitive int -/
def k16 : Class := { plain "int" none with kind := .primitive 'I', accessFlags := 0x411 }
/-- [I -/
def k17 : Class := { plain "[I" (some 0) with kind := .array 16 .int, interfaces := #[13, 4], accessFlags := 1041 }

/-- the primitive long -/
def k18 : Class := { plain "long" none with kind := .primitive 'J', accessFlags := 0x411 }
/-- [J -/
def k19 : Class := { plain "[J" (some 0) with kind := .array 18 .long, interfaces := #[13, 4], accessFlags := 1041 }

def heap : Heap := #[]
def classes : Array Class := #[k0, k1, k2, k3, k4, k5, k6, k7, k8, k9, k10, k11, k12, k13, k14, k15, k16, k17, k18, k19]
def interned : List (Array UInt16 × Addr) := []
def slotsUsed : Nat := 0
def theMethod : MethodId := ⟨1, 1⟩
def args0 : Array Value := #[.int 5, .long 6, .long 7, .long 8]
def aboutOver (below : List Frame) : State where
  vm := { classes := classes, interned := interned.toArray }
  heap := heap
  slotsUsed := slotsUsed
  threads := #[{ frames := .invoking theMethod args0 :: below }]
def below0 : List Frame := [.native { method := ⟨0, 0⟩, args := #[] }]
def about1 : State := aboutOver below0
def p0 : Program := .bare "" "" ""
def e0 : Env := launch0.env 0 0 0
theorem w_frames : about1.frames = Frame.invoking theMethod args0 :: below0 := rfl
set_option maxRecDepth 65536 in
theorem w_args : argsFit about1.vm theMethod args0 = true := by decide +kernel
set_option maxRecDepth 65536 in
theorem w_heap : heapFits about1 = true := by decide +kernel
set_option maxRecDepth 65536 in
theorem w_runnable : about1.curStatus? = some .runnable := by decide +kernel
set_option maxRecDepth 65536 in
theorem w_alone : about1.alone = true := by decide +kernel
set_option maxRecDepth 65536 in
theorem w_named : about1.methodNamed? x = some theMethod := by decide +kernel
set_option maxRecDepth 65536 in
theorem w_hears : about1.hears theMethod below0 = true := by decide +kernel
set_option maxRecDepth 65536 in
theorem w_ripe : about1.ripe theMethod args0 below0 = true := by decide +kernel
theorem w_running : about1.status = .running := rfl
set_option maxRecDepth 65536 in
theorem w_room : about1.hasRoom e0.platform room_1 = true :=
  launch0.hasRoom_least _ room_1 (by decide +kernel) (by decide +kernel) (by decide +kernel) (by decide +kernel) (by decide +kernel) (by decide +kernel)
theorem allAtoms_all (ts : List Jvm.Cond) (a : Array Jvm.Value) (st : Jvm.State) : (allAtoms ts).before a st = ts.all (fun c => c.before a st) := by
  induction ts with
  | nil => rfl
  | cons c t ih =>
    show (Jvm.Cond.and c (allAtoms t)).before a st = _
    rw [Jvm.Cond.before_and, ih, List.all_cons]
def words1 : List Jvm.Cond := Jvm.Cond.code x code maxLocals ret :: tables_1
/-- a 'code' word, met by the world's own term for the bytes: nothing is compared byte by byte -/
theorem code_word {y : MethodName} {bytes : ByteArray} {mx : Nat} {rt : Option FieldType} {a : Array Value} {s : State} {m : MethodId} {meth : Method} {c : Code} (h1 : s.methodNamed? y = some m) (h2 : s.vm.method? m = some meth) (h3 : meth.code = some c) (h4 : c.code = bytes)
    (h5 : (c.maxLocals == mx && c.exceptionTable.isEmpty && decide (c.maxStack ≤ mostOperands) && decide (meth.sig.returnType = rt) && !meth.locks && decide (parseMethodDescriptor y.desc = some meth.sig)) = true) : (Jvm.Cond.code y bytes mx rt).before a s = true := by
  simp only [Bool.and_eq_true, beq_iff_eq, Bool.not_eq_true', decide_eq_true_eq] at h5
  obtain ⟨⟨⟨⟨⟨g1, g2⟩, g3⟩, g4⟩, g5⟩, g6⟩ := h5
  simp [Cond.before, Cond.holds, Cond.value, h1, h2, h3, h4, g1, g2, g3, g4, g5, g6]
def isCode : Jvm.Cond → Bool
  | .code _ _ _ _ => true
  | _ => false
theorem all_split {L : List Jvm.Cond} {P : Jvm.Cond → Bool} (h1 : L.all (fun c => isCode c || P c) = true) (h2 : ∀ c ∈ L.filter isCode, P c = true) : L.all P = true := by
  refine List.all_eq_true.mpr fun c hc => ?_
  have h := List.all_eq_true.mp h1 c hc
  rcases Bool.eq_false_or_eq_true (isCode c) with hi | hi
  · exact h2 c (List.mem_filter.mpr ⟨hc, hi⟩)
  · simpa [hi] using h
set_option maxRecDepth 65536 in
theorem w_c0 : (Jvm.Cond.code x code maxLocals ret).before args0 about1 = true := code_word (m := ⟨1, 1⟩) (meth := k1m1) (c := k1c1) (by decide +kernel) rfl rfl rfl (by decide +kernel)
set_option maxRecDepth 65536 in
theorem w_c1 : (Jvm.Cond.code ({ cls := "com/example/stratasig/stratasig/index/GapCoding$Counts", name := "<init>", desc := "()V" } : Jvm.MethodName) prog_129_method_1_code (1 : Nat) (Option.none : Option Jvm.ClassFile.FieldType)).before args0 about1 = true := code_word (m := ⟨2, 0⟩) (meth := k2m0) (c := k2c0) (by decide +kernel) rfl rfl rfl (by decide +kernel)
set_option maxRecDepth 65536 in
theorem w_c2 : (Jvm.Cond.code ({ cls := "java/lang/Object", name := "<init>", desc := "()V" } : Jvm.MethodName) object_method_1_code (1 : Nat) (Option.none : Option Jvm.ClassFile.FieldType)).before args0 about1 = true := code_word (m := ⟨0, 0⟩) (meth := k0m0) (c := k0c0) (by decide +kernel) rfl rfl rfl (by decide +kernel)
set_option maxRecDepth 65536 in
theorem w_c3 : (Jvm.Cond.code ({ cls := "com/example/stratasig/stratasig/index/GapCoding$Counts", name := "tally", desc := "()Lcom/example/stratasig/stratasig/index/GapCoding$Tally;" } : Jvm.MethodName) prog_129_method_6_code (2 : Nat) (Option.some (Jvm.ClassFile.FieldType.object "com/example/stratasig/stratasig/index/GapCoding$Tally"))).before args0 about1 = true := code_word (m := ⟨2, 3⟩) (meth := k2m3) (c := k2c3) (by decide +kernel) rfl rfl rfl (by decide +kernel)
set_option maxRecDepth 65536 in
theorem w_c4 : (Jvm.Cond.code ({ cls := "com/example/stratasig/stratasig/index/GapCoding$Tally", name := "<init>", desc := "(JJ)V" } : Jvm.MethodName) prog_131_method_1_code (7 : Nat) (Option.none : Option Jvm.ClassFile.FieldType)).before args0 about1 = true := code_word (m := ⟨3, 0⟩) (meth := k3m0) (c := k3c0) (by decide +kernel) rfl rfl rfl (by decide +kernel)
set_option maxRecDepth 65536 in
theorem w_c5 : (Jvm.Cond.code ({ cls := "java/lang/Long", name := "numberOfLeadingZeros", desc := "(J)I" } : Jvm.MethodName) jdk_35_method_48_code (3 : Nat) (Option.some Jvm.ClassFile.FieldType.int)).before args0 about1 = true := code_word (m := ⟨9, 0⟩) (meth := k9m0) (c := k9c0) (by decide +kernel) rfl rfl rfl (by decide +kernel)
set_option maxRecDepth 65536 in
theorem w_c6 : (Jvm.Cond.code ({ cls := "java/lang/Integer", name := "numberOfLeadingZeros", desc := "(I)I" } : Jvm.MethodName) jdk_33_method_47_code (2 : Nat) (Option.some Jvm.ClassFile.FieldType.int)).before args0 about1 = true := code_word (m := ⟨10, 0⟩) (meth := k10m0) (c := k10c0) (by decide +kernel) rfl rfl rfl (by decide +kernel)
set_option maxRecDepth 65536 in
theorem w_c7 : (Jvm.Cond.code ({ cls := "java/lang/Math", name := "max", desc := "(II)I" } : Jvm.MethodName) jdk_29_method_65_code (2 : Nat) (Option.some Jvm.ClassFile.FieldType.int)).before args0 about1 = true := code_word (m := ⟨11, 1⟩) (meth := k11m1) (c := k11c1) (by decide +kernel) rfl rfl rfl (by decide +kernel)
set_option maxRecDepth 65536 in
theorem w_c8 : (Jvm.Cond.code ({ cls := "com/example/stratasig/stratasig/index/GapCoding$Counts", name := "quotients", desc := "(I)J" } : Jvm.MethodName) prog_129_method_7_code (5 : Nat) (Option.some Jvm.ClassFile.FieldType.long)).before args0 about1 = true := code_word (m := ⟨2, 4⟩) (meth := k2m4) (c := k2c4) (by decide +kernel) rfl rfl rfl (by decide +kernel)
set_option maxRecDepth 65536 in
theorem w_c9 : (Jvm.Cond.code ({ cls := "com/example/stratasig/stratasig/index/GapCoding$Counts", name := "sum", desc := "()J" } : Jvm.MethodName) prog_129_method_5_code (1 : Nat) (Option.some Jvm.ClassFile.FieldType.long)).before args0 about1 = true := code_word (m := ⟨2, 2⟩) (meth := k2m2) (c := k2c2) (by decide +kernel) rfl rfl rfl (by decide +kernel)
set_option maxRecDepth 65536 in
theorem w_c10 : (Jvm.Cond.code ({ cls := "com/example/stratasig/stratasig/index/GapCoding$Tally", name := "bits", desc := "()J" } : Jvm.MethodName) prog_131_method_9_code (2 : Nat) (Option.some Jvm.ClassFile.FieldType.long)).before args0 about1 = true := code_word (m := ⟨3, 4⟩) (meth := k3m4) (c := k3c4) (by decide +kernel) rfl rfl rfl (by decide +kernel)
set_option maxRecDepth 65536 in
theorem w_c11 : (Jvm.Cond.code ({ cls := "com/example/stratasig/stratasig/index/GapCoding$Tally", name := "best", desc := "()I" } : Jvm.MethodName) prog_131_method_12_code (4 : Nat) (Option.some Jvm.ClassFile.FieldType.int)).before args0 about1 = true := code_word (m := ⟨3, 5⟩) (meth := k3m5) (c := k3c5) (by decide +kernel) rfl rfl rfl (by decide +kernel)
set_option maxRecDepth 65536 in
theorem w_c12 : (Jvm.Cond.code ({ cls := "com/example/stratasig/stratasig/index/GapCoding$Tally", name := "quotients", desc := "()[J" } : Jvm.MethodName) prog_131_method_13_code (1 : Nat) (Option.some (Jvm.ClassFile.FieldType.array Jvm.ClassFile.FieldType.long))).before args0 about1 = true := code_word (m := ⟨3, 6⟩) (meth := k3m6) (c := k3c6) (by decide +kernel) rfl rfl rfl (by decide +kernel)
set_option maxRecDepth 65536 in
theorem w_c13 : (Jvm.Cond.code ({ cls := "com/example/stratasig/stratasig/index/GapCoding", name := "bits", desc := "([J)J" } : Jvm.MethodName) prog_128_method_3_code (1 : Nat) (Option.some Jvm.ClassFile.FieldType.long)).before args0 about1 = true := code_word (m := ⟨12, 2⟩) (meth := k12m2) (c := k12c2) (by decide +kernel) rfl rfl rfl (by decide +kernel)
set_option maxRecDepth 65536 in
theorem w_c14 : (Jvm.Cond.code ({ cls := "com/example/stratasig/stratasig/index/GapCoding", name := "tally", desc := "([J)Lcom/example/stratasig/stratasig/index/GapCoding$Tally;" } : Jvm.MethodName) prog_128_method_4_code (8 : Nat) (Option.some (Jvm.ClassFile.FieldType.object "com/example/stratasig/stratasig/index/GapCoding$Tally"))).before args0 about1 = true := code_word (m := ⟨12, 3⟩) (meth := k12m3) (c := k12c3) (by decide +kernel) rfl rfl rfl (by decide +kernel)
set_option maxRecDepth 65536 in
theorem w_c15 : (Jvm.Cond.code ({ cls := "com/example/stratasig/stratasig/index/GapCoding$Tally", name := "add", desc := "([J)V" } : Jvm.MethodName) prog_131_method_4_code (2 : Nat) (Option.none : Option Jvm.ClassFile.FieldType)).before args0 about1 = true := code_word (m := ⟨3, 1⟩) (meth := k3m1) (c := k3c1) (by decide +kernel) rfl rfl rfl (by decide +kernel)
set_option maxRecDepth 65536 in
theorem w_c16 : (Jvm.Cond.code ({ cls := "com/example/stratasig/stratasig/index/GapCoding$Tally", name := "quotients", desc := "([JI)J" } : Jvm.MethodName) prog_131_method_5_code (9 : Nat) (Option.some Jvm.ClassFile.FieldType.long)).before args0 about1 = true := code_word (m := ⟨3, 2⟩) (meth := k3m2) (c := k3c2) (by decide +kernel) rfl rfl rfl (by decide +kernel)
set_option maxRecDepth 65536 in
theorem w_c17 : (Jvm.Cond.code ({ cls := "com/example/stratasig/stratasig/index/GapCoding$Tally", name := "parameter", desc := "()I" } : Jvm.MethodName) prog_131_method_8_code (1 : Nat) (Option.some Jvm.ClassFile.FieldType.int)).before args0 about1 = true := code_word (m := ⟨3, 3⟩) (meth := k3m3) (c := k3c3) (by decide +kernel) rfl rfl rfl (by decide +kernel)
set_option maxRecDepth 65536 in
theorem w_c18 : (Jvm.Cond.code ({ cls := "com/example/stratasig/stratasig/index/GapCoding", name := "parameter", desc := "([J)I" } : Jvm.MethodName) prog_128_method_2_code (1 : Nat) (Option.some Jvm.ClassFile.FieldType.int)).before args0 about1 = true := code_word (m := ⟨12, 1⟩) (meth := k12m1) (c := k12c1) (by decide +kernel) rfl rfl rfl (by decide +kernel)
set_option maxRecDepth 65536 in
theorem w_c19 : (Jvm.Cond.code ({ cls := "com/example/stratasig/stratasig/index/GapCoding$Counts", name := "add", desc := "(J)V" } : Jvm.MethodName) prog_129_method_2_code (5 : Nat) (Option.none : Option Jvm.ClassFile.FieldType)).before args0 about1 = true := code_word (m := ⟨2, 1⟩) (meth := k2m1) (c := k2c1) (by decide +kernel) rfl rfl rfl (by decide +kernel)
set_option maxRecDepth 65536 in
theorem w_c20 : (Jvm.Cond.code ({ cls := "java/lang/Long", name := "numberOfTrailingZeros", desc := "(J)I" } : Jvm.MethodName) jdk_35_method_49_code (3 : Nat) (Option.some Jvm.ClassFile.FieldType.int)).before args0 about1 = true := code_word (m := ⟨9, 1⟩) (meth := k9m1) (c := k9c1) (by decide +kernel) rfl rfl rfl (by decide +kernel)
set_option maxRecDepth 65536 in
theorem w_c21 : (Jvm.Cond.code ({ cls := "java/lang/Integer", name := "numberOfTrailingZeros", desc := "(I)I" } : Jvm.MethodName) jdk_33_method_48_code (2 : Nat) (Option.some Jvm.ClassFile.FieldType.int)).before args0 about1 = true := code_word (m := ⟨10, 1⟩) (meth := k10m1) (c := k10c1) (by decide +kernel) rfl rfl rfl (by decide +kernel)
def codes1 : List Jvm.Cond := [Jvm.Cond.code x code maxLocals ret, Jvm.Cond.code ({ cls := "com/example/stratasig/stratasig/index/GapCoding$Counts", name := "<init>", desc := "()V" } : Jvm.MethodName) prog_129_method_1_code (1 : Nat) (Option.none : Option Jvm.ClassFile.FieldType), Jvm.Cond.code ({ cls := "java/lang/Object", name := "<init>", desc := "()V" } : Jvm.MethodName) object_method_1_code (1 : Nat) (Option.none : Option Jvm.ClassFile.FieldType), Jvm.Cond.code ({ cls := "com/example/stratasig/stratasig/index/GapCoding$Counts", name := "tally", desc := "()Lcom/example/stratasig/stratasig/index/GapCoding$Tally;" } : Jvm.MethodName) prog_129_method_6_code (2 : Nat) (Option.some (Jvm.ClassFile.FieldType.object "com/example/stratasig/stratasig/index/GapCoding$Tally")), Jvm.Cond.code ({ cls := "com/example/stratasig/stratasig/index/GapCoding$Tally", name := "<init>", desc := "(JJ)V" } : Jvm.MethodName) prog_131_method_1_code (7 : Nat) (Option.none : Option Jvm.ClassFile.FieldType), Jvm.Cond.code ({ cls := "java/lang/Long", name := "numberOfLeadingZeros", desc := "(J)I" } : Jvm.MethodName) jdk_35_method_48_code (3 : Nat) (Option.some Jvm.ClassFile.FieldType.int), Jvm.Cond.code ({ cls := "java/lang/Integer", name := "numberOfLeadingZeros", desc := "(I)I" } : Jvm.MethodName) jdk_33_method_47_code (2 : Nat) (Option.some Jvm.ClassFile.FieldType.int), Jvm.Cond.code ({ cls := "java/lang/Math", name := "max", desc := "(II)I" } : Jvm.MethodName) jdk_29_method_65_code (2 : Nat) (Option.some Jvm.ClassFile.FieldType.int), Jvm.Cond.code ({ cls := "com/example/stratasig/stratasig/index/GapCoding$Counts", name := "quotients", desc := "(I)J" } : Jvm.MethodName) prog_129_method_7_code (5 : Nat) (Option.some Jvm.ClassFile.FieldType.long), Jvm.Cond.code ({ cls := "com/example/stratasig/stratasig/index/GapCoding$Counts", name := "sum", desc := "()J" } : Jvm.MethodName) prog_129_method_5_code (1 : Nat) (Option.some Jvm.ClassFile.FieldType.long), Jvm.Cond.code ({ cls := "com/example/stratasig/stratasig/index/GapCoding$Tally", name := "bits", desc := "()J" } : Jvm.MethodName) prog_131_method_9_code (2 : Nat) (Option.some Jvm.ClassFile.FieldType.long), Jvm.Cond.code ({ cls := "com/example/stratasig/stratasig/index/GapCoding$Tally", name := "best", desc := "()I" } : Jvm.MethodName) prog_131_method_12_code (4 : Nat) (Option.some Jvm.ClassFile.FieldType.int), Jvm.Cond.code ({ cls := "com/example/stratasig/stratasig/index/GapCoding$Tally", name := "quotients", desc := "()[J" } : Jvm.MethodName) prog_131_method_13_code (1 : Nat) (Option.some (Jvm.ClassFile.FieldType.array Jvm.ClassFile.FieldType.long)), Jvm.Cond.code ({ cls := "com/example/stratasig/stratasig/index/GapCoding", name := "bits", desc := "([J)J" } : Jvm.MethodName) prog_128_method_3_code (1 : Nat) (Option.some Jvm.ClassFile.FieldType.long), Jvm.Cond.code ({ cls := "com/example/stratasig/stratasig/index/GapCoding", name := "tally", desc := "([J)Lcom/example/stratasig/stratasig/index/GapCoding$Tally;" } : Jvm.MethodName) prog_128_method_4_code (8 : Nat) (Option.some (Jvm.ClassFile.FieldType.object "com/example/stratasig/stratasig/index/GapCoding$Tally")), Jvm.Cond.code ({ cls := "com/example/stratasig/stratasig/index/GapCoding$Tally", name := "add", desc := "([J)V" } : Jvm.MethodName) prog_131_method_4_code (2 : Nat) (Option.none : Option Jvm.ClassFile.FieldType), Jvm.Cond.code ({ cls := "com/example/stratasig/stratasig/index/GapCoding$Tally", name := "quotients", desc := "([JI)J" } : Jvm.MethodName) prog_131_method_5_code (9 : Nat) (Option.some Jvm.ClassFile.FieldType.long), Jvm.Cond.code ({ cls := "com/example/stratasig/stratasig/index/GapCoding$Tally", name := "parameter", desc := "()I" } : Jvm.MethodName) prog_131_method_8_code (1 : Nat) (Option.some Jvm.ClassFile.FieldType.int), Jvm.Cond.code ({ cls := "com/example/stratasig/stratasig/index/GapCoding", name := "parameter", desc := "([J)I" } : Jvm.MethodName) prog_128_method_2_code (1 : Nat) (Option.some Jvm.ClassFile.FieldType.int), Jvm.Cond.code ({ cls := "com/example/stratasig/stratasig/index/GapCoding$Counts", name := "add", desc := "(J)V" } : Jvm.MethodName) prog_129_method_2_code (5 : Nat) (Option.none : Option Jvm.ClassFile.FieldType), Jvm.Cond.code ({ cls := "java/lang/Long", name := "numberOfTrailingZeros", desc := "(J)I" } : Jvm.MethodName) jdk_35_method_49_code (3 : Nat) (Option.some Jvm.ClassFile.FieldType.int), Jvm.Cond.code ({ cls := "java/lang/Integer", name := "numberOfTrailingZeros", desc := "(I)I" } : Jvm.MethodName) jdk_33_method_48_code (2 : Nat) (Option.some Jvm.ClassFile.FieldType.int)]
set_option maxRecDepth 65536 in
theorem codes_eq : words1.filter isCode = codes1 := rfl
theorem w_codes : ∀ c ∈ words1.filter isCode, c.before args0 about1 = true := by
  rw [codes_eq]
  intro c hc
  simp only [codes1, List.mem_cons, List.not_mem_nil, or_false] at hc
  rcases hc with rfl | rfl | rfl | rfl | rfl | rfl | rfl | rfl | rfl | rfl | rfl | rfl | rfl | rfl | rfl | rfl | rfl | rfl | rfl | rfl | rfl | rfl
  · exact w_c0
  · exact w_c1
  · exact w_c2
  · exact w_c3
  · exact w_c4
  · exact w_c5
  · exact w_c6
  · exact w_c7
  · exact w_c8
  · exact w_c9
  · exact w_c10
  · exact w_c11
  · exact w_c12
  · exact w_c13
  · exact w_c14
  · exact w_c15
  · exact w_c16
  · exact w_c17
  · exact w_c18
  · exact w_c19
  · exact w_c20
  · exact w_c21
set_option maxRecDepth 65536 in
theorem w_t1 : (words1.take 24).all (fun c => isCode c || c.before args0 about1) = true := by decide +kernel
set_option maxRecDepth 65536 in
theorem w_t2 : ((words1.drop 24).take 24).all (fun c => isCode c || c.before args0 about1) = true := by decide +kernel
set_option maxRecDepth 65536 in
theorem w_t3 : (((words1.drop 24).drop 24).take 24).all (fun c => isCode c || c.before args0 about1) = true := by decide +kernel
set_option maxRecDepth 65536 in
theorem w_t4 : ((((words1.drop 24).drop 24).drop 24).take 24).all (fun c => isCode c || c.before args0 about1) = true := by decide +kernel
set_option maxRecDepth 65536 in
theorem w_t5 : (((((words1.drop 24).drop 24).drop 24).drop 24).take 24).all (fun c => isCode c || c.before args0 about1) = true := by decide +kernel
set_option maxRecDepth 65536 in
theorem w_t6 : (((((words1.drop 24).drop 24).drop 24).drop 24).drop 24).all (fun c => isCode c || c.before args0 about1) = true := by decide +kernel
theorem w_tables : (allAtoms (Jvm.Cond.code x code maxLocals ret :: tables_1)).before args0 about1 = true := by
  rw [allAtoms_all]
  show words1.all (fun c => c.before args0 about1) = true
  refine all_split ?_ w_codes
  rw [← List.take_append_drop 24 words1, List.all_append, w_t1, ← List.take_append_drop 24 (words1.drop 24), List.all_append, w_t2, ← List.take_append_drop 24 ((words1.drop 24).drop 24), List.all_append, w_t3, ← List.take_append_drop 24 (((words1.drop 24).drop 24).drop 24), List.all_append, w_t4, ← List.take_append_drop 24 ((((words1.drop 24).drop 24).drop 24).drop 24), List.all_append, w_t5, w_t6]
  rfl
set_option maxRecDepth 65536 in
theorem w_case : (Jvm.Cond.and given_1 narrow_1).before args0 about1 = true := by decide +kernel
theorem w_applies : (headSpec (Jvm.Cond.code x code maxLocals ret :: tables_1) room_1).applies x e0.platform about1 = true :=
  (Spec.applies_iff w_frames).mpr ⟨w_running, w_runnable, w_alone, w_named, w_hears, w_ripe, w_room, w_tables⟩
theorem atStart : AtStart classFile x code maxLocals ret World_1 tables_1 room_1 Calls_1 rest_1 Pre_1 launch0 p0 e0 about1 theMethod args0 below0 :=
  ⟨lists_1, trivial, launch0.admits_env _ _ _, launch0.least_env, fairChoices_fair.cas, fairChoices_fair.clock, w_frames, w_args, w_heap, w_applies, trivial, trivial, w_case⟩
end start1
theorem witness_1 : WitnessClaimed_1 := ⟨start1.p0, start1.e0, start1.about1, start1.theMethod, start1.args0, start1.below0, start1.atStart⟩
end Jvm.Pilot.@@N@@
