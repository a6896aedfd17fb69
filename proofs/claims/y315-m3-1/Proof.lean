import JvmDerived
import JvmDerived.Pilot.@@N@@Statement
import JvmDerived.Pilot.@@N@@Code
set_option linter.unusedVariables false
set_option linter.unusedSimpArgs false
namespace Jvm.OwnKit
open Sem ClassFile Op Lib Jvm.Stand Jvm.Free Jvm.LawKit Jvm.RoadKit
/-! int and long operations, named -/
def ushr (x y : Int32) : Int32 := (x.toUInt32 >>> (y &&& 31).toUInt32).toInt32
def shl (x y : Int32) : Int32 := x <<< (y &&& 31)
def shr (x y : Int32) : Int32 := x >>> (y &&& 31)
def lushr (x : Int64) (y : Int32) : Int64 := (x.toUInt64 >>> (y &&& 0x3f).toInt64.toUInt64).toInt64
def lshl (x : Int64) (y : Int32) : Int64 := x <<< (y &&& 0x3f).toInt64
def lshr (x : Int64) (y : Int32) : Int64 := x >>> (y &&& 0x3f).toInt64
def chr (x : Int32) : Int32 := x.toUInt32.toUInt16.toUInt32.toInt32
def byt (x : Int32) : Int32 := x.toInt8.toInt32
def sht (x : Int32) : Int32 := x.toInt16.toInt32
theorem narrow_byt (x : Int32) : narrow .byte (.int (byt x)) = .int (byt x) := by simp [narrow, byt]
theorem chr_chr (x : Int32) : chr (chr x) = chr x := by unfold chr; simp only [UInt32.toUInt32_toInt32, UInt16.toUInt16_toUInt32]
theorem byt_byt (x : Int32) : byt (byt x) = byt x := by simp [byt]
theorem narrow_chr (x : Int32) : narrow .char (.int (chr x)) = .int (chr x) := congrArg Value.int (chr_chr x)
/-- what a contract says at the end -/
def CQ (Q : Option Value → Heap → Prop) (n0 : Nat) (v : Option Value) (h : Heap) (L : List Loc) : Prop := Q v h ∧ Fr n0 L
/-- from this frame on the run ends as asked -/
def Go (p : Program) (e : Env) (below : List Frame) (En : Option Value → State → List Loc → Prop) (n0 : Nat) (Q : Option Value → Heap → Prop) (T : State) (g : JFrame) : Prop :=
  ∃ s₂ o, Steps p.tables e below (T.setTop g) s₂ ∧ s₂.status = .running ∧ Ended s₂ below o ∧ ∃ v L, o = .returned v ∧ CQ Q n0 v s₂.heap L ∧ En v s₂ L
/-- the plain end: nothing interned -/
def EndF (s : State) (C S : Nat) (v : Option Value) (t : State) (L : List Loc) : Prop := FrameEnd s (.returned v) t L C S
theorem endF {s : State} {C S cells slots : Nat} {t : State} {L : List Loc} {h : Heap} (hc : cells ≤ C) (hs : slots ≤ S) (v : Option Value) (_ : t.heap = h) (hW : s.WarmedH t.vm) (hsm : s.sameButNew ({ t with vm := s.vm } : State) L cells slots) : EndF s C S v t L := ⟨⟨_, rfl⟩, hW, hsm.mono hc hs⟩
/-- a method's contract -/
def Ctr (l : Launch) (Z : State) (y : MethodName) (bytes : ByteArray) (maxL : Nat) (ret : Option FieldType) (rm : Room) (as' : Array Value) (h0 : Heap) (n0 : Nat) (Q : Option Value → Heap → Prop) : Prop :=
  ∀ ws : List Jvm.Cond, MetFree l y (head1 (Jvm.Cond.code y bytes maxL ret :: ws) rm) (fun a U => a = as' ∧ Z.Warmed39 U.vm ∧ U.heap = h0) (fun _ _ _ _ _ => True) (fun _ U o U' => ∃ v L, o = .returned v ∧ CQ Q n0 v U'.heap L ∧ FrameEnd U o U' L rm.cells rm.slots)
theorem Ctr.of {l : Launch} {Z : State} {y : MethodName} {bytes : ByteArray} {maxL : Nat} {ret : Option FieldType} {rm : Room} {as' : Array Value} {h0 : Heap} {n0 : Nat} {Q : Option Value → Heap → Prop} {Ls : Array Slot}
    (hpl : plainFor y = true) (hef : ∀ m, entryFrame m as' maxL = mkF m 0 Ls [])
    (body : ∀ (p : Program) (e : Env) (s : State) (m : MethodId) (below : List Frame) (meth : Method) (c : Code) (T : State), p.tables.exec = Jvm.exec → c.code = bytes → c.maxLocals = maxL → s.vm.findClass y.cls = some m.cls → meth.name = y.name → meth.sig.returnType = ret → meth.locks = false → Z.Warmed39 s.vm →
      Stand p l e rm s m as' below meth c T [] 0 0 → T.heap = h0 → Go p e below (EndF s rm.cells rm.slots) n0 Q T (mkF m 0 Ls [])) : Ctr l Z y bytes maxL ret rm as' h0 n0 Q := by
  intro ws
  refine MetFree.of_bodySF hpl hisR ?_
  intro p e s m args below meth c s₁ Bd hml0 hP hK
  obtain ⟨rfl, hZ, hh⟩ := hP
  have hown : s.vm.findClass y.cls = some m.cls := findClass_of_methodNamed Bd.named
  have hnm := (name_of_methodNamed Bd.named Bd.method).1
  have e0 : s₁.heap = h0 := by rw [← hh, Bd.state]; rfl
  rw [hef]
  obtain ⟨s₂, o, h1, h2, h3, v, L, rfl, h5, h6⟩ := body p e s m below meth c s₁ Bd.exec Bd.bytes hml0 hown hnm Bd.returns Bd.notSynchronized hZ (Stand.of_body Bd) e0
  exact ⟨s₂, _, h1, h2, h3, v, L, rfl, h5, h6⟩
section Go
variable {p : Program} {l : Launch} {e : Env} {R : Room} {s : State} {m : MethodId} {args : Array Value} {below : List Frame} {meth : Method} {c : Code} {T : State} {locs : List Loc} {cells slots : Nat} {Z : State} {a0 : Array Value} {h h' : Heap} {n0 : Nat} {En : Option Value → State → List Loc → Prop} {Q : Option Value → Heap → Prop}
variable {pc pc' pc1 pc2 : Nat} {Ls Ls' : Array Slot} {st : List Value}
theorem Go.mov {T' : State} {g g' : JFrame} (k : ∀ target, Steps p.tables e below (T'.setTop g') target → Steps p.tables e below (T.setTop g) target) (G : Go p e below En n0 Q T' g') : Go p e below En n0 Q T g := by
  obtain ⟨s₂, o, h1, r⟩ := G
  exact ⟨s₂, o, k _ h1, r⟩
theorem Go.movp {T' : State} {g g' : JFrame} (k : ∀ target, Steps p.tables e below (T'.setTop g') target → Steps p.tables e below (T.setTop g) target) (g'' : JFrame) (q : g' = g'') (G : Go p e below En n0 Q T' g'') : Go p e below En n0 Q T g := Go.mov k (q ▸ G)
theorem Go.cast {g g' : JFrame} (q : g = g') (G : Go p e below En n0 Q T g') : Go p e below En n0 Q T g := q ▸ G
theorem Go.imp {Q' : Option Value → Heap → Prop} {g : JFrame} (q : ∀ v h, Q v h → Q' v h) (G : Go p e below En n0 Q T g) : Go p e below En n0 Q' T g := by
  obtain ⟨s₂, o, h1, h2, h3, v, L, h4, ⟨h5, h6⟩, h7⟩ := G
  exact ⟨s₂, o, h1, h2, h3, v, L, h4, ⟨q _ _ h5, h6⟩, h7⟩
theorem g_iload (X : Stand p l e R s m args below meth c T locs cells slots) (hx : p.tables.exec = Jvm.exec) {k : Nat} {v : Int32} (hd : decode c.code pc = .ok (.iload k, 2)) (hp : pc + 2 = pc') (hl : Ls[k]? = some (.val (.int v))) (G : Go p e below En n0 Q T (mkF m pc' Ls (.int v :: st))) : Go p e below En n0 Q T (mkF m pc Ls (st)) := by
  subst hp
  exact Go.mov (fun _ k => XS.iload X.here hx rfl hd hl k) G
theorem g_iloadN (X : Stand p l e R s m args below meth c T locs cells slots) (hx : p.tables.exec = Jvm.exec) {k : Fin 4} {v : Int32} (hd : decode c.code pc = .ok (.iload_n k, 1)) (hp : pc + 1 = pc') (hl : Ls[k.val]? = some (.val (.int v))) (G : Go p e below En n0 Q T (mkF m pc' Ls (.int v :: st))) : Go p e below En n0 Q T (mkF m pc Ls (st)) := by
  subst hp
  exact Go.mov (fun _ k => XS.iloadN X.here hx rfl hd hl k) G
theorem g_lload (X : Stand p l e R s m args below meth c T locs cells slots) (hx : p.tables.exec = Jvm.exec) {k : Nat} {v : Int64} (hd : decode c.code pc = .ok (.lload k, 2)) (hp : pc + 2 = pc') (hl : Ls[k]? = some (.val (.long v))) (G : Go p e below En n0 Q T (mkF m pc' Ls (.long v :: st))) : Go p e below En n0 Q T (mkF m pc Ls (st)) := by
  subst hp
  exact Go.mov (fun _ k => XS.lload X.here hx rfl hd hl k) G
theorem g_lloadN (X : Stand p l e R s m args below meth c T locs cells slots) (hx : p.tables.exec = Jvm.exec) {k : Fin 4} {v : Int64} (hd : decode c.code pc = .ok (.lload_n k, 1)) (hp : pc + 1 = pc') (hl : Ls[k.val]? = some (.val (.long v))) (G : Go p e below En n0 Q T (mkF m pc' Ls (.long v :: st))) : Go p e below En n0 Q T (mkF m pc Ls (st)) := by
  subst hp
  exact Go.mov (fun _ k => XS.lloadN X.here hx rfl hd hl k) G
theorem g_aload (X : Stand p l e R s m args below meth c T locs cells slots) (hx : p.tables.exec = Jvm.exec) {k : Nat} {v : Value} (hd : decode c.code pc = .ok (.aload k, 2)) (hp : pc + 2 = pc') (hl : Ls[k]? = some (.val v)) (hv : v.isRef = true) (G : Go p e below En n0 Q T (mkF m pc' Ls (v :: st))) : Go p e below En n0 Q T (mkF m pc Ls (st)) := by
  subst hp
  exact Go.mov (fun _ k => XS.aload X.here hx rfl hd hl hv k) G
theorem g_aloadN (X : Stand p l e R s m args below meth c T locs cells slots) (hx : p.tables.exec = Jvm.exec) {k : Fin 4} {v : Value} (hd : decode c.code pc = .ok (.aload_n k, 1)) (hp : pc + 1 = pc') (hl : Ls[k.val]? = some (.val v)) (hv : v.isRef = true) (G : Go p e below En n0 Q T (mkF m pc' Ls (v :: st))) : Go p e below En n0 Q T (mkF m pc Ls (st)) := by
  subst hp
  exact Go.mov (fun _ k => XS.aloadN X.here hx rfl hd hl hv k) G
theorem g_istore (X : Stand p l e R s m args below meth c T locs cells slots) (hx : p.tables.exec = Jvm.exec) {k : Nat} {v : Int32} (hd : decode c.code pc = .ok (.istore k, 2)) (hp : pc + 2 = pc') (hl : storeLocals Ls k (.int v) = some Ls') (G : Go p e below En n0 Q T (mkF m pc' Ls' (st))) : Go p e below En n0 Q T (mkF m pc Ls (.int v :: st)) := by
  subst hp
  exact Go.mov (fun _ k => XS.istore X.here hx rfl hd rfl hl k) G
theorem g_istoreN (X : Stand p l e R s m args below meth c T locs cells slots) (hx : p.tables.exec = Jvm.exec) {k : Fin 4} {v : Int32} (hd : decode c.code pc = .ok (.istore_n k, 1)) (hp : pc + 1 = pc') (hl : storeLocals Ls k.val (.int v) = some Ls') (G : Go p e below En n0 Q T (mkF m pc' Ls' (st))) : Go p e below En n0 Q T (mkF m pc Ls (.int v :: st)) := by
  subst hp
  exact Go.mov (fun _ k => XS.istoreN X.here hx rfl hd rfl hl k) G
theorem g_lstore (X : Stand p l e R s m args below meth c T locs cells slots) (hx : p.tables.exec = Jvm.exec) {k : Nat} {v : Int64} (hd : decode c.code pc = .ok (.lstore k, 2)) (hp : pc + 2 = pc') (hl : storeLocals Ls k (.long v) = some Ls') (G : Go p e below En n0 Q T (mkF m pc' Ls' (st))) : Go p e below En n0 Q T (mkF m pc Ls (.long v :: st)) := by
  subst hp
  exact Go.mov (fun _ k => XS.lstore X.here hx rfl hd rfl hl k) G
theorem g_lstoreN (X : Stand p l e R s m args below meth c T locs cells slots) (hx : p.tables.exec = Jvm.exec) {k : Fin 4} {v : Int64} (hd : decode c.code pc = .ok (.lstore_n k, 1)) (hp : pc + 1 = pc') (hl : storeLocals Ls k.val (.long v) = some Ls') (G : Go p e below En n0 Q T (mkF m pc' Ls' (st))) : Go p e below En n0 Q T (mkF m pc Ls (.long v :: st)) := by
  subst hp
  exact Go.mov (fun _ k => XS.lstoreN X.here hx rfl hd rfl hl k) G
theorem g_astore (X : Stand p l e R s m args below meth c T locs cells slots) (hx : p.tables.exec = Jvm.exec) {k : Nat} {v : Value} (hd : decode c.code pc = .ok (.astore k, 2)) (hp : pc + 2 = pc') (hv : v.isRef = true) (hl : storeLocals Ls k v = some Ls') (G : Go p e below En n0 Q T (mkF m pc' Ls' (st))) : Go p e below En n0 Q T (mkF m pc Ls (v :: st)) := by
  subst hp
  exact Go.mov (fun _ k => XS.astore X.here hx rfl hd rfl hv hl k) G
theorem g_astoreN (X : Stand p l e R s m args below meth c T locs cells slots) (hx : p.tables.exec = Jvm.exec) {k : Fin 4} {v : Value} (hd : decode c.code pc = .ok (.astore_n k, 1)) (hp : pc + 1 = pc') (hv : v.isRef = true) (hl : storeLocals Ls k.val v = some Ls') (G : Go p e below En n0 Q T (mkF m pc' Ls' (st))) : Go p e below En n0 Q T (mkF m pc Ls (v :: st)) := by
  subst hp
  exact Go.mov (fun _ k => XS.astoreN X.here hx rfl hd rfl hv hl k) G
theorem g_iconst (X : Stand p l e R s m args below meth c T locs cells slots) (hx : p.tables.exec = Jvm.exec) {i : Int} {z : Int32} (hd : decode c.code pc = .ok (.iconst i, 1)) (hp : pc + 1 = pc') (hz : Int32.ofInt i = z) (G : Go p e below En n0 Q T (mkF m pc' Ls (.int z :: st))) : Go p e below En n0 Q T (mkF m pc Ls st) := by
  subst hp hz
  exact Go.mov (fun _ k => XS.iconst X.here hx rfl hd k) G
theorem g_bipush (X : Stand p l e R s m args below meth c T locs cells slots) (hx : p.tables.exec = Jvm.exec) {i : Int} {z : Int32} (hd : decode c.code pc = .ok (.bipush i, 2)) (hp : pc + 2 = pc') (hz : (Int8.ofInt i).toInt32 = z) (G : Go p e below En n0 Q T (mkF m pc' Ls (.int z :: st))) : Go p e below En n0 Q T (mkF m pc Ls st) := by
  subst hp hz
  exact Go.mov (fun _ k => XS.bipush X.here hx rfl hd k) G
theorem g_sipush (X : Stand p l e R s m args below meth c T locs cells slots) (hx : p.tables.exec = Jvm.exec) {i : Int} {z : Int32} (hd : decode c.code pc = .ok (.sipush i, 3)) (hp : pc + 3 = pc') (hz : (Int16.ofInt i).toInt32 = z) (G : Go p e below En n0 Q T (mkF m pc' Ls (.int z :: st))) : Go p e below En n0 Q T (mkF m pc Ls st) := by
  subst hp hz
  exact Go.mov (fun _ k => XS.sipush X.here hx rfl hd k) G
theorem g_lconst (X : Stand p l e R s m args below meth c T locs cells slots) (hx : p.tables.exec = Jvm.exec) {i : Fin 2} {z : Int64} (hd : decode c.code pc = .ok (.lconst i, 1)) (hp : pc + 1 = pc') (hz : Int64.ofNat i = z) (G : Go p e below En n0 Q T (mkF m pc' Ls (.long z :: st))) : Go p e below En n0 Q T (mkF m pc Ls st) := by
  subst hp hz
  exact Go.mov (fun _ k => XS.lconst X.here hx rfl hd k) G
theorem g_aconst_null (X : Stand p l e R s m args below meth c T locs cells slots) (hx : p.tables.exec = Jvm.exec)  (hd : decode c.code pc = .ok (.aconst_null, 1)) (hp : pc + 1 = pc') (G : Go p e below En n0 Q T (mkF m pc' Ls (.null :: st))) : Go p e below En n0 Q T (mkF m pc Ls (st)) := by
  subst hp
  exact Go.mov (fun _ k => XS.aconstNull X.here hx rfl hd k) G
theorem g_iadd (X : Stand p l e R s m args below meth c T locs cells slots) (hx : p.tables.exec = Jvm.exec) {x y : Int32} (hd : decode c.code pc = .ok (.iadd, 1)) (hp : pc + 1 = pc') (G : Go p e below En n0 Q T (mkF m pc' Ls (.int (x + y) :: st))) : Go p e below En n0 Q T (mkF m pc Ls (.int y :: .int x :: st)) := by
  subst hp
  exact Go.mov (fun _ k => XS.iadd X.here hx rfl hd rfl k) G
theorem g_ladd (X : Stand p l e R s m args below meth c T locs cells slots) (hx : p.tables.exec = Jvm.exec) {x y : Int64} (hd : decode c.code pc = .ok (.ladd, 1)) (hp : pc + 1 = pc') (G : Go p e below En n0 Q T (mkF m pc' Ls (.long (x + y) :: st))) : Go p e below En n0 Q T (mkF m pc Ls (.long y :: .long x :: st)) := by
  subst hp
  exact Go.mov (fun _ k => XS.ladd X.here hx rfl hd rfl k) G
theorem g_isub (X : Stand p l e R s m args below meth c T locs cells slots) (hx : p.tables.exec = Jvm.exec) {x y : Int32} (hd : decode c.code pc = .ok (.isub, 1)) (hp : pc + 1 = pc') (G : Go p e below En n0 Q T (mkF m pc' Ls (.int (x - y) :: st))) : Go p e below En n0 Q T (mkF m pc Ls (.int y :: .int x :: st)) := by
  subst hp
  exact Go.mov (fun _ k => XS.isub X.here hx rfl hd rfl k) G
theorem g_lsub (X : Stand p l e R s m args below meth c T locs cells slots) (hx : p.tables.exec = Jvm.exec) {x y : Int64} (hd : decode c.code pc = .ok (.lsub, 1)) (hp : pc + 1 = pc') (G : Go p e below En n0 Q T (mkF m pc' Ls (.long (x - y) :: st))) : Go p e below En n0 Q T (mkF m pc Ls (.long y :: .long x :: st)) := by
  subst hp
  exact Go.mov (fun _ k => XS.lsub X.here hx rfl hd rfl k) G
theorem g_imul (X : Stand p l e R s m args below meth c T locs cells slots) (hx : p.tables.exec = Jvm.exec) {x y : Int32} (hd : decode c.code pc = .ok (.imul, 1)) (hp : pc + 1 = pc') (G : Go p e below En n0 Q T (mkF m pc' Ls (.int (x * y) :: st))) : Go p e below En n0 Q T (mkF m pc Ls (.int y :: .int x :: st)) := by
  subst hp
  exact Go.mov (fun _ k => XS.imul X.here hx rfl hd rfl k) G
theorem g_lmul (X : Stand p l e R s m args below meth c T locs cells slots) (hx : p.tables.exec = Jvm.exec) {x y : Int64} (hd : decode c.code pc = .ok (.lmul, 1)) (hp : pc + 1 = pc') (G : Go p e below En n0 Q T (mkF m pc' Ls (.long (x * y) :: st))) : Go p e below En n0 Q T (mkF m pc Ls (.long y :: .long x :: st)) := by
  subst hp
  exact Go.mov (fun _ k => XS.lmul X.here hx rfl hd rfl k) G
theorem g_iand (X : Stand p l e R s m args below meth c T locs cells slots) (hx : p.tables.exec = Jvm.exec) {x y : Int32} (hd : decode c.code pc = .ok (.iand, 1)) (hp : pc + 1 = pc') (G : Go p e below En n0 Q T (mkF m pc' Ls (.int (x &&& y) :: st))) : Go p e below En n0 Q T (mkF m pc Ls (.int y :: .int x :: st)) := by
  subst hp
  exact Go.mov (fun _ k => XS.iand X.here hx rfl hd rfl k) G
theorem g_land (X : Stand p l e R s m args below meth c T locs cells slots) (hx : p.tables.exec = Jvm.exec) {x y : Int64} (hd : decode c.code pc = .ok (.land, 1)) (hp : pc + 1 = pc') (G : Go p e below En n0 Q T (mkF m pc' Ls (.long (x &&& y) :: st))) : Go p e below En n0 Q T (mkF m pc Ls (.long y :: .long x :: st)) := by
  subst hp
  exact Go.mov (fun _ k => XS.land X.here hx rfl hd rfl k) G
theorem g_ior (X : Stand p l e R s m args below meth c T locs cells slots) (hx : p.tables.exec = Jvm.exec) {x y : Int32} (hd : decode c.code pc = .ok (.ior, 1)) (hp : pc + 1 = pc') (G : Go p e below En n0 Q T (mkF m pc' Ls (.int (x ||| y) :: st))) : Go p e below En n0 Q T (mkF m pc Ls (.int y :: .int x :: st)) := by
  subst hp
  exact Go.mov (fun _ k => XS.ior X.here hx rfl hd rfl k) G
theorem g_lor (X : Stand p l e R s m args below meth c T locs cells slots) (hx : p.tables.exec = Jvm.exec) {x y : Int64} (hd : decode c.code pc = .ok (.lor, 1)) (hp : pc + 1 = pc') (G : Go p e below En n0 Q T (mkF m pc' Ls (.long (x ||| y) :: st))) : Go p e below En n0 Q T (mkF m pc Ls (.long y :: .long x :: st)) := by
  subst hp
  exact Go.mov (fun _ k => XS.lor X.here hx rfl hd rfl k) G
theorem g_ixor (X : Stand p l e R s m args below meth c T locs cells slots) (hx : p.tables.exec = Jvm.exec) {x y : Int32} (hd : decode c.code pc = .ok (.ixor, 1)) (hp : pc + 1 = pc') (G : Go p e below En n0 Q T (mkF m pc' Ls (.int (x ^^^ y) :: st))) : Go p e below En n0 Q T (mkF m pc Ls (.int y :: .int x :: st)) := by
  subst hp
  exact Go.mov (fun _ k => XS.ixor X.here hx rfl hd rfl k) G
theorem g_lxor (X : Stand p l e R s m args below meth c T locs cells slots) (hx : p.tables.exec = Jvm.exec) {x y : Int64} (hd : decode c.code pc = .ok (.lxor, 1)) (hp : pc + 1 = pc') (G : Go p e below En n0 Q T (mkF m pc' Ls (.long (x ^^^ y) :: st))) : Go p e below En n0 Q T (mkF m pc Ls (.long y :: .long x :: st)) := by
  subst hp
  exact Go.mov (fun _ k => XS.lxor X.here hx rfl hd rfl k) G
theorem g_ishl (X : Stand p l e R s m args below meth c T locs cells slots) (hx : p.tables.exec = Jvm.exec) {x y : Int32} (hd : decode c.code pc = .ok (.ishl, 1)) (hp : pc + 1 = pc') (G : Go p e below En n0 Q T (mkF m pc' Ls (.int (shl x y) :: st))) : Go p e below En n0 Q T (mkF m pc Ls (.int y :: .int x :: st)) := by
  subst hp
  exact Go.mov (fun _ k => XS.ishl X.here hx rfl hd rfl k) G
theorem g_lshl (X : Stand p l e R s m args below meth c T locs cells slots) (hx : p.tables.exec = Jvm.exec) {x : Int64} {y : Int32} (hd : decode c.code pc = .ok (.lshl, 1)) (hp : pc + 1 = pc') (G : Go p e below En n0 Q T (mkF m pc' Ls (.long (lshl x y) :: st))) : Go p e below En n0 Q T (mkF m pc Ls (.int y :: .long x :: st)) := by
  subst hp
  exact Go.mov (fun _ k => XS.lshl X.here hx rfl hd rfl k) G
theorem g_ishr (X : Stand p l e R s m args below meth c T locs cells slots) (hx : p.tables.exec = Jvm.exec) {x y : Int32} (hd : decode c.code pc = .ok (.ishr, 1)) (hp : pc + 1 = pc') (G : Go p e below En n0 Q T (mkF m pc' Ls (.int (shr x y) :: st))) : Go p e below En n0 Q T (mkF m pc Ls (.int y :: .int x :: st)) := by
  subst hp
  exact Go.mov (fun _ k => XS.ishr X.here hx rfl hd rfl k) G
theorem g_lshr (X : Stand p l e R s m args below meth c T locs cells slots) (hx : p.tables.exec = Jvm.exec) {x : Int64} {y : Int32} (hd : decode c.code pc = .ok (.lshr, 1)) (hp : pc + 1 = pc') (G : Go p e below En n0 Q T (mkF m pc' Ls (.long (lshr x y) :: st))) : Go p e below En n0 Q T (mkF m pc Ls (.int y :: .long x :: st)) := by
  subst hp
  exact Go.mov (fun _ k => XS.lshr X.here hx rfl hd rfl k) G
theorem g_iushr (X : Stand p l e R s m args below meth c T locs cells slots) (hx : p.tables.exec = Jvm.exec) {x y : Int32} (hd : decode c.code pc = .ok (.iushr, 1)) (hp : pc + 1 = pc') (G : Go p e below En n0 Q T (mkF m pc' Ls (.int (ushr x y) :: st))) : Go p e below En n0 Q T (mkF m pc Ls (.int y :: .int x :: st)) := by
  subst hp
  exact Go.mov (fun _ k => XS.iushr X.here hx rfl hd rfl k) G
theorem g_lushr (X : Stand p l e R s m args below meth c T locs cells slots) (hx : p.tables.exec = Jvm.exec) {x : Int64} {y : Int32} (hd : decode c.code pc = .ok (.lushr, 1)) (hp : pc + 1 = pc') (G : Go p e below En n0 Q T (mkF m pc' Ls (.long (lushr x y) :: st))) : Go p e below En n0 Q T (mkF m pc Ls (.int y :: .long x :: st)) := by
  subst hp
  exact Go.mov (fun _ k => XS.lushr X.here hx rfl hd rfl k) G
theorem g_i2b (X : Stand p l e R s m args below meth c T locs cells slots) (hx : p.tables.exec = Jvm.exec) {x : Int32} (hd : decode c.code pc = .ok (.i2b, 1)) (hp : pc + 1 = pc') (G : Go p e below En n0 Q T (mkF m pc' Ls (.int (byt x) :: st))) : Go p e below En n0 Q T (mkF m pc Ls (.int x :: st)) := by
  subst hp
  exact Go.mov (fun _ k => XS.i2b X.here hx rfl hd rfl k) G
theorem g_i2c (X : Stand p l e R s m args below meth c T locs cells slots) (hx : p.tables.exec = Jvm.exec) {x : Int32} (hd : decode c.code pc = .ok (.i2c, 1)) (hp : pc + 1 = pc') (G : Go p e below En n0 Q T (mkF m pc' Ls (.int (chr x) :: st))) : Go p e below En n0 Q T (mkF m pc Ls (.int x :: st)) := by
  subst hp
  exact Go.mov (fun _ k => XS.i2c X.here hx rfl hd rfl k) G
theorem g_i2s (X : Stand p l e R s m args below meth c T locs cells slots) (hx : p.tables.exec = Jvm.exec) {x : Int32} (hd : decode c.code pc = .ok (.i2s, 1)) (hp : pc + 1 = pc') (G : Go p e below En n0 Q T (mkF m pc' Ls (.int (sht x) :: st))) : Go p e below En n0 Q T (mkF m pc Ls (.int x :: st)) := by
  subst hp
  exact Go.mov (fun _ k => XS.i2s X.here hx rfl hd rfl k) G
theorem g_i2l (X : Stand p l e R s m args below meth c T locs cells slots) (hx : p.tables.exec = Jvm.exec) {x : Int32} (hd : decode c.code pc = .ok (.i2l, 1)) (hp : pc + 1 = pc') (G : Go p e below En n0 Q T (mkF m pc' Ls (.long x.toInt64 :: st))) : Go p e below En n0 Q T (mkF m pc Ls (.int x :: st)) := by
  subst hp
  exact Go.mov (fun _ k => XS.i2l X.here hx rfl hd rfl k) G
theorem g_l2i (X : Stand p l e R s m args below meth c T locs cells slots) (hx : p.tables.exec = Jvm.exec) {x : Int64} (hd : decode c.code pc = .ok (.l2i, 1)) (hp : pc + 1 = pc') (G : Go p e below En n0 Q T (mkF m pc' Ls (.int x.toInt32 :: st))) : Go p e below En n0 Q T (mkF m pc Ls (.long x :: st)) := by
  subst hp
  exact Go.mov (fun _ k => XS.l2i X.here hx rfl hd rfl k) G
theorem g_ineg (X : Stand p l e R s m args below meth c T locs cells slots) (hx : p.tables.exec = Jvm.exec) {x : Int32} (hd : decode c.code pc = .ok (.ineg, 1)) (hp : pc + 1 = pc') (G : Go p e below En n0 Q T (mkF m pc' Ls (.int (-x) :: st))) : Go p e below En n0 Q T (mkF m pc Ls (.int x :: st)) := by
  subst hp
  exact Go.mov (fun _ k => XS.ineg X.here hx rfl hd rfl k) G
theorem g_lneg (X : Stand p l e R s m args below meth c T locs cells slots) (hx : p.tables.exec = Jvm.exec) {x : Int64} (hd : decode c.code pc = .ok (.lneg, 1)) (hp : pc + 1 = pc') (G : Go p e below En n0 Q T (mkF m pc' Ls (.long (-x) :: st))) : Go p e below En n0 Q T (mkF m pc Ls (.long x :: st)) := by
  subst hp
  exact Go.mov (fun _ k => XS.lneg X.here hx rfl hd rfl k) G
theorem g_idiv (X : Stand p l e R s m args below meth c T locs cells slots) (hx : p.tables.exec = Jvm.exec) {x y : Int32} (hd : decode c.code pc = .ok (.idiv, 1)) (hp : pc + 1 = pc') (hy : y ≠ 0) (G : Go p e below En n0 Q T (mkF m pc' Ls (.int (x / y) :: st))) : Go p e below En n0 Q T (mkF m pc Ls (.int y :: .int x :: st)) := by
  subst hp
  exact Go.mov (fun _ k => XS.idiv X.here hx rfl hd rfl hy k) G
theorem g_ldiv (X : Stand p l e R s m args below meth c T locs cells slots) (hx : p.tables.exec = Jvm.exec) {x y : Int64} (hd : decode c.code pc = .ok (.ldiv, 1)) (hp : pc + 1 = pc') (hy : y ≠ 0) (G : Go p e below En n0 Q T (mkF m pc' Ls (.long (x / y) :: st))) : Go p e below En n0 Q T (mkF m pc Ls (.long y :: .long x :: st)) := by
  subst hp
  exact Go.mov (fun _ k => XS.ldiv X.here hx rfl hd rfl hy k) G
theorem g_irem (X : Stand p l e R s m args below meth c T locs cells slots) (hx : p.tables.exec = Jvm.exec) {x y : Int32} (hd : decode c.code pc = .ok (.irem, 1)) (hp : pc + 1 = pc') (hy : y ≠ 0) (G : Go p e below En n0 Q T (mkF m pc' Ls (.int (x % y) :: st))) : Go p e below En n0 Q T (mkF m pc Ls (.int y :: .int x :: st)) := by
  subst hp
  exact Go.mov (fun _ k => iremM X hx rfl hd rfl hy k) G
theorem g_lcmp (X : Stand p l e R s m args below meth c T locs cells slots) (hx : p.tables.exec = Jvm.exec) {x y : Int64} (hd : decode c.code pc = .ok (.lcmp, 1)) (hp : pc + 1 = pc') (G : Go p e below En n0 Q T (mkF m pc' Ls (.int (lcmpW x y) :: st))) : Go p e below En n0 Q T (mkF m pc Ls (.long y :: .long x :: st)) := by
  subst hp
  exact Go.mov (fun _ k => XS.lcmp X.here hx rfl hd rfl k) G
theorem g_dup (X : Stand p l e R s m args below meth c T locs cells slots) (hx : p.tables.exec = Jvm.exec) {x : Value} (hd : decode c.code pc = .ok (.dup, 1)) (hp : pc + 1 = pc') (hc : x.category = 1) (G : Go p e below En n0 Q T (mkF m pc' Ls (x :: x :: st))) : Go p e below En n0 Q T (mkF m pc Ls (x :: st)) := by
  subst hp
  exact Go.mov (fun _ k => XS.dup X.here hx rfl hd rfl hc k) G
theorem g_dup_x1 (X : Stand p l e R s m args below meth c T locs cells slots) (hx : p.tables.exec = Jvm.exec) {x y : Value} (hd : decode c.code pc = .ok (.dup_x1, 1)) (hp : pc + 1 = pc') (hc : x.category = 1) (hc2 : y.category = 1) (G : Go p e below En n0 Q T (mkF m pc' Ls (x :: y :: x :: st))) : Go p e below En n0 Q T (mkF m pc Ls (x :: y :: st)) := by
  subst hp
  exact Go.mov (fun _ k => XS.dupX1 X.here hx rfl hd rfl hc hc2 k) G
theorem g_pop (X : Stand p l e R s m args below meth c T locs cells slots) (hx : p.tables.exec = Jvm.exec) {x : Value} (hd : decode c.code pc = .ok (.pop, 1)) (hp : pc + 1 = pc') (hc : x.category = 1) (G : Go p e below En n0 Q T (mkF m pc' Ls (st))) : Go p e below En n0 Q T (mkF m pc Ls (x :: st)) := by
  subst hp
  exact Go.mov (fun _ k => XS.pop X.here hx rfl hd rfl hc k) G
theorem g_iinc (X : Stand p l e R s m args below meth c T locs cells slots) (hx : p.tables.exec = Jvm.exec) {k : Nat} {cst : Int} {v z : Int32} (hd : decode c.code pc = .ok (.iinc k cst, 3)) (hp : pc + 3 = pc') (hl : Ls[k]? = some (.val (.int v))) (hz : Int32.ofInt cst = z) (hl' : storeLocals Ls k (.int (v + z)) = some Ls') (G : Go p e below En n0 Q T (mkF m pc' Ls' st)) : Go p e below En n0 Q T (mkF m pc Ls st) := by
  subst hp hz
  exact Go.mov (fun _ k => XS.iinc X.here hx rfl hd hl hl' k) G
theorem g_goto (X : Stand p l e R s m args below meth c T locs cells slots) (hx : p.tables.exec = Jvm.exec) {o : Int} (hd : decode c.code pc = .ok (.goto o, 3)) (ho : 0 ≤ (pc : Int) + o) (hp : ((pc : Int) + o).toNat = pc') (G : Go p e below En n0 Q T (mkF m pc' Ls st)) : Go p e below En n0 Q T (mkF m pc Ls st) :=
  Go.mov (fun _ k => XS.goto X.here hx rfl rfl hd ho hp k) G
theorem g_icmp_lt (X : Stand p l e R s m args below meth c T locs cells slots) (hx : p.tables.exec = Jvm.exec) {x y : Int32} {o : Int} (hd : decode c.code pc = .ok (.if_icmp .lt o, 3)) (hp1 : pc1 = pc + 3) (ho : 0 ≤ (pc : Int) + o) (hp2 : ((pc : Int) + o).toNat = pc2) (G2 : (x < y) → Go p e below En n0 Q T (mkF m pc2 Ls st)) (G1 : (¬ x < y) → Go p e below En n0 Q T (mkF m pc1 Ls st)) : Go p e below En n0 Q T (mkF m pc Ls (.int y :: .int x :: st)) := by
  by_cases q : x < y
  · exact Go.mov (fun _ k => XS.icmpYes X.here hx rfl rfl hd rfl (tlt q).1 ho hp2 k) (G2 q)
  · exact Go.mov (fun _ k => XS.icmpNo X.here hx rfl hd rfl (flt q).1 (hp1 ▸ k)) (G1 q)
theorem g_if_lt (X : Stand p l e R s m args below meth c T locs cells slots) (hx : p.tables.exec = Jvm.exec) {x : Int32} {o : Int} (hd : decode c.code pc = .ok (.ifCond .lt o, 3)) (hp1 : pc1 = pc + 3) (ho : 0 ≤ (pc : Int) + o) (hp2 : ((pc : Int) + o).toNat = pc2) (G2 : (x < (0 : Int32)) → Go p e below En n0 Q T (mkF m pc2 Ls st)) (G1 : (¬ x < (0 : Int32)) → Go p e below En n0 Q T (mkF m pc1 Ls st)) : Go p e below En n0 Q T (mkF m pc Ls (.int x :: st)) := by
  by_cases q : x < (0 : Int32)
  · exact Go.mov (fun _ k => XS.ifYes X.here hx rfl rfl hd rfl ((if0 _ _).trans (tlt q).1) ho hp2 k) (G2 q)
  · exact Go.mov (fun _ k => XS.ifNo X.here hx rfl hd rfl ((if0 _ _).trans (flt q).1) (hp1 ▸ k)) (G1 q)
theorem g_lcmp_lt (X : Stand p l e R s m args below meth c T locs cells slots) (hx : p.tables.exec = Jvm.exec) {x y : Int64} {o : Int} (hd0 : decode c.code pc = .ok (.lcmp, 1)) (hp0 : pc + 1 = pc') (hd : decode c.code pc' = .ok (.ifCond .lt o, 3)) (hp1 : pc1 = pc' + 3) (ho : 0 ≤ (pc' : Int) + o) (hp2 : ((pc' : Int) + o).toNat = pc2) (G2 : (x < y) → Go p e below En n0 Q T (mkF m pc2 Ls st)) (G1 : (¬ x < y) → Go p e below En n0 Q T (mkF m pc1 Ls st)) : Go p e below En n0 Q T (mkF m pc Ls (.long y :: .long x :: st)) :=
  g_lcmp X hx hd0 hp0 (g_if_lt X hx hd hp1 ho hp2 (fun q => G2 ((lw_lt x y).mp q)) (fun q => G1 (fun r => q ((lw_lt x y).mpr r))))
theorem g_icmp_ge (X : Stand p l e R s m args below meth c T locs cells slots) (hx : p.tables.exec = Jvm.exec) {x y : Int32} {o : Int} (hd : decode c.code pc = .ok (.if_icmp .ge o, 3)) (hp1 : pc1 = pc + 3) (ho : 0 ≤ (pc : Int) + o) (hp2 : ((pc : Int) + o).toNat = pc2) (G2 : (¬ x < y) → Go p e below En n0 Q T (mkF m pc2 Ls st)) (G1 : (x < y) → Go p e below En n0 Q T (mkF m pc1 Ls st)) : Go p e below En n0 Q T (mkF m pc Ls (.int y :: .int x :: st)) := by
  by_cases q : x < y
  · exact Go.mov (fun _ k => XS.icmpNo X.here hx rfl hd rfl (tlt q).2.1 (hp1 ▸ k)) (G1 q)
  · exact Go.mov (fun _ k => XS.icmpYes X.here hx rfl rfl hd rfl (flt q).2.1 ho hp2 k) (G2 q)
theorem g_if_ge (X : Stand p l e R s m args below meth c T locs cells slots) (hx : p.tables.exec = Jvm.exec) {x : Int32} {o : Int} (hd : decode c.code pc = .ok (.ifCond .ge o, 3)) (hp1 : pc1 = pc + 3) (ho : 0 ≤ (pc : Int) + o) (hp2 : ((pc : Int) + o).toNat = pc2) (G2 : (¬ x < (0 : Int32)) → Go p e below En n0 Q T (mkF m pc2 Ls st)) (G1 : (x < (0 : Int32)) → Go p e below En n0 Q T (mkF m pc1 Ls st)) : Go p e below En n0 Q T (mkF m pc Ls (.int x :: st)) := by
  by_cases q : x < (0 : Int32)
  · exact Go.mov (fun _ k => XS.ifNo X.here hx rfl hd rfl ((if0 _ _).trans (tlt q).2.1) (hp1 ▸ k)) (G1 q)
  · exact Go.mov (fun _ k => XS.ifYes X.here hx rfl rfl hd rfl ((if0 _ _).trans (flt q).2.1) ho hp2 k) (G2 q)
theorem g_lcmp_ge (X : Stand p l e R s m args below meth c T locs cells slots) (hx : p.tables.exec = Jvm.exec) {x y : Int64} {o : Int} (hd0 : decode c.code pc = .ok (.lcmp, 1)) (hp0 : pc + 1 = pc') (hd : decode c.code pc' = .ok (.ifCond .ge o, 3)) (hp1 : pc1 = pc' + 3) (ho : 0 ≤ (pc' : Int) + o) (hp2 : ((pc' : Int) + o).toNat = pc2) (G2 : (¬ x < y) → Go p e below En n0 Q T (mkF m pc2 Ls st)) (G1 : (x < y) → Go p e below En n0 Q T (mkF m pc1 Ls st)) : Go p e below En n0 Q T (mkF m pc Ls (.long y :: .long x :: st)) :=
  g_lcmp X hx hd0 hp0 (g_if_ge X hx hd hp1 ho hp2 (fun q => G2 (fun r => q ((lw_lt x y).mpr r))) (fun q => G1 ((lw_lt x y).mp q)))
theorem g_icmp_gt (X : Stand p l e R s m args below meth c T locs cells slots) (hx : p.tables.exec = Jvm.exec) {x y : Int32} {o : Int} (hd : decode c.code pc = .ok (.if_icmp .gt o, 3)) (hp1 : pc1 = pc + 3) (ho : 0 ≤ (pc : Int) + o) (hp2 : ((pc : Int) + o).toNat = pc2) (G2 : (y < x) → Go p e below En n0 Q T (mkF m pc2 Ls st)) (G1 : (¬ y < x) → Go p e below En n0 Q T (mkF m pc1 Ls st)) : Go p e below En n0 Q T (mkF m pc Ls (.int y :: .int x :: st)) := by
  by_cases q : y < x
  · exact Go.mov (fun _ k => XS.icmpYes X.here hx rfl rfl hd rfl (tlt q).2.2.1 ho hp2 k) (G2 q)
  · exact Go.mov (fun _ k => XS.icmpNo X.here hx rfl hd rfl (flt q).2.2.1 (hp1 ▸ k)) (G1 q)
theorem g_if_gt (X : Stand p l e R s m args below meth c T locs cells slots) (hx : p.tables.exec = Jvm.exec) {x : Int32} {o : Int} (hd : decode c.code pc = .ok (.ifCond .gt o, 3)) (hp1 : pc1 = pc + 3) (ho : 0 ≤ (pc : Int) + o) (hp2 : ((pc : Int) + o).toNat = pc2) (G2 : ((0 : Int32) < x) → Go p e below En n0 Q T (mkF m pc2 Ls st)) (G1 : (¬ (0 : Int32) < x) → Go p e below En n0 Q T (mkF m pc1 Ls st)) : Go p e below En n0 Q T (mkF m pc Ls (.int x :: st)) := by
  by_cases q : (0 : Int32) < x
  · exact Go.mov (fun _ k => XS.ifYes X.here hx rfl rfl hd rfl ((if0 _ _).trans (tlt q).2.2.1) ho hp2 k) (G2 q)
  · exact Go.mov (fun _ k => XS.ifNo X.here hx rfl hd rfl ((if0 _ _).trans (flt q).2.2.1) (hp1 ▸ k)) (G1 q)
theorem g_lcmp_gt (X : Stand p l e R s m args below meth c T locs cells slots) (hx : p.tables.exec = Jvm.exec) {x y : Int64} {o : Int} (hd0 : decode c.code pc = .ok (.lcmp, 1)) (hp0 : pc + 1 = pc') (hd : decode c.code pc' = .ok (.ifCond .gt o, 3)) (hp1 : pc1 = pc' + 3) (ho : 0 ≤ (pc' : Int) + o) (hp2 : ((pc' : Int) + o).toNat = pc2) (G2 : (y < x) → Go p e below En n0 Q T (mkF m pc2 Ls st)) (G1 : (¬ y < x) → Go p e below En n0 Q T (mkF m pc1 Ls st)) : Go p e below En n0 Q T (mkF m pc Ls (.long y :: .long x :: st)) :=
  g_lcmp X hx hd0 hp0 (g_if_gt X hx hd hp1 ho hp2 (fun q => G2 ((lw_gt x y).mp q)) (fun q => G1 (fun r => q ((lw_gt x y).mpr r))))
theorem g_icmp_le (X : Stand p l e R s m args below meth c T locs cells slots) (hx : p.tables.exec = Jvm.exec) {x y : Int32} {o : Int} (hd : decode c.code pc = .ok (.if_icmp .le o, 3)) (hp1 : pc1 = pc + 3) (ho : 0 ≤ (pc : Int) + o) (hp2 : ((pc : Int) + o).toNat = pc2) (G2 : (¬ y < x) → Go p e below En n0 Q T (mkF m pc2 Ls st)) (G1 : (y < x) → Go p e below En n0 Q T (mkF m pc1 Ls st)) : Go p e below En n0 Q T (mkF m pc Ls (.int y :: .int x :: st)) := by
  by_cases q : y < x
  · exact Go.mov (fun _ k => XS.icmpNo X.here hx rfl hd rfl (tlt q).2.2.2 (hp1 ▸ k)) (G1 q)
  · exact Go.mov (fun _ k => XS.icmpYes X.here hx rfl rfl hd rfl (flt q).2.2.2 ho hp2 k) (G2 q)
theorem g_if_le (X : Stand p l e R s m args below meth c T locs cells slots) (hx : p.tables.exec = Jvm.exec) {x : Int32} {o : Int} (hd : decode c.code pc = .ok (.ifCond .le o, 3)) (hp1 : pc1 = pc + 3) (ho : 0 ≤ (pc : Int) + o) (hp2 : ((pc : Int) + o).toNat = pc2) (G2 : (¬ (0 : Int32) < x) → Go p e below En n0 Q T (mkF m pc2 Ls st)) (G1 : ((0 : Int32) < x) → Go p e below En n0 Q T (mkF m pc1 Ls st)) : Go p e below En n0 Q T (mkF m pc Ls (.int x :: st)) := by
  by_cases q : (0 : Int32) < x
  · exact Go.mov (fun _ k => XS.ifNo X.here hx rfl hd rfl ((if0 _ _).trans (tlt q).2.2.2) (hp1 ▸ k)) (G1 q)
  · exact Go.mov (fun _ k => XS.ifYes X.here hx rfl rfl hd rfl ((if0 _ _).trans (flt q).2.2.2) ho hp2 k) (G2 q)
theorem g_lcmp_le (X : Stand p l e R s m args below meth c T locs cells slots) (hx : p.tables.exec = Jvm.exec) {x y : Int64} {o : Int} (hd0 : decode c.code pc = .ok (.lcmp, 1)) (hp0 : pc + 1 = pc') (hd : decode c.code pc' = .ok (.ifCond .le o, 3)) (hp1 : pc1 = pc' + 3) (ho : 0 ≤ (pc' : Int) + o) (hp2 : ((pc' : Int) + o).toNat = pc2) (G2 : (¬ y < x) → Go p e below En n0 Q T (mkF m pc2 Ls st)) (G1 : (y < x) → Go p e below En n0 Q T (mkF m pc1 Ls st)) : Go p e below En n0 Q T (mkF m pc Ls (.long y :: .long x :: st)) :=
  g_lcmp X hx hd0 hp0 (g_if_le X hx hd hp1 ho hp2 (fun q => G2 (fun r => q ((lw_gt x y).mpr r))) (fun q => G1 ((lw_gt x y).mp q)))
theorem g_icmp_eq (X : Stand p l e R s m args below meth c T locs cells slots) (hx : p.tables.exec = Jvm.exec) {x y : Int32} {o : Int} (hd : decode c.code pc = .ok (.if_icmp .eq o, 3)) (hp1 : pc1 = pc + 3) (ho : 0 ≤ (pc : Int) + o) (hp2 : ((pc : Int) + o).toNat = pc2) (G2 : (x = y) → Go p e below En n0 Q T (mkF m pc2 Ls st)) (G1 : (¬ x = y) → Go p e below En n0 Q T (mkF m pc1 Ls st)) : Go p e below En n0 Q T (mkF m pc Ls (.int y :: .int x :: st)) := by
  by_cases q : x = y
  · exact Go.mov (fun _ k => XS.icmpYes X.here hx rfl rfl hd rfl (teq q).1 ho hp2 k) (G2 q)
  · exact Go.mov (fun _ k => XS.icmpNo X.here hx rfl hd rfl (feq q).1 (hp1 ▸ k)) (G1 q)
theorem g_if_eq (X : Stand p l e R s m args below meth c T locs cells slots) (hx : p.tables.exec = Jvm.exec) {x : Int32} {o : Int} (hd : decode c.code pc = .ok (.ifCond .eq o, 3)) (hp1 : pc1 = pc + 3) (ho : 0 ≤ (pc : Int) + o) (hp2 : ((pc : Int) + o).toNat = pc2) (G2 : (x = (0 : Int32)) → Go p e below En n0 Q T (mkF m pc2 Ls st)) (G1 : (¬ x = (0 : Int32)) → Go p e below En n0 Q T (mkF m pc1 Ls st)) : Go p e below En n0 Q T (mkF m pc Ls (.int x :: st)) := by
  by_cases q : x = (0 : Int32)
  · exact Go.mov (fun _ k => XS.ifYes X.here hx rfl rfl hd rfl ((if0 _ _).trans (teq q).1) ho hp2 k) (G2 q)
  · exact Go.mov (fun _ k => XS.ifNo X.here hx rfl hd rfl ((if0 _ _).trans (feq q).1) (hp1 ▸ k)) (G1 q)
theorem g_lcmp_eq (X : Stand p l e R s m args below meth c T locs cells slots) (hx : p.tables.exec = Jvm.exec) {x y : Int64} {o : Int} (hd0 : decode c.code pc = .ok (.lcmp, 1)) (hp0 : pc + 1 = pc') (hd : decode c.code pc' = .ok (.ifCond .eq o, 3)) (hp1 : pc1 = pc' + 3) (ho : 0 ≤ (pc' : Int) + o) (hp2 : ((pc' : Int) + o).toNat = pc2) (G2 : (x = y) → Go p e below En n0 Q T (mkF m pc2 Ls st)) (G1 : (¬ x = y) → Go p e below En n0 Q T (mkF m pc1 Ls st)) : Go p e below En n0 Q T (mkF m pc Ls (.long y :: .long x :: st)) :=
  g_lcmp X hx hd0 hp0 (g_if_eq X hx hd hp1 ho hp2 (fun q => G2 ((lw_eq x y).mp q)) (fun q => G1 (fun r => q ((lw_eq x y).mpr r))))
theorem g_icmp_ne (X : Stand p l e R s m args below meth c T locs cells slots) (hx : p.tables.exec = Jvm.exec) {x y : Int32} {o : Int} (hd : decode c.code pc = .ok (.if_icmp .ne o, 3)) (hp1 : pc1 = pc + 3) (ho : 0 ≤ (pc : Int) + o) (hp2 : ((pc : Int) + o).toNat = pc2) (G2 : (¬ x = y) → Go p e below En n0 Q T (mkF m pc2 Ls st)) (G1 : (x = y) → Go p e below En n0 Q T (mkF m pc1 Ls st)) : Go p e below En n0 Q T (mkF m pc Ls (.int y :: .int x :: st)) := by
  by_cases q : x = y
  · exact Go.mov (fun _ k => XS.icmpNo X.here hx rfl hd rfl (teq q).2 (hp1 ▸ k)) (G1 q)
  · exact Go.mov (fun _ k => XS.icmpYes X.here hx rfl rfl hd rfl (feq q).2 ho hp2 k) (G2 q)
theorem g_if_ne (X : Stand p l e R s m args below meth c T locs cells slots) (hx : p.tables.exec = Jvm.exec) {x : Int32} {o : Int} (hd : decode c.code pc = .ok (.ifCond .ne o, 3)) (hp1 : pc1 = pc + 3) (ho : 0 ≤ (pc : Int) + o) (hp2 : ((pc : Int) + o).toNat = pc2) (G2 : (¬ x = (0 : Int32)) → Go p e below En n0 Q T (mkF m pc2 Ls st)) (G1 : (x = (0 : Int32)) → Go p e below En n0 Q T (mkF m pc1 Ls st)) : Go p e below En n0 Q T (mkF m pc Ls (.int x :: st)) := by
  by_cases q : x = (0 : Int32)
  · exact Go.mov (fun _ k => XS.ifNo X.here hx rfl hd rfl ((if0 _ _).trans (teq q).2) (hp1 ▸ k)) (G1 q)
  · exact Go.mov (fun _ k => XS.ifYes X.here hx rfl rfl hd rfl ((if0 _ _).trans (feq q).2) ho hp2 k) (G2 q)
theorem g_lcmp_ne (X : Stand p l e R s m args below meth c T locs cells slots) (hx : p.tables.exec = Jvm.exec) {x y : Int64} {o : Int} (hd0 : decode c.code pc = .ok (.lcmp, 1)) (hp0 : pc + 1 = pc') (hd : decode c.code pc' = .ok (.ifCond .ne o, 3)) (hp1 : pc1 = pc' + 3) (ho : 0 ≤ (pc' : Int) + o) (hp2 : ((pc' : Int) + o).toNat = pc2) (G2 : (¬ x = y) → Go p e below En n0 Q T (mkF m pc2 Ls st)) (G1 : (x = y) → Go p e below En n0 Q T (mkF m pc1 Ls st)) : Go p e below En n0 Q T (mkF m pc Ls (.long y :: .long x :: st)) :=
  g_lcmp X hx hd0 hp0 (g_if_ne X hx hd hp1 ho hp2 (fun q => G2 (fun r => q ((lw_eq x y).mpr r))) (fun q => G1 ((lw_eq x y).mp q)))
theorem g_ifnull_n (X : Stand p l e R s m args below meth c T locs cells slots) (hx : p.tables.exec = Jvm.exec) {b : Addr} {o : Int} (hd : decode c.code pc = .ok (.ifnull o, 3)) (hp : pc + 3 = pc') (G : Go p e below En n0 Q T (mkF m pc' Ls st)) : Go p e below En n0 Q T (mkF m pc Ls (.ref b :: st)) := by
  subst hp
  exact Go.mov (fun _ k => XS.ifnullNo X.here hx rfl hd rfl k) G
theorem g_ifnull_y (X : Stand p l e R s m args below meth c T locs cells slots) (hx : p.tables.exec = Jvm.exec) {o : Int} (hd : decode c.code pc = .ok (.ifnull o, 3)) (ho : 0 ≤ (pc : Int) + o) (hp : ((pc : Int) + o).toNat = pc') (G : Go p e below En n0 Q T (mkF m pc' Ls st)) : Go p e below En n0 Q T (mkF m pc Ls (.null :: st)) :=
  Go.mov (fun _ k => XS.ifnullYes X.here hx rfl rfl hd rfl ho hp k) G
theorem g_ifnonnull_y (X : Stand p l e R s m args below meth c T locs cells slots) (hx : p.tables.exec = Jvm.exec) {b : Addr} {o : Int} (hd : decode c.code pc = .ok (.ifnonnull o, 3)) (ho : 0 ≤ (pc : Int) + o) (hp : ((pc : Int) + o).toNat = pc') (G : Go p e below En n0 Q T (mkF m pc' Ls st)) : Go p e below En n0 Q T (mkF m pc Ls (.ref b :: st)) :=
  Go.mov (fun _ k => XS.ifnonnullYes X.here hx rfl rfl hd rfl ho hp k) G
theorem g_ifnonnull_n (X : Stand p l e R s m args below meth c T locs cells slots) (hx : p.tables.exec = Jvm.exec) {o : Int} (hd : decode c.code pc = .ok (.ifnonnull o, 3)) (hp : pc + 3 = pc') (G : Go p e below En n0 Q T (mkF m pc' Ls st)) : Go p e below En n0 Q T (mkF m pc Ls (.null :: st)) := by
  subst hp
  exact Go.mov (fun _ k => XS.ifnonnullNo X.here hx rfl hd rfl k) G
theorem g_acmp_eq (X : Stand p l e R s m args below meth c T locs cells slots) (hx : p.tables.exec = Jvm.exec) {x y : Value} {o : Int} (hd : decode c.code pc = .ok (.if_acmp .eq o, 3)) (hx1 : x.isRef = true) (hy1 : y.isRef = true) (hp1 : pc1 = pc + 3) (ho : 0 ≤ (pc : Int) + o) (hp2 : ((pc : Int) + o).toNat = pc2) (G2 : (x = y) → Go p e below En n0 Q T (mkF m pc2 Ls st)) (G1 : (¬ x = y) → Go p e below En n0 Q T (mkF m pc1 Ls st)) : Go p e below En n0 Q T (mkF m pc Ls (y :: x :: st)) := by
  subst hp1 hp2
  by_cases q : x = y
  · exact Go.mov (fun _ k => acmp X hx rfl hx1 hy1 rfl hd rfl (same := true) (decide_eq_true q) ho rfl k) (G2 q)
  · exact Go.mov (fun _ k => acmp X hx rfl hx1 hy1 rfl hd rfl (same := false) (decide_eq_false q) ho rfl k) (G1 q)
theorem g_acmp_ne (X : Stand p l e R s m args below meth c T locs cells slots) (hx : p.tables.exec = Jvm.exec) {x y : Value} {o : Int} (hd : decode c.code pc = .ok (.if_acmp .ne o, 3)) (hx1 : x.isRef = true) (hy1 : y.isRef = true) (hp1 : pc1 = pc + 3) (ho : 0 ≤ (pc : Int) + o) (hp2 : ((pc : Int) + o).toNat = pc2) (G2 : (¬ x = y) → Go p e below En n0 Q T (mkF m pc2 Ls st)) (G1 : (x = y) → Go p e below En n0 Q T (mkF m pc1 Ls st)) : Go p e below En n0 Q T (mkF m pc Ls (y :: x :: st)) := by
  subst hp1 hp2
  by_cases q : x = y
  · exact Go.mov (fun _ k => acmp X hx rfl hx1 hy1 rfl hd rfl (same := true) (decide_eq_true q) ho rfl k) (G1 q)
  · exact Go.mov (fun _ k => acmp X hx rfl hx1 hy1 rfl hd rfl (same := false) (decide_eq_false q) ho rfl k) (G2 q)
theorem g_ldc (X : Stand p l e R s m args below meth c T locs cells slots) (hx : p.tables.exec = Jvm.exec) (hZ : Z.Warmed39 s.vm) {own : String} {i : Nat} {v : Int32} (hown : s.vm.findClass own = some m.cls) (w : (Jvm.Cond.constant own i v).before a0 Z = true) (hd : decode c.code pc = .ok (.ldc i, 2)) (hp : pc + 2 = pc') (G : Go p e below En n0 Q T (mkF m pc' Ls (.int v :: st))) : Go p e below En n0 Q T (mkF m pc Ls st) := by
  subst hp
  exact Go.mov (X.ldcInt hx hown (mvT hZ w) rfl hd) G
theorem g_ldc_w (X : Stand p l e R s m args below meth c T locs cells slots) (hx : p.tables.exec = Jvm.exec) (hZ : Z.Warmed39 s.vm) {own : String} {i : Nat} {v : Int32} (hown : s.vm.findClass own = some m.cls) (w : (Jvm.Cond.constant own i v).before a0 Z = true) (hd : decode c.code pc = .ok (.ldc_w i, 3)) (hp : pc + 3 = pc') (G : Go p e below En n0 Q T (mkF m pc' Ls (.int v :: st))) : Go p e below En n0 Q T (mkF m pc Ls st) := by
  subst hp
  exact Go.mov (X.ldcwInt hx hown (mvT hZ w) rfl hd) G
theorem g_ldc2_w (X : Stand p l e R s m args below meth c T locs cells slots) (hx : p.tables.exec = Jvm.exec) (hZ : Z.Warmed39 s.vm) {own : String} {i : Nat} {v : Int64} (hown : s.vm.findClass own = some m.cls) (w : (Jvm.Cond.constantLong own i v).before a0 Z = true) (hd : decode c.code pc = .ok (.ldc2_w i, 3)) (hp : pc + 3 = pc') (G : Go p e below En n0 Q T (mkF m pc' Ls (.long v :: st))) : Go p e below En n0 Q T (mkF m pc Ls st) := by
  subst hp
  exact Go.mov (X.ldc2Long hx hown (mvT hZ w) rfl hd) G
theorem g_return (X : Stand p l e R s m args below meth c T locs cells slots) (hx : p.tables.exec = Jvm.exec) (hr : meth.sig.returnType = none) (hd : decode c.code pc = .ok (.return_, 1)) (N : Fr n0 locs) (hlk : meth.locks = false) (hE : ∀ v t, t.heap = T.heap → s.WarmedH t.vm → s.sameButNew ({ t with vm := s.vm } : State) locs cells slots → En v t locs) (hQ : Q none T.heap) : Go p e below En n0 Q T (mkF m pc Ls []) := by
  obtain ⟨fs, hr1, hrun, hended, hW, hsame⟩ := X.leave (v := none) (fun _ => rfl) hlk
  exact ⟨_, _, X.returnOut hx hr hd hr1, hrun, hended, _, _, rfl, ⟨hQ, N⟩, hE _ _ rfl hW hsame⟩
theorem g_ireturn (X : Stand p l e R s m args below meth c T locs cells slots) (hx : p.tables.exec = Jvm.exec) {z : Int32} (hr : meth.sig.returnType = some .int) (hd : decode c.code pc = .ok (.ireturn, 1)) (N : Fr n0 locs) (hlk : meth.locks = false) (hE : ∀ v t, t.heap = T.heap → s.WarmedH t.vm → s.sameButNew ({ t with vm := s.vm } : State) locs cells slots → En v t locs) (hQ : Q (some (.int z)) T.heap) : Go p e below En n0 Q T (mkF m pc Ls (.int z :: st)) := by
  obtain ⟨fs, hr1, hrun, hended, hW, hsame⟩ := X.leave (v := some (.int z)) (fun h => by rw [hr] at h; cases h) hlk
  exact ⟨_, _, retOut X hx hr rfl (Or.inl ⟨rfl, Or.inl rfl, z, rfl⟩) hd hr1, hrun, hended, _, _, rfl, ⟨hQ, N⟩, hE _ _ rfl hW hsame⟩
theorem g_lreturn (X : Stand p l e R s m args below meth c T locs cells slots) (hx : p.tables.exec = Jvm.exec) {z : Int64} (hr : meth.sig.returnType = some .long) (hd : decode c.code pc = .ok (.lreturn, 1)) (N : Fr n0 locs) (hlk : meth.locks = false) (hE : ∀ v t, t.heap = T.heap → s.WarmedH t.vm → s.sameButNew ({ t with vm := s.vm } : State) locs cells slots → En v t locs) (hQ : Q (some (.long z)) T.heap) : Go p e below En n0 Q T (mkF m pc Ls (.long z :: st)) := by
  obtain ⟨fs, hr1, hrun, hended, hW, hsame⟩ := X.leave (v := some (.long z)) (fun h => by rw [hr] at h; cases h) hlk
  exact ⟨_, _, retOut X hx hr rfl (Or.inr (Or.inl ⟨rfl, rfl, z, rfl⟩)) hd hr1, hrun, hended, _, _, rfl, ⟨hQ, N⟩, hE _ _ rfl hW hsame⟩
theorem g_areturn (X : Stand p l e R s m args below meth c T locs cells slots) (hx : p.tables.exec = Jvm.exec) {v : Value} {t : FieldType} (ht : t.isReference = true) (hv : v.isRef = true) (hr : meth.sig.returnType = some t) (hd : decode c.code pc = .ok (.areturn, 1)) (N : Fr n0 locs) (hlk : meth.locks = false) (hE : ∀ v t, t.heap = T.heap → s.WarmedH t.vm → s.sameButNew ({ t with vm := s.vm } : State) locs cells slots → En v t locs) (hQ : Q (some (v)) T.heap) : Go p e below En n0 Q T (mkF m pc Ls (v :: st)) := by
  obtain ⟨fs, hr1, hrun, hended, hW, hsame⟩ := X.leave (v := some (v)) (fun h => by rw [hr] at h; cases h) hlk
  exact ⟨_, _, retOut X hx hr (by cases t <;> first | rfl | (cases ht; done)) (Or.inr (Or.inr (Or.inr (Or.inr ⟨rfl, ht, hv⟩)))) hd hr1, hrun, hended, _, _, rfl, ⟨hQ, N⟩, hE _ _ rfl hW hsame⟩
theorem g_zreturn (X : Stand p l e R s m args below meth c T locs cells slots) (hx : p.tables.exec = Jvm.exec) {z : Int32} (hn : narrow .boolean (.int z) = .int z) (hr : meth.sig.returnType = some .boolean) (hd : decode c.code pc = .ok (.ireturn, 1)) (N : Fr n0 locs) (hlk : meth.locks = false) (hE : ∀ v t, t.heap = T.heap → s.WarmedH t.vm → s.sameButNew ({ t with vm := s.vm } : State) locs cells slots → En v t locs) (hQ : Q (some (.int z)) T.heap) : Go p e below En n0 Q T (mkF m pc Ls (.int z :: st)) := by
  obtain ⟨fs, hr1, hrun, hended, hW, hsame⟩ := X.leave (v := some (.int z)) (fun h => by rw [hr] at h; cases h) hlk
  exact ⟨_, _, retOut X hx hr hn (Or.inl ⟨rfl, by simp, z, rfl⟩) hd hr1, hrun, hended, _, _, rfl, ⟨hQ, N⟩, hE _ _ rfl hW hsame⟩
theorem g_breturn (X : Stand p l e R s m args below meth c T locs cells slots) (hx : p.tables.exec = Jvm.exec) {z : Int32} (hn : narrow .byte (.int z) = .int z) (hr : meth.sig.returnType = some .byte) (hd : decode c.code pc = .ok (.ireturn, 1)) (N : Fr n0 locs) (hlk : meth.locks = false) (hE : ∀ v t, t.heap = T.heap → s.WarmedH t.vm → s.sameButNew ({ t with vm := s.vm } : State) locs cells slots → En v t locs) (hQ : Q (some (.int z)) T.heap) : Go p e below En n0 Q T (mkF m pc Ls (.int z :: st)) := by
  obtain ⟨fs, hr1, hrun, hended, hW, hsame⟩ := X.leave (v := some (.int z)) (fun h => by rw [hr] at h; cases h) hlk
  exact ⟨_, _, retOut X hx hr hn (Or.inl ⟨rfl, by simp, z, rfl⟩) hd hr1, hrun, hended, _, _, rfl, ⟨hQ, N⟩, hE _ _ rfl hW hsame⟩
theorem g_creturn (X : Stand p l e R s m args below meth c T locs cells slots) (hx : p.tables.exec = Jvm.exec) {z : Int32} (hn : narrow .char (.int z) = .int z) (hr : meth.sig.returnType = some .char) (hd : decode c.code pc = .ok (.ireturn, 1)) (N : Fr n0 locs) (hlk : meth.locks = false) (hE : ∀ v t, t.heap = T.heap → s.WarmedH t.vm → s.sameButNew ({ t with vm := s.vm } : State) locs cells slots → En v t locs) (hQ : Q (some (.int z)) T.heap) : Go p e below En n0 Q T (mkF m pc Ls (.int z :: st)) := by
  obtain ⟨fs, hr1, hrun, hended, hW, hsame⟩ := X.leave (v := some (.int z)) (fun h => by rw [hr] at h; cases h) hlk
  exact ⟨_, _, retOut X hx hr hn (Or.inl ⟨rfl, by simp, z, rfl⟩) hd hr1, hrun, hended, _, _, rfl, ⟨hQ, N⟩, hE _ _ rfl hW hsame⟩
theorem g_sreturn (X : Stand p l e R s m args below meth c T locs cells slots) (hx : p.tables.exec = Jvm.exec) {z : Int32} (hn : narrow .short (.int z) = .int z) (hr : meth.sig.returnType = some .short) (hd : decode c.code pc = .ok (.ireturn, 1)) (N : Fr n0 locs) (hlk : meth.locks = false) (hE : ∀ v t, t.heap = T.heap → s.WarmedH t.vm → s.sameButNew ({ t with vm := s.vm } : State) locs cells slots → En v t locs) (hQ : Q (some (.int z)) T.heap) : Go p e below En n0 Q T (mkF m pc Ls (.int z :: st)) := by
  obtain ⟨fs, hr1, hrun, hended, hW, hsame⟩ := X.leave (v := some (.int z)) (fun h => by rw [hr] at h; cases h) hlk
  exact ⟨_, _, retOut X hx hr hn (Or.inl ⟨rfl, by simp, z, rfl⟩) hd hr1, hrun, hended, _, _, rfl, ⟨hQ, N⟩, hE _ _ rfl hW hsame⟩
end Go
/-! arrays: every component is known -/
def Va (Z : State) (h : Heap) (a : Addr) (ty : FieldType) (vs : List Value) : Prop := ∃ c : Cell, Arr Z h a c ty ∧ c.slots.toList = vs
section Arrays
variable {p : Program} {l : Launch} {e : Env} {R : Room} {s : State} {m : MethodId} {args : Array Value} {below : List Frame} {meth : Method} {c : Code} {T : State} {locs : List Loc} {cells slots : Nat} {Z : State} {a0 : Array Value} {h h' : Heap} {n0 : Nat} {En : Option Value → State → List Loc → Prop} {Q : Option Value → Heap → Prop}
variable {pc pc' : Nat} {Ls : Array Slot} {st : List Value} {a b : Addr} {ty : FieldType} {vs : List Value} {v w : Value} {sl : Nat} {ws : List Addr}
theorem Va.lt (F : Va Z h a ty vs) : a < h.size := by obtain ⟨c, A, -⟩ := F; exact A.lt
theorem Va.ext (F : Va Z h a ty vs) (E : Ext h h') : Va Z h' a ty vs := by obtain ⟨c, A, r⟩ := F; exact ⟨c, A.ext E, r⟩
theorem Va.other (F : Va Z h b ty vs) (W : Wr h h' a sl v) (q : b ≠ a) : Va Z h' b ty vs := by obtain ⟨c, A, r⟩ := F; exact ⟨c, A.other W q, r⟩
theorem Va.keep (F : Va Z h a ty vs) (K : Keep h h' ws) (q : a ∉ ws) : Va Z h' a ty vs := by obtain ⟨c, A, r⟩ := F; exact ⟨c, ⟨K.2.1 a c A.1 q, A.2⟩, r⟩
theorem Va.same (F : Va Z h a ty vs) (W : Wr h h' a sl v) : Va Z h' a ty (vs.set sl v) := by
  obtain ⟨c, A, rfl⟩ := F
  exact ⟨_, A.same W, by simp [Cell.setSlot]⟩
theorem Va.eq (F : Va Z h a ty vs) {vs' : List Value} (q : vs = vs') : Va Z h a ty vs' := q ▸ F
theorem Va.len (F : Va Z h a ty vs) : ∃ c : Cell, Arr Z h a c ty ∧ c.slots.size = vs.length ∧ ∀ i : Nat, c.slots[i]? = vs[i]? := by
  obtain ⟨c, A, rfl⟩ := F
  exact ⟨c, A, by simp, fun i => by simp⟩
theorem Va.new {cA : ClassId} {n : Int32} {k : Nat} (A : Arr Z h a (newA cA ty n) ty) (hk : n.toNatClampNeg = k) : Va Z h a ty (List.replicate k (defaultValue ty)) := ⟨_, A, by simp [newA, hk]⟩
theorem inV {c : Cell} {j : Int32} {i : Nat} (hs : c.slots.size = vs.length) (hj : ¬ j < 0) (hi : j.toNatClampNeg = i) (hv : vs[i]? = some v) : ¬ (j < 0 ∨ c.slots.size ≤ j.toNatClampNeg) := by
  rintro (q | q)
  · exact hj q
  · rw [hs, hi] at q
    rw [List.getElem?_eq_none q] at hv
    cases hv
theorem g_baload (X : Stand p l e R s m args below meth c T locs cells slots) (hx : p.tables.exec = Jvm.exec) (hZ : Z.Warmed39 s.vm) (eT : T.heap = h) (F : Va Z h a .byte vs) {j : Int32} {i : Nat} (hd : decode c.code pc = .ok (.baload, 1)) (hp : pc + 1 = pc') (hj : ¬ j < 0) (hi : j.toNatClampNeg = i) (hv : vs[i]? = some v) (G : Go p e below En n0 Q T (mkF m pc' Ls (v :: st))) : Go p e below En n0 Q T (mkF m pc Ls (.int j :: .ref a :: st)) := by
  subst hp eT
  obtain ⟨cl, A, hs, hat⟩ := F.len
  have hv' : cl.slots[j.toNatClampNeg]? = some v := by rw [hat, hi]; exact hv
  exact Go.mov (fun t k => X.baloadBytes hx (j := j) (v := v) A.1 (State.isArrayOf_alike hZ.alike A.2.1) A.2.2 (inV hs hj hi hv) hv' (g := mkF m pc Ls (.int j :: .ref a :: st)) rfl rfl hd t k) G
theorem g_caload (X : Stand p l e R s m args below meth c T locs cells slots) (hx : p.tables.exec = Jvm.exec) (hZ : Z.Warmed39 s.vm) (eT : T.heap = h) (F : Va Z h a .char vs) {j : Int32} {i : Nat} (hd : decode c.code pc = .ok (.caload, 1)) (hp : pc + 1 = pc') (hj : ¬ j < 0) (hi : j.toNatClampNeg = i) (hv : vs[i]? = some v) (G : Go p e below En n0 Q T (mkF m pc' Ls (v :: st))) : Go p e below En n0 Q T (mkF m pc Ls (.int j :: .ref a :: st)) := by
  subst hp eT
  obtain ⟨cl, A, hs, hat⟩ := F.len
  have hv' : cl.slots[j.toNatClampNeg]? = some v := by rw [hat, hi]; exact hv
  exact Go.mov (fun t k => X.caload hx (j := j) (v := v) A.1 (State.isArrayOf_alike hZ.alike A.2.1) A.2.2 (inV hs hj hi hv) hv' (g := mkF m pc Ls (.int j :: .ref a :: st)) rfl rfl hd t k) G
theorem g_laload (X : Stand p l e R s m args below meth c T locs cells slots) (hx : p.tables.exec = Jvm.exec) (hZ : Z.Warmed39 s.vm) (eT : T.heap = h) (F : Va Z h a .long vs) {j : Int32} {i : Nat} (hd : decode c.code pc = .ok (.laload, 1)) (hp : pc + 1 = pc') (hj : ¬ j < 0) (hi : j.toNatClampNeg = i) (hv : vs[i]? = some v) (G : Go p e below En n0 Q T (mkF m pc' Ls (v :: st))) : Go p e below En n0 Q T (mkF m pc Ls (.int j :: .ref a :: st)) := by
  subst hp eT
  obtain ⟨cl, A, hs, hat⟩ := F.len
  have hv' : cl.slots[j.toNatClampNeg]? = some v := by rw [hat, hi]; exact hv
  exact Go.mov (fun t k => X.laload hx (j := j) (v := v) A.1 (State.isArrayOf_alike hZ.alike A.2.1) A.2.2 (inV hs hj hi hv) hv' (g := mkF m pc Ls (.int j :: .ref a :: st)) rfl rfl hd t k) G
theorem g_iaload (X : Stand p l e R s m args below meth c T locs cells slots) (hx : p.tables.exec = Jvm.exec) (hZ : Z.Warmed39 s.vm) (eT : T.heap = h) (F : Va Z h a .int vs) {j : Int32} {i : Nat} (hd : decode c.code pc = .ok (.iaload, 1)) (hp : pc + 1 = pc') (hj : ¬ j < 0) (hi : j.toNatClampNeg = i) (hv : vs[i]? = some v) (G : Go p e below En n0 Q T (mkF m pc' Ls (v :: st))) : Go p e below En n0 Q T (mkF m pc Ls (.int j :: .ref a :: st)) := by
  subst hp eT
  obtain ⟨cl, A, hs, hat⟩ := F.len
  have hv' : cl.slots[j.toNatClampNeg]? = some v := by rw [hat, hi]; exact hv
  exact Go.mov (fun t k => X.iaload hx (j := j) (v := v) A.1 (State.isArrayOf_alike hZ.alike A.2.1) A.2.2 (inV hs hj hi hv) hv' (g := mkF m pc Ls (.int j :: .ref a :: st)) rfl rfl hd t k) G
theorem g_arraylength (X : Stand p l e R s m args below meth c T locs cells slots) (hx : p.tables.exec = Jvm.exec) (hZ : Z.Warmed39 s.vm) (eT : T.heap = h) (F : Va Z h a ty vs) {z : Int32} (hd : decode c.code pc = .ok (.arraylength, 1)) (hp : pc + 1 = pc') (hz : vs.length.toInt32 = z) (G : Go p e below En n0 Q T (mkF m pc' Ls (.int z :: st))) : Go p e below En n0 Q T (mkF m pc Ls (.ref a :: st)) := by
  subst hp eT
  obtain ⟨cl, A, hs, hat⟩ := F.len
  subst hz
  rw [← hs] at G
  exact Go.mov (fun t k => X.arraylength hx A.1 (State.isArrayOf_alike hZ.alike A.2.1) (g := mkF m pc Ls (.ref a :: st)) rfl rfl hd t k) G
theorem h_bastore (X : Stand p l e R s m args below meth c T locs cells slots) (hx : p.tables.exec = Jvm.exec) (hZ : Z.Warmed39 s.vm) (eT : T.heap = h) (N : Fr n0 locs) (F : Va Z h a .byte vs) (hn : n0 ≤ a) {j : Int32} {i : Nat} {x : Int32} {v : Value} (hd : decode c.code pc = .ok (.bastore, 1)) (hj : ¬ j < 0) (hi : j.toNatClampNeg = i) (hv : vs[i]? = some v) (Ls : Array Slot) (st : List Value) :
    ∃ T' h' L, Stand p l e R s m args below meth c T' L cells slots ∧ T'.heap = h' ∧ Fr n0 L ∧ Wr h h' a i (.int (byt x)) ∧ Va Z h' a .byte (vs.set i (.int (byt x))) ∧ ∀ target, Steps p.tables e below (T'.setTop (mkF m (pc + 1) Ls st)) target → Steps p.tables e below (T.setTop (mkF m pc Ls (.int x :: .int j :: .ref a :: st))) target := by
  obtain ⟨cl, A, hs, hat⟩ := F.len
  obtain ⟨T', h', X', e', W, k⟩ := stB X hx hZ eT A (j := j) (inV hs hj hi hv) (g := mkF m pc Ls (.int x :: .int j :: .ref a :: st)) rfl rfl hd
  subst hi
  exact ⟨T', h', _, X', e', Fr.snoc X' N hn, W, F.same W, k⟩
theorem h_castore (X : Stand p l e R s m args below meth c T locs cells slots) (hx : p.tables.exec = Jvm.exec) (hZ : Z.Warmed39 s.vm) (eT : T.heap = h) (N : Fr n0 locs) (F : Va Z h a .char vs) (hn : n0 ≤ a) {j : Int32} {i : Nat} {x : Int32} {v : Value} (hd : decode c.code pc = .ok (.castore, 1)) (hj : ¬ j < 0) (hi : j.toNatClampNeg = i) (hv : vs[i]? = some v) (Ls : Array Slot) (st : List Value) :
    ∃ T' h' L, Stand p l e R s m args below meth c T' L cells slots ∧ T'.heap = h' ∧ Fr n0 L ∧ Wr h h' a i (.int (chr x)) ∧ Va Z h' a .char (vs.set i (.int (chr x))) ∧ ∀ target, Steps p.tables e below (T'.setTop (mkF m (pc + 1) Ls st)) target → Steps p.tables e below (T.setTop (mkF m pc Ls (.int x :: .int j :: .ref a :: st))) target := by
  obtain ⟨cl, A, hs, hat⟩ := F.len
  obtain ⟨T', h', X', e', W, k⟩ := stC X hx hZ eT A (j := j) (inV hs hj hi hv) (g := mkF m pc Ls (.int x :: .int j :: .ref a :: st)) rfl rfl hd
  subst hi
  exact ⟨T', h', _, X', e', Fr.snoc X' N hn, W, F.same W, k⟩
theorem h_lastore (X : Stand p l e R s m args below meth c T locs cells slots) (hx : p.tables.exec = Jvm.exec) (hZ : Z.Warmed39 s.vm) (eT : T.heap = h) (N : Fr n0 locs) (F : Va Z h a .long vs) (hn : n0 ≤ a) {j : Int32} {i : Nat} {x : Int64} {v : Value} (hd : decode c.code pc = .ok (.lastore, 1)) (hj : ¬ j < 0) (hi : j.toNatClampNeg = i) (hv : vs[i]? = some v) (Ls : Array Slot) (st : List Value) :
    ∃ T' h' L, Stand p l e R s m args below meth c T' L cells slots ∧ T'.heap = h' ∧ Fr n0 L ∧ Wr h h' a i (.long x) ∧ Va Z h' a .long (vs.set i (.long x)) ∧ ∀ target, Steps p.tables e below (T'.setTop (mkF m (pc + 1) Ls st)) target → Steps p.tables e below (T.setTop (mkF m pc Ls (.long x :: .int j :: .ref a :: st))) target := by
  obtain ⟨cl, A, hs, hat⟩ := F.len
  obtain ⟨T', h', X', e', W, k⟩ := stJ X hx hZ eT A (j := j) (inV hs hj hi hv) (g := mkF m pc Ls (.long x :: .int j :: .ref a :: st)) rfl rfl hd
  subst hi
  exact ⟨T', h', _, X', e', Fr.snoc X' N hn, W, F.same W, k⟩
theorem h_iastore (X : Stand p l e R s m args below meth c T locs cells slots) (hx : p.tables.exec = Jvm.exec) (hZ : Z.Warmed39 s.vm) (eT : T.heap = h) (N : Fr n0 locs) (F : Va Z h a .int vs) (hn : n0 ≤ a) {j : Int32} {i : Nat} {x : Int32} {v : Value} (hd : decode c.code pc = .ok (.iastore, 1)) (hj : ¬ j < 0) (hi : j.toNatClampNeg = i) (hv : vs[i]? = some v) (Ls : Array Slot) (st : List Value) :
    ∃ T' h' L, Stand p l e R s m args below meth c T' L cells slots ∧ T'.heap = h' ∧ Fr n0 L ∧ Wr h h' a i (.int x) ∧ Va Z h' a .int (vs.set i (.int x)) ∧ ∀ target, Steps p.tables e below (T'.setTop (mkF m (pc + 1) Ls st)) target → Steps p.tables e below (T.setTop (mkF m pc Ls (.int x :: .int j :: .ref a :: st))) target := by
  obtain ⟨cl, A, hs, hat⟩ := F.len
  obtain ⟨T', h', X', e', W, k⟩ := stI X hx hZ eT A (j := j) (inV hs hj hi hv) (g := mkF m pc Ls (.int x :: .int j :: .ref a :: st)) rfl rfl hd
  subst hi
  exact ⟨T', h', _, X', e', Fr.snoc X' N hn, W, F.same W, k⟩
theorem h_newarray (X : Stand p l e R s m args below meth c T locs cells slots) (hx : p.tables.exec = Jvm.exec) (hZ : Z.Warmed39 s.vm) (eT : T.heap = h) {aty : ArrayType} {ty : FieldType} (hty : newarray.typeOf aty = ty) (w : (Jvm.Cond.arrayClass ty).before a0 Z = true) {n : Int32} {k cap : Nat} (hd : decode c.code pc = .ok (.newarray aty, 2)) (hn : ¬ n < 0) (hk : n.toNatClampNeg = k) (hcap : k ≤ cap) (hb : cap * 8 ≤ 536870912) (hc : cells + 1 ≤ R.cells) (hl : slots + cap ≤ R.slots) {ad : String} (had : "[" ++ ty.toString = ad) (Ls : Array Slot) (st : List Value) :
    ∃ T' h' a, Stand p l e R s m args below meth c T' locs (cells + 1) (slots + cap) ∧ T'.heap = h' ∧ a = h.size ∧ Ext h h' ∧ Va Z h' a ty (List.replicate k (defaultValue ty)) ∧ Exa Z h' a ad ∧ ∀ target, Steps p.tables e below (T'.setTop (mkF m (pc + 2) Ls (.ref a :: st))) target → Steps p.tables e below (T.setTop (mkF m pc Ls (.int n :: st))) target := by
  subst hty
  obtain ⟨T', h', cA, X', e', E, A, Ex, st'⟩ := newPE X hx hZ w eT (g := mkF m pc Ls (.int n :: st)) rfl hd rfl hn (cap := cap) (by rw [hk]; exact hcap) hb hc hl had
  exact ⟨T', h', _, X', e', rfl, E, Va.new A hk, Ex, st'⟩
end Arrays
/-! calls by a contract -/
section Calls
variable {p : Program} {l : Launch} {e : Env} {R : Room} {s : State} {m : MethodId} {args : Array Value} {below : List Frame} {meth : Method} {c : Code} {T : State} {locs : List Loc} {cells slots : Nat} {Z : State} {a0 : Array Value} {h h' : Heap} {n0 : Nat} {Q : Option Value → Heap → Prop}
variable {pc : Nat} {own : String} {i maxL : Nat} {y z : MethodName} {bytes : ByteArray} {ret : Option FieldType} {rm : Room} {as' : Array Value} {ps : List FieldType} {rt : Option FieldType}
theorem h_static (X : Stand p l e R s m args below meth c T locs cells slots) (hx : p.tables.exec = Jvm.exec) {Ls : Array Slot} {W : Nat} {argsL rest : List Value} (hZ : Z.Warmed39 s.vm) (eT : T.heap = h) (N : Fr n0 locs) (hml : c.maxLocals = Ls.size) (hown : s.vm.findClass own = some m.cls) (hK : Ctr l Z y bytes maxL ret rm as' h n0 Q) (w1 : (Jvm.Cond.methodLink own i y).before a0 Z = true) (w2 : (Jvm.Cond.static y).before a0 Z = true) (w3 : (Jvm.Cond.initialized y.cls).before a0 Z = true) (w4 : (Jvm.Cond.code y bytes maxL ret).before a0 Z = true) (hy : y.cls ≠ "java/lang/invoke/MethodHandle" ∧ y.cls ≠ "java/lang/invoke/VarHandle") (pd : parseMethodDescriptor y.desc = some ⟨ps, rt⟩) (hlen : argsL.length = ps.length) (has : as' = argsL.toArray) (hd : decode c.code pc = .ok (.invokestatic i, 3)) (hW : (rest.map fun v => v.category).sum = W) (hf : rm.frames + 1 ≤ R.frames) (hlo : W + (maxL + 11) + rm.locals ≤ R.locals) (hcc : cells + rm.cells ≤ R.cells) (hss : slots + rm.slots ≤ R.slots) :
    ∃ v T' h' L, Stand p l e R s m args below meth c T' L (cells + rm.cells) (slots + rm.slots) ∧ T'.heap = h' ∧ Fr n0 L ∧ Q v h' ∧ ∀ target, Steps p.tables e below (T'.setTop (mkF m (pc + 3) Ls (v.toList ++ rest))) target → Steps p.tables e below (T.setTop (mkF m pc Ls (argsL.reverse ++ rest))) target := by
  obtain ⟨v, _, ⟨T', L', k', n'⟩, -, X', ⟨Lc, hQ, h1, h2, h3⟩, st⟩ := Jvm.LawKit.callS X hx (y := y) hown (mvT hZ w1) (mvT hZ w2) (mvT hZ w3) (mvT hZ w4) hy (backOf (W := W) (hK []) hZ w4 w3 hf hlo) (g := mkF m pc Ls (argsL.reverse ++ rest)) rfl hml.symm (argsL := argsL) (rest := rest) (lenOf pd hlen) rfl (by show 2 * 0 + _ ≤ _; omega) hd (fun _ _ => ⟨has.symm, eT, hcc, hss⟩)
  dsimp only [Pt.U, Pt.locs, Pt.cells, Pt.slots] at X' h1 h2 h3 st hQ
  subst h1 h2 h3
  exact ⟨v, T', _, _, X', rfl, N.app hQ.2, hQ.1, st⟩
theorem h_special (X : Stand p l e R s m args below meth c T locs cells slots) (hx : p.tables.exec = Jvm.exec) {Ls : Array Slot} {W : Nat} {a : Addr} {argsL rest : List Value} (hZ : Z.Warmed39 s.vm) (eT : T.heap = h) (N : Fr n0 locs) (hml : c.maxLocals = Ls.size) (hown : s.vm.findClass own = some m.cls) (hy1 : y.name = "<init>") (hK : Ctr l Z y bytes maxL none rm as' h n0 Q) (w1 : (Jvm.Cond.methodLink own i y).before a0 Z = true) (w2 : (Jvm.Cond.instanceMethod y).before a0 Z = true) (w3 : (Jvm.Cond.initialized y.cls).before a0 Z = true) (w4 : (Jvm.Cond.code y bytes maxL none).before a0 Z = true) (hy : y.cls ≠ "java/lang/invoke/MethodHandle" ∧ y.cls ≠ "java/lang/invoke/VarHandle") (pd : parseMethodDescriptor y.desc = some ⟨ps, rt⟩) (hlen : argsL.length = ps.length) (has : as' = (.ref a :: argsL).toArray) (hd : decode c.code pc = .ok (.invokespecial i, 3)) (hW : (rest.map fun v => v.category).sum = W) (hf : rm.frames + 1 ≤ R.frames) (hlo : W + (maxL + 11) + rm.locals ≤ R.locals) (hcc : cells + rm.cells ≤ R.cells) (hss : slots + rm.slots ≤ R.slots) :
    ∃ v T' h' L, Stand p l e R s m args below meth c T' L (cells + rm.cells) (slots + rm.slots) ∧ T'.heap = h' ∧ Fr n0 L ∧ Q v h' ∧ ∀ target, Steps p.tables e below (T'.setTop (mkF m (pc + 3) Ls (v.toList ++ rest))) target → Steps p.tables e below (T.setTop (mkF m pc Ls (argsL.reverse ++ .ref a :: rest))) target := by
  obtain ⟨v, _, ⟨T', L', k', n'⟩, -, X', ⟨Lc, hQ, h1, h2, h3⟩, st⟩ := X.specialBack hx (y := y) hy1 hown (mvT hZ w1) (mvT hZ w2) (mvT hZ w4) hy (backOf (W := W) (hK []) hZ w4 w3 hf hlo) (g := mkF m pc Ls (argsL.reverse ++ .ref a :: rest)) rfl hml.symm (Steps.refl _) (a := a) (argsL := argsL) (rest := rest) (lenOf pd hlen) rfl (by show 2 * 0 + _ ≤ _; omega) hd (fun _ _ => ⟨has.symm, eT, hcc, hss⟩)
  dsimp only [Pt.U, Pt.locs, Pt.cells, Pt.slots] at X' h1 h2 h3 st hQ
  subst h1 h2 h3
  exact ⟨v, T', _, _, X', rfl, N.app hQ.2, hQ.1, fun t k => st.trans k⟩
theorem h_virtual (X : Stand p l e R s m args below meth c T locs cells slots) (hx : p.tables.exec = Jvm.exec) {Ls : Array Slot} {W : Nat} {a : Addr} {cls : String} {argsL rest : List Value} (hZ : Z.Warmed39 s.vm) (eT : T.heap = h) (N : Fr n0 locs) (hml : c.maxLocals = Ls.size) (hown : s.vm.findClass own = some m.cls) (hK : Ctr l Z z bytes maxL ret rm as' h n0 Q) (E : Exa Z h a cls) (w1 : (Jvm.Cond.methodLink own i y).before a0 Z = true) (w2 : (Jvm.Cond.declares y).before a0 Z = true) (nf : NotFace s y) (w5 : (Jvm.Cond.selects cls y z).before a0 Z = true) (w6 : (Jvm.Cond.instanceMethod z).before a0 Z = true) (w3 : (Jvm.Cond.initialized z.cls).before a0 Z = true) (w4 : (Jvm.Cond.code z bytes maxL ret).before a0 Z = true) (hy : y.cls ≠ "java/lang/invoke/MethodHandle" ∧ y.cls ≠ "java/lang/invoke/VarHandle") (pd : parseMethodDescriptor y.desc = some ⟨ps, rt⟩) (hlen : argsL.length = ps.length) (has : as' = (.ref a :: argsL).toArray) (hd : decode c.code pc = .ok (.invokevirtual i, 3)) (hW : (rest.map fun v => v.category).sum = W) (hf : rm.frames + 1 ≤ R.frames) (hlo : W + (maxL + 11) + rm.locals ≤ R.locals) (hcc : cells + rm.cells ≤ R.cells) (hss : slots + rm.slots ≤ R.slots) :
    ∃ v T' h' L, Stand p l e R s m args below meth c T' L (cells + rm.cells) (slots + rm.slots) ∧ T'.heap = h' ∧ Fr n0 L ∧ Q v h' ∧ ∀ target, Steps p.tables e below (T'.setTop (mkF m (pc + 3) Ls (v.toList ++ rest))) target → Steps p.tables e below (T.setTop (mkF m pc Ls (argsL.reverse ++ .ref a :: rest))) target := by
  obtain ⟨cq, kq, qa, qb, qc⟩ := isOf hZ eT E
  obtain ⟨v, _, ⟨T', L', k', n'⟩, -, X', ⟨Lc, hQ, h1, h2, h3⟩, st⟩ := X.virtualBack hx (y := y) (z := z) hown (mvT hZ w1) (mvT hZ w2) nf (mvT hZ w5) (mvT hZ w6) hy (backOf (W := W) (hK []) hZ w4 w3 hf hlo) qa qc (g := mkF m pc Ls (argsL.reverse ++ .ref a :: rest)) rfl hml.symm (Steps.refl _) (argsL := argsL) (rest := rest) (lenOf pd hlen) rfl (by show 2 * 0 + _ ≤ _; omega) hd (fun _ _ => ⟨has.symm, eT, hcc, hss⟩)
  dsimp only [Pt.U, Pt.locs, Pt.cells, Pt.slots] at X' h1 h2 h3 st hQ
  subst h1 h2 h3
  exact ⟨v, T', _, _, X', rfl, N.app hQ.2, hQ.1, fun t k => st.trans k⟩
theorem h_specialN (X : Stand p l e R s m args below meth c T locs cells slots) (hx : p.tables.exec = Jvm.exec) {Ls : Array Slot} {W : Nat} {a : Addr} {host : String} {argsL rest : List Value} (hZ : Z.Warmed39 s.vm) (eT : T.heap = h) (N : Fr n0 locs) (hml : c.maxLocals = Ls.size) (hown : s.vm.findClass own = some m.cls) (hy1 : y.name = "<init>") (hK : Ctr l Z y bytes maxL none rm as' h n0 Q) (w1 : (Jvm.Cond.methodLinkNest own i y host).before a0 Z = true) (w2 : (Jvm.Cond.instanceMethod y).before a0 Z = true) (w3 : (Jvm.Cond.initialized y.cls).before a0 Z = true) (w4 : (Jvm.Cond.code y bytes maxL none).before a0 Z = true) (hy : y.cls ≠ "java/lang/invoke/MethodHandle" ∧ y.cls ≠ "java/lang/invoke/VarHandle") (pd : parseMethodDescriptor y.desc = some ⟨ps, rt⟩) (hlen : argsL.length = ps.length) (has : as' = (.ref a :: argsL).toArray) (hd : decode c.code pc = .ok (.invokespecial i, 3)) (hW : (rest.map fun v => v.category).sum = W) (hf : rm.frames + 1 ≤ R.frames) (hlo : W + (maxL + 11) + rm.locals ≤ R.locals) (hcc : cells + rm.cells ≤ R.cells) (hss : slots + rm.slots ≤ R.slots) :
    ∃ v T' h' L, Stand p l e R s m args below meth c T' L (cells + rm.cells) (slots + rm.slots) ∧ T'.heap = h' ∧ Fr n0 L ∧ Q v h' ∧ ∀ target, Steps p.tables e below (T'.setTop (mkF m (pc + 3) Ls (v.toList ++ rest))) target → Steps p.tables e below (T.setTop (mkF m pc Ls (argsL.reverse ++ .ref a :: rest))) target := by
  obtain ⟨v, _, ⟨T', L', k', n'⟩, -, X', ⟨Lc, hQ, h1, h2, h3⟩, st⟩ := X.specialBackNest hx (y := y) hy1 hown (Jvm.Cond.methodLinkNest_wide hZ w1) (mvT hZ w2) (mvT hZ w4) hy (backOf (W := W) (hK []) hZ w4 w3 hf hlo) (g := mkF m pc Ls (argsL.reverse ++ .ref a :: rest)) rfl hml.symm (Steps.refl _) (a := a) (argsL := argsL) (rest := rest) (lenOf pd hlen) rfl (by show 2 * 0 + _ ≤ _; omega) hd (fun _ _ => ⟨has.symm, eT, hcc, hss⟩)
  dsimp only [Pt.U, Pt.locs, Pt.cells, Pt.slots] at X' h1 h2 h3 st hQ
  subst h1 h2 h3
  exact ⟨v, T', _, _, X', rfl, N.app hQ.2, hQ.1, fun t k => st.trans k⟩
theorem h_private (X : Stand p l e R s m args below meth c T locs cells slots) (hx : p.tables.exec = Jvm.exec) {Ls : Array Slot} {W : Nat} {a : Addr} {cls : String} {kk : Nat} {argsL rest : List Value} (hZ : Z.Warmed39 s.vm) (eT : T.heap = h) (N : Fr n0 locs) (hml : c.maxLocals = Ls.size) (hown : s.vm.findClass own = some m.cls) (hK : Ctr l Z y bytes maxL ret rm as' h n0 Q) (E : Exa Z h a cls) (w1 : (Jvm.Cond.methodLink own i y).before a0 Z = true) (w2 : (Jvm.Cond.instanceMethod y).before a0 Z = true) (wp : (Jvm.Cond.privateMethod y).before a0 Z = true) (wi : (Jvm.Cond.instantiable y.cls kk).before a0 Z = true) (w3 : (Jvm.Cond.initialized y.cls).before a0 Z = true) (w4 : (Jvm.Cond.code y bytes maxL ret).before a0 Z = true) (hy : y.cls ≠ "java/lang/invoke/MethodHandle" ∧ y.cls ≠ "java/lang/invoke/VarHandle") (pd : parseMethodDescriptor y.desc = some ⟨ps, rt⟩) (hlen : argsL.length = ps.length) (has : as' = (.ref a :: argsL).toArray) (hd : decode c.code pc = .ok (.invokevirtual i, 3)) (hW : (rest.map fun v => v.category).sum = W) (hf : rm.frames + 1 ≤ R.frames) (hlo : W + (maxL + 11) + rm.locals ≤ R.locals) (hcc : cells + rm.cells ≤ R.cells) (hss : slots + rm.slots ≤ R.slots) :
    ∃ v T' h' L, Stand p l e R s m args below meth c T' L (cells + rm.cells) (slots + rm.slots) ∧ T'.heap = h' ∧ Fr n0 L ∧ Q v h' ∧ ∀ target, Steps p.tables e below (T'.setTop (mkF m (pc + 3) Ls (v.toList ++ rest))) target → Steps p.tables e below (T.setTop (mkF m pc Ls (argsL.reverse ++ .ref a :: rest))) target := by
  obtain ⟨cq, q1, q2⟩ := E.cell
  obtain ⟨c2, k2, i1, i2, i3, i4, -⟩ := Jvm.Cond.instantiable_spec (mvT (args := args) (d := .instantiable y.cls kk) hZ wi)
  have hpv := Jvm.Cond.privateMethod_at (mvP hZ wp (args := args))
  have hsel := selects_self_of_private (args := args) i1 i2 (by revert i4; cases k2.isInterface <;> simp) hpv (mvT hZ w2) hy
  obtain ⟨v, _, ⟨T', L', k', n'⟩, -, X', ⟨Lc, hQ, h1, h2, h3⟩, st⟩ := X.privateBack hx (y := y) hown (mvT hZ w1) (mvT hZ w2) hsel hpv (mvT hZ w4) hy (backOf (W := W) (hK []) hZ w4 w3 hf hlo) (g := mkF m pc Ls (argsL.reverse ++ .ref a :: rest)) rfl hml.symm (Steps.refl _) (a := a) (by rw [eT]; exact q1) q2 (argsL := argsL) (rest := rest) (lenOf pd hlen) rfl (by show 2 * 0 + _ ≤ _; omega) hd (fun _ _ => ⟨has.symm, eT, hcc, hss⟩)
  dsimp only [Pt.U, Pt.locs, Pt.cells, Pt.slots] at X' h1 h2 h3 st hQ
  subst h1 h2 h3
  exact ⟨v, T', _, _, X', rfl, N.app hQ.2, hQ.1, fun t k => st.trans k⟩
end Calls
/-! an enum's constant, where the law begins -/
theorem enum_at {C f d : String} {a0 : Array Value} {k : Int32} {s : State} (h1 : (Jvm.Cond.exactly (.static C f d) C).value a0 s none s [] = some true) (h2 : (Jvm.Cond.eq (.field (.static C f d) "java/lang/Enum" "ordinal" "I") (.int k)).value a0 s none s [] = some true)
    (wi : (Jvm.Cond.initialized C).before a0 s = true) (wl : (Jvm.Cond.laysStatic C f d).before a0 s = true) : ∃ a, Sta s s.heap C f d (.ref a) ∧ Exa s s.heap a C ∧ s.fieldOf? a "java/lang/Enum" "ordinal" "I" = some (.int k) := by
  obtain ⟨a, ev⟩ := exa_v h1
  refine ⟨a, Sta.start ev (Or.inr ⟨wi, wl⟩), Exa.start ev h1, ?_⟩
  obtain ⟨x, y, e1, e2, k1, k2⟩ := cmp_v (Or.inl h2)
  have ey : y = .int k := (Option.some.inj ((Term.int_eval k).symm.trans e2)).symm
  subst ey
  obtain ⟨z, rfl⟩ := k2
  have q : (Jvm.Cond.eq (.field (.static C f d) "java/lang/Enum" "ordinal" "I") (.int k)).value a0 s none s [] = some (decide (z = k)) := by simp [Jvm.Cond.value, e1, e2]
  have r := gotT q h2
  subst r
  rw [← fld_at (C := "java/lang/Enum") (n := "ordinal") (dd := "I") ev]
  exact e1
theorem enum_ne {s : State} {a b : Addr} {k k' : Int32} (h1 : s.fieldOf? a "java/lang/Enum" "ordinal" "I" = some (.int k)) (h2 : s.fieldOf? b "java/lang/Enum" "ordinal" "I" = some (.int k')) (q : k ≠ k') : a ≠ b := fun e => by
  subst e
  rw [h1] at h2
  exact q (Value.int.inj (Option.some.inj h2))
end Jvm.OwnKit
namespace Jvm.Pilot.@@N@@
open Jvm Jvm.ClassFile Sem Op Lib Jvm.Free Jvm.Stand Jvm.LawKit Jvm.RoadKit Jvm.OwnKit Bundle Jvm.Pilot.@@N@@.Jvm.D
def maxI (x y : Int32) : Int32 := if x < y then y else x
def nzA (k t sh : Int32) (p : Int32 × Int32) : Int32 × Int32 := if p.2 < t then p else (p.1 + k, ushr p.2 sh)
def nlzI (x : Int32) : Int32 := if 0 < x then (nzA (-2) 4 2 (nzA (-4) 16 4 (nzA (-8) 256 8 (nzA (-16) 65536 16 (31, x))))).1 - ushr (nzA (-2) 4 2 (nzA (-4) 16 4 (nzA (-8) 256 8 (nzA (-16) 65536 16 (31, x))))).2 1 else if x = 0 then 32 else 0
def nlzJ (x : Int64) : Int32 := if (lushr x 32).toInt32 = 0 then 32 + nlzI x.toInt32 else nlzI (lushr x 32).toInt32
def meanV (c s : Int64) : Int64 := if c = 0 then 0 else s / c
def lowV (c s : Int64) : Int32 := maxI 0 (62 - nlzJ (meanV c s))
def bestV (c q0 q1 q2 : Int64) : Int32 := if c * (1 : Int32).toInt64 + q1 < c * (0 : Int32).toInt64 + q0 then (if c * (2 : Int32).toInt64 + q2 < c * (1 : Int32).toInt64 + q1 then 2 else 1) else (if c * (2 : Int32).toInt64 + q2 < c * (0 : Int32).toInt64 + q0 then 2 else 0)
def bitsV (c : Int64) (lo : Int32) (q0 q1 q2 : Int64) : Int64 := c * ((lo + bestV c q0 q1 q2) + 1).toInt64 + (if bestV c q0 q1 q2 = 0 then q0 else if bestV c q0 q1 q2 = 1 then q1 else q2)
theorem own_best (c q0 q1 q2 : Int64) : bestV c q0 q1 q2 = 0 ∨ bestV c q0 q1 q2 = 1 ∨ bestV c q0 q1 q2 = 2 := by
  unfold bestV; split <;> split <;> simp
theorem own_bits {c : Int64} {lo : Int32} {a1 a2 a3 b1 b2 b3 : Int64} (h1 : a1 = b1) (h2 : a2 = b2) (h3 : a3 = b3) : bitsV c lo a1 a2 a3 = bitsV c lo b1 b2 b3 := by rw [h1, h2, h3]
theorem own_par {c : Int64} {lo : Int32} {a1 a2 a3 b1 b2 b3 : Int64} (h1 : a1 = b1) (h2 : a2 = b2) (h3 : a3 = b3) : lo + bestV c a1 a2 a3 = lo + bestV c b1 b2 b3 := by rw [h1, h2, h3]
theorem d4_0 : decode jdk_33_method_47_code 0 = .ok (.iload_n 0, 1) := by decide +kernel
theorem d4_1 : decode jdk_33_method_47_code 1 = .ok (.ifCond .gt 14, 3) := by decide +kernel
theorem d4_4 : decode jdk_33_method_47_code 4 = .ok (.iload_n 0, 1) := by decide +kernel
theorem d4_5 : decode jdk_33_method_47_code 5 = .ok (.ifCond .ne 8, 3) := by decide +kernel
theorem d4_8 : decode jdk_33_method_47_code 8 = .ok (.bipush 32, 2) := by decide +kernel
theorem d4_10 : decode jdk_33_method_47_code 10 = .ok (.goto 4, 3) := by decide +kernel
theorem d4_13 : decode jdk_33_method_47_code 13 = .ok (.iconst 0, 1) := by decide +kernel
theorem d4_14 : decode jdk_33_method_47_code 14 = .ok (.ireturn, 1) := by decide +kernel
theorem d4_15 : decode jdk_33_method_47_code 15 = .ok (.bipush 31, 2) := by decide +kernel
theorem d4_17 : decode jdk_33_method_47_code 17 = .ok (.istore_n 1, 1) := by decide +kernel
theorem d4_18 : decode jdk_33_method_47_code 18 = .ok (.iload_n 0, 1) := by decide +kernel
theorem d4_19 : decode jdk_33_method_47_code 19 = .ok (.ldc_w 264, 3) := by decide +kernel
theorem d4_22 : decode jdk_33_method_47_code 22 = .ok (.if_icmp .lt 11, 3) := by decide +kernel
theorem d4_25 : decode jdk_33_method_47_code 25 = .ok (.iinc 1 (-16), 3) := by decide +kernel
theorem d4_28 : decode jdk_33_method_47_code 28 = .ok (.iload_n 0, 1) := by decide +kernel
theorem d4_29 : decode jdk_33_method_47_code 29 = .ok (.bipush 16, 2) := by decide +kernel
theorem d4_31 : decode jdk_33_method_47_code 31 = .ok (.iushr, 1) := by decide +kernel
theorem d4_32 : decode jdk_33_method_47_code 32 = .ok (.istore_n 0, 1) := by decide +kernel
theorem d4_33 : decode jdk_33_method_47_code 33 = .ok (.iload_n 0, 1) := by decide +kernel
theorem d4_34 : decode jdk_33_method_47_code 34 = .ok (.sipush 256, 3) := by decide +kernel
theorem d4_37 : decode jdk_33_method_47_code 37 = .ok (.if_icmp .lt 11, 3) := by decide +kernel
theorem d4_40 : decode jdk_33_method_47_code 40 = .ok (.iinc 1 (-8), 3) := by decide +kernel
theorem d4_43 : decode jdk_33_method_47_code 43 = .ok (.iload_n 0, 1) := by decide +kernel
theorem d4_44 : decode jdk_33_method_47_code 44 = .ok (.bipush 8, 2) := by decide +kernel
theorem d4_46 : decode jdk_33_method_47_code 46 = .ok (.iushr, 1) := by decide +kernel
theorem d4_47 : decode jdk_33_method_47_code 47 = .ok (.istore_n 0, 1) := by decide +kernel
theorem d4_48 : decode jdk_33_method_47_code 48 = .ok (.iload_n 0, 1) := by decide +kernel
theorem d4_49 : decode jdk_33_method_47_code 49 = .ok (.bipush 16, 2) := by decide +kernel
theorem d4_51 : decode jdk_33_method_47_code 51 = .ok (.if_icmp .lt 10, 3) := by decide +kernel
theorem d4_54 : decode jdk_33_method_47_code 54 = .ok (.iinc 1 (-4), 3) := by decide +kernel
theorem d4_57 : decode jdk_33_method_47_code 57 = .ok (.iload_n 0, 1) := by decide +kernel
theorem d4_58 : decode jdk_33_method_47_code 58 = .ok (.iconst 4, 1) := by decide +kernel
theorem d4_59 : decode jdk_33_method_47_code 59 = .ok (.iushr, 1) := by decide +kernel
theorem d4_60 : decode jdk_33_method_47_code 60 = .ok (.istore_n 0, 1) := by decide +kernel
theorem d4_61 : decode jdk_33_method_47_code 61 = .ok (.iload_n 0, 1) := by decide +kernel
theorem d4_62 : decode jdk_33_method_47_code 62 = .ok (.iconst 4, 1) := by decide +kernel
theorem d4_63 : decode jdk_33_method_47_code 63 = .ok (.if_icmp .lt 10, 3) := by decide +kernel
theorem d4_66 : decode jdk_33_method_47_code 66 = .ok (.iinc 1 (-2), 3) := by decide +kernel
theorem d4_69 : decode jdk_33_method_47_code 69 = .ok (.iload_n 0, 1) := by decide +kernel
theorem d4_70 : decode jdk_33_method_47_code 70 = .ok (.iconst 2, 1) := by decide +kernel
theorem d4_71 : decode jdk_33_method_47_code 71 = .ok (.iushr, 1) := by decide +kernel
theorem d4_72 : decode jdk_33_method_47_code 72 = .ok (.istore_n 0, 1) := by decide +kernel
theorem d4_73 : decode jdk_33_method_47_code 73 = .ok (.iload_n 1, 1) := by decide +kernel
theorem d4_74 : decode jdk_33_method_47_code 74 = .ok (.iload_n 0, 1) := by decide +kernel
theorem d4_75 : decode jdk_33_method_47_code 75 = .ok (.iconst 1, 1) := by decide +kernel
theorem d4_76 : decode jdk_33_method_47_code 76 = .ok (.iushr, 1) := by decide +kernel
theorem d4_77 : decode jdk_33_method_47_code 77 = .ok (.isub, 1) := by decide +kernel
theorem d4_78 : decode jdk_33_method_47_code 78 = .ok (.ireturn, 1) := by decide +kernel
theorem pn_4 : plainName "java/lang/Integer" = true := by first | (simp [plainName, overriddenIn]; done) | decide +kernel
theorem ef_4 (x0 : Int32) (m : MethodId) : entryFrame m #[(.int x0)] 2 = mkF m 0 #[.val (.int x0), .unset] [] := by first | (simp [entryFrame, mkF, argsToLocals, Value.category]; done) | rfl
def Q4 (Z : State) (p1 : Int32) (h0 : Heap) (n0 : Nat) : Option Value → Heap → Prop := fun v h => v = some (.int (nlzI p1)) ∧ h0 = h
set_option maxRecDepth 65536 in
set_option maxHeartbeats 40000000 in
theorem rm4 (l : Launch) (Z : State) (a0 : Array Value) (hw : ∀ d ∈ tables_1, d.before a0 Z = true) (p1 : Int32) (h0 : Heap) (n0 : Nat) (Z0 : n0 ≤ h0.size) : Ctr l Z (⟨"java/lang/Integer", "numberOfLeadingZeros", "(I)I"⟩ : MethodName) jdk_33_method_47_code 2 (some .int) ({ frames := 0, cells := 0, slots := 0, locals := 0 } : Room) #[(.int p1)] h0 n0 (Q4 Z p1 h0 n0) := by
  refine Ctr.of (plainFor_of_name pn_4) (ef_4 p1) ?_
  intro p e s m below meth c T0 hx hby hml hown hnm hret hlk hZ X0 e0
  have N0 := Fr.nil n0
  refine g_iloadN X0 hx (hb hby d4_0) (pc' := 1) rfl rfl ?_
  refine g_if_gt X0 hx (hb hby d4_1) (pc1 := 4) rfl (by decide) (pc2 := 15) (by decide) (fun hc1 => ?_) (fun hc1 => ?_)
  · skip
    refine g_bipush X0 hx (hb hby d4_15) (pc' := 17) rfl (z := (31 : Int32)) rfl ?_
    refine g_istoreN X0 hx (hb hby d4_17) (pc' := 18) rfl (Ls' := #[.val (.int p1), .val (.int (31 : Int32))]) rfl ?_
    refine g_iloadN X0 hx (hb hby d4_18) (pc' := 19) rfl rfl ?_
    refine g_ldc_w X0 hx hZ hown (hw _ (List.mem_of_getElem? (i := 63) rfl)) (hb hby d4_19) (pc' := 22) rfl ?_
    refine g_icmp_lt X0 hx (hb hby d4_22) (pc1 := 25) rfl (by decide) (pc2 := 33) (by decide) (fun hc22 => ?_) (fun hc22 => ?_)
    · skip
      refine g_iloadN X0 hx (hb hby d4_33) (pc' := 34) rfl rfl ?_
      refine g_sipush X0 hx (hb hby d4_34) (pc' := 37) rfl (z := (256 : Int32)) rfl ?_
      refine g_icmp_lt X0 hx (hb hby d4_37) (pc1 := 40) rfl (by decide) (pc2 := 48) (by decide) (fun hc37 => ?_) (fun hc37 => ?_)
      · skip
        refine g_iloadN X0 hx (hb hby d4_48) (pc' := 49) rfl rfl ?_
        refine g_bipush X0 hx (hb hby d4_49) (pc' := 51) rfl (z := (16 : Int32)) rfl ?_
        refine g_icmp_lt X0 hx (hb hby d4_51) (pc1 := 54) rfl (by decide) (pc2 := 61) (by decide) (fun hc51 => ?_) (fun hc51 => ?_)
        · skip
          refine g_iloadN X0 hx (hb hby d4_61) (pc' := 62) rfl rfl ?_
          refine g_iconst X0 hx (hb hby d4_62) (pc' := 63) rfl (z := (4 : Int32)) rfl ?_
          refine g_icmp_lt X0 hx (hb hby d4_63) (pc1 := 66) rfl (by decide) (pc2 := 73) (by decide) (fun hc63 => ?_) (fun hc63 => ?_)
          · skip
            refine g_iloadN X0 hx (hb hby d4_73) (pc' := 74) rfl rfl ?_
            refine g_iloadN X0 hx (hb hby d4_74) (pc' := 75) rfl rfl ?_
            refine g_iconst X0 hx (hb hby d4_75) (pc' := 76) rfl (z := (1 : Int32)) rfl ?_
            refine g_iushr X0 hx (hb hby d4_76) (pc' := 77) rfl ?_
            refine g_isub X0 hx (hb hby d4_77) (pc' := 78) rfl ?_
            exact g_ireturn X0 hx hret (hb hby d4_78) N0 hlk (fun v t => endF (by decide) (by decide) v) (by rw [e0]; refine ⟨?_, rfl⟩; simp [nlzI, nzA, hc1, hc22, hc37, hc51, hc63])
          · skip
            refine g_iinc X0 hx (hb hby d4_66) (pc' := 69) rfl rfl (z := (-2 : Int32)) rfl (Ls' := #[.val (.int p1), .val (.int (29 : Int32))]) rfl ?_
            refine g_iloadN X0 hx (hb hby d4_69) (pc' := 70) rfl rfl ?_
            refine g_iconst X0 hx (hb hby d4_70) (pc' := 71) rfl (z := (2 : Int32)) rfl ?_
            refine g_iushr X0 hx (hb hby d4_71) (pc' := 72) rfl ?_
            refine g_istoreN X0 hx (hb hby d4_72) (pc' := 73) rfl (Ls' := #[.val (.int (ushr p1 (2 : Int32))), .val (.int (29 : Int32))]) rfl ?_
            refine g_iloadN X0 hx (hb hby d4_73) (pc' := 74) rfl rfl ?_
            refine g_iloadN X0 hx (hb hby d4_74) (pc' := 75) rfl rfl ?_
            refine g_iconst X0 hx (hb hby d4_75) (pc' := 76) rfl (z := (1 : Int32)) rfl ?_
            refine g_iushr X0 hx (hb hby d4_76) (pc' := 77) rfl ?_
            refine g_isub X0 hx (hb hby d4_77) (pc' := 78) rfl ?_
            exact g_ireturn X0 hx hret (hb hby d4_78) N0 hlk (fun v t => endF (by decide) (by decide) v) (by rw [e0]; refine ⟨?_, rfl⟩; simp [nlzI, nzA, hc1, hc22, hc37, hc51, hc63])
        · skip
          refine g_iinc X0 hx (hb hby d4_54) (pc' := 57) rfl rfl (z := (-4 : Int32)) rfl (Ls' := #[.val (.int p1), .val (.int (27 : Int32))]) rfl ?_
          refine g_iloadN X0 hx (hb hby d4_57) (pc' := 58) rfl rfl ?_
          refine g_iconst X0 hx (hb hby d4_58) (pc' := 59) rfl (z := (4 : Int32)) rfl ?_
          refine g_iushr X0 hx (hb hby d4_59) (pc' := 60) rfl ?_
          refine g_istoreN X0 hx (hb hby d4_60) (pc' := 61) rfl (Ls' := #[.val (.int (ushr p1 (4 : Int32))), .val (.int (27 : Int32))]) rfl ?_
          refine g_iloadN X0 hx (hb hby d4_61) (pc' := 62) rfl rfl ?_
          refine g_iconst X0 hx (hb hby d4_62) (pc' := 63) rfl (z := (4 : Int32)) rfl ?_
          refine g_icmp_lt X0 hx (hb hby d4_63) (pc1 := 66) rfl (by decide) (pc2 := 73) (by decide) (fun hc63 => ?_) (fun hc63 => ?_)
          · skip
            refine g_iloadN X0 hx (hb hby d4_73) (pc' := 74) rfl rfl ?_
            refine g_iloadN X0 hx (hb hby d4_74) (pc' := 75) rfl rfl ?_
            refine g_iconst X0 hx (hb hby d4_75) (pc' := 76) rfl (z := (1 : Int32)) rfl ?_
            refine g_iushr X0 hx (hb hby d4_76) (pc' := 77) rfl ?_
            refine g_isub X0 hx (hb hby d4_77) (pc' := 78) rfl ?_
            exact g_ireturn X0 hx hret (hb hby d4_78) N0 hlk (fun v t => endF (by decide) (by decide) v) (by rw [e0]; refine ⟨?_, rfl⟩; simp [nlzI, nzA, hc1, hc22, hc37, hc51, hc63])
          · skip
            refine g_iinc X0 hx (hb hby d4_66) (pc' := 69) rfl rfl (z := (-2 : Int32)) rfl (Ls' := #[.val (.int (ushr p1 (4 : Int32))), .val (.int (25 : Int32))]) rfl ?_
            refine g_iloadN X0 hx (hb hby d4_69) (pc' := 70) rfl rfl ?_
            refine g_iconst X0 hx (hb hby d4_70) (pc' := 71) rfl (z := (2 : Int32)) rfl ?_
            refine g_iushr X0 hx (hb hby d4_71) (pc' := 72) rfl ?_
            refine g_istoreN X0 hx (hb hby d4_72) (pc' := 73) rfl (Ls' := #[.val (.int (ushr (ushr p1 (4 : Int32)) (2 : Int32))), .val (.int (25 : Int32))]) rfl ?_
            refine g_iloadN X0 hx (hb hby d4_73) (pc' := 74) rfl rfl ?_
            refine g_iloadN X0 hx (hb hby d4_74) (pc' := 75) rfl rfl ?_
            refine g_iconst X0 hx (hb hby d4_75) (pc' := 76) rfl (z := (1 : Int32)) rfl ?_
            refine g_iushr X0 hx (hb hby d4_76) (pc' := 77) rfl ?_
            refine g_isub X0 hx (hb hby d4_77) (pc' := 78) rfl ?_
            exact g_ireturn X0 hx hret (hb hby d4_78) N0 hlk (fun v t => endF (by decide) (by decide) v) (by rw [e0]; refine ⟨?_, rfl⟩; simp [nlzI, nzA, hc1, hc22, hc37, hc51, hc63])
      · skip
        refine g_iinc X0 hx (hb hby d4_40) (pc' := 43) rfl rfl (z := (-8 : Int32)) rfl (Ls' := #[.val (.int p1), .val (.int (23 : Int32))]) rfl ?_
        refine g_iloadN X0 hx (hb hby d4_43) (pc' := 44) rfl rfl ?_
        refine g_bipush X0 hx (hb hby d4_44) (pc' := 46) rfl (z := (8 : Int32)) rfl ?_
        refine g_iushr X0 hx (hb hby d4_46) (pc' := 47) rfl ?_
        refine g_istoreN X0 hx (hb hby d4_47) (pc' := 48) rfl (Ls' := #[.val (.int (ushr p1 (8 : Int32))), .val (.int (23 : Int32))]) rfl ?_
        refine g_iloadN X0 hx (hb hby d4_48) (pc' := 49) rfl rfl ?_
        refine g_bipush X0 hx (hb hby d4_49) (pc' := 51) rfl (z := (16 : Int32)) rfl ?_
        refine g_icmp_lt X0 hx (hb hby d4_51) (pc1 := 54) rfl (by decide) (pc2 := 61) (by decide) (fun hc51 => ?_) (fun hc51 => ?_)
        · skip
          refine g_iloadN X0 hx (hb hby d4_61) (pc' := 62) rfl rfl ?_
          refine g_iconst X0 hx (hb hby d4_62) (pc' := 63) rfl (z := (4 : Int32)) rfl ?_
          refine g_icmp_lt X0 hx (hb hby d4_63) (pc1 := 66) rfl (by decide) (pc2 := 73) (by decide) (fun hc63 => ?_) (fun hc63 => ?_)
          · skip
            refine g_iloadN X0 hx (hb hby d4_73) (pc' := 74) rfl rfl ?_
            refine g_iloadN X0 hx (hb hby d4_74) (pc' := 75) rfl rfl ?_
            refine g_iconst X0 hx (hb hby d4_75) (pc' := 76) rfl (z := (1 : Int32)) rfl ?_
            refine g_iushr X0 hx (hb hby d4_76) (pc' := 77) rfl ?_
            refine g_isub X0 hx (hb hby d4_77) (pc' := 78) rfl ?_
            exact g_ireturn X0 hx hret (hb hby d4_78) N0 hlk (fun v t => endF (by decide) (by decide) v) (by rw [e0]; refine ⟨?_, rfl⟩; simp [nlzI, nzA, hc1, hc22, hc37, hc51, hc63])
          · skip
            refine g_iinc X0 hx (hb hby d4_66) (pc' := 69) rfl rfl (z := (-2 : Int32)) rfl (Ls' := #[.val (.int (ushr p1 (8 : Int32))), .val (.int (21 : Int32))]) rfl ?_
            refine g_iloadN X0 hx (hb hby d4_69) (pc' := 70) rfl rfl ?_
            refine g_iconst X0 hx (hb hby d4_70) (pc' := 71) rfl (z := (2 : Int32)) rfl ?_
            refine g_iushr X0 hx (hb hby d4_71) (pc' := 72) rfl ?_
            refine g_istoreN X0 hx (hb hby d4_72) (pc' := 73) rfl (Ls' := #[.val (.int (ushr (ushr p1 (8 : Int32)) (2 : Int32))), .val (.int (21 : Int32))]) rfl ?_
            refine g_iloadN X0 hx (hb hby d4_73) (pc' := 74) rfl rfl ?_
            refine g_iloadN X0 hx (hb hby d4_74) (pc' := 75) rfl rfl ?_
            refine g_iconst X0 hx (hb hby d4_75) (pc' := 76) rfl (z := (1 : Int32)) rfl ?_
            refine g_iushr X0 hx (hb hby d4_76) (pc' := 77) rfl ?_
            refine g_isub X0 hx (hb hby d4_77) (pc' := 78) rfl ?_
            exact g_ireturn X0 hx hret (hb hby d4_78) N0 hlk (fun v t => endF (by decide) (by decide) v) (by rw [e0]; refine ⟨?_, rfl⟩; simp [nlzI, nzA, hc1, hc22, hc37, hc51, hc63])
        · skip
          refine g_iinc X0 hx (hb hby d4_54) (pc' := 57) rfl rfl (z := (-4 : Int32)) rfl (Ls' := #[.val (.int (ushr p1 (8 : Int32))), .val (.int (19 : Int32))]) rfl ?_
          refine g_iloadN X0 hx (hb hby d4_57) (pc' := 58) rfl rfl ?_
          refine g_iconst X0 hx (hb hby d4_58) (pc' := 59) rfl (z := (4 : Int32)) rfl ?_
          refine g_iushr X0 hx (hb hby d4_59) (pc' := 60) rfl ?_
          refine g_istoreN X0 hx (hb hby d4_60) (pc' := 61) rfl (Ls' := #[.val (.int (ushr (ushr p1 (8 : Int32)) (4 : Int32))), .val (.int (19 : Int32))]) rfl ?_
          refine g_iloadN X0 hx (hb hby d4_61) (pc' := 62) rfl rfl ?_
          refine g_iconst X0 hx (hb hby d4_62) (pc' := 63) rfl (z := (4 : Int32)) rfl ?_
          refine g_icmp_lt X0 hx (hb hby d4_63) (pc1 := 66) rfl (by decide) (pc2 := 73) (by decide) (fun hc63 => ?_) (fun hc63 => ?_)
          · skip
            refine g_iloadN X0 hx (hb hby d4_73) (pc' := 74) rfl rfl ?_
            refine g_iloadN X0 hx (hb hby d4_74) (pc' := 75) rfl rfl ?_
            refine g_iconst X0 hx (hb hby d4_75) (pc' := 76) rfl (z := (1 : Int32)) rfl ?_
            refine g_iushr X0 hx (hb hby d4_76) (pc' := 77) rfl ?_
            refine g_isub X0 hx (hb hby d4_77) (pc' := 78) rfl ?_
            exact g_ireturn X0 hx hret (hb hby d4_78) N0 hlk (fun v t => endF (by decide) (by decide) v) (by rw [e0]; refine ⟨?_, rfl⟩; simp [nlzI, nzA, hc1, hc22, hc37, hc51, hc63])
          · skip
            refine g_iinc X0 hx (hb hby d4_66) (pc' := 69) rfl rfl (z := (-2 : Int32)) rfl (Ls' := #[.val (.int (ushr (ushr p1 (8 : Int32)) (4 : Int32))), .val (.int (17 : Int32))]) rfl ?_
            refine g_iloadN X0 hx (hb hby d4_69) (pc' := 70) rfl rfl ?_
            refine g_iconst X0 hx (hb hby d4_70) (pc' := 71) rfl (z := (2 : Int32)) rfl ?_
            refine g_iushr X0 hx (hb hby d4_71) (pc' := 72) rfl ?_
            refine g_istoreN X0 hx (hb hby d4_72) (pc' := 73) rfl (Ls' := #[.val (.int (ushr (ushr (ushr p1 (8 : Int32)) (4 : Int32)) (2 : Int32))), .val (.int (17 : Int32))]) rfl ?_
            refine g_iloadN X0 hx (hb hby d4_73) (pc' := 74) rfl rfl ?_
            refine g_iloadN X0 hx (hb hby d4_74) (pc' := 75) rfl rfl ?_
            refine g_iconst X0 hx (hb hby d4_75) (pc' := 76) rfl (z := (1 : Int32)) rfl ?_
            refine g_iushr X0 hx (hb hby d4_76) (pc' := 77) rfl ?_
            refine g_isub X0 hx (hb hby d4_77) (pc' := 78) rfl ?_
            exact g_ireturn X0 hx hret (hb hby d4_78) N0 hlk (fun v t => endF (by decide) (by decide) v) (by rw [e0]; refine ⟨?_, rfl⟩; simp [nlzI, nzA, hc1, hc22, hc37, hc51, hc63])
    · skip
      refine g_iinc X0 hx (hb hby d4_25) (pc' := 28) rfl rfl (z := (-16 : Int32)) rfl (Ls' := #[.val (.int p1), .val (.int (15 : Int32))]) rfl ?_
      refine g_iloadN X0 hx (hb hby d4_28) (pc' := 29) rfl rfl ?_
      refine g_bipush X0 hx (hb hby d4_29) (pc' := 31) rfl (z := (16 : Int32)) rfl ?_
      refine g_iushr X0 hx (hb hby d4_31) (pc' := 32) rfl ?_
      refine g_istoreN X0 hx (hb hby d4_32) (pc' := 33) rfl (Ls' := #[.val (.int (ushr p1 (16 : Int32))), .val (.int (15 : Int32))]) rfl ?_
      refine g_iloadN X0 hx (hb hby d4_33) (pc' := 34) rfl rfl ?_
      refine g_sipush X0 hx (hb hby d4_34) (pc' := 37) rfl (z := (256 : Int32)) rfl ?_
      refine g_icmp_lt X0 hx (hb hby d4_37) (pc1 := 40) rfl (by decide) (pc2 := 48) (by decide) (fun hc37 => ?_) (fun hc37 => ?_)
      · skip
        refine g_iloadN X0 hx (hb hby d4_48) (pc' := 49) rfl rfl ?_
        refine g_bipush X0 hx (hb hby d4_49) (pc' := 51) rfl (z := (16 : Int32)) rfl ?_
        refine g_icmp_lt X0 hx (hb hby d4_51) (pc1 := 54) rfl (by decide) (pc2 := 61) (by decide) (fun hc51 => ?_) (fun hc51 => ?_)
        · skip
          refine g_iloadN X0 hx (hb hby d4_61) (pc' := 62) rfl rfl ?_
          refine g_iconst X0 hx (hb hby d4_62) (pc' := 63) rfl (z := (4 : Int32)) rfl ?_
          refine g_icmp_lt X0 hx (hb hby d4_63) (pc1 := 66) rfl (by decide) (pc2 := 73) (by decide) (fun hc63 => ?_) (fun hc63 => ?_)
          · skip
            refine g_iloadN X0 hx (hb hby d4_73) (pc' := 74) rfl rfl ?_
            refine g_iloadN X0 hx (hb hby d4_74) (pc' := 75) rfl rfl ?_
            refine g_iconst X0 hx (hb hby d4_75) (pc' := 76) rfl (z := (1 : Int32)) rfl ?_
            refine g_iushr X0 hx (hb hby d4_76) (pc' := 77) rfl ?_
            refine g_isub X0 hx (hb hby d4_77) (pc' := 78) rfl ?_
            exact g_ireturn X0 hx hret (hb hby d4_78) N0 hlk (fun v t => endF (by decide) (by decide) v) (by rw [e0]; refine ⟨?_, rfl⟩; simp [nlzI, nzA, hc1, hc22, hc37, hc51, hc63])
          · skip
            refine g_iinc X0 hx (hb hby d4_66) (pc' := 69) rfl rfl (z := (-2 : Int32)) rfl (Ls' := #[.val (.int (ushr p1 (16 : Int32))), .val (.int (13 : Int32))]) rfl ?_
            refine g_iloadN X0 hx (hb hby d4_69) (pc' := 70) rfl rfl ?_
            refine g_iconst X0 hx (hb hby d4_70) (pc' := 71) rfl (z := (2 : Int32)) rfl ?_
            refine g_iushr X0 hx (hb hby d4_71) (pc' := 72) rfl ?_
            refine g_istoreN X0 hx (hb hby d4_72) (pc' := 73) rfl (Ls' := #[.val (.int (ushr (ushr p1 (16 : Int32)) (2 : Int32))), .val (.int (13 : Int32))]) rfl ?_
            refine g_iloadN X0 hx (hb hby d4_73) (pc' := 74) rfl rfl ?_
            refine g_iloadN X0 hx (hb hby d4_74) (pc' := 75) rfl rfl ?_
            refine g_iconst X0 hx (hb hby d4_75) (pc' := 76) rfl (z := (1 : Int32)) rfl ?_
            refine g_iushr X0 hx (hb hby d4_76) (pc' := 77) rfl ?_
            refine g_isub X0 hx (hb hby d4_77) (pc' := 78) rfl ?_
            exact g_ireturn X0 hx hret (hb hby d4_78) N0 hlk (fun v t => endF (by decide) (by decide) v) (by rw [e0]; refine ⟨?_, rfl⟩; simp [nlzI, nzA, hc1, hc22, hc37, hc51, hc63])
        · skip
          refine g_iinc X0 hx (hb hby d4_54) (pc' := 57) rfl rfl (z := (-4 : Int32)) rfl (Ls' := #[.val (.int (ushr p1 (16 : Int32))), .val (.int (11 : Int32))]) rfl ?_
          refine g_iloadN X0 hx (hb hby d4_57) (pc' := 58) rfl rfl ?_
          refine g_iconst X0 hx (hb hby d4_58) (pc' := 59) rfl (z := (4 : Int32)) rfl ?_
          refine g_iushr X0 hx (hb hby d4_59) (pc' := 60) rfl ?_
          refine g_istoreN X0 hx (hb hby d4_60) (pc' := 61) rfl (Ls' := #[.val (.int (ushr (ushr p1 (16 : Int32)) (4 : Int32))), .val (.int (11 : Int32))]) rfl ?_
          refine g_iloadN X0 hx (hb hby d4_61) (pc' := 62) rfl rfl ?_
          refine g_iconst X0 hx (hb hby d4_62) (pc' := 63) rfl (z := (4 : Int32)) rfl ?_
          refine g_icmp_lt X0 hx (hb hby d4_63) (pc1 := 66) rfl (by decide) (pc2 := 73) (by decide) (fun hc63 => ?_) (fun hc63 => ?_)
          · skip
            refine g_iloadN X0 hx (hb hby d4_73) (pc' := 74) rfl rfl ?_
            refine g_iloadN X0 hx (hb hby d4_74) (pc' := 75) rfl rfl ?_
            refine g_iconst X0 hx (hb hby d4_75) (pc' := 76) rfl (z := (1 : Int32)) rfl ?_
            refine g_iushr X0 hx (hb hby d4_76) (pc' := 77) rfl ?_
            refine g_isub X0 hx (hb hby d4_77) (pc' := 78) rfl ?_
            exact g_ireturn X0 hx hret (hb hby d4_78) N0 hlk (fun v t => endF (by decide) (by decide) v) (by rw [e0]; refine ⟨?_, rfl⟩; simp [nlzI, nzA, hc1, hc22, hc37, hc51, hc63])
          · skip
            refine g_iinc X0 hx (hb hby d4_66) (pc' := 69) rfl rfl (z := (-2 : Int32)) rfl (Ls' := #[.val (.int (ushr (ushr p1 (16 : Int32)) (4 : Int32))), .val (.int (9 : Int32))]) rfl ?_
            refine g_iloadN X0 hx (hb hby d4_69) (pc' := 70) rfl rfl ?_
            refine g_iconst X0 hx (hb hby d4_70) (pc' := 71) rfl (z := (2 : Int32)) rfl ?_
            refine g_iushr X0 hx (hb hby d4_71) (pc' := 72) rfl ?_
            refine g_istoreN X0 hx (hb hby d4_72) (pc' := 73) rfl (Ls' := #[.val (.int (ushr (ushr (ushr p1 (16 : Int32)) (4 : Int32)) (2 : Int32))), .val (.int (9 : Int32))]) rfl ?_
            refine g_iloadN X0 hx (hb hby d4_73) (pc' := 74) rfl rfl ?_
            refine g_iloadN X0 hx (hb hby d4_74) (pc' := 75) rfl rfl ?_
            refine g_iconst X0 hx (hb hby d4_75) (pc' := 76) rfl (z := (1 : Int32)) rfl ?_
            refine g_iushr X0 hx (hb hby d4_76) (pc' := 77) rfl ?_
            refine g_isub X0 hx (hb hby d4_77) (pc' := 78) rfl ?_
            exact g_ireturn X0 hx hret (hb hby d4_78) N0 hlk (fun v t => endF (by decide) (by decide) v) (by rw [e0]; refine ⟨?_, rfl⟩; simp [nlzI, nzA, hc1, hc22, hc37, hc51, hc63])
      · skip
        refine g_iinc X0 hx (hb hby d4_40) (pc' := 43) rfl rfl (z := (-8 : Int32)) rfl (Ls' := #[.val (.int (ushr p1 (16 : Int32))), .val (.int (7 : Int32))]) rfl ?_
        refine g_iloadN X0 hx (hb hby d4_43) (pc' := 44) rfl rfl ?_
        refine g_bipush X0 hx (hb hby d4_44) (pc' := 46) rfl (z := (8 : Int32)) rfl ?_
        refine g_iushr X0 hx (hb hby d4_46) (pc' := 47) rfl ?_
        refine g_istoreN X0 hx (hb hby d4_47) (pc' := 48) rfl (Ls' := #[.val (.int (ushr (ushr p1 (16 : Int32)) (8 : Int32))), .val (.int (7 : Int32))]) rfl ?_
        refine g_iloadN X0 hx (hb hby d4_48) (pc' := 49) rfl rfl ?_
        refine g_bipush X0 hx (hb hby d4_49) (pc' := 51) rfl (z := (16 : Int32)) rfl ?_
        refine g_icmp_lt X0 hx (hb hby d4_51) (pc1 := 54) rfl (by decide) (pc2 := 61) (by decide) (fun hc51 => ?_) (fun hc51 => ?_)
        · skip
          refine g_iloadN X0 hx (hb hby d4_61) (pc' := 62) rfl rfl ?_
          refine g_iconst X0 hx (hb hby d4_62) (pc' := 63) rfl (z := (4 : Int32)) rfl ?_
          refine g_icmp_lt X0 hx (hb hby d4_63) (pc1 := 66) rfl (by decide) (pc2 := 73) (by decide) (fun hc63 => ?_) (fun hc63 => ?_)
          · skip
            refine g_iloadN X0 hx (hb hby d4_73) (pc' := 74) rfl rfl ?_
            refine g_iloadN X0 hx (hb hby d4_74) (pc' := 75) rfl rfl ?_
            refine g_iconst X0 hx (hb hby d4_75) (pc' := 76) rfl (z := (1 : Int32)) rfl ?_
            refine g_iushr X0 hx (hb hby d4_76) (pc' := 77) rfl ?_
            refine g_isub X0 hx (hb hby d4_77) (pc' := 78) rfl ?_
            exact g_ireturn X0 hx hret (hb hby d4_78) N0 hlk (fun v t => endF (by decide) (by decide) v) (by rw [e0]; refine ⟨?_, rfl⟩; simp [nlzI, nzA, hc1, hc22, hc37, hc51, hc63])
          · skip
            refine g_iinc X0 hx (hb hby d4_66) (pc' := 69) rfl rfl (z := (-2 : Int32)) rfl (Ls' := #[.val (.int (ushr (ushr p1 (16 : Int32)) (8 : Int32))), .val (.int (5 : Int32))]) rfl ?_
            refine g_iloadN X0 hx (hb hby d4_69) (pc' := 70) rfl rfl ?_
            refine g_iconst X0 hx (hb hby d4_70) (pc' := 71) rfl (z := (2 : Int32)) rfl ?_
            refine g_iushr X0 hx (hb hby d4_71) (pc' := 72) rfl ?_
            refine g_istoreN X0 hx (hb hby d4_72) (pc' := 73) rfl (Ls' := #[.val (.int (ushr (ushr (ushr p1 (16 : Int32)) (8 : Int32)) (2 : Int32))), .val (.int (5 : Int32))]) rfl ?_
            refine g_iloadN X0 hx (hb hby d4_73) (pc' := 74) rfl rfl ?_
            refine g_iloadN X0 hx (hb hby d4_74) (pc' := 75) rfl rfl ?_
            refine g_iconst X0 hx (hb hby d4_75) (pc' := 76) rfl (z := (1 : Int32)) rfl ?_
            refine g_iushr X0 hx (hb hby d4_76) (pc' := 77) rfl ?_
            refine g_isub X0 hx (hb hby d4_77) (pc' := 78) rfl ?_
            exact g_ireturn X0 hx hret (hb hby d4_78) N0 hlk (fun v t => endF (by decide) (by decide) v) (by rw [e0]; refine ⟨?_, rfl⟩; simp [nlzI, nzA, hc1, hc22, hc37, hc51, hc63])
        · skip
          refine g_iinc X0 hx (hb hby d4_54) (pc' := 57) rfl rfl (z := (-4 : Int32)) rfl (Ls' := #[.val (.int (ushr (ushr p1 (16 : Int32)) (8 : Int32))), .val (.int (3 : Int32))]) rfl ?_
          refine g_iloadN X0 hx (hb hby d4_57) (pc' := 58) rfl rfl ?_
          refine g_iconst X0 hx (hb hby d4_58) (pc' := 59) rfl (z := (4 : Int32)) rfl ?_
          refine g_iushr X0 hx (hb hby d4_59) (pc' := 60) rfl ?_
          refine g_istoreN X0 hx (hb hby d4_60) (pc' := 61) rfl (Ls' := #[.val (.int (ushr (ushr (ushr p1 (16 : Int32)) (8 : Int32)) (4 : Int32))), .val (.int (3 : Int32))]) rfl ?_
          refine g_iloadN X0 hx (hb hby d4_61) (pc' := 62) rfl rfl ?_
          refine g_iconst X0 hx (hb hby d4_62) (pc' := 63) rfl (z := (4 : Int32)) rfl ?_
          refine g_icmp_lt X0 hx (hb hby d4_63) (pc1 := 66) rfl (by decide) (pc2 := 73) (by decide) (fun hc63 => ?_) (fun hc63 => ?_)
          · skip
            refine g_iloadN X0 hx (hb hby d4_73) (pc' := 74) rfl rfl ?_
            refine g_iloadN X0 hx (hb hby d4_74) (pc' := 75) rfl rfl ?_
            refine g_iconst X0 hx (hb hby d4_75) (pc' := 76) rfl (z := (1 : Int32)) rfl ?_
            refine g_iushr X0 hx (hb hby d4_76) (pc' := 77) rfl ?_
            refine g_isub X0 hx (hb hby d4_77) (pc' := 78) rfl ?_
            exact g_ireturn X0 hx hret (hb hby d4_78) N0 hlk (fun v t => endF (by decide) (by decide) v) (by rw [e0]; refine ⟨?_, rfl⟩; simp [nlzI, nzA, hc1, hc22, hc37, hc51, hc63])
          · skip
            refine g_iinc X0 hx (hb hby d4_66) (pc' := 69) rfl rfl (z := (-2 : Int32)) rfl (Ls' := #[.val (.int (ushr (ushr (ushr p1 (16 : Int32)) (8 : Int32)) (4 : Int32))), .val (.int (1 : Int32))]) rfl ?_
            refine g_iloadN X0 hx (hb hby d4_69) (pc' := 70) rfl rfl ?_
            refine g_iconst X0 hx (hb hby d4_70) (pc' := 71) rfl (z := (2 : Int32)) rfl ?_
            refine g_iushr X0 hx (hb hby d4_71) (pc' := 72) rfl ?_
            refine g_istoreN X0 hx (hb hby d4_72) (pc' := 73) rfl (Ls' := #[.val (.int (ushr (ushr (ushr (ushr p1 (16 : Int32)) (8 : Int32)) (4 : Int32)) (2 : Int32))), .val (.int (1 : Int32))]) rfl ?_
            refine g_iloadN X0 hx (hb hby d4_73) (pc' := 74) rfl rfl ?_
            refine g_iloadN X0 hx (hb hby d4_74) (pc' := 75) rfl rfl ?_
            refine g_iconst X0 hx (hb hby d4_75) (pc' := 76) rfl (z := (1 : Int32)) rfl ?_
            refine g_iushr X0 hx (hb hby d4_76) (pc' := 77) rfl ?_
            refine g_isub X0 hx (hb hby d4_77) (pc' := 78) rfl ?_
            exact g_ireturn X0 hx hret (hb hby d4_78) N0 hlk (fun v t => endF (by decide) (by decide) v) (by rw [e0]; refine ⟨?_, rfl⟩; simp [nlzI, nzA, hc1, hc22, hc37, hc51, hc63])
  · skip
    refine g_iloadN X0 hx (hb hby d4_4) (pc' := 5) rfl rfl ?_
    refine g_if_ne X0 hx (hb hby d4_5) (pc1 := 8) rfl (by decide) (pc2 := 13) (by decide) (fun hc5 => ?_) (fun hc5 => ?_)
    · skip
      refine g_iconst X0 hx (hb hby d4_13) (pc' := 14) rfl (z := (0 : Int32)) rfl ?_
      exact g_ireturn X0 hx hret (hb hby d4_14) N0 hlk (fun v t => endF (by decide) (by decide) v) (by rw [e0]; refine ⟨?_, rfl⟩; simp [nlzI, nzA, hc1, hc5])
    · skip
      refine g_bipush X0 hx (hb hby d4_8) (pc' := 10) rfl (z := (32 : Int32)) rfl ?_
      refine g_goto X0 hx (hb hby d4_10) (by decide) (pc' := 14) (by decide) ?_
      exact g_ireturn X0 hx hret (hb hby d4_14) N0 hlk (fun v t => endF (by decide) (by decide) v) (by rw [e0]; refine ⟨?_, rfl⟩; simp [nlzI, nzA, hc1, hc5])
theorem pd__I_I : parseMethodDescriptor "(I)I" = some ⟨[.int], some .int⟩ := by decide +kernel
theorem d3_0 : decode jdk_35_method_48_code 0 = .ok (.lload_n 0, 1) := by decide +kernel
theorem d3_1 : decode jdk_35_method_48_code 1 = .ok (.bipush 32, 2) := by decide +kernel
theorem d3_3 : decode jdk_35_method_48_code 3 = .ok (.lushr, 1) := by decide +kernel
theorem d3_4 : decode jdk_35_method_48_code 4 = .ok (.l2i, 1) := by decide +kernel
theorem d3_5 : decode jdk_35_method_48_code 5 = .ok (.istore_n 2, 1) := by decide +kernel
theorem d3_6 : decode jdk_35_method_48_code 6 = .ok (.iload_n 2, 1) := by decide +kernel
theorem d3_7 : decode jdk_35_method_48_code 7 = .ok (.ifCond .ne 14, 3) := by decide +kernel
theorem d3_10 : decode jdk_35_method_48_code 10 = .ok (.bipush 32, 2) := by decide +kernel
theorem d3_12 : decode jdk_35_method_48_code 12 = .ok (.lload_n 0, 1) := by decide +kernel
theorem d3_13 : decode jdk_35_method_48_code 13 = .ok (.l2i, 1) := by decide +kernel
theorem d3_14 : decode jdk_35_method_48_code 14 = .ok (.invokestatic 308, 3) := by decide +kernel
theorem d3_17 : decode jdk_35_method_48_code 17 = .ok (.iadd, 1) := by decide +kernel
theorem d3_18 : decode jdk_35_method_48_code 18 = .ok (.goto 7, 3) := by decide +kernel
theorem d3_21 : decode jdk_35_method_48_code 21 = .ok (.iload_n 2, 1) := by decide +kernel
theorem d3_22 : decode jdk_35_method_48_code 22 = .ok (.invokestatic 308, 3) := by decide +kernel
theorem d3_25 : decode jdk_35_method_48_code 25 = .ok (.ireturn, 1) := by decide +kernel
theorem pn_3 : plainName "java/lang/Long" = true := by first | (simp [plainName, overriddenIn]; done) | decide +kernel
theorem ef_3 (x0 : Int64) (m : MethodId) : entryFrame m #[(.long x0)] 3 = mkF m 0 #[.val (.long x0), .second, .unset] [] := by first | (simp [entryFrame, mkF, argsToLocals, Value.category]; done) | rfl
def Q3 (Z : State) (p1 : Int64) (h0 : Heap) (n0 : Nat) : Option Value → Heap → Prop := fun v h => v = some (.int (nlzJ p1)) ∧ h0 = h
set_option maxRecDepth 65536 in
set_option maxHeartbeats 40000000 in
theorem rm3 (l : Launch) (Z : State) (a0 : Array Value) (hw : ∀ d ∈ tables_1, d.before a0 Z = true) (p1 : Int64) (h0 : Heap) (n0 : Nat) (Z0 : n0 ≤ h0.size) : Ctr l Z (⟨"java/lang/Long", "numberOfLeadingZeros", "(J)I"⟩ : MethodName) jdk_35_method_48_code 3 (some .int) ({ frames := 1, cells := 0, slots := 0, locals := 14 } : Room) #[(.long p1)] h0 n0 (Q3 Z p1 h0 n0) := by
  refine Ctr.of (plainFor_of_name pn_3) (ef_3 p1) ?_
  intro p e s m below meth c T0 hx hby hml hown hnm hret hlk hZ X0 e0
  have N0 := Fr.nil n0
  refine g_lloadN X0 hx (hb hby d3_0) (pc' := 1) rfl rfl ?_
  refine g_bipush X0 hx (hb hby d3_1) (pc' := 3) rfl (z := (32 : Int32)) rfl ?_
  refine g_lushr X0 hx (hb hby d3_3) (pc' := 4) rfl ?_
  refine g_l2i X0 hx (hb hby d3_4) (pc' := 5) rfl ?_
  refine g_istoreN X0 hx (hb hby d3_5) (pc' := 6) rfl (Ls' := #[.val (.long p1), .second, .val (.int (lushr p1 (32 : Int32)).toInt32)]) rfl ?_
  refine g_iloadN X0 hx (hb hby d3_6) (pc' := 7) rfl rfl ?_
  refine g_if_ne X0 hx (hb hby d3_7) (pc1 := 10) rfl (by decide) (pc2 := 21) (by decide) (fun hc7 => ?_) (fun hc7 => ?_)
  · skip
    refine g_iloadN X0 hx (hb hby d3_21) (pc' := 22) rfl rfl ?_
    obtain ⟨v1, T1, h1, L1, X1, e1, N1, q1, st1⟩ := h_static X0 hx (W := 0) (Ls := #[.val (.long p1), .second, .val (.int (lushr p1 (32 : Int32)).toInt32)]) (argsL := [(.int (lushr p1 (32 : Int32)).toInt32)]) (rest := []) hZ e0 N0 hml hown (rm4 l Z a0 hw (lushr p1 (32 : Int32)).toInt32 h0 n0 Z0) (hw _ (List.mem_of_getElem? (i := 18) rfl)) (hw _ (List.mem_of_getElem? (i := 19) rfl)) (hw _ (List.mem_of_getElem? (i := 20) rfl)) (hw _ (List.mem_of_getElem? (i := 21) rfl)) (by decide) pd__I_I rfl rfl (hb hby d3_22) rfl (by decide) (by decide) (by decide) (by decide)
    obtain ⟨rfl, rfl⟩ := q1
    refine Go.movp st1 (mkF m 25 #[.val (.long p1), .second, .val (.int (lushr p1 (32 : Int32)).toInt32)] [(.int (nlzI (lushr p1 (32 : Int32)).toInt32))]) rfl ?_
    exact g_ireturn X1 hx hret (hb hby d3_25) N1 hlk (fun v t => endF (by decide) (by decide) v) (by rw [e1]; refine ⟨?_, rfl⟩; simp [nlzJ, hc7])
  · skip
    refine g_bipush X0 hx (hb hby d3_10) (pc' := 12) rfl (z := (32 : Int32)) rfl ?_
    refine g_lloadN X0 hx (hb hby d3_12) (pc' := 13) rfl rfl ?_
    refine g_l2i X0 hx (hb hby d3_13) (pc' := 14) rfl ?_
    obtain ⟨v2, T2, h2, L2, X2, e2, N2, q2, st2⟩ := h_static X0 hx (W := 1) (Ls := #[.val (.long p1), .second, .val (.int (lushr p1 (32 : Int32)).toInt32)]) (argsL := [(.int p1.toInt32)]) (rest := [(.int (32 : Int32))]) hZ e0 N0 hml hown (rm4 l Z a0 hw p1.toInt32 h0 n0 Z0) (hw _ (List.mem_of_getElem? (i := 18) rfl)) (hw _ (List.mem_of_getElem? (i := 19) rfl)) (hw _ (List.mem_of_getElem? (i := 20) rfl)) (hw _ (List.mem_of_getElem? (i := 21) rfl)) (by decide) pd__I_I rfl rfl (hb hby d3_14) rfl (by decide) (by decide) (by decide) (by decide)
    obtain ⟨rfl, rfl⟩ := q2
    refine Go.movp st2 (mkF m 17 #[.val (.long p1), .second, .val (.int (lushr p1 (32 : Int32)).toInt32)] [(.int (nlzI p1.toInt32)), (.int (32 : Int32))]) rfl ?_
    refine g_iadd X2 hx (hb hby d3_17) (pc' := 18) rfl ?_
    refine g_goto X2 hx (hb hby d3_18) (by decide) (pc' := 25) (by decide) ?_
    exact g_ireturn X2 hx hret (hb hby d3_25) N2 hlk (fun v t => endF (by decide) (by decide) v) (by rw [e2]; refine ⟨?_, rfl⟩; simp [nlzJ, hc7])
theorem d5_0 : decode jdk_29_method_65_code 0 = .ok (.iload_n 0, 1) := by decide +kernel
theorem d5_1 : decode jdk_29_method_65_code 1 = .ok (.iload_n 1, 1) := by decide +kernel
theorem d5_2 : decode jdk_29_method_65_code 2 = .ok (.if_icmp .lt 7, 3) := by decide +kernel
theorem d5_5 : decode jdk_29_method_65_code 5 = .ok (.iload_n 0, 1) := by decide +kernel
theorem d5_6 : decode jdk_29_method_65_code 6 = .ok (.goto 4, 3) := by decide +kernel
theorem d5_9 : decode jdk_29_method_65_code 9 = .ok (.iload_n 1, 1) := by decide +kernel
theorem d5_10 : decode jdk_29_method_65_code 10 = .ok (.ireturn, 1) := by decide +kernel
theorem ef_5 (x0 : Int32) (x1 : Int32) (m : MethodId) : entryFrame m #[(.int x0), (.int x1)] 2 = mkF m 0 #[.val (.int x0), .val (.int x1)] [] := by first | (simp [entryFrame, mkF, argsToLocals, Value.category]; done) | rfl
def Q5 (Z : State) (p1 : Int32) (p2 : Int32) (h0 : Heap) (n0 : Nat) : Option Value → Heap → Prop := fun v h => v = some (.int (maxI p1 p2)) ∧ h0 = h
set_option maxRecDepth 65536 in
set_option maxHeartbeats 40000000 in
theorem rm5 (l : Launch) (Z : State) (a0 : Array Value) (hw : ∀ d ∈ tables_1, d.before a0 Z = true) (p1 : Int32) (p2 : Int32) (h0 : Heap) (n0 : Nat) (Z0 : n0 ≤ h0.size) : Ctr l Z (⟨"java/lang/Math", "max", "(II)I"⟩ : MethodName) jdk_29_method_65_code 2 (some .int) ({ frames := 0, cells := 0, slots := 0, locals := 0 } : Room) #[(.int p1), (.int p2)] h0 n0 (Q5 Z p1 p2 h0 n0) := by
  refine Ctr.of (Jvm.Free.JP.mathPlain rfl (by decide +kernel)) (ef_5 p1 p2) ?_
  intro p e s m below meth c T0 hx hby hml hown hnm hret hlk hZ X0 e0
  have N0 := Fr.nil n0
  refine g_iloadN X0 hx (hb hby d5_0) (pc' := 1) rfl rfl ?_
  refine g_iloadN X0 hx (hb hby d5_1) (pc' := 2) rfl rfl ?_
  refine g_icmp_lt X0 hx (hb hby d5_2) (pc1 := 5) rfl (by decide) (pc2 := 9) (by decide) (fun hc2 => ?_) (fun hc2 => ?_)
  · skip
    refine g_iloadN X0 hx (hb hby d5_9) (pc' := 10) rfl rfl ?_
    exact g_ireturn X0 hx hret (hb hby d5_10) N0 hlk (fun v t => endF (by decide) (by decide) v) (by rw [e0]; refine ⟨?_, rfl⟩; simp [maxI, hc2])
  · skip
    refine g_iloadN X0 hx (hb hby d5_5) (pc' := 6) rfl rfl ?_
    refine g_goto X0 hx (hb hby d5_6) (by decide) (pc' := 10) (by decide) ?_
    exact g_ireturn X0 hx hret (hb hby d5_10) N0 hlk (fun v t => endF (by decide) (by decide) v) (by rw [e0]; refine ⟨?_, rfl⟩; simp [maxI, hc2])
theorem pd__J_I : parseMethodDescriptor "(J)I" = some ⟨[.long], some .int⟩ := by decide +kernel
theorem pd__II_I : parseMethodDescriptor "(II)I" = some ⟨[.int, .int], some .int⟩ := by decide +kernel
theorem d1_0 : decode prog_130_method_1_code 0 = .ok (.aload_n 0, 1) := by decide +kernel
theorem d1_1 : decode prog_130_method_1_code 1 = .ok (.invokespecial 3, 3) := by decide +kernel
theorem d1_4 : decode prog_130_method_1_code 4 = .ok (.aload_n 0, 1) := by decide +kernel
theorem d1_5 : decode prog_130_method_1_code 5 = .ok (.lload_n 1, 1) := by decide +kernel
theorem d1_6 : decode prog_130_method_1_code 6 = .ok (.putfield 9, 3) := by decide +kernel
theorem d1_9 : decode prog_130_method_1_code 9 = .ok (.aload_n 0, 1) := by decide +kernel
theorem d1_10 : decode prog_130_method_1_code 10 = .ok (.lload_n 3, 1) := by decide +kernel
theorem d1_11 : decode prog_130_method_1_code 11 = .ok (.putfield 15, 3) := by decide +kernel
theorem d1_14 : decode prog_130_method_1_code 14 = .ok (.lload_n 1, 1) := by decide +kernel
theorem d1_15 : decode prog_130_method_1_code 15 = .ok (.lconst 0, 1) := by decide +kernel
theorem d1_16 : decode prog_130_method_1_code 16 = .ok (.lcmp, 1) := by decide +kernel
theorem d1_17 : decode prog_130_method_1_code 17 = .ok (.ifCond .ne 7, 3) := by decide +kernel
theorem d1_20 : decode prog_130_method_1_code 20 = .ok (.lconst 0, 1) := by decide +kernel
theorem d1_21 : decode prog_130_method_1_code 21 = .ok (.goto 6, 3) := by decide +kernel
theorem d1_24 : decode prog_130_method_1_code 24 = .ok (.lload_n 3, 1) := by decide +kernel
theorem d1_25 : decode prog_130_method_1_code 25 = .ok (.lload_n 1, 1) := by decide +kernel
theorem d1_26 : decode prog_130_method_1_code 26 = .ok (.ldiv, 1) := by decide +kernel
theorem d1_27 : decode prog_130_method_1_code 27 = .ok (.lstore 5, 2) := by decide +kernel
theorem d1_29 : decode prog_130_method_1_code 29 = .ok (.aload_n 0, 1) := by decide +kernel
theorem d1_30 : decode prog_130_method_1_code 30 = .ok (.iconst 0, 1) := by decide +kernel
theorem d1_31 : decode prog_130_method_1_code 31 = .ok (.bipush 62, 2) := by decide +kernel
theorem d1_33 : decode prog_130_method_1_code 33 = .ok (.lload 5, 2) := by decide +kernel
theorem d1_35 : decode prog_130_method_1_code 35 = .ok (.invokestatic 18, 3) := by decide +kernel
theorem d1_38 : decode prog_130_method_1_code 38 = .ok (.isub, 1) := by decide +kernel
theorem d1_39 : decode prog_130_method_1_code 39 = .ok (.invokestatic 24, 3) := by decide +kernel
theorem d1_42 : decode prog_130_method_1_code 42 = .ok (.putfield 30, 3) := by decide +kernel
theorem d1_45 : decode prog_130_method_1_code 45 = .ok (.return_, 1) := by decide +kernel
theorem pn_1 : plainName "com/example/stratasig/stratasig/index/GapCoding$Tally" = true := by first | (simp [plainName, overriddenIn]; done) | decide +kernel
theorem ef_1 (x0 : Addr) (x1 : Int64) (x2 : Int64) (m : MethodId) : entryFrame m #[(.ref x0), (.long x1), (.long x2)] 7 = mkF m 0 #[.val (.ref x0), .val (.long x1), .second, .val (.long x2), .second, .unset, .unset] [] := by first | (simp [entryFrame, mkF, argsToLocals, Value.category]; done) | rfl
def Q1 (Z : State) (a : Addr) (c0 : Int64) (s0 : Int64) (h0 : Heap) (n0 : Nat) : Option Value → Heap → Prop := fun v h => v = none ∧ Keep h0 h [a] ∧ Exa Z h a "com/example/stratasig/stratasig/index/GapCoding$Tally" ∧ Fld Z h a "com/example/stratasig/stratasig/index/GapCoding$Tally" "count" "J" (.long c0) ∧ Fld Z h a "com/example/stratasig/stratasig/index/GapCoding$Tally" "lowest" "I" (.int (lowV c0 s0)) ∧ Fld Z h a "com/example/stratasig/stratasig/index/GapCoding$Tally" "atLowest" "J" (.long (0 : Int64)) ∧ Fld Z h a "com/example/stratasig/stratasig/index/GapCoding$Tally" "oneAbove" "J" (.long (0 : Int64)) ∧ Fld Z h a "com/example/stratasig/stratasig/index/GapCoding$Tally" "twoAbove" "J" (.long (0 : Int64))
set_option maxRecDepth 65536 in
set_option maxHeartbeats 40000000 in
theorem rm1 (l : Launch) (Z : State) (a0 : Array Value) (hw : ∀ d ∈ tables_1, d.before a0 Z = true) (a : Addr) (c0 : Int64) (s0 : Int64) (h0 : Heap) (n0 : Nat) (Z0 : n0 ≤ h0.size) (F0 : Fld Z h0 a "com/example/stratasig/stratasig/index/GapCoding$Tally" "count" "J" (.long (0 : Int64))) (F1 : Fld Z h0 a "com/example/stratasig/stratasig/index/GapCoding$Tally" "sum" "J" (.long (0 : Int64))) (F2 : Fld Z h0 a "com/example/stratasig/stratasig/index/GapCoding$Tally" "lowest" "I" (.int (0 : Int32))) (F3 : Fld Z h0 a "com/example/stratasig/stratasig/index/GapCoding$Tally" "atLowest" "J" (.long (0 : Int64))) (F4 : Fld Z h0 a "com/example/stratasig/stratasig/index/GapCoding$Tally" "oneAbove" "J" (.long (0 : Int64))) (F5 : Fld Z h0 a "com/example/stratasig/stratasig/index/GapCoding$Tally" "twoAbove" "J" (.long (0 : Int64))) (E1 : Exa Z h0 a "com/example/stratasig/stratasig/index/GapCoding$Tally") (G1 : n0 ≤ a) : Ctr l Z (⟨"com/example/stratasig/stratasig/index/GapCoding$Tally", "<init>", "(JJ)V"⟩ : MethodName) prog_130_method_1_code 7 none ({ frames := 2, cells := 0, slots := 0, locals := 31 } : Room) #[(.ref a), (.long c0), (.long s0)] h0 n0 (Q1 Z a c0 s0 h0 n0) := by
  refine Ctr.of (plainFor_of_name pn_1) (ef_1 a c0 s0) ?_
  intro p e s m below meth c T0 hx hby hml hown hnm hret hlk hZ X0 e0
  have N0 := Fr.nil n0
  refine g_aloadN X0 hx (hb hby d1_0) (pc' := 1) rfl rfl rfl ?_
  obtain ⟨T3, X3, e3, st3⟩ := initO X0 hx hZ hown (hw _ (List.mem_of_getElem? (i := 7) rfl)) (hw _ (List.mem_of_getElem? (i := 8) rfl)) (hw _ (List.mem_of_getElem? (i := 9) rfl)) e0 (g := (mkF m 1 #[.val (.ref a), .val (.long c0), .second, .val (.long s0), .second, .unset, .unset] [(.ref a)])) rfl (by rw [hml]; rfl) rfl (hb hby d1_1) (by decide) (W := 0) (by show 2 * 0 + _ ≤ _; exact Nat.le_of_eq rfl) (by decide)
  refine Go.movp st3 (mkF m 4 #[.val (.ref a), .val (.long c0), .second, .val (.long s0), .second, .unset, .unset] []) rfl ?_
  refine g_aloadN X3 hx (hb hby d1_4) (pc' := 5) rfl rfl rfl ?_
  refine g_lloadN X3 hx (hb hby d1_5) (pc' := 6) rfl rfl ?_
  obtain ⟨T4, h4, X4, e4, W4, st4⟩ := putF X3 hx hZ hown (host := "") (Or.inl (hw _ (List.mem_of_getElem? (i := 10) rfl))) Via.refl e3 F0 E1 (Or.inr ⟨(hw _ (List.mem_of_getElem? (i := 11) rfl)), rfl, hnm⟩) (hw _ (List.mem_of_getElem? (i := 2) rfl)) (ty := .long) (by decide) rfl rfl (g := (mkF m 6 #[.val (.ref a), .val (.long c0), .second, .val (.long s0), .second, .unset, .unset] [(.long c0), (.ref a)])) rfl rfl (hb hby d1_6)
  have f5 : Fld Z h4 a "com/example/stratasig/stratasig/index/GapCoding$Tally" "count" "J" (.long c0) := Fld.same W4 F0
  have N4 := Fr.snoc X4 N0 G1
  have f6 := Fld.other W4 F1 (Or.inr (slot_ne (Or.inr (hw _ (List.mem_of_getElem? (i := 13) rfl))) (Or.inr (hw _ (List.mem_of_getElem? (i := 11) rfl))) (by decide) (t := .long) (t' := .long) (by decide) (by decide)))
  have f7 := Fld.other W4 F2 (Or.inr (slot_ne (Or.inr (hw _ (List.mem_of_getElem? (i := 27) rfl))) (Or.inr (hw _ (List.mem_of_getElem? (i := 11) rfl))) (by decide) (t := .int) (t' := .long) (by decide) (by decide)))
  have f8 := Fld.other W4 F3 (Or.inr (slot_ne (Or.inl (hw _ (List.mem_of_getElem? (i := 34) rfl))) (Or.inr (hw _ (List.mem_of_getElem? (i := 11) rfl))) (by decide) (t := .long) (t' := .long) (by decide) (by decide)))
  have f9 := Fld.other W4 F4 (Or.inr (slot_ne (Or.inl (hw _ (List.mem_of_getElem? (i := 36) rfl))) (Or.inr (hw _ (List.mem_of_getElem? (i := 11) rfl))) (by decide) (t := .long) (t' := .long) (by decide) (by decide)))
  have f10 := Fld.other W4 F5 (Or.inr (slot_ne (Or.inl (hw _ (List.mem_of_getElem? (i := 38) rfl))) (Or.inr (hw _ (List.mem_of_getElem? (i := 11) rfl))) (by decide) (t := .long) (t' := .long) (by decide) (by decide)))
  have f11 := Exa.wr W4 E1
  have Z12 : n0 ≤ h4.size := Nat.le_trans Z0 (Keep.of_wr W4).1
  have K13 := (Keep.refl h0 [a]).wr W4 (Or.inl (List.mem_of_getElem? (i := 0) rfl))
  refine Go.movp st4 (mkF m 9 #[.val (.ref a), .val (.long c0), .second, .val (.long s0), .second, .unset, .unset] []) rfl ?_
  refine g_aloadN X4 hx (hb hby d1_9) (pc' := 10) rfl rfl rfl ?_
  refine g_lloadN X4 hx (hb hby d1_10) (pc' := 11) rfl rfl ?_
  obtain ⟨T14, h14, X14, e14, W14, st14⟩ := putF X4 hx hZ hown (host := "") (Or.inl (hw _ (List.mem_of_getElem? (i := 12) rfl))) Via.refl e4 f6 f11 (Or.inr ⟨(hw _ (List.mem_of_getElem? (i := 13) rfl)), rfl, hnm⟩) (hw _ (List.mem_of_getElem? (i := 2) rfl)) (ty := .long) (by decide) rfl rfl (g := (mkF m 11 #[.val (.ref a), .val (.long c0), .second, .val (.long s0), .second, .unset, .unset] [(.long s0), (.ref a)])) rfl rfl (hb hby d1_11)
  have f15 : Fld Z h14 a "com/example/stratasig/stratasig/index/GapCoding$Tally" "sum" "J" (.long s0) := Fld.same W14 f6
  have N14 := Fr.snoc X14 N4 G1
  have f16 := Fld.other W14 f7 (Or.inr (slot_ne (Or.inr (hw _ (List.mem_of_getElem? (i := 27) rfl))) (Or.inr (hw _ (List.mem_of_getElem? (i := 13) rfl))) (by decide) (t := .int) (t' := .long) (by decide) (by decide)))
  have f17 := Fld.other W14 f8 (Or.inr (slot_ne (Or.inl (hw _ (List.mem_of_getElem? (i := 34) rfl))) (Or.inr (hw _ (List.mem_of_getElem? (i := 13) rfl))) (by decide) (t := .long) (t' := .long) (by decide) (by decide)))
  have f18 := Fld.other W14 f9 (Or.inr (slot_ne (Or.inl (hw _ (List.mem_of_getElem? (i := 36) rfl))) (Or.inr (hw _ (List.mem_of_getElem? (i := 13) rfl))) (by decide) (t := .long) (t' := .long) (by decide) (by decide)))
  have f19 := Fld.other W14 f10 (Or.inr (slot_ne (Or.inl (hw _ (List.mem_of_getElem? (i := 38) rfl))) (Or.inr (hw _ (List.mem_of_getElem? (i := 13) rfl))) (by decide) (t := .long) (t' := .long) (by decide) (by decide)))
  have f20 := Exa.wr W14 f11
  have f21 := Fld.other W14 f5 (Or.inr (slot_ne (Or.inr (hw _ (List.mem_of_getElem? (i := 11) rfl))) (Or.inr (hw _ (List.mem_of_getElem? (i := 13) rfl))) (by decide) (t := .long) (t' := .long) (by decide) (by decide)))
  have Z22 : n0 ≤ h14.size := Nat.le_trans Z12 (Keep.of_wr W14).1
  have K23 := K13.wr W14 (Or.inl (List.mem_of_getElem? (i := 0) rfl))
  refine Go.movp st14 (mkF m 14 #[.val (.ref a), .val (.long c0), .second, .val (.long s0), .second, .unset, .unset] []) rfl ?_
  refine g_lloadN X14 hx (hb hby d1_14) (pc' := 15) rfl rfl ?_
  refine g_lconst X14 hx (hb hby d1_15) (pc' := 16) rfl (z := (0 : Int64)) rfl ?_
  refine g_lcmp_ne X14 hx (hb hby d1_16) (pc' := 17) rfl (hb hby d1_17) (pc1 := 20) rfl (by decide) (pc2 := 24) (by decide) (fun hc16 => ?_) (fun hc16 => ?_)
  · skip
    refine g_lloadN X14 hx (hb hby d1_24) (pc' := 25) rfl rfl ?_
    refine g_lloadN X14 hx (hb hby d1_25) (pc' := 26) rfl rfl ?_
    refine g_ldiv X14 hx (hb hby d1_26) (pc' := 27) rfl hc16 ?_
    refine Go.cast (show (mkF m 27 #[.val (.ref a), .val (.long c0), .second, .val (.long s0), .second, .unset, .unset] [(.long (s0 / c0))]) = (mkF m 27 #[.val (.ref a), .val (.long c0), .second, .val (.long s0), .second, .unset, .unset] [(.long (meanV c0 s0))]) from by rw [show (s0 / c0) = (meanV c0 s0) from (if_neg hc16).symm]) ?_
    refine g_lstore X14 hx (hb hby d1_27) (pc' := 29) rfl (Ls' := #[.val (.ref a), .val (.long c0), .second, .val (.long s0), .second, .val (.long (meanV c0 s0)), .second]) rfl ?_
    refine g_aloadN X14 hx (hb hby d1_29) (pc' := 30) rfl rfl rfl ?_
    refine g_iconst X14 hx (hb hby d1_30) (pc' := 31) rfl (z := (0 : Int32)) rfl ?_
    refine g_bipush X14 hx (hb hby d1_31) (pc' := 33) rfl (z := (62 : Int32)) rfl ?_
    refine g_lload X14 hx (hb hby d1_33) (pc' := 35) rfl rfl ?_
    obtain ⟨v24, T24, h24, L24, X24, e24, N24, q24, st24⟩ := h_static X14 hx (W := 3) (Ls := #[.val (.ref a), .val (.long c0), .second, .val (.long s0), .second, .val (.long (meanV c0 s0)), .second]) (argsL := [(.long (meanV c0 s0))]) (rest := [(.int (62 : Int32)), (.int (0 : Int32)), (.ref a)]) hZ e14 N14 hml hown (rm3 l Z a0 hw (meanV c0 s0) h14 n0 Z22) (hw _ (List.mem_of_getElem? (i := 14) rfl)) (hw _ (List.mem_of_getElem? (i := 15) rfl)) (hw _ (List.mem_of_getElem? (i := 16) rfl)) (hw _ (List.mem_of_getElem? (i := 17) rfl)) (by decide) pd__J_I rfl rfl (hb hby d1_35) rfl (by decide) (by decide) (by decide) (by decide)
    obtain ⟨rfl, rfl⟩ := q24
    refine Go.movp st24 (mkF m 38 #[.val (.ref a), .val (.long c0), .second, .val (.long s0), .second, .val (.long (meanV c0 s0)), .second] [(.int (nlzJ (meanV c0 s0))), (.int (62 : Int32)), (.int (0 : Int32)), (.ref a)]) rfl ?_
    refine g_isub X24 hx (hb hby d1_38) (pc' := 39) rfl ?_
    obtain ⟨v25, T25, h25, L25, X25, e25, N25, q25, st25⟩ := h_static X24 hx (W := 1) (Ls := #[.val (.ref a), .val (.long c0), .second, .val (.long s0), .second, .val (.long (meanV c0 s0)), .second]) (argsL := [(.int (0 : Int32)), (.int ((62 : Int32) - (nlzJ (meanV c0 s0))))]) (rest := [(.ref a)]) hZ e24 N24 hml hown (rm5 l Z a0 hw (0 : Int32) ((62 : Int32) - (nlzJ (meanV c0 s0))) h14 n0 Z22) (hw _ (List.mem_of_getElem? (i := 22) rfl)) (hw _ (List.mem_of_getElem? (i := 23) rfl)) (hw _ (List.mem_of_getElem? (i := 24) rfl)) (hw _ (List.mem_of_getElem? (i := 25) rfl)) (by decide) pd__II_I rfl rfl (hb hby d1_39) rfl (by decide) (by decide) (by decide) (by decide)
    obtain ⟨rfl, rfl⟩ := q25
    refine Go.movp st25 (mkF m 42 #[.val (.ref a), .val (.long c0), .second, .val (.long s0), .second, .val (.long (meanV c0 s0)), .second] [(.int (maxI (0 : Int32) ((62 : Int32) - (nlzJ (meanV c0 s0))))), (.ref a)]) rfl ?_
    refine Go.cast (show (mkF m 42 #[.val (.ref a), .val (.long c0), .second, .val (.long s0), .second, .val (.long (meanV c0 s0)), .second] [(.int (maxI (0 : Int32) ((62 : Int32) - (nlzJ (meanV c0 s0))))), (.ref a)]) = (mkF m 42 #[.val (.ref a), .val (.long c0), .second, .val (.long s0), .second, .val (.long (meanV c0 s0)), .second] [(.int (lowV c0 s0)), (.ref a)]) from by rw [show (maxI (0 : Int32) ((62 : Int32) - (nlzJ (meanV c0 s0)))) = (lowV c0 s0) from rfl]) ?_
    obtain ⟨T26, h26, X26, e26, W26, st26⟩ := putF X25 hx hZ hown (host := "") (Or.inl (hw _ (List.mem_of_getElem? (i := 26) rfl))) Via.refl e25 f16 f20 (Or.inr ⟨(hw _ (List.mem_of_getElem? (i := 27) rfl)), rfl, hnm⟩) (hw _ (List.mem_of_getElem? (i := 2) rfl)) (ty := .int) (by decide) rfl rfl (g := (mkF m 42 #[.val (.ref a), .val (.long c0), .second, .val (.long s0), .second, .val (.long (meanV c0 s0)), .second] [(.int (lowV c0 s0)), (.ref a)])) rfl rfl (hb hby d1_42)
    have f27 : Fld Z h26 a "com/example/stratasig/stratasig/index/GapCoding$Tally" "lowest" "I" (.int (lowV c0 s0)) := Fld.same W26 f16
    have N26 := Fr.snoc X26 N25 G1
    have f28 := Fld.other W26 f17 (Or.inr (slot_ne (Or.inl (hw _ (List.mem_of_getElem? (i := 34) rfl))) (Or.inr (hw _ (List.mem_of_getElem? (i := 27) rfl))) (by decide) (t := .long) (t' := .int) (by decide) (by decide)))
    have f29 := Fld.other W26 f18 (Or.inr (slot_ne (Or.inl (hw _ (List.mem_of_getElem? (i := 36) rfl))) (Or.inr (hw _ (List.mem_of_getElem? (i := 27) rfl))) (by decide) (t := .long) (t' := .int) (by decide) (by decide)))
    have f30 := Fld.other W26 f19 (Or.inr (slot_ne (Or.inl (hw _ (List.mem_of_getElem? (i := 38) rfl))) (Or.inr (hw _ (List.mem_of_getElem? (i := 27) rfl))) (by decide) (t := .long) (t' := .int) (by decide) (by decide)))
    have f31 := Exa.wr W26 f20
    have f32 := Fld.other W26 f21 (Or.inr (slot_ne (Or.inr (hw _ (List.mem_of_getElem? (i := 11) rfl))) (Or.inr (hw _ (List.mem_of_getElem? (i := 27) rfl))) (by decide) (t := .long) (t' := .int) (by decide) (by decide)))
    have f33 := Fld.other W26 f15 (Or.inr (slot_ne (Or.inr (hw _ (List.mem_of_getElem? (i := 13) rfl))) (Or.inr (hw _ (List.mem_of_getElem? (i := 27) rfl))) (by decide) (t := .long) (t' := .int) (by decide) (by decide)))
    have Z34 : n0 ≤ h26.size := Nat.le_trans Z22 (Keep.of_wr W26).1
    have K35 := K23.wr W26 (Or.inl (List.mem_of_getElem? (i := 0) rfl))
    refine Go.movp st26 (mkF m 45 #[.val (.ref a), .val (.long c0), .second, .val (.long s0), .second, .val (.long (meanV c0 s0)), .second] []) rfl ?_
    exact g_return X26 hx hret (hb hby d1_45) N26 hlk (fun v t => endF (by decide) (by decide) v) (by rw [e26]; exact ⟨rfl, K35, f31, f32, f27, f28, f29, f30⟩)
  · skip
    refine g_lconst X14 hx (hb hby d1_20) (pc' := 21) rfl (z := (0 : Int64)) rfl ?_
    refine g_goto X14 hx (hb hby d1_21) (by decide) (pc' := 27) (by decide) ?_
    refine Go.cast (show (mkF m 27 #[.val (.ref a), .val (.long c0), .second, .val (.long s0), .second, .unset, .unset] [(.long (0 : Int64))]) = (mkF m 27 #[.val (.ref a), .val (.long c0), .second, .val (.long s0), .second, .unset, .unset] [(.long (meanV c0 s0))]) from by rw [show (0 : Int64) = (meanV c0 s0) from (if_pos hc16).symm]) ?_
    refine g_lstore X14 hx (hb hby d1_27) (pc' := 29) rfl (Ls' := #[.val (.ref a), .val (.long c0), .second, .val (.long s0), .second, .val (.long (meanV c0 s0)), .second]) rfl ?_
    refine g_aloadN X14 hx (hb hby d1_29) (pc' := 30) rfl rfl rfl ?_
    refine g_iconst X14 hx (hb hby d1_30) (pc' := 31) rfl (z := (0 : Int32)) rfl ?_
    refine g_bipush X14 hx (hb hby d1_31) (pc' := 33) rfl (z := (62 : Int32)) rfl ?_
    refine g_lload X14 hx (hb hby d1_33) (pc' := 35) rfl rfl ?_
    obtain ⟨v36, T36, h36, L36, X36, e36, N36, q36, st36⟩ := h_static X14 hx (W := 3) (Ls := #[.val (.ref a), .val (.long c0), .second, .val (.long s0), .second, .val (.long (meanV c0 s0)), .second]) (argsL := [(.long (meanV c0 s0))]) (rest := [(.int (62 : Int32)), (.int (0 : Int32)), (.ref a)]) hZ e14 N14 hml hown (rm3 l Z a0 hw (meanV c0 s0) h14 n0 Z22) (hw _ (List.mem_of_getElem? (i := 14) rfl)) (hw _ (List.mem_of_getElem? (i := 15) rfl)) (hw _ (List.mem_of_getElem? (i := 16) rfl)) (hw _ (List.mem_of_getElem? (i := 17) rfl)) (by decide) pd__J_I rfl rfl (hb hby d1_35) rfl (by decide) (by decide) (by decide) (by decide)
    obtain ⟨rfl, rfl⟩ := q36
    refine Go.movp st36 (mkF m 38 #[.val (.ref a), .val (.long c0), .second, .val (.long s0), .second, .val (.long (meanV c0 s0)), .second] [(.int (nlzJ (meanV c0 s0))), (.int (62 : Int32)), (.int (0 : Int32)), (.ref a)]) rfl ?_
    refine g_isub X36 hx (hb hby d1_38) (pc' := 39) rfl ?_
    obtain ⟨v37, T37, h37, L37, X37, e37, N37, q37, st37⟩ := h_static X36 hx (W := 1) (Ls := #[.val (.ref a), .val (.long c0), .second, .val (.long s0), .second, .val (.long (meanV c0 s0)), .second]) (argsL := [(.int (0 : Int32)), (.int ((62 : Int32) - (nlzJ (meanV c0 s0))))]) (rest := [(.ref a)]) hZ e36 N36 hml hown (rm5 l Z a0 hw (0 : Int32) ((62 : Int32) - (nlzJ (meanV c0 s0))) h14 n0 Z22) (hw _ (List.mem_of_getElem? (i := 22) rfl)) (hw _ (List.mem_of_getElem? (i := 23) rfl)) (hw _ (List.mem_of_getElem? (i := 24) rfl)) (hw _ (List.mem_of_getElem? (i := 25) rfl)) (by decide) pd__II_I rfl rfl (hb hby d1_39) rfl (by decide) (by decide) (by decide) (by decide)
    obtain ⟨rfl, rfl⟩ := q37
    refine Go.movp st37 (mkF m 42 #[.val (.ref a), .val (.long c0), .second, .val (.long s0), .second, .val (.long (meanV c0 s0)), .second] [(.int (maxI (0 : Int32) ((62 : Int32) - (nlzJ (meanV c0 s0))))), (.ref a)]) rfl ?_
    refine Go.cast (show (mkF m 42 #[.val (.ref a), .val (.long c0), .second, .val (.long s0), .second, .val (.long (meanV c0 s0)), .second] [(.int (maxI (0 : Int32) ((62 : Int32) - (nlzJ (meanV c0 s0))))), (.ref a)]) = (mkF m 42 #[.val (.ref a), .val (.long c0), .second, .val (.long s0), .second, .val (.long (meanV c0 s0)), .second] [(.int (lowV c0 s0)), (.ref a)]) from by rw [show (maxI (0 : Int32) ((62 : Int32) - (nlzJ (meanV c0 s0)))) = (lowV c0 s0) from rfl]) ?_
    obtain ⟨T38, h38, X38, e38, W38, st38⟩ := putF X37 hx hZ hown (host := "") (Or.inl (hw _ (List.mem_of_getElem? (i := 26) rfl))) Via.refl e37 f16 f20 (Or.inr ⟨(hw _ (List.mem_of_getElem? (i := 27) rfl)), rfl, hnm⟩) (hw _ (List.mem_of_getElem? (i := 2) rfl)) (ty := .int) (by decide) rfl rfl (g := (mkF m 42 #[.val (.ref a), .val (.long c0), .second, .val (.long s0), .second, .val (.long (meanV c0 s0)), .second] [(.int (lowV c0 s0)), (.ref a)])) rfl rfl (hb hby d1_42)
    have f39 : Fld Z h38 a "com/example/stratasig/stratasig/index/GapCoding$Tally" "lowest" "I" (.int (lowV c0 s0)) := Fld.same W38 f16
    have N38 := Fr.snoc X38 N37 G1
    have f40 := Fld.other W38 f17 (Or.inr (slot_ne (Or.inl (hw _ (List.mem_of_getElem? (i := 34) rfl))) (Or.inr (hw _ (List.mem_of_getElem? (i := 27) rfl))) (by decide) (t := .long) (t' := .int) (by decide) (by decide)))
    have f41 := Fld.other W38 f18 (Or.inr (slot_ne (Or.inl (hw _ (List.mem_of_getElem? (i := 36) rfl))) (Or.inr (hw _ (List.mem_of_getElem? (i := 27) rfl))) (by decide) (t := .long) (t' := .int) (by decide) (by decide)))
    have f42 := Fld.other W38 f19 (Or.inr (slot_ne (Or.inl (hw _ (List.mem_of_getElem? (i := 38) rfl))) (Or.inr (hw _ (List.mem_of_getElem? (i := 27) rfl))) (by decide) (t := .long) (t' := .int) (by decide) (by decide)))
    have f43 := Exa.wr W38 f20
    have f44 := Fld.other W38 f21 (Or.inr (slot_ne (Or.inr (hw _ (List.mem_of_getElem? (i := 11) rfl))) (Or.inr (hw _ (List.mem_of_getElem? (i := 27) rfl))) (by decide) (t := .long) (t' := .int) (by decide) (by decide)))
    have f45 := Fld.other W38 f15 (Or.inr (slot_ne (Or.inr (hw _ (List.mem_of_getElem? (i := 13) rfl))) (Or.inr (hw _ (List.mem_of_getElem? (i := 27) rfl))) (by decide) (t := .long) (t' := .int) (by decide) (by decide)))
    have Z46 : n0 ≤ h38.size := Nat.le_trans Z22 (Keep.of_wr W38).1
    have K47 := K23.wr W38 (Or.inl (List.mem_of_getElem? (i := 0) rfl))
    refine Go.movp st38 (mkF m 45 #[.val (.ref a), .val (.long c0), .second, .val (.long s0), .second, .val (.long (meanV c0 s0)), .second] []) rfl ?_
    exact g_return X38 hx hret (hb hby d1_45) N38 hlk (fun v t => endF (by decide) (by decide) v) (by rw [e38]; exact ⟨rfl, K47, f43, f44, f39, f40, f41, f42⟩)
theorem d6_0 : decode prog_130_method_3_code 0 = .ok (.lload_n 1, 1) := by decide +kernel
theorem d6_1 : decode prog_130_method_3_code 1 = .ok (.aload_n 0, 1) := by decide +kernel
theorem d6_2 : decode prog_130_method_3_code 2 = .ok (.getfield 30, 3) := by decide +kernel
theorem d6_5 : decode prog_130_method_3_code 5 = .ok (.lushr, 1) := by decide +kernel
theorem d6_6 : decode prog_130_method_3_code 6 = .ok (.lstore_n 3, 1) := by decide +kernel
theorem d6_7 : decode prog_130_method_3_code 7 = .ok (.aload_n 0, 1) := by decide +kernel
theorem d6_8 : decode prog_130_method_3_code 8 = .ok (.dup, 1) := by decide +kernel
theorem d6_9 : decode prog_130_method_3_code 9 = .ok (.getfield 37, 3) := by decide +kernel
theorem d6_12 : decode prog_130_method_3_code 12 = .ok (.lload_n 3, 1) := by decide +kernel
theorem d6_13 : decode prog_130_method_3_code 13 = .ok (.ladd, 1) := by decide +kernel
theorem d6_14 : decode prog_130_method_3_code 14 = .ok (.putfield 37, 3) := by decide +kernel
theorem d6_17 : decode prog_130_method_3_code 17 = .ok (.aload_n 0, 1) := by decide +kernel
theorem d6_18 : decode prog_130_method_3_code 18 = .ok (.dup, 1) := by decide +kernel
theorem d6_19 : decode prog_130_method_3_code 19 = .ok (.getfield 40, 3) := by decide +kernel
theorem d6_22 : decode prog_130_method_3_code 22 = .ok (.lload_n 3, 1) := by decide +kernel
theorem d6_23 : decode prog_130_method_3_code 23 = .ok (.iconst 1, 1) := by decide +kernel
theorem d6_24 : decode prog_130_method_3_code 24 = .ok (.lushr, 1) := by decide +kernel
theorem d6_25 : decode prog_130_method_3_code 25 = .ok (.ladd, 1) := by decide +kernel
theorem d6_26 : decode prog_130_method_3_code 26 = .ok (.putfield 40, 3) := by decide +kernel
theorem d6_29 : decode prog_130_method_3_code 29 = .ok (.aload_n 0, 1) := by decide +kernel
theorem d6_30 : decode prog_130_method_3_code 30 = .ok (.dup, 1) := by decide +kernel
theorem d6_31 : decode prog_130_method_3_code 31 = .ok (.getfield 43, 3) := by decide +kernel
theorem d6_34 : decode prog_130_method_3_code 34 = .ok (.lload_n 3, 1) := by decide +kernel
theorem d6_35 : decode prog_130_method_3_code 35 = .ok (.iconst 2, 1) := by decide +kernel
theorem d6_36 : decode prog_130_method_3_code 36 = .ok (.lushr, 1) := by decide +kernel
theorem d6_37 : decode prog_130_method_3_code 37 = .ok (.ladd, 1) := by decide +kernel
theorem d6_38 : decode prog_130_method_3_code 38 = .ok (.putfield 43, 3) := by decide +kernel
theorem d6_41 : decode prog_130_method_3_code 41 = .ok (.return_, 1) := by decide +kernel
theorem ef_6 (x0 : Addr) (x1 : Int64) (m : MethodId) : entryFrame m #[(.ref x0), (.long x1)] 5 = mkF m 0 #[.val (.ref x0), .val (.long x1), .second, .unset, .unset] [] := by first | (simp [entryFrame, mkF, argsToLocals, Value.category]; done) | rfl
def Q6 (Z : State) (a : Addr) (c0 : Int64) (lo : Int32) (q0 : Int64) (q1 : Int64) (q2 : Int64) (g : Int64) (h0 : Heap) (n0 : Nat) : Option Value → Heap → Prop := fun v h => v = none ∧ Keep h0 h [a] ∧ Exa Z h a "com/example/stratasig/stratasig/index/GapCoding$Tally" ∧ Fld Z h a "com/example/stratasig/stratasig/index/GapCoding$Tally" "count" "J" (.long c0) ∧ Fld Z h a "com/example/stratasig/stratasig/index/GapCoding$Tally" "lowest" "I" (.int lo) ∧ Fld Z h a "com/example/stratasig/stratasig/index/GapCoding$Tally" "atLowest" "J" (.long (q0 + (lushr g lo))) ∧ Fld Z h a "com/example/stratasig/stratasig/index/GapCoding$Tally" "oneAbove" "J" (.long (q1 + (lushr (lushr g lo) (1 : Int32)))) ∧ Fld Z h a "com/example/stratasig/stratasig/index/GapCoding$Tally" "twoAbove" "J" (.long (q2 + (lushr (lushr g lo) (2 : Int32))))
set_option maxRecDepth 65536 in
set_option maxHeartbeats 40000000 in
theorem rm6 (l : Launch) (Z : State) (a0 : Array Value) (hw : ∀ d ∈ tables_1, d.before a0 Z = true) (a : Addr) (c0 : Int64) (lo : Int32) (q0 : Int64) (q1 : Int64) (q2 : Int64) (g : Int64) (h0 : Heap) (n0 : Nat) (Z0 : n0 ≤ h0.size) (F_count : Fld Z h0 a "com/example/stratasig/stratasig/index/GapCoding$Tally" "count" "J" (.long c0)) (F_lowest : Fld Z h0 a "com/example/stratasig/stratasig/index/GapCoding$Tally" "lowest" "I" (.int lo)) (F_atLowest : Fld Z h0 a "com/example/stratasig/stratasig/index/GapCoding$Tally" "atLowest" "J" (.long q0)) (F_oneAbove : Fld Z h0 a "com/example/stratasig/stratasig/index/GapCoding$Tally" "oneAbove" "J" (.long q1)) (F_twoAbove : Fld Z h0 a "com/example/stratasig/stratasig/index/GapCoding$Tally" "twoAbove" "J" (.long q2)) (E1 : Exa Z h0 a "com/example/stratasig/stratasig/index/GapCoding$Tally") (G1 : n0 ≤ a) : Ctr l Z (⟨"com/example/stratasig/stratasig/index/GapCoding$Tally", "add", "(J)V"⟩ : MethodName) prog_130_method_3_code 5 none ({ frames := 0, cells := 0, slots := 0, locals := 0 } : Room) #[(.ref a), (.long g)] h0 n0 (Q6 Z a c0 lo q0 q1 q2 g h0 n0) := by
  refine Ctr.of (plainFor_of_name pn_1) (ef_6 a g) ?_
  intro p e s m below meth c T0 hx hby hml hown hnm hret hlk hZ X0 e0
  have N0 := Fr.nil n0
  refine g_lloadN X0 hx (hb hby d6_0) (pc' := 1) rfl rfl ?_
  refine g_aloadN X0 hx (hb hby d6_1) (pc' := 2) rfl rfl rfl ?_
  obtain ⟨T48, X48, e48, st48⟩ := getF X0 hx hZ hown (host := "") (Or.inl (hw _ (List.mem_of_getElem? (i := 26) rfl))) Via.refl e0 F_lowest (g := (mkF m 2 #[.val (.ref a), .val (.long g), .second, .unset, .unset] [(.ref a), (.long g)])) rfl rfl (hb hby d6_2)
  refine Go.movp st48 (mkF m 5 #[.val (.ref a), .val (.long g), .second, .unset, .unset] [(.int lo), (.long g)]) rfl ?_
  refine g_lushr X48 hx (hb hby d6_5) (pc' := 6) rfl ?_
  refine g_lstoreN X48 hx (hb hby d6_6) (pc' := 7) rfl (Ls' := #[.val (.ref a), .val (.long g), .second, .val (.long (lushr g lo)), .second]) rfl ?_
  refine g_aloadN X48 hx (hb hby d6_7) (pc' := 8) rfl rfl rfl ?_
  refine g_dup X48 hx (hb hby d6_8) (pc' := 9) rfl rfl ?_
  obtain ⟨T49, X49, e49, st49⟩ := getF X48 hx hZ hown (host := "") (Or.inl (hw _ (List.mem_of_getElem? (i := 33) rfl))) Via.refl e48 F_atLowest (g := (mkF m 9 #[.val (.ref a), .val (.long g), .second, .val (.long (lushr g lo)), .second] [(.ref a), (.ref a)])) rfl rfl (hb hby d6_9)
  refine Go.movp st49 (mkF m 12 #[.val (.ref a), .val (.long g), .second, .val (.long (lushr g lo)), .second] [(.long q0), (.ref a)]) rfl ?_
  refine g_lloadN X49 hx (hb hby d6_12) (pc' := 13) rfl rfl ?_
  refine g_ladd X49 hx (hb hby d6_13) (pc' := 14) rfl ?_
  obtain ⟨T50, h50, X50, e50, W50, st50⟩ := putF X49 hx hZ hown (host := "") (Or.inl (hw _ (List.mem_of_getElem? (i := 33) rfl))) Via.refl e49 F_atLowest E1 (Or.inl (hw _ (List.mem_of_getElem? (i := 34) rfl))) (hw _ (List.mem_of_getElem? (i := 2) rfl)) (ty := .long) (by decide) rfl rfl (g := (mkF m 14 #[.val (.ref a), .val (.long g), .second, .val (.long (lushr g lo)), .second] [(.long (q0 + (lushr g lo))), (.ref a)])) rfl rfl (hb hby d6_14)
  have f51 : Fld Z h50 a "com/example/stratasig/stratasig/index/GapCoding$Tally" "atLowest" "J" (.long (q0 + (lushr g lo))) := Fld.same W50 F_atLowest
  have N50 := Fr.snoc X50 N0 G1
  have f52 := Fld.other W50 F_count (Or.inr (slot_ne (Or.inr (hw _ (List.mem_of_getElem? (i := 11) rfl))) (Or.inl (hw _ (List.mem_of_getElem? (i := 34) rfl))) (by decide) (t := .long) (t' := .long) (by decide) (by decide)))
  have f53 := Fld.other W50 F_lowest (Or.inr (slot_ne (Or.inr (hw _ (List.mem_of_getElem? (i := 27) rfl))) (Or.inl (hw _ (List.mem_of_getElem? (i := 34) rfl))) (by decide) (t := .int) (t' := .long) (by decide) (by decide)))
  have f54 := Fld.other W50 F_oneAbove (Or.inr (slot_ne (Or.inl (hw _ (List.mem_of_getElem? (i := 36) rfl))) (Or.inl (hw _ (List.mem_of_getElem? (i := 34) rfl))) (by decide) (t := .long) (t' := .long) (by decide) (by decide)))
  have f55 := Fld.other W50 F_twoAbove (Or.inr (slot_ne (Or.inl (hw _ (List.mem_of_getElem? (i := 38) rfl))) (Or.inl (hw _ (List.mem_of_getElem? (i := 34) rfl))) (by decide) (t := .long) (t' := .long) (by decide) (by decide)))
  have f56 := Exa.wr W50 E1
  have Z57 : n0 ≤ h50.size := Nat.le_trans Z0 (Keep.of_wr W50).1
  have K58 := (Keep.refl h0 [a]).wr W50 (Or.inl (List.mem_of_getElem? (i := 0) rfl))
  refine Go.movp st50 (mkF m 17 #[.val (.ref a), .val (.long g), .second, .val (.long (lushr g lo)), .second] []) rfl ?_
  refine g_aloadN X50 hx (hb hby d6_17) (pc' := 18) rfl rfl rfl ?_
  refine g_dup X50 hx (hb hby d6_18) (pc' := 19) rfl rfl ?_
  obtain ⟨T59, X59, e59, st59⟩ := getF X50 hx hZ hown (host := "") (Or.inl (hw _ (List.mem_of_getElem? (i := 35) rfl))) Via.refl e50 f54 (g := (mkF m 19 #[.val (.ref a), .val (.long g), .second, .val (.long (lushr g lo)), .second] [(.ref a), (.ref a)])) rfl rfl (hb hby d6_19)
  refine Go.movp st59 (mkF m 22 #[.val (.ref a), .val (.long g), .second, .val (.long (lushr g lo)), .second] [(.long q1), (.ref a)]) rfl ?_
  refine g_lloadN X59 hx (hb hby d6_22) (pc' := 23) rfl rfl ?_
  refine g_iconst X59 hx (hb hby d6_23) (pc' := 24) rfl (z := (1 : Int32)) rfl ?_
  refine g_lushr X59 hx (hb hby d6_24) (pc' := 25) rfl ?_
  refine g_ladd X59 hx (hb hby d6_25) (pc' := 26) rfl ?_
  obtain ⟨T60, h60, X60, e60, W60, st60⟩ := putF X59 hx hZ hown (host := "") (Or.inl (hw _ (List.mem_of_getElem? (i := 35) rfl))) Via.refl e59 f54 f56 (Or.inl (hw _ (List.mem_of_getElem? (i := 36) rfl))) (hw _ (List.mem_of_getElem? (i := 2) rfl)) (ty := .long) (by decide) rfl rfl (g := (mkF m 26 #[.val (.ref a), .val (.long g), .second, .val (.long (lushr g lo)), .second] [(.long (q1 + (lushr (lushr g lo) (1 : Int32)))), (.ref a)])) rfl rfl (hb hby d6_26)
  have f61 : Fld Z h60 a "com/example/stratasig/stratasig/index/GapCoding$Tally" "oneAbove" "J" (.long (q1 + (lushr (lushr g lo) (1 : Int32)))) := Fld.same W60 f54
  have N60 := Fr.snoc X60 N50 G1
  have f62 := Fld.other W60 f52 (Or.inr (slot_ne (Or.inr (hw _ (List.mem_of_getElem? (i := 11) rfl))) (Or.inl (hw _ (List.mem_of_getElem? (i := 36) rfl))) (by decide) (t := .long) (t' := .long) (by decide) (by decide)))
  have f63 := Fld.other W60 f53 (Or.inr (slot_ne (Or.inr (hw _ (List.mem_of_getElem? (i := 27) rfl))) (Or.inl (hw _ (List.mem_of_getElem? (i := 36) rfl))) (by decide) (t := .int) (t' := .long) (by decide) (by decide)))
  have f64 := Fld.other W60 f55 (Or.inr (slot_ne (Or.inl (hw _ (List.mem_of_getElem? (i := 38) rfl))) (Or.inl (hw _ (List.mem_of_getElem? (i := 36) rfl))) (by decide) (t := .long) (t' := .long) (by decide) (by decide)))
  have f65 := Exa.wr W60 f56
  have f66 := Fld.other W60 f51 (Or.inr (slot_ne (Or.inl (hw _ (List.mem_of_getElem? (i := 34) rfl))) (Or.inl (hw _ (List.mem_of_getElem? (i := 36) rfl))) (by decide) (t := .long) (t' := .long) (by decide) (by decide)))
  have Z67 : n0 ≤ h60.size := Nat.le_trans Z57 (Keep.of_wr W60).1
  have K68 := K58.wr W60 (Or.inl (List.mem_of_getElem? (i := 0) rfl))
  refine Go.movp st60 (mkF m 29 #[.val (.ref a), .val (.long g), .second, .val (.long (lushr g lo)), .second] []) rfl ?_
  refine g_aloadN X60 hx (hb hby d6_29) (pc' := 30) rfl rfl rfl ?_
  refine g_dup X60 hx (hb hby d6_30) (pc' := 31) rfl rfl ?_
  obtain ⟨T69, X69, e69, st69⟩ := getF X60 hx hZ hown (host := "") (Or.inl (hw _ (List.mem_of_getElem? (i := 37) rfl))) Via.refl e60 f64 (g := (mkF m 31 #[.val (.ref a), .val (.long g), .second, .val (.long (lushr g lo)), .second] [(.ref a), (.ref a)])) rfl rfl (hb hby d6_31)
  refine Go.movp st69 (mkF m 34 #[.val (.ref a), .val (.long g), .second, .val (.long (lushr g lo)), .second] [(.long q2), (.ref a)]) rfl ?_
  refine g_lloadN X69 hx (hb hby d6_34) (pc' := 35) rfl rfl ?_
  refine g_iconst X69 hx (hb hby d6_35) (pc' := 36) rfl (z := (2 : Int32)) rfl ?_
  refine g_lushr X69 hx (hb hby d6_36) (pc' := 37) rfl ?_
  refine g_ladd X69 hx (hb hby d6_37) (pc' := 38) rfl ?_
  obtain ⟨T70, h70, X70, e70, W70, st70⟩ := putF X69 hx hZ hown (host := "") (Or.inl (hw _ (List.mem_of_getElem? (i := 37) rfl))) Via.refl e69 f64 f65 (Or.inl (hw _ (List.mem_of_getElem? (i := 38) rfl))) (hw _ (List.mem_of_getElem? (i := 2) rfl)) (ty := .long) (by decide) rfl rfl (g := (mkF m 38 #[.val (.ref a), .val (.long g), .second, .val (.long (lushr g lo)), .second] [(.long (q2 + (lushr (lushr g lo) (2 : Int32)))), (.ref a)])) rfl rfl (hb hby d6_38)
  have f71 : Fld Z h70 a "com/example/stratasig/stratasig/index/GapCoding$Tally" "twoAbove" "J" (.long (q2 + (lushr (lushr g lo) (2 : Int32)))) := Fld.same W70 f64
  have N70 := Fr.snoc X70 N60 G1
  have f72 := Fld.other W70 f62 (Or.inr (slot_ne (Or.inr (hw _ (List.mem_of_getElem? (i := 11) rfl))) (Or.inl (hw _ (List.mem_of_getElem? (i := 38) rfl))) (by decide) (t := .long) (t' := .long) (by decide) (by decide)))
  have f73 := Fld.other W70 f63 (Or.inr (slot_ne (Or.inr (hw _ (List.mem_of_getElem? (i := 27) rfl))) (Or.inl (hw _ (List.mem_of_getElem? (i := 38) rfl))) (by decide) (t := .int) (t' := .long) (by decide) (by decide)))
  have f74 := Exa.wr W70 f65
  have f75 := Fld.other W70 f66 (Or.inr (slot_ne (Or.inl (hw _ (List.mem_of_getElem? (i := 34) rfl))) (Or.inl (hw _ (List.mem_of_getElem? (i := 38) rfl))) (by decide) (t := .long) (t' := .long) (by decide) (by decide)))
  have f76 := Fld.other W70 f61 (Or.inr (slot_ne (Or.inl (hw _ (List.mem_of_getElem? (i := 36) rfl))) (Or.inl (hw _ (List.mem_of_getElem? (i := 38) rfl))) (by decide) (t := .long) (t' := .long) (by decide) (by decide)))
  have Z77 : n0 ≤ h70.size := Nat.le_trans Z67 (Keep.of_wr W70).1
  have K78 := K68.wr W70 (Or.inl (List.mem_of_getElem? (i := 0) rfl))
  refine Go.movp st70 (mkF m 41 #[.val (.ref a), .val (.long g), .second, .val (.long (lushr g lo)), .second] []) rfl ?_
  exact g_return X70 hx hret (hb hby d6_41) N70 hlk (fun v t => endF (by decide) (by decide) v) (by rw [e70]; exact ⟨rfl, K78, f74, f72, f73, f75, f76, f71⟩)
theorem d7_0 : decode prog_130_method_6_code 0 = .ok (.lload_n 1, 1) := by decide +kernel
theorem d7_1 : decode prog_130_method_6_code 1 = .ok (.aload_n 0, 1) := by decide +kernel
theorem d7_2 : decode prog_130_method_6_code 2 = .ok (.getfield 30, 3) := by decide +kernel
theorem d7_5 : decode prog_130_method_6_code 5 = .ok (.lushr, 1) := by decide +kernel
theorem d7_6 : decode prog_130_method_6_code 6 = .ok (.lstore 5, 2) := by decide +kernel
theorem d7_8 : decode prog_130_method_6_code 8 = .ok (.aload_n 0, 1) := by decide +kernel
theorem d7_9 : decode prog_130_method_6_code 9 = .ok (.dup, 1) := by decide +kernel
theorem d7_10 : decode prog_130_method_6_code 10 = .ok (.getfield 37, 3) := by decide +kernel
theorem d7_13 : decode prog_130_method_6_code 13 = .ok (.lload 5, 2) := by decide +kernel
theorem d7_15 : decode prog_130_method_6_code 15 = .ok (.lload_n 3, 1) := by decide +kernel
theorem d7_16 : decode prog_130_method_6_code 16 = .ok (.lmul, 1) := by decide +kernel
theorem d7_17 : decode prog_130_method_6_code 17 = .ok (.ladd, 1) := by decide +kernel
theorem d7_18 : decode prog_130_method_6_code 18 = .ok (.putfield 37, 3) := by decide +kernel
theorem d7_21 : decode prog_130_method_6_code 21 = .ok (.aload_n 0, 1) := by decide +kernel
theorem d7_22 : decode prog_130_method_6_code 22 = .ok (.dup, 1) := by decide +kernel
theorem d7_23 : decode prog_130_method_6_code 23 = .ok (.getfield 40, 3) := by decide +kernel
theorem d7_26 : decode prog_130_method_6_code 26 = .ok (.lload 5, 2) := by decide +kernel
theorem d7_28 : decode prog_130_method_6_code 28 = .ok (.iconst 1, 1) := by decide +kernel
theorem d7_29 : decode prog_130_method_6_code 29 = .ok (.lushr, 1) := by decide +kernel
theorem d7_30 : decode prog_130_method_6_code 30 = .ok (.lload_n 3, 1) := by decide +kernel
theorem d7_31 : decode prog_130_method_6_code 31 = .ok (.lmul, 1) := by decide +kernel
theorem d7_32 : decode prog_130_method_6_code 32 = .ok (.ladd, 1) := by decide +kernel
theorem d7_33 : decode prog_130_method_6_code 33 = .ok (.putfield 40, 3) := by decide +kernel
theorem d7_36 : decode prog_130_method_6_code 36 = .ok (.aload_n 0, 1) := by decide +kernel
theorem d7_37 : decode prog_130_method_6_code 37 = .ok (.dup, 1) := by decide +kernel
theorem d7_38 : decode prog_130_method_6_code 38 = .ok (.getfield 43, 3) := by decide +kernel
theorem d7_41 : decode prog_130_method_6_code 41 = .ok (.lload 5, 2) := by decide +kernel
theorem d7_43 : decode prog_130_method_6_code 43 = .ok (.iconst 2, 1) := by decide +kernel
theorem d7_44 : decode prog_130_method_6_code 44 = .ok (.lushr, 1) := by decide +kernel
theorem d7_45 : decode prog_130_method_6_code 45 = .ok (.lload_n 3, 1) := by decide +kernel
theorem d7_46 : decode prog_130_method_6_code 46 = .ok (.lmul, 1) := by decide +kernel
theorem d7_47 : decode prog_130_method_6_code 47 = .ok (.ladd, 1) := by decide +kernel
theorem d7_48 : decode prog_130_method_6_code 48 = .ok (.putfield 43, 3) := by decide +kernel
theorem d7_51 : decode prog_130_method_6_code 51 = .ok (.return_, 1) := by decide +kernel
theorem ef_7 (x0 : Addr) (x1 : Int64) (x2 : Int64) (m : MethodId) : entryFrame m #[(.ref x0), (.long x1), (.long x2)] 7 = mkF m 0 #[.val (.ref x0), .val (.long x1), .second, .val (.long x2), .second, .unset, .unset] [] := by first | (simp [entryFrame, mkF, argsToLocals, Value.category]; done) | rfl
def Q7 (Z : State) (a : Addr) (c0 : Int64) (lo : Int32) (q0 : Int64) (q1 : Int64) (q2 : Int64) (g : Int64) (t : Int64) (h0 : Heap) (n0 : Nat) : Option Value → Heap → Prop := fun v h => v = none ∧ Keep h0 h [a] ∧ Exa Z h a "com/example/stratasig/stratasig/index/GapCoding$Tally" ∧ Fld Z h a "com/example/stratasig/stratasig/index/GapCoding$Tally" "count" "J" (.long c0) ∧ Fld Z h a "com/example/stratasig/stratasig/index/GapCoding$Tally" "lowest" "I" (.int lo) ∧ Fld Z h a "com/example/stratasig/stratasig/index/GapCoding$Tally" "atLowest" "J" (.long (q0 + ((lushr g lo) * t))) ∧ Fld Z h a "com/example/stratasig/stratasig/index/GapCoding$Tally" "oneAbove" "J" (.long (q1 + ((lushr (lushr g lo) (1 : Int32)) * t))) ∧ Fld Z h a "com/example/stratasig/stratasig/index/GapCoding$Tally" "twoAbove" "J" (.long (q2 + ((lushr (lushr g lo) (2 : Int32)) * t)))
set_option maxRecDepth 65536 in
set_option maxHeartbeats 40000000 in
theorem rm7 (l : Launch) (Z : State) (a0 : Array Value) (hw : ∀ d ∈ tables_1, d.before a0 Z = true) (a : Addr) (c0 : Int64) (lo : Int32) (q0 : Int64) (q1 : Int64) (q2 : Int64) (g : Int64) (t : Int64) (h0 : Heap) (n0 : Nat) (Z0 : n0 ≤ h0.size) (F_count : Fld Z h0 a "com/example/stratasig/stratasig/index/GapCoding$Tally" "count" "J" (.long c0)) (F_lowest : Fld Z h0 a "com/example/stratasig/stratasig/index/GapCoding$Tally" "lowest" "I" (.int lo)) (F_atLowest : Fld Z h0 a "com/example/stratasig/stratasig/index/GapCoding$Tally" "atLowest" "J" (.long q0)) (F_oneAbove : Fld Z h0 a "com/example/stratasig/stratasig/index/GapCoding$Tally" "oneAbove" "J" (.long q1)) (F_twoAbove : Fld Z h0 a "com/example/stratasig/stratasig/index/GapCoding$Tally" "twoAbove" "J" (.long q2)) (E1 : Exa Z h0 a "com/example/stratasig/stratasig/index/GapCoding$Tally") (G1 : n0 ≤ a) : Ctr l Z (⟨"com/example/stratasig/stratasig/index/GapCoding$Tally", "add", "(JJ)V"⟩ : MethodName) prog_130_method_6_code 7 none ({ frames := 0, cells := 0, slots := 0, locals := 0 } : Room) #[(.ref a), (.long g), (.long t)] h0 n0 (Q7 Z a c0 lo q0 q1 q2 g t h0 n0) := by
  refine Ctr.of (plainFor_of_name pn_1) (ef_7 a g t) ?_
  intro p e s m below meth c T0 hx hby hml hown hnm hret hlk hZ X0 e0
  have N0 := Fr.nil n0
  refine g_lloadN X0 hx (hb hby d7_0) (pc' := 1) rfl rfl ?_
  refine g_aloadN X0 hx (hb hby d7_1) (pc' := 2) rfl rfl rfl ?_
  obtain ⟨T79, X79, e79, st79⟩ := getF X0 hx hZ hown (host := "") (Or.inl (hw _ (List.mem_of_getElem? (i := 26) rfl))) Via.refl e0 F_lowest (g := (mkF m 2 #[.val (.ref a), .val (.long g), .second, .val (.long t), .second, .unset, .unset] [(.ref a), (.long g)])) rfl rfl (hb hby d7_2)
  refine Go.movp st79 (mkF m 5 #[.val (.ref a), .val (.long g), .second, .val (.long t), .second, .unset, .unset] [(.int lo), (.long g)]) rfl ?_
  refine g_lushr X79 hx (hb hby d7_5) (pc' := 6) rfl ?_
  refine g_lstore X79 hx (hb hby d7_6) (pc' := 8) rfl (Ls' := #[.val (.ref a), .val (.long g), .second, .val (.long t), .second, .val (.long (lushr g lo)), .second]) rfl ?_
  refine g_aloadN X79 hx (hb hby d7_8) (pc' := 9) rfl rfl rfl ?_
  refine g_dup X79 hx (hb hby d7_9) (pc' := 10) rfl rfl ?_
  obtain ⟨T80, X80, e80, st80⟩ := getF X79 hx hZ hown (host := "") (Or.inl (hw _ (List.mem_of_getElem? (i := 33) rfl))) Via.refl e79 F_atLowest (g := (mkF m 10 #[.val (.ref a), .val (.long g), .second, .val (.long t), .second, .val (.long (lushr g lo)), .second] [(.ref a), (.ref a)])) rfl rfl (hb hby d7_10)
  refine Go.movp st80 (mkF m 13 #[.val (.ref a), .val (.long g), .second, .val (.long t), .second, .val (.long (lushr g lo)), .second] [(.long q0), (.ref a)]) rfl ?_
  refine g_lload X80 hx (hb hby d7_13) (pc' := 15) rfl rfl ?_
  refine g_lloadN X80 hx (hb hby d7_15) (pc' := 16) rfl rfl ?_
  refine g_lmul X80 hx (hb hby d7_16) (pc' := 17) rfl ?_
  refine g_ladd X80 hx (hb hby d7_17) (pc' := 18) rfl ?_
  obtain ⟨T81, h81, X81, e81, W81, st81⟩ := putF X80 hx hZ hown (host := "") (Or.inl (hw _ (List.mem_of_getElem? (i := 33) rfl))) Via.refl e80 F_atLowest E1 (Or.inl (hw _ (List.mem_of_getElem? (i := 34) rfl))) (hw _ (List.mem_of_getElem? (i := 2) rfl)) (ty := .long) (by decide) rfl rfl (g := (mkF m 18 #[.val (.ref a), .val (.long g), .second, .val (.long t), .second, .val (.long (lushr g lo)), .second] [(.long (q0 + ((lushr g lo) * t))), (.ref a)])) rfl rfl (hb hby d7_18)
  have f82 : Fld Z h81 a "com/example/stratasig/stratasig/index/GapCoding$Tally" "atLowest" "J" (.long (q0 + ((lushr g lo) * t))) := Fld.same W81 F_atLowest
  have N81 := Fr.snoc X81 N0 G1
  have f83 := Fld.other W81 F_count (Or.inr (slot_ne (Or.inr (hw _ (List.mem_of_getElem? (i := 11) rfl))) (Or.inl (hw _ (List.mem_of_getElem? (i := 34) rfl))) (by decide) (t := .long) (t' := .long) (by decide) (by decide)))
  have f84 := Fld.other W81 F_lowest (Or.inr (slot_ne (Or.inr (hw _ (List.mem_of_getElem? (i := 27) rfl))) (Or.inl (hw _ (List.mem_of_getElem? (i := 34) rfl))) (by decide) (t := .int) (t' := .long) (by decide) (by decide)))
  have f85 := Fld.other W81 F_oneAbove (Or.inr (slot_ne (Or.inl (hw _ (List.mem_of_getElem? (i := 36) rfl))) (Or.inl (hw _ (List.mem_of_getElem? (i := 34) rfl))) (by decide) (t := .long) (t' := .long) (by decide) (by decide)))
  have f86 := Fld.other W81 F_twoAbove (Or.inr (slot_ne (Or.inl (hw _ (List.mem_of_getElem? (i := 38) rfl))) (Or.inl (hw _ (List.mem_of_getElem? (i := 34) rfl))) (by decide) (t := .long) (t' := .long) (by decide) (by decide)))
  have f87 := Exa.wr W81 E1
  have Z88 : n0 ≤ h81.size := Nat.le_trans Z0 (Keep.of_wr W81).1
  have K89 := (Keep.refl h0 [a]).wr W81 (Or.inl (List.mem_of_getElem? (i := 0) rfl))
  refine Go.movp st81 (mkF m 21 #[.val (.ref a), .val (.long g), .second, .val (.long t), .second, .val (.long (lushr g lo)), .second] []) rfl ?_
  refine g_aloadN X81 hx (hb hby d7_21) (pc' := 22) rfl rfl rfl ?_
  refine g_dup X81 hx (hb hby d7_22) (pc' := 23) rfl rfl ?_
  obtain ⟨T90, X90, e90, st90⟩ := getF X81 hx hZ hown (host := "") (Or.inl (hw _ (List.mem_of_getElem? (i := 35) rfl))) Via.refl e81 f85 (g := (mkF m 23 #[.val (.ref a), .val (.long g), .second, .val (.long t), .second, .val (.long (lushr g lo)), .second] [(.ref a), (.ref a)])) rfl rfl (hb hby d7_23)
  refine Go.movp st90 (mkF m 26 #[.val (.ref a), .val (.long g), .second, .val (.long t), .second, .val (.long (lushr g lo)), .second] [(.long q1), (.ref a)]) rfl ?_
  refine g_lload X90 hx (hb hby d7_26) (pc' := 28) rfl rfl ?_
  refine g_iconst X90 hx (hb hby d7_28) (pc' := 29) rfl (z := (1 : Int32)) rfl ?_
  refine g_lushr X90 hx (hb hby d7_29) (pc' := 30) rfl ?_
  refine g_lloadN X90 hx (hb hby d7_30) (pc' := 31) rfl rfl ?_
  refine g_lmul X90 hx (hb hby d7_31) (pc' := 32) rfl ?_
  refine g_ladd X90 hx (hb hby d7_32) (pc' := 33) rfl ?_
  obtain ⟨T91, h91, X91, e91, W91, st91⟩ := putF X90 hx hZ hown (host := "") (Or.inl (hw _ (List.mem_of_getElem? (i := 35) rfl))) Via.refl e90 f85 f87 (Or.inl (hw _ (List.mem_of_getElem? (i := 36) rfl))) (hw _ (List.mem_of_getElem? (i := 2) rfl)) (ty := .long) (by decide) rfl rfl (g := (mkF m 33 #[.val (.ref a), .val (.long g), .second, .val (.long t), .second, .val (.long (lushr g lo)), .second] [(.long (q1 + ((lushr (lushr g lo) (1 : Int32)) * t))), (.ref a)])) rfl rfl (hb hby d7_33)
  have f92 : Fld Z h91 a "com/example/stratasig/stratasig/index/GapCoding$Tally" "oneAbove" "J" (.long (q1 + ((lushr (lushr g lo) (1 : Int32)) * t))) := Fld.same W91 f85
  have N91 := Fr.snoc X91 N81 G1
  have f93 := Fld.other W91 f83 (Or.inr (slot_ne (Or.inr (hw _ (List.mem_of_getElem? (i := 11) rfl))) (Or.inl (hw _ (List.mem_of_getElem? (i := 36) rfl))) (by decide) (t := .long) (t' := .long) (by decide) (by decide)))
  have f94 := Fld.other W91 f84 (Or.inr (slot_ne (Or.inr (hw _ (List.mem_of_getElem? (i := 27) rfl))) (Or.inl (hw _ (List.mem_of_getElem? (i := 36) rfl))) (by decide) (t := .int) (t' := .long) (by decide) (by decide)))
  have f95 := Fld.other W91 f86 (Or.inr (slot_ne (Or.inl (hw _ (List.mem_of_getElem? (i := 38) rfl))) (Or.inl (hw _ (List.mem_of_getElem? (i := 36) rfl))) (by decide) (t := .long) (t' := .long) (by decide) (by decide)))
  have f96 := Exa.wr W91 f87
  have f97 := Fld.other W91 f82 (Or.inr (slot_ne (Or.inl (hw _ (List.mem_of_getElem? (i := 34) rfl))) (Or.inl (hw _ (List.mem_of_getElem? (i := 36) rfl))) (by decide) (t := .long) (t' := .long) (by decide) (by decide)))
  have Z98 : n0 ≤ h91.size := Nat.le_trans Z88 (Keep.of_wr W91).1
  have K99 := K89.wr W91 (Or.inl (List.mem_of_getElem? (i := 0) rfl))
  refine Go.movp st91 (mkF m 36 #[.val (.ref a), .val (.long g), .second, .val (.long t), .second, .val (.long (lushr g lo)), .second] []) rfl ?_
  refine g_aloadN X91 hx (hb hby d7_36) (pc' := 37) rfl rfl rfl ?_
  refine g_dup X91 hx (hb hby d7_37) (pc' := 38) rfl rfl ?_
  obtain ⟨T100, X100, e100, st100⟩ := getF X91 hx hZ hown (host := "") (Or.inl (hw _ (List.mem_of_getElem? (i := 37) rfl))) Via.refl e91 f95 (g := (mkF m 38 #[.val (.ref a), .val (.long g), .second, .val (.long t), .second, .val (.long (lushr g lo)), .second] [(.ref a), (.ref a)])) rfl rfl (hb hby d7_38)
  refine Go.movp st100 (mkF m 41 #[.val (.ref a), .val (.long g), .second, .val (.long t), .second, .val (.long (lushr g lo)), .second] [(.long q2), (.ref a)]) rfl ?_
  refine g_lload X100 hx (hb hby d7_41) (pc' := 43) rfl rfl ?_
  refine g_iconst X100 hx (hb hby d7_43) (pc' := 44) rfl (z := (2 : Int32)) rfl ?_
  refine g_lushr X100 hx (hb hby d7_44) (pc' := 45) rfl ?_
  refine g_lloadN X100 hx (hb hby d7_45) (pc' := 46) rfl rfl ?_
  refine g_lmul X100 hx (hb hby d7_46) (pc' := 47) rfl ?_
  refine g_ladd X100 hx (hb hby d7_47) (pc' := 48) rfl ?_
  obtain ⟨T101, h101, X101, e101, W101, st101⟩ := putF X100 hx hZ hown (host := "") (Or.inl (hw _ (List.mem_of_getElem? (i := 37) rfl))) Via.refl e100 f95 f96 (Or.inl (hw _ (List.mem_of_getElem? (i := 38) rfl))) (hw _ (List.mem_of_getElem? (i := 2) rfl)) (ty := .long) (by decide) rfl rfl (g := (mkF m 48 #[.val (.ref a), .val (.long g), .second, .val (.long t), .second, .val (.long (lushr g lo)), .second] [(.long (q2 + ((lushr (lushr g lo) (2 : Int32)) * t))), (.ref a)])) rfl rfl (hb hby d7_48)
  have f102 : Fld Z h101 a "com/example/stratasig/stratasig/index/GapCoding$Tally" "twoAbove" "J" (.long (q2 + ((lushr (lushr g lo) (2 : Int32)) * t))) := Fld.same W101 f95
  have N101 := Fr.snoc X101 N91 G1
  have f103 := Fld.other W101 f93 (Or.inr (slot_ne (Or.inr (hw _ (List.mem_of_getElem? (i := 11) rfl))) (Or.inl (hw _ (List.mem_of_getElem? (i := 38) rfl))) (by decide) (t := .long) (t' := .long) (by decide) (by decide)))
  have f104 := Fld.other W101 f94 (Or.inr (slot_ne (Or.inr (hw _ (List.mem_of_getElem? (i := 27) rfl))) (Or.inl (hw _ (List.mem_of_getElem? (i := 38) rfl))) (by decide) (t := .int) (t' := .long) (by decide) (by decide)))
  have f105 := Exa.wr W101 f96
  have f106 := Fld.other W101 f97 (Or.inr (slot_ne (Or.inl (hw _ (List.mem_of_getElem? (i := 34) rfl))) (Or.inl (hw _ (List.mem_of_getElem? (i := 38) rfl))) (by decide) (t := .long) (t' := .long) (by decide) (by decide)))
  have f107 := Fld.other W101 f92 (Or.inr (slot_ne (Or.inl (hw _ (List.mem_of_getElem? (i := 36) rfl))) (Or.inl (hw _ (List.mem_of_getElem? (i := 38) rfl))) (by decide) (t := .long) (t' := .long) (by decide) (by decide)))
  have Z108 : n0 ≤ h101.size := Nat.le_trans Z98 (Keep.of_wr W101).1
  have K109 := K99.wr W101 (Or.inl (List.mem_of_getElem? (i := 0) rfl))
  refine Go.movp st101 (mkF m 51 #[.val (.ref a), .val (.long g), .second, .val (.long t), .second, .val (.long (lushr g lo)), .second] []) rfl ?_
  exact g_return X101 hx hret (hb hby d7_51) N101 hlk (fun v t => endF (by decide) (by decide) v) (by rw [e101]; exact ⟨rfl, K109, f105, f103, f104, f106, f107, f102⟩)
theorem d10_0 : decode prog_130_method_13_code 0 = .ok (.iconst 3, 1) := by decide +kernel
theorem d10_1 : decode prog_130_method_13_code 1 = .ok (.newarray .long, 2) := by decide +kernel
theorem d10_3 : decode prog_130_method_13_code 3 = .ok (.dup, 1) := by decide +kernel
theorem d10_4 : decode prog_130_method_13_code 4 = .ok (.iconst 0, 1) := by decide +kernel
theorem d10_5 : decode prog_130_method_13_code 5 = .ok (.aload_n 0, 1) := by decide +kernel
theorem d10_6 : decode prog_130_method_13_code 6 = .ok (.getfield 37, 3) := by decide +kernel
theorem d10_9 : decode prog_130_method_13_code 9 = .ok (.lastore, 1) := by decide +kernel
theorem d10_10 : decode prog_130_method_13_code 10 = .ok (.dup, 1) := by decide +kernel
theorem d10_11 : decode prog_130_method_13_code 11 = .ok (.iconst 1, 1) := by decide +kernel
theorem d10_12 : decode prog_130_method_13_code 12 = .ok (.aload_n 0, 1) := by decide +kernel
theorem d10_13 : decode prog_130_method_13_code 13 = .ok (.getfield 40, 3) := by decide +kernel
theorem d10_16 : decode prog_130_method_13_code 16 = .ok (.lastore, 1) := by decide +kernel
theorem d10_17 : decode prog_130_method_13_code 17 = .ok (.dup, 1) := by decide +kernel
theorem d10_18 : decode prog_130_method_13_code 18 = .ok (.iconst 2, 1) := by decide +kernel
theorem d10_19 : decode prog_130_method_13_code 19 = .ok (.aload_n 0, 1) := by decide +kernel
theorem d10_20 : decode prog_130_method_13_code 20 = .ok (.getfield 43, 3) := by decide +kernel
theorem d10_23 : decode prog_130_method_13_code 23 = .ok (.lastore, 1) := by decide +kernel
theorem d10_24 : decode prog_130_method_13_code 24 = .ok (.areturn, 1) := by decide +kernel
theorem ef_10 (x0 : Addr) (m : MethodId) : entryFrame m #[(.ref x0)] 1 = mkF m 0 #[.val (.ref x0)] [] := by first | (simp [entryFrame, mkF, argsToLocals, Value.category]; done) | rfl
def Q10 (Z : State) (a : Addr) (q0 : Int64) (q1 : Int64) (q2 : Int64) (h0 : Heap) (n0 : Nat) : Option Value → Heap → Prop := fun v h => ∃ r, v = some (.ref r) ∧ n0 ≤ r ∧ Keep h0 h [] ∧ Va Z h r .long [(.long q0), (.long q1), (.long q2)]
set_option maxRecDepth 65536 in
set_option maxHeartbeats 40000000 in
theorem rm10 (l : Launch) (Z : State) (a0 : Array Value) (hw : ∀ d ∈ tables_1, d.before a0 Z = true) (a : Addr) (q0 : Int64) (q1 : Int64) (q2 : Int64) (h0 : Heap) (n0 : Nat) (Z0 : n0 ≤ h0.size) (F_atLowest : Fld Z h0 a "com/example/stratasig/stratasig/index/GapCoding$Tally" "atLowest" "J" (.long q0)) (F_oneAbove : Fld Z h0 a "com/example/stratasig/stratasig/index/GapCoding$Tally" "oneAbove" "J" (.long q1)) (F_twoAbove : Fld Z h0 a "com/example/stratasig/stratasig/index/GapCoding$Tally" "twoAbove" "J" (.long q2)) : Ctr l Z (⟨"com/example/stratasig/stratasig/index/GapCoding$Tally", "quotients", "()[J"⟩ : MethodName) prog_130_method_13_code 1 (some (.array .long)) ({ frames := 0, cells := 1, slots := 3, locals := 0 } : Room) #[(.ref a)] h0 n0 (Q10 Z a q0 q1 q2 h0 n0) := by
  refine Ctr.of (plainFor_of_name pn_1) (ef_10 a) ?_
  intro p e s m below meth c T0 hx hby hml hown hnm hret hlk hZ X0 e0
  have N0 := Fr.nil n0
  refine g_iconst X0 hx (hb hby d10_0) (pc' := 1) rfl (z := (3 : Int32)) rfl ?_
  obtain ⟨T110, h110, b110, X110, e110, g110, E110, V110, A110, st110⟩ := h_newarray X0 hx hZ e0 (n := (3 : Int32)) (ty := .long) rfl (hw _ (List.mem_of_getElem? (i := 57) rfl)) (hb hby d10_1) (k := 3) (cap := 3) (by decide) rfl (by decide) (by decide) (by decide) (by decide) (ad := "[J") (by decide) #[.val (.ref a)] []
  have ne111 : a ≠ b110 := Nat.ne_of_lt (g110 ▸ F_atLowest.lt)
  have ge112 : n0 ≤ b110 := g110 ▸ Z0
  have sz113 : h0.size ≤ b110 := g110 ▸ (Keep.refl h0 []).1
  have f114 := Fld.ext E110 F_atLowest
  have f115 := Fld.ext E110 F_oneAbove
  have f116 := Fld.ext E110 F_twoAbove
  have Z117 : n0 ≤ h110.size := Nat.le_trans Z0 E110.1
  have K118 := (Keep.refl h0 []).ext E110
  have f119 : Va Z h110 b110 .long [(.long (0 : Int64)), (.long (0 : Int64)), (.long (0 : Int64))] := V110
  refine Go.movp st110 (mkF m 3 #[.val (.ref a)] [(.ref b110)]) rfl ?_
  refine g_dup X110 hx (hb hby d10_3) (pc' := 4) rfl rfl ?_
  refine g_iconst X110 hx (hb hby d10_4) (pc' := 5) rfl (z := (0 : Int32)) rfl ?_
  refine g_aloadN X110 hx (hb hby d10_5) (pc' := 6) rfl rfl rfl ?_
  obtain ⟨T120, X120, e120, st120⟩ := getF X110 hx hZ hown (host := "") (Or.inl (hw _ (List.mem_of_getElem? (i := 33) rfl))) Via.refl e110 f114 (g := (mkF m 6 #[.val (.ref a)] [(.ref a), (.int (0 : Int32)), (.ref b110), (.ref b110)])) rfl rfl (hb hby d10_6)
  refine Go.movp st120 (mkF m 9 #[.val (.ref a)] [(.long q0), (.int (0 : Int32)), (.ref b110), (.ref b110)]) rfl ?_
  obtain ⟨T121, h121, L121, X121, e121, N121, W121, V121, st121⟩ := h_lastore X120 hx hZ e120 N0 f119 ge112 (j := (0 : Int32)) (i := 0) (x := q0) (hb hby d10_9) (by decide) rfl rfl #[.val (.ref a)] [(.ref b110)]
  have f122 := Fld.other W121 f114 (Or.inl ne111)
  have f123 := Fld.other W121 f115 (Or.inl ne111)
  have f124 := Fld.other W121 f116 (Or.inl ne111)
  have f125 := Exa.wr W121 A110
  have Z126 : n0 ≤ h121.size := Nat.le_trans Z117 (Keep.of_wr W121).1
  have K127 := K118.wr W121 (Or.inr sz113)
  have f128 : Va Z h121 b110 .long [(.long q0), (.long (0 : Int64)), (.long (0 : Int64))] := V121
  refine Go.movp st121 (mkF m 10 #[.val (.ref a)] [(.ref b110)]) rfl ?_
  refine g_dup X121 hx (hb hby d10_10) (pc' := 11) rfl rfl ?_
  refine g_iconst X121 hx (hb hby d10_11) (pc' := 12) rfl (z := (1 : Int32)) rfl ?_
  refine g_aloadN X121 hx (hb hby d10_12) (pc' := 13) rfl rfl rfl ?_
  obtain ⟨T129, X129, e129, st129⟩ := getF X121 hx hZ hown (host := "") (Or.inl (hw _ (List.mem_of_getElem? (i := 35) rfl))) Via.refl e121 f123 (g := (mkF m 13 #[.val (.ref a)] [(.ref a), (.int (1 : Int32)), (.ref b110), (.ref b110)])) rfl rfl (hb hby d10_13)
  refine Go.movp st129 (mkF m 16 #[.val (.ref a)] [(.long q1), (.int (1 : Int32)), (.ref b110), (.ref b110)]) rfl ?_
  obtain ⟨T130, h130, L130, X130, e130, N130, W130, V130, st130⟩ := h_lastore X129 hx hZ e129 N121 f128 ge112 (j := (1 : Int32)) (i := 1) (x := q1) (hb hby d10_16) (by decide) rfl rfl #[.val (.ref a)] [(.ref b110)]
  have f131 := Fld.other W130 f122 (Or.inl ne111)
  have f132 := Fld.other W130 f123 (Or.inl ne111)
  have f133 := Fld.other W130 f124 (Or.inl ne111)
  have f134 := Exa.wr W130 f125
  have Z135 : n0 ≤ h130.size := Nat.le_trans Z126 (Keep.of_wr W130).1
  have K136 := K127.wr W130 (Or.inr sz113)
  have f137 : Va Z h130 b110 .long [(.long q0), (.long q1), (.long (0 : Int64))] := V130
  refine Go.movp st130 (mkF m 17 #[.val (.ref a)] [(.ref b110)]) rfl ?_
  refine g_dup X130 hx (hb hby d10_17) (pc' := 18) rfl rfl ?_
  refine g_iconst X130 hx (hb hby d10_18) (pc' := 19) rfl (z := (2 : Int32)) rfl ?_
  refine g_aloadN X130 hx (hb hby d10_19) (pc' := 20) rfl rfl rfl ?_
  obtain ⟨T138, X138, e138, st138⟩ := getF X130 hx hZ hown (host := "") (Or.inl (hw _ (List.mem_of_getElem? (i := 37) rfl))) Via.refl e130 f133 (g := (mkF m 20 #[.val (.ref a)] [(.ref a), (.int (2 : Int32)), (.ref b110), (.ref b110)])) rfl rfl (hb hby d10_20)
  refine Go.movp st138 (mkF m 23 #[.val (.ref a)] [(.long q2), (.int (2 : Int32)), (.ref b110), (.ref b110)]) rfl ?_
  obtain ⟨T139, h139, L139, X139, e139, N139, W139, V139, st139⟩ := h_lastore X138 hx hZ e138 N130 f137 ge112 (j := (2 : Int32)) (i := 2) (x := q2) (hb hby d10_23) (by decide) rfl rfl #[.val (.ref a)] [(.ref b110)]
  have f140 := Fld.other W139 f131 (Or.inl ne111)
  have f141 := Fld.other W139 f132 (Or.inl ne111)
  have f142 := Fld.other W139 f133 (Or.inl ne111)
  have f143 := Exa.wr W139 f134
  have Z144 : n0 ≤ h139.size := Nat.le_trans Z135 (Keep.of_wr W139).1
  have K145 := K136.wr W139 (Or.inr sz113)
  have f146 : Va Z h139 b110 .long [(.long q0), (.long q1), (.long q2)] := V139
  refine Go.movp st139 (mkF m 24 #[.val (.ref a)] [(.ref b110)]) rfl ?_
  exact g_areturn X139 hx rfl rfl hret (hb hby d10_24) N139 hlk (fun v t => endF (by decide) (by decide) v) (by rw [e139]; exact ⟨_, rfl, ge112, K145, f146⟩)
theorem pd____J : parseMethodDescriptor "()[J" = some ⟨[], some (.array .long)⟩ := by decide +kernel
theorem d9_0 : decode prog_130_method_12_code 0 = .ok (.aload_n 0, 1) := by decide +kernel
theorem d9_1 : decode prog_130_method_12_code 1 = .ok (.invokevirtual 54, 3) := by decide +kernel
theorem d9_4 : decode prog_130_method_12_code 4 = .ok (.astore_n 1, 1) := by decide +kernel
theorem d9_5 : decode prog_130_method_12_code 5 = .ok (.iconst 0, 1) := by decide +kernel
theorem d9_6 : decode prog_130_method_12_code 6 = .ok (.istore_n 2, 1) := by decide +kernel
theorem d9_7 : decode prog_130_method_12_code 7 = .ok (.iconst 1, 1) := by decide +kernel
theorem d9_8 : decode prog_130_method_12_code 8 = .ok (.istore_n 3, 1) := by decide +kernel
theorem d9_9 : decode prog_130_method_12_code 9 = .ok (.iload_n 3, 1) := by decide +kernel
theorem d9_10 : decode prog_130_method_12_code 10 = .ok (.aload_n 1, 1) := by decide +kernel
theorem d9_11 : decode prog_130_method_12_code 11 = .ok (.arraylength, 1) := by decide +kernel
theorem d9_12 : decode prog_130_method_12_code 12 = .ok (.if_icmp .ge 37, 3) := by decide +kernel
theorem d9_15 : decode prog_130_method_12_code 15 = .ok (.aload_n 0, 1) := by decide +kernel
theorem d9_16 : decode prog_130_method_12_code 16 = .ok (.getfield 9, 3) := by decide +kernel
theorem d9_19 : decode prog_130_method_12_code 19 = .ok (.iload_n 3, 1) := by decide +kernel
theorem d9_20 : decode prog_130_method_12_code 20 = .ok (.i2l, 1) := by decide +kernel
theorem d9_21 : decode prog_130_method_12_code 21 = .ok (.lmul, 1) := by decide +kernel
theorem d9_22 : decode prog_130_method_12_code 22 = .ok (.aload_n 1, 1) := by decide +kernel
theorem d9_23 : decode prog_130_method_12_code 23 = .ok (.iload_n 3, 1) := by decide +kernel
theorem d9_24 : decode prog_130_method_12_code 24 = .ok (.laload, 1) := by decide +kernel
theorem d9_25 : decode prog_130_method_12_code 25 = .ok (.ladd, 1) := by decide +kernel
theorem d9_26 : decode prog_130_method_12_code 26 = .ok (.aload_n 0, 1) := by decide +kernel
theorem d9_27 : decode prog_130_method_12_code 27 = .ok (.getfield 9, 3) := by decide +kernel
theorem d9_30 : decode prog_130_method_12_code 30 = .ok (.iload_n 2, 1) := by decide +kernel
theorem d9_31 : decode prog_130_method_12_code 31 = .ok (.i2l, 1) := by decide +kernel
theorem d9_32 : decode prog_130_method_12_code 32 = .ok (.lmul, 1) := by decide +kernel
theorem d9_33 : decode prog_130_method_12_code 33 = .ok (.aload_n 1, 1) := by decide +kernel
theorem d9_34 : decode prog_130_method_12_code 34 = .ok (.iload_n 2, 1) := by decide +kernel
theorem d9_35 : decode prog_130_method_12_code 35 = .ok (.laload, 1) := by decide +kernel
theorem d9_36 : decode prog_130_method_12_code 36 = .ok (.ladd, 1) := by decide +kernel
theorem d9_37 : decode prog_130_method_12_code 37 = .ok (.lcmp, 1) := by decide +kernel
theorem d9_38 : decode prog_130_method_12_code 38 = .ok (.ifCond .ge 5, 3) := by decide +kernel
theorem d9_41 : decode prog_130_method_12_code 41 = .ok (.iload_n 3, 1) := by decide +kernel
theorem d9_42 : decode prog_130_method_12_code 42 = .ok (.istore_n 2, 1) := by decide +kernel
theorem d9_43 : decode prog_130_method_12_code 43 = .ok (.iinc 3 1, 3) := by decide +kernel
theorem d9_46 : decode prog_130_method_12_code 46 = .ok (.goto (-37), 3) := by decide +kernel
theorem d9_49 : decode prog_130_method_12_code 49 = .ok (.iload_n 2, 1) := by decide +kernel
theorem d9_50 : decode prog_130_method_12_code 50 = .ok (.ireturn, 1) := by decide +kernel
theorem ef_9 (x0 : Addr) (m : MethodId) : entryFrame m #[(.ref x0)] 4 = mkF m 0 #[.val (.ref x0), .unset, .unset, .unset] [] := by first | (simp [entryFrame, mkF, argsToLocals, Value.category]; done) | rfl
def Q9 (Z : State) (a : Addr) (c0 : Int64) (q0 : Int64) (q1 : Int64) (q2 : Int64) (h0 : Heap) (n0 : Nat) : Option Value → Heap → Prop := fun v h => v = some (.int (bestV c0 q0 q1 q2)) ∧ Keep h0 h []
set_option maxRecDepth 65536 in
set_option maxHeartbeats 40000000 in
theorem rm9 (l : Launch) (Z : State) (a0 : Array Value) (hw : ∀ d ∈ tables_1, d.before a0 Z = true) (a : Addr) (c0 : Int64) (q0 : Int64) (q1 : Int64) (q2 : Int64) (h0 : Heap) (n0 : Nat) (Z0 : n0 ≤ h0.size) (F_count : Fld Z h0 a "com/example/stratasig/stratasig/index/GapCoding$Tally" "count" "J" (.long c0)) (F_atLowest : Fld Z h0 a "com/example/stratasig/stratasig/index/GapCoding$Tally" "atLowest" "J" (.long q0)) (F_oneAbove : Fld Z h0 a "com/example/stratasig/stratasig/index/GapCoding$Tally" "oneAbove" "J" (.long q1)) (F_twoAbove : Fld Z h0 a "com/example/stratasig/stratasig/index/GapCoding$Tally" "twoAbove" "J" (.long q2)) (E1 : Exa Z h0 a "com/example/stratasig/stratasig/index/GapCoding$Tally") : Ctr l Z (⟨"com/example/stratasig/stratasig/index/GapCoding$Tally", "best", "()I"⟩ : MethodName) prog_130_method_12_code 4 (some .int) ({ frames := 1, cells := 1, slots := 3, locals := 12 } : Room) #[(.ref a)] h0 n0 (Q9 Z a c0 q0 q1 q2 h0 n0) := by
  refine Ctr.of (plainFor_of_name pn_1) (ef_9 a) ?_
  intro p e s m below meth c T0 hx hby hml hown hnm hret hlk hZ X0 e0
  have N0 := Fr.nil n0
  refine g_aloadN X0 hx (hb hby d9_0) (pc' := 1) rfl rfl rfl ?_
  obtain ⟨v147, T147, h147, L147, X147, e147, N147, q147, st147⟩ := h_private (a := a) X0 hx (W := 0) (Ls := #[.val (.ref a), .unset, .unset, .unset]) (argsL := []) (rest := []) hZ e0 N0 hml hown (rm10 l Z a0 hw a q0 q1 q2 h0 n0 Z0 F_atLowest F_oneAbove F_twoAbove) E1 (hw _ (List.mem_of_getElem? (i := 53) rfl)) (hw _ (List.mem_of_getElem? (i := 54) rfl)) (hw _ (List.mem_of_getElem? (i := 55) rfl)) (hw _ (List.mem_of_getElem? (i := 2) rfl)) (hw _ (List.mem_of_getElem? (i := 3) rfl)) (hw _ (List.mem_of_getElem? (i := 56) rfl)) (by decide) pd____J rfl rfl (hb hby d9_1) rfl (by decide) (by decide) (by decide) (by decide)
  obtain ⟨r147, rfl, ge147, K147, V147⟩ := q147
  have f148 := F_count.keep K147 nin0
  have f149 := F_atLowest.keep K147 nin0
  have f150 := F_oneAbove.keep K147 nin0
  have f151 := F_twoAbove.keep K147 nin0
  have f152 := E1.keep K147
  have Z153 : n0 ≤ h147.size := Nat.le_trans Z0 K147.1
  have K154 := (Keep.refl h0 []).trans K147 all0
  refine Go.movp st147 (mkF m 4 #[.val (.ref a), .unset, .unset, .unset] [(.ref r147)]) rfl ?_
  refine g_astoreN X147 hx (hb hby d9_4) (pc' := 5) rfl rfl (Ls' := #[.val (.ref a), .val (.ref r147), .unset, .unset]) rfl ?_
  refine g_iconst X147 hx (hb hby d9_5) (pc' := 6) rfl (z := (0 : Int32)) rfl ?_
  refine g_istoreN X147 hx (hb hby d9_6) (pc' := 7) rfl (Ls' := #[.val (.ref a), .val (.ref r147), .val (.int (0 : Int32)), .unset]) rfl ?_
  refine g_iconst X147 hx (hb hby d9_7) (pc' := 8) rfl (z := (1 : Int32)) rfl ?_
  refine g_istoreN X147 hx (hb hby d9_8) (pc' := 9) rfl (Ls' := #[.val (.ref a), .val (.ref r147), .val (.int (0 : Int32)), .val (.int (1 : Int32))]) rfl ?_
  refine g_iloadN X147 hx (hb hby d9_9) (pc' := 10) rfl rfl ?_
  refine g_aloadN X147 hx (hb hby d9_10) (pc' := 11) rfl rfl rfl ?_
  refine g_arraylength X147 hx hZ e147 V147 (z := (3 : Int32)) (hb hby d9_11) (pc' := 12) rfl rfl ?_
  refine g_icmp_ge X147 hx (hb hby d9_12) (pc1 := 15) rfl (by decide) (pc2 := 49) (by decide) (fun hc12 => absurd (by decide) hc12) (fun hc12 => ?_)
  refine g_aloadN X147 hx (hb hby d9_15) (pc' := 16) rfl rfl rfl ?_
  obtain ⟨T155, X155, e155, st155⟩ := getF X147 hx hZ hown (host := "") (Or.inl (hw _ (List.mem_of_getElem? (i := 10) rfl))) Via.refl e147 f148 (g := (mkF m 16 #[.val (.ref a), .val (.ref r147), .val (.int (0 : Int32)), .val (.int (1 : Int32))] [(.ref a)])) rfl rfl (hb hby d9_16)
  refine Go.movp st155 (mkF m 19 #[.val (.ref a), .val (.ref r147), .val (.int (0 : Int32)), .val (.int (1 : Int32))] [(.long c0)]) rfl ?_
  refine g_iloadN X155 hx (hb hby d9_19) (pc' := 20) rfl rfl ?_
  refine g_i2l X155 hx (hb hby d9_20) (pc' := 21) rfl ?_
  refine g_lmul X155 hx (hb hby d9_21) (pc' := 22) rfl ?_
  refine g_aloadN X155 hx (hb hby d9_22) (pc' := 23) rfl rfl rfl ?_
  refine g_iloadN X155 hx (hb hby d9_23) (pc' := 24) rfl rfl ?_
  refine g_laload X155 hx hZ e155 V147 (i := 1) (v := (.long q1)) (hb hby d9_24) (pc' := 25) rfl (by decide) rfl rfl ?_
  refine g_ladd X155 hx (hb hby d9_25) (pc' := 26) rfl ?_
  refine g_aloadN X155 hx (hb hby d9_26) (pc' := 27) rfl rfl rfl ?_
  obtain ⟨T156, X156, e156, st156⟩ := getF X155 hx hZ hown (host := "") (Or.inl (hw _ (List.mem_of_getElem? (i := 10) rfl))) Via.refl e155 f148 (g := (mkF m 27 #[.val (.ref a), .val (.ref r147), .val (.int (0 : Int32)), .val (.int (1 : Int32))] [(.ref a), (.long ((c0 * (1 : Int32).toInt64) + q1))])) rfl rfl (hb hby d9_27)
  refine Go.movp st156 (mkF m 30 #[.val (.ref a), .val (.ref r147), .val (.int (0 : Int32)), .val (.int (1 : Int32))] [(.long c0), (.long ((c0 * (1 : Int32).toInt64) + q1))]) rfl ?_
  refine g_iloadN X156 hx (hb hby d9_30) (pc' := 31) rfl rfl ?_
  refine g_i2l X156 hx (hb hby d9_31) (pc' := 32) rfl ?_
  refine g_lmul X156 hx (hb hby d9_32) (pc' := 33) rfl ?_
  refine g_aloadN X156 hx (hb hby d9_33) (pc' := 34) rfl rfl rfl ?_
  refine g_iloadN X156 hx (hb hby d9_34) (pc' := 35) rfl rfl ?_
  refine g_laload X156 hx hZ e156 V147 (i := 0) (v := (.long q0)) (hb hby d9_35) (pc' := 36) rfl (by decide) rfl rfl ?_
  refine g_ladd X156 hx (hb hby d9_36) (pc' := 37) rfl ?_
  refine g_lcmp_ge X156 hx (hb hby d9_37) (pc' := 38) rfl (hb hby d9_38) (pc1 := 41) rfl (by decide) (pc2 := 43) (by decide) (fun hc37 => ?_) (fun hc37 => ?_)
  · skip
    refine g_iinc X156 hx (hb hby d9_43) (pc' := 46) rfl rfl (z := (1 : Int32)) rfl (Ls' := #[.val (.ref a), .val (.ref r147), .val (.int (0 : Int32)), .val (.int (2 : Int32))]) rfl ?_
    refine g_goto X156 hx (hb hby d9_46) (by decide) (pc' := 9) (by decide) ?_
    refine g_iloadN X156 hx (hb hby d9_9) (pc' := 10) rfl rfl ?_
    refine g_aloadN X156 hx (hb hby d9_10) (pc' := 11) rfl rfl rfl ?_
    refine g_arraylength X156 hx hZ e156 V147 (z := (3 : Int32)) (hb hby d9_11) (pc' := 12) rfl rfl ?_
    refine g_icmp_ge X156 hx (hb hby d9_12) (pc1 := 15) rfl (by decide) (pc2 := 49) (by decide) (fun hc12_1 => absurd (by decide) hc12_1) (fun hc12_1 => ?_)
    refine g_aloadN X156 hx (hb hby d9_15) (pc' := 16) rfl rfl rfl ?_
    obtain ⟨T157, X157, e157, st157⟩ := getF X156 hx hZ hown (host := "") (Or.inl (hw _ (List.mem_of_getElem? (i := 10) rfl))) Via.refl e156 f148 (g := (mkF m 16 #[.val (.ref a), .val (.ref r147), .val (.int (0 : Int32)), .val (.int (2 : Int32))] [(.ref a)])) rfl rfl (hb hby d9_16)
    refine Go.movp st157 (mkF m 19 #[.val (.ref a), .val (.ref r147), .val (.int (0 : Int32)), .val (.int (2 : Int32))] [(.long c0)]) rfl ?_
    refine g_iloadN X157 hx (hb hby d9_19) (pc' := 20) rfl rfl ?_
    refine g_i2l X157 hx (hb hby d9_20) (pc' := 21) rfl ?_
    refine g_lmul X157 hx (hb hby d9_21) (pc' := 22) rfl ?_
    refine g_aloadN X157 hx (hb hby d9_22) (pc' := 23) rfl rfl rfl ?_
    refine g_iloadN X157 hx (hb hby d9_23) (pc' := 24) rfl rfl ?_
    refine g_laload X157 hx hZ e157 V147 (i := 2) (v := (.long q2)) (hb hby d9_24) (pc' := 25) rfl (by decide) rfl rfl ?_
    refine g_ladd X157 hx (hb hby d9_25) (pc' := 26) rfl ?_
    refine g_aloadN X157 hx (hb hby d9_26) (pc' := 27) rfl rfl rfl ?_
    obtain ⟨T158, X158, e158, st158⟩ := getF X157 hx hZ hown (host := "") (Or.inl (hw _ (List.mem_of_getElem? (i := 10) rfl))) Via.refl e157 f148 (g := (mkF m 27 #[.val (.ref a), .val (.ref r147), .val (.int (0 : Int32)), .val (.int (2 : Int32))] [(.ref a), (.long ((c0 * (2 : Int32).toInt64) + q2))])) rfl rfl (hb hby d9_27)
    refine Go.movp st158 (mkF m 30 #[.val (.ref a), .val (.ref r147), .val (.int (0 : Int32)), .val (.int (2 : Int32))] [(.long c0), (.long ((c0 * (2 : Int32).toInt64) + q2))]) rfl ?_
    refine g_iloadN X158 hx (hb hby d9_30) (pc' := 31) rfl rfl ?_
    refine g_i2l X158 hx (hb hby d9_31) (pc' := 32) rfl ?_
    refine g_lmul X158 hx (hb hby d9_32) (pc' := 33) rfl ?_
    refine g_aloadN X158 hx (hb hby d9_33) (pc' := 34) rfl rfl rfl ?_
    refine g_iloadN X158 hx (hb hby d9_34) (pc' := 35) rfl rfl ?_
    refine g_laload X158 hx hZ e158 V147 (i := 0) (v := (.long q0)) (hb hby d9_35) (pc' := 36) rfl (by decide) rfl rfl ?_
    refine g_ladd X158 hx (hb hby d9_36) (pc' := 37) rfl ?_
    refine g_lcmp_ge X158 hx (hb hby d9_37) (pc' := 38) rfl (hb hby d9_38) (pc1 := 41) rfl (by decide) (pc2 := 43) (by decide) (fun hc37_1 => ?_) (fun hc37_1 => ?_)
    · skip
      refine g_iinc X158 hx (hb hby d9_43) (pc' := 46) rfl rfl (z := (1 : Int32)) rfl (Ls' := #[.val (.ref a), .val (.ref r147), .val (.int (0 : Int32)), .val (.int (3 : Int32))]) rfl ?_
      refine g_goto X158 hx (hb hby d9_46) (by decide) (pc' := 9) (by decide) ?_
      refine g_iloadN X158 hx (hb hby d9_9) (pc' := 10) rfl rfl ?_
      refine g_aloadN X158 hx (hb hby d9_10) (pc' := 11) rfl rfl rfl ?_
      refine g_arraylength X158 hx hZ e158 V147 (z := (3 : Int32)) (hb hby d9_11) (pc' := 12) rfl rfl ?_
      refine g_icmp_ge X158 hx (hb hby d9_12) (pc1 := 15) rfl (by decide) (pc2 := 49) (by decide) (fun hc12_2 => ?_) (fun hc12_2 => absurd hc12_2 (by decide))
      refine g_iloadN X158 hx (hb hby d9_49) (pc' := 50) rfl rfl ?_
      exact g_ireturn X158 hx hret (hb hby d9_50) N147 hlk (fun v t => endF (by decide) (by decide) v) (by rw [e158]; refine ⟨?_, K154⟩; simp only [bestV, if_neg hc37, if_neg hc37_1])
    · skip
      refine g_iloadN X158 hx (hb hby d9_41) (pc' := 42) rfl rfl ?_
      refine g_istoreN X158 hx (hb hby d9_42) (pc' := 43) rfl (Ls' := #[.val (.ref a), .val (.ref r147), .val (.int (2 : Int32)), .val (.int (2 : Int32))]) rfl ?_
      refine g_iinc X158 hx (hb hby d9_43) (pc' := 46) rfl rfl (z := (1 : Int32)) rfl (Ls' := #[.val (.ref a), .val (.ref r147), .val (.int (2 : Int32)), .val (.int (3 : Int32))]) rfl ?_
      refine g_goto X158 hx (hb hby d9_46) (by decide) (pc' := 9) (by decide) ?_
      refine g_iloadN X158 hx (hb hby d9_9) (pc' := 10) rfl rfl ?_
      refine g_aloadN X158 hx (hb hby d9_10) (pc' := 11) rfl rfl rfl ?_
      refine g_arraylength X158 hx hZ e158 V147 (z := (3 : Int32)) (hb hby d9_11) (pc' := 12) rfl rfl ?_
      refine g_icmp_ge X158 hx (hb hby d9_12) (pc1 := 15) rfl (by decide) (pc2 := 49) (by decide) (fun hc12_2 => ?_) (fun hc12_2 => absurd hc12_2 (by decide))
      refine g_iloadN X158 hx (hb hby d9_49) (pc' := 50) rfl rfl ?_
      exact g_ireturn X158 hx hret (hb hby d9_50) N147 hlk (fun v t => endF (by decide) (by decide) v) (by rw [e158]; refine ⟨?_, K154⟩; simp only [bestV, if_neg hc37, if_pos hc37_1])
  · skip
    refine g_iloadN X156 hx (hb hby d9_41) (pc' := 42) rfl rfl ?_
    refine g_istoreN X156 hx (hb hby d9_42) (pc' := 43) rfl (Ls' := #[.val (.ref a), .val (.ref r147), .val (.int (1 : Int32)), .val (.int (1 : Int32))]) rfl ?_
    refine g_iinc X156 hx (hb hby d9_43) (pc' := 46) rfl rfl (z := (1 : Int32)) rfl (Ls' := #[.val (.ref a), .val (.ref r147), .val (.int (1 : Int32)), .val (.int (2 : Int32))]) rfl ?_
    refine g_goto X156 hx (hb hby d9_46) (by decide) (pc' := 9) (by decide) ?_
    refine g_iloadN X156 hx (hb hby d9_9) (pc' := 10) rfl rfl ?_
    refine g_aloadN X156 hx (hb hby d9_10) (pc' := 11) rfl rfl rfl ?_
    refine g_arraylength X156 hx hZ e156 V147 (z := (3 : Int32)) (hb hby d9_11) (pc' := 12) rfl rfl ?_
    refine g_icmp_ge X156 hx (hb hby d9_12) (pc1 := 15) rfl (by decide) (pc2 := 49) (by decide) (fun hc12_1 => absurd (by decide) hc12_1) (fun hc12_1 => ?_)
    refine g_aloadN X156 hx (hb hby d9_15) (pc' := 16) rfl rfl rfl ?_
    obtain ⟨T159, X159, e159, st159⟩ := getF X156 hx hZ hown (host := "") (Or.inl (hw _ (List.mem_of_getElem? (i := 10) rfl))) Via.refl e156 f148 (g := (mkF m 16 #[.val (.ref a), .val (.ref r147), .val (.int (1 : Int32)), .val (.int (2 : Int32))] [(.ref a)])) rfl rfl (hb hby d9_16)
    refine Go.movp st159 (mkF m 19 #[.val (.ref a), .val (.ref r147), .val (.int (1 : Int32)), .val (.int (2 : Int32))] [(.long c0)]) rfl ?_
    refine g_iloadN X159 hx (hb hby d9_19) (pc' := 20) rfl rfl ?_
    refine g_i2l X159 hx (hb hby d9_20) (pc' := 21) rfl ?_
    refine g_lmul X159 hx (hb hby d9_21) (pc' := 22) rfl ?_
    refine g_aloadN X159 hx (hb hby d9_22) (pc' := 23) rfl rfl rfl ?_
    refine g_iloadN X159 hx (hb hby d9_23) (pc' := 24) rfl rfl ?_
    refine g_laload X159 hx hZ e159 V147 (i := 2) (v := (.long q2)) (hb hby d9_24) (pc' := 25) rfl (by decide) rfl rfl ?_
    refine g_ladd X159 hx (hb hby d9_25) (pc' := 26) rfl ?_
    refine g_aloadN X159 hx (hb hby d9_26) (pc' := 27) rfl rfl rfl ?_
    obtain ⟨T160, X160, e160, st160⟩ := getF X159 hx hZ hown (host := "") (Or.inl (hw _ (List.mem_of_getElem? (i := 10) rfl))) Via.refl e159 f148 (g := (mkF m 27 #[.val (.ref a), .val (.ref r147), .val (.int (1 : Int32)), .val (.int (2 : Int32))] [(.ref a), (.long ((c0 * (2 : Int32).toInt64) + q2))])) rfl rfl (hb hby d9_27)
    refine Go.movp st160 (mkF m 30 #[.val (.ref a), .val (.ref r147), .val (.int (1 : Int32)), .val (.int (2 : Int32))] [(.long c0), (.long ((c0 * (2 : Int32).toInt64) + q2))]) rfl ?_
    refine g_iloadN X160 hx (hb hby d9_30) (pc' := 31) rfl rfl ?_
    refine g_i2l X160 hx (hb hby d9_31) (pc' := 32) rfl ?_
    refine g_lmul X160 hx (hb hby d9_32) (pc' := 33) rfl ?_
    refine g_aloadN X160 hx (hb hby d9_33) (pc' := 34) rfl rfl rfl ?_
    refine g_iloadN X160 hx (hb hby d9_34) (pc' := 35) rfl rfl ?_
    refine g_laload X160 hx hZ e160 V147 (i := 1) (v := (.long q1)) (hb hby d9_35) (pc' := 36) rfl (by decide) rfl rfl ?_
    refine g_ladd X160 hx (hb hby d9_36) (pc' := 37) rfl ?_
    refine g_lcmp_ge X160 hx (hb hby d9_37) (pc' := 38) rfl (hb hby d9_38) (pc1 := 41) rfl (by decide) (pc2 := 43) (by decide) (fun hc37_1 => ?_) (fun hc37_1 => ?_)
    · skip
      refine g_iinc X160 hx (hb hby d9_43) (pc' := 46) rfl rfl (z := (1 : Int32)) rfl (Ls' := #[.val (.ref a), .val (.ref r147), .val (.int (1 : Int32)), .val (.int (3 : Int32))]) rfl ?_
      refine g_goto X160 hx (hb hby d9_46) (by decide) (pc' := 9) (by decide) ?_
      refine g_iloadN X160 hx (hb hby d9_9) (pc' := 10) rfl rfl ?_
      refine g_aloadN X160 hx (hb hby d9_10) (pc' := 11) rfl rfl rfl ?_
      refine g_arraylength X160 hx hZ e160 V147 (z := (3 : Int32)) (hb hby d9_11) (pc' := 12) rfl rfl ?_
      refine g_icmp_ge X160 hx (hb hby d9_12) (pc1 := 15) rfl (by decide) (pc2 := 49) (by decide) (fun hc12_2 => ?_) (fun hc12_2 => absurd hc12_2 (by decide))
      refine g_iloadN X160 hx (hb hby d9_49) (pc' := 50) rfl rfl ?_
      exact g_ireturn X160 hx hret (hb hby d9_50) N147 hlk (fun v t => endF (by decide) (by decide) v) (by rw [e160]; refine ⟨?_, K154⟩; simp only [bestV, if_pos hc37, if_neg hc37_1])
    · skip
      refine g_iloadN X160 hx (hb hby d9_41) (pc' := 42) rfl rfl ?_
      refine g_istoreN X160 hx (hb hby d9_42) (pc' := 43) rfl (Ls' := #[.val (.ref a), .val (.ref r147), .val (.int (2 : Int32)), .val (.int (2 : Int32))]) rfl ?_
      refine g_iinc X160 hx (hb hby d9_43) (pc' := 46) rfl rfl (z := (1 : Int32)) rfl (Ls' := #[.val (.ref a), .val (.ref r147), .val (.int (2 : Int32)), .val (.int (3 : Int32))]) rfl ?_
      refine g_goto X160 hx (hb hby d9_46) (by decide) (pc' := 9) (by decide) ?_
      refine g_iloadN X160 hx (hb hby d9_9) (pc' := 10) rfl rfl ?_
      refine g_aloadN X160 hx (hb hby d9_10) (pc' := 11) rfl rfl rfl ?_
      refine g_arraylength X160 hx hZ e160 V147 (z := (3 : Int32)) (hb hby d9_11) (pc' := 12) rfl rfl ?_
      refine g_icmp_ge X160 hx (hb hby d9_12) (pc1 := 15) rfl (by decide) (pc2 := 49) (by decide) (fun hc12_2 => ?_) (fun hc12_2 => absurd hc12_2 (by decide))
      refine g_iloadN X160 hx (hb hby d9_49) (pc' := 50) rfl rfl ?_
      exact g_ireturn X160 hx hret (hb hby d9_50) N147 hlk (fun v t => endF (by decide) (by decide) v) (by rw [e160]; refine ⟨?_, K154⟩; simp only [bestV, if_pos hc37, if_pos hc37_1])
theorem pd___I : parseMethodDescriptor "()I" = some ⟨[], some .int⟩ := by decide +kernel
theorem d8_0 : decode prog_130_method_9_code 0 = .ok (.aload_n 0, 1) := by decide +kernel
theorem d8_1 : decode prog_130_method_9_code 1 = .ok (.invokevirtual 50, 3) := by decide +kernel
theorem d8_4 : decode prog_130_method_9_code 4 = .ok (.istore_n 1, 1) := by decide +kernel
theorem d8_5 : decode prog_130_method_9_code 5 = .ok (.aload_n 0, 1) := by decide +kernel
theorem d8_6 : decode prog_130_method_9_code 6 = .ok (.getfield 9, 3) := by decide +kernel
theorem d8_9 : decode prog_130_method_9_code 9 = .ok (.aload_n 0, 1) := by decide +kernel
theorem d8_10 : decode prog_130_method_9_code 10 = .ok (.getfield 30, 3) := by decide +kernel
theorem d8_13 : decode prog_130_method_9_code 13 = .ok (.iload_n 1, 1) := by decide +kernel
theorem d8_14 : decode prog_130_method_9_code 14 = .ok (.iadd, 1) := by decide +kernel
theorem d8_15 : decode prog_130_method_9_code 15 = .ok (.iconst 1, 1) := by decide +kernel
theorem d8_16 : decode prog_130_method_9_code 16 = .ok (.iadd, 1) := by decide +kernel
theorem d8_17 : decode prog_130_method_9_code 17 = .ok (.i2l, 1) := by decide +kernel
theorem d8_18 : decode prog_130_method_9_code 18 = .ok (.lmul, 1) := by decide +kernel
theorem d8_19 : decode prog_130_method_9_code 19 = .ok (.aload_n 0, 1) := by decide +kernel
theorem d8_20 : decode prog_130_method_9_code 20 = .ok (.invokevirtual 54, 3) := by decide +kernel
theorem d8_23 : decode prog_130_method_9_code 23 = .ok (.iload_n 1, 1) := by decide +kernel
theorem d8_24 : decode prog_130_method_9_code 24 = .ok (.laload, 1) := by decide +kernel
theorem d8_25 : decode prog_130_method_9_code 25 = .ok (.ladd, 1) := by decide +kernel
theorem d8_26 : decode prog_130_method_9_code 26 = .ok (.lreturn, 1) := by decide +kernel
theorem ef_8 (x0 : Addr) (m : MethodId) : entryFrame m #[(.ref x0)] 2 = mkF m 0 #[.val (.ref x0), .unset] [] := by first | (simp [entryFrame, mkF, argsToLocals, Value.category]; done) | rfl
def Q8 (Z : State) (a : Addr) (c0 : Int64) (lo : Int32) (q0 : Int64) (q1 : Int64) (q2 : Int64) (h0 : Heap) (n0 : Nat) : Option Value → Heap → Prop := fun v h => v = some (.long (bitsV c0 lo q0 q1 q2)) ∧ Keep h0 h []
set_option maxRecDepth 65536 in
set_option maxHeartbeats 40000000 in
theorem rm8 (l : Launch) (Z : State) (a0 : Array Value) (hw : ∀ d ∈ tables_1, d.before a0 Z = true) (a : Addr) (c0 : Int64) (lo : Int32) (q0 : Int64) (q1 : Int64) (q2 : Int64) (h0 : Heap) (n0 : Nat) (Z0 : n0 ≤ h0.size) (F_count : Fld Z h0 a "com/example/stratasig/stratasig/index/GapCoding$Tally" "count" "J" (.long c0)) (F_lowest : Fld Z h0 a "com/example/stratasig/stratasig/index/GapCoding$Tally" "lowest" "I" (.int lo)) (F_atLowest : Fld Z h0 a "com/example/stratasig/stratasig/index/GapCoding$Tally" "atLowest" "J" (.long q0)) (F_oneAbove : Fld Z h0 a "com/example/stratasig/stratasig/index/GapCoding$Tally" "oneAbove" "J" (.long q1)) (F_twoAbove : Fld Z h0 a "com/example/stratasig/stratasig/index/GapCoding$Tally" "twoAbove" "J" (.long q2)) (E1 : Exa Z h0 a "com/example/stratasig/stratasig/index/GapCoding$Tally") : Ctr l Z (⟨"com/example/stratasig/stratasig/index/GapCoding$Tally", "bits", "()J"⟩ : MethodName) prog_130_method_9_code 2 (some .long) ({ frames := 2, cells := 2, slots := 6, locals := 27 } : Room) #[(.ref a)] h0 n0 (Q8 Z a c0 lo q0 q1 q2 h0 n0) := by
  refine Ctr.of (plainFor_of_name pn_1) (ef_8 a) ?_
  intro p e s m below meth c T0 hx hby hml hown hnm hret hlk hZ X0 e0
  have N0 := Fr.nil n0
  refine g_aloadN X0 hx (hb hby d8_0) (pc' := 1) rfl rfl rfl ?_
  obtain ⟨v161, T161, h161, L161, X161, e161, N161, q161, st161⟩ := h_private (a := a) X0 hx (W := 0) (Ls := #[.val (.ref a), .unset]) (argsL := []) (rest := []) hZ e0 N0 hml hown (rm9 l Z a0 hw a c0 q0 q1 q2 h0 n0 Z0 F_count F_atLowest F_oneAbove F_twoAbove E1) E1 (hw _ (List.mem_of_getElem? (i := 49) rfl)) (hw _ (List.mem_of_getElem? (i := 50) rfl)) (hw _ (List.mem_of_getElem? (i := 51) rfl)) (hw _ (List.mem_of_getElem? (i := 2) rfl)) (hw _ (List.mem_of_getElem? (i := 3) rfl)) (hw _ (List.mem_of_getElem? (i := 52) rfl)) (by decide) pd___I rfl rfl (hb hby d8_1) rfl (by decide) (by decide) (by decide) (by decide)
  obtain ⟨rfl, K161⟩ := q161
  have f162 := F_count.keep K161 nin0
  have f163 := F_lowest.keep K161 nin0
  have f164 := F_atLowest.keep K161 nin0
  have f165 := F_oneAbove.keep K161 nin0
  have f166 := F_twoAbove.keep K161 nin0
  have f167 := E1.keep K161
  have Z168 : n0 ≤ h161.size := Nat.le_trans Z0 K161.1
  have K169 := (Keep.refl h0 []).trans K161 all0
  refine Go.movp st161 (mkF m 4 #[.val (.ref a), .unset] [(.int (bestV c0 q0 q1 q2))]) rfl ?_
  rcases own_best c0 q0 q1 q2 with qb | qb | qb
  · skip
    refine Go.cast (show (mkF m 4 #[.val (.ref a), .unset] [(.int (bestV c0 q0 q1 q2))]) = (mkF m 4 #[.val (.ref a), .unset] [(.int (0 : Int32))]) from by rw [show (bestV c0 q0 q1 q2) = (0 : Int32) from qb]) ?_
    refine g_istoreN X161 hx (hb hby d8_4) (pc' := 5) rfl (Ls' := #[.val (.ref a), .val (.int (0 : Int32))]) rfl ?_
    refine g_aloadN X161 hx (hb hby d8_5) (pc' := 6) rfl rfl rfl ?_
    obtain ⟨T170, X170, e170, st170⟩ := getF X161 hx hZ hown (host := "") (Or.inl (hw _ (List.mem_of_getElem? (i := 10) rfl))) Via.refl e161 f162 (g := (mkF m 6 #[.val (.ref a), .val (.int (0 : Int32))] [(.ref a)])) rfl rfl (hb hby d8_6)
    refine Go.movp st170 (mkF m 9 #[.val (.ref a), .val (.int (0 : Int32))] [(.long c0)]) rfl ?_
    refine g_aloadN X170 hx (hb hby d8_9) (pc' := 10) rfl rfl rfl ?_
    obtain ⟨T171, X171, e171, st171⟩ := getF X170 hx hZ hown (host := "") (Or.inl (hw _ (List.mem_of_getElem? (i := 26) rfl))) Via.refl e170 f163 (g := (mkF m 10 #[.val (.ref a), .val (.int (0 : Int32))] [(.ref a), (.long c0)])) rfl rfl (hb hby d8_10)
    refine Go.movp st171 (mkF m 13 #[.val (.ref a), .val (.int (0 : Int32))] [(.int lo), (.long c0)]) rfl ?_
    refine g_iloadN X171 hx (hb hby d8_13) (pc' := 14) rfl rfl ?_
    refine g_iadd X171 hx (hb hby d8_14) (pc' := 15) rfl ?_
    refine g_iconst X171 hx (hb hby d8_15) (pc' := 16) rfl (z := (1 : Int32)) rfl ?_
    refine g_iadd X171 hx (hb hby d8_16) (pc' := 17) rfl ?_
    refine g_i2l X171 hx (hb hby d8_17) (pc' := 18) rfl ?_
    refine g_lmul X171 hx (hb hby d8_18) (pc' := 19) rfl ?_
    refine g_aloadN X171 hx (hb hby d8_19) (pc' := 20) rfl rfl rfl ?_
    obtain ⟨v172, T172, h172, L172, X172, e172, N172, q172, st172⟩ := h_private (a := a) X171 hx (W := 2) (Ls := #[.val (.ref a), .val (.int (0 : Int32))]) (argsL := []) (rest := [(.long (c0 * ((lo + (0 : Int32)) + (1 : Int32)).toInt64))]) hZ e171 N161 hml hown (rm10 l Z a0 hw a q0 q1 q2 h161 n0 Z168 f164 f165 f166) f167 (hw _ (List.mem_of_getElem? (i := 53) rfl)) (hw _ (List.mem_of_getElem? (i := 54) rfl)) (hw _ (List.mem_of_getElem? (i := 55) rfl)) (hw _ (List.mem_of_getElem? (i := 2) rfl)) (hw _ (List.mem_of_getElem? (i := 3) rfl)) (hw _ (List.mem_of_getElem? (i := 56) rfl)) (by decide) pd____J rfl rfl (hb hby d8_20) rfl (by decide) (by decide) (by decide) (by decide)
    obtain ⟨r172, rfl, ge172, K172, V172⟩ := q172
    have f173 := f162.keep K172 nin0
    have f174 := f163.keep K172 nin0
    have f175 := f164.keep K172 nin0
    have f176 := f165.keep K172 nin0
    have f177 := f166.keep K172 nin0
    have f178 := f167.keep K172
    have Z179 : n0 ≤ h172.size := Nat.le_trans Z168 K172.1
    have K180 := K169.trans K172 all0
    refine Go.movp st172 (mkF m 23 #[.val (.ref a), .val (.int (0 : Int32))] [(.ref r172), (.long (c0 * ((lo + (0 : Int32)) + (1 : Int32)).toInt64))]) rfl ?_
    refine g_iloadN X172 hx (hb hby d8_23) (pc' := 24) rfl rfl ?_
    refine g_laload X172 hx hZ e172 V172 (i := 0) (v := (.long q0)) (hb hby d8_24) (pc' := 25) rfl (by decide) rfl rfl ?_
    refine g_ladd X172 hx (hb hby d8_25) (pc' := 26) rfl ?_
    exact g_lreturn X172 hx hret (hb hby d8_26) N172 hlk (fun v t => endF (by decide) (by decide) v) (by rw [e172]; refine ⟨?_, K180⟩; unfold bitsV; rw [qb]; rfl)
  · skip
    refine Go.cast (show (mkF m 4 #[.val (.ref a), .unset] [(.int (bestV c0 q0 q1 q2))]) = (mkF m 4 #[.val (.ref a), .unset] [(.int (1 : Int32))]) from by rw [show (bestV c0 q0 q1 q2) = (1 : Int32) from qb]) ?_
    refine g_istoreN X161 hx (hb hby d8_4) (pc' := 5) rfl (Ls' := #[.val (.ref a), .val (.int (1 : Int32))]) rfl ?_
    refine g_aloadN X161 hx (hb hby d8_5) (pc' := 6) rfl rfl rfl ?_
    obtain ⟨T181, X181, e181, st181⟩ := getF X161 hx hZ hown (host := "") (Or.inl (hw _ (List.mem_of_getElem? (i := 10) rfl))) Via.refl e161 f162 (g := (mkF m 6 #[.val (.ref a), .val (.int (1 : Int32))] [(.ref a)])) rfl rfl (hb hby d8_6)
    refine Go.movp st181 (mkF m 9 #[.val (.ref a), .val (.int (1 : Int32))] [(.long c0)]) rfl ?_
    refine g_aloadN X181 hx (hb hby d8_9) (pc' := 10) rfl rfl rfl ?_
    obtain ⟨T182, X182, e182, st182⟩ := getF X181 hx hZ hown (host := "") (Or.inl (hw _ (List.mem_of_getElem? (i := 26) rfl))) Via.refl e181 f163 (g := (mkF m 10 #[.val (.ref a), .val (.int (1 : Int32))] [(.ref a), (.long c0)])) rfl rfl (hb hby d8_10)
    refine Go.movp st182 (mkF m 13 #[.val (.ref a), .val (.int (1 : Int32))] [(.int lo), (.long c0)]) rfl ?_
    refine g_iloadN X182 hx (hb hby d8_13) (pc' := 14) rfl rfl ?_
    refine g_iadd X182 hx (hb hby d8_14) (pc' := 15) rfl ?_
    refine g_iconst X182 hx (hb hby d8_15) (pc' := 16) rfl (z := (1 : Int32)) rfl ?_
    refine g_iadd X182 hx (hb hby d8_16) (pc' := 17) rfl ?_
    refine g_i2l X182 hx (hb hby d8_17) (pc' := 18) rfl ?_
    refine g_lmul X182 hx (hb hby d8_18) (pc' := 19) rfl ?_
    refine g_aloadN X182 hx (hb hby d8_19) (pc' := 20) rfl rfl rfl ?_
    obtain ⟨v183, T183, h183, L183, X183, e183, N183, q183, st183⟩ := h_private (a := a) X182 hx (W := 2) (Ls := #[.val (.ref a), .val (.int (1 : Int32))]) (argsL := []) (rest := [(.long (c0 * ((lo + (1 : Int32)) + (1 : Int32)).toInt64))]) hZ e182 N161 hml hown (rm10 l Z a0 hw a q0 q1 q2 h161 n0 Z168 f164 f165 f166) f167 (hw _ (List.mem_of_getElem? (i := 53) rfl)) (hw _ (List.mem_of_getElem? (i := 54) rfl)) (hw _ (List.mem_of_getElem? (i := 55) rfl)) (hw _ (List.mem_of_getElem? (i := 2) rfl)) (hw _ (List.mem_of_getElem? (i := 3) rfl)) (hw _ (List.mem_of_getElem? (i := 56) rfl)) (by decide) pd____J rfl rfl (hb hby d8_20) rfl (by decide) (by decide) (by decide) (by decide)
    obtain ⟨r183, rfl, ge183, K183, V183⟩ := q183
    have f184 := f162.keep K183 nin0
    have f185 := f163.keep K183 nin0
    have f186 := f164.keep K183 nin0
    have f187 := f165.keep K183 nin0
    have f188 := f166.keep K183 nin0
    have f189 := f167.keep K183
    have Z190 : n0 ≤ h183.size := Nat.le_trans Z168 K183.1
    have K191 := K169.trans K183 all0
    refine Go.movp st183 (mkF m 23 #[.val (.ref a), .val (.int (1 : Int32))] [(.ref r183), (.long (c0 * ((lo + (1 : Int32)) + (1 : Int32)).toInt64))]) rfl ?_
    refine g_iloadN X183 hx (hb hby d8_23) (pc' := 24) rfl rfl ?_
    refine g_laload X183 hx hZ e183 V183 (i := 1) (v := (.long q1)) (hb hby d8_24) (pc' := 25) rfl (by decide) rfl rfl ?_
    refine g_ladd X183 hx (hb hby d8_25) (pc' := 26) rfl ?_
    exact g_lreturn X183 hx hret (hb hby d8_26) N183 hlk (fun v t => endF (by decide) (by decide) v) (by rw [e183]; refine ⟨?_, K191⟩; unfold bitsV; rw [qb]; rfl)
  · skip
    refine Go.cast (show (mkF m 4 #[.val (.ref a), .unset] [(.int (bestV c0 q0 q1 q2))]) = (mkF m 4 #[.val (.ref a), .unset] [(.int (2 : Int32))]) from by rw [show (bestV c0 q0 q1 q2) = (2 : Int32) from qb]) ?_
    refine g_istoreN X161 hx (hb hby d8_4) (pc' := 5) rfl (Ls' := #[.val (.ref a), .val (.int (2 : Int32))]) rfl ?_
    refine g_aloadN X161 hx (hb hby d8_5) (pc' := 6) rfl rfl rfl ?_
    obtain ⟨T192, X192, e192, st192⟩ := getF X161 hx hZ hown (host := "") (Or.inl (hw _ (List.mem_of_getElem? (i := 10) rfl))) Via.refl e161 f162 (g := (mkF m 6 #[.val (.ref a), .val (.int (2 : Int32))] [(.ref a)])) rfl rfl (hb hby d8_6)
    refine Go.movp st192 (mkF m 9 #[.val (.ref a), .val (.int (2 : Int32))] [(.long c0)]) rfl ?_
    refine g_aloadN X192 hx (hb hby d8_9) (pc' := 10) rfl rfl rfl ?_
    obtain ⟨T193, X193, e193, st193⟩ := getF X192 hx hZ hown (host := "") (Or.inl (hw _ (List.mem_of_getElem? (i := 26) rfl))) Via.refl e192 f163 (g := (mkF m 10 #[.val (.ref a), .val (.int (2 : Int32))] [(.ref a), (.long c0)])) rfl rfl (hb hby d8_10)
    refine Go.movp st193 (mkF m 13 #[.val (.ref a), .val (.int (2 : Int32))] [(.int lo), (.long c0)]) rfl ?_
    refine g_iloadN X193 hx (hb hby d8_13) (pc' := 14) rfl rfl ?_
    refine g_iadd X193 hx (hb hby d8_14) (pc' := 15) rfl ?_
    refine g_iconst X193 hx (hb hby d8_15) (pc' := 16) rfl (z := (1 : Int32)) rfl ?_
    refine g_iadd X193 hx (hb hby d8_16) (pc' := 17) rfl ?_
    refine g_i2l X193 hx (hb hby d8_17) (pc' := 18) rfl ?_
    refine g_lmul X193 hx (hb hby d8_18) (pc' := 19) rfl ?_
    refine g_aloadN X193 hx (hb hby d8_19) (pc' := 20) rfl rfl rfl ?_
    obtain ⟨v194, T194, h194, L194, X194, e194, N194, q194, st194⟩ := h_private (a := a) X193 hx (W := 2) (Ls := #[.val (.ref a), .val (.int (2 : Int32))]) (argsL := []) (rest := [(.long (c0 * ((lo + (2 : Int32)) + (1 : Int32)).toInt64))]) hZ e193 N161 hml hown (rm10 l Z a0 hw a q0 q1 q2 h161 n0 Z168 f164 f165 f166) f167 (hw _ (List.mem_of_getElem? (i := 53) rfl)) (hw _ (List.mem_of_getElem? (i := 54) rfl)) (hw _ (List.mem_of_getElem? (i := 55) rfl)) (hw _ (List.mem_of_getElem? (i := 2) rfl)) (hw _ (List.mem_of_getElem? (i := 3) rfl)) (hw _ (List.mem_of_getElem? (i := 56) rfl)) (by decide) pd____J rfl rfl (hb hby d8_20) rfl (by decide) (by decide) (by decide) (by decide)
    obtain ⟨r194, rfl, ge194, K194, V194⟩ := q194
    have f195 := f162.keep K194 nin0
    have f196 := f163.keep K194 nin0
    have f197 := f164.keep K194 nin0
    have f198 := f165.keep K194 nin0
    have f199 := f166.keep K194 nin0
    have f200 := f167.keep K194
    have Z201 : n0 ≤ h194.size := Nat.le_trans Z168 K194.1
    have K202 := K169.trans K194 all0
    refine Go.movp st194 (mkF m 23 #[.val (.ref a), .val (.int (2 : Int32))] [(.ref r194), (.long (c0 * ((lo + (2 : Int32)) + (1 : Int32)).toInt64))]) rfl ?_
    refine g_iloadN X194 hx (hb hby d8_23) (pc' := 24) rfl rfl ?_
    refine g_laload X194 hx hZ e194 V194 (i := 2) (v := (.long q2)) (hb hby d8_24) (pc' := 25) rfl (by decide) rfl rfl ?_
    refine g_ladd X194 hx (hb hby d8_25) (pc' := 26) rfl ?_
    exact g_lreturn X194 hx hret (hb hby d8_26) N194 hlk (fun v t => endF (by decide) (by decide) v) (by rw [e194]; refine ⟨?_, K202⟩; unfold bitsV; rw [qb]; rfl)
theorem d11_0 : decode prog_130_method_8_code 0 = .ok (.aload_n 0, 1) := by decide +kernel
theorem d11_1 : decode prog_130_method_8_code 1 = .ok (.getfield 30, 3) := by decide +kernel
theorem d11_4 : decode prog_130_method_8_code 4 = .ok (.aload_n 0, 1) := by decide +kernel
theorem d11_5 : decode prog_130_method_8_code 5 = .ok (.invokevirtual 50, 3) := by decide +kernel
theorem d11_8 : decode prog_130_method_8_code 8 = .ok (.iadd, 1) := by decide +kernel
theorem d11_9 : decode prog_130_method_8_code 9 = .ok (.ireturn, 1) := by decide +kernel
theorem ef_11 (x0 : Addr) (m : MethodId) : entryFrame m #[(.ref x0)] 1 = mkF m 0 #[.val (.ref x0)] [] := by first | (simp [entryFrame, mkF, argsToLocals, Value.category]; done) | rfl
def Q11 (Z : State) (a : Addr) (c0 : Int64) (lo : Int32) (q0 : Int64) (q1 : Int64) (q2 : Int64) (h0 : Heap) (n0 : Nat) : Option Value → Heap → Prop := fun v h => v = some (.int (lo + bestV c0 q0 q1 q2)) ∧ Keep h0 h []
set_option maxRecDepth 65536 in
set_option maxHeartbeats 40000000 in
theorem rm11 (l : Launch) (Z : State) (a0 : Array Value) (hw : ∀ d ∈ tables_1, d.before a0 Z = true) (a : Addr) (c0 : Int64) (lo : Int32) (q0 : Int64) (q1 : Int64) (q2 : Int64) (h0 : Heap) (n0 : Nat) (Z0 : n0 ≤ h0.size) (F_count : Fld Z h0 a "com/example/stratasig/stratasig/index/GapCoding$Tally" "count" "J" (.long c0)) (F_lowest : Fld Z h0 a "com/example/stratasig/stratasig/index/GapCoding$Tally" "lowest" "I" (.int lo)) (F_atLowest : Fld Z h0 a "com/example/stratasig/stratasig/index/GapCoding$Tally" "atLowest" "J" (.long q0)) (F_oneAbove : Fld Z h0 a "com/example/stratasig/stratasig/index/GapCoding$Tally" "oneAbove" "J" (.long q1)) (F_twoAbove : Fld Z h0 a "com/example/stratasig/stratasig/index/GapCoding$Tally" "twoAbove" "J" (.long q2)) (E1 : Exa Z h0 a "com/example/stratasig/stratasig/index/GapCoding$Tally") : Ctr l Z (⟨"com/example/stratasig/stratasig/index/GapCoding$Tally", "parameter", "()I"⟩ : MethodName) prog_130_method_8_code 1 (some .int) ({ frames := 2, cells := 1, slots := 3, locals := 28 } : Room) #[(.ref a)] h0 n0 (Q11 Z a c0 lo q0 q1 q2 h0 n0) := by
  refine Ctr.of (plainFor_of_name pn_1) (ef_11 a) ?_
  intro p e s m below meth c T0 hx hby hml hown hnm hret hlk hZ X0 e0
  have N0 := Fr.nil n0
  refine g_aloadN X0 hx (hb hby d11_0) (pc' := 1) rfl rfl rfl ?_
  obtain ⟨T203, X203, e203, st203⟩ := getF X0 hx hZ hown (host := "") (Or.inl (hw _ (List.mem_of_getElem? (i := 26) rfl))) Via.refl e0 F_lowest (g := (mkF m 1 #[.val (.ref a)] [(.ref a)])) rfl rfl (hb hby d11_1)
  refine Go.movp st203 (mkF m 4 #[.val (.ref a)] [(.int lo)]) rfl ?_
  refine g_aloadN X203 hx (hb hby d11_4) (pc' := 5) rfl rfl rfl ?_
  obtain ⟨v204, T204, h204, L204, X204, e204, N204, q204, st204⟩ := h_private (a := a) X203 hx (W := 1) (Ls := #[.val (.ref a)]) (argsL := []) (rest := [(.int lo)]) hZ e203 N0 hml hown (rm9 l Z a0 hw a c0 q0 q1 q2 h0 n0 Z0 F_count F_atLowest F_oneAbove F_twoAbove E1) E1 (hw _ (List.mem_of_getElem? (i := 49) rfl)) (hw _ (List.mem_of_getElem? (i := 50) rfl)) (hw _ (List.mem_of_getElem? (i := 51) rfl)) (hw _ (List.mem_of_getElem? (i := 2) rfl)) (hw _ (List.mem_of_getElem? (i := 3) rfl)) (hw _ (List.mem_of_getElem? (i := 52) rfl)) (by decide) pd___I rfl rfl (hb hby d11_5) rfl (by decide) (by decide) (by decide) (by decide)
  obtain ⟨rfl, K204⟩ := q204
  have f205 := F_count.keep K204 nin0
  have f206 := F_lowest.keep K204 nin0
  have f207 := F_atLowest.keep K204 nin0
  have f208 := F_oneAbove.keep K204 nin0
  have f209 := F_twoAbove.keep K204 nin0
  have f210 := E1.keep K204
  have Z211 : n0 ≤ h204.size := Nat.le_trans Z0 K204.1
  have K212 := (Keep.refl h0 []).trans K204 all0
  refine Go.movp st204 (mkF m 8 #[.val (.ref a)] [(.int (bestV c0 q0 q1 q2)), (.int lo)]) rfl ?_
  refine g_iadd X204 hx (hb hby d11_8) (pc' := 9) rfl ?_
  exact g_ireturn X204 hx hret (hb hby d11_9) N204 hlk (fun v t => endF (by decide) (by decide) v) (by rw [e204]; exact ⟨rfl, K212⟩)
theorem own_eq (x q t : Int64) : x + q * t = (x + q * (t - 1)) + q := by
  rw [Int64.add_assoc]; congr 1
  have e : q * (t - 1) + q = q * ((t - 1) + 1) := by rw [Int64.mul_add, Int64.mul_one]
  rw [e, Int64.sub_add_cancel]
theorem own_eq0 {t : Int64} (x q : Int64) (h : t = 0) : x + q * t = x := by rw [h, Int64.mul_zero, Int64.add_zero]
theorem pd__JJ_V : parseMethodDescriptor "(JJ)V" = some ⟨[.long, .long], none⟩ := by decide +kernel
theorem pd__J_V : parseMethodDescriptor "(J)V" = some ⟨[.long], none⟩ := by decide +kernel
theorem pd___J : parseMethodDescriptor "()J" = some ⟨[], some .long⟩ := by decide +kernel
theorem pn_0 : plainName "com/example/stratasig/stratasig/index/TallyAddPinLaw" = true := by first | (simp [plainName, overriddenIn]; done) | decide +kernel
theorem ef_0 (x0 : Int64) (x1 : Int64) (x2 : Int64) (x3 : Int64) (x4 : Int64) (m : MethodId) : entryFrame m #[(.long x0), (.long x1), (.long x2), (.long x3), (.long x4)] maxLocals = mkF m 0 #[.val (.long x0), .second, .val (.long x1), .second, .val (.long x2), .second, .val (.long x3), .second, .val (.long x4), .second, .unset, .unset, .unset, .unset, .unset, .unset, .unset, .unset, .unset, .unset, .unset, .unset] [] := by first | (simp [entryFrame, mkF, argsToLocals, Value.category, maxLocals]; done) | rfl
def Q0 (Z : State) (p0 : Int64) (p1 : Int64) (p2 : Int64) (p3 : Int64) (p4 : Int64) (h0 : Heap) (n0 : Nat) : Option Value → Heap → Prop := fun v h => v = some (.int 1)
set_option maxRecDepth 65536 in
set_option maxHeartbeats 40000000 in
theorem rm0 (l : Launch) (Z : State) (a0 : Array Value) (hw : ∀ d ∈ tables_1, d.before a0 Z = true) (p0 : Int64) (p1 : Int64) (p2 : Int64) (p3 : Int64) (p4 : Int64) (h0 : Heap) (n0 : Nat) (Z0 : n0 ≤ h0.size) : Ctr l Z x code maxLocals ret room_1 #[(.long p0), (.long p1), (.long p2), (.long p3), (.long p4)] h0 n0 (Q0 Z p0 p1 p2 p3 p4 h0 n0) := by
  refine Ctr.of (plainFor_of_name pn_0) (ef_0 p0 p1 p2 p3 p4) ?_
  intro p e s m below meth c T0 hx hby hml hown hnm hret hlk hZ X0 e0
  have N0 := Fr.nil n0
  change c.maxLocals = 22 at hml
  change meth.sig.returnType = some .boolean at hret
  refine g_lloadN X0 hx (hb hby at_0) (pc' := 1) rfl rfl ?_
  refine g_ldc2_w X0 hx hZ hown (hw _ (List.mem_of_getElem? (i := 0) rfl)) (hb hby at_1) (pc' := 4) rfl ?_
  refine g_land X0 hx (hb hby at_4) (pc' := 5) rfl ?_
  obtain ⟨cc, ecc⟩ : ∃ z : Int64, z = (p0 &&& (9223372036854775807 : Int64)) := ⟨_, rfl⟩
  refine Go.cast (show (mkF m 5 #[.val (.long p0), .second, .val (.long p1), .second, .val (.long p2), .second, .val (.long p3), .second, .val (.long p4), .second, .unset, .unset, .unset, .unset, .unset, .unset, .unset, .unset, .unset, .unset, .unset, .unset] [(.long (p0 &&& (9223372036854775807 : Int64)))]) = (mkF m 5 #[.val (.long p0), .second, .val (.long p1), .second, .val (.long p2), .second, .val (.long p3), .second, .val (.long p4), .second, .unset, .unset, .unset, .unset, .unset, .unset, .unset, .unset, .unset, .unset, .unset, .unset] [(.long cc)]) from by rw [ecc]) ?_
  refine g_lstore X0 hx (hb hby at_5) (pc' := 7) rfl (Ls' := #[.val (.long p0), .second, .val (.long p1), .second, .val (.long p2), .second, .val (.long p3), .second, .val (.long p4), .second, .val (.long cc), .second, .unset, .unset, .unset, .unset, .unset, .unset, .unset, .unset, .unset, .unset]) rfl ?_
  refine g_lloadN X0 hx (hb hby at_7) (pc' := 8) rfl rfl ?_
  refine g_ldc2_w X0 hx hZ hown (hw _ (List.mem_of_getElem? (i := 0) rfl)) (hb hby at_8) (pc' := 11) rfl ?_
  refine g_land X0 hx (hb hby at_11) (pc' := 12) rfl ?_
  obtain ⟨ss, ess⟩ : ∃ z : Int64, z = (p1 &&& (9223372036854775807 : Int64)) := ⟨_, rfl⟩
  refine Go.cast (show (mkF m 12 #[.val (.long p0), .second, .val (.long p1), .second, .val (.long p2), .second, .val (.long p3), .second, .val (.long p4), .second, .val (.long cc), .second, .unset, .unset, .unset, .unset, .unset, .unset, .unset, .unset, .unset, .unset] [(.long (p1 &&& (9223372036854775807 : Int64)))]) = (mkF m 12 #[.val (.long p0), .second, .val (.long p1), .second, .val (.long p2), .second, .val (.long p3), .second, .val (.long p4), .second, .val (.long cc), .second, .unset, .unset, .unset, .unset, .unset, .unset, .unset, .unset, .unset, .unset] [(.long ss)]) from by rw [ess]) ?_
  refine g_lstore X0 hx (hb hby at_12) (pc' := 14) rfl (Ls' := #[.val (.long p0), .second, .val (.long p1), .second, .val (.long p2), .second, .val (.long p3), .second, .val (.long p4), .second, .val (.long cc), .second, .val (.long ss), .second, .unset, .unset, .unset, .unset, .unset, .unset, .unset, .unset]) rfl ?_
  refine g_lload X0 hx (hb hby at_14) (pc' := 16) rfl rfl ?_
  refine g_ldc2_w X0 hx hZ hown (hw _ (List.mem_of_getElem? (i := 0) rfl)) (hb hby at_16) (pc' := 19) rfl ?_
  refine g_land X0 hx (hb hby at_19) (pc' := 20) rfl ?_
  obtain ⟨oo, eoo⟩ : ∃ z : Int64, z = (p2 &&& (9223372036854775807 : Int64)) := ⟨_, rfl⟩
  refine Go.cast (show (mkF m 20 #[.val (.long p0), .second, .val (.long p1), .second, .val (.long p2), .second, .val (.long p3), .second, .val (.long p4), .second, .val (.long cc), .second, .val (.long ss), .second, .unset, .unset, .unset, .unset, .unset, .unset, .unset, .unset] [(.long (p2 &&& (9223372036854775807 : Int64)))]) = (mkF m 20 #[.val (.long p0), .second, .val (.long p1), .second, .val (.long p2), .second, .val (.long p3), .second, .val (.long p4), .second, .val (.long cc), .second, .val (.long ss), .second, .unset, .unset, .unset, .unset, .unset, .unset, .unset, .unset] [(.long oo)]) from by rw [eoo]) ?_
  refine g_lstore X0 hx (hb hby at_20) (pc' := 22) rfl (Ls' := #[.val (.long p0), .second, .val (.long p1), .second, .val (.long p2), .second, .val (.long p3), .second, .val (.long p4), .second, .val (.long cc), .second, .val (.long ss), .second, .val (.long oo), .second, .unset, .unset, .unset, .unset, .unset, .unset]) rfl ?_
  refine g_lload X0 hx (hb hby at_22) (pc' := 24) rfl rfl ?_
  refine g_ldc2_w X0 hx hZ hown (hw _ (List.mem_of_getElem? (i := 0) rfl)) (hb hby at_24) (pc' := 27) rfl ?_
  refine g_land X0 hx (hb hby at_27) (pc' := 28) rfl ?_
  obtain ⟨gg, egg⟩ : ∃ z : Int64, z = (p3 &&& (9223372036854775807 : Int64)) := ⟨_, rfl⟩
  refine Go.cast (show (mkF m 28 #[.val (.long p0), .second, .val (.long p1), .second, .val (.long p2), .second, .val (.long p3), .second, .val (.long p4), .second, .val (.long cc), .second, .val (.long ss), .second, .val (.long oo), .second, .unset, .unset, .unset, .unset, .unset, .unset] [(.long (p3 &&& (9223372036854775807 : Int64)))]) = (mkF m 28 #[.val (.long p0), .second, .val (.long p1), .second, .val (.long p2), .second, .val (.long p3), .second, .val (.long p4), .second, .val (.long cc), .second, .val (.long ss), .second, .val (.long oo), .second, .unset, .unset, .unset, .unset, .unset, .unset] [(.long gg)]) from by rw [egg]) ?_
  refine g_lstore X0 hx (hb hby at_28) (pc' := 30) rfl (Ls' := #[.val (.long p0), .second, .val (.long p1), .second, .val (.long p2), .second, .val (.long p3), .second, .val (.long p4), .second, .val (.long cc), .second, .val (.long ss), .second, .val (.long oo), .second, .val (.long gg), .second, .unset, .unset, .unset, .unset]) rfl ?_
  refine g_lload X0 hx (hb hby at_30) (pc' := 32) rfl rfl ?_
  refine g_ldc2_w X0 hx hZ hown (hw _ (List.mem_of_getElem? (i := 0) rfl)) (hb hby at_32) (pc' := 35) rfl ?_
  refine g_land X0 hx (hb hby at_35) (pc' := 36) rfl ?_
  obtain ⟨tt, ett⟩ : ∃ z : Int64, z = (p4 &&& (9223372036854775807 : Int64)) := ⟨_, rfl⟩
  refine Go.cast (show (mkF m 36 #[.val (.long p0), .second, .val (.long p1), .second, .val (.long p2), .second, .val (.long p3), .second, .val (.long p4), .second, .val (.long cc), .second, .val (.long ss), .second, .val (.long oo), .second, .val (.long gg), .second, .unset, .unset, .unset, .unset] [(.long (p4 &&& (9223372036854775807 : Int64)))]) = (mkF m 36 #[.val (.long p0), .second, .val (.long p1), .second, .val (.long p2), .second, .val (.long p3), .second, .val (.long p4), .second, .val (.long cc), .second, .val (.long ss), .second, .val (.long oo), .second, .val (.long gg), .second, .unset, .unset, .unset, .unset] [(.long tt)]) from by rw [ett]) ?_
  refine g_lstore X0 hx (hb hby at_36) (pc' := 38) rfl (Ls' := #[.val (.long p0), .second, .val (.long p1), .second, .val (.long p2), .second, .val (.long p3), .second, .val (.long p4), .second, .val (.long cc), .second, .val (.long ss), .second, .val (.long oo), .second, .val (.long gg), .second, .val (.long tt), .second, .unset, .unset]) rfl ?_
  obtain ⟨T213, h213, X213, e213, E213, A213, D213, -, st213⟩ := newO X0 hx hZ hown (hw _ (List.mem_of_getElem? (i := 1) rfl)) (hw _ (List.mem_of_getElem? (i := 2) rfl)) (hw _ (List.mem_of_getElem? (i := 3) rfl)) e0 (g := (mkF m 38 #[.val (.long p0), .second, .val (.long p1), .second, .val (.long p2), .second, .val (.long p3), .second, .val (.long p4), .second, .val (.long cc), .second, .val (.long ss), .second, .val (.long oo), .second, .val (.long gg), .second, .val (.long tt), .second, .unset, .unset] [])) rfl (hb hby at_38) (by decide) (by decide)
  obtain ⟨b213, g213⟩ : ∃ z, z = h0.size := ⟨_, rfl⟩
  rw [← g213] at A213 D213 st213
  have ge214 : n0 ≤ b213 := g213 ▸ Z0
  have Z215 : n0 ≤ h213.size := Nat.le_trans Z0 E213.1
  have f216 : Fld Z h213 b213 "com/example/stratasig/stratasig/index/GapCoding$Tally" "count" "J" (.long (0 : Int64)) := D213 (Or.inr (hw _ (List.mem_of_getElem? (i := 11) rfl))) (ty := .long) (by decide)
  have f217 : Fld Z h213 b213 "com/example/stratasig/stratasig/index/GapCoding$Tally" "sum" "J" (.long (0 : Int64)) := D213 (Or.inr (hw _ (List.mem_of_getElem? (i := 13) rfl))) (ty := .long) (by decide)
  have f218 : Fld Z h213 b213 "com/example/stratasig/stratasig/index/GapCoding$Tally" "lowest" "I" (.int (0 : Int32)) := D213 (Or.inr (hw _ (List.mem_of_getElem? (i := 27) rfl))) (ty := .int) (by decide)
  have f219 : Fld Z h213 b213 "com/example/stratasig/stratasig/index/GapCoding$Tally" "atLowest" "J" (.long (0 : Int64)) := D213 (Or.inl (hw _ (List.mem_of_getElem? (i := 34) rfl))) (ty := .long) (by decide)
  have f220 : Fld Z h213 b213 "com/example/stratasig/stratasig/index/GapCoding$Tally" "oneAbove" "J" (.long (0 : Int64)) := D213 (Or.inl (hw _ (List.mem_of_getElem? (i := 36) rfl))) (ty := .long) (by decide)
  have f221 : Fld Z h213 b213 "com/example/stratasig/stratasig/index/GapCoding$Tally" "twoAbove" "J" (.long (0 : Int64)) := D213 (Or.inl (hw _ (List.mem_of_getElem? (i := 38) rfl))) (ty := .long) (by decide)
  refine Go.movp st213 (mkF m 41 #[.val (.long p0), .second, .val (.long p1), .second, .val (.long p2), .second, .val (.long p3), .second, .val (.long p4), .second, .val (.long cc), .second, .val (.long ss), .second, .val (.long oo), .second, .val (.long gg), .second, .val (.long tt), .second, .unset, .unset] [(.ref b213)]) rfl ?_
  refine g_dup X213 hx (hb hby at_41) (pc' := 42) rfl rfl ?_
  refine g_lload X213 hx (hb hby at_42) (pc' := 44) rfl rfl ?_
  refine g_lload X213 hx (hb hby at_44) (pc' := 46) rfl rfl ?_
  obtain ⟨v222, T222, h222, L222, X222, e222, N222, q222, st222⟩ := h_special (a := b213) X213 hx (W := 1) (Ls := #[.val (.long p0), .second, .val (.long p1), .second, .val (.long p2), .second, .val (.long p3), .second, .val (.long p4), .second, .val (.long cc), .second, .val (.long ss), .second, .val (.long oo), .second, .val (.long gg), .second, .val (.long tt), .second, .unset, .unset]) (argsL := [(.long cc), (.long ss)]) (rest := [(.ref b213)]) hZ e213 N0 hml hown rfl (rm1 l Z a0 hw b213 cc ss h213 n0 Z215 f216 f217 f218 f219 f220 f221 A213 ge214) (hw _ (List.mem_of_getElem? (i := 4) rfl)) (hw _ (List.mem_of_getElem? (i := 5) rfl)) (hw _ (List.mem_of_getElem? (i := 3) rfl)) (hw _ (List.mem_of_getElem? (i := 6) rfl)) (by decide) pd__JJ_V rfl rfl (hb hby at_46) rfl (by decide) (by decide) (by decide) (by decide)
  obtain ⟨rfl, K222, A222, C222, L222, P222, Q222, R222⟩ := q222
  have f223 := A213.keep K222
  have Z224 : n0 ≤ h222.size := Nat.le_trans Z215 K222.1
  refine Go.movp st222 (mkF m 49 #[.val (.long p0), .second, .val (.long p1), .second, .val (.long p2), .second, .val (.long p3), .second, .val (.long p4), .second, .val (.long cc), .second, .val (.long ss), .second, .val (.long oo), .second, .val (.long gg), .second, .val (.long tt), .second, .unset, .unset] [(.ref b213)]) rfl ?_
  refine g_astore X222 hx (hb hby at_49) (pc' := 51) rfl rfl (Ls' := #[.val (.long p0), .second, .val (.long p1), .second, .val (.long p2), .second, .val (.long p3), .second, .val (.long p4), .second, .val (.long cc), .second, .val (.long ss), .second, .val (.long oo), .second, .val (.long gg), .second, .val (.long tt), .second, .val (.ref b213), .unset]) rfl ?_
  obtain ⟨T225, h225, X225, e225, E225, A225, D225, -, st225⟩ := newO X222 hx hZ hown (hw _ (List.mem_of_getElem? (i := 1) rfl)) (hw _ (List.mem_of_getElem? (i := 2) rfl)) (hw _ (List.mem_of_getElem? (i := 3) rfl)) e222 (g := (mkF m 51 #[.val (.long p0), .second, .val (.long p1), .second, .val (.long p2), .second, .val (.long p3), .second, .val (.long p4), .second, .val (.long cc), .second, .val (.long ss), .second, .val (.long oo), .second, .val (.long gg), .second, .val (.long tt), .second, .val (.ref b213), .unset] [])) rfl (hb hby at_51) (by decide) (by decide)
  obtain ⟨b225, g225⟩ : ∃ z, z = h222.size := ⟨_, rfl⟩
  rw [← g225] at A225 D225 st225
  have ne226 : b213 ≠ b225 := Nat.ne_of_lt (g225 ▸ A222.lt)
  have ge227 : n0 ≤ b225 := g225 ▸ Z224
  have f228 := Exa.ext E225 A222
  have f229 := Fld.ext E225 C222
  have f230 := Fld.ext E225 L222
  have f231 := Fld.ext E225 P222
  have f232 := Fld.ext E225 Q222
  have f233 := Fld.ext E225 R222
  have Z234 : n0 ≤ h225.size := Nat.le_trans Z224 E225.1
  have f235 : Fld Z h225 b225 "com/example/stratasig/stratasig/index/GapCoding$Tally" "count" "J" (.long (0 : Int64)) := D225 (Or.inr (hw _ (List.mem_of_getElem? (i := 11) rfl))) (ty := .long) (by decide)
  have f236 : Fld Z h225 b225 "com/example/stratasig/stratasig/index/GapCoding$Tally" "sum" "J" (.long (0 : Int64)) := D225 (Or.inr (hw _ (List.mem_of_getElem? (i := 13) rfl))) (ty := .long) (by decide)
  have f237 : Fld Z h225 b225 "com/example/stratasig/stratasig/index/GapCoding$Tally" "lowest" "I" (.int (0 : Int32)) := D225 (Or.inr (hw _ (List.mem_of_getElem? (i := 27) rfl))) (ty := .int) (by decide)
  have f238 : Fld Z h225 b225 "com/example/stratasig/stratasig/index/GapCoding$Tally" "atLowest" "J" (.long (0 : Int64)) := D225 (Or.inl (hw _ (List.mem_of_getElem? (i := 34) rfl))) (ty := .long) (by decide)
  have f239 : Fld Z h225 b225 "com/example/stratasig/stratasig/index/GapCoding$Tally" "oneAbove" "J" (.long (0 : Int64)) := D225 (Or.inl (hw _ (List.mem_of_getElem? (i := 36) rfl))) (ty := .long) (by decide)
  have f240 : Fld Z h225 b225 "com/example/stratasig/stratasig/index/GapCoding$Tally" "twoAbove" "J" (.long (0 : Int64)) := D225 (Or.inl (hw _ (List.mem_of_getElem? (i := 38) rfl))) (ty := .long) (by decide)
  refine Go.movp st225 (mkF m 54 #[.val (.long p0), .second, .val (.long p1), .second, .val (.long p2), .second, .val (.long p3), .second, .val (.long p4), .second, .val (.long cc), .second, .val (.long ss), .second, .val (.long oo), .second, .val (.long gg), .second, .val (.long tt), .second, .val (.ref b213), .unset] [(.ref b225)]) rfl ?_
  refine g_dup X225 hx (hb hby at_54) (pc' := 55) rfl rfl ?_
  refine g_lload X225 hx (hb hby at_55) (pc' := 57) rfl rfl ?_
  refine g_lload X225 hx (hb hby at_57) (pc' := 59) rfl rfl ?_
  obtain ⟨v241, T241, h241, L241, X241, e241, N241, q241, st241⟩ := h_special (a := b225) X225 hx (W := 1) (Ls := #[.val (.long p0), .second, .val (.long p1), .second, .val (.long p2), .second, .val (.long p3), .second, .val (.long p4), .second, .val (.long cc), .second, .val (.long ss), .second, .val (.long oo), .second, .val (.long gg), .second, .val (.long tt), .second, .val (.ref b213), .unset]) (argsL := [(.long cc), (.long ss)]) (rest := [(.ref b225)]) hZ e225 N222 hml hown rfl (rm1 l Z a0 hw b225 cc ss h225 n0 Z234 f235 f236 f237 f238 f239 f240 A225 ge227) (hw _ (List.mem_of_getElem? (i := 4) rfl)) (hw _ (List.mem_of_getElem? (i := 5) rfl)) (hw _ (List.mem_of_getElem? (i := 3) rfl)) (hw _ (List.mem_of_getElem? (i := 6) rfl)) (by decide) pd__JJ_V rfl rfl (hb hby at_59) rfl (by decide) (by decide) (by decide) (by decide)
  obtain ⟨rfl, K241, A241, C241, L241, P241, Q241, R241⟩ := q241
  have f242 := f228.keep K241
  have f243 := f229.keep K241 (ninS ne226 nin0)
  have f244 := f230.keep K241 (ninS ne226 nin0)
  have f245 := f231.keep K241 (ninS ne226 nin0)
  have f246 := f232.keep K241 (ninS ne226 nin0)
  have f247 := f233.keep K241 (ninS ne226 nin0)
  have f248 := A225.keep K241
  have Z249 : n0 ≤ h241.size := Nat.le_trans Z234 K241.1
  refine Go.movp st241 (mkF m 62 #[.val (.long p0), .second, .val (.long p1), .second, .val (.long p2), .second, .val (.long p3), .second, .val (.long p4), .second, .val (.long cc), .second, .val (.long ss), .second, .val (.long oo), .second, .val (.long gg), .second, .val (.long tt), .second, .val (.ref b213), .unset] [(.ref b225)]) rfl ?_
  refine g_astore X241 hx (hb hby at_62) (pc' := 64) rfl rfl (Ls' := #[.val (.long p0), .second, .val (.long p1), .second, .val (.long p2), .second, .val (.long p3), .second, .val (.long p4), .second, .val (.long cc), .second, .val (.long ss), .second, .val (.long oo), .second, .val (.long gg), .second, .val (.long tt), .second, .val (.ref b213), .val (.ref b225)]) rfl ?_
  refine g_aload X241 hx (hb hby at_64) (pc' := 66) rfl rfl rfl ?_
  refine g_lload X241 hx (hb hby at_66) (pc' := 68) rfl rfl ?_
  obtain ⟨v250, T250, h250, L250, X250, e250, N250, q250, st250⟩ := h_virtual (a := b213) (z := (⟨"com/example/stratasig/stratasig/index/GapCoding$Tally", "add", "(J)V"⟩ : MethodName)) X241 hx (W := 0) (Ls := #[.val (.long p0), .second, .val (.long p1), .second, .val (.long p2), .second, .val (.long p3), .second, .val (.long p4), .second, .val (.long cc), .second, .val (.long ss), .second, .val (.long oo), .second, .val (.long gg), .second, .val (.long tt), .second, .val (.ref b213), .val (.ref b225)]) (argsL := [(.long oo)]) (rest := []) hZ e241 N241 hml hown (rm6 l Z a0 hw b213 cc (lowV cc ss) (0 : Int64) (0 : Int64) (0 : Int64) oo h241 n0 Z249 f243 f244 f245 f246 f247 f242 ge214) f242 (hw _ (List.mem_of_getElem? (i := 28) rfl)) (hw _ (List.mem_of_getElem? (i := 29) rfl)) (notFace_of_selects (args := #[]) (mvT hZ (hw _ (List.mem_of_getElem? (i := 31) rfl)))) (hw _ (List.mem_of_getElem? (i := 31) rfl)) (hw _ (List.mem_of_getElem? (i := 30) rfl)) (hw _ (List.mem_of_getElem? (i := 3) rfl)) (hw _ (List.mem_of_getElem? (i := 32) rfl)) (by decide) pd__J_V rfl rfl (hb hby at_68) rfl (by decide) (by decide) (by decide) (by decide)
  obtain ⟨rfl, K250, A250, C250, L250, P250, Q250, R250⟩ := q250
  have f251 := f242.keep K250
  have f252 := A241.keep K250
  have f253 := C241.keep K250 (ninS (Ne.symm ne226) nin0)
  have f254 := L241.keep K250 (ninS (Ne.symm ne226) nin0)
  have f255 := P241.keep K250 (ninS (Ne.symm ne226) nin0)
  have f256 := Q241.keep K250 (ninS (Ne.symm ne226) nin0)
  have f257 := R241.keep K250 (ninS (Ne.symm ne226) nin0)
  have Z258 : n0 ≤ h250.size := Nat.le_trans Z249 K250.1
  refine Go.movp st250 (mkF m 71 #[.val (.long p0), .second, .val (.long p1), .second, .val (.long p2), .second, .val (.long p3), .second, .val (.long p4), .second, .val (.long cc), .second, .val (.long ss), .second, .val (.long oo), .second, .val (.long gg), .second, .val (.long tt), .second, .val (.ref b213), .val (.ref b225)] []) rfl ?_
  refine g_aload X250 hx (hb hby at_71) (pc' := 73) rfl rfl rfl ?_
  refine g_lload X250 hx (hb hby at_73) (pc' := 75) rfl rfl ?_
  obtain ⟨v259, T259, h259, L259, X259, e259, N259, q259, st259⟩ := h_virtual (a := b225) (z := (⟨"com/example/stratasig/stratasig/index/GapCoding$Tally", "add", "(J)V"⟩ : MethodName)) X250 hx (W := 0) (Ls := #[.val (.long p0), .second, .val (.long p1), .second, .val (.long p2), .second, .val (.long p3), .second, .val (.long p4), .second, .val (.long cc), .second, .val (.long ss), .second, .val (.long oo), .second, .val (.long gg), .second, .val (.long tt), .second, .val (.ref b213), .val (.ref b225)]) (argsL := [(.long oo)]) (rest := []) hZ e250 N250 hml hown (rm6 l Z a0 hw b225 cc (lowV cc ss) (0 : Int64) (0 : Int64) (0 : Int64) oo h250 n0 Z258 f253 f254 f255 f256 f257 f252 ge227) f252 (hw _ (List.mem_of_getElem? (i := 28) rfl)) (hw _ (List.mem_of_getElem? (i := 29) rfl)) (notFace_of_selects (args := #[]) (mvT hZ (hw _ (List.mem_of_getElem? (i := 31) rfl)))) (hw _ (List.mem_of_getElem? (i := 31) rfl)) (hw _ (List.mem_of_getElem? (i := 30) rfl)) (hw _ (List.mem_of_getElem? (i := 3) rfl)) (hw _ (List.mem_of_getElem? (i := 32) rfl)) (by decide) pd__J_V rfl rfl (hb hby at_75) rfl (by decide) (by decide) (by decide) (by decide)
  obtain ⟨rfl, K259, A259, C259, L259, P259, Q259, R259⟩ := q259
  have f260 := A250.keep K259
  have f261 := f252.keep K259
  have f262 := C250.keep K259 (ninS ne226 nin0)
  have f263 := L250.keep K259 (ninS ne226 nin0)
  have f264 := P250.keep K259 (ninS ne226 nin0)
  have f265 := Q250.keep K259 (ninS ne226 nin0)
  have f266 := R250.keep K259 (ninS ne226 nin0)
  have Z267 : n0 ≤ h259.size := Nat.le_trans Z258 K259.1
  refine Go.movp st259 (mkF m 78 #[.val (.long p0), .second, .val (.long p1), .second, .val (.long p2), .second, .val (.long p3), .second, .val (.long p4), .second, .val (.long cc), .second, .val (.long ss), .second, .val (.long oo), .second, .val (.long gg), .second, .val (.long tt), .second, .val (.ref b213), .val (.ref b225)] []) rfl ?_
  refine g_aload X259 hx (hb hby at_78) (pc' := 80) rfl rfl rfl ?_
  refine g_lload X259 hx (hb hby at_80) (pc' := 82) rfl rfl ?_
  refine g_lload X259 hx (hb hby at_82) (pc' := 84) rfl rfl ?_
  obtain ⟨v268, T268, h268, L268, X268, e268, N268, q268, st268⟩ := h_virtual (a := b213) (z := (⟨"com/example/stratasig/stratasig/index/GapCoding$Tally", "add", "(JJ)V"⟩ : MethodName)) X259 hx (W := 0) (Ls := #[.val (.long p0), .second, .val (.long p1), .second, .val (.long p2), .second, .val (.long p3), .second, .val (.long p4), .second, .val (.long cc), .second, .val (.long ss), .second, .val (.long oo), .second, .val (.long gg), .second, .val (.long tt), .second, .val (.ref b213), .val (.ref b225)]) (argsL := [(.long gg), (.long tt)]) (rest := []) hZ e259 N259 hml hown (rm7 l Z a0 hw b213 cc (lowV cc ss) ((0 : Int64) + (lushr oo (lowV cc ss))) ((0 : Int64) + (lushr (lushr oo (lowV cc ss)) (1 : Int32))) ((0 : Int64) + (lushr (lushr oo (lowV cc ss)) (2 : Int32))) gg tt h259 n0 Z267 f262 f263 f264 f265 f266 f260 ge214) f260 (hw _ (List.mem_of_getElem? (i := 39) rfl)) (hw _ (List.mem_of_getElem? (i := 40) rfl)) (notFace_of_selects (args := #[]) (mvT hZ (hw _ (List.mem_of_getElem? (i := 42) rfl)))) (hw _ (List.mem_of_getElem? (i := 42) rfl)) (hw _ (List.mem_of_getElem? (i := 41) rfl)) (hw _ (List.mem_of_getElem? (i := 3) rfl)) (hw _ (List.mem_of_getElem? (i := 43) rfl)) (by decide) pd__JJ_V rfl rfl (hb hby at_84) rfl (by decide) (by decide) (by decide) (by decide)
  obtain ⟨rfl, K268, A268, C268, L268, P268, Q268, R268⟩ := q268
  have f269 := f260.keep K268
  have f270 := A259.keep K268
  have f271 := C259.keep K268 (ninS (Ne.symm ne226) nin0)
  have f272 := L259.keep K268 (ninS (Ne.symm ne226) nin0)
  have f273 := P259.keep K268 (ninS (Ne.symm ne226) nin0)
  have f274 := Q259.keep K268 (ninS (Ne.symm ne226) nin0)
  have f275 := R259.keep K268 (ninS (Ne.symm ne226) nin0)
  have Z276 : n0 ≤ h268.size := Nat.le_trans Z267 K268.1
  refine Go.movp st268 (mkF m 87 #[.val (.long p0), .second, .val (.long p1), .second, .val (.long p2), .second, .val (.long p3), .second, .val (.long p4), .second, .val (.long cc), .second, .val (.long ss), .second, .val (.long oo), .second, .val (.long gg), .second, .val (.long tt), .second, .val (.ref b213), .val (.ref b225)] []) rfl ?_
  refine g_lload X268 hx (hb hby at_87) (pc' := 89) rfl rfl ?_
  refine g_lconst X268 hx (hb hby at_89) (pc' := 90) rfl (z := (0 : Int64)) rfl ?_
  refine g_lcmp_eq X268 hx (hb hby at_90) (pc' := 91) rfl (hb hby at_91) (pc1 := 94) rfl (by decide) (pc2 := 112) (by decide) (fun hc90 => ?_) (fun hc90 => ?_)
  · skip
    refine g_aload X268 hx (hb hby at_112) (pc' := 114) rfl rfl rfl ?_
    obtain ⟨v277, T277, h277, L277, X277, e277, N277, q277, st277⟩ := h_virtual (a := b213) (z := (⟨"com/example/stratasig/stratasig/index/GapCoding$Tally", "bits", "()J"⟩ : MethodName)) X268 hx (W := 0) (Ls := #[.val (.long p0), .second, .val (.long p1), .second, .val (.long p2), .second, .val (.long p3), .second, .val (.long p4), .second, .val (.long cc), .second, .val (.long ss), .second, .val (.long oo), .second, .val (.long gg), .second, .val (.long tt), .second, .val (.ref b213), .val (.ref b225)]) (argsL := []) (rest := []) hZ e268 N268 hml hown (rm8 l Z a0 hw b213 cc (lowV cc ss) (((0 : Int64) + (lushr oo (lowV cc ss))) + ((lushr gg (lowV cc ss)) * tt)) (((0 : Int64) + (lushr (lushr oo (lowV cc ss)) (1 : Int32))) + ((lushr (lushr gg (lowV cc ss)) (1 : Int32)) * tt)) (((0 : Int64) + (lushr (lushr oo (lowV cc ss)) (2 : Int32))) + ((lushr (lushr gg (lowV cc ss)) (2 : Int32)) * tt)) h268 n0 Z276 C268 L268 P268 Q268 R268 A268) A268 (hw _ (List.mem_of_getElem? (i := 44) rfl)) (hw _ (List.mem_of_getElem? (i := 45) rfl)) (notFace_of_selects (args := #[]) (mvT hZ (hw _ (List.mem_of_getElem? (i := 47) rfl)))) (hw _ (List.mem_of_getElem? (i := 47) rfl)) (hw _ (List.mem_of_getElem? (i := 46) rfl)) (hw _ (List.mem_of_getElem? (i := 3) rfl)) (hw _ (List.mem_of_getElem? (i := 48) rfl)) (by decide) pd___J rfl rfl (hb hby at_114) rfl (by decide) (by decide) (by decide) (by decide)
    obtain ⟨rfl, K277⟩ := q277
    have f278 := A268.keep K277
    have f279 := f270.keep K277
    have f280 := f271.keep K277 nin0
    have f281 := f272.keep K277 nin0
    have f282 := f273.keep K277 nin0
    have f283 := f274.keep K277 nin0
    have f284 := f275.keep K277 nin0
    have f285 := C268.keep K277 nin0
    have f286 := L268.keep K277 nin0
    have f287 := P268.keep K277 nin0
    have f288 := Q268.keep K277 nin0
    have f289 := R268.keep K277 nin0
    have Z290 : n0 ≤ h277.size := Nat.le_trans Z276 K277.1
    refine Go.movp st277 (mkF m 117 #[.val (.long p0), .second, .val (.long p1), .second, .val (.long p2), .second, .val (.long p3), .second, .val (.long p4), .second, .val (.long cc), .second, .val (.long ss), .second, .val (.long oo), .second, .val (.long gg), .second, .val (.long tt), .second, .val (.ref b213), .val (.ref b225)] [(.long (bitsV cc (lowV cc ss) (((0 : Int64) + (lushr oo (lowV cc ss))) + ((lushr gg (lowV cc ss)) * tt)) (((0 : Int64) + (lushr (lushr oo (lowV cc ss)) (1 : Int32))) + ((lushr (lushr gg (lowV cc ss)) (1 : Int32)) * tt)) (((0 : Int64) + (lushr (lushr oo (lowV cc ss)) (2 : Int32))) + ((lushr (lushr gg (lowV cc ss)) (2 : Int32)) * tt))))]) rfl ?_
    refine g_aload X277 hx (hb hby at_117) (pc' := 119) rfl rfl rfl ?_
    obtain ⟨v291, T291, h291, L291, X291, e291, N291, q291, st291⟩ := h_virtual (a := b225) (z := (⟨"com/example/stratasig/stratasig/index/GapCoding$Tally", "bits", "()J"⟩ : MethodName)) X277 hx (W := 2) (Ls := #[.val (.long p0), .second, .val (.long p1), .second, .val (.long p2), .second, .val (.long p3), .second, .val (.long p4), .second, .val (.long cc), .second, .val (.long ss), .second, .val (.long oo), .second, .val (.long gg), .second, .val (.long tt), .second, .val (.ref b213), .val (.ref b225)]) (argsL := []) (rest := [(.long (bitsV cc (lowV cc ss) (((0 : Int64) + (lushr oo (lowV cc ss))) + ((lushr gg (lowV cc ss)) * tt)) (((0 : Int64) + (lushr (lushr oo (lowV cc ss)) (1 : Int32))) + ((lushr (lushr gg (lowV cc ss)) (1 : Int32)) * tt)) (((0 : Int64) + (lushr (lushr oo (lowV cc ss)) (2 : Int32))) + ((lushr (lushr gg (lowV cc ss)) (2 : Int32)) * tt))))]) hZ e277 N277 hml hown (rm8 l Z a0 hw b225 cc (lowV cc ss) ((0 : Int64) + (lushr oo (lowV cc ss))) ((0 : Int64) + (lushr (lushr oo (lowV cc ss)) (1 : Int32))) ((0 : Int64) + (lushr (lushr oo (lowV cc ss)) (2 : Int32))) h277 n0 Z290 f280 f281 f282 f283 f284 f279) f279 (hw _ (List.mem_of_getElem? (i := 44) rfl)) (hw _ (List.mem_of_getElem? (i := 45) rfl)) (notFace_of_selects (args := #[]) (mvT hZ (hw _ (List.mem_of_getElem? (i := 47) rfl)))) (hw _ (List.mem_of_getElem? (i := 47) rfl)) (hw _ (List.mem_of_getElem? (i := 46) rfl)) (hw _ (List.mem_of_getElem? (i := 3) rfl)) (hw _ (List.mem_of_getElem? (i := 48) rfl)) (by decide) pd___J rfl rfl (hb hby at_119) rfl (by decide) (by decide) (by decide) (by decide)
    obtain ⟨rfl, K291⟩ := q291
    have f292 := f278.keep K291
    have f293 := f279.keep K291
    have f294 := f280.keep K291 nin0
    have f295 := f281.keep K291 nin0
    have f296 := f282.keep K291 nin0
    have f297 := f283.keep K291 nin0
    have f298 := f284.keep K291 nin0
    have f299 := f285.keep K291 nin0
    have f300 := f286.keep K291 nin0
    have f301 := f287.keep K291 nin0
    have f302 := f288.keep K291 nin0
    have f303 := f289.keep K291 nin0
    have Z304 : n0 ≤ h291.size := Nat.le_trans Z290 K291.1
    refine Go.movp st291 (mkF m 122 #[.val (.long p0), .second, .val (.long p1), .second, .val (.long p2), .second, .val (.long p3), .second, .val (.long p4), .second, .val (.long cc), .second, .val (.long ss), .second, .val (.long oo), .second, .val (.long gg), .second, .val (.long tt), .second, .val (.ref b213), .val (.ref b225)] [(.long (bitsV cc (lowV cc ss) ((0 : Int64) + (lushr oo (lowV cc ss))) ((0 : Int64) + (lushr (lushr oo (lowV cc ss)) (1 : Int32))) ((0 : Int64) + (lushr (lushr oo (lowV cc ss)) (2 : Int32))))), (.long (bitsV cc (lowV cc ss) (((0 : Int64) + (lushr oo (lowV cc ss))) + ((lushr gg (lowV cc ss)) * tt)) (((0 : Int64) + (lushr (lushr oo (lowV cc ss)) (1 : Int32))) + ((lushr (lushr gg (lowV cc ss)) (1 : Int32)) * tt)) (((0 : Int64) + (lushr (lushr oo (lowV cc ss)) (2 : Int32))) + ((lushr (lushr gg (lowV cc ss)) (2 : Int32)) * tt))))]) rfl ?_
    refine g_lcmp_ne X291 hx (hb hby at_122) (pc' := 123) rfl (hb hby at_123) (pc1 := 126) rfl (by decide) (pc2 := 143) (by decide) (fun hc122 => absurd (own_bits (own_eq0 _ _ hc90) (own_eq0 _ _ hc90) (own_eq0 _ _ hc90)) hc122) (fun hc122 => ?_)
    refine g_aload X291 hx (hb hby at_126) (pc' := 128) rfl rfl rfl ?_
    obtain ⟨v305, T305, h305, L305, X305, e305, N305, q305, st305⟩ := h_virtual (a := b213) (z := (⟨"com/example/stratasig/stratasig/index/GapCoding$Tally", "parameter", "()I"⟩ : MethodName)) X291 hx (W := 0) (Ls := #[.val (.long p0), .second, .val (.long p1), .second, .val (.long p2), .second, .val (.long p3), .second, .val (.long p4), .second, .val (.long cc), .second, .val (.long ss), .second, .val (.long oo), .second, .val (.long gg), .second, .val (.long tt), .second, .val (.ref b213), .val (.ref b225)]) (argsL := []) (rest := []) hZ e291 N291 hml hown (rm11 l Z a0 hw b213 cc (lowV cc ss) (((0 : Int64) + (lushr oo (lowV cc ss))) + ((lushr gg (lowV cc ss)) * tt)) (((0 : Int64) + (lushr (lushr oo (lowV cc ss)) (1 : Int32))) + ((lushr (lushr gg (lowV cc ss)) (1 : Int32)) * tt)) (((0 : Int64) + (lushr (lushr oo (lowV cc ss)) (2 : Int32))) + ((lushr (lushr gg (lowV cc ss)) (2 : Int32)) * tt)) h291 n0 Z304 f299 f300 f301 f302 f303 f292) f292 (hw _ (List.mem_of_getElem? (i := 58) rfl)) (hw _ (List.mem_of_getElem? (i := 59) rfl)) (notFace_of_selects (args := #[]) (mvT hZ (hw _ (List.mem_of_getElem? (i := 61) rfl)))) (hw _ (List.mem_of_getElem? (i := 61) rfl)) (hw _ (List.mem_of_getElem? (i := 60) rfl)) (hw _ (List.mem_of_getElem? (i := 3) rfl)) (hw _ (List.mem_of_getElem? (i := 62) rfl)) (by decide) pd___I rfl rfl (hb hby at_128) rfl (by decide) (by decide) (by decide) (by decide)
    obtain ⟨rfl, K305⟩ := q305
    have f306 := f292.keep K305
    have f307 := f293.keep K305
    have f308 := f294.keep K305 nin0
    have f309 := f295.keep K305 nin0
    have f310 := f296.keep K305 nin0
    have f311 := f297.keep K305 nin0
    have f312 := f298.keep K305 nin0
    have f313 := f299.keep K305 nin0
    have f314 := f300.keep K305 nin0
    have f315 := f301.keep K305 nin0
    have f316 := f302.keep K305 nin0
    have f317 := f303.keep K305 nin0
    have Z318 : n0 ≤ h305.size := Nat.le_trans Z304 K305.1
    refine Go.movp st305 (mkF m 131 #[.val (.long p0), .second, .val (.long p1), .second, .val (.long p2), .second, .val (.long p3), .second, .val (.long p4), .second, .val (.long cc), .second, .val (.long ss), .second, .val (.long oo), .second, .val (.long gg), .second, .val (.long tt), .second, .val (.ref b213), .val (.ref b225)] [(.int ((lowV cc ss) + (bestV cc (((0 : Int64) + (lushr oo (lowV cc ss))) + ((lushr gg (lowV cc ss)) * tt)) (((0 : Int64) + (lushr (lushr oo (lowV cc ss)) (1 : Int32))) + ((lushr (lushr gg (lowV cc ss)) (1 : Int32)) * tt)) (((0 : Int64) + (lushr (lushr oo (lowV cc ss)) (2 : Int32))) + ((lushr (lushr gg (lowV cc ss)) (2 : Int32)) * tt)))))]) rfl ?_
    refine g_aload X305 hx (hb hby at_131) (pc' := 133) rfl rfl rfl ?_
    obtain ⟨v319, T319, h319, L319, X319, e319, N319, q319, st319⟩ := h_virtual (a := b225) (z := (⟨"com/example/stratasig/stratasig/index/GapCoding$Tally", "parameter", "()I"⟩ : MethodName)) X305 hx (W := 1) (Ls := #[.val (.long p0), .second, .val (.long p1), .second, .val (.long p2), .second, .val (.long p3), .second, .val (.long p4), .second, .val (.long cc), .second, .val (.long ss), .second, .val (.long oo), .second, .val (.long gg), .second, .val (.long tt), .second, .val (.ref b213), .val (.ref b225)]) (argsL := []) (rest := [(.int ((lowV cc ss) + (bestV cc (((0 : Int64) + (lushr oo (lowV cc ss))) + ((lushr gg (lowV cc ss)) * tt)) (((0 : Int64) + (lushr (lushr oo (lowV cc ss)) (1 : Int32))) + ((lushr (lushr gg (lowV cc ss)) (1 : Int32)) * tt)) (((0 : Int64) + (lushr (lushr oo (lowV cc ss)) (2 : Int32))) + ((lushr (lushr gg (lowV cc ss)) (2 : Int32)) * tt)))))]) hZ e305 N305 hml hown (rm11 l Z a0 hw b225 cc (lowV cc ss) ((0 : Int64) + (lushr oo (lowV cc ss))) ((0 : Int64) + (lushr (lushr oo (lowV cc ss)) (1 : Int32))) ((0 : Int64) + (lushr (lushr oo (lowV cc ss)) (2 : Int32))) h305 n0 Z318 f308 f309 f310 f311 f312 f307) f307 (hw _ (List.mem_of_getElem? (i := 58) rfl)) (hw _ (List.mem_of_getElem? (i := 59) rfl)) (notFace_of_selects (args := #[]) (mvT hZ (hw _ (List.mem_of_getElem? (i := 61) rfl)))) (hw _ (List.mem_of_getElem? (i := 61) rfl)) (hw _ (List.mem_of_getElem? (i := 60) rfl)) (hw _ (List.mem_of_getElem? (i := 3) rfl)) (hw _ (List.mem_of_getElem? (i := 62) rfl)) (by decide) pd___I rfl rfl (hb hby at_133) rfl (by decide) (by decide) (by decide) (by decide)
    obtain ⟨rfl, K319⟩ := q319
    have f320 := f306.keep K319
    have f321 := f307.keep K319
    have f322 := f308.keep K319 nin0
    have f323 := f309.keep K319 nin0
    have f324 := f310.keep K319 nin0
    have f325 := f311.keep K319 nin0
    have f326 := f312.keep K319 nin0
    have f327 := f313.keep K319 nin0
    have f328 := f314.keep K319 nin0
    have f329 := f315.keep K319 nin0
    have f330 := f316.keep K319 nin0
    have f331 := f317.keep K319 nin0
    have Z332 : n0 ≤ h319.size := Nat.le_trans Z318 K319.1
    refine Go.movp st319 (mkF m 136 #[.val (.long p0), .second, .val (.long p1), .second, .val (.long p2), .second, .val (.long p3), .second, .val (.long p4), .second, .val (.long cc), .second, .val (.long ss), .second, .val (.long oo), .second, .val (.long gg), .second, .val (.long tt), .second, .val (.ref b213), .val (.ref b225)] [(.int ((lowV cc ss) + (bestV cc ((0 : Int64) + (lushr oo (lowV cc ss))) ((0 : Int64) + (lushr (lushr oo (lowV cc ss)) (1 : Int32))) ((0 : Int64) + (lushr (lushr oo (lowV cc ss)) (2 : Int32)))))), (.int ((lowV cc ss) + (bestV cc (((0 : Int64) + (lushr oo (lowV cc ss))) + ((lushr gg (lowV cc ss)) * tt)) (((0 : Int64) + (lushr (lushr oo (lowV cc ss)) (1 : Int32))) + ((lushr (lushr gg (lowV cc ss)) (1 : Int32)) * tt)) (((0 : Int64) + (lushr (lushr oo (lowV cc ss)) (2 : Int32))) + ((lushr (lushr gg (lowV cc ss)) (2 : Int32)) * tt)))))]) rfl ?_
    refine g_icmp_ne X319 hx (hb hby at_136) (pc1 := 139) rfl (by decide) (pc2 := 143) (by decide) (fun hc136 => absurd (own_par (own_eq0 _ _ hc90) (own_eq0 _ _ hc90) (own_eq0 _ _ hc90)) hc136) (fun hc136 => ?_)
    refine g_iconst X319 hx (hb hby at_139) (pc' := 140) rfl (z := (1 : Int32)) rfl ?_
    refine g_goto X319 hx (hb hby at_140) (by decide) (pc' := 144) (by decide) ?_
    exact g_zreturn X319 hx rfl hret (hb hby at_144) N319 hlk (fun v t => endF (by decide) (by decide) v) (by rw [e319]; exact rfl)
  · skip
    refine g_aload X268 hx (hb hby at_94) (pc' := 96) rfl rfl rfl ?_
    refine g_lload X268 hx (hb hby at_96) (pc' := 98) rfl rfl ?_
    refine g_lload X268 hx (hb hby at_98) (pc' := 100) rfl rfl ?_
    refine g_lconst X268 hx (hb hby at_100) (pc' := 101) rfl (z := (1 : Int64)) rfl ?_
    refine g_lsub X268 hx (hb hby at_101) (pc' := 102) rfl ?_
    obtain ⟨v333, T333, h333, L333, X333, e333, N333, q333, st333⟩ := h_virtual (a := b225) (z := (⟨"com/example/stratasig/stratasig/index/GapCoding$Tally", "add", "(JJ)V"⟩ : MethodName)) X268 hx (W := 0) (Ls := #[.val (.long p0), .second, .val (.long p1), .second, .val (.long p2), .second, .val (.long p3), .second, .val (.long p4), .second, .val (.long cc), .second, .val (.long ss), .second, .val (.long oo), .second, .val (.long gg), .second, .val (.long tt), .second, .val (.ref b213), .val (.ref b225)]) (argsL := [(.long gg), (.long (tt - (1 : Int64)))]) (rest := []) hZ e268 N268 hml hown (rm7 l Z a0 hw b225 cc (lowV cc ss) ((0 : Int64) + (lushr oo (lowV cc ss))) ((0 : Int64) + (lushr (lushr oo (lowV cc ss)) (1 : Int32))) ((0 : Int64) + (lushr (lushr oo (lowV cc ss)) (2 : Int32))) gg (tt - (1 : Int64)) h268 n0 Z276 f271 f272 f273 f274 f275 f270 ge227) f270 (hw _ (List.mem_of_getElem? (i := 39) rfl)) (hw _ (List.mem_of_getElem? (i := 40) rfl)) (notFace_of_selects (args := #[]) (mvT hZ (hw _ (List.mem_of_getElem? (i := 42) rfl)))) (hw _ (List.mem_of_getElem? (i := 42) rfl)) (hw _ (List.mem_of_getElem? (i := 41) rfl)) (hw _ (List.mem_of_getElem? (i := 3) rfl)) (hw _ (List.mem_of_getElem? (i := 43) rfl)) (by decide) pd__JJ_V rfl rfl (hb hby at_102) rfl (by decide) (by decide) (by decide) (by decide)
    obtain ⟨rfl, K333, A333, C333, L333, P333, Q333, R333⟩ := q333
    have f334 := A268.keep K333
    have f335 := f270.keep K333
    have f336 := C268.keep K333 (ninS ne226 nin0)
    have f337 := L268.keep K333 (ninS ne226 nin0)
    have f338 := P268.keep K333 (ninS ne226 nin0)
    have f339 := Q268.keep K333 (ninS ne226 nin0)
    have f340 := R268.keep K333 (ninS ne226 nin0)
    have Z341 : n0 ≤ h333.size := Nat.le_trans Z276 K333.1
    refine Go.movp st333 (mkF m 105 #[.val (.long p0), .second, .val (.long p1), .second, .val (.long p2), .second, .val (.long p3), .second, .val (.long p4), .second, .val (.long cc), .second, .val (.long ss), .second, .val (.long oo), .second, .val (.long gg), .second, .val (.long tt), .second, .val (.ref b213), .val (.ref b225)] []) rfl ?_
    refine g_aload X333 hx (hb hby at_105) (pc' := 107) rfl rfl rfl ?_
    refine g_lload X333 hx (hb hby at_107) (pc' := 109) rfl rfl ?_
    obtain ⟨v342, T342, h342, L342, X342, e342, N342, q342, st342⟩ := h_virtual (a := b225) (z := (⟨"com/example/stratasig/stratasig/index/GapCoding$Tally", "add", "(J)V"⟩ : MethodName)) X333 hx (W := 0) (Ls := #[.val (.long p0), .second, .val (.long p1), .second, .val (.long p2), .second, .val (.long p3), .second, .val (.long p4), .second, .val (.long cc), .second, .val (.long ss), .second, .val (.long oo), .second, .val (.long gg), .second, .val (.long tt), .second, .val (.ref b213), .val (.ref b225)]) (argsL := [(.long gg)]) (rest := []) hZ e333 N333 hml hown (rm6 l Z a0 hw b225 cc (lowV cc ss) (((0 : Int64) + (lushr oo (lowV cc ss))) + ((lushr gg (lowV cc ss)) * (tt - (1 : Int64)))) (((0 : Int64) + (lushr (lushr oo (lowV cc ss)) (1 : Int32))) + ((lushr (lushr gg (lowV cc ss)) (1 : Int32)) * (tt - (1 : Int64)))) (((0 : Int64) + (lushr (lushr oo (lowV cc ss)) (2 : Int32))) + ((lushr (lushr gg (lowV cc ss)) (2 : Int32)) * (tt - (1 : Int64)))) gg h333 n0 Z341 C333 L333 P333 Q333 R333 A333 ge227) A333 (hw _ (List.mem_of_getElem? (i := 28) rfl)) (hw _ (List.mem_of_getElem? (i := 29) rfl)) (notFace_of_selects (args := #[]) (mvT hZ (hw _ (List.mem_of_getElem? (i := 31) rfl)))) (hw _ (List.mem_of_getElem? (i := 31) rfl)) (hw _ (List.mem_of_getElem? (i := 30) rfl)) (hw _ (List.mem_of_getElem? (i := 3) rfl)) (hw _ (List.mem_of_getElem? (i := 32) rfl)) (by decide) pd__J_V rfl rfl (hb hby at_109) rfl (by decide) (by decide) (by decide) (by decide)
    obtain ⟨rfl, K342, A342, C342, L342, P342, Q342, R342⟩ := q342
    have f343 := f334.keep K342
    have f344 := A333.keep K342
    have f345 := f336.keep K342 (ninS ne226 nin0)
    have f346 := f337.keep K342 (ninS ne226 nin0)
    have f347 := f338.keep K342 (ninS ne226 nin0)
    have f348 := f339.keep K342 (ninS ne226 nin0)
    have f349 := f340.keep K342 (ninS ne226 nin0)
    have Z350 : n0 ≤ h342.size := Nat.le_trans Z341 K342.1
    refine Go.movp st342 (mkF m 112 #[.val (.long p0), .second, .val (.long p1), .second, .val (.long p2), .second, .val (.long p3), .second, .val (.long p4), .second, .val (.long cc), .second, .val (.long ss), .second, .val (.long oo), .second, .val (.long gg), .second, .val (.long tt), .second, .val (.ref b213), .val (.ref b225)] []) rfl ?_
    refine g_aload X342 hx (hb hby at_112) (pc' := 114) rfl rfl rfl ?_
    obtain ⟨v351, T351, h351, L351, X351, e351, N351, q351, st351⟩ := h_virtual (a := b213) (z := (⟨"com/example/stratasig/stratasig/index/GapCoding$Tally", "bits", "()J"⟩ : MethodName)) X342 hx (W := 0) (Ls := #[.val (.long p0), .second, .val (.long p1), .second, .val (.long p2), .second, .val (.long p3), .second, .val (.long p4), .second, .val (.long cc), .second, .val (.long ss), .second, .val (.long oo), .second, .val (.long gg), .second, .val (.long tt), .second, .val (.ref b213), .val (.ref b225)]) (argsL := []) (rest := []) hZ e342 N342 hml hown (rm8 l Z a0 hw b213 cc (lowV cc ss) (((0 : Int64) + (lushr oo (lowV cc ss))) + ((lushr gg (lowV cc ss)) * tt)) (((0 : Int64) + (lushr (lushr oo (lowV cc ss)) (1 : Int32))) + ((lushr (lushr gg (lowV cc ss)) (1 : Int32)) * tt)) (((0 : Int64) + (lushr (lushr oo (lowV cc ss)) (2 : Int32))) + ((lushr (lushr gg (lowV cc ss)) (2 : Int32)) * tt)) h342 n0 Z350 f345 f346 f347 f348 f349 f343) f343 (hw _ (List.mem_of_getElem? (i := 44) rfl)) (hw _ (List.mem_of_getElem? (i := 45) rfl)) (notFace_of_selects (args := #[]) (mvT hZ (hw _ (List.mem_of_getElem? (i := 47) rfl)))) (hw _ (List.mem_of_getElem? (i := 47) rfl)) (hw _ (List.mem_of_getElem? (i := 46) rfl)) (hw _ (List.mem_of_getElem? (i := 3) rfl)) (hw _ (List.mem_of_getElem? (i := 48) rfl)) (by decide) pd___J rfl rfl (hb hby at_114) rfl (by decide) (by decide) (by decide) (by decide)
    obtain ⟨rfl, K351⟩ := q351
    have f352 := f343.keep K351
    have f353 := A342.keep K351
    have f354 := f345.keep K351 nin0
    have f355 := f346.keep K351 nin0
    have f356 := f347.keep K351 nin0
    have f357 := f348.keep K351 nin0
    have f358 := f349.keep K351 nin0
    have f359 := C342.keep K351 nin0
    have f360 := L342.keep K351 nin0
    have f361 := P342.keep K351 nin0
    have f362 := Q342.keep K351 nin0
    have f363 := R342.keep K351 nin0
    have Z364 : n0 ≤ h351.size := Nat.le_trans Z350 K351.1
    refine Go.movp st351 (mkF m 117 #[.val (.long p0), .second, .val (.long p1), .second, .val (.long p2), .second, .val (.long p3), .second, .val (.long p4), .second, .val (.long cc), .second, .val (.long ss), .second, .val (.long oo), .second, .val (.long gg), .second, .val (.long tt), .second, .val (.ref b213), .val (.ref b225)] [(.long (bitsV cc (lowV cc ss) (((0 : Int64) + (lushr oo (lowV cc ss))) + ((lushr gg (lowV cc ss)) * tt)) (((0 : Int64) + (lushr (lushr oo (lowV cc ss)) (1 : Int32))) + ((lushr (lushr gg (lowV cc ss)) (1 : Int32)) * tt)) (((0 : Int64) + (lushr (lushr oo (lowV cc ss)) (2 : Int32))) + ((lushr (lushr gg (lowV cc ss)) (2 : Int32)) * tt))))]) rfl ?_
    refine g_aload X351 hx (hb hby at_117) (pc' := 119) rfl rfl rfl ?_
    obtain ⟨v365, T365, h365, L365, X365, e365, N365, q365, st365⟩ := h_virtual (a := b225) (z := (⟨"com/example/stratasig/stratasig/index/GapCoding$Tally", "bits", "()J"⟩ : MethodName)) X351 hx (W := 2) (Ls := #[.val (.long p0), .second, .val (.long p1), .second, .val (.long p2), .second, .val (.long p3), .second, .val (.long p4), .second, .val (.long cc), .second, .val (.long ss), .second, .val (.long oo), .second, .val (.long gg), .second, .val (.long tt), .second, .val (.ref b213), .val (.ref b225)]) (argsL := []) (rest := [(.long (bitsV cc (lowV cc ss) (((0 : Int64) + (lushr oo (lowV cc ss))) + ((lushr gg (lowV cc ss)) * tt)) (((0 : Int64) + (lushr (lushr oo (lowV cc ss)) (1 : Int32))) + ((lushr (lushr gg (lowV cc ss)) (1 : Int32)) * tt)) (((0 : Int64) + (lushr (lushr oo (lowV cc ss)) (2 : Int32))) + ((lushr (lushr gg (lowV cc ss)) (2 : Int32)) * tt))))]) hZ e351 N351 hml hown (rm8 l Z a0 hw b225 cc (lowV cc ss) ((((0 : Int64) + (lushr oo (lowV cc ss))) + ((lushr gg (lowV cc ss)) * (tt - (1 : Int64)))) + (lushr gg (lowV cc ss))) ((((0 : Int64) + (lushr (lushr oo (lowV cc ss)) (1 : Int32))) + ((lushr (lushr gg (lowV cc ss)) (1 : Int32)) * (tt - (1 : Int64)))) + (lushr (lushr gg (lowV cc ss)) (1 : Int32))) ((((0 : Int64) + (lushr (lushr oo (lowV cc ss)) (2 : Int32))) + ((lushr (lushr gg (lowV cc ss)) (2 : Int32)) * (tt - (1 : Int64)))) + (lushr (lushr gg (lowV cc ss)) (2 : Int32))) h351 n0 Z364 f359 f360 f361 f362 f363 f353) f353 (hw _ (List.mem_of_getElem? (i := 44) rfl)) (hw _ (List.mem_of_getElem? (i := 45) rfl)) (notFace_of_selects (args := #[]) (mvT hZ (hw _ (List.mem_of_getElem? (i := 47) rfl)))) (hw _ (List.mem_of_getElem? (i := 47) rfl)) (hw _ (List.mem_of_getElem? (i := 46) rfl)) (hw _ (List.mem_of_getElem? (i := 3) rfl)) (hw _ (List.mem_of_getElem? (i := 48) rfl)) (by decide) pd___J rfl rfl (hb hby at_119) rfl (by decide) (by decide) (by decide) (by decide)
    obtain ⟨rfl, K365⟩ := q365
    have f366 := f352.keep K365
    have f367 := f353.keep K365
    have f368 := f354.keep K365 nin0
    have f369 := f355.keep K365 nin0
    have f370 := f356.keep K365 nin0
    have f371 := f357.keep K365 nin0
    have f372 := f358.keep K365 nin0
    have f373 := f359.keep K365 nin0
    have f374 := f360.keep K365 nin0
    have f375 := f361.keep K365 nin0
    have f376 := f362.keep K365 nin0
    have f377 := f363.keep K365 nin0
    have Z378 : n0 ≤ h365.size := Nat.le_trans Z364 K365.1
    refine Go.movp st365 (mkF m 122 #[.val (.long p0), .second, .val (.long p1), .second, .val (.long p2), .second, .val (.long p3), .second, .val (.long p4), .second, .val (.long cc), .second, .val (.long ss), .second, .val (.long oo), .second, .val (.long gg), .second, .val (.long tt), .second, .val (.ref b213), .val (.ref b225)] [(.long (bitsV cc (lowV cc ss) ((((0 : Int64) + (lushr oo (lowV cc ss))) + ((lushr gg (lowV cc ss)) * (tt - (1 : Int64)))) + (lushr gg (lowV cc ss))) ((((0 : Int64) + (lushr (lushr oo (lowV cc ss)) (1 : Int32))) + ((lushr (lushr gg (lowV cc ss)) (1 : Int32)) * (tt - (1 : Int64)))) + (lushr (lushr gg (lowV cc ss)) (1 : Int32))) ((((0 : Int64) + (lushr (lushr oo (lowV cc ss)) (2 : Int32))) + ((lushr (lushr gg (lowV cc ss)) (2 : Int32)) * (tt - (1 : Int64)))) + (lushr (lushr gg (lowV cc ss)) (2 : Int32))))), (.long (bitsV cc (lowV cc ss) (((0 : Int64) + (lushr oo (lowV cc ss))) + ((lushr gg (lowV cc ss)) * tt)) (((0 : Int64) + (lushr (lushr oo (lowV cc ss)) (1 : Int32))) + ((lushr (lushr gg (lowV cc ss)) (1 : Int32)) * tt)) (((0 : Int64) + (lushr (lushr oo (lowV cc ss)) (2 : Int32))) + ((lushr (lushr gg (lowV cc ss)) (2 : Int32)) * tt))))]) rfl ?_
    refine g_lcmp_ne X365 hx (hb hby at_122) (pc' := 123) rfl (hb hby at_123) (pc1 := 126) rfl (by decide) (pc2 := 143) (by decide) (fun hc122 => absurd (own_bits (own_eq _ _ _) (own_eq _ _ _) (own_eq _ _ _)) hc122) (fun hc122 => ?_)
    refine g_aload X365 hx (hb hby at_126) (pc' := 128) rfl rfl rfl ?_
    obtain ⟨v379, T379, h379, L379, X379, e379, N379, q379, st379⟩ := h_virtual (a := b213) (z := (⟨"com/example/stratasig/stratasig/index/GapCoding$Tally", "parameter", "()I"⟩ : MethodName)) X365 hx (W := 0) (Ls := #[.val (.long p0), .second, .val (.long p1), .second, .val (.long p2), .second, .val (.long p3), .second, .val (.long p4), .second, .val (.long cc), .second, .val (.long ss), .second, .val (.long oo), .second, .val (.long gg), .second, .val (.long tt), .second, .val (.ref b213), .val (.ref b225)]) (argsL := []) (rest := []) hZ e365 N365 hml hown (rm11 l Z a0 hw b213 cc (lowV cc ss) (((0 : Int64) + (lushr oo (lowV cc ss))) + ((lushr gg (lowV cc ss)) * tt)) (((0 : Int64) + (lushr (lushr oo (lowV cc ss)) (1 : Int32))) + ((lushr (lushr gg (lowV cc ss)) (1 : Int32)) * tt)) (((0 : Int64) + (lushr (lushr oo (lowV cc ss)) (2 : Int32))) + ((lushr (lushr gg (lowV cc ss)) (2 : Int32)) * tt)) h365 n0 Z378 f368 f369 f370 f371 f372 f366) f366 (hw _ (List.mem_of_getElem? (i := 58) rfl)) (hw _ (List.mem_of_getElem? (i := 59) rfl)) (notFace_of_selects (args := #[]) (mvT hZ (hw _ (List.mem_of_getElem? (i := 61) rfl)))) (hw _ (List.mem_of_getElem? (i := 61) rfl)) (hw _ (List.mem_of_getElem? (i := 60) rfl)) (hw _ (List.mem_of_getElem? (i := 3) rfl)) (hw _ (List.mem_of_getElem? (i := 62) rfl)) (by decide) pd___I rfl rfl (hb hby at_128) rfl (by decide) (by decide) (by decide) (by decide)
    obtain ⟨rfl, K379⟩ := q379
    have f380 := f366.keep K379
    have f381 := f367.keep K379
    have f382 := f368.keep K379 nin0
    have f383 := f369.keep K379 nin0
    have f384 := f370.keep K379 nin0
    have f385 := f371.keep K379 nin0
    have f386 := f372.keep K379 nin0
    have f387 := f373.keep K379 nin0
    have f388 := f374.keep K379 nin0
    have f389 := f375.keep K379 nin0
    have f390 := f376.keep K379 nin0
    have f391 := f377.keep K379 nin0
    have Z392 : n0 ≤ h379.size := Nat.le_trans Z378 K379.1
    refine Go.movp st379 (mkF m 131 #[.val (.long p0), .second, .val (.long p1), .second, .val (.long p2), .second, .val (.long p3), .second, .val (.long p4), .second, .val (.long cc), .second, .val (.long ss), .second, .val (.long oo), .second, .val (.long gg), .second, .val (.long tt), .second, .val (.ref b213), .val (.ref b225)] [(.int ((lowV cc ss) + (bestV cc (((0 : Int64) + (lushr oo (lowV cc ss))) + ((lushr gg (lowV cc ss)) * tt)) (((0 : Int64) + (lushr (lushr oo (lowV cc ss)) (1 : Int32))) + ((lushr (lushr gg (lowV cc ss)) (1 : Int32)) * tt)) (((0 : Int64) + (lushr (lushr oo (lowV cc ss)) (2 : Int32))) + ((lushr (lushr gg (lowV cc ss)) (2 : Int32)) * tt)))))]) rfl ?_
    refine g_aload X379 hx (hb hby at_131) (pc' := 133) rfl rfl rfl ?_
    obtain ⟨v393, T393, h393, L393, X393, e393, N393, q393, st393⟩ := h_virtual (a := b225) (z := (⟨"com/example/stratasig/stratasig/index/GapCoding$Tally", "parameter", "()I"⟩ : MethodName)) X379 hx (W := 1) (Ls := #[.val (.long p0), .second, .val (.long p1), .second, .val (.long p2), .second, .val (.long p3), .second, .val (.long p4), .second, .val (.long cc), .second, .val (.long ss), .second, .val (.long oo), .second, .val (.long gg), .second, .val (.long tt), .second, .val (.ref b213), .val (.ref b225)]) (argsL := []) (rest := [(.int ((lowV cc ss) + (bestV cc (((0 : Int64) + (lushr oo (lowV cc ss))) + ((lushr gg (lowV cc ss)) * tt)) (((0 : Int64) + (lushr (lushr oo (lowV cc ss)) (1 : Int32))) + ((lushr (lushr gg (lowV cc ss)) (1 : Int32)) * tt)) (((0 : Int64) + (lushr (lushr oo (lowV cc ss)) (2 : Int32))) + ((lushr (lushr gg (lowV cc ss)) (2 : Int32)) * tt)))))]) hZ e379 N379 hml hown (rm11 l Z a0 hw b225 cc (lowV cc ss) ((((0 : Int64) + (lushr oo (lowV cc ss))) + ((lushr gg (lowV cc ss)) * (tt - (1 : Int64)))) + (lushr gg (lowV cc ss))) ((((0 : Int64) + (lushr (lushr oo (lowV cc ss)) (1 : Int32))) + ((lushr (lushr gg (lowV cc ss)) (1 : Int32)) * (tt - (1 : Int64)))) + (lushr (lushr gg (lowV cc ss)) (1 : Int32))) ((((0 : Int64) + (lushr (lushr oo (lowV cc ss)) (2 : Int32))) + ((lushr (lushr gg (lowV cc ss)) (2 : Int32)) * (tt - (1 : Int64)))) + (lushr (lushr gg (lowV cc ss)) (2 : Int32))) h379 n0 Z392 f387 f388 f389 f390 f391 f381) f381 (hw _ (List.mem_of_getElem? (i := 58) rfl)) (hw _ (List.mem_of_getElem? (i := 59) rfl)) (notFace_of_selects (args := #[]) (mvT hZ (hw _ (List.mem_of_getElem? (i := 61) rfl)))) (hw _ (List.mem_of_getElem? (i := 61) rfl)) (hw _ (List.mem_of_getElem? (i := 60) rfl)) (hw _ (List.mem_of_getElem? (i := 3) rfl)) (hw _ (List.mem_of_getElem? (i := 62) rfl)) (by decide) pd___I rfl rfl (hb hby at_133) rfl (by decide) (by decide) (by decide) (by decide)
    obtain ⟨rfl, K393⟩ := q393
    have f394 := f380.keep K393
    have f395 := f381.keep K393
    have f396 := f382.keep K393 nin0
    have f397 := f383.keep K393 nin0
    have f398 := f384.keep K393 nin0
    have f399 := f385.keep K393 nin0
    have f400 := f386.keep K393 nin0
    have f401 := f387.keep K393 nin0
    have f402 := f388.keep K393 nin0
    have f403 := f389.keep K393 nin0
    have f404 := f390.keep K393 nin0
    have f405 := f391.keep K393 nin0
    have Z406 : n0 ≤ h393.size := Nat.le_trans Z392 K393.1
    refine Go.movp st393 (mkF m 136 #[.val (.long p0), .second, .val (.long p1), .second, .val (.long p2), .second, .val (.long p3), .second, .val (.long p4), .second, .val (.long cc), .second, .val (.long ss), .second, .val (.long oo), .second, .val (.long gg), .second, .val (.long tt), .second, .val (.ref b213), .val (.ref b225)] [(.int ((lowV cc ss) + (bestV cc ((((0 : Int64) + (lushr oo (lowV cc ss))) + ((lushr gg (lowV cc ss)) * (tt - (1 : Int64)))) + (lushr gg (lowV cc ss))) ((((0 : Int64) + (lushr (lushr oo (lowV cc ss)) (1 : Int32))) + ((lushr (lushr gg (lowV cc ss)) (1 : Int32)) * (tt - (1 : Int64)))) + (lushr (lushr gg (lowV cc ss)) (1 : Int32))) ((((0 : Int64) + (lushr (lushr oo (lowV cc ss)) (2 : Int32))) + ((lushr (lushr gg (lowV cc ss)) (2 : Int32)) * (tt - (1 : Int64)))) + (lushr (lushr gg (lowV cc ss)) (2 : Int32)))))), (.int ((lowV cc ss) + (bestV cc (((0 : Int64) + (lushr oo (lowV cc ss))) + ((lushr gg (lowV cc ss)) * tt)) (((0 : Int64) + (lushr (lushr oo (lowV cc ss)) (1 : Int32))) + ((lushr (lushr gg (lowV cc ss)) (1 : Int32)) * tt)) (((0 : Int64) + (lushr (lushr oo (lowV cc ss)) (2 : Int32))) + ((lushr (lushr gg (lowV cc ss)) (2 : Int32)) * tt)))))]) rfl ?_
    refine g_icmp_ne X393 hx (hb hby at_136) (pc1 := 139) rfl (by decide) (pc2 := 143) (by decide) (fun hc136 => absurd (own_par (own_eq _ _ _) (own_eq _ _ _) (own_eq _ _ _)) hc136) (fun hc136 => ?_)
    refine g_iconst X393 hx (hb hby at_139) (pc' := 140) rfl (z := (1 : Int32)) rfl ?_
    refine g_goto X393 hx (hb hby at_140) (by decide) (pc' := 144) (by decide) ?_
    exact g_zreturn X393 hx rfl hret (hb hby at_144) N393 hlk (fun v t => endF (by decide) (by decide) v) (by rw [e393]; exact rfl)
set_option maxRecDepth 65536 in
set_option maxHeartbeats 40000000 in
theorem comes_1 {Post : Tables → Env → Array Value → State → Outcome → State → Prop} (hpost : ∀ tb e args s v u, (limb_1_1.after args s (.returned v) u = true ∧ limb_1_2.after args s (.returned v) u = true ∧ True) → FrameEnd s (.returned v) u (Jvm.fieldLocs frame_1_writes args s ++ Jvm.arrayLocs frame_1_arrays args s ++ Jvm.staticLocs frame_1_statics s) 24 128 → Post tb e args s (.returned v) u) :
    ArmFor flags0 classFile x code maxLocals ret World_1 tables_1 room_1 Calls_1 rest_1 Pre_1 Post := by
  intro l hfl _ _ p e ha hc hk s m args below hf hA hF happ hP
  obtain ⟨hcalls, hrest, hpre⟩ := hP
  obtain ⟨-, -, -, hnamed, -, -, -, hat⟩ := (Spec.applies_iff hf).mp happ
  obtain ⟨hg, hn⟩ := and_e (Cond.before_iff.mp (show (Jvm.Cond.and given_1 narrow_1).before args s = true from hpre))
  obtain ⟨g1, g2⟩ := and_e hg
  obtain ⟨g3, g4⟩ := and_e g2
  obtain ⟨g5, g6⟩ := and_e g4
  obtain ⟨g7, g8⟩ := and_e g6
  obtain ⟨g9, g10⟩ := and_e g8
  obtain ⟨w0, w1, w2, w3, w4, rfl⟩ : ∃ w0 w1 w2 w3 w4 : Value, args = #[w0, w1, w2, w3, w4] := by
    have hs : args.size = 5 := by simpa [Cond.value, given_1] using g1
    obtain ⟨L⟩ := args
    match L, hs with
    | [w0, w1, w2, w3, w4], _ => exact ⟨w0, w1, w2, w3, w4, rfl⟩
  have hw := fun d (hd : d ∈ tables_1) => atoms_spec (ws := Jvm.Cond.code x code maxLocals ret :: tables_1) hat d (List.mem_cons_of_mem _ hd)
  have hfit : Fit s := fun {y c} hc i hi => by
    obtain ⟨ha, rfl⟩ := Array.getElem?_eq_some_iff.mp hc
    have q := List.all_eq_true.mp ((Array.all_eq_true_iff_forall_mem.mp hF) _ (Array.getElem_mem ha)) i (List.mem_range.mpr hi)
    simpa [Array.getElem?_eq_getElem hi] using q
  obtain ⟨i0, ei0⟩ := isL_v g3
  obtain rfl : w0 = (.long i0) := Option.some.inj ei0
  obtain ⟨i1, ei1⟩ := isL_v g5
  obtain rfl : w1 = (.long i1) := Option.some.inj ei1
  obtain ⟨i2, ei2⟩ := isL_v g7
  obtain rfl : w2 = (.long i2) := Option.some.inj ei2
  obtain ⟨i3, ei3⟩ := isL_v g9
  obtain rfl : w3 = (.long i3) := Option.some.inj ei3
  obtain ⟨i4, ei4⟩ := isL_v g10
  obtain rfl : w4 = (.long i4) := Option.some.inj ei4
  obtain ⟨n, o, h1, h2, h3, _, L, rfl, ⟨rfl, N⟩, hq⟩ := rm0 l s _ hw i0 i1 i2 i3 i4 s.heap s.heap.size (Nat.le_refl _) tables_1 p e ha hc hk s m _ below hf ((Spec.applies_iff_loose hf).mp happ).1 ⟨rfl, State.Warmed39.refl s, rfl⟩ trivial
  refine ⟨n, _, h1, h2, h3, hpost _ _ _ _ _ _ ⟨Cond.after_iff.mpr rfl, Cond.after_iff.mpr (eq_i res_at (Term.int_eval (1)) rfl), trivial⟩ ⟨hq.1, hq.2.1, (hq.2.2.sift fun y hy => Or.inr (N y hy)).mono (by decide) (by decide)⟩⟩
theorem main_1_1 : Claimed_1_1 := comes_1 fun _ _ _ _ _ _ h hF => ⟨h.1, hF⟩
theorem main_1_2 : Claimed_1_2 := comes_1 fun _ _ _ _ _ _ h hF => ⟨h.2.1, hF⟩
end Jvm.Pilot.@@N@@
namespace Jvm.Pilot.@@N@@
open Jvm Jvm.ClassFile Sem Op Lib Jvm.Free Jvm.Stand Jvm.Pilot.@@N@@.Jvm.D
/-! MADE BY PROGRAM (witnessworld.py) out of the Statement's table words and the real class files: 18 classes; the members and pool entries that the words name. The judged class is class 1, her method 1. -/
namespace start1
open Jvm.ClassFile
def u (s : String) : CpInfo := .utf8 (stringToUtf16 s)
/-- a pool by its gaps: so many unusable entries, then the entry; so many at the end -/
def gap : Nat → List CpInfo → List CpInfo
  | 0, r => r
  | n + 1, r => .unusable :: gap n r
def poolList (es : List (Nat × CpInfo)) (last : Nat) : List CpInfo := es.foldr (fun e r => gap e.1 (e.2 :: r)) (gap last [])
def pool (es : List (Nat × CpInfo)) (last : Nat) : Array CpInfo := ⟨poolList es last⟩
def fileOf (pool : Array CpInfo) (this : Nat) (attrs : Array Attribute := #[]) (ms : Array MethodInfo := #[]) (fl : Nat := 33) (sup : Nat := 0) (ifs : Array Nat := #[]) (fds : Array FieldInfo := #[]) : ClassFile where
  minorVersion := 0
  majorVersion := 65
  constantPool := pool
  accessFlags := fl
  thisClass := this
  superClass := sup
  interfaces := ifs
  fields := fds
  methods := ms
  attributes := attrs
def plain (name : String) (sup : Option ClassId) : Class where
  name := name
  kind := .ordinary
  loader := none
  accessFlags := 33
  super := sup
  interfaces := #[]
  cf := none
  fields := #[]
  methods := #[]
  instanceTypes := #[]
  staticTypes := #[]
  resolved := #[]
  callSites := []
  init := .initialized
  statics := none
  mirror := none

def pool0 : Array CpInfo := pool [(5, u "<init>"), (0, u "()V"), (1, .class_ 10), (1, u "java/lang/Object")] 113

def k0c0 : Code := { maxStack := 0, maxLocals := 1, code := object_method_1_code, exceptionTable := #[], attributes := #[] }
def k0m0 : Method := { name := "<init>", desc := "()V", sig := { parameters := [], returnType := none }, accessFlags := 1, code := some k0c0 }
/-- java/lang/Object -/
def k0 : Class := { plain "java/lang/Object" none with
  accessFlags := 33
  interfaces := #[]
  cf := some (fileOf pool0 8 #[] #[{ accessFlags := 1, nameIndex := 5, descriptorIndex := 6, attributes := #[] }] 33 0 #[] #[])
  fields := #[]
  methods := #[k0m0]
  instanceTypes := #[]
  staticTypes := #[]
  resolved := Array.replicate 124 none
  statics := none }

def pool1 : Array CpInfo := pool [(2, .class_ 4), (1, u "java/lang/Object"), (0, u "<init>"), (0, u "()V"), (2, .long 9223372036854775807), (1, .class_ 12), (0, u "com/example/stratasig/stratasig/index/GapCoding$Tally"), (0, .methodref 11 14), (0, .nameAndType 5 15), (0, u "(JJ)V"), (0, .methodref 11 17), (0, .nameAndType 18 19), (0, u "add"), (0, u "(J)V"), (0, .methodref 11 21), (0, .nameAndType 18 15), (0, .methodref 11 23), (0, .nameAndType 24 25), (0, u "bits"), (0, u "()J"), (0, .methodref 11 27), (0, .nameAndType 28 29), (0, u "parameter"), (0, u "()I"), (0, .class_ 31), (0, u "com/example/stratasig/stratasig/index/TallyAddPinLaw"), (2, u "law"), (0, u "(JJJJJ)Z")] 7

def k1m0 : Method := { name := "<init>", desc := "()V", sig := { parameters := [], returnType := none }, accessFlags := 2, code := none }
def k1c1 : Code := { maxStack := 7, maxLocals := 22, code := code, exceptionTable := #[], attributes := #[] }
def k1m1 : Method := { name := "law", desc := "(JJJJJ)Z", sig := { parameters := [.long, .long, .long, .long, .long], returnType := some .boolean }, accessFlags := 9, code := some k1c1 }
/-- com/example/stratasig/stratasig/index/TallyAddPinLaw -/
def k1 : Class := { plain "com/example/stratasig/stratasig/index/TallyAddPinLaw" (some 0) with
  accessFlags := 49
  interfaces := #[]
  cf := some (fileOf pool1 30 #[] #[{ accessFlags := 2, nameIndex := 5, descriptorIndex := 6, attributes := #[] }, { accessFlags := 9, nameIndex := 34, descriptorIndex := 35, attributes := #[] }] 49 2 #[] #[])
  fields := #[]
  methods := #[k1m0, k1m1]
  instanceTypes := #[]
  staticTypes := #[]
  resolved := Array.replicate 43 none
  statics := none }

def pool2 : Array CpInfo := pool [(1, .class_ 2), (0, u "com/example/stratasig/stratasig/index/GapCoding"), (0, .methodref 4 5), (0, .class_ 6), (0, .nameAndType 7 8), (0, u "java/lang/Object"), (0, u "<init>"), (0, u "()V"), (0, .fieldref 10 11), (0, .class_ 12), (0, .nameAndType 13 14), (0, u "com/example/stratasig/stratasig/index/GapCoding$Tally"), (0, u "count"), (0, u "J"), (0, .fieldref 10 16), (0, .nameAndType 17 14), (0, u "sum"), (0, .methodref 19 20), (0, .class_ 21), (0, .nameAndType 22 23), (0, u "java/lang/Long"), (0, u "numberOfLeadingZeros"), (0, u "(J)I"), (0, .methodref 25 26), (0, .class_ 27), (0, .nameAndType 28 29), (0, u "java/lang/Math"), (0, u "max"), (0, u "(II)I"), (0, .fieldref 10 31), (0, .nameAndType 32 33), (0, u "lowest"), (0, u "I"), (2, u "(JJ)V"), (0, .fieldref 10 38), (0, .nameAndType 39 14), (0, u "atLowest"), (0, .fieldref 10 41), (0, .nameAndType 42 14), (0, u "oneAbove"), (0, .fieldref 10 44), (0, .nameAndType 45 14), (0, u "twoAbove"), (2, u "quotients"), (1, .methodref 10 51), (0, .nameAndType 52 53), (0, u "best"), (0, u "()I"), (0, .methodref 10 55), (0, .nameAndType 48 56), (0, u "()[J"), (12, u "add"), (0, u "(J)V"), (3, u "parameter"), (0, u "bits"), (0, u "()J")] 7

def k2c0 : Code := { maxStack := 5, maxLocals := 7, code := prog_130_method_1_code, exceptionTable := #[], attributes := #[] }
def k2m0 : Method := { name := "<init>", desc := "(JJ)V", sig := { parameters := [.long, .long], returnType := none }, accessFlags := 0, code := some k2c0 }
def k2c1 : Code := { maxStack := 6, maxLocals := 5, code := prog_130_method_3_code, exceptionTable := #[], attributes := #[] }
def k2m1 : Method := { name := "add", desc := "(J)V", sig := { parameters := [.long], returnType := none }, accessFlags := 0, code := some k2c1 }
def k2c2 : Code := { maxStack := 7, maxLocals := 7, code := prog_130_method_6_code, exceptionTable := #[], attributes := #[] }
def k2m2 : Method := { name := "add", desc := "(JJ)V", sig := { parameters := [.long, .long], returnType := none }, accessFlags := 0, code := some k2c2 }
def k2c3 : Code := { maxStack := 2, maxLocals := 1, code := prog_130_method_8_code, exceptionTable := #[], attributes := #[] }
def k2m3 : Method := { name := "parameter", desc := "()I", sig := { parameters := [], returnType := some .int }, accessFlags := 0, code := some k2c3 }
def k2c4 : Code := { maxStack := 4, maxLocals := 2, code := prog_130_method_9_code, exceptionTable := #[], attributes := #[] }
def k2m4 : Method := { name := "bits", desc := "()J", sig := { parameters := [], returnType := some .long }, accessFlags := 0, code := some k2c4 }
def k2c5 : Code := { maxStack := 6, maxLocals := 4, code := prog_130_method_12_code, exceptionTable := #[], attributes := #[] }
def k2m5 : Method := { name := "best", desc := "()I", sig := { parameters := [], returnType := some .int }, accessFlags := 2, code := some k2c5 }
def k2c6 : Code := { maxStack := 5, maxLocals := 1, code := prog_130_method_13_code, exceptionTable := #[], attributes := #[] }
def k2m6 : Method := { name := "quotients", desc := "()[J", sig := { parameters := [], returnType := some (.array .long) }, accessFlags := 2, code := some k2c6 }
/-- com/example/stratasig/stratasig/index/GapCoding$Tally -/
def k2 : Class := { plain "com/example/stratasig/stratasig/index/GapCoding$Tally" (some 0) with
  accessFlags := 48
  interfaces := #[]
  cf := some (fileOf pool2 10 #[.nestHost 1] #[{ accessFlags := 0, nameIndex := 7, descriptorIndex := 36, attributes := #[] }, { accessFlags := 0, nameIndex := 69, descriptorIndex := 70, attributes := #[] }, { accessFlags := 0, nameIndex := 69, descriptorIndex := 36, attributes := #[] }, { accessFlags := 0, nameIndex := 74, descriptorIndex := 53, attributes := #[] }, { accessFlags := 0, nameIndex := 75, descriptorIndex := 76, attributes := #[] }, { accessFlags := 2, nameIndex := 52, descriptorIndex := 53, attributes := #[] }, { accessFlags := 2, nameIndex := 48, descriptorIndex := 56, attributes := #[] }] 48 4 #[] #[{ accessFlags := 18, nameIndex := 13, descriptorIndex := 14, attributes := #[] }, { accessFlags := 18, nameIndex := 17, descriptorIndex := 14, attributes := #[] }, { accessFlags := 18, nameIndex := 32, descriptorIndex := 33, attributes := #[] }, { accessFlags := 2, nameIndex := 39, descriptorIndex := 14, attributes := #[] }, { accessFlags := 2, nameIndex := 42, descriptorIndex := 14, attributes := #[] }, { accessFlags := 2, nameIndex := 45, descriptorIndex := 14, attributes := #[] }])
  fields := #[{ name := "count", type := .long, accessFlags := 18, slot := 0, constantValue := 0 }, { name := "sum", type := .long, accessFlags := 18, slot := 1, constantValue := 0 }, { name := "lowest", type := .int, accessFlags := 18, slot := 2, constantValue := 0 }, { name := "atLowest", type := .long, accessFlags := 2, slot := 3, constantValue := 0 }, { name := "oneAbove", type := .long, accessFlags := 2, slot := 4, constantValue := 0 }, { name := "twoAbove", type := .long, accessFlags := 2, slot := 5, constantValue := 0 }]
  methods := #[k2m0, k2m1, k2m2, k2m3, k2m4, k2m5, k2m6]
  instanceTypes := #[.long, .long, .int, .long, .long, .long]
  staticTypes := #[]
  resolved := Array.replicate 84 none
  statics := none }

def pool3 : Array CpInfo := pool [(1, .class_ 2), (0, u "java/io/Serializable"), (0, .class_ 4), (0, u "java/lang/Object")] 2

/-- java/io/Serializable -/
def k3 : Class := { plain "java/io/Serializable" (some 0) with
  accessFlags := 1537
  interfaces := #[]
  cf := some (fileOf pool3 1 #[] #[] 1537 3 #[] #[])
  fields := #[]
  methods := #[]
  instanceTypes := #[]
  staticTypes := #[]
  resolved := Array.replicate 7 none
  statics := none }

def pool4 : Array CpInfo := pool [(2, .class_ 4), (1, u "java/lang/Object"), (0, u "<init>"), (0, u "()V"), (1, .class_ 10), (1, u "java/lang/Number"), (2, .class_ 14), (0, u "java/io/Serializable"), (0, u "serialVersionUID"), (0, u "J")] 20

def k4m0 : Method := { name := "<init>", desc := "()V", sig := { parameters := [], returnType := none }, accessFlags := 1, code := none }
/-- java/lang/Number -/
def k4 : Class := { plain "java/lang/Number" (some 0) with
  accessFlags := 1057
  interfaces := #[3]
  cf := some (fileOf pool4 8 #[] #[{ accessFlags := 1, nameIndex := 5, descriptorIndex := 6, attributes := #[] }] 1057 2 #[13] #[{ accessFlags := 26, nameIndex := 15, descriptorIndex := 16, attributes := #[] }])
  fields := #[{ name := "serialVersionUID", type := .long, accessFlags := 26, slot := 0, constantValue := 0 }]
  methods := #[k4m0]
  instanceTypes := #[]
  staticTypes := #[.long]
  resolved := Array.replicate 37 none
  statics := none }

def pool5 : Array CpInfo := pool [(1, .class_ 2), (0, u "java/lang/Comparable"), (0, .class_ 4), (0, u "java/lang/Object")] 7

/-- java/lang/Comparable -/
def k5 : Class := { plain "java/lang/Comparable" (some 0) with
  accessFlags := 1537
  interfaces := #[]
  cf := some (fileOf pool5 1 #[] #[] 1537 3 #[] #[])
  fields := #[]
  methods := #[]
  instanceTypes := #[]
  staticTypes := #[]
  resolved := Array.replicate 12 none
  statics := none }

def pool6 : Array CpInfo := pool [(1, .class_ 2), (0, u "java/lang/constant/Constable"), (0, .class_ 4), (0, u "java/lang/Object")] 6

/-- java/lang/constant/Constable -/
def k6 : Class := { plain "java/lang/constant/Constable" (some 0) with
  accessFlags := 1537
  interfaces := #[]
  cf := some (fileOf pool6 1 #[] #[] 1537 3 #[] #[])
  fields := #[]
  methods := #[]
  instanceTypes := #[]
  staticTypes := #[]
  resolved := Array.replicate 11 none
  statics := none }

def pool7 : Array CpInfo := pool [(1, .class_ 2), (0, u "java/lang/constant/ConstantDesc"), (0, .class_ 4), (0, u "java/lang/Object")] 32

/-- java/lang/constant/ConstantDesc -/
def k7 : Class := { plain "java/lang/constant/ConstantDesc" (some 0) with
  accessFlags := 1537
  interfaces := #[]
  cf := some (fileOf pool7 1 #[] #[] 1537 3 #[] #[])
  fields := #[]
  methods := #[]
  instanceTypes := #[]
  staticTypes := #[]
  resolved := Array.replicate 37 none
  statics := none }

def pool8 : Array CpInfo := pool [(1, .class_ 2), (0, u "java/lang/Long"), (15, .class_ 20), (1, u "java/lang/Integer"), (79, u "numberOfLeadingZeros"), (0, u "(J)I"), (133, .class_ 237), (1, u "java/lang/Long$LongCache"), (33, .class_ 272), (0, u "java/lang/Number"), (2, u "value"), (0, u "J"), (31, .methodref 18 309), (0, .nameAndType 100 310), (0, u "(I)I"), (50, u "TYPE"), (0, u "Ljava/lang/Class;"), (0, .class_ 364), (0, u "java/lang/Comparable"), (0, .class_ 366), (0, u "java/lang/constant/Constable"), (0, .class_ 368), (0, u "java/lang/constant/ConstantDesc"), (0, u "MIN_VALUE"), (1, u "MAX_VALUE"), (4, u "SIZE"), (0, u "I"), (1, u "BYTES"), (1, u "serialVersionUID")] 142

def k8c0 : Code := { maxStack := 3, maxLocals := 3, code := jdk_35_method_48_code, exceptionTable := #[], attributes := #[] }
def k8m0 : Method := { name := "numberOfLeadingZeros", desc := "(J)I", sig := { parameters := [.long], returnType := some .int }, accessFlags := 9, code := some k8c0 }
/-- java/lang/Long -/
def k8 : Class := { plain "java/lang/Long" (some 4) with
  accessFlags := 49
  interfaces := #[5, 6, 7]
  cf := some (fileOf pool8 1 #[.nestMembers #[235]] #[{ accessFlags := 9, nameIndex := 100, descriptorIndex := 101, attributes := #[] }] 49 271 #[363, 365, 367] #[{ accessFlags := 25, nameIndex := 369, descriptorIndex := 276, attributes := #[] }, { accessFlags := 25, nameIndex := 371, descriptorIndex := 276, attributes := #[] }, { accessFlags := 25, nameIndex := 361, descriptorIndex := 362, attributes := #[] }, { accessFlags := 18, nameIndex := 275, descriptorIndex := 276, attributes := #[] }, { accessFlags := 25, nameIndex := 376, descriptorIndex := 377, attributes := #[] }, { accessFlags := 25, nameIndex := 379, descriptorIndex := 377, attributes := #[] }, { accessFlags := 26, nameIndex := 381, descriptorIndex := 276, attributes := #[] }])
  fields := #[{ name := "MIN_VALUE", type := .long, accessFlags := 25, slot := 0, constantValue := 0 }, { name := "MAX_VALUE", type := .long, accessFlags := 25, slot := 1, constantValue := 0 }, { name := "TYPE", type := (.object "java/lang/Class"), accessFlags := 25, slot := 2, constantValue := 0 }, { name := "value", type := .long, accessFlags := 18, slot := 0, constantValue := 0 }, { name := "SIZE", type := .int, accessFlags := 25, slot := 3, constantValue := 0 }, { name := "BYTES", type := .int, accessFlags := 25, slot := 4, constantValue := 0 }, { name := "serialVersionUID", type := .long, accessFlags := 26, slot := 5, constantValue := 0 }]
  methods := #[k8m0]
  instanceTypes := #[.long]
  staticTypes := #[.long, .long, (.object "java/lang/Class"), .int, .int, .long]
  resolved := Array.replicate 524 none
  statics := none }

def pool9 : Array CpInfo := pool [(1, .class_ 2), (0, u "java/lang/Integer"), (16, u "digits"), (0, u "[C"), (32, u "numberOfLeadingZeros"), (0, u "(I)I"), (30, u "DigitOnes"), (0, u "[B"), (2, u "DigitTens"), (99, .class_ 190), (0, u "java/lang/Integer$IntegerCache"), (3, u "I"), (8, .class_ 204), (0, u "java/lang/Number"), (2, u "value"), (56, .integer 65536), (37, u "TYPE"), (0, u "Ljava/lang/Class;"), (0, .class_ 305), (0, u "java/lang/Comparable"), (0, .class_ 307), (0, u "java/lang/constant/Constable"), (0, .class_ 309), (0, u "java/lang/constant/ConstantDesc"), (0, u "MIN_VALUE"), (1, u "MAX_VALUE"), (3, u "SIZE"), (1, u "BYTES"), (1, u "serialVersionUID"), (0, u "J")] 131

def k9c0 : Code := { maxStack := 3, maxLocals := 2, code := jdk_33_method_47_code, exceptionTable := #[], attributes := #[] }
def k9m0 : Method := { name := "numberOfLeadingZeros", desc := "(I)I", sig := { parameters := [.int], returnType := some .int }, accessFlags := 9, code := some k9c0 }
/-- java/lang/Integer -/
def k9 : Class := { plain "java/lang/Integer" (some 4) with
  accessFlags := 49
  interfaces := #[5, 6, 7]
  cf := some (fileOf pool9 1 #[.nestMembers #[189]] #[{ accessFlags := 9, nameIndex := 53, descriptorIndex := 54, attributes := #[] }] 49 203 #[304, 306, 308] #[{ accessFlags := 25, nameIndex := 310, descriptorIndex := 194, attributes := #[] }, { accessFlags := 25, nameIndex := 312, descriptorIndex := 194, attributes := #[] }, { accessFlags := 25, nameIndex := 302, descriptorIndex := 303, attributes := #[] }, { accessFlags := 24, nameIndex := 19, descriptorIndex := 20, attributes := #[] }, { accessFlags := 24, nameIndex := 89, descriptorIndex := 86, attributes := #[] }, { accessFlags := 24, nameIndex := 85, descriptorIndex := 86, attributes := #[] }, { accessFlags := 18, nameIndex := 207, descriptorIndex := 194, attributes := #[] }, { accessFlags := 25, nameIndex := 316, descriptorIndex := 194, attributes := #[] }, { accessFlags := 25, nameIndex := 318, descriptorIndex := 194, attributes := #[] }, { accessFlags := 26, nameIndex := 320, descriptorIndex := 321, attributes := #[] }])
  fields := #[{ name := "MIN_VALUE", type := .int, accessFlags := 25, slot := 0, constantValue := 0 }, { name := "MAX_VALUE", type := .int, accessFlags := 25, slot := 1, constantValue := 0 }, { name := "TYPE", type := (.object "java/lang/Class"), accessFlags := 25, slot := 2, constantValue := 0 }, { name := "digits", type := (.array .char), accessFlags := 24, slot := 3, constantValue := 0 }, { name := "DigitTens", type := (.array .byte), accessFlags := 24, slot := 4, constantValue := 0 }, { name := "DigitOnes", type := (.array .byte), accessFlags := 24, slot := 5, constantValue := 0 }, { name := "value", type := .int, accessFlags := 18, slot := 0, constantValue := 0 }, { name := "SIZE", type := .int, accessFlags := 25, slot := 6, constantValue := 0 }, { name := "BYTES", type := .int, accessFlags := 25, slot := 7, constantValue := 0 }, { name := "serialVersionUID", type := .long, accessFlags := 26, slot := 8, constantValue := 0 }]
  methods := #[k9m0]
  instanceTypes := #[.int]
  staticTypes := #[.int, .int, (.object "java/lang/Class"), (.array .char), (.array .byte), (.array .byte), .int, .int, .long]
  resolved := Array.replicate 453 none
  statics := none }

def pool10 : Array CpInfo := pool [(1, .class_ 2), (0, u "java/lang/Math"), (1, .class_ 6), (1, u "java/lang/Object"), (0, u "<init>"), (0, u "()V"), (89, .class_ 100), (1, u "java/lang/Math$RandomNumberGeneratorHolder"), (71, u "negativeZeroFloatBits"), (0, u "J"), (2, u "negativeZeroDoubleBits"), (21, u "max"), (46, u "$assertionsDisabled"), (0, u "Z"), (88, u "(II)I"), (2, u "twoToTheDoubleScaleDown"), (0, u "D"), (4, u "twoToTheDoubleScaleUp"), (9, u "E"), (3, u "PI"), (2, u "TAU"), (2, u "DEGREES_TO_RADIANS"), (0, u "RADIANS_TO_DEGREES")] 94

def k10m0 : Method := { name := "<init>", desc := "()V", sig := { parameters := [], returnType := none }, accessFlags := 2, code := none }
def k10c1 : Code := { maxStack := 2, maxLocals := 2, code := jdk_29_method_65_code, exceptionTable := #[], attributes := #[] }
def k10m1 : Method := { name := "max", desc := "(II)I", sig := { parameters := [.int, .int], returnType := some .int }, accessFlags := 9, code := some k10c1 }
/-- java/lang/Math -/
def k10 : Class := { plain "java/lang/Math" (some 0) with
  accessFlags := 49
  interfaces := #[]
  cf := some (fileOf pool10 1 #[.nestMembers #[98]] #[{ accessFlags := 2, nameIndex := 7, descriptorIndex := 8, attributes := #[] }, { accessFlags := 9, nameIndex := 198, descriptorIndex := 335, attributes := #[] }] 49 4 #[] #[{ accessFlags := 25, nameIndex := 354, descriptorIndex := 339, attributes := #[] }, { accessFlags := 25, nameIndex := 358, descriptorIndex := 339, attributes := #[] }, { accessFlags := 25, nameIndex := 361, descriptorIndex := 339, attributes := #[] }, { accessFlags := 26, nameIndex := 364, descriptorIndex := 339, attributes := #[] }, { accessFlags := 26, nameIndex := 365, descriptorIndex := 339, attributes := #[] }, { accessFlags := 26, nameIndex := 172, descriptorIndex := 173, attributes := #[] }, { accessFlags := 26, nameIndex := 176, descriptorIndex := 173, attributes := #[] }, { accessFlags := 8, nameIndex := 344, descriptorIndex := 339, attributes := #[] }, { accessFlags := 8, nameIndex := 338, descriptorIndex := 339, attributes := #[] }, { accessFlags := 4120, nameIndex := 245, descriptorIndex := 246, attributes := #[] }])
  fields := #[{ name := "E", type := .double, accessFlags := 25, slot := 0, constantValue := 0 }, { name := "PI", type := .double, accessFlags := 25, slot := 1, constantValue := 0 }, { name := "TAU", type := .double, accessFlags := 25, slot := 2, constantValue := 0 }, { name := "DEGREES_TO_RADIANS", type := .double, accessFlags := 26, slot := 3, constantValue := 0 }, { name := "RADIANS_TO_DEGREES", type := .double, accessFlags := 26, slot := 4, constantValue := 0 }, { name := "negativeZeroFloatBits", type := .long, accessFlags := 26, slot := 5, constantValue := 0 }, { name := "negativeZeroDoubleBits", type := .long, accessFlags := 26, slot := 6, constantValue := 0 }, { name := "twoToTheDoubleScaleUp", type := .double, accessFlags := 8, slot := 7, constantValue := 0 }, { name := "twoToTheDoubleScaleDown", type := .double, accessFlags := 8, slot := 8, constantValue := 0 }, { name := "$assertionsDisabled", type := .boolean, accessFlags := 4120, slot := 9, constantValue := 0 }]
  methods := #[k10m0, k10m1]
  instanceTypes := #[]
  staticTypes := #[.double, .double, .double, .double, .double, .long, .long, .double, .double, .boolean]
  resolved := Array.replicate 460 none
  statics := none }

def pool11 : Array CpInfo := pool [(1, u "java/lang/Cloneable"), (0, .class_ 1), (0, u "java/lang/Object"), (0, .class_ 3)] 3

/-- java/lang/Cloneable -/
def k11 : Class := { plain "java/lang/Cloneable" (some 0) with
  accessFlags := 1537
  interfaces := #[]
  cf := some (fileOf pool11 2 #[] #[] 1537 4 #[] #[])
  fields := #[]
  methods := #[]
  instanceTypes := #[]
  staticTypes := #[]
  resolved := Array.replicate 8 none
  statics := none }

/-- the primitive byte -/
def k12 : Class := { plain "byte" none with kind := .primitive 'B', accessFlags := 0x411 }
/-- [B -/
def k13 : Class := { plain "[B" (some 0) with kind := .array 12 .byte, interfaces := #[11, 3], accessFlags := 1041 }

/-- the primitive int -/
def k14 : Class := { plain "int" none with kind := .primitive 'I', accessFlags := 0x411 }
/-- [I -/
def k15 : Class := { plain "[I" (some 0) with kind := .array 14 .int, interfaces := #[11, 3], accessFlags := 1041 }

/-- the primitive long -/
def k16 : Class := { plain "long" none with kind := .primitive 'J', accessFlags := 0x411 }
/-- [J -/
def k17 : Class := { plain "[J" (some 0) with kind := .array 16 .long, interfaces := #[11, 3], accessFlags := 1041 }

def heap : Heap := #[]
def classes : Array Class := #[k0, k1, k2, k3, k4, k5, k6, k7, k8, k9, k10, k11, k12, k13, k14, k15, k16, k17]
def interned : List (Array UInt16 × Addr) := []
def slotsUsed : Nat := 0
def theMethod : MethodId := ⟨1, 1⟩
def args0 : Array Value := #[.long 5, .long 6, .long 7, .long 8, .long 9]
def aboutOver (below : List Frame) : State where
  vm := { classes := classes, interned := interned.toArray }
  heap := heap
  slotsUsed := slotsUsed
  threads := #[{ frames := .invoking theMethod args0 :: below }]
def below0 : List Frame := [.native { method := ⟨0, 0⟩, args := #[] }]
def about1 : State := aboutOver below0
def p0 : Program := .bare "" "" ""
def e0 : Env := launch0.env 0 0 0
theorem w_frames : about1.frames = Frame.invoking theMethod args0 :: below0 := rfl
set_option maxRecDepth 65536 in
theorem w_args : argsFit about1.vm theMethod args0 = true := by decide +kernel
set_option maxRecDepth 65536 in
theorem w_heap : heapFits about1 = true := by decide +kernel
set_option maxRecDepth 65536 in
theorem w_runnable : about1.curStatus? = some .runnable := by decide +kernel
set_option maxRecDepth 65536 in
theorem w_alone : about1.alone = true := by decide +kernel
set_option maxRecDepth 65536 in
theorem w_named : about1.methodNamed? x = some theMethod := by decide +kernel
set_option maxRecDepth 65536 in
theorem w_hears : about1.hears theMethod below0 = true := by decide +kernel
set_option maxRecDepth 65536 in
theorem w_ripe : about1.ripe theMethod args0 below0 = true := by decide +kernel
theorem w_running : about1.status = .running := rfl
set_option maxRecDepth 65536 in
theorem w_room : about1.hasRoom e0.platform room_1 = true :=
  launch0.hasRoom_least _ room_1 (by decide +kernel) (by decide +kernel) (by decide +kernel) (by decide +kernel) (by decide +kernel) (by decide +kernel)
theorem allAtoms_all (ts : List Jvm.Cond) (a : Array Jvm.Value) (st : Jvm.State) : (allAtoms ts).before a st = ts.all (fun c => c.before a st) := by
  induction ts with
  | nil => rfl
  | cons c t ih =>
    show (Jvm.Cond.and c (allAtoms t)).before a st = _
    rw [Jvm.Cond.before_and, ih, List.all_cons]
def words1 : List Jvm.Cond := Jvm.Cond.code x code maxLocals ret :: tables_1
/-- a 'code' word, met by the world's own term for the bytes: nothing is compared byte by byte -/
theorem code_word {y : MethodName} {bytes : ByteArray} {mx : Nat} {rt : Option FieldType} {a : Array Value} {s : State} {m : MethodId} {meth : Method} {c : Code} (h1 : s.methodNamed? y = some m) (h2 : s.vm.method? m = some meth) (h3 : meth.code = some c) (h4 : c.code = bytes)
    (h5 : (c.maxLocals == mx && c.exceptionTable.isEmpty && decide (c.maxStack ≤ mostOperands) && decide (meth.sig.returnType = rt) && !meth.locks && decide (parseMethodDescriptor y.desc = some meth.sig)) = true) : (Jvm.Cond.code y bytes mx rt).before a s = true := by
  simp only [Bool.and_eq_true, beq_iff_eq, Bool.not_eq_true', decide_eq_true_eq] at h5
  obtain ⟨⟨⟨⟨⟨g1, g2⟩, g3⟩, g4⟩, g5⟩, g6⟩ := h5
  simp [Cond.before, Cond.holds, Cond.value, h1, h2, h3, h4, g1, g2, g3, g4, g5, g6]
def isCode : Jvm.Cond → Bool
  | .code _ _ _ _ => true
  | _ => false
theorem all_split {L : List Jvm.Cond} {P : Jvm.Cond → Bool} (h1 : L.all (fun c => isCode c || P c) = true) (h2 : ∀ c ∈ L.filter isCode, P c = true) : L.all P = true := by
  refine List.all_eq_true.mpr fun c hc => ?_
  have h := List.all_eq_true.mp h1 c hc
  rcases Bool.eq_false_or_eq_true (isCode c) with hi | hi
  · exact h2 c (List.mem_filter.mpr ⟨hc, hi⟩)
  · simpa [hi] using h
set_option maxRecDepth 65536 in
theorem w_c0 : (Jvm.Cond.code x code maxLocals ret).before args0 about1 = true := code_word (m := ⟨1, 1⟩) (meth := k1m1) (c := k1c1) (by decide +kernel) rfl rfl rfl (by decide +kernel)
set_option maxRecDepth 65536 in
theorem w_c1 : (Jvm.Cond.code ({ cls := "com/example/stratasig/stratasig/index/GapCoding$Tally", name := "<init>", desc := "(JJ)V" } : Jvm.MethodName) prog_130_method_1_code (7 : Nat) (Option.none : Option Jvm.ClassFile.FieldType)).before args0 about1 = true := code_word (m := ⟨2, 0⟩) (meth := k2m0) (c := k2c0) (by decide +kernel) rfl rfl rfl (by decide +kernel)
set_option maxRecDepth 65536 in
theorem w_c2 : (Jvm.Cond.code ({ cls := "java/lang/Object", name := "<init>", desc := "()V" } : Jvm.MethodName) object_method_1_code (1 : Nat) (Option.none : Option Jvm.ClassFile.FieldType)).before args0 about1 = true := code_word (m := ⟨0, 0⟩) (meth := k0m0) (c := k0c0) (by decide +kernel) rfl rfl rfl (by decide +kernel)
set_option maxRecDepth 65536 in
theorem w_c3 : (Jvm.Cond.code ({ cls := "java/lang/Long", name := "numberOfLeadingZeros", desc := "(J)I" } : Jvm.MethodName) jdk_35_method_48_code (3 : Nat) (Option.some Jvm.ClassFile.FieldType.int)).before args0 about1 = true := code_word (m := ⟨8, 0⟩) (meth := k8m0) (c := k8c0) (by decide +kernel) rfl rfl rfl (by decide +kernel)
set_option maxRecDepth 65536 in
theorem w_c4 : (Jvm.Cond.code ({ cls := "java/lang/Integer", name := "numberOfLeadingZeros", desc := "(I)I" } : Jvm.MethodName) jdk_33_method_47_code (2 : Nat) (Option.some Jvm.ClassFile.FieldType.int)).before args0 about1 = true := code_word (m := ⟨9, 0⟩) (meth := k9m0) (c := k9c0) (by decide +kernel) rfl rfl rfl (by decide +kernel)
set_option maxRecDepth 65536 in
theorem w_c5 : (Jvm.Cond.code ({ cls := "java/lang/Math", name := "max", desc := "(II)I" } : Jvm.MethodName) jdk_29_method_65_code (2 : Nat) (Option.some Jvm.ClassFile.FieldType.int)).before args0 about1 = true := code_word (m := ⟨10, 1⟩) (meth := k10m1) (c := k10c1) (by decide +kernel) rfl rfl rfl (by decide +kernel)
set_option maxRecDepth 65536 in
theorem w_c6 : (Jvm.Cond.code ({ cls := "com/example/stratasig/stratasig/index/GapCoding$Tally", name := "add", desc := "(J)V" } : Jvm.MethodName) prog_130_method_3_code (5 : Nat) (Option.none : Option Jvm.ClassFile.FieldType)).before args0 about1 = true := code_word (m := ⟨2, 1⟩) (meth := k2m1) (c := k2c1) (by decide +kernel) rfl rfl rfl (by decide +kernel)
set_option maxRecDepth 65536 in
theorem w_c7 : (Jvm.Cond.code ({ cls := "com/example/stratasig/stratasig/index/GapCoding$Tally", name := "add", desc := "(JJ)V" } : Jvm.MethodName) prog_130_method_6_code (7 : Nat) (Option.none : Option Jvm.ClassFile.FieldType)).before args0 about1 = true := code_word (m := ⟨2, 2⟩) (meth := k2m2) (c := k2c2) (by decide +kernel) rfl rfl rfl (by decide +kernel)
set_option maxRecDepth 65536 in
theorem w_c8 : (Jvm.Cond.code ({ cls := "com/example/stratasig/stratasig/index/GapCoding$Tally", name := "bits", desc := "()J" } : Jvm.MethodName) prog_130_method_9_code (2 : Nat) (Option.some Jvm.ClassFile.FieldType.long)).before args0 about1 = true := code_word (m := ⟨2, 4⟩) (meth := k2m4) (c := k2c4) (by decide +kernel) rfl rfl rfl (by decide +kernel)
set_option maxRecDepth 65536 in
theorem w_c9 : (Jvm.Cond.code ({ cls := "com/example/stratasig/stratasig/index/GapCoding$Tally", name := "best", desc := "()I" } : Jvm.MethodName) prog_130_method_12_code (4 : Nat) (Option.some Jvm.ClassFile.FieldType.int)).before args0 about1 = true := code_word (m := ⟨2, 5⟩) (meth := k2m5) (c := k2c5) (by decide +kernel) rfl rfl rfl (by decide +kernel)
set_option maxRecDepth 65536 in
theorem w_c10 : (Jvm.Cond.code ({ cls := "com/example/stratasig/stratasig/index/GapCoding$Tally", name := "quotients", desc := "()[J" } : Jvm.MethodName) prog_130_method_13_code (1 : Nat) (Option.some (Jvm.ClassFile.FieldType.array Jvm.ClassFile.FieldType.long))).before args0 about1 = true := code_word (m := ⟨2, 6⟩) (meth := k2m6) (c := k2c6) (by decide +kernel) rfl rfl rfl (by decide +kernel)
set_option maxRecDepth 65536 in
theorem w_c11 : (Jvm.Cond.code ({ cls := "com/example/stratasig/stratasig/index/GapCoding$Tally", name := "parameter", desc := "()I" } : Jvm.MethodName) prog_130_method_8_code (1 : Nat) (Option.some Jvm.ClassFile.FieldType.int)).before args0 about1 = true := code_word (m := ⟨2, 3⟩) (meth := k2m3) (c := k2c3) (by decide +kernel) rfl rfl rfl (by decide +kernel)
def codes1 : List Jvm.Cond := [Jvm.Cond.code x code maxLocals ret, Jvm.Cond.code ({ cls := "com/example/stratasig/stratasig/index/GapCoding$Tally", name := "<init>", desc := "(JJ)V" } : Jvm.MethodName) prog_130_method_1_code (7 : Nat) (Option.none : Option Jvm.ClassFile.FieldType), Jvm.Cond.code ({ cls := "java/lang/Object", name := "<init>", desc := "()V" } : Jvm.MethodName) object_method_1_code (1 : Nat) (Option.none : Option Jvm.ClassFile.FieldType), Jvm.Cond.code ({ cls := "java/lang/Long", name := "numberOfLeadingZeros", desc := "(J)I" } : Jvm.MethodName) jdk_35_method_48_code (3 : Nat) (Option.some Jvm.ClassFile.FieldType.int), Jvm.Cond.code ({ cls := "java/lang/Integer", name := "numberOfLeadingZeros", desc := "(I)I" } : Jvm.MethodName) jdk_33_method_47_code (2 : Nat) (Option.some Jvm.ClassFile.FieldType.int), Jvm.Cond.code ({ cls := "java/lang/Math", name := "max", desc := "(II)I" } : Jvm.MethodName) jdk_29_method_65_code (2 : Nat) (Option.some Jvm.ClassFile.FieldType.int), Jvm.Cond.code ({ cls := "com/example/stratasig/stratasig/index/GapCoding$Tally", name := "add", desc := "(J)V" } : Jvm.MethodName) prog_130_method_3_code (5 : Nat) (Option.none : Option Jvm.ClassFile.FieldType), Jvm.Cond.code ({ cls := "com/example/stratasig/stratasig/index/GapCoding$Tally", name := "add", desc := "(JJ)V" } : Jvm.MethodName) prog_130_method_6_code (7 : Nat) (Option.none : Option Jvm.ClassFile.FieldType), Jvm.Cond.code ({ cls := "com/example/stratasig/stratasig/index/GapCoding$Tally", name := "bits", desc := "()J" } : Jvm.MethodName) prog_130_method_9_code (2 : Nat) (Option.some Jvm.ClassFile.FieldType.long), Jvm.Cond.code ({ cls := "com/example/stratasig/stratasig/index/GapCoding$Tally", name := "best", desc := "()I" } : Jvm.MethodName) prog_130_method_12_code (4 : Nat) (Option.some Jvm.ClassFile.FieldType.int), Jvm.Cond.code ({ cls := "com/example/stratasig/stratasig/index/GapCoding$Tally", name := "quotients", desc := "()[J" } : Jvm.MethodName) prog_130_method_13_code (1 : Nat) (Option.some (Jvm.ClassFile.FieldType.array Jvm.ClassFile.FieldType.long)), Jvm.Cond.code ({ cls := "com/example/stratasig/stratasig/index/GapCoding$Tally", name := "parameter", desc := "()I" } : Jvm.MethodName) prog_130_method_8_code (1 : Nat) (Option.some Jvm.ClassFile.FieldType.int)]
set_option maxRecDepth 65536 in
theorem codes_eq : words1.filter isCode = codes1 := rfl
theorem w_codes : ∀ c ∈ words1.filter isCode, c.before args0 about1 = true := by
  rw [codes_eq]
  intro c hc
  simp only [codes1, List.mem_cons, List.not_mem_nil, or_false] at hc
  rcases hc with rfl | rfl | rfl | rfl | rfl | rfl | rfl | rfl | rfl | rfl | rfl | rfl
  · exact w_c0
  · exact w_c1
  · exact w_c2
  · exact w_c3
  · exact w_c4
  · exact w_c5
  · exact w_c6
  · exact w_c7
  · exact w_c8
  · exact w_c9
  · exact w_c10
  · exact w_c11
set_option maxRecDepth 65536 in
theorem w_t1 : (words1.take 24).all (fun c => isCode c || c.before args0 about1) = true := by decide +kernel
set_option maxRecDepth 65536 in
theorem w_t2 : ((words1.drop 24).take 24).all (fun c => isCode c || c.before args0 about1) = true := by decide +kernel
set_option maxRecDepth 65536 in
theorem w_t3 : ((words1.drop 24).drop 24).all (fun c => isCode c || c.before args0 about1) = true := by decide +kernel
theorem w_tables : (allAtoms (Jvm.Cond.code x code maxLocals ret :: tables_1)).before args0 about1 = true := by
  rw [allAtoms_all]
  show words1.all (fun c => c.before args0 about1) = true
  refine all_split ?_ w_codes
  rw [← List.take_append_drop 24 words1, List.all_append, w_t1, ← List.take_append_drop 24 (words1.drop 24), List.all_append, w_t2, w_t3]
  rfl
set_option maxRecDepth 65536 in
theorem w_case : (Jvm.Cond.and given_1 narrow_1).before args0 about1 = true := by decide +kernel
theorem w_applies : (headSpec (Jvm.Cond.code x code maxLocals ret :: tables_1) room_1).applies x e0.platform about1 = true :=
  (Spec.applies_iff w_frames).mpr ⟨w_running, w_runnable, w_alone, w_named, w_hears, w_ripe, w_room, w_tables⟩
theorem atStart : AtStart classFile x code maxLocals ret World_1 tables_1 room_1 Calls_1 rest_1 Pre_1 launch0 p0 e0 about1 theMethod args0 below0 :=
  ⟨lists_1, trivial, launch0.admits_env _ _ _, launch0.least_env, fairChoices_fair.cas, fairChoices_fair.clock, w_frames, w_args, w_heap, w_applies, trivial, trivial, w_case⟩
end start1
theorem witness_1 : WitnessClaimed_1 := ⟨start1.p0, start1.e0, start1.about1, start1.theMethod, start1.args0, start1.below0, start1.atStart⟩
end Jvm.Pilot.@@N@@
