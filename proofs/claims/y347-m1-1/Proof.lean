import JvmDerived
import JvmDerived.Pilot.@@N@@Statement
import JvmDerived.Pilot.@@N@@Code
set_option linter.unusedVariables false
set_option linter.unusedSimpArgs false
namespace Jvm.OwnKit
open Sem ClassFile Op Lib Jvm.Stand Jvm.Free Jvm.LawKit Jvm.RoadKit
/-! int and long operations, named -/
def ushr (x y : Int32) : Int32 := (x.toUInt32 >>> (y &&& 31).toUInt32).toInt32
def shl (x y : Int32) : Int32 := x <<< (y &&& 31)
def shr (x y : Int32) : Int32 := x >>> (y &&& 31)
def lushr (x : Int64) (y : Int32) : Int64 := (x.toUInt64 >>> (y &&& 0x3f).toInt64.toUInt64).toInt64
def lshl (x : Int64) (y : Int32) : Int64 := x <<< (y &&& 0x3f).toInt64
def lshr (x : Int64) (y : Int32) : Int64 := x >>> (y &&& 0x3f).toInt64
def chr (x : Int32) : Int32 := x.toUInt32.toUInt16.toUInt32.toInt32
def byt (x : Int32) : Int32 := x.toInt8.toInt32
def sht (x : Int32) : Int32 := x.toInt16.toInt32
theorem narrow_byt (x : Int32) : narrow .byte (.int (byt x)) = .int (byt x) := by simp [narrow, byt]
theorem chr_chr (x : Int32) : chr (chr x) = chr x := by unfold chr; simp only [UInt32.toUInt32_toInt32, UInt16.toUInt16_toUInt32]
theorem byt_byt (x : Int32) : byt (byt x) = byt x := by simp [byt]
theorem narrow_chr (x : Int32) : narrow .char (.int (chr x)) = .int (chr x) := congrArg Value.int (chr_chr x)
/-- what a contract says at the end -/
def CQ (Q : Option Value → Heap → Prop) (n0 : Nat) (v : Option Value) (h : Heap) (L : List Loc) : Prop := Q v h ∧ Fr n0 L
/-- from this frame on the run ends as asked -/
def Go (p : Program) (e : Env) (below : List Frame) (En : Option Value → State → List Loc → Prop) (n0 : Nat) (Q : Option Value → Heap → Prop) (T : State) (g : JFrame) : Prop :=
  ∃ s₂ o, Steps p.tables e below (T.setTop g) s₂ ∧ s₂.status = .running ∧ Ended s₂ below o ∧ ∃ v L, o = .returned v ∧ CQ Q n0 v s₂.heap L ∧ En v s₂ L
/-- the plain end: nothing interned -/
def EndF (s : State) (C S : Nat) (v : Option Value) (t : State) (L : List Loc) : Prop := FrameEnd s (.returned v) t L C S
theorem endF {s : State} {C S cells slots : Nat} {t : State} {L : List Loc} {h : Heap} (hc : cells ≤ C) (hs : slots ≤ S) (v : Option Value) (_ : t.heap = h) (hW : s.WarmedH t.vm) (hsm : s.sameButNew ({ t with vm := s.vm } : State) L cells slots) : EndF s C S v t L := ⟨⟨_, rfl⟩, hW, hsm.mono hc hs⟩
/-- a method's contract -/
def Ctr (l : Launch) (Z : State) (y : MethodName) (bytes : ByteArray) (maxL : Nat) (ret : Option FieldType) (rm : Room) (as' : Array Value) (h0 : Heap) (n0 : Nat) (Q : Option Value → Heap → Prop) : Prop :=
  ∀ ws : List Jvm.Cond, MetFree l y (head1 (Jvm.Cond.code y bytes maxL ret :: ws) rm) (fun a U => a = as' ∧ Z.Warmed39 U.vm ∧ U.heap = h0) (fun _ _ _ _ _ => True) (fun _ U o U' => ∃ v L, o = .returned v ∧ CQ Q n0 v U'.heap L ∧ FrameEnd U o U' L rm.cells rm.slots)
theorem Ctr.of {l : Launch} {Z : State} {y : MethodName} {bytes : ByteArray} {maxL : Nat} {ret : Option FieldType} {rm : Room} {as' : Array Value} {h0 : Heap} {n0 : Nat} {Q : Option Value → Heap → Prop} {Ls : Array Slot}
    (hpl : plainFor y = true) (hef : ∀ m, entryFrame m as' maxL = mkF m 0 Ls [])
    (body : ∀ (p : Program) (e : Env) (s : State) (m : MethodId) (below : List Frame) (meth : Method) (c : Code) (T : State), p.tables.exec = Jvm.exec → c.code = bytes → c.maxLocals = maxL → s.vm.findClass y.cls = some m.cls → meth.name = y.name → meth.sig.returnType = ret → meth.locks = false → Z.Warmed39 s.vm →
      Stand p l e rm s m as' below meth c T [] 0 0 → T.heap = h0 → Go p e below (EndF s rm.cells rm.slots) n0 Q T (mkF m 0 Ls [])) : Ctr l Z y bytes maxL ret rm as' h0 n0 Q := by
  intro ws
  refine MetFree.of_bodySF hpl hisR ?_
  intro p e s m args below meth c s₁ Bd hml0 hP hK
  obtain ⟨rfl, hZ, hh⟩ := hP
  have hown : s.vm.findClass y.cls = some m.cls := findClass_of_methodNamed Bd.named
  have hnm := (name_of_methodNamed Bd.named Bd.method).1
  have e0 : s₁.heap = h0 := by rw [← hh, Bd.state]; rfl
  rw [hef]
  obtain ⟨s₂, o, h1, h2, h3, v, L, rfl, h5, h6⟩ := body p e s m below meth c s₁ Bd.exec Bd.bytes hml0 hown hnm Bd.returns Bd.notSynchronized hZ (Stand.of_body Bd) e0
  exact ⟨s₂, _, h1, h2, h3, v, L, rfl, h5, h6⟩
section Go
variable {p : Program} {l : Launch} {e : Env} {R : Room} {s : State} {m : MethodId} {args : Array Value} {below : List Frame} {meth : Method} {c : Code} {T : State} {locs : List Loc} {cells slots : Nat} {Z : State} {a0 : Array Value} {h h' : Heap} {n0 : Nat} {En : Option Value → State → List Loc → Prop} {Q : Option Value → Heap → Prop}
variable {pc pc' pc1 pc2 : Nat} {Ls Ls' : Array Slot} {st : List Value}
theorem Go.mov {T' : State} {g g' : JFrame} (k : ∀ target, Steps p.tables e below (T'.setTop g') target → Steps p.tables e below (T.setTop g) target) (G : Go p e below En n0 Q T' g') : Go p e below En n0 Q T g := by
  obtain ⟨s₂, o, h1, r⟩ := G
  exact ⟨s₂, o, k _ h1, r⟩
theorem Go.movp {T' : State} {g g' : JFrame} (k : ∀ target, Steps p.tables e below (T'.setTop g') target → Steps p.tables e below (T.setTop g) target) (g'' : JFrame) (q : g' = g'') (G : Go p e below En n0 Q T' g'') : Go p e below En n0 Q T g := Go.mov k (q ▸ G)
theorem Go.cast {g g' : JFrame} (q : g = g') (G : Go p e below En n0 Q T g') : Go p e below En n0 Q T g := q ▸ G
theorem Go.imp {Q' : Option Value → Heap → Prop} {g : JFrame} (q : ∀ v h, Q v h → Q' v h) (G : Go p e below En n0 Q T g) : Go p e below En n0 Q' T g := by
  obtain ⟨s₂, o, h1, h2, h3, v, L, h4, ⟨h5, h6⟩, h7⟩ := G
  exact ⟨s₂, o, h1, h2, h3, v, L, h4, ⟨q _ _ h5, h6⟩, h7⟩
theorem g_iload (X : Stand p l e R s m args below meth c T locs cells slots) (hx : p.tables.exec = Jvm.exec) {k : Nat} {v : Int32} (hd : decode c.code pc = .ok (.iload k, 2)) (hp : pc + 2 = pc') (hl : Ls[k]? = some (.val (.int v))) (G : Go p e below En n0 Q T (mkF m pc' Ls (.int v :: st))) : Go p e below En n0 Q T (mkF m pc Ls (st)) := by
  subst hp
  exact Go.mov (fun _ k => XS.iload X.here hx rfl hd hl k) G
theorem g_iloadN (X : Stand p l e R s m args below meth c T locs cells slots) (hx : p.tables.exec = Jvm.exec) {k : Fin 4} {v : Int32} (hd : decode c.code pc = .ok (.iload_n k, 1)) (hp : pc + 1 = pc') (hl : Ls[k.val]? = some (.val (.int v))) (G : Go p e below En n0 Q T (mkF m pc' Ls (.int v :: st))) : Go p e below En n0 Q T (mkF m pc Ls (st)) := by
  subst hp
  exact Go.mov (fun _ k => XS.iloadN X.here hx rfl hd hl k) G
theorem g_lload (X : Stand p l e R s m args below meth c T locs cells slots) (hx : p.tables.exec = Jvm.exec) {k : Nat} {v : Int64} (hd : decode c.code pc = .ok (.lload k, 2)) (hp : pc + 2 = pc') (hl : Ls[k]? = some (.val (.long v))) (G : Go p e below En n0 Q T (mkF m pc' Ls (.long v :: st))) : Go p e below En n0 Q T (mkF m pc Ls (st)) := by
  subst hp
  exact Go.mov (fun _ k => XS.lload X.here hx rfl hd hl k) G
theorem g_lloadN (X : Stand p l e R s m args below meth c T locs cells slots) (hx : p.tables.exec = Jvm.exec) {k : Fin 4} {v : Int64} (hd : decode c.code pc = .ok (.lload_n k, 1)) (hp : pc + 1 = pc') (hl : Ls[k.val]? = some (.val (.long v))) (G : Go p e below En n0 Q T (mkF m pc' Ls (.long v :: st))) : Go p e below En n0 Q T (mkF m pc Ls (st)) := by
  subst hp
  exact Go.mov (fun _ k => XS.lloadN X.here hx rfl hd hl k) G
theorem g_aload (X : Stand p l e R s m args below meth c T locs cells slots) (hx : p.tables.exec = Jvm.exec) {k : Nat} {v : Value} (hd : decode c.code pc = .ok (.aload k, 2)) (hp : pc + 2 = pc') (hl : Ls[k]? = some (.val v)) (hv : v.isRef = true) (G : Go p e below En n0 Q T (mkF m pc' Ls (v :: st))) : Go p e below En n0 Q T (mkF m pc Ls (st)) := by
  subst hp
  exact Go.mov (fun _ k => XS.aload X.here hx rfl hd hl hv k) G
theorem g_aloadN (X : Stand p l e R s m args below meth c T locs cells slots) (hx : p.tables.exec = Jvm.exec) {k : Fin 4} {v : Value} (hd : decode c.code pc = .ok (.aload_n k, 1)) (hp : pc + 1 = pc') (hl : Ls[k.val]? = some (.val v)) (hv : v.isRef = true) (G : Go p e below En n0 Q T (mkF m pc' Ls (v :: st))) : Go p e below En n0 Q T (mkF m pc Ls (st)) := by
  subst hp
  exact Go.mov (fun _ k => XS.aloadN X.here hx rfl hd hl hv k) G
theorem g_istore (X : Stand p l e R s m args below meth c T locs cells slots) (hx : p.tables.exec = Jvm.exec) {k : Nat} {v : Int32} (hd : decode c.code pc = .ok (.istore k, 2)) (hp : pc + 2 = pc') (hl : storeLocals Ls k (.int v) = some Ls') (G : Go p e below En n0 Q T (mkF m pc' Ls' (st))) : Go p e below En n0 Q T (mkF m pc Ls (.int v :: st)) := by
  subst hp
  exact Go.mov (fun _ k => XS.istore X.here hx rfl hd rfl hl k) G
theorem g_istoreN (X : Stand p l e R s m args below meth c T locs cells slots) (hx : p.tables.exec = Jvm.exec) {k : Fin 4} {v : Int32} (hd : decode c.code pc = .ok (.istore_n k, 1)) (hp : pc + 1 = pc') (hl : storeLocals Ls k.val (.int v) = some Ls') (G : Go p e below En n0 Q T (mkF m pc' Ls' (st))) : Go p e below En n0 Q T (mkF m pc Ls (.int v :: st)) := by
  subst hp
  exact Go.mov (fun _ k => XS.istoreN X.here hx rfl hd rfl hl k) G
theorem g_lstore (X : Stand p l e R s m args below meth c T locs cells slots) (hx : p.tables.exec = Jvm.exec) {k : Nat} {v : Int64} (hd : decode c.code pc = .ok (.lstore k, 2)) (hp : pc + 2 = pc') (hl : storeLocals Ls k (.long v) = some Ls') (G : Go p e below En n0 Q T (mkF m pc' Ls' (st))) : Go p e below En n0 Q T (mkF m pc Ls (.long v :: st)) := by
  subst hp
  exact Go.mov (fun _ k => XS.lstore X.here hx rfl hd rfl hl k) G
theorem g_lstoreN (X : Stand p l e R s m args below meth c T locs cells slots) (hx : p.tables.exec = Jvm.exec) {k : Fin 4} {v : Int64} (hd : decode c.code pc = .ok (.lstore_n k, 1)) (hp : pc + 1 = pc') (hl : storeLocals Ls k.val (.long v) = some Ls') (G : Go p e below En n0 Q T (mkF m pc' Ls' (st))) : Go p e below En n0 Q T (mkF m pc Ls (.long v :: st)) := by
  subst hp
  exact Go.mov (fun _ k => XS.lstoreN X.here hx rfl hd rfl hl k) G
theorem g_astore (X : Stand p l e R s m args below meth c T locs cells slots) (hx : p.tables.exec = Jvm.exec) {k : Nat} {v : Value} (hd : decode c.code pc = .ok (.astore k, 2)) (hp : pc + 2 = pc') (hv : v.isRef = true) (hl : storeLocals Ls k v = some Ls') (G : Go p e below En n0 Q T (mkF m pc' Ls' (st))) : Go p e below En n0 Q T (mkF m pc Ls (v :: st)) := by
  subst hp
  exact Go.mov (fun _ k => XS.astore X.here hx rfl hd rfl hv hl k) G
theorem g_astoreN (X : Stand p l e R s m args below meth c T locs cells slots) (hx : p.tables.exec = Jvm.exec) {k : Fin 4} {v : Value} (hd : decode c.code pc = .ok (.astore_n k, 1)) (hp : pc + 1 = pc') (hv : v.isRef = true) (hl : storeLocals Ls k.val v = some Ls') (G : Go p e below En n0 Q T (mkF m pc' Ls' (st))) : Go p e below En n0 Q T (mkF m pc Ls (v :: st)) := by
  subst hp
  exact Go.mov (fun _ k => XS.astoreN X.here hx rfl hd rfl hv hl k) G
theorem g_iconst (X : Stand p l e R s m args below meth c T locs cells slots) (hx : p.tables.exec = Jvm.exec) {i : Int} {z : Int32} (hd : decode c.code pc = .ok (.iconst i, 1)) (hp : pc + 1 = pc') (hz : Int32.ofInt i = z) (G : Go p e below En n0 Q T (mkF m pc' Ls (.int z :: st))) : Go p e below En n0 Q T (mkF m pc Ls st) := by
  subst hp hz
  exact Go.mov (fun _ k => XS.iconst X.here hx rfl hd k) G
theorem g_bipush (X : Stand p l e R s m args below meth c T locs cells slots) (hx : p.tables.exec = Jvm.exec) {i : Int} {z : Int32} (hd : decode c.code pc = .ok (.bipush i, 2)) (hp : pc + 2 = pc') (hz : (Int8.ofInt i).toInt32 = z) (G : Go p e below En n0 Q T (mkF m pc' Ls (.int z :: st))) : Go p e below En n0 Q T (mkF m pc Ls st) := by
  subst hp hz
  exact Go.mov (fun _ k => XS.bipush X.here hx rfl hd k) G
theorem g_sipush (X : Stand p l e R s m args below meth c T locs cells slots) (hx : p.tables.exec = Jvm.exec) {i : Int} {z : Int32} (hd : decode c.code pc = .ok (.sipush i, 3)) (hp : pc + 3 = pc') (hz : (Int16.ofInt i).toInt32 = z) (G : Go p e below En n0 Q T (mkF m pc' Ls (.int z :: st))) : Go p e below En n0 Q T (mkF m pc Ls st) := by
  subst hp hz
  exact Go.mov (fun _ k => XS.sipush X.here hx rfl hd k) G
theorem g_lconst (X : Stand p l e R s m args below meth c T locs cells slots) (hx : p.tables.exec = Jvm.exec) {i : Fin 2} {z : Int64} (hd : decode c.code pc = .ok (.lconst i, 1)) (hp : pc + 1 = pc') (hz : Int64.ofNat i = z) (G : Go p e below En n0 Q T (mkF m pc' Ls (.long z :: st))) : Go p e below En n0 Q T (mkF m pc Ls st) := by
  subst hp hz
  exact Go.mov (fun _ k => XS.lconst X.here hx rfl hd k) G
theorem g_aconst_null (X : Stand p l e R s m args below meth c T locs cells slots) (hx : p.tables.exec = Jvm.exec)  (hd : decode c.code pc = .ok (.aconst_null, 1)) (hp : pc + 1 = pc') (G : Go p e below En n0 Q T (mkF m pc' Ls (.null :: st))) : Go p e below En n0 Q T (mkF m pc Ls (st)) := by
  subst hp
  exact Go.mov (fun _ k => XS.aconstNull X.here hx rfl hd k) G
theorem g_iadd (X : Stand p l e R s m args below meth c T locs cells slots) (hx : p.tables.exec = Jvm.exec) {x y : Int32} (hd : decode c.code pc = .ok (.iadd, 1)) (hp : pc + 1 = pc') (G : Go p e below En n0 Q T (mkF m pc' Ls (.int (x + y) :: st))) : Go p e below En n0 Q T (mkF m pc Ls (.int y :: .int x :: st)) := by
  subst hp
  exact Go.mov (fun _ k => XS.iadd X.here hx rfl hd rfl k) G
theorem g_ladd (X : Stand p l e R s m args below meth c T locs cells slots) (hx : p.tables.exec = Jvm.exec) {x y : Int64} (hd : decode c.code pc = .ok (.ladd, 1)) (hp : pc + 1 = pc') (G : Go p e below En n0 Q T (mkF m pc' Ls (.long (x + y) :: st))) : Go p e below En n0 Q T (mkF m pc Ls (.long y :: .long x :: st)) := by
  subst hp
  exact Go.mov (fun _ k => XS.ladd X.here hx rfl hd rfl k) G
theorem g_isub (X : Stand p l e R s m args below meth c T locs cells slots) (hx : p.tables.exec = Jvm.exec) {x y : Int32} (hd : decode c.code pc = .ok (.isub, 1)) (hp : pc + 1 = pc') (G : Go p e below En n0 Q T (mkF m pc' Ls (.int (x - y) :: st))) : Go p e below En n0 Q T (mkF m pc Ls (.int y :: .int x :: st)) := by
  subst hp
  exact Go.mov (fun _ k => XS.isub X.here hx rfl hd rfl k) G
theorem g_lsub (X : Stand p l e R s m args below meth c T locs cells slots) (hx : p.tables.exec = Jvm.exec) {x y : Int64} (hd : decode c.code pc = .ok (.lsub, 1)) (hp : pc + 1 = pc') (G : Go p e below En n0 Q T (mkF m pc' Ls (.long (x - y) :: st))) : Go p e below En n0 Q T (mkF m pc Ls (.long y :: .long x :: st)) := by
  subst hp
  exact Go.mov (fun _ k => XS.lsub X.here hx rfl hd rfl k) G
theorem g_imul (X : Stand p l e R s m args below meth c T locs cells slots) (hx : p.tables.exec = Jvm.exec) {x y : Int32} (hd : decode c.code pc = .ok (.imul, 1)) (hp : pc + 1 = pc') (G : Go p e below En n0 Q T (mkF m pc' Ls (.int (x * y) :: st))) : Go p e below En n0 Q T (mkF m pc Ls (.int y :: .int x :: st)) := by
  subst hp
  exact Go.mov (fun _ k => XS.imul X.here hx rfl hd rfl k) G
theorem g_lmul (X : Stand p l e R s m args below meth c T locs cells slots) (hx : p.tables.exec = Jvm.exec) {x y : Int64} (hd : decode c.code pc = .ok (.lmul, 1)) (hp : pc + 1 = pc') (G : Go p e below En n0 Q T (mkF m pc' Ls (.long (x * y) :: st))) : Go p e below En n0 Q T (mkF m pc Ls (.long y :: .long x :: st)) := by
  subst hp
  exact Go.mov (fun _ k => XS.lmul X.here hx rfl hd rfl k) G
theorem g_iand (X : Stand p l e R s m args below meth c T locs cells slots) (hx : p.tables.exec = Jvm.exec) {x y : Int32} (hd : decode c.code pc = .ok (.iand, 1)) (hp : pc + 1 = pc') (G : Go p e below En n0 Q T (mkF m pc' Ls (.int (x &&& y) :: st))) : Go p e below En n0 Q T (mkF m pc Ls (.int y :: .int x :: st)) := by
  subst hp
  exact Go.mov (fun _ k => XS.iand X.here hx rfl hd rfl k) G
theorem g_land (X : Stand p l e R s m args below meth c T locs cells slots) (hx : p.tables.exec = Jvm.exec) {x y : Int64} (hd : decode c.code pc = .ok (.land, 1)) (hp : pc + 1 = pc') (G : Go p e below En n0 Q T (mkF m pc' Ls (.long (x &&& y) :: st))) : Go p e below En n0 Q T (mkF m pc Ls (.long y :: .long x :: st)) := by
  subst hp
  exact Go.mov (fun _ k => XS.land X.here hx rfl hd rfl k) G
theorem g_ior (X : Stand p l e R s m args below meth c T locs cells slots) (hx : p.tables.exec = Jvm.exec) {x y : Int32} (hd : decode c.code pc = .ok (.ior, 1)) (hp : pc + 1 = pc') (G : Go p e below En n0 Q T (mkF m pc' Ls (.int (x ||| y) :: st))) : Go p e below En n0 Q T (mkF m pc Ls (.int y :: .int x :: st)) := by
  subst hp
  exact Go.mov (fun _ k => XS.ior X.here hx rfl hd rfl k) G
theorem g_lor (X : Stand p l e R s m args below meth c T locs cells slots) (hx : p.tables.exec = Jvm.exec) {x y : Int64} (hd : decode c.code pc = .ok (.lor, 1)) (hp : pc + 1 = pc') (G : Go p e below En n0 Q T (mkF m pc' Ls (.long (x ||| y) :: st))) : Go p e below En n0 Q T (mkF m pc Ls (.long y :: .long x :: st)) := by
  subst hp
  exact Go.mov (fun _ k => XS.lor X.here hx rfl hd rfl k) G
theorem g_ixor (X : Stand p l e R s m args below meth c T locs cells slots) (hx : p.tables.exec = Jvm.exec) {x y : Int32} (hd : decode c.code pc = .ok (.ixor, 1)) (hp : pc + 1 = pc') (G : Go p e below En n0 Q T (mkF m pc' Ls (.int (x ^^^ y) :: st))) : Go p e below En n0 Q T (mkF m pc Ls (.int y :: .int x :: st)) := by
  subst hp
  exact Go.mov (fun _ k => XS.ixor X.here hx rfl hd rfl k) G
theorem g_lxor (X : Stand p l e R s m args below meth c T locs cells slots) (hx : p.tables.exec = Jvm.exec) {x y : Int64} (hd : decode c.code pc = .ok (.lxor, 1)) (hp : pc + 1 = pc') (G : Go p e below En n0 Q T (mkF m pc' Ls (.long (x ^^^ y) :: st))) : Go p e below En n0 Q T (mkF m pc Ls (.long y :: .long x :: st)) := by
  subst hp
  exact Go.mov (fun _ k => XS.lxor X.here hx rfl hd rfl k) G
theorem g_ishl (X : Stand p l e R s m args below meth c T locs cells slots) (hx : p.tables.exec = Jvm.exec) {x y : Int32} (hd : decode c.code pc = .ok (.ishl, 1)) (hp : pc + 1 = pc') (G : Go p e below En n0 Q T (mkF m pc' Ls (.int (shl x y) :: st))) : Go p e below En n0 Q T (mkF m pc Ls (.int y :: .int x :: st)) := by
  subst hp
  exact Go.mov (fun _ k => XS.ishl X.here hx rfl hd rfl k) G
theorem g_lshl (X : Stand p l e R s m args below meth c T locs cells slots) (hx : p.tables.exec = Jvm.exec) {x : Int64} {y : Int32} (hd : decode c.code pc = .ok (.lshl, 1)) (hp : pc + 1 = pc') (G : Go p e below En n0 Q T (mkF m pc' Ls (.long (lshl x y) :: st))) : Go p e below En n0 Q T (mkF m pc Ls (.int y :: .long x :: st)) := by
  subst hp
  exact Go.mov (fun _ k => XS.lshl X.here hx rfl hd rfl k) G
theorem g_ishr (X : Stand p l e R s m args below meth c T locs cells slots) (hx : p.tables.exec = Jvm.exec) {x y : Int32} (hd : decode c.code pc = .ok (.ishr, 1)) (hp : pc + 1 = pc') (G : Go p e below En n0 Q T (mkF m pc' Ls (.int (shr x y) :: st))) : Go p e below En n0 Q T (mkF m pc Ls (.int y :: .int x :: st)) := by
  subst hp
  exact Go.mov (fun _ k => XS.ishr X.here hx rfl hd rfl k) G
theorem g_lshr (X : Stand p l e R s m args below meth c T locs cells slots) (hx : p.tables.exec = Jvm.exec) {x : Int64} {y : Int32} (hd : decode c.code pc = .ok (.lshr, 1)) (hp : pc + 1 = pc') (G : Go p e below En n0 Q T (mkF m pc' Ls (.long (lshr x y) :: st))) : Go p e below En n0 Q T (mkF m pc Ls (.int y :: .long x :: st)) := by
  subst hp
  exact Go.mov (fun _ k => XS.lshr X.here hx rfl hd rfl k) G
theorem g_iushr (X : Stand p l e R s m args below meth c T locs cells slots) (hx : p.tables.exec = Jvm.exec) {x y : Int32} (hd : decode c.code pc = .ok (.iushr, 1)) (hp : pc + 1 = pc') (G : Go p e below En n0 Q T (mkF m pc' Ls (.int (ushr x y) :: st))) : Go p e below En n0 Q T (mkF m pc Ls (.int y :: .int x :: st)) := by
  subst hp
  exact Go.mov (fun _ k => XS.iushr X.here hx rfl hd rfl k) G
theorem g_lushr (X : Stand p l e R s m args below meth c T locs cells slots) (hx : p.tables.exec = Jvm.exec) {x : Int64} {y : Int32} (hd : decode c.code pc = .ok (.lushr, 1)) (hp : pc + 1 = pc') (G : Go p e below En n0 Q T (mkF m pc' Ls (.long (lushr x y) :: st))) : Go p e below En n0 Q T (mkF m pc Ls (.int y :: .long x :: st)) := by
  subst hp
  exact Go.mov (fun _ k => XS.lushr X.here hx rfl hd rfl k) G
theorem g_i2b (X : Stand p l e R s m args below meth c T locs cells slots) (hx : p.tables.exec = Jvm.exec) {x : Int32} (hd : decode c.code pc = .ok (.i2b, 1)) (hp : pc + 1 = pc') (G : Go p e below En n0 Q T (mkF m pc' Ls (.int (byt x) :: st))) : Go p e below En n0 Q T (mkF m pc Ls (.int x :: st)) := by
  subst hp
  exact Go.mov (fun _ k => XS.i2b X.here hx rfl hd rfl k) G
theorem g_i2c (X : Stand p l e R s m args below meth c T locs cells slots) (hx : p.tables.exec = Jvm.exec) {x : Int32} (hd : decode c.code pc = .ok (.i2c, 1)) (hp : pc + 1 = pc') (G : Go p e below En n0 Q T (mkF m pc' Ls (.int (chr x) :: st))) : Go p e below En n0 Q T (mkF m pc Ls (.int x :: st)) := by
  subst hp
  exact Go.mov (fun _ k => XS.i2c X.here hx rfl hd rfl k) G
theorem g_i2s (X : Stand p l e R s m args below meth c T locs cells slots) (hx : p.tables.exec = Jvm.exec) {x : Int32} (hd : decode c.code pc = .ok (.i2s, 1)) (hp : pc + 1 = pc') (G : Go p e below En n0 Q T (mkF m pc' Ls (.int (sht x) :: st))) : Go p e below En n0 Q T (mkF m pc Ls (.int x :: st)) := by
  subst hp
  exact Go.mov (fun _ k => XS.i2s X.here hx rfl hd rfl k) G
theorem g_i2l (X : Stand p l e R s m args below meth c T locs cells slots) (hx : p.tables.exec = Jvm.exec) {x : Int32} (hd : decode c.code pc = .ok (.i2l, 1)) (hp : pc + 1 = pc') (G : Go p e below En n0 Q T (mkF m pc' Ls (.long x.toInt64 :: st))) : Go p e below En n0 Q T (mkF m pc Ls (.int x :: st)) := by
  subst hp
  exact Go.mov (fun _ k => XS.i2l X.here hx rfl hd rfl k) G
theorem g_l2i (X : Stand p l e R s m args below meth c T locs cells slots) (hx : p.tables.exec = Jvm.exec) {x : Int64} (hd : decode c.code pc = .ok (.l2i, 1)) (hp : pc + 1 = pc') (G : Go p e below En n0 Q T (mkF m pc' Ls (.int x.toInt32 :: st))) : Go p e below En n0 Q T (mkF m pc Ls (.long x :: st)) := by
  subst hp
  exact Go.mov (fun _ k => XS.l2i X.here hx rfl hd rfl k) G
theorem g_ineg (X : Stand p l e R s m args below meth c T locs cells slots) (hx : p.tables.exec = Jvm.exec) {x : Int32} (hd : decode c.code pc = .ok (.ineg, 1)) (hp : pc + 1 = pc') (G : Go p e below En n0 Q T (mkF m pc' Ls (.int (-x) :: st))) : Go p e below En n0 Q T (mkF m pc Ls (.int x :: st)) := by
  subst hp
  exact Go.mov (fun _ k => XS.ineg X.here hx rfl hd rfl k) G
theorem g_lneg (X : Stand p l e R s m args below meth c T locs cells slots) (hx : p.tables.exec = Jvm.exec) {x : Int64} (hd : decode c.code pc = .ok (.lneg, 1)) (hp : pc + 1 = pc') (G : Go p e below En n0 Q T (mkF m pc' Ls (.long (-x) :: st))) : Go p e below En n0 Q T (mkF m pc Ls (.long x :: st)) := by
  subst hp
  exact Go.mov (fun _ k => XS.lneg X.here hx rfl hd rfl k) G
theorem g_idiv (X : Stand p l e R s m args below meth c T locs cells slots) (hx : p.tables.exec = Jvm.exec) {x y : Int32} (hd : decode c.code pc = .ok (.idiv, 1)) (hp : pc + 1 = pc') (hy : y ≠ 0) (G : Go p e below En n0 Q T (mkF m pc' Ls (.int (x / y) :: st))) : Go p e below En n0 Q T (mkF m pc Ls (.int y :: .int x :: st)) := by
  subst hp
  exact Go.mov (fun _ k => XS.idiv X.here hx rfl hd rfl hy k) G
theorem g_ldiv (X : Stand p l e R s m args below meth c T locs cells slots) (hx : p.tables.exec = Jvm.exec) {x y : Int64} (hd : decode c.code pc = .ok (.ldiv, 1)) (hp : pc + 1 = pc') (hy : y ≠ 0) (G : Go p e below En n0 Q T (mkF m pc' Ls (.long (x / y) :: st))) : Go p e below En n0 Q T (mkF m pc Ls (.long y :: .long x :: st)) := by
  subst hp
  exact Go.mov (fun _ k => XS.ldiv X.here hx rfl hd rfl hy k) G
theorem g_irem (X : Stand p l e R s m args below meth c T locs cells slots) (hx : p.tables.exec = Jvm.exec) {x y : Int32} (hd : decode c.code pc = .ok (.irem, 1)) (hp : pc + 1 = pc') (hy : y ≠ 0) (G : Go p e below En n0 Q T (mkF m pc' Ls (.int (x % y) :: st))) : Go p e below En n0 Q T (mkF m pc Ls (.int y :: .int x :: st)) := by
  subst hp
  exact Go.mov (fun _ k => iremM X hx rfl hd rfl hy k) G
theorem g_lcmp (X : Stand p l e R s m args below meth c T locs cells slots) (hx : p.tables.exec = Jvm.exec) {x y : Int64} (hd : decode c.code pc = .ok (.lcmp, 1)) (hp : pc + 1 = pc') (G : Go p e below En n0 Q T (mkF m pc' Ls (.int (lcmpW x y) :: st))) : Go p e below En n0 Q T (mkF m pc Ls (.long y :: .long x :: st)) := by
  subst hp
  exact Go.mov (fun _ k => XS.lcmp X.here hx rfl hd rfl k) G
theorem g_dup (X : Stand p l e R s m args below meth c T locs cells slots) (hx : p.tables.exec = Jvm.exec) {x : Value} (hd : decode c.code pc = .ok (.dup, 1)) (hp : pc + 1 = pc') (hc : x.category = 1) (G : Go p e below En n0 Q T (mkF m pc' Ls (x :: x :: st))) : Go p e below En n0 Q T (mkF m pc Ls (x :: st)) := by
  subst hp
  exact Go.mov (fun _ k => XS.dup X.here hx rfl hd rfl hc k) G
theorem g_dup_x1 (X : Stand p l e R s m args below meth c T locs cells slots) (hx : p.tables.exec = Jvm.exec) {x y : Value} (hd : decode c.code pc = .ok (.dup_x1, 1)) (hp : pc + 1 = pc') (hc : x.category = 1) (hc2 : y.category = 1) (G : Go p e below En n0 Q T (mkF m pc' Ls (x :: y :: x :: st))) : Go p e below En n0 Q T (mkF m pc Ls (x :: y :: st)) := by
  subst hp
  exact Go.mov (fun _ k => XS.dupX1 X.here hx rfl hd rfl hc hc2 k) G
theorem g_pop (X : Stand p l e R s m args below meth c T locs cells slots) (hx : p.tables.exec = Jvm.exec) {x : Value} (hd : decode c.code pc = .ok (.pop, 1)) (hp : pc + 1 = pc') (hc : x.category = 1) (G : Go p e below En n0 Q T (mkF m pc' Ls (st))) : Go p e below En n0 Q T (mkF m pc Ls (x :: st)) := by
  subst hp
  exact Go.mov (fun _ k => XS.pop X.here hx rfl hd rfl hc k) G
theorem g_iinc (X : Stand p l e R s m args below meth c T locs cells slots) (hx : p.tables.exec = Jvm.exec) {k : Nat} {cst : Int} {v z : Int32} (hd : decode c.code pc = .ok (.iinc k cst, 3)) (hp : pc + 3 = pc') (hl : Ls[k]? = some (.val (.int v))) (hz : Int32.ofInt cst = z) (hl' : storeLocals Ls k (.int (v + z)) = some Ls') (G : Go p e below En n0 Q T (mkF m pc' Ls' st)) : Go p e below En n0 Q T (mkF m pc Ls st) := by
  subst hp hz
  exact Go.mov (fun _ k => XS.iinc X.here hx rfl hd hl hl' k) G
theorem g_goto (X : Stand p l e R s m args below meth c T locs cells slots) (hx : p.tables.exec = Jvm.exec) {o : Int} (hd : decode c.code pc = .ok (.goto o, 3)) (ho : 0 ≤ (pc : Int) + o) (hp : ((pc : Int) + o).toNat = pc') (G : Go p e below En n0 Q T (mkF m pc' Ls st)) : Go p e below En n0 Q T (mkF m pc Ls st) :=
  Go.mov (fun _ k => XS.goto X.here hx rfl rfl hd ho hp k) G
theorem g_icmp_lt (X : Stand p l e R s m args below meth c T locs cells slots) (hx : p.tables.exec = Jvm.exec) {x y : Int32} {o : Int} (hd : decode c.code pc = .ok (.if_icmp .lt o, 3)) (hp1 : pc1 = pc + 3) (ho : 0 ≤ (pc : Int) + o) (hp2 : ((pc : Int) + o).toNat = pc2) (G2 : (x < y) → Go p e below En n0 Q T (mkF m pc2 Ls st)) (G1 : (¬ x < y) → Go p e below En n0 Q T (mkF m pc1 Ls st)) : Go p e below En n0 Q T (mkF m pc Ls (.int y :: .int x :: st)) := by
  by_cases q : x < y
  · exact Go.mov (fun _ k => XS.icmpYes X.here hx rfl rfl hd rfl (tlt q).1 ho hp2 k) (G2 q)
  · exact Go.mov (fun _ k => XS.icmpNo X.here hx rfl hd rfl (flt q).1 (hp1 ▸ k)) (G1 q)
theorem g_if_lt (X : Stand p l e R s m args below meth c T locs cells slots) (hx : p.tables.exec = Jvm.exec) {x : Int32} {o : Int} (hd : decode c.code pc = .ok (.ifCond .lt o, 3)) (hp1 : pc1 = pc + 3) (ho : 0 ≤ (pc : Int) + o) (hp2 : ((pc : Int) + o).toNat = pc2) (G2 : (x < (0 : Int32)) → Go p e below En n0 Q T (mkF m pc2 Ls st)) (G1 : (¬ x < (0 : Int32)) → Go p e below En n0 Q T (mkF m pc1 Ls st)) : Go p e below En n0 Q T (mkF m pc Ls (.int x :: st)) := by
  by_cases q : x < (0 : Int32)
  · exact Go.mov (fun _ k => XS.ifYes X.here hx rfl rfl hd rfl ((if0 _ _).trans (tlt q).1) ho hp2 k) (G2 q)
  · exact Go.mov (fun _ k => XS.ifNo X.here hx rfl hd rfl ((if0 _ _).trans (flt q).1) (hp1 ▸ k)) (G1 q)
theorem g_lcmp_lt (X : Stand p l e R s m args below meth c T locs cells slots) (hx : p.tables.exec = Jvm.exec) {x y : Int64} {o : Int} (hd0 : decode c.code pc = .ok (.lcmp, 1)) (hp0 : pc + 1 = pc') (hd : decode c.code pc' = .ok (.ifCond .lt o, 3)) (hp1 : pc1 = pc' + 3) (ho : 0 ≤ (pc' : Int) + o) (hp2 : ((pc' : Int) + o).toNat = pc2) (G2 : (x < y) → Go p e below En n0 Q T (mkF m pc2 Ls st)) (G1 : (¬ x < y) → Go p e below En n0 Q T (mkF m pc1 Ls st)) : Go p e below En n0 Q T (mkF m pc Ls (.long y :: .long x :: st)) :=
  g_lcmp X hx hd0 hp0 (g_if_lt X hx hd hp1 ho hp2 (fun q => G2 ((lw_lt x y).mp q)) (fun q => G1 (fun r => q ((lw_lt x y).mpr r))))
theorem g_icmp_ge (X : Stand p l e R s m args below meth c T locs cells slots) (hx : p.tables.exec = Jvm.exec) {x y : Int32} {o : Int} (hd : decode c.code pc = .ok (.if_icmp .ge o, 3)) (hp1 : pc1 = pc + 3) (ho : 0 ≤ (pc : Int) + o) (hp2 : ((pc : Int) + o).toNat = pc2) (G2 : (¬ x < y) → Go p e below En n0 Q T (mkF m pc2 Ls st)) (G1 : (x < y) → Go p e below En n0 Q T (mkF m pc1 Ls st)) : Go p e below En n0 Q T (mkF m pc Ls (.int y :: .int x :: st)) := by
  by_cases q : x < y
  · exact Go.mov (fun _ k => XS.icmpNo X.here hx rfl hd rfl (tlt q).2.1 (hp1 ▸ k)) (G1 q)
  · exact Go.mov (fun _ k => XS.icmpYes X.here hx rfl rfl hd rfl (flt q).2.1 ho hp2 k) (G2 q)
theorem g_if_ge (X : Stand p l e R s m args below meth c T locs cells slots) (hx : p.tables.exec = Jvm.exec) {x : Int32} {o : Int} (hd : decode c.code pc = .ok (.ifCond .ge o, 3)) (hp1 : pc1 = pc + 3) (ho : 0 ≤ (pc : Int) + o) (hp2 : ((pc : Int) + o).toNat = pc2) (G2 : (¬ x < (0 : Int32)) → Go p e below En n0 Q T (mkF m pc2 Ls st)) (G1 : (x < (0 : Int32)) → Go p e below En n0 Q T (mkF m pc1 Ls st)) : Go p e below En n0 Q T (mkF m pc Ls (.int x :: st)) := by
  by_cases q : x < (0 : Int32)
  · exact Go.mov (fun _ k => XS.ifNo X.here hx rfl hd rfl ((if0 _ _).trans (tlt q).2.1) (hp1 ▸ k)) (G1 q)
  · exact Go.mov (fun _ k => XS.ifYes X.here hx rfl rfl hd rfl ((if0 _ _).trans (flt q).2.1) ho hp2 k) (G2 q)
theorem g_lcmp_ge (X : Stand p l e R s m args below meth c T locs cells slots) (hx : p.tables.exec = Jvm.exec) {x y : Int64} {o : Int} (hd0 : decode c.code pc = .ok (.lcmp, 1)) (hp0 : pc + 1 = pc') (hd : decode c.code pc' = .ok (.ifCond .ge o, 3)) (hp1 : pc1 = pc' + 3) (ho : 0 ≤ (pc' : Int) + o) (hp2 : ((pc' : Int) + o).toNat = pc2) (G2 : (¬ x < y) → Go p e below En n0 Q T (mkF m pc2 Ls st)) (G1 : (x < y) → Go p e below En n0 Q T (mkF m pc1 Ls st)) : Go p e below En n0 Q T (mkF m pc Ls (.long y :: .long x :: st)) :=
  g_lcmp X hx hd0 hp0 (g_if_ge X hx hd hp1 ho hp2 (fun q => G2 (fun r => q ((lw_lt x y).mpr r))) (fun q => G1 ((lw_lt x y).mp q)))
theorem g_icmp_gt (X : Stand p l e R s m args below meth c T locs cells slots) (hx : p.tables.exec = Jvm.exec) {x y : Int32} {o : Int} (hd : decode c.code pc = .ok (.if_icmp .gt o, 3)) (hp1 : pc1 = pc + 3) (ho : 0 ≤ (pc : Int) + o) (hp2 : ((pc : Int) + o).toNat = pc2) (G2 : (y < x) → Go p e below En n0 Q T (mkF m pc2 Ls st)) (G1 : (¬ y < x) → Go p e below En n0 Q T (mkF m pc1 Ls st)) : Go p e below En n0 Q T (mkF m pc Ls (.int y :: .int x :: st)) := by
  by_cases q : y < x
  · exact Go.mov (fun _ k => XS.icmpYes X.here hx rfl rfl hd rfl (tlt q).2.2.1 ho hp2 k) (G2 q)
  · exact Go.mov (fun _ k => XS.icmpNo X.here hx rfl hd rfl (flt q).2.2.1 (hp1 ▸ k)) (G1 q)
theorem g_if_gt (X : Stand p l e R s m args below meth c T locs cells slots) (hx : p.tables.exec = Jvm.exec) {x : Int32} {o : Int} (hd : decode c.code pc = .ok (.ifCond .gt o, 3)) (hp1 : pc1 = pc + 3) (ho : 0 ≤ (pc : Int) + o) (hp2 : ((pc : Int) + o).toNat = pc2) (G2 : ((0 : Int32) < x) → Go p e below En n0 Q T (mkF m pc2 Ls st)) (G1 : (¬ (0 : Int32) < x) → Go p e below En n0 Q T (mkF m pc1 Ls st)) : Go p e below En n0 Q T (mkF m pc Ls (.int x :: st)) := by
  by_cases q : (0 : Int32) < x
  · exact Go.mov (fun _ k => XS.ifYes X.here hx rfl rfl hd rfl ((if0 _ _).trans (tlt q).2.2.1) ho hp2 k) (G2 q)
  · exact Go.mov (fun _ k => XS.ifNo X.here hx rfl hd rfl ((if0 _ _).trans (flt q).2.2.1) (hp1 ▸ k)) (G1 q)
theorem g_lcmp_gt (X : Stand p l e R s m args below meth c T locs cells slots) (hx : p.tables.exec = Jvm.exec) {x y : Int64} {o : Int} (hd0 : decode c.code pc = .ok (.lcmp, 1)) (hp0 : pc + 1 = pc') (hd : decode c.code pc' = .ok (.ifCond .gt o, 3)) (hp1 : pc1 = pc' + 3) (ho : 0 ≤ (pc' : Int) + o) (hp2 : ((pc' : Int) + o).toNat = pc2) (G2 : (y < x) → Go p e below En n0 Q T (mkF m pc2 Ls st)) (G1 : (¬ y < x) → Go p e below En n0 Q T (mkF m pc1 Ls st)) : Go p e below En n0 Q T (mkF m pc Ls (.long y :: .long x :: st)) :=
  g_lcmp X hx hd0 hp0 (g_if_gt X hx hd hp1 ho hp2 (fun q => G2 ((lw_gt x y).mp q)) (fun q => G1 (fun r => q ((lw_gt x y).mpr r))))
theorem g_icmp_le (X : Stand p l e R s m args below meth c T locs cells slots) (hx : p.tables.exec = Jvm.exec) {x y : Int32} {o : Int} (hd : decode c.code pc = .ok (.if_icmp .le o, 3)) (hp1 : pc1 = pc + 3) (ho : 0 ≤ (pc : Int) + o) (hp2 : ((pc : Int) + o).toNat = pc2) (G2 : (¬ y < x) → Go p e below En n0 Q T (mkF m pc2 Ls st)) (G1 : (y < x) → Go p e below En n0 Q T (mkF m pc1 Ls st)) : Go p e below En n0 Q T (mkF m pc Ls (.int y :: .int x :: st)) := by
  by_cases q : y < x
  · exact Go.mov (fun _ k => XS.icmpNo X.here hx rfl hd rfl (tlt q).2.2.2 (hp1 ▸ k)) (G1 q)
  · exact Go.mov (fun _ k => XS.icmpYes X.here hx rfl rfl hd rfl (flt q).2.2.2 ho hp2 k) (G2 q)
theorem g_if_le (X : Stand p l e R s m args below meth c T locs cells slots) (hx : p.tables.exec = Jvm.exec) {x : Int32} {o : Int} (hd : decode c.code pc = .ok (.ifCond .le o, 3)) (hp1 : pc1 = pc + 3) (ho : 0 ≤ (pc : Int) + o) (hp2 : ((pc : Int) + o).toNat = pc2) (G2 : (¬ (0 : Int32) < x) → Go p e below En n0 Q T (mkF m pc2 Ls st)) (G1 : ((0 : Int32) < x) → Go p e below En n0 Q T (mkF m pc1 Ls st)) : Go p e below En n0 Q T (mkF m pc Ls (.int x :: st)) := by
  by_cases q : (0 : Int32) < x
  · exact Go.mov (fun _ k => XS.ifNo X.here hx rfl hd rfl ((if0 _ _).trans (tlt q).2.2.2) (hp1 ▸ k)) (G1 q)
  · exact Go.mov (fun _ k => XS.ifYes X.here hx rfl rfl hd rfl ((if0 _ _).trans (flt q).2.2.2) ho hp2 k) (G2 q)
theorem g_lcmp_le (X : Stand p l e R s m args below meth c T locs cells slots) (hx : p.tables.exec = Jvm.exec) {x y : Int64} {o : Int} (hd0 : decode c.code pc = .ok (.lcmp, 1)) (hp0 : pc + 1 = pc') (hd : decode c.code pc' = .ok (.ifCond .le o, 3)) (hp1 : pc1 = pc' + 3) (ho : 0 ≤ (pc' : Int) + o) (hp2 : ((pc' : Int) + o).toNat = pc2) (G2 : (¬ y < x) → Go p e below En n0 Q T (mkF m pc2 Ls st)) (G1 : (y < x) → Go p e below En n0 Q T (mkF m pc1 Ls st)) : Go p e below En n0 Q T (mkF m pc Ls (.long y :: .long x :: st)) :=
  g_lcmp X hx hd0 hp0 (g_if_le X hx hd hp1 ho hp2 (fun q => G2 (fun r => q ((lw_gt x y).mpr r))) (fun q => G1 ((lw_gt x y).mp q)))
theorem g_icmp_eq (X : Stand p l e R s m args below meth c T locs cells slots) (hx : p.tables.exec = Jvm.exec) {x y : Int32} {o : Int} (hd : decode c.code pc = .ok (.if_icmp .eq o, 3)) (hp1 : pc1 = pc + 3) (ho : 0 ≤ (pc : Int) + o) (hp2 : ((pc : Int) + o).toNat = pc2) (G2 : (x = y) → Go p e below En n0 Q T (mkF m pc2 Ls st)) (G1 : (¬ x = y) → Go p e below En n0 Q T (mkF m pc1 Ls st)) : Go p e below En n0 Q T (mkF m pc Ls (.int y :: .int x :: st)) := by
  by_cases q : x = y
  · exact Go.mov (fun _ k => XS.icmpYes X.here hx rfl rfl hd rfl (teq q).1 ho hp2 k) (G2 q)
  · exact Go.mov (fun _ k => XS.icmpNo X.here hx rfl hd rfl (feq q).1 (hp1 ▸ k)) (G1 q)
theorem g_if_eq (X : Stand p l e R s m args below meth c T locs cells slots) (hx : p.tables.exec = Jvm.exec) {x : Int32} {o : Int} (hd : decode c.code pc = .ok (.ifCond .eq o, 3)) (hp1 : pc1 = pc + 3) (ho : 0 ≤ (pc : Int) + o) (hp2 : ((pc : Int) + o).toNat = pc2) (G2 : (x = (0 : Int32)) → Go p e below En n0 Q T (mkF m pc2 Ls st)) (G1 : (¬ x = (0 : Int32)) → Go p e below En n0 Q T (mkF m pc1 Ls st)) : Go p e below En n0 Q T (mkF m pc Ls (.int x :: st)) := by
  by_cases q : x = (0 : Int32)
  · exact Go.mov (fun _ k => XS.ifYes X.here hx rfl rfl hd rfl ((if0 _ _).trans (teq q).1) ho hp2 k) (G2 q)
  · exact Go.mov (fun _ k => XS.ifNo X.here hx rfl hd rfl ((if0 _ _).trans (feq q).1) (hp1 ▸ k)) (G1 q)
theorem g_lcmp_eq (X : Stand p l e R s m args below meth c T locs cells slots) (hx : p.tables.exec = Jvm.exec) {x y : Int64} {o : Int} (hd0 : decode c.code pc = .ok (.lcmp, 1)) (hp0 : pc + 1 = pc') (hd : decode c.code pc' = .ok (.ifCond .eq o, 3)) (hp1 : pc1 = pc' + 3) (ho : 0 ≤ (pc' : Int) + o) (hp2 : ((pc' : Int) + o).toNat = pc2) (G2 : (x = y) → Go p e below En n0 Q T (mkF m pc2 Ls st)) (G1 : (¬ x = y) → Go p e below En n0 Q T (mkF m pc1 Ls st)) : Go p e below En n0 Q T (mkF m pc Ls (.long y :: .long x :: st)) :=
  g_lcmp X hx hd0 hp0 (g_if_eq X hx hd hp1 ho hp2 (fun q => G2 ((lw_eq x y).mp q)) (fun q => G1 (fun r => q ((lw_eq x y).mpr r))))
theorem g_icmp_ne (X : Stand p l e R s m args below meth c T locs cells slots) (hx : p.tables.exec = Jvm.exec) {x y : Int32} {o : Int} (hd : decode c.code pc = .ok (.if_icmp .ne o, 3)) (hp1 : pc1 = pc + 3) (ho : 0 ≤ (pc : Int) + o) (hp2 : ((pc : Int) + o).toNat = pc2) (G2 : (¬ x = y) → Go p e below En n0 Q T (mkF m pc2 Ls st)) (G1 : (x = y) → Go p e below En n0 Q T (mkF m pc1 Ls st)) : Go p e below En n0 Q T (mkF m pc Ls (.int y :: .int x :: st)) := by
  by_cases q : x = y
  · exact Go.mov (fun _ k => XS.icmpNo X.here hx rfl hd rfl (teq q).2 (hp1 ▸ k)) (G1 q)
  · exact Go.mov (fun _ k => XS.icmpYes X.here hx rfl rfl hd rfl (feq q).2 ho hp2 k) (G2 q)
theorem g_if_ne (X : Stand p l e R s m args below meth c T locs cells slots) (hx : p.tables.exec = Jvm.exec) {x : Int32} {o : Int} (hd : decode c.code pc = .ok (.ifCond .ne o, 3)) (hp1 : pc1 = pc + 3) (ho : 0 ≤ (pc : Int) + o) (hp2 : ((pc : Int) + o).toNat = pc2) (G2 : (¬ x = (0 : Int32)) → Go p e below En n0 Q T (mkF m pc2 Ls st)) (G1 : (x = (0 : Int32)) → Go p e below En n0 Q T (mkF m pc1 Ls st)) : Go p e below En n0 Q T (mkF m pc Ls (.int x :: st)) := by
  by_cases q : x = (0 : Int32)
  · exact Go.mov (fun _ k => XS.ifNo X.here hx rfl hd rfl ((if0 _ _).trans (teq q).2) (hp1 ▸ k)) (G1 q)
  · exact Go.mov (fun _ k => XS.ifYes X.here hx rfl rfl hd rfl ((if0 _ _).trans (feq q).2) ho hp2 k) (G2 q)
theorem g_lcmp_ne (X : Stand p l e R s m args below meth c T locs cells slots) (hx : p.tables.exec = Jvm.exec) {x y : Int64} {o : Int} (hd0 : decode c.code pc = .ok (.lcmp, 1)) (hp0 : pc + 1 = pc') (hd : decode c.code pc' = .ok (.ifCond .ne o, 3)) (hp1 : pc1 = pc' + 3) (ho : 0 ≤ (pc' : Int) + o) (hp2 : ((pc' : Int) + o).toNat = pc2) (G2 : (¬ x = y) → Go p e below En n0 Q T (mkF m pc2 Ls st)) (G1 : (x = y) → Go p e below En n0 Q T (mkF m pc1 Ls st)) : Go p e below En n0 Q T (mkF m pc Ls (.long y :: .long x :: st)) :=
  g_lcmp X hx hd0 hp0 (g_if_ne X hx hd hp1 ho hp2 (fun q => G2 (fun r => q ((lw_eq x y).mpr r))) (fun q => G1 ((lw_eq x y).mp q)))
theorem g_ifnull_n (X : Stand p l e R s m args below meth c T locs cells slots) (hx : p.tables.exec = Jvm.exec) {b : Addr} {o : Int} (hd : decode c.code pc = .ok (.ifnull o, 3)) (hp : pc + 3 = pc') (G : Go p e below En n0 Q T (mkF m pc' Ls st)) : Go p e below En n0 Q T (mkF m pc Ls (.ref b :: st)) := by
  subst hp
  exact Go.mov (fun _ k => XS.ifnullNo X.here hx rfl hd rfl k) G
theorem g_ifnull_y (X : Stand p l e R s m args below meth c T locs cells slots) (hx : p.tables.exec = Jvm.exec) {o : Int} (hd : decode c.code pc = .ok (.ifnull o, 3)) (ho : 0 ≤ (pc : Int) + o) (hp : ((pc : Int) + o).toNat = pc') (G : Go p e below En n0 Q T (mkF m pc' Ls st)) : Go p e below En n0 Q T (mkF m pc Ls (.null :: st)) :=
  Go.mov (fun _ k => XS.ifnullYes X.here hx rfl rfl hd rfl ho hp k) G
theorem g_ifnonnull_y (X : Stand p l e R s m args below meth c T locs cells slots) (hx : p.tables.exec = Jvm.exec) {b : Addr} {o : Int} (hd : decode c.code pc = .ok (.ifnonnull o, 3)) (ho : 0 ≤ (pc : Int) + o) (hp : ((pc : Int) + o).toNat = pc') (G : Go p e below En n0 Q T (mkF m pc' Ls st)) : Go p e below En n0 Q T (mkF m pc Ls (.ref b :: st)) :=
  Go.mov (fun _ k => XS.ifnonnullYes X.here hx rfl rfl hd rfl ho hp k) G
theorem g_ifnonnull_n (X : Stand p l e R s m args below meth c T locs cells slots) (hx : p.tables.exec = Jvm.exec) {o : Int} (hd : decode c.code pc = .ok (.ifnonnull o, 3)) (hp : pc + 3 = pc') (G : Go p e below En n0 Q T (mkF m pc' Ls st)) : Go p e below En n0 Q T (mkF m pc Ls (.null :: st)) := by
  subst hp
  exact Go.mov (fun _ k => XS.ifnonnullNo X.here hx rfl hd rfl k) G
theorem g_acmp_eq (X : Stand p l e R s m args below meth c T locs cells slots) (hx : p.tables.exec = Jvm.exec) {x y : Value} {o : Int} (hd : decode c.code pc = .ok (.if_acmp .eq o, 3)) (hx1 : x.isRef = true) (hy1 : y.isRef = true) (hp1 : pc1 = pc + 3) (ho : 0 ≤ (pc : Int) + o) (hp2 : ((pc : Int) + o).toNat = pc2) (G2 : (x = y) → Go p e below En n0 Q T (mkF m pc2 Ls st)) (G1 : (¬ x = y) → Go p e below En n0 Q T (mkF m pc1 Ls st)) : Go p e below En n0 Q T (mkF m pc Ls (y :: x :: st)) := by
  subst hp1 hp2
  by_cases q : x = y
  · exact Go.mov (fun _ k => acmp X hx rfl hx1 hy1 rfl hd rfl (same := true) (decide_eq_true q) ho rfl k) (G2 q)
  · exact Go.mov (fun _ k => acmp X hx rfl hx1 hy1 rfl hd rfl (same := false) (decide_eq_false q) ho rfl k) (G1 q)
theorem g_acmp_ne (X : Stand p l e R s m args below meth c T locs cells slots) (hx : p.tables.exec = Jvm.exec) {x y : Value} {o : Int} (hd : decode c.code pc = .ok (.if_acmp .ne o, 3)) (hx1 : x.isRef = true) (hy1 : y.isRef = true) (hp1 : pc1 = pc + 3) (ho : 0 ≤ (pc : Int) + o) (hp2 : ((pc : Int) + o).toNat = pc2) (G2 : (¬ x = y) → Go p e below En n0 Q T (mkF m pc2 Ls st)) (G1 : (x = y) → Go p e below En n0 Q T (mkF m pc1 Ls st)) : Go p e below En n0 Q T (mkF m pc Ls (y :: x :: st)) := by
  subst hp1 hp2
  by_cases q : x = y
  · exact Go.mov (fun _ k => acmp X hx rfl hx1 hy1 rfl hd rfl (same := true) (decide_eq_true q) ho rfl k) (G1 q)
  · exact Go.mov (fun _ k => acmp X hx rfl hx1 hy1 rfl hd rfl (same := false) (decide_eq_false q) ho rfl k) (G2 q)
theorem g_ldc (X : Stand p l e R s m args below meth c T locs cells slots) (hx : p.tables.exec = Jvm.exec) (hZ : Z.Warmed39 s.vm) {own : String} {i : Nat} {v : Int32} (hown : s.vm.findClass own = some m.cls) (w : (Jvm.Cond.constant own i v).before a0 Z = true) (hd : decode c.code pc = .ok (.ldc i, 2)) (hp : pc + 2 = pc') (G : Go p e below En n0 Q T (mkF m pc' Ls (.int v :: st))) : Go p e below En n0 Q T (mkF m pc Ls st) := by
  subst hp
  exact Go.mov (X.ldcInt hx hown (mvT hZ w) rfl hd) G
theorem g_ldc_w (X : Stand p l e R s m args below meth c T locs cells slots) (hx : p.tables.exec = Jvm.exec) (hZ : Z.Warmed39 s.vm) {own : String} {i : Nat} {v : Int32} (hown : s.vm.findClass own = some m.cls) (w : (Jvm.Cond.constant own i v).before a0 Z = true) (hd : decode c.code pc = .ok (.ldc_w i, 3)) (hp : pc + 3 = pc') (G : Go p e below En n0 Q T (mkF m pc' Ls (.int v :: st))) : Go p e below En n0 Q T (mkF m pc Ls st) := by
  subst hp
  exact Go.mov (X.ldcwInt hx hown (mvT hZ w) rfl hd) G
theorem g_ldc2_w (X : Stand p l e R s m args below meth c T locs cells slots) (hx : p.tables.exec = Jvm.exec) (hZ : Z.Warmed39 s.vm) {own : String} {i : Nat} {v : Int64} (hown : s.vm.findClass own = some m.cls) (w : (Jvm.Cond.constantLong own i v).before a0 Z = true) (hd : decode c.code pc = .ok (.ldc2_w i, 3)) (hp : pc + 3 = pc') (G : Go p e below En n0 Q T (mkF m pc' Ls (.long v :: st))) : Go p e below En n0 Q T (mkF m pc Ls st) := by
  subst hp
  exact Go.mov (X.ldc2Long hx hown (mvT hZ w) rfl hd) G
theorem g_return (X : Stand p l e R s m args below meth c T locs cells slots) (hx : p.tables.exec = Jvm.exec) (hr : meth.sig.returnType = none) (hd : decode c.code pc = .ok (.return_, 1)) (N : Fr n0 locs) (hlk : meth.locks = false) (hE : ∀ v t, t.heap = T.heap → s.WarmedH t.vm → s.sameButNew ({ t with vm := s.vm } : State) locs cells slots → En v t locs) (hQ : Q none T.heap) : Go p e below En n0 Q T (mkF m pc Ls []) := by
  obtain ⟨fs, hr1, hrun, hended, hW, hsame⟩ := X.leave (v := none) (fun _ => rfl) hlk
  exact ⟨_, _, X.returnOut hx hr hd hr1, hrun, hended, _, _, rfl, ⟨hQ, N⟩, hE _ _ rfl hW hsame⟩
theorem g_ireturn (X : Stand p l e R s m args below meth c T locs cells slots) (hx : p.tables.exec = Jvm.exec) {z : Int32} (hr : meth.sig.returnType = some .int) (hd : decode c.code pc = .ok (.ireturn, 1)) (N : Fr n0 locs) (hlk : meth.locks = false) (hE : ∀ v t, t.heap = T.heap → s.WarmedH t.vm → s.sameButNew ({ t with vm := s.vm } : State) locs cells slots → En v t locs) (hQ : Q (some (.int z)) T.heap) : Go p e below En n0 Q T (mkF m pc Ls (.int z :: st)) := by
  obtain ⟨fs, hr1, hrun, hended, hW, hsame⟩ := X.leave (v := some (.int z)) (fun h => by rw [hr] at h; cases h) hlk
  exact ⟨_, _, retOut X hx hr rfl (Or.inl ⟨rfl, Or.inl rfl, z, rfl⟩) hd hr1, hrun, hended, _, _, rfl, ⟨hQ, N⟩, hE _ _ rfl hW hsame⟩
theorem g_lreturn (X : Stand p l e R s m args below meth c T locs cells slots) (hx : p.tables.exec = Jvm.exec) {z : Int64} (hr : meth.sig.returnType = some .long) (hd : decode c.code pc = .ok (.lreturn, 1)) (N : Fr n0 locs) (hlk : meth.locks = false) (hE : ∀ v t, t.heap = T.heap → s.WarmedH t.vm → s.sameButNew ({ t with vm := s.vm } : State) locs cells slots → En v t locs) (hQ : Q (some (.long z)) T.heap) : Go p e below En n0 Q T (mkF m pc Ls (.long z :: st)) := by
  obtain ⟨fs, hr1, hrun, hended, hW, hsame⟩ := X.leave (v := some (.long z)) (fun h => by rw [hr] at h; cases h) hlk
  exact ⟨_, _, retOut X hx hr rfl (Or.inr (Or.inl ⟨rfl, rfl, z, rfl⟩)) hd hr1, hrun, hended, _, _, rfl, ⟨hQ, N⟩, hE _ _ rfl hW hsame⟩
theorem g_areturn (X : Stand p l e R s m args below meth c T locs cells slots) (hx : p.tables.exec = Jvm.exec) {v : Value} {t : FieldType} (ht : t.isReference = true) (hv : v.isRef = true) (hr : meth.sig.returnType = some t) (hd : decode c.code pc = .ok (.areturn, 1)) (N : Fr n0 locs) (hlk : meth.locks = false) (hE : ∀ v t, t.heap = T.heap → s.WarmedH t.vm → s.sameButNew ({ t with vm := s.vm } : State) locs cells slots → En v t locs) (hQ : Q (some (v)) T.heap) : Go p e below En n0 Q T (mkF m pc Ls (v :: st)) := by
  obtain ⟨fs, hr1, hrun, hended, hW, hsame⟩ := X.leave (v := some (v)) (fun h => by rw [hr] at h; cases h) hlk
  exact ⟨_, _, retOut X hx hr (by cases t <;> first | rfl | (cases ht; done)) (Or.inr (Or.inr (Or.inr (Or.inr ⟨rfl, ht, hv⟩)))) hd hr1, hrun, hended, _, _, rfl, ⟨hQ, N⟩, hE _ _ rfl hW hsame⟩
theorem g_zreturn (X : Stand p l e R s m args below meth c T locs cells slots) (hx : p.tables.exec = Jvm.exec) {z : Int32} (hn : narrow .boolean (.int z) = .int z) (hr : meth.sig.returnType = some .boolean) (hd : decode c.code pc = .ok (.ireturn, 1)) (N : Fr n0 locs) (hlk : meth.locks = false) (hE : ∀ v t, t.heap = T.heap → s.WarmedH t.vm → s.sameButNew ({ t with vm := s.vm } : State) locs cells slots → En v t locs) (hQ : Q (some (.int z)) T.heap) : Go p e below En n0 Q T (mkF m pc Ls (.int z :: st)) := by
  obtain ⟨fs, hr1, hrun, hended, hW, hsame⟩ := X.leave (v := some (.int z)) (fun h => by rw [hr] at h; cases h) hlk
  exact ⟨_, _, retOut X hx hr hn (Or.inl ⟨rfl, by simp, z, rfl⟩) hd hr1, hrun, hended, _, _, rfl, ⟨hQ, N⟩, hE _ _ rfl hW hsame⟩
theorem g_breturn (X : Stand p l e R s m args below meth c T locs cells slots) (hx : p.tables.exec = Jvm.exec) {z : Int32} (hn : narrow .byte (.int z) = .int z) (hr : meth.sig.returnType = some .byte) (hd : decode c.code pc = .ok (.ireturn, 1)) (N : Fr n0 locs) (hlk : meth.locks = false) (hE : ∀ v t, t.heap = T.heap → s.WarmedH t.vm → s.sameButNew ({ t with vm := s.vm } : State) locs cells slots → En v t locs) (hQ : Q (some (.int z)) T.heap) : Go p e below En n0 Q T (mkF m pc Ls (.int z :: st)) := by
  obtain ⟨fs, hr1, hrun, hended, hW, hsame⟩ := X.leave (v := some (.int z)) (fun h => by rw [hr] at h; cases h) hlk
  exact ⟨_, _, retOut X hx hr hn (Or.inl ⟨rfl, by simp, z, rfl⟩) hd hr1, hrun, hended, _, _, rfl, ⟨hQ, N⟩, hE _ _ rfl hW hsame⟩
theorem g_creturn (X : Stand p l e R s m args below meth c T locs cells slots) (hx : p.tables.exec = Jvm.exec) {z : Int32} (hn : narrow .char (.int z) = .int z) (hr : meth.sig.returnType = some .char) (hd : decode c.code pc = .ok (.ireturn, 1)) (N : Fr n0 locs) (hlk : meth.locks = false) (hE : ∀ v t, t.heap = T.heap → s.WarmedH t.vm → s.sameButNew ({ t with vm := s.vm } : State) locs cells slots → En v t locs) (hQ : Q (some (.int z)) T.heap) : Go p e below En n0 Q T (mkF m pc Ls (.int z :: st)) := by
  obtain ⟨fs, hr1, hrun, hended, hW, hsame⟩ := X.leave (v := some (.int z)) (fun h => by rw [hr] at h; cases h) hlk
  exact ⟨_, _, retOut X hx hr hn (Or.inl ⟨rfl, by simp, z, rfl⟩) hd hr1, hrun, hended, _, _, rfl, ⟨hQ, N⟩, hE _ _ rfl hW hsame⟩
theorem g_sreturn (X : Stand p l e R s m args below meth c T locs cells slots) (hx : p.tables.exec = Jvm.exec) {z : Int32} (hn : narrow .short (.int z) = .int z) (hr : meth.sig.returnType = some .short) (hd : decode c.code pc = .ok (.ireturn, 1)) (N : Fr n0 locs) (hlk : meth.locks = false) (hE : ∀ v t, t.heap = T.heap → s.WarmedH t.vm → s.sameButNew ({ t with vm := s.vm } : State) locs cells slots → En v t locs) (hQ : Q (some (.int z)) T.heap) : Go p e below En n0 Q T (mkF m pc Ls (.int z :: st)) := by
  obtain ⟨fs, hr1, hrun, hended, hW, hsame⟩ := X.leave (v := some (.int z)) (fun h => by rw [hr] at h; cases h) hlk
  exact ⟨_, _, retOut X hx hr hn (Or.inl ⟨rfl, by simp, z, rfl⟩) hd hr1, hrun, hended, _, _, rfl, ⟨hQ, N⟩, hE _ _ rfl hW hsame⟩
end Go
/-! arrays: every component is known -/
def Va (Z : State) (h : Heap) (a : Addr) (ty : FieldType) (vs : List Value) : Prop := ∃ c : Cell, Arr Z h a c ty ∧ c.slots.toList = vs
section Arrays
variable {p : Program} {l : Launch} {e : Env} {R : Room} {s : State} {m : MethodId} {args : Array Value} {below : List Frame} {meth : Method} {c : Code} {T : State} {locs : List Loc} {cells slots : Nat} {Z : State} {a0 : Array Value} {h h' : Heap} {n0 : Nat} {En : Option Value → State → List Loc → Prop} {Q : Option Value → Heap → Prop}
variable {pc pc' : Nat} {Ls : Array Slot} {st : List Value} {a b : Addr} {ty : FieldType} {vs : List Value} {v w : Value} {sl : Nat} {ws : List Addr}
theorem Va.lt (F : Va Z h a ty vs) : a < h.size := by obtain ⟨c, A, -⟩ := F; exact A.lt
theorem Va.ext (F : Va Z h a ty vs) (E : Ext h h') : Va Z h' a ty vs := by obtain ⟨c, A, r⟩ := F; exact ⟨c, A.ext E, r⟩
theorem Va.other (F : Va Z h b ty vs) (W : Wr h h' a sl v) (q : b ≠ a) : Va Z h' b ty vs := by obtain ⟨c, A, r⟩ := F; exact ⟨c, A.other W q, r⟩
theorem Va.keep (F : Va Z h a ty vs) (K : Keep h h' ws) (q : a ∉ ws) : Va Z h' a ty vs := by obtain ⟨c, A, r⟩ := F; exact ⟨c, ⟨K.2.1 a c A.1 q, A.2⟩, r⟩
theorem Va.same (F : Va Z h a ty vs) (W : Wr h h' a sl v) : Va Z h' a ty (vs.set sl v) := by
  obtain ⟨c, A, rfl⟩ := F
  exact ⟨_, A.same W, by simp [Cell.setSlot]⟩
theorem Va.eq (F : Va Z h a ty vs) {vs' : List Value} (q : vs = vs') : Va Z h a ty vs' := q ▸ F
theorem Va.len (F : Va Z h a ty vs) : ∃ c : Cell, Arr Z h a c ty ∧ c.slots.size = vs.length ∧ ∀ i : Nat, c.slots[i]? = vs[i]? := by
  obtain ⟨c, A, rfl⟩ := F
  exact ⟨c, A, by simp, fun i => by simp⟩
theorem Va.new {cA : ClassId} {n : Int32} {k : Nat} (A : Arr Z h a (newA cA ty n) ty) (hk : n.toNatClampNeg = k) : Va Z h a ty (List.replicate k (defaultValue ty)) := ⟨_, A, by simp [newA, hk]⟩
theorem inV {c : Cell} {j : Int32} {i : Nat} (hs : c.slots.size = vs.length) (hj : ¬ j < 0) (hi : j.toNatClampNeg = i) (hv : vs[i]? = some v) : ¬ (j < 0 ∨ c.slots.size ≤ j.toNatClampNeg) := by
  rintro (q | q)
  · exact hj q
  · rw [hs, hi] at q
    rw [List.getElem?_eq_none q] at hv
    cases hv
theorem g_baload (X : Stand p l e R s m args below meth c T locs cells slots) (hx : p.tables.exec = Jvm.exec) (hZ : Z.Warmed39 s.vm) (eT : T.heap = h) (F : Va Z h a .byte vs) {j : Int32} {i : Nat} (hd : decode c.code pc = .ok (.baload, 1)) (hp : pc + 1 = pc') (hj : ¬ j < 0) (hi : j.toNatClampNeg = i) (hv : vs[i]? = some v) (G : Go p e below En n0 Q T (mkF m pc' Ls (v :: st))) : Go p e below En n0 Q T (mkF m pc Ls (.int j :: .ref a :: st)) := by
  subst hp eT
  obtain ⟨cl, A, hs, hat⟩ := F.len
  have hv' : cl.slots[j.toNatClampNeg]? = some v := by rw [hat, hi]; exact hv
  exact Go.mov (fun t k => X.baloadBytes hx (j := j) (v := v) A.1 (State.isArrayOf_alike hZ.alike A.2.1) A.2.2 (inV hs hj hi hv) hv' (g := mkF m pc Ls (.int j :: .ref a :: st)) rfl rfl hd t k) G
theorem g_caload (X : Stand p l e R s m args below meth c T locs cells slots) (hx : p.tables.exec = Jvm.exec) (hZ : Z.Warmed39 s.vm) (eT : T.heap = h) (F : Va Z h a .char vs) {j : Int32} {i : Nat} (hd : decode c.code pc = .ok (.caload, 1)) (hp : pc + 1 = pc') (hj : ¬ j < 0) (hi : j.toNatClampNeg = i) (hv : vs[i]? = some v) (G : Go p e below En n0 Q T (mkF m pc' Ls (v :: st))) : Go p e below En n0 Q T (mkF m pc Ls (.int j :: .ref a :: st)) := by
  subst hp eT
  obtain ⟨cl, A, hs, hat⟩ := F.len
  have hv' : cl.slots[j.toNatClampNeg]? = some v := by rw [hat, hi]; exact hv
  exact Go.mov (fun t k => X.caload hx (j := j) (v := v) A.1 (State.isArrayOf_alike hZ.alike A.2.1) A.2.2 (inV hs hj hi hv) hv' (g := mkF m pc Ls (.int j :: .ref a :: st)) rfl rfl hd t k) G
theorem g_laload (X : Stand p l e R s m args below meth c T locs cells slots) (hx : p.tables.exec = Jvm.exec) (hZ : Z.Warmed39 s.vm) (eT : T.heap = h) (F : Va Z h a .long vs) {j : Int32} {i : Nat} (hd : decode c.code pc = .ok (.laload, 1)) (hp : pc + 1 = pc') (hj : ¬ j < 0) (hi : j.toNatClampNeg = i) (hv : vs[i]? = some v) (G : Go p e below En n0 Q T (mkF m pc' Ls (v :: st))) : Go p e below En n0 Q T (mkF m pc Ls (.int j :: .ref a :: st)) := by
  subst hp eT
  obtain ⟨cl, A, hs, hat⟩ := F.len
  have hv' : cl.slots[j.toNatClampNeg]? = some v := by rw [hat, hi]; exact hv
  exact Go.mov (fun t k => X.laload hx (j := j) (v := v) A.1 (State.isArrayOf_alike hZ.alike A.2.1) A.2.2 (inV hs hj hi hv) hv' (g := mkF m pc Ls (.int j :: .ref a :: st)) rfl rfl hd t k) G
theorem g_iaload (X : Stand p l e R s m args below meth c T locs cells slots) (hx : p.tables.exec = Jvm.exec) (hZ : Z.Warmed39 s.vm) (eT : T.heap = h) (F : Va Z h a .int vs) {j : Int32} {i : Nat} (hd : decode c.code pc = .ok (.iaload, 1)) (hp : pc + 1 = pc') (hj : ¬ j < 0) (hi : j.toNatClampNeg = i) (hv : vs[i]? = some v) (G : Go p e below En n0 Q T (mkF m pc' Ls (v :: st))) : Go p e below En n0 Q T (mkF m pc Ls (.int j :: .ref a :: st)) := by
  subst hp eT
  obtain ⟨cl, A, hs, hat⟩ := F.len
  have hv' : cl.slots[j.toNatClampNeg]? = some v := by rw [hat, hi]; exact hv
  exact Go.mov (fun t k => X.iaload hx (j := j) (v := v) A.1 (State.isArrayOf_alike hZ.alike A.2.1) A.2.2 (inV hs hj hi hv) hv' (g := mkF m pc Ls (.int j :: .ref a :: st)) rfl rfl hd t k) G
theorem g_arraylength (X : Stand p l e R s m args below meth c T locs cells slots) (hx : p.tables.exec = Jvm.exec) (hZ : Z.Warmed39 s.vm) (eT : T.heap = h) (F : Va Z h a ty vs) {z : Int32} (hd : decode c.code pc = .ok (.arraylength, 1)) (hp : pc + 1 = pc') (hz : vs.length.toInt32 = z) (G : Go p e below En n0 Q T (mkF m pc' Ls (.int z :: st))) : Go p e below En n0 Q T (mkF m pc Ls (.ref a :: st)) := by
  subst hp eT
  obtain ⟨cl, A, hs, hat⟩ := F.len
  subst hz
  rw [← hs] at G
  exact Go.mov (fun t k => X.arraylength hx A.1 (State.isArrayOf_alike hZ.alike A.2.1) (g := mkF m pc Ls (.ref a :: st)) rfl rfl hd t k) G
theorem h_bastore (X : Stand p l e R s m args below meth c T locs cells slots) (hx : p.tables.exec = Jvm.exec) (hZ : Z.Warmed39 s.vm) (eT : T.heap = h) (N : Fr n0 locs) (F : Va Z h a .byte vs) (hn : n0 ≤ a) {j : Int32} {i : Nat} {x : Int32} {v : Value} (hd : decode c.code pc = .ok (.bastore, 1)) (hj : ¬ j < 0) (hi : j.toNatClampNeg = i) (hv : vs[i]? = some v) (Ls : Array Slot) (st : List Value) :
    ∃ T' h' L, Stand p l e R s m args below meth c T' L cells slots ∧ T'.heap = h' ∧ Fr n0 L ∧ Wr h h' a i (.int (byt x)) ∧ Va Z h' a .byte (vs.set i (.int (byt x))) ∧ ∀ target, Steps p.tables e below (T'.setTop (mkF m (pc + 1) Ls st)) target → Steps p.tables e below (T.setTop (mkF m pc Ls (.int x :: .int j :: .ref a :: st))) target := by
  obtain ⟨cl, A, hs, hat⟩ := F.len
  obtain ⟨T', h', X', e', W, k⟩ := stB X hx hZ eT A (j := j) (inV hs hj hi hv) (g := mkF m pc Ls (.int x :: .int j :: .ref a :: st)) rfl rfl hd
  subst hi
  exact ⟨T', h', _, X', e', Fr.snoc X' N hn, W, F.same W, k⟩
theorem h_castore (X : Stand p l e R s m args below meth c T locs cells slots) (hx : p.tables.exec = Jvm.exec) (hZ : Z.Warmed39 s.vm) (eT : T.heap = h) (N : Fr n0 locs) (F : Va Z h a .char vs) (hn : n0 ≤ a) {j : Int32} {i : Nat} {x : Int32} {v : Value} (hd : decode c.code pc = .ok (.castore, 1)) (hj : ¬ j < 0) (hi : j.toNatClampNeg = i) (hv : vs[i]? = some v) (Ls : Array Slot) (st : List Value) :
    ∃ T' h' L, Stand p l e R s m args below meth c T' L cells slots ∧ T'.heap = h' ∧ Fr n0 L ∧ Wr h h' a i (.int (chr x)) ∧ Va Z h' a .char (vs.set i (.int (chr x))) ∧ ∀ target, Steps p.tables e below (T'.setTop (mkF m (pc + 1) Ls st)) target → Steps p.tables e below (T.setTop (mkF m pc Ls (.int x :: .int j :: .ref a :: st))) target := by
  obtain ⟨cl, A, hs, hat⟩ := F.len
  obtain ⟨T', h', X', e', W, k⟩ := stC X hx hZ eT A (j := j) (inV hs hj hi hv) (g := mkF m pc Ls (.int x :: .int j :: .ref a :: st)) rfl rfl hd
  subst hi
  exact ⟨T', h', _, X', e', Fr.snoc X' N hn, W, F.same W, k⟩
theorem h_lastore (X : Stand p l e R s m args below meth c T locs cells slots) (hx : p.tables.exec = Jvm.exec) (hZ : Z.Warmed39 s.vm) (eT : T.heap = h) (N : Fr n0 locs) (F : Va Z h a .long vs) (hn : n0 ≤ a) {j : Int32} {i : Nat} {x : Int64} {v : Value} (hd : decode c.code pc = .ok (.lastore, 1)) (hj : ¬ j < 0) (hi : j.toNatClampNeg = i) (hv : vs[i]? = some v) (Ls : Array Slot) (st : List Value) :
    ∃ T' h' L, Stand p l e R s m args below meth c T' L cells slots ∧ T'.heap = h' ∧ Fr n0 L ∧ Wr h h' a i (.long x) ∧ Va Z h' a .long (vs.set i (.long x)) ∧ ∀ target, Steps p.tables e below (T'.setTop (mkF m (pc + 1) Ls st)) target → Steps p.tables e below (T.setTop (mkF m pc Ls (.long x :: .int j :: .ref a :: st))) target := by
  obtain ⟨cl, A, hs, hat⟩ := F.len
  obtain ⟨T', h', X', e', W, k⟩ := stJ X hx hZ eT A (j := j) (inV hs hj hi hv) (g := mkF m pc Ls (.long x :: .int j :: .ref a :: st)) rfl rfl hd
  subst hi
  exact ⟨T', h', _, X', e', Fr.snoc X' N hn, W, F.same W, k⟩
theorem h_iastore (X : Stand p l e R s m args below meth c T locs cells slots) (hx : p.tables.exec = Jvm.exec) (hZ : Z.Warmed39 s.vm) (eT : T.heap = h) (N : Fr n0 locs) (F : Va Z h a .int vs) (hn : n0 ≤ a) {j : Int32} {i : Nat} {x : Int32} {v : Value} (hd : decode c.code pc = .ok (.iastore, 1)) (hj : ¬ j < 0) (hi : j.toNatClampNeg = i) (hv : vs[i]? = some v) (Ls : Array Slot) (st : List Value) :
    ∃ T' h' L, Stand p l e R s m args below meth c T' L cells slots ∧ T'.heap = h' ∧ Fr n0 L ∧ Wr h h' a i (.int x) ∧ Va Z h' a .int (vs.set i (.int x)) ∧ ∀ target, Steps p.tables e below (T'.setTop (mkF m (pc + 1) Ls st)) target → Steps p.tables e below (T.setTop (mkF m pc Ls (.int x :: .int j :: .ref a :: st))) target := by
  obtain ⟨cl, A, hs, hat⟩ := F.len
  obtain ⟨T', h', X', e', W, k⟩ := stI X hx hZ eT A (j := j) (inV hs hj hi hv) (g := mkF m pc Ls (.int x :: .int j :: .ref a :: st)) rfl rfl hd
  subst hi
  exact ⟨T', h', _, X', e', Fr.snoc X' N hn, W, F.same W, k⟩
theorem h_newarray (X : Stand p l e R s m args below meth c T locs cells slots) (hx : p.tables.exec = Jvm.exec) (hZ : Z.Warmed39 s.vm) (eT : T.heap = h) {aty : ArrayType} {ty : FieldType} (hty : newarray.typeOf aty = ty) (w : (Jvm.Cond.arrayClass ty).before a0 Z = true) {n : Int32} {k cap : Nat} (hd : decode c.code pc = .ok (.newarray aty, 2)) (hn : ¬ n < 0) (hk : n.toNatClampNeg = k) (hcap : k ≤ cap) (hb : cap * 8 ≤ 536870912) (hc : cells + 1 ≤ R.cells) (hl : slots + cap ≤ R.slots) {ad : String} (had : "[" ++ ty.toString = ad) (Ls : Array Slot) (st : List Value) :
    ∃ T' h' a, Stand p l e R s m args below meth c T' locs (cells + 1) (slots + cap) ∧ T'.heap = h' ∧ a = h.size ∧ Ext h h' ∧ Va Z h' a ty (List.replicate k (defaultValue ty)) ∧ Exa Z h' a ad ∧ ∀ target, Steps p.tables e below (T'.setTop (mkF m (pc + 2) Ls (.ref a :: st))) target → Steps p.tables e below (T.setTop (mkF m pc Ls (.int n :: st))) target := by
  subst hty
  obtain ⟨T', h', cA, X', e', E, A, Ex, st'⟩ := newPE X hx hZ w eT (g := mkF m pc Ls (.int n :: st)) rfl hd rfl hn (cap := cap) (by rw [hk]; exact hcap) hb hc hl had
  exact ⟨T', h', _, X', e', rfl, E, Va.new A hk, Ex, st'⟩
end Arrays
/-! calls by a contract -/
section Calls
variable {p : Program} {l : Launch} {e : Env} {R : Room} {s : State} {m : MethodId} {args : Array Value} {below : List Frame} {meth : Method} {c : Code} {T : State} {locs : List Loc} {cells slots : Nat} {Z : State} {a0 : Array Value} {h h' : Heap} {n0 : Nat} {Q : Option Value → Heap → Prop}
variable {pc : Nat} {own : String} {i maxL : Nat} {y z : MethodName} {bytes : ByteArray} {ret : Option FieldType} {rm : Room} {as' : Array Value} {ps : List FieldType} {rt : Option FieldType}
theorem h_static (X : Stand p l e R s m args below meth c T locs cells slots) (hx : p.tables.exec = Jvm.exec) {Ls : Array Slot} {W : Nat} {argsL rest : List Value} (hZ : Z.Warmed39 s.vm) (eT : T.heap = h) (N : Fr n0 locs) (hml : c.maxLocals = Ls.size) (hown : s.vm.findClass own = some m.cls) (hK : Ctr l Z y bytes maxL ret rm as' h n0 Q) (w1 : (Jvm.Cond.methodLink own i y).before a0 Z = true) (w2 : (Jvm.Cond.static y).before a0 Z = true) (w3 : (Jvm.Cond.initialized y.cls).before a0 Z = true) (w4 : (Jvm.Cond.code y bytes maxL ret).before a0 Z = true) (hy : y.cls ≠ "java/lang/invoke/MethodHandle" ∧ y.cls ≠ "java/lang/invoke/VarHandle") (pd : parseMethodDescriptor y.desc = some ⟨ps, rt⟩) (hlen : argsL.length = ps.length) (has : as' = argsL.toArray) (hd : decode c.code pc = .ok (.invokestatic i, 3)) (hW : (rest.map fun v => v.category).sum = W) (hf : rm.frames + 1 ≤ R.frames) (hlo : W + (maxL + 11) + rm.locals ≤ R.locals) (hcc : cells + rm.cells ≤ R.cells) (hss : slots + rm.slots ≤ R.slots) :
    ∃ v T' h' L, Stand p l e R s m args below meth c T' L (cells + rm.cells) (slots + rm.slots) ∧ T'.heap = h' ∧ Fr n0 L ∧ Q v h' ∧ ∀ target, Steps p.tables e below (T'.setTop (mkF m (pc + 3) Ls (v.toList ++ rest))) target → Steps p.tables e below (T.setTop (mkF m pc Ls (argsL.reverse ++ rest))) target := by
  obtain ⟨v, _, ⟨T', L', k', n'⟩, -, X', ⟨Lc, hQ, h1, h2, h3⟩, st⟩ := Jvm.LawKit.callS X hx (y := y) hown (mvT hZ w1) (mvT hZ w2) (mvT hZ w3) (mvT hZ w4) hy (backOf (W := W) (hK []) hZ w4 w3 hf hlo) (g := mkF m pc Ls (argsL.reverse ++ rest)) rfl hml.symm (argsL := argsL) (rest := rest) (lenOf pd hlen) rfl (by show 2 * 0 + _ ≤ _; omega) hd (fun _ _ => ⟨has.symm, eT, hcc, hss⟩)
  dsimp only [Pt.U, Pt.locs, Pt.cells, Pt.slots] at X' h1 h2 h3 st hQ
  subst h1 h2 h3
  exact ⟨v, T', _, _, X', rfl, N.app hQ.2, hQ.1, st⟩
theorem h_special (X : Stand p l e R s m args below meth c T locs cells slots) (hx : p.tables.exec = Jvm.exec) {Ls : Array Slot} {W : Nat} {a : Addr} {argsL rest : List Value} (hZ : Z.Warmed39 s.vm) (eT : T.heap = h) (N : Fr n0 locs) (hml : c.maxLocals = Ls.size) (hown : s.vm.findClass own = some m.cls) (hy1 : y.name = "<init>") (hK : Ctr l Z y bytes maxL none rm as' h n0 Q) (w1 : (Jvm.Cond.methodLink own i y).before a0 Z = true) (w2 : (Jvm.Cond.instanceMethod y).before a0 Z = true) (w3 : (Jvm.Cond.initialized y.cls).before a0 Z = true) (w4 : (Jvm.Cond.code y bytes maxL none).before a0 Z = true) (hy : y.cls ≠ "java/lang/invoke/MethodHandle" ∧ y.cls ≠ "java/lang/invoke/VarHandle") (pd : parseMethodDescriptor y.desc = some ⟨ps, rt⟩) (hlen : argsL.length = ps.length) (has : as' = (.ref a :: argsL).toArray) (hd : decode c.code pc = .ok (.invokespecial i, 3)) (hW : (rest.map fun v => v.category).sum = W) (hf : rm.frames + 1 ≤ R.frames) (hlo : W + (maxL + 11) + rm.locals ≤ R.locals) (hcc : cells + rm.cells ≤ R.cells) (hss : slots + rm.slots ≤ R.slots) :
    ∃ v T' h' L, Stand p l e R s m args below meth c T' L (cells + rm.cells) (slots + rm.slots) ∧ T'.heap = h' ∧ Fr n0 L ∧ Q v h' ∧ ∀ target, Steps p.tables e below (T'.setTop (mkF m (pc + 3) Ls (v.toList ++ rest))) target → Steps p.tables e below (T.setTop (mkF m pc Ls (argsL.reverse ++ .ref a :: rest))) target := by
  obtain ⟨v, _, ⟨T', L', k', n'⟩, -, X', ⟨Lc, hQ, h1, h2, h3⟩, st⟩ := X.specialBack hx (y := y) hy1 hown (mvT hZ w1) (mvT hZ w2) (mvT hZ w4) hy (backOf (W := W) (hK []) hZ w4 w3 hf hlo) (g := mkF m pc Ls (argsL.reverse ++ .ref a :: rest)) rfl hml.symm (Steps.refl _) (a := a) (argsL := argsL) (rest := rest) (lenOf pd hlen) rfl (by show 2 * 0 + _ ≤ _; omega) hd (fun _ _ => ⟨has.symm, eT, hcc, hss⟩)
  dsimp only [Pt.U, Pt.locs, Pt.cells, Pt.slots] at X' h1 h2 h3 st hQ
  subst h1 h2 h3
  exact ⟨v, T', _, _, X', rfl, N.app hQ.2, hQ.1, fun t k => st.trans k⟩
theorem h_virtual (X : Stand p l e R s m args below meth c T locs cells slots) (hx : p.tables.exec = Jvm.exec) {Ls : Array Slot} {W : Nat} {a : Addr} {cls : String} {argsL rest : List Value} (hZ : Z.Warmed39 s.vm) (eT : T.heap = h) (N : Fr n0 locs) (hml : c.maxLocals = Ls.size) (hown : s.vm.findClass own = some m.cls) (hK : Ctr l Z z bytes maxL ret rm as' h n0 Q) (E : Exa Z h a cls) (w1 : (Jvm.Cond.methodLink own i y).before a0 Z = true) (w2 : (Jvm.Cond.declares y).before a0 Z = true) (nf : NotFace s y) (w5 : (Jvm.Cond.selects cls y z).before a0 Z = true) (w6 : (Jvm.Cond.instanceMethod z).before a0 Z = true) (w3 : (Jvm.Cond.initialized z.cls).before a0 Z = true) (w4 : (Jvm.Cond.code z bytes maxL ret).before a0 Z = true) (hy : y.cls ≠ "java/lang/invoke/MethodHandle" ∧ y.cls ≠ "java/lang/invoke/VarHandle") (pd : parseMethodDescriptor y.desc = some ⟨ps, rt⟩) (hlen : argsL.length = ps.length) (has : as' = (.ref a :: argsL).toArray) (hd : decode c.code pc = .ok (.invokevirtual i, 3)) (hW : (rest.map fun v => v.category).sum = W) (hf : rm.frames + 1 ≤ R.frames) (hlo : W + (maxL + 11) + rm.locals ≤ R.locals) (hcc : cells + rm.cells ≤ R.cells) (hss : slots + rm.slots ≤ R.slots) :
    ∃ v T' h' L, Stand p l e R s m args below meth c T' L (cells + rm.cells) (slots + rm.slots) ∧ T'.heap = h' ∧ Fr n0 L ∧ Q v h' ∧ ∀ target, Steps p.tables e below (T'.setTop (mkF m (pc + 3) Ls (v.toList ++ rest))) target → Steps p.tables e below (T.setTop (mkF m pc Ls (argsL.reverse ++ .ref a :: rest))) target := by
  obtain ⟨cq, kq, qa, qb, qc⟩ := isOf hZ eT E
  obtain ⟨v, _, ⟨T', L', k', n'⟩, -, X', ⟨Lc, hQ, h1, h2, h3⟩, st⟩ := X.virtualBack hx (y := y) (z := z) hown (mvT hZ w1) (mvT hZ w2) nf (mvT hZ w5) (mvT hZ w6) hy (backOf (W := W) (hK []) hZ w4 w3 hf hlo) qa qc (g := mkF m pc Ls (argsL.reverse ++ .ref a :: rest)) rfl hml.symm (Steps.refl _) (argsL := argsL) (rest := rest) (lenOf pd hlen) rfl (by show 2 * 0 + _ ≤ _; omega) hd (fun _ _ => ⟨has.symm, eT, hcc, hss⟩)
  dsimp only [Pt.U, Pt.locs, Pt.cells, Pt.slots] at X' h1 h2 h3 st hQ
  subst h1 h2 h3
  exact ⟨v, T', _, _, X', rfl, N.app hQ.2, hQ.1, fun t k => st.trans k⟩
theorem h_specialN (X : Stand p l e R s m args below meth c T locs cells slots) (hx : p.tables.exec = Jvm.exec) {Ls : Array Slot} {W : Nat} {a : Addr} {host : String} {argsL rest : List Value} (hZ : Z.Warmed39 s.vm) (eT : T.heap = h) (N : Fr n0 locs) (hml : c.maxLocals = Ls.size) (hown : s.vm.findClass own = some m.cls) (hy1 : y.name = "<init>") (hK : Ctr l Z y bytes maxL none rm as' h n0 Q) (w1 : (Jvm.Cond.methodLinkNest own i y host).before a0 Z = true) (w2 : (Jvm.Cond.instanceMethod y).before a0 Z = true) (w3 : (Jvm.Cond.initialized y.cls).before a0 Z = true) (w4 : (Jvm.Cond.code y bytes maxL none).before a0 Z = true) (hy : y.cls ≠ "java/lang/invoke/MethodHandle" ∧ y.cls ≠ "java/lang/invoke/VarHandle") (pd : parseMethodDescriptor y.desc = some ⟨ps, rt⟩) (hlen : argsL.length = ps.length) (has : as' = (.ref a :: argsL).toArray) (hd : decode c.code pc = .ok (.invokespecial i, 3)) (hW : (rest.map fun v => v.category).sum = W) (hf : rm.frames + 1 ≤ R.frames) (hlo : W + (maxL + 11) + rm.locals ≤ R.locals) (hcc : cells + rm.cells ≤ R.cells) (hss : slots + rm.slots ≤ R.slots) :
    ∃ v T' h' L, Stand p l e R s m args below meth c T' L (cells + rm.cells) (slots + rm.slots) ∧ T'.heap = h' ∧ Fr n0 L ∧ Q v h' ∧ ∀ target, Steps p.tables e below (T'.setTop (mkF m (pc + 3) Ls (v.toList ++ rest))) target → Steps p.tables e below (T.setTop (mkF m pc Ls (argsL.reverse ++ .ref a :: rest))) target := by
  obtain ⟨v, _, ⟨T', L', k', n'⟩, -, X', ⟨Lc, hQ, h1, h2, h3⟩, st⟩ := X.specialBackNest hx (y := y) hy1 hown (Jvm.Cond.methodLinkNest_wide hZ w1) (mvT hZ w2) (mvT hZ w4) hy (backOf (W := W) (hK []) hZ w4 w3 hf hlo) (g := mkF m pc Ls (argsL.reverse ++ .ref a :: rest)) rfl hml.symm (Steps.refl _) (a := a) (argsL := argsL) (rest := rest) (lenOf pd hlen) rfl (by show 2 * 0 + _ ≤ _; omega) hd (fun _ _ => ⟨has.symm, eT, hcc, hss⟩)
  dsimp only [Pt.U, Pt.locs, Pt.cells, Pt.slots] at X' h1 h2 h3 st hQ
  subst h1 h2 h3
  exact ⟨v, T', _, _, X', rfl, N.app hQ.2, hQ.1, fun t k => st.trans k⟩
theorem h_private (X : Stand p l e R s m args below meth c T locs cells slots) (hx : p.tables.exec = Jvm.exec) {Ls : Array Slot} {W : Nat} {a : Addr} {cls : String} {kk : Nat} {argsL rest : List Value} (hZ : Z.Warmed39 s.vm) (eT : T.heap = h) (N : Fr n0 locs) (hml : c.maxLocals = Ls.size) (hown : s.vm.findClass own = some m.cls) (hK : Ctr l Z y bytes maxL ret rm as' h n0 Q) (E : Exa Z h a cls) (w1 : (Jvm.Cond.methodLink own i y).before a0 Z = true) (w2 : (Jvm.Cond.instanceMethod y).before a0 Z = true) (wp : (Jvm.Cond.privateMethod y).before a0 Z = true) (wi : (Jvm.Cond.instantiable y.cls kk).before a0 Z = true) (w3 : (Jvm.Cond.initialized y.cls).before a0 Z = true) (w4 : (Jvm.Cond.code y bytes maxL ret).before a0 Z = true) (hy : y.cls ≠ "java/lang/invoke/MethodHandle" ∧ y.cls ≠ "java/lang/invoke/VarHandle") (pd : parseMethodDescriptor y.desc = some ⟨ps, rt⟩) (hlen : argsL.length = ps.length) (has : as' = (.ref a :: argsL).toArray) (hd : decode c.code pc = .ok (.invokevirtual i, 3)) (hW : (rest.map fun v => v.category).sum = W) (hf : rm.frames + 1 ≤ R.frames) (hlo : W + (maxL + 11) + rm.locals ≤ R.locals) (hcc : cells + rm.cells ≤ R.cells) (hss : slots + rm.slots ≤ R.slots) :
    ∃ v T' h' L, Stand p l e R s m args below meth c T' L (cells + rm.cells) (slots + rm.slots) ∧ T'.heap = h' ∧ Fr n0 L ∧ Q v h' ∧ ∀ target, Steps p.tables e below (T'.setTop (mkF m (pc + 3) Ls (v.toList ++ rest))) target → Steps p.tables e below (T.setTop (mkF m pc Ls (argsL.reverse ++ .ref a :: rest))) target := by
  obtain ⟨cq, q1, q2⟩ := E.cell
  obtain ⟨c2, k2, i1, i2, i3, i4, -⟩ := Jvm.Cond.instantiable_spec (mvT (args := args) (d := .instantiable y.cls kk) hZ wi)
  have hpv := Jvm.Cond.privateMethod_at (mvP hZ wp (args := args))
  have hsel := selects_self_of_private (args := args) i1 i2 (by revert i4; cases k2.isInterface <;> simp) hpv (mvT hZ w2) hy
  obtain ⟨v, _, ⟨T', L', k', n'⟩, -, X', ⟨Lc, hQ, h1, h2, h3⟩, st⟩ := X.privateBack hx (y := y) hown (mvT hZ w1) (mvT hZ w2) hsel hpv (mvT hZ w4) hy (backOf (W := W) (hK []) hZ w4 w3 hf hlo) (g := mkF m pc Ls (argsL.reverse ++ .ref a :: rest)) rfl hml.symm (Steps.refl _) (a := a) (by rw [eT]; exact q1) q2 (argsL := argsL) (rest := rest) (lenOf pd hlen) rfl (by show 2 * 0 + _ ≤ _; omega) hd (fun _ _ => ⟨has.symm, eT, hcc, hss⟩)
  dsimp only [Pt.U, Pt.locs, Pt.cells, Pt.slots] at X' h1 h2 h3 st hQ
  subst h1 h2 h3
  exact ⟨v, T', _, _, X', rfl, N.app hQ.2, hQ.1, fun t k => st.trans k⟩
end Calls
/-! an enum's constant, where the law begins -/
theorem enum_at {C f d : String} {a0 : Array Value} {k : Int32} {s : State} (h1 : (Jvm.Cond.exactly (.static C f d) C).value a0 s none s [] = some true) (h2 : (Jvm.Cond.eq (.field (.static C f d) "java/lang/Enum" "ordinal" "I") (.int k)).value a0 s none s [] = some true)
    (wi : (Jvm.Cond.initialized C).before a0 s = true) (wl : (Jvm.Cond.laysStatic C f d).before a0 s = true) : ∃ a, Sta s s.heap C f d (.ref a) ∧ Exa s s.heap a C ∧ s.fieldOf? a "java/lang/Enum" "ordinal" "I" = some (.int k) := by
  obtain ⟨a, ev⟩ := exa_v h1
  refine ⟨a, Sta.start ev (Or.inr ⟨wi, wl⟩), Exa.start ev h1, ?_⟩
  obtain ⟨x, y, e1, e2, k1, k2⟩ := cmp_v (Or.inl h2)
  have ey : y = .int k := (Option.some.inj ((Term.int_eval k).symm.trans e2)).symm
  subst ey
  obtain ⟨z, rfl⟩ := k2
  have q : (Jvm.Cond.eq (.field (.static C f d) "java/lang/Enum" "ordinal" "I") (.int k)).value a0 s none s [] = some (decide (z = k)) := by simp [Jvm.Cond.value, e1, e2]
  have r := gotT q h2
  subst r
  rw [← fld_at (C := "java/lang/Enum") (n := "ordinal") (dd := "I") ev]
  exact e1
theorem enum_ne {s : State} {a b : Addr} {k k' : Int32} (h1 : s.fieldOf? a "java/lang/Enum" "ordinal" "I" = some (.int k)) (h2 : s.fieldOf? b "java/lang/Enum" "ordinal" "I" = some (.int k')) (q : k ≠ k') : a ≠ b := fun e => by
  subst e
  rw [h1] at h2
  exact q (Value.int.inj (Option.some.inj h2))
end Jvm.OwnKit
namespace Jvm.Pilot.@@N@@
open Jvm Jvm.ClassFile Sem Op Lib Jvm.Free Jvm.Stand Jvm.LawKit Jvm.RoadKit Jvm.OwnKit Bundle Jvm.Pilot.@@N@@.Jvm.D
def pickV (sel bit f : Int32) (d : Int64) (sh : Int32) : Int32 := if (ushr sel bit) &&& 1 = 0 then byt (lushr d sh).toInt32 else f
def zV (u l m f la mi : Int32) : Int32 := ((u ^^^ f) ||| (l ^^^ la)) ||| (m ^^^ mi)
def mkV (u l m f la mi : Int32) : Int32 := byt ((((zV u l m f la mi) - (1 : Int32)) &&& ((zV u l m f la mi) ^^^ (-1 : Int32))) &&& (128 : Int32))

theorem pick_byt (sel bit f : Int32) (d : Int64) (sh : Int32) : byt (pickV sel bit (byt f) d sh) = pickV sel bit (byt f) d sh := by
  unfold pickV; split <;> exact byt_byt _
theorem byt_of {x : Int32} (h : byt x = x) : x = (x.toInt8).toInt32 := h.symm
theorem byt_xor {x y : Int32} (hx : byt x = x) (hy : byt y = y) : byt (x ^^^ y) = x ^^^ y := by
  rw [← hx, ← hy]; unfold byt; rw [← Int8.toInt32_xor]; simp
theorem byt_or {x y : Int32} (hx : byt x = x) (hy : byt y = y) : byt (x ||| y) = x ||| y := by
  rw [← hx, ← hy]; unfold byt; rw [← Int8.toInt32_or]; simp
theorem own_tab : ∀ b : BitVec 8, b ≠ 0 → byt ((((Int8.ofBitVec b).toInt32 - (1 : Int32)) &&& ((Int8.ofBitVec b).toInt32 ^^^ (-1 : Int32))) &&& (128 : Int32)) = 0 := by decide +kernel
theorem own_z0 {z : Int32} (h : byt z = z) (hz : ¬ z = 0) : byt (((z - (1 : Int32)) &&& (z ^^^ (-1 : Int32))) &&& (128 : Int32)) = 0 := by
  have e := own_tab z.toInt8.toBitVec (fun q => hz (by
    rw [← h]; unfold byt
    have : z.toInt8 = 0 := Int8.toBitVec_inj.mp q
    rw [this]; rfl))
  rw [show (Int8.ofBitVec z.toInt8.toBitVec).toInt32 = z from h] at e
  exact e
theorem or_zero {x y : Int32} : x ||| y = 0 ↔ x = 0 ∧ y = 0 := by
  constructor
  · intro h
    have q := congrArg Int32.toBitVec h
    rw [Int32.toBitVec_or] at q
    have r := BitVec.or_eq_zero_iff.mp q
    exact ⟨Int32.toBitVec_inj.mp r.1, Int32.toBitVec_inj.mp r.2⟩
  · rintro ⟨rfl, rfl⟩; rfl
theorem xor_zero {x y : Int32} : x ^^^ y = 0 ↔ x = y := by
  constructor
  · intro h
    have q := congrArg Int32.toBitVec h
    rw [Int32.toBitVec_xor] at q
    exact Int32.toBitVec_inj.mp (BitVec.xor_eq_zero_iff.mp q)
  · rintro rfl; exact Int32.xor_self
theorem own_mk {u l m f la mi : Int32} (h1 : byt u = u) (h2 : byt l = l) (h3 : byt m = m) (h4 : byt f = f) (h5 : byt la = la) (h6 : byt mi = mi) : mkV u l m f la mi = if u = f ∧ l = la ∧ m = mi then (-128 : Int32) else 0 := by
  have hz : zV u l m f la mi = 0 ↔ (u = f ∧ l = la ∧ m = mi) := by
    unfold zV; rw [or_zero, or_zero, xor_zero, xor_zero, xor_zero, and_assoc]
  unfold mkV
  split
  · rename_i q
    rw [hz.mpr q]; decide
  · rename_i q
    exact own_z0 (byt_or (byt_or (byt_xor h1 h4) (byt_xor h2 h5)) (byt_xor h3 h6)) (fun r => q (hz.mp r))
theorem own_and3 (x : Int32) : x &&& 3 = 0 ∨ x &&& 3 = 1 ∨ x &&& 3 = 2 ∨ x &&& 3 = 3 := by
  have h := c_mask x 3 2 (by decide) (by decide)
  have : (x &&& 3).toInt = 0 ∨ (x &&& 3).toInt = 1 ∨ (x &&& 3).toInt = 2 ∨ (x &&& 3).toInt = 3 := by omega
  rcases this with q | q | q | q
  · exact Or.inl (Int32.toInt_inj.mp q)
  · exact Or.inr (Or.inl (Int32.toInt_inj.mp q))
  · exact Or.inr (Or.inr (Or.inl (Int32.toInt_inj.mp q)))
  · exact Or.inr (Or.inr (Or.inr (Int32.toInt_inj.mp q)))
theorem d1_0 : decode method_2_code 0 = .ok (.iload_n 0, 1) := by decide +kernel
theorem d1_1 : decode method_2_code 1 = .ok (.iload_n 1, 1) := by decide +kernel
theorem d1_2 : decode method_2_code 2 = .ok (.iushr, 1) := by decide +kernel
theorem d1_3 : decode method_2_code 3 = .ok (.iconst 1, 1) := by decide +kernel
theorem d1_4 : decode method_2_code 4 = .ok (.iand, 1) := by decide +kernel
theorem d1_5 : decode method_2_code 5 = .ok (.ifCond .eq 7, 3) := by decide +kernel
theorem d1_8 : decode method_2_code 8 = .ok (.iload_n 2, 1) := by decide +kernel
theorem d1_9 : decode method_2_code 9 = .ok (.goto 9, 3) := by decide +kernel
theorem d1_12 : decode method_2_code 12 = .ok (.lload_n 3, 1) := by decide +kernel
theorem d1_13 : decode method_2_code 13 = .ok (.iload 5, 2) := by decide +kernel
theorem d1_15 : decode method_2_code 15 = .ok (.lushr, 1) := by decide +kernel
theorem d1_16 : decode method_2_code 16 = .ok (.l2i, 1) := by decide +kernel
theorem d1_17 : decode method_2_code 17 = .ok (.i2b, 1) := by decide +kernel
theorem d1_18 : decode method_2_code 18 = .ok (.ireturn, 1) := by decide +kernel
theorem pn_1 : plainName "com/example/needlework/needlework/BytesMarkPinLaw" = true := by first | (simp [plainName, overriddenIn]; done) | decide +kernel
theorem ef_1 (x0 : Int32) (x1 : Int32) (x2 : Int32) (x3 : Int64) (x4 : Int32) (m : MethodId) : entryFrame m #[(.int x0), (.int x1), (.int x2), (.long x3), (.int x4)] 6 = mkF m 0 #[.val (.int x0), .val (.int x1), .val (.int x2), .val (.long x3), .second, .val (.int x4)] [] := by first | (simp [entryFrame, mkF, argsToLocals, Value.category]; done) | rfl
def Q1 (Z : State) (sel : Int32) (bit : Int32) (f : Int32) (d : Int64) (sh : Int32) (h0 : Heap) (n0 : Nat) : Option Value → Heap → Prop := fun v h => v = some (.int (pickV sel bit (byt f) d sh)) ∧ h0 = h
set_option maxRecDepth 65536 in
set_option maxHeartbeats 40000000 in
theorem rm1 (l : Launch) (Z : State) (a0 : Array Value) (hw : ∀ d ∈ tables_1, d.before a0 Z = true) (sel : Int32) (bit : Int32) (f : Int32) (d : Int64) (sh : Int32) (h0 : Heap) (n0 : Nat) (Z0 : n0 ≤ h0.size) : Ctr l Z (⟨"com/example/needlework/needlework/BytesMarkPinLaw", "pick", "(IIBJI)B"⟩ : MethodName) method_2_code 6 (some .byte) ({ frames := 0, cells := 0, slots := 0, locals := 0 } : Room) #[(.int sel), (.int bit), (.int (byt f)), (.long d), (.int sh)] h0 n0 (Q1 Z sel bit f d sh h0 n0) := by
  refine Ctr.of (plainFor_of_name pn_1) (ef_1 sel bit (byt f) d sh) ?_
  intro p e s m below meth c T0 hx hby hml hown hnm hret hlk hZ X0 e0
  have N0 := Fr.nil n0
  refine g_iloadN X0 hx (hb hby d1_0) (pc' := 1) rfl rfl ?_
  refine g_iloadN X0 hx (hb hby d1_1) (pc' := 2) rfl rfl ?_
  refine g_iushr X0 hx (hb hby d1_2) (pc' := 3) rfl ?_
  refine g_iconst X0 hx (hb hby d1_3) (pc' := 4) rfl (z := (1 : Int32)) rfl ?_
  refine g_iand X0 hx (hb hby d1_4) (pc' := 5) rfl ?_
  refine g_if_eq X0 hx (hb hby d1_5) (pc1 := 8) rfl (by decide) (pc2 := 12) (by decide) (fun hc5 => ?_) (fun hc5 => ?_)
  · skip
    refine g_lloadN X0 hx (hb hby d1_12) (pc' := 13) rfl rfl ?_
    refine g_iload X0 hx (hb hby d1_13) (pc' := 15) rfl rfl ?_
    refine g_lushr X0 hx (hb hby d1_15) (pc' := 16) rfl ?_
    refine g_l2i X0 hx (hb hby d1_16) (pc' := 17) rfl ?_
    refine g_i2b X0 hx (hb hby d1_17) (pc' := 18) rfl ?_
    exact g_breturn X0 hx (narrow_byt _) hret (hb hby d1_18) N0 hlk (fun v t => endF (by decide) (by decide) v) (by rw [e0]; exact ⟨by rw [pickV, if_pos hc5], rfl⟩)
  · skip
    refine g_iloadN X0 hx (hb hby d1_8) (pc' := 9) rfl rfl ?_
    refine g_goto X0 hx (hb hby d1_9) (by decide) (pc' := 18) (by decide) ?_
    exact g_breturn X0 hx (narrow_byt _) hret (hb hby d1_18) N0 hlk (fun v t => endF (by decide) (by decide) v) (by rw [e0]; exact ⟨by rw [pickV, if_neg hc5], rfl⟩)
theorem d3_0 : decode prog_16_method_1_code 0 = .ok (.aload_n 0, 1) := by decide +kernel
theorem d3_1 : decode prog_16_method_1_code 1 = .ok (.invokespecial 1, 3) := by decide +kernel
theorem d3_4 : decode prog_16_method_1_code 4 = .ok (.aload_n 0, 1) := by decide +kernel
theorem d3_5 : decode prog_16_method_1_code 5 = .ok (.iload_n 1, 1) := by decide +kernel
theorem d3_6 : decode prog_16_method_1_code 6 = .ok (.putfield 7, 3) := by decide +kernel
theorem d3_9 : decode prog_16_method_1_code 9 = .ok (.aload_n 0, 1) := by decide +kernel
theorem d3_10 : decode prog_16_method_1_code 10 = .ok (.iload_n 2, 1) := by decide +kernel
theorem d3_11 : decode prog_16_method_1_code 11 = .ok (.putfield 13, 3) := by decide +kernel
theorem d3_14 : decode prog_16_method_1_code 14 = .ok (.aload_n 0, 1) := by decide +kernel
theorem d3_15 : decode prog_16_method_1_code 15 = .ok (.iload_n 3, 1) := by decide +kernel
theorem d3_16 : decode prog_16_method_1_code 16 = .ok (.putfield 16, 3) := by decide +kernel
theorem d3_19 : decode prog_16_method_1_code 19 = .ok (.aload_n 0, 1) := by decide +kernel
theorem d3_20 : decode prog_16_method_1_code 20 = .ok (.iload 4, 2) := by decide +kernel
theorem d3_22 : decode prog_16_method_1_code 22 = .ok (.putfield 19, 3) := by decide +kernel
theorem d3_25 : decode prog_16_method_1_code 25 = .ok (.aload_n 0, 1) := by decide +kernel
theorem d3_26 : decode prog_16_method_1_code 26 = .ok (.iload 5, 2) := by decide +kernel
theorem d3_28 : decode prog_16_method_1_code 28 = .ok (.putfield 22, 3) := by decide +kernel
theorem d3_31 : decode prog_16_method_1_code 31 = .ok (.return_, 1) := by decide +kernel
theorem pn_3 : plainName "com/example/needlework/needlework/PackedBlock" = true := by first | (simp [plainName, overriddenIn]; done) | decide +kernel
theorem ef_3 (x0 : Addr) (x1 : Int32) (x2 : Int32) (x3 : Int32) (x4 : Int32) (x5 : Int32) (m : MethodId) : entryFrame m #[(.ref x0), (.int x1), (.int x2), (.int x3), (.int x4), (.int x5)] 6 = mkF m 0 #[.val (.ref x0), .val (.int x1), .val (.int x2), .val (.int x3), .val (.int x4), .val (.int x5)] [] := by first | (simp [entryFrame, mkF, argsToLocals, Value.category]; done) | rfl
def Q3 (Z : State) (a : Addr) (x1 : Int32) (x2 : Int32) (x3 : Int32) (x4 : Int32) (x5 : Int32) (h0 : Heap) (n0 : Nat) : Option Value → Heap → Prop := fun v h => v = none ∧ Keep h0 h [a] ∧ Exa Z h a "com/example/needlework/needlework/PackedBlock$Bytes" ∧ Fld Z h a "com/example/needlework/needlework/PackedBlock" "first" "I" (.int x1) ∧ Fld Z h a "com/example/needlework/needlework/PackedBlock" "last" "I" (.int x2) ∧ Fld Z h a "com/example/needlework/needlework/PackedBlock" "middle" "I" (.int x3) ∧ Fld Z h a "com/example/needlework/needlework/PackedBlock" "lastOffset" "I" (.int x4) ∧ Fld Z h a "com/example/needlework/needlework/PackedBlock" "middleOffset" "I" (.int x5) ∧ Fld Z h a "com/example/needlework/needlework/PackedBlock" "units" "Ljava/lang/Object;" .null ∧ Fld Z h a "com/example/needlework/needlework/PackedBlock" "lasts" "Ljava/lang/Object;" .null ∧ Fld Z h a "com/example/needlework/needlework/PackedBlock" "middles" "Ljava/lang/Object;" .null
set_option maxRecDepth 65536 in
set_option maxHeartbeats 40000000 in
theorem rm3 (l : Launch) (Z : State) (a0 : Array Value) (hw : ∀ d ∈ tables_1, d.before a0 Z = true) (a : Addr) (x1 : Int32) (x2 : Int32) (x3 : Int32) (x4 : Int32) (x5 : Int32) (h0 : Heap) (n0 : Nat) (Z0 : n0 ≤ h0.size) (F_first : Fld Z h0 a "com/example/needlework/needlework/PackedBlock" "first" "I" (.int (0 : Int32))) (F_last : Fld Z h0 a "com/example/needlework/needlework/PackedBlock" "last" "I" (.int (0 : Int32))) (F_middle : Fld Z h0 a "com/example/needlework/needlework/PackedBlock" "middle" "I" (.int (0 : Int32))) (F_lastOffset : Fld Z h0 a "com/example/needlework/needlework/PackedBlock" "lastOffset" "I" (.int (0 : Int32))) (F_middleOffset : Fld Z h0 a "com/example/needlework/needlework/PackedBlock" "middleOffset" "I" (.int (0 : Int32))) (F_units : Fld Z h0 a "com/example/needlework/needlework/PackedBlock" "units" "Ljava/lang/Object;" .null) (F_lasts : Fld Z h0 a "com/example/needlework/needlework/PackedBlock" "lasts" "Ljava/lang/Object;" .null) (F_middles : Fld Z h0 a "com/example/needlework/needlework/PackedBlock" "middles" "Ljava/lang/Object;" .null) (E1 : Exa Z h0 a "com/example/needlework/needlework/PackedBlock$Bytes") (G1 : n0 ≤ a) : Ctr l Z (⟨"com/example/needlework/needlework/PackedBlock", "<init>", "(IIIII)V"⟩ : MethodName) prog_16_method_1_code 6 none ({ frames := 1, cells := 0, slots := 0, locals := 12 } : Room) #[(.ref a), (.int x1), (.int x2), (.int x3), (.int x4), (.int x5)] h0 n0 (Q3 Z a x1 x2 x3 x4 x5 h0 n0) := by
  refine Ctr.of (plainFor_of_name pn_3) (ef_3 a x1 x2 x3 x4 x5) ?_
  intro p e s m below meth c T0 hx hby hml hown hnm hret hlk hZ X0 e0
  have N0 := Fr.nil n0
  refine g_aloadN X0 hx (hb hby d3_0) (pc' := 1) rfl rfl rfl ?_
  obtain ⟨T1, X1, e1, st1⟩ := initO X0 hx hZ hown (hw _ (List.mem_of_getElem? (i := 16) rfl)) (hw _ (List.mem_of_getElem? (i := 17) rfl)) (hw _ (List.mem_of_getElem? (i := 18) rfl)) e0 (g := (mkF m 1 #[.val (.ref a), .val (.int x1), .val (.int x2), .val (.int x3), .val (.int x4), .val (.int x5)] [(.ref a)])) rfl (by rw [hml]; rfl) rfl (hb hby d3_1) (by decide) (W := 0) (by show 2 * 0 + _ ≤ _; exact Nat.le_of_eq rfl) (by decide)
  refine Go.movp st1 (mkF m 4 #[.val (.ref a), .val (.int x1), .val (.int x2), .val (.int x3), .val (.int x4), .val (.int x5)] []) rfl ?_
  refine g_aloadN X1 hx (hb hby d3_4) (pc' := 5) rfl rfl rfl ?_
  refine g_iloadN X1 hx (hb hby d3_5) (pc' := 6) rfl rfl ?_
  obtain ⟨T2, h2, X2, e2, W2, st2⟩ := putF X1 hx hZ hown (host := "") (Or.inl (hw _ (List.mem_of_getElem? (i := 19) rfl))) Via.refl e1 F_first E1 (Or.inr ⟨(hw _ (List.mem_of_getElem? (i := 20) rfl)), rfl, hnm⟩) (hw _ (List.mem_of_getElem? (i := 6) rfl)) (ty := .int) (by decide) rfl rfl (g := (mkF m 6 #[.val (.ref a), .val (.int x1), .val (.int x2), .val (.int x3), .val (.int x4), .val (.int x5)] [(.int x1), (.ref a)])) rfl rfl (hb hby d3_6)
  have f3 : Fld Z h2 a "com/example/needlework/needlework/PackedBlock" "first" "I" (.int x1) := Fld.same W2 F_first
  have N2 := Fr.snoc X2 N0 G1
  have f4 := Fld.other W2 F_last (Or.inr (slot_ne (Or.inr (hw _ (List.mem_of_getElem? (i := 22) rfl))) (Or.inr (hw _ (List.mem_of_getElem? (i := 20) rfl))) (by decide) (t := .int) (t' := .int) (by decide) (by decide)))
  have f5 := Fld.other W2 F_middle (Or.inr (slot_ne (Or.inr (hw _ (List.mem_of_getElem? (i := 24) rfl))) (Or.inr (hw _ (List.mem_of_getElem? (i := 20) rfl))) (by decide) (t := .int) (t' := .int) (by decide) (by decide)))
  have f6 := Fld.other W2 F_lastOffset (Or.inr (slot_ne (Or.inr (hw _ (List.mem_of_getElem? (i := 26) rfl))) (Or.inr (hw _ (List.mem_of_getElem? (i := 20) rfl))) (by decide) (t := .int) (t' := .int) (by decide) (by decide)))
  have f7 := Fld.other W2 F_middleOffset (Or.inr (slot_ne (Or.inr (hw _ (List.mem_of_getElem? (i := 28) rfl))) (Or.inr (hw _ (List.mem_of_getElem? (i := 20) rfl))) (by decide) (t := .int) (t' := .int) (by decide) (by decide)))
  have f8 := Fld.other W2 F_units (Or.inr (slot_ne (Or.inl (hw _ (List.mem_of_getElem? (i := 31) rfl))) (Or.inr (hw _ (List.mem_of_getElem? (i := 20) rfl))) (by decide) (t := (.object "java/lang/Object")) (t' := .int) (by decide) (by decide)))
  have f9 := Fld.other W2 F_lasts (Or.inr (slot_ne (Or.inl (hw _ (List.mem_of_getElem? (i := 34) rfl))) (Or.inr (hw _ (List.mem_of_getElem? (i := 20) rfl))) (by decide) (t := (.object "java/lang/Object")) (t' := .int) (by decide) (by decide)))
  have f10 := Fld.other W2 F_middles (Or.inr (slot_ne (Or.inl (hw _ (List.mem_of_getElem? (i := 37) rfl))) (Or.inr (hw _ (List.mem_of_getElem? (i := 20) rfl))) (by decide) (t := (.object "java/lang/Object")) (t' := .int) (by decide) (by decide)))
  have f11 := Exa.wr W2 E1
  have Z12 : n0 ≤ h2.size := Nat.le_trans Z0 (Keep.of_wr W2).1
  have K13 := (Keep.refl h0 [a]).wr W2 (Or.inl (List.mem_of_getElem? (i := 0) rfl))
  refine Go.movp st2 (mkF m 9 #[.val (.ref a), .val (.int x1), .val (.int x2), .val (.int x3), .val (.int x4), .val (.int x5)] []) rfl ?_
  refine g_aloadN X2 hx (hb hby d3_9) (pc' := 10) rfl rfl rfl ?_
  refine g_iloadN X2 hx (hb hby d3_10) (pc' := 11) rfl rfl ?_
  obtain ⟨T14, h14, X14, e14, W14, st14⟩ := putF X2 hx hZ hown (host := "") (Or.inl (hw _ (List.mem_of_getElem? (i := 21) rfl))) Via.refl e2 f4 f11 (Or.inr ⟨(hw _ (List.mem_of_getElem? (i := 22) rfl)), rfl, hnm⟩) (hw _ (List.mem_of_getElem? (i := 6) rfl)) (ty := .int) (by decide) rfl rfl (g := (mkF m 11 #[.val (.ref a), .val (.int x1), .val (.int x2), .val (.int x3), .val (.int x4), .val (.int x5)] [(.int x2), (.ref a)])) rfl rfl (hb hby d3_11)
  have f15 : Fld Z h14 a "com/example/needlework/needlework/PackedBlock" "last" "I" (.int x2) := Fld.same W14 f4
  have N14 := Fr.snoc X14 N2 G1
  have f16 := Fld.other W14 f5 (Or.inr (slot_ne (Or.inr (hw _ (List.mem_of_getElem? (i := 24) rfl))) (Or.inr (hw _ (List.mem_of_getElem? (i := 22) rfl))) (by decide) (t := .int) (t' := .int) (by decide) (by decide)))
  have f17 := Fld.other W14 f6 (Or.inr (slot_ne (Or.inr (hw _ (List.mem_of_getElem? (i := 26) rfl))) (Or.inr (hw _ (List.mem_of_getElem? (i := 22) rfl))) (by decide) (t := .int) (t' := .int) (by decide) (by decide)))
  have f18 := Fld.other W14 f7 (Or.inr (slot_ne (Or.inr (hw _ (List.mem_of_getElem? (i := 28) rfl))) (Or.inr (hw _ (List.mem_of_getElem? (i := 22) rfl))) (by decide) (t := .int) (t' := .int) (by decide) (by decide)))
  have f19 := Fld.other W14 f8 (Or.inr (slot_ne (Or.inl (hw _ (List.mem_of_getElem? (i := 31) rfl))) (Or.inr (hw _ (List.mem_of_getElem? (i := 22) rfl))) (by decide) (t := (.object "java/lang/Object")) (t' := .int) (by decide) (by decide)))
  have f20 := Fld.other W14 f9 (Or.inr (slot_ne (Or.inl (hw _ (List.mem_of_getElem? (i := 34) rfl))) (Or.inr (hw _ (List.mem_of_getElem? (i := 22) rfl))) (by decide) (t := (.object "java/lang/Object")) (t' := .int) (by decide) (by decide)))
  have f21 := Fld.other W14 f10 (Or.inr (slot_ne (Or.inl (hw _ (List.mem_of_getElem? (i := 37) rfl))) (Or.inr (hw _ (List.mem_of_getElem? (i := 22) rfl))) (by decide) (t := (.object "java/lang/Object")) (t' := .int) (by decide) (by decide)))
  have f22 := Exa.wr W14 f11
  have f23 := Fld.other W14 f3 (Or.inr (slot_ne (Or.inr (hw _ (List.mem_of_getElem? (i := 20) rfl))) (Or.inr (hw _ (List.mem_of_getElem? (i := 22) rfl))) (by decide) (t := .int) (t' := .int) (by decide) (by decide)))
  have Z24 : n0 ≤ h14.size := Nat.le_trans Z12 (Keep.of_wr W14).1
  have K25 := K13.wr W14 (Or.inl (List.mem_of_getElem? (i := 0) rfl))
  refine Go.movp st14 (mkF m 14 #[.val (.ref a), .val (.int x1), .val (.int x2), .val (.int x3), .val (.int x4), .val (.int x5)] []) rfl ?_
  refine g_aloadN X14 hx (hb hby d3_14) (pc' := 15) rfl rfl rfl ?_
  refine g_iloadN X14 hx (hb hby d3_15) (pc' := 16) rfl rfl ?_
  obtain ⟨T26, h26, X26, e26, W26, st26⟩ := putF X14 hx hZ hown (host := "") (Or.inl (hw _ (List.mem_of_getElem? (i := 23) rfl))) Via.refl e14 f16 f22 (Or.inr ⟨(hw _ (List.mem_of_getElem? (i := 24) rfl)), rfl, hnm⟩) (hw _ (List.mem_of_getElem? (i := 6) rfl)) (ty := .int) (by decide) rfl rfl (g := (mkF m 16 #[.val (.ref a), .val (.int x1), .val (.int x2), .val (.int x3), .val (.int x4), .val (.int x5)] [(.int x3), (.ref a)])) rfl rfl (hb hby d3_16)
  have f27 : Fld Z h26 a "com/example/needlework/needlework/PackedBlock" "middle" "I" (.int x3) := Fld.same W26 f16
  have N26 := Fr.snoc X26 N14 G1
  have f28 := Fld.other W26 f17 (Or.inr (slot_ne (Or.inr (hw _ (List.mem_of_getElem? (i := 26) rfl))) (Or.inr (hw _ (List.mem_of_getElem? (i := 24) rfl))) (by decide) (t := .int) (t' := .int) (by decide) (by decide)))
  have f29 := Fld.other W26 f18 (Or.inr (slot_ne (Or.inr (hw _ (List.mem_of_getElem? (i := 28) rfl))) (Or.inr (hw _ (List.mem_of_getElem? (i := 24) rfl))) (by decide) (t := .int) (t' := .int) (by decide) (by decide)))
  have f30 := Fld.other W26 f19 (Or.inr (slot_ne (Or.inl (hw _ (List.mem_of_getElem? (i := 31) rfl))) (Or.inr (hw _ (List.mem_of_getElem? (i := 24) rfl))) (by decide) (t := (.object "java/lang/Object")) (t' := .int) (by decide) (by decide)))
  have f31 := Fld.other W26 f20 (Or.inr (slot_ne (Or.inl (hw _ (List.mem_of_getElem? (i := 34) rfl))) (Or.inr (hw _ (List.mem_of_getElem? (i := 24) rfl))) (by decide) (t := (.object "java/lang/Object")) (t' := .int) (by decide) (by decide)))
  have f32 := Fld.other W26 f21 (Or.inr (slot_ne (Or.inl (hw _ (List.mem_of_getElem? (i := 37) rfl))) (Or.inr (hw _ (List.mem_of_getElem? (i := 24) rfl))) (by decide) (t := (.object "java/lang/Object")) (t' := .int) (by decide) (by decide)))
  have f33 := Exa.wr W26 f22
  have f34 := Fld.other W26 f23 (Or.inr (slot_ne (Or.inr (hw _ (List.mem_of_getElem? (i := 20) rfl))) (Or.inr (hw _ (List.mem_of_getElem? (i := 24) rfl))) (by decide) (t := .int) (t' := .int) (by decide) (by decide)))
  have f35 := Fld.other W26 f15 (Or.inr (slot_ne (Or.inr (hw _ (List.mem_of_getElem? (i := 22) rfl))) (Or.inr (hw _ (List.mem_of_getElem? (i := 24) rfl))) (by decide) (t := .int) (t' := .int) (by decide) (by decide)))
  have Z36 : n0 ≤ h26.size := Nat.le_trans Z24 (Keep.of_wr W26).1
  have K37 := K25.wr W26 (Or.inl (List.mem_of_getElem? (i := 0) rfl))
  refine Go.movp st26 (mkF m 19 #[.val (.ref a), .val (.int x1), .val (.int x2), .val (.int x3), .val (.int x4), .val (.int x5)] []) rfl ?_
  refine g_aloadN X26 hx (hb hby d3_19) (pc' := 20) rfl rfl rfl ?_
  refine g_iload X26 hx (hb hby d3_20) (pc' := 22) rfl rfl ?_
  obtain ⟨T38, h38, X38, e38, W38, st38⟩ := putF X26 hx hZ hown (host := "") (Or.inl (hw _ (List.mem_of_getElem? (i := 25) rfl))) Via.refl e26 f28 f33 (Or.inr ⟨(hw _ (List.mem_of_getElem? (i := 26) rfl)), rfl, hnm⟩) (hw _ (List.mem_of_getElem? (i := 6) rfl)) (ty := .int) (by decide) rfl rfl (g := (mkF m 22 #[.val (.ref a), .val (.int x1), .val (.int x2), .val (.int x3), .val (.int x4), .val (.int x5)] [(.int x4), (.ref a)])) rfl rfl (hb hby d3_22)
  have f39 : Fld Z h38 a "com/example/needlework/needlework/PackedBlock" "lastOffset" "I" (.int x4) := Fld.same W38 f28
  have N38 := Fr.snoc X38 N26 G1
  have f40 := Fld.other W38 f29 (Or.inr (slot_ne (Or.inr (hw _ (List.mem_of_getElem? (i := 28) rfl))) (Or.inr (hw _ (List.mem_of_getElem? (i := 26) rfl))) (by decide) (t := .int) (t' := .int) (by decide) (by decide)))
  have f41 := Fld.other W38 f30 (Or.inr (slot_ne (Or.inl (hw _ (List.mem_of_getElem? (i := 31) rfl))) (Or.inr (hw _ (List.mem_of_getElem? (i := 26) rfl))) (by decide) (t := (.object "java/lang/Object")) (t' := .int) (by decide) (by decide)))
  have f42 := Fld.other W38 f31 (Or.inr (slot_ne (Or.inl (hw _ (List.mem_of_getElem? (i := 34) rfl))) (Or.inr (hw _ (List.mem_of_getElem? (i := 26) rfl))) (by decide) (t := (.object "java/lang/Object")) (t' := .int) (by decide) (by decide)))
  have f43 := Fld.other W38 f32 (Or.inr (slot_ne (Or.inl (hw _ (List.mem_of_getElem? (i := 37) rfl))) (Or.inr (hw _ (List.mem_of_getElem? (i := 26) rfl))) (by decide) (t := (.object "java/lang/Object")) (t' := .int) (by decide) (by decide)))
  have f44 := Exa.wr W38 f33
  have f45 := Fld.other W38 f34 (Or.inr (slot_ne (Or.inr (hw _ (List.mem_of_getElem? (i := 20) rfl))) (Or.inr (hw _ (List.mem_of_getElem? (i := 26) rfl))) (by decide) (t := .int) (t' := .int) (by decide) (by decide)))
  have f46 := Fld.other W38 f35 (Or.inr (slot_ne (Or.inr (hw _ (List.mem_of_getElem? (i := 22) rfl))) (Or.inr (hw _ (List.mem_of_getElem? (i := 26) rfl))) (by decide) (t := .int) (t' := .int) (by decide) (by decide)))
  have f47 := Fld.other W38 f27 (Or.inr (slot_ne (Or.inr (hw _ (List.mem_of_getElem? (i := 24) rfl))) (Or.inr (hw _ (List.mem_of_getElem? (i := 26) rfl))) (by decide) (t := .int) (t' := .int) (by decide) (by decide)))
  have Z48 : n0 ≤ h38.size := Nat.le_trans Z36 (Keep.of_wr W38).1
  have K49 := K37.wr W38 (Or.inl (List.mem_of_getElem? (i := 0) rfl))
  refine Go.movp st38 (mkF m 25 #[.val (.ref a), .val (.int x1), .val (.int x2), .val (.int x3), .val (.int x4), .val (.int x5)] []) rfl ?_
  refine g_aloadN X38 hx (hb hby d3_25) (pc' := 26) rfl rfl rfl ?_
  refine g_iload X38 hx (hb hby d3_26) (pc' := 28) rfl rfl ?_
  obtain ⟨T50, h50, X50, e50, W50, st50⟩ := putF X38 hx hZ hown (host := "") (Or.inl (hw _ (List.mem_of_getElem? (i := 27) rfl))) Via.refl e38 f40 f44 (Or.inr ⟨(hw _ (List.mem_of_getElem? (i := 28) rfl)), rfl, hnm⟩) (hw _ (List.mem_of_getElem? (i := 6) rfl)) (ty := .int) (by decide) rfl rfl (g := (mkF m 28 #[.val (.ref a), .val (.int x1), .val (.int x2), .val (.int x3), .val (.int x4), .val (.int x5)] [(.int x5), (.ref a)])) rfl rfl (hb hby d3_28)
  have f51 : Fld Z h50 a "com/example/needlework/needlework/PackedBlock" "middleOffset" "I" (.int x5) := Fld.same W50 f40
  have N50 := Fr.snoc X50 N38 G1
  have f52 := Fld.other W50 f41 (Or.inr (slot_ne (Or.inl (hw _ (List.mem_of_getElem? (i := 31) rfl))) (Or.inr (hw _ (List.mem_of_getElem? (i := 28) rfl))) (by decide) (t := (.object "java/lang/Object")) (t' := .int) (by decide) (by decide)))
  have f53 := Fld.other W50 f42 (Or.inr (slot_ne (Or.inl (hw _ (List.mem_of_getElem? (i := 34) rfl))) (Or.inr (hw _ (List.mem_of_getElem? (i := 28) rfl))) (by decide) (t := (.object "java/lang/Object")) (t' := .int) (by decide) (by decide)))
  have f54 := Fld.other W50 f43 (Or.inr (slot_ne (Or.inl (hw _ (List.mem_of_getElem? (i := 37) rfl))) (Or.inr (hw _ (List.mem_of_getElem? (i := 28) rfl))) (by decide) (t := (.object "java/lang/Object")) (t' := .int) (by decide) (by decide)))
  have f55 := Exa.wr W50 f44
  have f56 := Fld.other W50 f45 (Or.inr (slot_ne (Or.inr (hw _ (List.mem_of_getElem? (i := 20) rfl))) (Or.inr (hw _ (List.mem_of_getElem? (i := 28) rfl))) (by decide) (t := .int) (t' := .int) (by decide) (by decide)))
  have f57 := Fld.other W50 f46 (Or.inr (slot_ne (Or.inr (hw _ (List.mem_of_getElem? (i := 22) rfl))) (Or.inr (hw _ (List.mem_of_getElem? (i := 28) rfl))) (by decide) (t := .int) (t' := .int) (by decide) (by decide)))
  have f58 := Fld.other W50 f47 (Or.inr (slot_ne (Or.inr (hw _ (List.mem_of_getElem? (i := 24) rfl))) (Or.inr (hw _ (List.mem_of_getElem? (i := 28) rfl))) (by decide) (t := .int) (t' := .int) (by decide) (by decide)))
  have f59 := Fld.other W50 f39 (Or.inr (slot_ne (Or.inr (hw _ (List.mem_of_getElem? (i := 26) rfl))) (Or.inr (hw _ (List.mem_of_getElem? (i := 28) rfl))) (by decide) (t := .int) (t' := .int) (by decide) (by decide)))
  have Z60 : n0 ≤ h50.size := Nat.le_trans Z48 (Keep.of_wr W50).1
  have K61 := K49.wr W50 (Or.inl (List.mem_of_getElem? (i := 0) rfl))
  refine Go.movp st50 (mkF m 31 #[.val (.ref a), .val (.int x1), .val (.int x2), .val (.int x3), .val (.int x4), .val (.int x5)] []) rfl ?_
  exact g_return X50 hx hret (hb hby d3_31) N50 hlk (fun v t => endF (by decide) (by decide) v) (by rw [e50]; exact ⟨rfl, K61, f55, f56, f57, f58, f59, f51, f52, f53, f54⟩)
theorem pd__IIIII_V : parseMethodDescriptor "(IIIII)V" = some ⟨[.int, .int, .int, .int, .int], none⟩ := by decide +kernel
theorem d2_0 : decode prog_17_method_1_code 0 = .ok (.aload_n 0, 1) := by decide +kernel
theorem d2_1 : decode prog_17_method_1_code 1 = .ok (.iload_n 1, 1) := by decide +kernel
theorem d2_2 : decode prog_17_method_1_code 2 = .ok (.i2b, 1) := by decide +kernel
theorem d2_3 : decode prog_17_method_1_code 3 = .ok (.iload_n 2, 1) := by decide +kernel
theorem d2_4 : decode prog_17_method_1_code 4 = .ok (.i2b, 1) := by decide +kernel
theorem d2_5 : decode prog_17_method_1_code 5 = .ok (.iload_n 3, 1) := by decide +kernel
theorem d2_6 : decode prog_17_method_1_code 6 = .ok (.i2b, 1) := by decide +kernel
theorem d2_7 : decode prog_17_method_1_code 7 = .ok (.iload 4, 2) := by decide +kernel
theorem d2_9 : decode prog_17_method_1_code 9 = .ok (.iload 5, 2) := by decide +kernel
theorem d2_11 : decode prog_17_method_1_code 11 = .ok (.invokespecial 3, 3) := by decide +kernel
theorem d2_14 : decode prog_17_method_1_code 14 = .ok (.return_, 1) := by decide +kernel
theorem pn_2 : plainName "com/example/needlework/needlework/PackedBlock$Bytes" = true := by first | (simp [plainName, overriddenIn]; done) | decide +kernel
theorem ef_2 (x0 : Addr) (x1 : Int32) (x2 : Int32) (x3 : Int32) (x4 : Int32) (x5 : Int32) (m : MethodId) : entryFrame m #[(.ref x0), (.int x1), (.int x2), (.int x3), (.int x4), (.int x5)] 6 = mkF m 0 #[.val (.ref x0), .val (.int x1), .val (.int x2), .val (.int x3), .val (.int x4), .val (.int x5)] [] := by first | (simp [entryFrame, mkF, argsToLocals, Value.category]; done) | rfl
def Q2 (Z : State) (a : Addr) (x1 : Int32) (x2 : Int32) (x3 : Int32) (x4 : Int32) (x5 : Int32) (h0 : Heap) (n0 : Nat) : Option Value → Heap → Prop := fun v h => v = none ∧ Keep h0 h [a] ∧ Exa Z h a "com/example/needlework/needlework/PackedBlock$Bytes" ∧ Fld Z h a "com/example/needlework/needlework/PackedBlock" "first" "I" (.int (byt x1)) ∧ Fld Z h a "com/example/needlework/needlework/PackedBlock" "last" "I" (.int (byt x2)) ∧ Fld Z h a "com/example/needlework/needlework/PackedBlock" "middle" "I" (.int (byt x3)) ∧ Fld Z h a "com/example/needlework/needlework/PackedBlock" "lastOffset" "I" (.int x4) ∧ Fld Z h a "com/example/needlework/needlework/PackedBlock" "middleOffset" "I" (.int x5) ∧ Fld Z h a "com/example/needlework/needlework/PackedBlock" "units" "Ljava/lang/Object;" .null ∧ Fld Z h a "com/example/needlework/needlework/PackedBlock" "lasts" "Ljava/lang/Object;" .null ∧ Fld Z h a "com/example/needlework/needlework/PackedBlock" "middles" "Ljava/lang/Object;" .null
set_option maxRecDepth 65536 in
set_option maxHeartbeats 40000000 in
theorem rm2 (l : Launch) (Z : State) (a0 : Array Value) (hw : ∀ d ∈ tables_1, d.before a0 Z = true) (a : Addr) (x1 : Int32) (x2 : Int32) (x3 : Int32) (x4 : Int32) (x5 : Int32) (h0 : Heap) (n0 : Nat) (Z0 : n0 ≤ h0.size) (F_first : Fld Z h0 a "com/example/needlework/needlework/PackedBlock" "first" "I" (.int (0 : Int32))) (F_last : Fld Z h0 a "com/example/needlework/needlework/PackedBlock" "last" "I" (.int (0 : Int32))) (F_middle : Fld Z h0 a "com/example/needlework/needlework/PackedBlock" "middle" "I" (.int (0 : Int32))) (F_lastOffset : Fld Z h0 a "com/example/needlework/needlework/PackedBlock" "lastOffset" "I" (.int (0 : Int32))) (F_middleOffset : Fld Z h0 a "com/example/needlework/needlework/PackedBlock" "middleOffset" "I" (.int (0 : Int32))) (F_units : Fld Z h0 a "com/example/needlework/needlework/PackedBlock" "units" "Ljava/lang/Object;" .null) (F_lasts : Fld Z h0 a "com/example/needlework/needlework/PackedBlock" "lasts" "Ljava/lang/Object;" .null) (F_middles : Fld Z h0 a "com/example/needlework/needlework/PackedBlock" "middles" "Ljava/lang/Object;" .null) (E1 : Exa Z h0 a "com/example/needlework/needlework/PackedBlock$Bytes") (G1 : n0 ≤ a) : Ctr l Z (⟨"com/example/needlework/needlework/PackedBlock$Bytes", "<init>", "(CCCII)V"⟩ : MethodName) prog_17_method_1_code 6 none ({ frames := 2, cells := 0, slots := 0, locals := 29 } : Room) #[(.ref a), (.int x1), (.int x2), (.int x3), (.int x4), (.int x5)] h0 n0 (Q2 Z a x1 x2 x3 x4 x5 h0 n0) := by
  refine Ctr.of (plainFor_of_name pn_2) (ef_2 a x1 x2 x3 x4 x5) ?_
  intro p e s m below meth c T0 hx hby hml hown hnm hret hlk hZ X0 e0
  have N0 := Fr.nil n0
  refine g_aloadN X0 hx (hb hby d2_0) (pc' := 1) rfl rfl rfl ?_
  refine g_iloadN X0 hx (hb hby d2_1) (pc' := 2) rfl rfl ?_
  refine g_i2b X0 hx (hb hby d2_2) (pc' := 3) rfl ?_
  refine g_iloadN X0 hx (hb hby d2_3) (pc' := 4) rfl rfl ?_
  refine g_i2b X0 hx (hb hby d2_4) (pc' := 5) rfl ?_
  refine g_iloadN X0 hx (hb hby d2_5) (pc' := 6) rfl rfl ?_
  refine g_i2b X0 hx (hb hby d2_6) (pc' := 7) rfl ?_
  refine g_iload X0 hx (hb hby d2_7) (pc' := 9) rfl rfl ?_
  refine g_iload X0 hx (hb hby d2_9) (pc' := 11) rfl rfl ?_
  obtain ⟨v62, T62, h62, L62, X62, e62, N62, q62, st62⟩ := h_specialN (a := a) X0 hx (W := 0) (Ls := #[.val (.ref a), .val (.int x1), .val (.int x2), .val (.int x3), .val (.int x4), .val (.int x5)]) (argsL := [(.int (byt x1)), (.int (byt x2)), (.int (byt x3)), (.int x4), (.int x5)]) (rest := []) hZ e0 N0 hml hown rfl (rm3 l Z a0 hw a (byt x1) (byt x2) (byt x3) x4 x5 h0 n0 Z0 F_first F_last F_middle F_lastOffset F_middleOffset F_units F_lasts F_middles E1 G1) (hw _ (List.mem_of_getElem? (i := 11) rfl)) (hw _ (List.mem_of_getElem? (i := 12) rfl)) (hw _ (List.mem_of_getElem? (i := 14) rfl)) (hw _ (List.mem_of_getElem? (i := 15) rfl)) (by decide) pd__IIIII_V rfl rfl (hb hby d2_11) rfl (by decide) (by decide) (by decide) (by decide)
  obtain ⟨rfl, K62, A62, C0_62, C1_62, C2_62, C3_62, C4_62, C5_62, C6_62, C7_62⟩ := q62
  have f63 := E1.keep K62
  have Z64 : n0 ≤ h62.size := Nat.le_trans Z0 K62.1
  have K65 := (Keep.refl h0 [a]).trans K62 (allS (Or.inl (List.mem_of_getElem? (i := 0) rfl)) all0)
  refine Go.movp st62 (mkF m 14 #[.val (.ref a), .val (.int x1), .val (.int x2), .val (.int x3), .val (.int x4), .val (.int x5)] []) rfl ?_
  exact g_return X62 hx hret (hb hby d2_14) N62 hlk (fun v t => endF (by decide) (by decide) v) (by rw [e62]; exact ⟨rfl, K65, A62, C0_62, C1_62, C2_62, C3_62, C4_62, C5_62, C6_62, C7_62⟩)
theorem d5_0 : decode prog_17_method_4_code 0 = .ok (.aload_n 0, 1) := by decide +kernel
theorem d5_1 : decode prog_17_method_4_code 1 = .ok (.getfield 9, 3) := by decide +kernel
theorem d5_4 : decode prog_17_method_4_code 4 = .ok (.checkcast 15, 3) := by decide +kernel
theorem d5_7 : decode prog_17_method_4_code 7 = .ok (.astore_n 2, 1) := by decide +kernel
theorem d5_8 : decode prog_17_method_4_code 8 = .ok (.aload_n 0, 1) := by decide +kernel
theorem d5_9 : decode prog_17_method_4_code 9 = .ok (.getfield 21, 3) := by decide +kernel
theorem d5_12 : decode prog_17_method_4_code 12 = .ok (.checkcast 15, 3) := by decide +kernel
theorem d5_15 : decode prog_17_method_4_code 15 = .ok (.astore_n 3, 1) := by decide +kernel
theorem d5_16 : decode prog_17_method_4_code 16 = .ok (.aload_n 0, 1) := by decide +kernel
theorem d5_17 : decode prog_17_method_4_code 17 = .ok (.getfield 24, 3) := by decide +kernel
theorem d5_20 : decode prog_17_method_4_code 20 = .ok (.checkcast 15, 3) := by decide +kernel
theorem d5_23 : decode prog_17_method_4_code 23 = .ok (.astore 4, 2) := by decide +kernel
theorem d5_25 : decode prog_17_method_4_code 25 = .ok (.aload_n 0, 1) := by decide +kernel
theorem d5_26 : decode prog_17_method_4_code 26 = .ok (.getfield 27, 3) := by decide +kernel
theorem d5_29 : decode prog_17_method_4_code 29 = .ok (.istore 5, 2) := by decide +kernel
theorem d5_31 : decode prog_17_method_4_code 31 = .ok (.aload_n 0, 1) := by decide +kernel
theorem d5_32 : decode prog_17_method_4_code 32 = .ok (.getfield 31, 3) := by decide +kernel
theorem d5_35 : decode prog_17_method_4_code 35 = .ok (.istore 6, 2) := by decide +kernel
theorem d5_37 : decode prog_17_method_4_code 37 = .ok (.aload_n 0, 1) := by decide +kernel
theorem d5_38 : decode prog_17_method_4_code 38 = .ok (.getfield 34, 3) := by decide +kernel
theorem d5_41 : decode prog_17_method_4_code 41 = .ok (.istore 7, 2) := by decide +kernel
theorem d5_43 : decode prog_17_method_4_code 43 = .ok (.iconst 0, 1) := by decide +kernel
theorem d5_44 : decode prog_17_method_4_code 44 = .ok (.istore 8, 2) := by decide +kernel
theorem d5_46 : decode prog_17_method_4_code 46 = .ok (.iload 8, 2) := by decide +kernel
theorem d5_48 : decode prog_17_method_4_code 48 = .ok (.iload_n 1, 1) := by decide +kernel
theorem d5_49 : decode prog_17_method_4_code 49 = .ok (.if_icmp .ge 53, 3) := by decide +kernel
theorem d5_52 : decode prog_17_method_4_code 52 = .ok (.aload_n 2, 1) := by decide +kernel
theorem d5_53 : decode prog_17_method_4_code 53 = .ok (.iload 8, 2) := by decide +kernel
theorem d5_55 : decode prog_17_method_4_code 55 = .ok (.baload, 1) := by decide +kernel
theorem d5_56 : decode prog_17_method_4_code 56 = .ok (.iload 5, 2) := by decide +kernel
theorem d5_58 : decode prog_17_method_4_code 58 = .ok (.ixor, 1) := by decide +kernel
theorem d5_59 : decode prog_17_method_4_code 59 = .ok (.aload_n 3, 1) := by decide +kernel
theorem d5_60 : decode prog_17_method_4_code 60 = .ok (.iload 8, 2) := by decide +kernel
theorem d5_62 : decode prog_17_method_4_code 62 = .ok (.baload, 1) := by decide +kernel
theorem d5_63 : decode prog_17_method_4_code 63 = .ok (.iload 6, 2) := by decide +kernel
theorem d5_65 : decode prog_17_method_4_code 65 = .ok (.ixor, 1) := by decide +kernel
theorem d5_66 : decode prog_17_method_4_code 66 = .ok (.ior, 1) := by decide +kernel
theorem d5_67 : decode prog_17_method_4_code 67 = .ok (.aload 4, 2) := by decide +kernel
theorem d5_69 : decode prog_17_method_4_code 69 = .ok (.iload 8, 2) := by decide +kernel
theorem d5_71 : decode prog_17_method_4_code 71 = .ok (.baload, 1) := by decide +kernel
theorem d5_72 : decode prog_17_method_4_code 72 = .ok (.iload 7, 2) := by decide +kernel
theorem d5_74 : decode prog_17_method_4_code 74 = .ok (.ixor, 1) := by decide +kernel
theorem d5_75 : decode prog_17_method_4_code 75 = .ok (.ior, 1) := by decide +kernel
theorem d5_76 : decode prog_17_method_4_code 76 = .ok (.istore 9, 2) := by decide +kernel
theorem d5_78 : decode prog_17_method_4_code 78 = .ok (.aload_n 2, 1) := by decide +kernel
theorem d5_79 : decode prog_17_method_4_code 79 = .ok (.iload 8, 2) := by decide +kernel
theorem d5_81 : decode prog_17_method_4_code 81 = .ok (.iload 9, 2) := by decide +kernel
theorem d5_83 : decode prog_17_method_4_code 83 = .ok (.iconst 1, 1) := by decide +kernel
theorem d5_84 : decode prog_17_method_4_code 84 = .ok (.isub, 1) := by decide +kernel
theorem d5_85 : decode prog_17_method_4_code 85 = .ok (.iload 9, 2) := by decide +kernel
theorem d5_87 : decode prog_17_method_4_code 87 = .ok (.iconst (-1), 1) := by decide +kernel
theorem d5_88 : decode prog_17_method_4_code 88 = .ok (.ixor, 1) := by decide +kernel
theorem d5_89 : decode prog_17_method_4_code 89 = .ok (.iand, 1) := by decide +kernel
theorem d5_90 : decode prog_17_method_4_code 90 = .ok (.sipush 128, 3) := by decide +kernel
theorem d5_93 : decode prog_17_method_4_code 93 = .ok (.iand, 1) := by decide +kernel
theorem d5_94 : decode prog_17_method_4_code 94 = .ok (.i2b, 1) := by decide +kernel
theorem d5_95 : decode prog_17_method_4_code 95 = .ok (.bastore, 1) := by decide +kernel
theorem d5_96 : decode prog_17_method_4_code 96 = .ok (.iinc 8 1, 3) := by decide +kernel
theorem d5_99 : decode prog_17_method_4_code 99 = .ok (.goto (-53), 3) := by decide +kernel
theorem d5_102 : decode prog_17_method_4_code 102 = .ok (.return_, 1) := by decide +kernel
theorem ef_5_0 (x0 : Addr) (x1 : Int32) (m : MethodId) : entryFrame m #[(.ref x0), (.int x1)] 10 = mkF m 0 #[.val (.ref x0), .val (.int x1), .unset, .unset, .unset, .unset, .unset, .unset, .unset, .unset] [] := by first | (simp [entryFrame, mkF, argsToLocals, Value.category]; done) | rfl
def Q5_0 (Z : State) (a : Addr) (uA : Addr) (lA : Addr) (mA : Addr) (u0 : Int32) (u1 : Int32) (u2 : Int32) (l0 : Int32) (l1 : Int32) (l2 : Int32) (m0 : Int32) (m1 : Int32) (m2 : Int32) (f : Int32) (la : Int32) (mi : Int32) (n : Int32) (w0 : Int32) (w1 : Int32) (w2 : Int32) (h0 : Heap) (n0 : Nat) : Option Value → Heap → Prop := fun v h => v = none ∧ Keep h0 h [uA] ∧ Va Z h uA .byte [(.int w0), (.int w1), (.int w2)]
set_option maxRecDepth 65536 in
set_option maxHeartbeats 40000000 in
theorem rm5_0 (l : Launch) (Z : State) (a0 : Array Value) (hw : ∀ d ∈ tables_1, d.before a0 Z = true) (a : Addr) (uA : Addr) (lA : Addr) (mA : Addr) (u0 : Int32) (u1 : Int32) (u2 : Int32) (l0 : Int32) (l1 : Int32) (l2 : Int32) (m0 : Int32) (m1 : Int32) (m2 : Int32) (f : Int32) (la : Int32) (mi : Int32) (n : Int32) (w0 : Int32) (w1 : Int32) (w2 : Int32) (h0 : Heap) (n0 : Nat) (Z0 : n0 ≤ h0.size) (F_units : Fld Z h0 a "com/example/needlework/needlework/PackedBlock" "units" "Ljava/lang/Object;" (.ref uA)) (F_lasts : Fld Z h0 a "com/example/needlework/needlework/PackedBlock" "lasts" "Ljava/lang/Object;" (.ref lA)) (F_middles : Fld Z h0 a "com/example/needlework/needlework/PackedBlock" "middles" "Ljava/lang/Object;" (.ref mA)) (F_first : Fld Z h0 a "com/example/needlework/needlework/PackedBlock" "first" "I" (.int f)) (F_last : Fld Z h0 a "com/example/needlework/needlework/PackedBlock" "last" "I" (.int la)) (F_middle : Fld Z h0 a "com/example/needlework/needlework/PackedBlock" "middle" "I" (.int mi)) (V_uA : Va Z h0 uA .byte [(.int u0), (.int u1), (.int u2)]) (V_lA : Va Z h0 lA .byte [(.int l0), (.int l1), (.int l2)]) (V_mA : Va Z h0 mA .byte [(.int m0), (.int m1), (.int m2)]) (X_uA : Exa Z h0 uA "[B") (X_lA : Exa Z h0 lA "[B") (X_mA : Exa Z h0 mA "[B") (G1 : n0 ≤ uA) (ne_lA : lA ≠ uA) (ne_mA : mA ≠ uA) (ne_a : a ≠ uA) (hn : n = 0 ∨ n = 1 ∨ n = 2 ∨ n = 3) (hw0 : w0 = (if (0 : Int32) < n then (mkV u0 l0 m0 f la mi) else u0)) (hw1 : w1 = (if (1 : Int32) < n then (mkV u1 l1 m1 f la mi) else u1)) (hw2 : w2 = (if (2 : Int32) < n then (mkV u2 l2 m2 f la mi) else u2)) : Ctr l Z (⟨"com/example/needlework/needlework/PackedBlock$Bytes", "mark", "(I)V"⟩ : MethodName) prog_17_method_4_code 10 none ({ frames := 0, cells := 0, slots := 0, locals := 0 } : Room) #[(.ref a), (.int n)] h0 n0 (Q5_0 Z a uA lA mA u0 u1 u2 l0 l1 l2 m0 m1 m2 f la mi n w0 w1 w2 h0 n0) := by
  refine Ctr.of (plainFor_of_name pn_2) (ef_5_0 a n) ?_
  intro p e s m below meth c T0 hx hby hml hown hnm hret hlk hZ X0 e0
  have N0 := Fr.nil n0
  rcases hn with rfl | rfl | rfl | rfl
  · skip
    have hx0 := hw0.trans (if_neg (by decide))
    have hx1 := hw1.trans (if_neg (by decide))
    have hx2 := hw2.trans (if_neg (by decide))
    refine g_aloadN X0 hx (hb hby d5_0) (pc' := 1) rfl rfl rfl ?_
    obtain ⟨T66, X66, e66, st66⟩ := getF X0 hx hZ hown (host := "") (Or.inl (hw _ (List.mem_of_getElem? (i := 43) rfl))) (Via.of (hw _ (List.mem_of_getElem? (i := 30) rfl))) e0 F_units (g := (mkF m 1 #[.val (.ref a), .val (.int (0 : Int32)), .unset, .unset, .unset, .unset, .unset, .unset, .unset, .unset] [(.ref a)])) rfl rfl (hb hby d5_1)
    refine Go.movp st66 (mkF m 4 #[.val (.ref a), .val (.int (0 : Int32)), .unset, .unset, .unset, .unset, .unset, .unset, .unset, .unset] [(.ref uA)]) rfl ?_
    obtain ⟨T67, X67, e67, st67⟩ := castY X66 hx hZ hown (hw _ (List.mem_of_getElem? (i := 44) rfl)) e66 (Ins.self X_uA) (g := (mkF m 4 #[.val (.ref a), .val (.int (0 : Int32)), .unset, .unset, .unset, .unset, .unset, .unset, .unset, .unset] [(.ref uA)])) rfl rfl (hb hby d5_4)
    refine Go.movp st67 (mkF m 7 #[.val (.ref a), .val (.int (0 : Int32)), .unset, .unset, .unset, .unset, .unset, .unset, .unset, .unset] [(.ref uA)]) rfl ?_
    refine g_astoreN X67 hx (hb hby d5_7) (pc' := 8) rfl rfl (Ls' := #[.val (.ref a), .val (.int (0 : Int32)), .val (.ref uA), .unset, .unset, .unset, .unset, .unset, .unset, .unset]) rfl ?_
    refine g_aloadN X67 hx (hb hby d5_8) (pc' := 9) rfl rfl rfl ?_
    obtain ⟨T68, X68, e68, st68⟩ := getF X67 hx hZ hown (host := "") (Or.inl (hw _ (List.mem_of_getElem? (i := 46) rfl))) (Via.of (hw _ (List.mem_of_getElem? (i := 33) rfl))) e67 F_lasts (g := (mkF m 9 #[.val (.ref a), .val (.int (0 : Int32)), .val (.ref uA), .unset, .unset, .unset, .unset, .unset, .unset, .unset] [(.ref a)])) rfl rfl (hb hby d5_9)
    refine Go.movp st68 (mkF m 12 #[.val (.ref a), .val (.int (0 : Int32)), .val (.ref uA), .unset, .unset, .unset, .unset, .unset, .unset, .unset] [(.ref lA)]) rfl ?_
    obtain ⟨T69, X69, e69, st69⟩ := castY X68 hx hZ hown (hw _ (List.mem_of_getElem? (i := 44) rfl)) e68 (Ins.self X_lA) (g := (mkF m 12 #[.val (.ref a), .val (.int (0 : Int32)), .val (.ref uA), .unset, .unset, .unset, .unset, .unset, .unset, .unset] [(.ref lA)])) rfl rfl (hb hby d5_12)
    refine Go.movp st69 (mkF m 15 #[.val (.ref a), .val (.int (0 : Int32)), .val (.ref uA), .unset, .unset, .unset, .unset, .unset, .unset, .unset] [(.ref lA)]) rfl ?_
    refine g_astoreN X69 hx (hb hby d5_15) (pc' := 16) rfl rfl (Ls' := #[.val (.ref a), .val (.int (0 : Int32)), .val (.ref uA), .val (.ref lA), .unset, .unset, .unset, .unset, .unset, .unset]) rfl ?_
    refine g_aloadN X69 hx (hb hby d5_16) (pc' := 17) rfl rfl rfl ?_
    obtain ⟨T70, X70, e70, st70⟩ := getF X69 hx hZ hown (host := "") (Or.inl (hw _ (List.mem_of_getElem? (i := 47) rfl))) (Via.of (hw _ (List.mem_of_getElem? (i := 36) rfl))) e69 F_middles (g := (mkF m 17 #[.val (.ref a), .val (.int (0 : Int32)), .val (.ref uA), .val (.ref lA), .unset, .unset, .unset, .unset, .unset, .unset] [(.ref a)])) rfl rfl (hb hby d5_17)
    refine Go.movp st70 (mkF m 20 #[.val (.ref a), .val (.int (0 : Int32)), .val (.ref uA), .val (.ref lA), .unset, .unset, .unset, .unset, .unset, .unset] [(.ref mA)]) rfl ?_
    obtain ⟨T71, X71, e71, st71⟩ := castY X70 hx hZ hown (hw _ (List.mem_of_getElem? (i := 44) rfl)) e70 (Ins.self X_mA) (g := (mkF m 20 #[.val (.ref a), .val (.int (0 : Int32)), .val (.ref uA), .val (.ref lA), .unset, .unset, .unset, .unset, .unset, .unset] [(.ref mA)])) rfl rfl (hb hby d5_20)
    refine Go.movp st71 (mkF m 23 #[.val (.ref a), .val (.int (0 : Int32)), .val (.ref uA), .val (.ref lA), .unset, .unset, .unset, .unset, .unset, .unset] [(.ref mA)]) rfl ?_
    refine g_astore X71 hx (hb hby d5_23) (pc' := 25) rfl rfl (Ls' := #[.val (.ref a), .val (.int (0 : Int32)), .val (.ref uA), .val (.ref lA), .val (.ref mA), .unset, .unset, .unset, .unset, .unset]) rfl ?_
    refine g_aloadN X71 hx (hb hby d5_25) (pc' := 26) rfl rfl rfl ?_
    obtain ⟨T72, X72, e72, st72⟩ := getF X71 hx hZ hown (host := "") (Or.inl (hw _ (List.mem_of_getElem? (i := 48) rfl))) (Via.of (hw _ (List.mem_of_getElem? (i := 49) rfl))) e71 F_first (g := (mkF m 26 #[.val (.ref a), .val (.int (0 : Int32)), .val (.ref uA), .val (.ref lA), .val (.ref mA), .unset, .unset, .unset, .unset, .unset] [(.ref a)])) rfl rfl (hb hby d5_26)
    refine Go.movp st72 (mkF m 29 #[.val (.ref a), .val (.int (0 : Int32)), .val (.ref uA), .val (.ref lA), .val (.ref mA), .unset, .unset, .unset, .unset, .unset] [(.int f)]) rfl ?_
    refine g_istore X72 hx (hb hby d5_29) (pc' := 31) rfl (Ls' := #[.val (.ref a), .val (.int (0 : Int32)), .val (.ref uA), .val (.ref lA), .val (.ref mA), .val (.int f), .unset, .unset, .unset, .unset]) rfl ?_
    refine g_aloadN X72 hx (hb hby d5_31) (pc' := 32) rfl rfl rfl ?_
    obtain ⟨T73, X73, e73, st73⟩ := getF X72 hx hZ hown (host := "") (Or.inl (hw _ (List.mem_of_getElem? (i := 50) rfl))) (Via.of (hw _ (List.mem_of_getElem? (i := 51) rfl))) e72 F_last (g := (mkF m 32 #[.val (.ref a), .val (.int (0 : Int32)), .val (.ref uA), .val (.ref lA), .val (.ref mA), .val (.int f), .unset, .unset, .unset, .unset] [(.ref a)])) rfl rfl (hb hby d5_32)
    refine Go.movp st73 (mkF m 35 #[.val (.ref a), .val (.int (0 : Int32)), .val (.ref uA), .val (.ref lA), .val (.ref mA), .val (.int f), .unset, .unset, .unset, .unset] [(.int la)]) rfl ?_
    refine g_istore X73 hx (hb hby d5_35) (pc' := 37) rfl (Ls' := #[.val (.ref a), .val (.int (0 : Int32)), .val (.ref uA), .val (.ref lA), .val (.ref mA), .val (.int f), .val (.int la), .unset, .unset, .unset]) rfl ?_
    refine g_aloadN X73 hx (hb hby d5_37) (pc' := 38) rfl rfl rfl ?_
    obtain ⟨T74, X74, e74, st74⟩ := getF X73 hx hZ hown (host := "") (Or.inl (hw _ (List.mem_of_getElem? (i := 52) rfl))) (Via.of (hw _ (List.mem_of_getElem? (i := 53) rfl))) e73 F_middle (g := (mkF m 38 #[.val (.ref a), .val (.int (0 : Int32)), .val (.ref uA), .val (.ref lA), .val (.ref mA), .val (.int f), .val (.int la), .unset, .unset, .unset] [(.ref a)])) rfl rfl (hb hby d5_38)
    refine Go.movp st74 (mkF m 41 #[.val (.ref a), .val (.int (0 : Int32)), .val (.ref uA), .val (.ref lA), .val (.ref mA), .val (.int f), .val (.int la), .unset, .unset, .unset] [(.int mi)]) rfl ?_
    refine g_istore X74 hx (hb hby d5_41) (pc' := 43) rfl (Ls' := #[.val (.ref a), .val (.int (0 : Int32)), .val (.ref uA), .val (.ref lA), .val (.ref mA), .val (.int f), .val (.int la), .val (.int mi), .unset, .unset]) rfl ?_
    refine g_iconst X74 hx (hb hby d5_43) (pc' := 44) rfl (z := (0 : Int32)) rfl ?_
    refine g_istore X74 hx (hb hby d5_44) (pc' := 46) rfl (Ls' := #[.val (.ref a), .val (.int (0 : Int32)), .val (.ref uA), .val (.ref lA), .val (.ref mA), .val (.int f), .val (.int la), .val (.int mi), .val (.int (0 : Int32)), .unset]) rfl ?_
    refine g_iload X74 hx (hb hby d5_46) (pc' := 48) rfl rfl ?_
    refine g_iloadN X74 hx (hb hby d5_48) (pc' := 49) rfl rfl ?_
    refine g_icmp_ge X74 hx (hb hby d5_49) (pc1 := 52) rfl (by decide) (pc2 := 102) (by decide) (fun hc49 => ?_) (fun hc49 => absurd hc49 (by decide))
    exact g_return X74 hx hret (hb hby d5_102) N0 hlk (fun v t => endF (by decide) (by decide) v) (by rw [e74]; exact ⟨rfl, (Keep.refl h0 [uA]), Va.eq V_uA (by rw [hx0, hx1, hx2])⟩)
  · skip
    have hx0 := hw0.trans (if_pos (by decide))
    have hx1 := hw1.trans (if_neg (by decide))
    have hx2 := hw2.trans (if_neg (by decide))
    refine g_aloadN X0 hx (hb hby d5_0) (pc' := 1) rfl rfl rfl ?_
    obtain ⟨T75, X75, e75, st75⟩ := getF X0 hx hZ hown (host := "") (Or.inl (hw _ (List.mem_of_getElem? (i := 43) rfl))) (Via.of (hw _ (List.mem_of_getElem? (i := 30) rfl))) e0 F_units (g := (mkF m 1 #[.val (.ref a), .val (.int (1 : Int32)), .unset, .unset, .unset, .unset, .unset, .unset, .unset, .unset] [(.ref a)])) rfl rfl (hb hby d5_1)
    refine Go.movp st75 (mkF m 4 #[.val (.ref a), .val (.int (1 : Int32)), .unset, .unset, .unset, .unset, .unset, .unset, .unset, .unset] [(.ref uA)]) rfl ?_
    obtain ⟨T76, X76, e76, st76⟩ := castY X75 hx hZ hown (hw _ (List.mem_of_getElem? (i := 44) rfl)) e75 (Ins.self X_uA) (g := (mkF m 4 #[.val (.ref a), .val (.int (1 : Int32)), .unset, .unset, .unset, .unset, .unset, .unset, .unset, .unset] [(.ref uA)])) rfl rfl (hb hby d5_4)
    refine Go.movp st76 (mkF m 7 #[.val (.ref a), .val (.int (1 : Int32)), .unset, .unset, .unset, .unset, .unset, .unset, .unset, .unset] [(.ref uA)]) rfl ?_
    refine g_astoreN X76 hx (hb hby d5_7) (pc' := 8) rfl rfl (Ls' := #[.val (.ref a), .val (.int (1 : Int32)), .val (.ref uA), .unset, .unset, .unset, .unset, .unset, .unset, .unset]) rfl ?_
    refine g_aloadN X76 hx (hb hby d5_8) (pc' := 9) rfl rfl rfl ?_
    obtain ⟨T77, X77, e77, st77⟩ := getF X76 hx hZ hown (host := "") (Or.inl (hw _ (List.mem_of_getElem? (i := 46) rfl))) (Via.of (hw _ (List.mem_of_getElem? (i := 33) rfl))) e76 F_lasts (g := (mkF m 9 #[.val (.ref a), .val (.int (1 : Int32)), .val (.ref uA), .unset, .unset, .unset, .unset, .unset, .unset, .unset] [(.ref a)])) rfl rfl (hb hby d5_9)
    refine Go.movp st77 (mkF m 12 #[.val (.ref a), .val (.int (1 : Int32)), .val (.ref uA), .unset, .unset, .unset, .unset, .unset, .unset, .unset] [(.ref lA)]) rfl ?_
    obtain ⟨T78, X78, e78, st78⟩ := castY X77 hx hZ hown (hw _ (List.mem_of_getElem? (i := 44) rfl)) e77 (Ins.self X_lA) (g := (mkF m 12 #[.val (.ref a), .val (.int (1 : Int32)), .val (.ref uA), .unset, .unset, .unset, .unset, .unset, .unset, .unset] [(.ref lA)])) rfl rfl (hb hby d5_12)
    refine Go.movp st78 (mkF m 15 #[.val (.ref a), .val (.int (1 : Int32)), .val (.ref uA), .unset, .unset, .unset, .unset, .unset, .unset, .unset] [(.ref lA)]) rfl ?_
    refine g_astoreN X78 hx (hb hby d5_15) (pc' := 16) rfl rfl (Ls' := #[.val (.ref a), .val (.int (1 : Int32)), .val (.ref uA), .val (.ref lA), .unset, .unset, .unset, .unset, .unset, .unset]) rfl ?_
    refine g_aloadN X78 hx (hb hby d5_16) (pc' := 17) rfl rfl rfl ?_
    obtain ⟨T79, X79, e79, st79⟩ := getF X78 hx hZ hown (host := "") (Or.inl (hw _ (List.mem_of_getElem? (i := 47) rfl))) (Via.of (hw _ (List.mem_of_getElem? (i := 36) rfl))) e78 F_middles (g := (mkF m 17 #[.val (.ref a), .val (.int (1 : Int32)), .val (.ref uA), .val (.ref lA), .unset, .unset, .unset, .unset, .unset, .unset] [(.ref a)])) rfl rfl (hb hby d5_17)
    refine Go.movp st79 (mkF m 20 #[.val (.ref a), .val (.int (1 : Int32)), .val (.ref uA), .val (.ref lA), .unset, .unset, .unset, .unset, .unset, .unset] [(.ref mA)]) rfl ?_
    obtain ⟨T80, X80, e80, st80⟩ := castY X79 hx hZ hown (hw _ (List.mem_of_getElem? (i := 44) rfl)) e79 (Ins.self X_mA) (g := (mkF m 20 #[.val (.ref a), .val (.int (1 : Int32)), .val (.ref uA), .val (.ref lA), .unset, .unset, .unset, .unset, .unset, .unset] [(.ref mA)])) rfl rfl (hb hby d5_20)
    refine Go.movp st80 (mkF m 23 #[.val (.ref a), .val (.int (1 : Int32)), .val (.ref uA), .val (.ref lA), .unset, .unset, .unset, .unset, .unset, .unset] [(.ref mA)]) rfl ?_
    refine g_astore X80 hx (hb hby d5_23) (pc' := 25) rfl rfl (Ls' := #[.val (.ref a), .val (.int (1 : Int32)), .val (.ref uA), .val (.ref lA), .val (.ref mA), .unset, .unset, .unset, .unset, .unset]) rfl ?_
    refine g_aloadN X80 hx (hb hby d5_25) (pc' := 26) rfl rfl rfl ?_
    obtain ⟨T81, X81, e81, st81⟩ := getF X80 hx hZ hown (host := "") (Or.inl (hw _ (List.mem_of_getElem? (i := 48) rfl))) (Via.of (hw _ (List.mem_of_getElem? (i := 49) rfl))) e80 F_first (g := (mkF m 26 #[.val (.ref a), .val (.int (1 : Int32)), .val (.ref uA), .val (.ref lA), .val (.ref mA), .unset, .unset, .unset, .unset, .unset] [(.ref a)])) rfl rfl (hb hby d5_26)
    refine Go.movp st81 (mkF m 29 #[.val (.ref a), .val (.int (1 : Int32)), .val (.ref uA), .val (.ref lA), .val (.ref mA), .unset, .unset, .unset, .unset, .unset] [(.int f)]) rfl ?_
    refine g_istore X81 hx (hb hby d5_29) (pc' := 31) rfl (Ls' := #[.val (.ref a), .val (.int (1 : Int32)), .val (.ref uA), .val (.ref lA), .val (.ref mA), .val (.int f), .unset, .unset, .unset, .unset]) rfl ?_
    refine g_aloadN X81 hx (hb hby d5_31) (pc' := 32) rfl rfl rfl ?_
    obtain ⟨T82, X82, e82, st82⟩ := getF X81 hx hZ hown (host := "") (Or.inl (hw _ (List.mem_of_getElem? (i := 50) rfl))) (Via.of (hw _ (List.mem_of_getElem? (i := 51) rfl))) e81 F_last (g := (mkF m 32 #[.val (.ref a), .val (.int (1 : Int32)), .val (.ref uA), .val (.ref lA), .val (.ref mA), .val (.int f), .unset, .unset, .unset, .unset] [(.ref a)])) rfl rfl (hb hby d5_32)
    refine Go.movp st82 (mkF m 35 #[.val (.ref a), .val (.int (1 : Int32)), .val (.ref uA), .val (.ref lA), .val (.ref mA), .val (.int f), .unset, .unset, .unset, .unset] [(.int la)]) rfl ?_
    refine g_istore X82 hx (hb hby d5_35) (pc' := 37) rfl (Ls' := #[.val (.ref a), .val (.int (1 : Int32)), .val (.ref uA), .val (.ref lA), .val (.ref mA), .val (.int f), .val (.int la), .unset, .unset, .unset]) rfl ?_
    refine g_aloadN X82 hx (hb hby d5_37) (pc' := 38) rfl rfl rfl ?_
    obtain ⟨T83, X83, e83, st83⟩ := getF X82 hx hZ hown (host := "") (Or.inl (hw _ (List.mem_of_getElem? (i := 52) rfl))) (Via.of (hw _ (List.mem_of_getElem? (i := 53) rfl))) e82 F_middle (g := (mkF m 38 #[.val (.ref a), .val (.int (1 : Int32)), .val (.ref uA), .val (.ref lA), .val (.ref mA), .val (.int f), .val (.int la), .unset, .unset, .unset] [(.ref a)])) rfl rfl (hb hby d5_38)
    refine Go.movp st83 (mkF m 41 #[.val (.ref a), .val (.int (1 : Int32)), .val (.ref uA), .val (.ref lA), .val (.ref mA), .val (.int f), .val (.int la), .unset, .unset, .unset] [(.int mi)]) rfl ?_
    refine g_istore X83 hx (hb hby d5_41) (pc' := 43) rfl (Ls' := #[.val (.ref a), .val (.int (1 : Int32)), .val (.ref uA), .val (.ref lA), .val (.ref mA), .val (.int f), .val (.int la), .val (.int mi), .unset, .unset]) rfl ?_
    refine g_iconst X83 hx (hb hby d5_43) (pc' := 44) rfl (z := (0 : Int32)) rfl ?_
    refine g_istore X83 hx (hb hby d5_44) (pc' := 46) rfl (Ls' := #[.val (.ref a), .val (.int (1 : Int32)), .val (.ref uA), .val (.ref lA), .val (.ref mA), .val (.int f), .val (.int la), .val (.int mi), .val (.int (0 : Int32)), .unset]) rfl ?_
    refine g_iload X83 hx (hb hby d5_46) (pc' := 48) rfl rfl ?_
    refine g_iloadN X83 hx (hb hby d5_48) (pc' := 49) rfl rfl ?_
    refine g_icmp_ge X83 hx (hb hby d5_49) (pc1 := 52) rfl (by decide) (pc2 := 102) (by decide) (fun hc49 => absurd (by decide) hc49) (fun hc49 => ?_)
    refine g_aloadN X83 hx (hb hby d5_52) (pc' := 53) rfl rfl rfl ?_
    refine g_iload X83 hx (hb hby d5_53) (pc' := 55) rfl rfl ?_
    refine g_baload X83 hx hZ e83 V_uA (i := 0) (v := (.int u0)) (hb hby d5_55) (pc' := 56) rfl (by decide) rfl rfl ?_
    refine g_iload X83 hx (hb hby d5_56) (pc' := 58) rfl rfl ?_
    refine g_ixor X83 hx (hb hby d5_58) (pc' := 59) rfl ?_
    refine g_aloadN X83 hx (hb hby d5_59) (pc' := 60) rfl rfl rfl ?_
    refine g_iload X83 hx (hb hby d5_60) (pc' := 62) rfl rfl ?_
    refine g_baload X83 hx hZ e83 V_lA (i := 0) (v := (.int l0)) (hb hby d5_62) (pc' := 63) rfl (by decide) rfl rfl ?_
    refine g_iload X83 hx (hb hby d5_63) (pc' := 65) rfl rfl ?_
    refine g_ixor X83 hx (hb hby d5_65) (pc' := 66) rfl ?_
    refine g_ior X83 hx (hb hby d5_66) (pc' := 67) rfl ?_
    refine g_aload X83 hx (hb hby d5_67) (pc' := 69) rfl rfl rfl ?_
    refine g_iload X83 hx (hb hby d5_69) (pc' := 71) rfl rfl ?_
    refine g_baload X83 hx hZ e83 V_mA (i := 0) (v := (.int m0)) (hb hby d5_71) (pc' := 72) rfl (by decide) rfl rfl ?_
    refine g_iload X83 hx (hb hby d5_72) (pc' := 74) rfl rfl ?_
    refine g_ixor X83 hx (hb hby d5_74) (pc' := 75) rfl ?_
    refine g_ior X83 hx (hb hby d5_75) (pc' := 76) rfl ?_
    refine Go.cast (show (mkF m 76 #[.val (.ref a), .val (.int (1 : Int32)), .val (.ref uA), .val (.ref lA), .val (.ref mA), .val (.int f), .val (.int la), .val (.int mi), .val (.int (0 : Int32)), .unset] [(.int (((u0 ^^^ f) ||| (l0 ^^^ la)) ||| (m0 ^^^ mi)))]) = (mkF m 76 #[.val (.ref a), .val (.int (1 : Int32)), .val (.ref uA), .val (.ref lA), .val (.ref mA), .val (.int f), .val (.int la), .val (.int mi), .val (.int (0 : Int32)), .unset] [(.int (zV u0 l0 m0 f la mi))]) from by rw [show (((u0 ^^^ f) ||| (l0 ^^^ la)) ||| (m0 ^^^ mi)) = (zV u0 l0 m0 f la mi) from rfl]) ?_
    refine g_istore X83 hx (hb hby d5_76) (pc' := 78) rfl (Ls' := #[.val (.ref a), .val (.int (1 : Int32)), .val (.ref uA), .val (.ref lA), .val (.ref mA), .val (.int f), .val (.int la), .val (.int mi), .val (.int (0 : Int32)), .val (.int (zV u0 l0 m0 f la mi))]) rfl ?_
    refine g_aloadN X83 hx (hb hby d5_78) (pc' := 79) rfl rfl rfl ?_
    refine g_iload X83 hx (hb hby d5_79) (pc' := 81) rfl rfl ?_
    refine g_iload X83 hx (hb hby d5_81) (pc' := 83) rfl rfl ?_
    refine g_iconst X83 hx (hb hby d5_83) (pc' := 84) rfl (z := (1 : Int32)) rfl ?_
    refine g_isub X83 hx (hb hby d5_84) (pc' := 85) rfl ?_
    refine g_iload X83 hx (hb hby d5_85) (pc' := 87) rfl rfl ?_
    refine g_iconst X83 hx (hb hby d5_87) (pc' := 88) rfl (z := (-1 : Int32)) rfl ?_
    refine g_ixor X83 hx (hb hby d5_88) (pc' := 89) rfl ?_
    refine g_iand X83 hx (hb hby d5_89) (pc' := 90) rfl ?_
    refine g_sipush X83 hx (hb hby d5_90) (pc' := 93) rfl (z := (128 : Int32)) rfl ?_
    refine g_iand X83 hx (hb hby d5_93) (pc' := 94) rfl ?_
    refine g_i2b X83 hx (hb hby d5_94) (pc' := 95) rfl ?_
    refine Go.cast (show (mkF m 95 #[.val (.ref a), .val (.int (1 : Int32)), .val (.ref uA), .val (.ref lA), .val (.ref mA), .val (.int f), .val (.int la), .val (.int mi), .val (.int (0 : Int32)), .val (.int (zV u0 l0 m0 f la mi))] [(.int (byt ((((zV u0 l0 m0 f la mi) - (1 : Int32)) &&& ((zV u0 l0 m0 f la mi) ^^^ (-1 : Int32))) &&& (128 : Int32)))), (.int (0 : Int32)), (.ref uA)]) = (mkF m 95 #[.val (.ref a), .val (.int (1 : Int32)), .val (.ref uA), .val (.ref lA), .val (.ref mA), .val (.int f), .val (.int la), .val (.int mi), .val (.int (0 : Int32)), .val (.int (zV u0 l0 m0 f la mi))] [(.int (mkV u0 l0 m0 f la mi)), (.int (0 : Int32)), (.ref uA)]) from by rw [show (byt ((((zV u0 l0 m0 f la mi) - (1 : Int32)) &&& ((zV u0 l0 m0 f la mi) ^^^ (-1 : Int32))) &&& (128 : Int32))) = (mkV u0 l0 m0 f la mi) from rfl]) ?_
    obtain ⟨T84, h84, L84, X84, e84, N84, W84, V84, st84⟩ := h_bastore X83 hx hZ e83 N0 V_uA G1 (j := (0 : Int32)) (i := 0) (x := (mkV u0 l0 m0 f la mi)) (hb hby d5_95) (by decide) rfl rfl #[.val (.ref a), .val (.int (1 : Int32)), .val (.ref uA), .val (.ref lA), .val (.ref mA), .val (.int f), .val (.int la), .val (.int mi), .val (.int (0 : Int32)), .val (.int (zV u0 l0 m0 f la mi))] []
    have f85 := Fld.other W84 F_units (Or.inl ne_a)
    have f86 := Fld.other W84 F_lasts (Or.inl ne_a)
    have f87 := Fld.other W84 F_middles (Or.inl ne_a)
    have f88 := Fld.other W84 F_first (Or.inl ne_a)
    have f89 := Fld.other W84 F_last (Or.inl ne_a)
    have f90 := Fld.other W84 F_middle (Or.inl ne_a)
    have f91 := Exa.wr W84 X_uA
    have f92 := V_lA.other W84 ne_lA
    have f93 := Exa.wr W84 X_lA
    have f94 := V_mA.other W84 ne_mA
    have f95 := Exa.wr W84 X_mA
    have Z96 : n0 ≤ h84.size := Nat.le_trans Z0 (Keep.of_wr W84).1
    have K97 := (Keep.refl h0 [uA]).wr W84 (Or.inl (List.mem_of_getElem? (i := 0) rfl))
    have f98 : Va Z h84 uA .byte [(.int (byt (mkV u0 l0 m0 f la mi))), (.int u1), (.int u2)] := V84
    have f99 : Va Z h84 uA .byte [(.int (mkV u0 l0 m0 f la mi)), (.int u1), (.int u2)] := by rw [show (byt (mkV u0 l0 m0 f la mi)) = (mkV u0 l0 m0 f la mi) from byt_byt _] at f98; exact f98
    refine Go.movp st84 (mkF m 96 #[.val (.ref a), .val (.int (1 : Int32)), .val (.ref uA), .val (.ref lA), .val (.ref mA), .val (.int f), .val (.int la), .val (.int mi), .val (.int (0 : Int32)), .val (.int (zV u0 l0 m0 f la mi))] []) rfl ?_
    refine g_iinc X84 hx (hb hby d5_96) (pc' := 99) rfl rfl (z := (1 : Int32)) rfl (Ls' := #[.val (.ref a), .val (.int (1 : Int32)), .val (.ref uA), .val (.ref lA), .val (.ref mA), .val (.int f), .val (.int la), .val (.int mi), .val (.int (1 : Int32)), .val (.int (zV u0 l0 m0 f la mi))]) rfl ?_
    refine g_goto X84 hx (hb hby d5_99) (by decide) (pc' := 46) (by decide) ?_
    refine g_iload X84 hx (hb hby d5_46) (pc' := 48) rfl rfl ?_
    refine g_iloadN X84 hx (hb hby d5_48) (pc' := 49) rfl rfl ?_
    refine g_icmp_ge X84 hx (hb hby d5_49) (pc1 := 52) rfl (by decide) (pc2 := 102) (by decide) (fun hc49_1 => ?_) (fun hc49_1 => absurd hc49_1 (by decide))
    exact g_return X84 hx hret (hb hby d5_102) N84 hlk (fun v t => endF (by decide) (by decide) v) (by rw [e84]; exact ⟨rfl, K97, Va.eq f99 (by rw [hx0, hx1, hx2])⟩)
  · skip
    have hx0 := hw0.trans (if_pos (by decide))
    have hx1 := hw1.trans (if_pos (by decide))
    have hx2 := hw2.trans (if_neg (by decide))
    refine g_aloadN X0 hx (hb hby d5_0) (pc' := 1) rfl rfl rfl ?_
    obtain ⟨T100, X100, e100, st100⟩ := getF X0 hx hZ hown (host := "") (Or.inl (hw _ (List.mem_of_getElem? (i := 43) rfl))) (Via.of (hw _ (List.mem_of_getElem? (i := 30) rfl))) e0 F_units (g := (mkF m 1 #[.val (.ref a), .val (.int (2 : Int32)), .unset, .unset, .unset, .unset, .unset, .unset, .unset, .unset] [(.ref a)])) rfl rfl (hb hby d5_1)
    refine Go.movp st100 (mkF m 4 #[.val (.ref a), .val (.int (2 : Int32)), .unset, .unset, .unset, .unset, .unset, .unset, .unset, .unset] [(.ref uA)]) rfl ?_
    obtain ⟨T101, X101, e101, st101⟩ := castY X100 hx hZ hown (hw _ (List.mem_of_getElem? (i := 44) rfl)) e100 (Ins.self X_uA) (g := (mkF m 4 #[.val (.ref a), .val (.int (2 : Int32)), .unset, .unset, .unset, .unset, .unset, .unset, .unset, .unset] [(.ref uA)])) rfl rfl (hb hby d5_4)
    refine Go.movp st101 (mkF m 7 #[.val (.ref a), .val (.int (2 : Int32)), .unset, .unset, .unset, .unset, .unset, .unset, .unset, .unset] [(.ref uA)]) rfl ?_
    refine g_astoreN X101 hx (hb hby d5_7) (pc' := 8) rfl rfl (Ls' := #[.val (.ref a), .val (.int (2 : Int32)), .val (.ref uA), .unset, .unset, .unset, .unset, .unset, .unset, .unset]) rfl ?_
    refine g_aloadN X101 hx (hb hby d5_8) (pc' := 9) rfl rfl rfl ?_
    obtain ⟨T102, X102, e102, st102⟩ := getF X101 hx hZ hown (host := "") (Or.inl (hw _ (List.mem_of_getElem? (i := 46) rfl))) (Via.of (hw _ (List.mem_of_getElem? (i := 33) rfl))) e101 F_lasts (g := (mkF m 9 #[.val (.ref a), .val (.int (2 : Int32)), .val (.ref uA), .unset, .unset, .unset, .unset, .unset, .unset, .unset] [(.ref a)])) rfl rfl (hb hby d5_9)
    refine Go.movp st102 (mkF m 12 #[.val (.ref a), .val (.int (2 : Int32)), .val (.ref uA), .unset, .unset, .unset, .unset, .unset, .unset, .unset] [(.ref lA)]) rfl ?_
    obtain ⟨T103, X103, e103, st103⟩ := castY X102 hx hZ hown (hw _ (List.mem_of_getElem? (i := 44) rfl)) e102 (Ins.self X_lA) (g := (mkF m 12 #[.val (.ref a), .val (.int (2 : Int32)), .val (.ref uA), .unset, .unset, .unset, .unset, .unset, .unset, .unset] [(.ref lA)])) rfl rfl (hb hby d5_12)
    refine Go.movp st103 (mkF m 15 #[.val (.ref a), .val (.int (2 : Int32)), .val (.ref uA), .unset, .unset, .unset, .unset, .unset, .unset, .unset] [(.ref lA)]) rfl ?_
    refine g_astoreN X103 hx (hb hby d5_15) (pc' := 16) rfl rfl (Ls' := #[.val (.ref a), .val (.int (2 : Int32)), .val (.ref uA), .val (.ref lA), .unset, .unset, .unset, .unset, .unset, .unset]) rfl ?_
    refine g_aloadN X103 hx (hb hby d5_16) (pc' := 17) rfl rfl rfl ?_
    obtain ⟨T104, X104, e104, st104⟩ := getF X103 hx hZ hown (host := "") (Or.inl (hw _ (List.mem_of_getElem? (i := 47) rfl))) (Via.of (hw _ (List.mem_of_getElem? (i := 36) rfl))) e103 F_middles (g := (mkF m 17 #[.val (.ref a), .val (.int (2 : Int32)), .val (.ref uA), .val (.ref lA), .unset, .unset, .unset, .unset, .unset, .unset] [(.ref a)])) rfl rfl (hb hby d5_17)
    refine Go.movp st104 (mkF m 20 #[.val (.ref a), .val (.int (2 : Int32)), .val (.ref uA), .val (.ref lA), .unset, .unset, .unset, .unset, .unset, .unset] [(.ref mA)]) rfl ?_
    obtain ⟨T105, X105, e105, st105⟩ := castY X104 hx hZ hown (hw _ (List.mem_of_getElem? (i := 44) rfl)) e104 (Ins.self X_mA) (g := (mkF m 20 #[.val (.ref a), .val (.int (2 : Int32)), .val (.ref uA), .val (.ref lA), .unset, .unset, .unset, .unset, .unset, .unset] [(.ref mA)])) rfl rfl (hb hby d5_20)
    refine Go.movp st105 (mkF m 23 #[.val (.ref a), .val (.int (2 : Int32)), .val (.ref uA), .val (.ref lA), .unset, .unset, .unset, .unset, .unset, .unset] [(.ref mA)]) rfl ?_
    refine g_astore X105 hx (hb hby d5_23) (pc' := 25) rfl rfl (Ls' := #[.val (.ref a), .val (.int (2 : Int32)), .val (.ref uA), .val (.ref lA), .val (.ref mA), .unset, .unset, .unset, .unset, .unset]) rfl ?_
    refine g_aloadN X105 hx (hb hby d5_25) (pc' := 26) rfl rfl rfl ?_
    obtain ⟨T106, X106, e106, st106⟩ := getF X105 hx hZ hown (host := "") (Or.inl (hw _ (List.mem_of_getElem? (i := 48) rfl))) (Via.of (hw _ (List.mem_of_getElem? (i := 49) rfl))) e105 F_first (g := (mkF m 26 #[.val (.ref a), .val (.int (2 : Int32)), .val (.ref uA), .val (.ref lA), .val (.ref mA), .unset, .unset, .unset, .unset, .unset] [(.ref a)])) rfl rfl (hb hby d5_26)
    refine Go.movp st106 (mkF m 29 #[.val (.ref a), .val (.int (2 : Int32)), .val (.ref uA), .val (.ref lA), .val (.ref mA), .unset, .unset, .unset, .unset, .unset] [(.int f)]) rfl ?_
    refine g_istore X106 hx (hb hby d5_29) (pc' := 31) rfl (Ls' := #[.val (.ref a), .val (.int (2 : Int32)), .val (.ref uA), .val (.ref lA), .val (.ref mA), .val (.int f), .unset, .unset, .unset, .unset]) rfl ?_
    refine g_aloadN X106 hx (hb hby d5_31) (pc' := 32) rfl rfl rfl ?_
    obtain ⟨T107, X107, e107, st107⟩ := getF X106 hx hZ hown (host := "") (Or.inl (hw _ (List.mem_of_getElem? (i := 50) rfl))) (Via.of (hw _ (List.mem_of_getElem? (i := 51) rfl))) e106 F_last (g := (mkF m 32 #[.val (.ref a), .val (.int (2 : Int32)), .val (.ref uA), .val (.ref lA), .val (.ref mA), .val (.int f), .unset, .unset, .unset, .unset] [(.ref a)])) rfl rfl (hb hby d5_32)
    refine Go.movp st107 (mkF m 35 #[.val (.ref a), .val (.int (2 : Int32)), .val (.ref uA), .val (.ref lA), .val (.ref mA), .val (.int f), .unset, .unset, .unset, .unset] [(.int la)]) rfl ?_
    refine g_istore X107 hx (hb hby d5_35) (pc' := 37) rfl (Ls' := #[.val (.ref a), .val (.int (2 : Int32)), .val (.ref uA), .val (.ref lA), .val (.ref mA), .val (.int f), .val (.int la), .unset, .unset, .unset]) rfl ?_
    refine g_aloadN X107 hx (hb hby d5_37) (pc' := 38) rfl rfl rfl ?_
    obtain ⟨T108, X108, e108, st108⟩ := getF X107 hx hZ hown (host := "") (Or.inl (hw _ (List.mem_of_getElem? (i := 52) rfl))) (Via.of (hw _ (List.mem_of_getElem? (i := 53) rfl))) e107 F_middle (g := (mkF m 38 #[.val (.ref a), .val (.int (2 : Int32)), .val (.ref uA), .val (.ref lA), .val (.ref mA), .val (.int f), .val (.int la), .unset, .unset, .unset] [(.ref a)])) rfl rfl (hb hby d5_38)
    refine Go.movp st108 (mkF m 41 #[.val (.ref a), .val (.int (2 : Int32)), .val (.ref uA), .val (.ref lA), .val (.ref mA), .val (.int f), .val (.int la), .unset, .unset, .unset] [(.int mi)]) rfl ?_
    refine g_istore X108 hx (hb hby d5_41) (pc' := 43) rfl (Ls' := #[.val (.ref a), .val (.int (2 : Int32)), .val (.ref uA), .val (.ref lA), .val (.ref mA), .val (.int f), .val (.int la), .val (.int mi), .unset, .unset]) rfl ?_
    refine g_iconst X108 hx (hb hby d5_43) (pc' := 44) rfl (z := (0 : Int32)) rfl ?_
    refine g_istore X108 hx (hb hby d5_44) (pc' := 46) rfl (Ls' := #[.val (.ref a), .val (.int (2 : Int32)), .val (.ref uA), .val (.ref lA), .val (.ref mA), .val (.int f), .val (.int la), .val (.int mi), .val (.int (0 : Int32)), .unset]) rfl ?_
    refine g_iload X108 hx (hb hby d5_46) (pc' := 48) rfl rfl ?_
    refine g_iloadN X108 hx (hb hby d5_48) (pc' := 49) rfl rfl ?_
    refine g_icmp_ge X108 hx (hb hby d5_49) (pc1 := 52) rfl (by decide) (pc2 := 102) (by decide) (fun hc49 => absurd (by decide) hc49) (fun hc49 => ?_)
    refine g_aloadN X108 hx (hb hby d5_52) (pc' := 53) rfl rfl rfl ?_
    refine g_iload X108 hx (hb hby d5_53) (pc' := 55) rfl rfl ?_
    refine g_baload X108 hx hZ e108 V_uA (i := 0) (v := (.int u0)) (hb hby d5_55) (pc' := 56) rfl (by decide) rfl rfl ?_
    refine g_iload X108 hx (hb hby d5_56) (pc' := 58) rfl rfl ?_
    refine g_ixor X108 hx (hb hby d5_58) (pc' := 59) rfl ?_
    refine g_aloadN X108 hx (hb hby d5_59) (pc' := 60) rfl rfl rfl ?_
    refine g_iload X108 hx (hb hby d5_60) (pc' := 62) rfl rfl ?_
    refine g_baload X108 hx hZ e108 V_lA (i := 0) (v := (.int l0)) (hb hby d5_62) (pc' := 63) rfl (by decide) rfl rfl ?_
    refine g_iload X108 hx (hb hby d5_63) (pc' := 65) rfl rfl ?_
    refine g_ixor X108 hx (hb hby d5_65) (pc' := 66) rfl ?_
    refine g_ior X108 hx (hb hby d5_66) (pc' := 67) rfl ?_
    refine g_aload X108 hx (hb hby d5_67) (pc' := 69) rfl rfl rfl ?_
    refine g_iload X108 hx (hb hby d5_69) (pc' := 71) rfl rfl ?_
    refine g_baload X108 hx hZ e108 V_mA (i := 0) (v := (.int m0)) (hb hby d5_71) (pc' := 72) rfl (by decide) rfl rfl ?_
    refine g_iload X108 hx (hb hby d5_72) (pc' := 74) rfl rfl ?_
    refine g_ixor X108 hx (hb hby d5_74) (pc' := 75) rfl ?_
    refine g_ior X108 hx (hb hby d5_75) (pc' := 76) rfl ?_
    refine Go.cast (show (mkF m 76 #[.val (.ref a), .val (.int (2 : Int32)), .val (.ref uA), .val (.ref lA), .val (.ref mA), .val (.int f), .val (.int la), .val (.int mi), .val (.int (0 : Int32)), .unset] [(.int (((u0 ^^^ f) ||| (l0 ^^^ la)) ||| (m0 ^^^ mi)))]) = (mkF m 76 #[.val (.ref a), .val (.int (2 : Int32)), .val (.ref uA), .val (.ref lA), .val (.ref mA), .val (.int f), .val (.int la), .val (.int mi), .val (.int (0 : Int32)), .unset] [(.int (zV u0 l0 m0 f la mi))]) from by rw [show (((u0 ^^^ f) ||| (l0 ^^^ la)) ||| (m0 ^^^ mi)) = (zV u0 l0 m0 f la mi) from rfl]) ?_
    refine g_istore X108 hx (hb hby d5_76) (pc' := 78) rfl (Ls' := #[.val (.ref a), .val (.int (2 : Int32)), .val (.ref uA), .val (.ref lA), .val (.ref mA), .val (.int f), .val (.int la), .val (.int mi), .val (.int (0 : Int32)), .val (.int (zV u0 l0 m0 f la mi))]) rfl ?_
    refine g_aloadN X108 hx (hb hby d5_78) (pc' := 79) rfl rfl rfl ?_
    refine g_iload X108 hx (hb hby d5_79) (pc' := 81) rfl rfl ?_
    refine g_iload X108 hx (hb hby d5_81) (pc' := 83) rfl rfl ?_
    refine g_iconst X108 hx (hb hby d5_83) (pc' := 84) rfl (z := (1 : Int32)) rfl ?_
    refine g_isub X108 hx (hb hby d5_84) (pc' := 85) rfl ?_
    refine g_iload X108 hx (hb hby d5_85) (pc' := 87) rfl rfl ?_
    refine g_iconst X108 hx (hb hby d5_87) (pc' := 88) rfl (z := (-1 : Int32)) rfl ?_
    refine g_ixor X108 hx (hb hby d5_88) (pc' := 89) rfl ?_
    refine g_iand X108 hx (hb hby d5_89) (pc' := 90) rfl ?_
    refine g_sipush X108 hx (hb hby d5_90) (pc' := 93) rfl (z := (128 : Int32)) rfl ?_
    refine g_iand X108 hx (hb hby d5_93) (pc' := 94) rfl ?_
    refine g_i2b X108 hx (hb hby d5_94) (pc' := 95) rfl ?_
    refine Go.cast (show (mkF m 95 #[.val (.ref a), .val (.int (2 : Int32)), .val (.ref uA), .val (.ref lA), .val (.ref mA), .val (.int f), .val (.int la), .val (.int mi), .val (.int (0 : Int32)), .val (.int (zV u0 l0 m0 f la mi))] [(.int (byt ((((zV u0 l0 m0 f la mi) - (1 : Int32)) &&& ((zV u0 l0 m0 f la mi) ^^^ (-1 : Int32))) &&& (128 : Int32)))), (.int (0 : Int32)), (.ref uA)]) = (mkF m 95 #[.val (.ref a), .val (.int (2 : Int32)), .val (.ref uA), .val (.ref lA), .val (.ref mA), .val (.int f), .val (.int la), .val (.int mi), .val (.int (0 : Int32)), .val (.int (zV u0 l0 m0 f la mi))] [(.int (mkV u0 l0 m0 f la mi)), (.int (0 : Int32)), (.ref uA)]) from by rw [show (byt ((((zV u0 l0 m0 f la mi) - (1 : Int32)) &&& ((zV u0 l0 m0 f la mi) ^^^ (-1 : Int32))) &&& (128 : Int32))) = (mkV u0 l0 m0 f la mi) from rfl]) ?_
    obtain ⟨T109, h109, L109, X109, e109, N109, W109, V109, st109⟩ := h_bastore X108 hx hZ e108 N0 V_uA G1 (j := (0 : Int32)) (i := 0) (x := (mkV u0 l0 m0 f la mi)) (hb hby d5_95) (by decide) rfl rfl #[.val (.ref a), .val (.int (2 : Int32)), .val (.ref uA), .val (.ref lA), .val (.ref mA), .val (.int f), .val (.int la), .val (.int mi), .val (.int (0 : Int32)), .val (.int (zV u0 l0 m0 f la mi))] []
    have f110 := Fld.other W109 F_units (Or.inl ne_a)
    have f111 := Fld.other W109 F_lasts (Or.inl ne_a)
    have f112 := Fld.other W109 F_middles (Or.inl ne_a)
    have f113 := Fld.other W109 F_first (Or.inl ne_a)
    have f114 := Fld.other W109 F_last (Or.inl ne_a)
    have f115 := Fld.other W109 F_middle (Or.inl ne_a)
    have f116 := Exa.wr W109 X_uA
    have f117 := V_lA.other W109 ne_lA
    have f118 := Exa.wr W109 X_lA
    have f119 := V_mA.other W109 ne_mA
    have f120 := Exa.wr W109 X_mA
    have Z121 : n0 ≤ h109.size := Nat.le_trans Z0 (Keep.of_wr W109).1
    have K122 := (Keep.refl h0 [uA]).wr W109 (Or.inl (List.mem_of_getElem? (i := 0) rfl))
    have f123 : Va Z h109 uA .byte [(.int (byt (mkV u0 l0 m0 f la mi))), (.int u1), (.int u2)] := V109
    have f124 : Va Z h109 uA .byte [(.int (mkV u0 l0 m0 f la mi)), (.int u1), (.int u2)] := by rw [show (byt (mkV u0 l0 m0 f la mi)) = (mkV u0 l0 m0 f la mi) from byt_byt _] at f123; exact f123
    refine Go.movp st109 (mkF m 96 #[.val (.ref a), .val (.int (2 : Int32)), .val (.ref uA), .val (.ref lA), .val (.ref mA), .val (.int f), .val (.int la), .val (.int mi), .val (.int (0 : Int32)), .val (.int (zV u0 l0 m0 f la mi))] []) rfl ?_
    refine g_iinc X109 hx (hb hby d5_96) (pc' := 99) rfl rfl (z := (1 : Int32)) rfl (Ls' := #[.val (.ref a), .val (.int (2 : Int32)), .val (.ref uA), .val (.ref lA), .val (.ref mA), .val (.int f), .val (.int la), .val (.int mi), .val (.int (1 : Int32)), .val (.int (zV u0 l0 m0 f la mi))]) rfl ?_
    refine g_goto X109 hx (hb hby d5_99) (by decide) (pc' := 46) (by decide) ?_
    refine g_iload X109 hx (hb hby d5_46) (pc' := 48) rfl rfl ?_
    refine g_iloadN X109 hx (hb hby d5_48) (pc' := 49) rfl rfl ?_
    refine g_icmp_ge X109 hx (hb hby d5_49) (pc1 := 52) rfl (by decide) (pc2 := 102) (by decide) (fun hc49_1 => absurd (by decide) hc49_1) (fun hc49_1 => ?_)
    refine g_aloadN X109 hx (hb hby d5_52) (pc' := 53) rfl rfl rfl ?_
    refine g_iload X109 hx (hb hby d5_53) (pc' := 55) rfl rfl ?_
    refine g_baload X109 hx hZ e109 f124 (i := 1) (v := (.int u1)) (hb hby d5_55) (pc' := 56) rfl (by decide) rfl rfl ?_
    refine g_iload X109 hx (hb hby d5_56) (pc' := 58) rfl rfl ?_
    refine g_ixor X109 hx (hb hby d5_58) (pc' := 59) rfl ?_
    refine g_aloadN X109 hx (hb hby d5_59) (pc' := 60) rfl rfl rfl ?_
    refine g_iload X109 hx (hb hby d5_60) (pc' := 62) rfl rfl ?_
    refine g_baload X109 hx hZ e109 f117 (i := 1) (v := (.int l1)) (hb hby d5_62) (pc' := 63) rfl (by decide) rfl rfl ?_
    refine g_iload X109 hx (hb hby d5_63) (pc' := 65) rfl rfl ?_
    refine g_ixor X109 hx (hb hby d5_65) (pc' := 66) rfl ?_
    refine g_ior X109 hx (hb hby d5_66) (pc' := 67) rfl ?_
    refine g_aload X109 hx (hb hby d5_67) (pc' := 69) rfl rfl rfl ?_
    refine g_iload X109 hx (hb hby d5_69) (pc' := 71) rfl rfl ?_
    refine g_baload X109 hx hZ e109 f119 (i := 1) (v := (.int m1)) (hb hby d5_71) (pc' := 72) rfl (by decide) rfl rfl ?_
    refine g_iload X109 hx (hb hby d5_72) (pc' := 74) rfl rfl ?_
    refine g_ixor X109 hx (hb hby d5_74) (pc' := 75) rfl ?_
    refine g_ior X109 hx (hb hby d5_75) (pc' := 76) rfl ?_
    refine Go.cast (show (mkF m 76 #[.val (.ref a), .val (.int (2 : Int32)), .val (.ref uA), .val (.ref lA), .val (.ref mA), .val (.int f), .val (.int la), .val (.int mi), .val (.int (1 : Int32)), .val (.int (zV u0 l0 m0 f la mi))] [(.int (((u1 ^^^ f) ||| (l1 ^^^ la)) ||| (m1 ^^^ mi)))]) = (mkF m 76 #[.val (.ref a), .val (.int (2 : Int32)), .val (.ref uA), .val (.ref lA), .val (.ref mA), .val (.int f), .val (.int la), .val (.int mi), .val (.int (1 : Int32)), .val (.int (zV u0 l0 m0 f la mi))] [(.int (zV u1 l1 m1 f la mi))]) from by rw [show (((u1 ^^^ f) ||| (l1 ^^^ la)) ||| (m1 ^^^ mi)) = (zV u1 l1 m1 f la mi) from rfl]) ?_
    refine g_istore X109 hx (hb hby d5_76) (pc' := 78) rfl (Ls' := #[.val (.ref a), .val (.int (2 : Int32)), .val (.ref uA), .val (.ref lA), .val (.ref mA), .val (.int f), .val (.int la), .val (.int mi), .val (.int (1 : Int32)), .val (.int (zV u1 l1 m1 f la mi))]) rfl ?_
    refine g_aloadN X109 hx (hb hby d5_78) (pc' := 79) rfl rfl rfl ?_
    refine g_iload X109 hx (hb hby d5_79) (pc' := 81) rfl rfl ?_
    refine g_iload X109 hx (hb hby d5_81) (pc' := 83) rfl rfl ?_
    refine g_iconst X109 hx (hb hby d5_83) (pc' := 84) rfl (z := (1 : Int32)) rfl ?_
    refine g_isub X109 hx (hb hby d5_84) (pc' := 85) rfl ?_
    refine g_iload X109 hx (hb hby d5_85) (pc' := 87) rfl rfl ?_
    refine g_iconst X109 hx (hb hby d5_87) (pc' := 88) rfl (z := (-1 : Int32)) rfl ?_
    refine g_ixor X109 hx (hb hby d5_88) (pc' := 89) rfl ?_
    refine g_iand X109 hx (hb hby d5_89) (pc' := 90) rfl ?_
    refine g_sipush X109 hx (hb hby d5_90) (pc' := 93) rfl (z := (128 : Int32)) rfl ?_
    refine g_iand X109 hx (hb hby d5_93) (pc' := 94) rfl ?_
    refine g_i2b X109 hx (hb hby d5_94) (pc' := 95) rfl ?_
    refine Go.cast (show (mkF m 95 #[.val (.ref a), .val (.int (2 : Int32)), .val (.ref uA), .val (.ref lA), .val (.ref mA), .val (.int f), .val (.int la), .val (.int mi), .val (.int (1 : Int32)), .val (.int (zV u1 l1 m1 f la mi))] [(.int (byt ((((zV u1 l1 m1 f la mi) - (1 : Int32)) &&& ((zV u1 l1 m1 f la mi) ^^^ (-1 : Int32))) &&& (128 : Int32)))), (.int (1 : Int32)), (.ref uA)]) = (mkF m 95 #[.val (.ref a), .val (.int (2 : Int32)), .val (.ref uA), .val (.ref lA), .val (.ref mA), .val (.int f), .val (.int la), .val (.int mi), .val (.int (1 : Int32)), .val (.int (zV u1 l1 m1 f la mi))] [(.int (mkV u1 l1 m1 f la mi)), (.int (1 : Int32)), (.ref uA)]) from by rw [show (byt ((((zV u1 l1 m1 f la mi) - (1 : Int32)) &&& ((zV u1 l1 m1 f la mi) ^^^ (-1 : Int32))) &&& (128 : Int32))) = (mkV u1 l1 m1 f la mi) from rfl]) ?_
    obtain ⟨T125, h125, L125, X125, e125, N125, W125, V125, st125⟩ := h_bastore X109 hx hZ e109 N109 f124 G1 (j := (1 : Int32)) (i := 1) (x := (mkV u1 l1 m1 f la mi)) (hb hby d5_95) (by decide) rfl rfl #[.val (.ref a), .val (.int (2 : Int32)), .val (.ref uA), .val (.ref lA), .val (.ref mA), .val (.int f), .val (.int la), .val (.int mi), .val (.int (1 : Int32)), .val (.int (zV u1 l1 m1 f la mi))] []
    have f126 := Fld.other W125 f110 (Or.inl ne_a)
    have f127 := Fld.other W125 f111 (Or.inl ne_a)
    have f128 := Fld.other W125 f112 (Or.inl ne_a)
    have f129 := Fld.other W125 f113 (Or.inl ne_a)
    have f130 := Fld.other W125 f114 (Or.inl ne_a)
    have f131 := Fld.other W125 f115 (Or.inl ne_a)
    have f132 := Exa.wr W125 f116
    have f133 := f117.other W125 ne_lA
    have f134 := Exa.wr W125 f118
    have f135 := f119.other W125 ne_mA
    have f136 := Exa.wr W125 f120
    have Z137 : n0 ≤ h125.size := Nat.le_trans Z121 (Keep.of_wr W125).1
    have K138 := K122.wr W125 (Or.inl (List.mem_of_getElem? (i := 0) rfl))
    have f139 : Va Z h125 uA .byte [(.int (mkV u0 l0 m0 f la mi)), (.int (byt (mkV u1 l1 m1 f la mi))), (.int u2)] := V125
    have f140 : Va Z h125 uA .byte [(.int (mkV u0 l0 m0 f la mi)), (.int (mkV u1 l1 m1 f la mi)), (.int u2)] := by rw [show (byt (mkV u1 l1 m1 f la mi)) = (mkV u1 l1 m1 f la mi) from byt_byt _] at f139; exact f139
    refine Go.movp st125 (mkF m 96 #[.val (.ref a), .val (.int (2 : Int32)), .val (.ref uA), .val (.ref lA), .val (.ref mA), .val (.int f), .val (.int la), .val (.int mi), .val (.int (1 : Int32)), .val (.int (zV u1 l1 m1 f la mi))] []) rfl ?_
    refine g_iinc X125 hx (hb hby d5_96) (pc' := 99) rfl rfl (z := (1 : Int32)) rfl (Ls' := #[.val (.ref a), .val (.int (2 : Int32)), .val (.ref uA), .val (.ref lA), .val (.ref mA), .val (.int f), .val (.int la), .val (.int mi), .val (.int (2 : Int32)), .val (.int (zV u1 l1 m1 f la mi))]) rfl ?_
    refine g_goto X125 hx (hb hby d5_99) (by decide) (pc' := 46) (by decide) ?_
    refine g_iload X125 hx (hb hby d5_46) (pc' := 48) rfl rfl ?_
    refine g_iloadN X125 hx (hb hby d5_48) (pc' := 49) rfl rfl ?_
    refine g_icmp_ge X125 hx (hb hby d5_49) (pc1 := 52) rfl (by decide) (pc2 := 102) (by decide) (fun hc49_2 => ?_) (fun hc49_2 => absurd hc49_2 (by decide))
    exact g_return X125 hx hret (hb hby d5_102) N125 hlk (fun v t => endF (by decide) (by decide) v) (by rw [e125]; exact ⟨rfl, K138, Va.eq f140 (by rw [hx0, hx1, hx2])⟩)
  · skip
    have hx0 := hw0.trans (if_pos (by decide))
    have hx1 := hw1.trans (if_pos (by decide))
    have hx2 := hw2.trans (if_pos (by decide))
    refine g_aloadN X0 hx (hb hby d5_0) (pc' := 1) rfl rfl rfl ?_
    obtain ⟨T141, X141, e141, st141⟩ := getF X0 hx hZ hown (host := "") (Or.inl (hw _ (List.mem_of_getElem? (i := 43) rfl))) (Via.of (hw _ (List.mem_of_getElem? (i := 30) rfl))) e0 F_units (g := (mkF m 1 #[.val (.ref a), .val (.int (3 : Int32)), .unset, .unset, .unset, .unset, .unset, .unset, .unset, .unset] [(.ref a)])) rfl rfl (hb hby d5_1)
    refine Go.movp st141 (mkF m 4 #[.val (.ref a), .val (.int (3 : Int32)), .unset, .unset, .unset, .unset, .unset, .unset, .unset, .unset] [(.ref uA)]) rfl ?_
    obtain ⟨T142, X142, e142, st142⟩ := castY X141 hx hZ hown (hw _ (List.mem_of_getElem? (i := 44) rfl)) e141 (Ins.self X_uA) (g := (mkF m 4 #[.val (.ref a), .val (.int (3 : Int32)), .unset, .unset, .unset, .unset, .unset, .unset, .unset, .unset] [(.ref uA)])) rfl rfl (hb hby d5_4)
    refine Go.movp st142 (mkF m 7 #[.val (.ref a), .val (.int (3 : Int32)), .unset, .unset, .unset, .unset, .unset, .unset, .unset, .unset] [(.ref uA)]) rfl ?_
    refine g_astoreN X142 hx (hb hby d5_7) (pc' := 8) rfl rfl (Ls' := #[.val (.ref a), .val (.int (3 : Int32)), .val (.ref uA), .unset, .unset, .unset, .unset, .unset, .unset, .unset]) rfl ?_
    refine g_aloadN X142 hx (hb hby d5_8) (pc' := 9) rfl rfl rfl ?_
    obtain ⟨T143, X143, e143, st143⟩ := getF X142 hx hZ hown (host := "") (Or.inl (hw _ (List.mem_of_getElem? (i := 46) rfl))) (Via.of (hw _ (List.mem_of_getElem? (i := 33) rfl))) e142 F_lasts (g := (mkF m 9 #[.val (.ref a), .val (.int (3 : Int32)), .val (.ref uA), .unset, .unset, .unset, .unset, .unset, .unset, .unset] [(.ref a)])) rfl rfl (hb hby d5_9)
    refine Go.movp st143 (mkF m 12 #[.val (.ref a), .val (.int (3 : Int32)), .val (.ref uA), .unset, .unset, .unset, .unset, .unset, .unset, .unset] [(.ref lA)]) rfl ?_
    obtain ⟨T144, X144, e144, st144⟩ := castY X143 hx hZ hown (hw _ (List.mem_of_getElem? (i := 44) rfl)) e143 (Ins.self X_lA) (g := (mkF m 12 #[.val (.ref a), .val (.int (3 : Int32)), .val (.ref uA), .unset, .unset, .unset, .unset, .unset, .unset, .unset] [(.ref lA)])) rfl rfl (hb hby d5_12)
    refine Go.movp st144 (mkF m 15 #[.val (.ref a), .val (.int (3 : Int32)), .val (.ref uA), .unset, .unset, .unset, .unset, .unset, .unset, .unset] [(.ref lA)]) rfl ?_
    refine g_astoreN X144 hx (hb hby d5_15) (pc' := 16) rfl rfl (Ls' := #[.val (.ref a), .val (.int (3 : Int32)), .val (.ref uA), .val (.ref lA), .unset, .unset, .unset, .unset, .unset, .unset]) rfl ?_
    refine g_aloadN X144 hx (hb hby d5_16) (pc' := 17) rfl rfl rfl ?_
    obtain ⟨T145, X145, e145, st145⟩ := getF X144 hx hZ hown (host := "") (Or.inl (hw _ (List.mem_of_getElem? (i := 47) rfl))) (Via.of (hw _ (List.mem_of_getElem? (i := 36) rfl))) e144 F_middles (g := (mkF m 17 #[.val (.ref a), .val (.int (3 : Int32)), .val (.ref uA), .val (.ref lA), .unset, .unset, .unset, .unset, .unset, .unset] [(.ref a)])) rfl rfl (hb hby d5_17)
    refine Go.movp st145 (mkF m 20 #[.val (.ref a), .val (.int (3 : Int32)), .val (.ref uA), .val (.ref lA), .unset, .unset, .unset, .unset, .unset, .unset] [(.ref mA)]) rfl ?_
    obtain ⟨T146, X146, e146, st146⟩ := castY X145 hx hZ hown (hw _ (List.mem_of_getElem? (i := 44) rfl)) e145 (Ins.self X_mA) (g := (mkF m 20 #[.val (.ref a), .val (.int (3 : Int32)), .val (.ref uA), .val (.ref lA), .unset, .unset, .unset, .unset, .unset, .unset] [(.ref mA)])) rfl rfl (hb hby d5_20)
    refine Go.movp st146 (mkF m 23 #[.val (.ref a), .val (.int (3 : Int32)), .val (.ref uA), .val (.ref lA), .unset, .unset, .unset, .unset, .unset, .unset] [(.ref mA)]) rfl ?_
    refine g_astore X146 hx (hb hby d5_23) (pc' := 25) rfl rfl (Ls' := #[.val (.ref a), .val (.int (3 : Int32)), .val (.ref uA), .val (.ref lA), .val (.ref mA), .unset, .unset, .unset, .unset, .unset]) rfl ?_
    refine g_aloadN X146 hx (hb hby d5_25) (pc' := 26) rfl rfl rfl ?_
    obtain ⟨T147, X147, e147, st147⟩ := getF X146 hx hZ hown (host := "") (Or.inl (hw _ (List.mem_of_getElem? (i := 48) rfl))) (Via.of (hw _ (List.mem_of_getElem? (i := 49) rfl))) e146 F_first (g := (mkF m 26 #[.val (.ref a), .val (.int (3 : Int32)), .val (.ref uA), .val (.ref lA), .val (.ref mA), .unset, .unset, .unset, .unset, .unset] [(.ref a)])) rfl rfl (hb hby d5_26)
    refine Go.movp st147 (mkF m 29 #[.val (.ref a), .val (.int (3 : Int32)), .val (.ref uA), .val (.ref lA), .val (.ref mA), .unset, .unset, .unset, .unset, .unset] [(.int f)]) rfl ?_
    refine g_istore X147 hx (hb hby d5_29) (pc' := 31) rfl (Ls' := #[.val (.ref a), .val (.int (3 : Int32)), .val (.ref uA), .val (.ref lA), .val (.ref mA), .val (.int f), .unset, .unset, .unset, .unset]) rfl ?_
    refine g_aloadN X147 hx (hb hby d5_31) (pc' := 32) rfl rfl rfl ?_
    obtain ⟨T148, X148, e148, st148⟩ := getF X147 hx hZ hown (host := "") (Or.inl (hw _ (List.mem_of_getElem? (i := 50) rfl))) (Via.of (hw _ (List.mem_of_getElem? (i := 51) rfl))) e147 F_last (g := (mkF m 32 #[.val (.ref a), .val (.int (3 : Int32)), .val (.ref uA), .val (.ref lA), .val (.ref mA), .val (.int f), .unset, .unset, .unset, .unset] [(.ref a)])) rfl rfl (hb hby d5_32)
    refine Go.movp st148 (mkF m 35 #[.val (.ref a), .val (.int (3 : Int32)), .val (.ref uA), .val (.ref lA), .val (.ref mA), .val (.int f), .unset, .unset, .unset, .unset] [(.int la)]) rfl ?_
    refine g_istore X148 hx (hb hby d5_35) (pc' := 37) rfl (Ls' := #[.val (.ref a), .val (.int (3 : Int32)), .val (.ref uA), .val (.ref lA), .val (.ref mA), .val (.int f), .val (.int la), .unset, .unset, .unset]) rfl ?_
    refine g_aloadN X148 hx (hb hby d5_37) (pc' := 38) rfl rfl rfl ?_
    obtain ⟨T149, X149, e149, st149⟩ := getF X148 hx hZ hown (host := "") (Or.inl (hw _ (List.mem_of_getElem? (i := 52) rfl))) (Via.of (hw _ (List.mem_of_getElem? (i := 53) rfl))) e148 F_middle (g := (mkF m 38 #[.val (.ref a), .val (.int (3 : Int32)), .val (.ref uA), .val (.ref lA), .val (.ref mA), .val (.int f), .val (.int la), .unset, .unset, .unset] [(.ref a)])) rfl rfl (hb hby d5_38)
    refine Go.movp st149 (mkF m 41 #[.val (.ref a), .val (.int (3 : Int32)), .val (.ref uA), .val (.ref lA), .val (.ref mA), .val (.int f), .val (.int la), .unset, .unset, .unset] [(.int mi)]) rfl ?_
    refine g_istore X149 hx (hb hby d5_41) (pc' := 43) rfl (Ls' := #[.val (.ref a), .val (.int (3 : Int32)), .val (.ref uA), .val (.ref lA), .val (.ref mA), .val (.int f), .val (.int la), .val (.int mi), .unset, .unset]) rfl ?_
    refine g_iconst X149 hx (hb hby d5_43) (pc' := 44) rfl (z := (0 : Int32)) rfl ?_
    refine g_istore X149 hx (hb hby d5_44) (pc' := 46) rfl (Ls' := #[.val (.ref a), .val (.int (3 : Int32)), .val (.ref uA), .val (.ref lA), .val (.ref mA), .val (.int f), .val (.int la), .val (.int mi), .val (.int (0 : Int32)), .unset]) rfl ?_
    refine g_iload X149 hx (hb hby d5_46) (pc' := 48) rfl rfl ?_
    refine g_iloadN X149 hx (hb hby d5_48) (pc' := 49) rfl rfl ?_
    refine g_icmp_ge X149 hx (hb hby d5_49) (pc1 := 52) rfl (by decide) (pc2 := 102) (by decide) (fun hc49 => absurd (by decide) hc49) (fun hc49 => ?_)
    refine g_aloadN X149 hx (hb hby d5_52) (pc' := 53) rfl rfl rfl ?_
    refine g_iload X149 hx (hb hby d5_53) (pc' := 55) rfl rfl ?_
    refine g_baload X149 hx hZ e149 V_uA (i := 0) (v := (.int u0)) (hb hby d5_55) (pc' := 56) rfl (by decide) rfl rfl ?_
    refine g_iload X149 hx (hb hby d5_56) (pc' := 58) rfl rfl ?_
    refine g_ixor X149 hx (hb hby d5_58) (pc' := 59) rfl ?_
    refine g_aloadN X149 hx (hb hby d5_59) (pc' := 60) rfl rfl rfl ?_
    refine g_iload X149 hx (hb hby d5_60) (pc' := 62) rfl rfl ?_
    refine g_baload X149 hx hZ e149 V_lA (i := 0) (v := (.int l0)) (hb hby d5_62) (pc' := 63) rfl (by decide) rfl rfl ?_
    refine g_iload X149 hx (hb hby d5_63) (pc' := 65) rfl rfl ?_
    refine g_ixor X149 hx (hb hby d5_65) (pc' := 66) rfl ?_
    refine g_ior X149 hx (hb hby d5_66) (pc' := 67) rfl ?_
    refine g_aload X149 hx (hb hby d5_67) (pc' := 69) rfl rfl rfl ?_
    refine g_iload X149 hx (hb hby d5_69) (pc' := 71) rfl rfl ?_
    refine g_baload X149 hx hZ e149 V_mA (i := 0) (v := (.int m0)) (hb hby d5_71) (pc' := 72) rfl (by decide) rfl rfl ?_
    refine g_iload X149 hx (hb hby d5_72) (pc' := 74) rfl rfl ?_
    refine g_ixor X149 hx (hb hby d5_74) (pc' := 75) rfl ?_
    refine g_ior X149 hx (hb hby d5_75) (pc' := 76) rfl ?_
    refine Go.cast (show (mkF m 76 #[.val (.ref a), .val (.int (3 : Int32)), .val (.ref uA), .val (.ref lA), .val (.ref mA), .val (.int f), .val (.int la), .val (.int mi), .val (.int (0 : Int32)), .unset] [(.int (((u0 ^^^ f) ||| (l0 ^^^ la)) ||| (m0 ^^^ mi)))]) = (mkF m 76 #[.val (.ref a), .val (.int (3 : Int32)), .val (.ref uA), .val (.ref lA), .val (.ref mA), .val (.int f), .val (.int la), .val (.int mi), .val (.int (0 : Int32)), .unset] [(.int (zV u0 l0 m0 f la mi))]) from by rw [show (((u0 ^^^ f) ||| (l0 ^^^ la)) ||| (m0 ^^^ mi)) = (zV u0 l0 m0 f la mi) from rfl]) ?_
    refine g_istore X149 hx (hb hby d5_76) (pc' := 78) rfl (Ls' := #[.val (.ref a), .val (.int (3 : Int32)), .val (.ref uA), .val (.ref lA), .val (.ref mA), .val (.int f), .val (.int la), .val (.int mi), .val (.int (0 : Int32)), .val (.int (zV u0 l0 m0 f la mi))]) rfl ?_
    refine g_aloadN X149 hx (hb hby d5_78) (pc' := 79) rfl rfl rfl ?_
    refine g_iload X149 hx (hb hby d5_79) (pc' := 81) rfl rfl ?_
    refine g_iload X149 hx (hb hby d5_81) (pc' := 83) rfl rfl ?_
    refine g_iconst X149 hx (hb hby d5_83) (pc' := 84) rfl (z := (1 : Int32)) rfl ?_
    refine g_isub X149 hx (hb hby d5_84) (pc' := 85) rfl ?_
    refine g_iload X149 hx (hb hby d5_85) (pc' := 87) rfl rfl ?_
    refine g_iconst X149 hx (hb hby d5_87) (pc' := 88) rfl (z := (-1 : Int32)) rfl ?_
    refine g_ixor X149 hx (hb hby d5_88) (pc' := 89) rfl ?_
    refine g_iand X149 hx (hb hby d5_89) (pc' := 90) rfl ?_
    refine g_sipush X149 hx (hb hby d5_90) (pc' := 93) rfl (z := (128 : Int32)) rfl ?_
    refine g_iand X149 hx (hb hby d5_93) (pc' := 94) rfl ?_
    refine g_i2b X149 hx (hb hby d5_94) (pc' := 95) rfl ?_
    refine Go.cast (show (mkF m 95 #[.val (.ref a), .val (.int (3 : Int32)), .val (.ref uA), .val (.ref lA), .val (.ref mA), .val (.int f), .val (.int la), .val (.int mi), .val (.int (0 : Int32)), .val (.int (zV u0 l0 m0 f la mi))] [(.int (byt ((((zV u0 l0 m0 f la mi) - (1 : Int32)) &&& ((zV u0 l0 m0 f la mi) ^^^ (-1 : Int32))) &&& (128 : Int32)))), (.int (0 : Int32)), (.ref uA)]) = (mkF m 95 #[.val (.ref a), .val (.int (3 : Int32)), .val (.ref uA), .val (.ref lA), .val (.ref mA), .val (.int f), .val (.int la), .val (.int mi), .val (.int (0 : Int32)), .val (.int (zV u0 l0 m0 f la mi))] [(.int (mkV u0 l0 m0 f la mi)), (.int (0 : Int32)), (.ref uA)]) from by rw [show (byt ((((zV u0 l0 m0 f la mi) - (1 : Int32)) &&& ((zV u0 l0 m0 f la mi) ^^^ (-1 : Int32))) &&& (128 : Int32))) = (mkV u0 l0 m0 f la mi) from rfl]) ?_
    obtain ⟨T150, h150, L150, X150, e150, N150, W150, V150, st150⟩ := h_bastore X149 hx hZ e149 N0 V_uA G1 (j := (0 : Int32)) (i := 0) (x := (mkV u0 l0 m0 f la mi)) (hb hby d5_95) (by decide) rfl rfl #[.val (.ref a), .val (.int (3 : Int32)), .val (.ref uA), .val (.ref lA), .val (.ref mA), .val (.int f), .val (.int la), .val (.int mi), .val (.int (0 : Int32)), .val (.int (zV u0 l0 m0 f la mi))] []
    have f151 := Fld.other W150 F_units (Or.inl ne_a)
    have f152 := Fld.other W150 F_lasts (Or.inl ne_a)
    have f153 := Fld.other W150 F_middles (Or.inl ne_a)
    have f154 := Fld.other W150 F_first (Or.inl ne_a)
    have f155 := Fld.other W150 F_last (Or.inl ne_a)
    have f156 := Fld.other W150 F_middle (Or.inl ne_a)
    have f157 := Exa.wr W150 X_uA
    have f158 := V_lA.other W150 ne_lA
    have f159 := Exa.wr W150 X_lA
    have f160 := V_mA.other W150 ne_mA
    have f161 := Exa.wr W150 X_mA
    have Z162 : n0 ≤ h150.size := Nat.le_trans Z0 (Keep.of_wr W150).1
    have K163 := (Keep.refl h0 [uA]).wr W150 (Or.inl (List.mem_of_getElem? (i := 0) rfl))
    have f164 : Va Z h150 uA .byte [(.int (byt (mkV u0 l0 m0 f la mi))), (.int u1), (.int u2)] := V150
    have f165 : Va Z h150 uA .byte [(.int (mkV u0 l0 m0 f la mi)), (.int u1), (.int u2)] := by rw [show (byt (mkV u0 l0 m0 f la mi)) = (mkV u0 l0 m0 f la mi) from byt_byt _] at f164; exact f164
    refine Go.movp st150 (mkF m 96 #[.val (.ref a), .val (.int (3 : Int32)), .val (.ref uA), .val (.ref lA), .val (.ref mA), .val (.int f), .val (.int la), .val (.int mi), .val (.int (0 : Int32)), .val (.int (zV u0 l0 m0 f la mi))] []) rfl ?_
    refine g_iinc X150 hx (hb hby d5_96) (pc' := 99) rfl rfl (z := (1 : Int32)) rfl (Ls' := #[.val (.ref a), .val (.int (3 : Int32)), .val (.ref uA), .val (.ref lA), .val (.ref mA), .val (.int f), .val (.int la), .val (.int mi), .val (.int (1 : Int32)), .val (.int (zV u0 l0 m0 f la mi))]) rfl ?_
    refine g_goto X150 hx (hb hby d5_99) (by decide) (pc' := 46) (by decide) ?_
    refine g_iload X150 hx (hb hby d5_46) (pc' := 48) rfl rfl ?_
    refine g_iloadN X150 hx (hb hby d5_48) (pc' := 49) rfl rfl ?_
    refine g_icmp_ge X150 hx (hb hby d5_49) (pc1 := 52) rfl (by decide) (pc2 := 102) (by decide) (fun hc49_1 => absurd (by decide) hc49_1) (fun hc49_1 => ?_)
    refine g_aloadN X150 hx (hb hby d5_52) (pc' := 53) rfl rfl rfl ?_
    refine g_iload X150 hx (hb hby d5_53) (pc' := 55) rfl rfl ?_
    refine g_baload X150 hx hZ e150 f165 (i := 1) (v := (.int u1)) (hb hby d5_55) (pc' := 56) rfl (by decide) rfl rfl ?_
    refine g_iload X150 hx (hb hby d5_56) (pc' := 58) rfl rfl ?_
    refine g_ixor X150 hx (hb hby d5_58) (pc' := 59) rfl ?_
    refine g_aloadN X150 hx (hb hby d5_59) (pc' := 60) rfl rfl rfl ?_
    refine g_iload X150 hx (hb hby d5_60) (pc' := 62) rfl rfl ?_
    refine g_baload X150 hx hZ e150 f158 (i := 1) (v := (.int l1)) (hb hby d5_62) (pc' := 63) rfl (by decide) rfl rfl ?_
    refine g_iload X150 hx (hb hby d5_63) (pc' := 65) rfl rfl ?_
    refine g_ixor X150 hx (hb hby d5_65) (pc' := 66) rfl ?_
    refine g_ior X150 hx (hb hby d5_66) (pc' := 67) rfl ?_
    refine g_aload X150 hx (hb hby d5_67) (pc' := 69) rfl rfl rfl ?_
    refine g_iload X150 hx (hb hby d5_69) (pc' := 71) rfl rfl ?_
    refine g_baload X150 hx hZ e150 f160 (i := 1) (v := (.int m1)) (hb hby d5_71) (pc' := 72) rfl (by decide) rfl rfl ?_
    refine g_iload X150 hx (hb hby d5_72) (pc' := 74) rfl rfl ?_
    refine g_ixor X150 hx (hb hby d5_74) (pc' := 75) rfl ?_
    refine g_ior X150 hx (hb hby d5_75) (pc' := 76) rfl ?_
    refine Go.cast (show (mkF m 76 #[.val (.ref a), .val (.int (3 : Int32)), .val (.ref uA), .val (.ref lA), .val (.ref mA), .val (.int f), .val (.int la), .val (.int mi), .val (.int (1 : Int32)), .val (.int (zV u0 l0 m0 f la mi))] [(.int (((u1 ^^^ f) ||| (l1 ^^^ la)) ||| (m1 ^^^ mi)))]) = (mkF m 76 #[.val (.ref a), .val (.int (3 : Int32)), .val (.ref uA), .val (.ref lA), .val (.ref mA), .val (.int f), .val (.int la), .val (.int mi), .val (.int (1 : Int32)), .val (.int (zV u0 l0 m0 f la mi))] [(.int (zV u1 l1 m1 f la mi))]) from by rw [show (((u1 ^^^ f) ||| (l1 ^^^ la)) ||| (m1 ^^^ mi)) = (zV u1 l1 m1 f la mi) from rfl]) ?_
    refine g_istore X150 hx (hb hby d5_76) (pc' := 78) rfl (Ls' := #[.val (.ref a), .val (.int (3 : Int32)), .val (.ref uA), .val (.ref lA), .val (.ref mA), .val (.int f), .val (.int la), .val (.int mi), .val (.int (1 : Int32)), .val (.int (zV u1 l1 m1 f la mi))]) rfl ?_
    refine g_aloadN X150 hx (hb hby d5_78) (pc' := 79) rfl rfl rfl ?_
    refine g_iload X150 hx (hb hby d5_79) (pc' := 81) rfl rfl ?_
    refine g_iload X150 hx (hb hby d5_81) (pc' := 83) rfl rfl ?_
    refine g_iconst X150 hx (hb hby d5_83) (pc' := 84) rfl (z := (1 : Int32)) rfl ?_
    refine g_isub X150 hx (hb hby d5_84) (pc' := 85) rfl ?_
    refine g_iload X150 hx (hb hby d5_85) (pc' := 87) rfl rfl ?_
    refine g_iconst X150 hx (hb hby d5_87) (pc' := 88) rfl (z := (-1 : Int32)) rfl ?_
    refine g_ixor X150 hx (hb hby d5_88) (pc' := 89) rfl ?_
    refine g_iand X150 hx (hb hby d5_89) (pc' := 90) rfl ?_
    refine g_sipush X150 hx (hb hby d5_90) (pc' := 93) rfl (z := (128 : Int32)) rfl ?_
    refine g_iand X150 hx (hb hby d5_93) (pc' := 94) rfl ?_
    refine g_i2b X150 hx (hb hby d5_94) (pc' := 95) rfl ?_
    refine Go.cast (show (mkF m 95 #[.val (.ref a), .val (.int (3 : Int32)), .val (.ref uA), .val (.ref lA), .val (.ref mA), .val (.int f), .val (.int la), .val (.int mi), .val (.int (1 : Int32)), .val (.int (zV u1 l1 m1 f la mi))] [(.int (byt ((((zV u1 l1 m1 f la mi) - (1 : Int32)) &&& ((zV u1 l1 m1 f la mi) ^^^ (-1 : Int32))) &&& (128 : Int32)))), (.int (1 : Int32)), (.ref uA)]) = (mkF m 95 #[.val (.ref a), .val (.int (3 : Int32)), .val (.ref uA), .val (.ref lA), .val (.ref mA), .val (.int f), .val (.int la), .val (.int mi), .val (.int (1 : Int32)), .val (.int (zV u1 l1 m1 f la mi))] [(.int (mkV u1 l1 m1 f la mi)), (.int (1 : Int32)), (.ref uA)]) from by rw [show (byt ((((zV u1 l1 m1 f la mi) - (1 : Int32)) &&& ((zV u1 l1 m1 f la mi) ^^^ (-1 : Int32))) &&& (128 : Int32))) = (mkV u1 l1 m1 f la mi) from rfl]) ?_
    obtain ⟨T166, h166, L166, X166, e166, N166, W166, V166, st166⟩ := h_bastore X150 hx hZ e150 N150 f165 G1 (j := (1 : Int32)) (i := 1) (x := (mkV u1 l1 m1 f la mi)) (hb hby d5_95) (by decide) rfl rfl #[.val (.ref a), .val (.int (3 : Int32)), .val (.ref uA), .val (.ref lA), .val (.ref mA), .val (.int f), .val (.int la), .val (.int mi), .val (.int (1 : Int32)), .val (.int (zV u1 l1 m1 f la mi))] []
    have f167 := Fld.other W166 f151 (Or.inl ne_a)
    have f168 := Fld.other W166 f152 (Or.inl ne_a)
    have f169 := Fld.other W166 f153 (Or.inl ne_a)
    have f170 := Fld.other W166 f154 (Or.inl ne_a)
    have f171 := Fld.other W166 f155 (Or.inl ne_a)
    have f172 := Fld.other W166 f156 (Or.inl ne_a)
    have f173 := Exa.wr W166 f157
    have f174 := f158.other W166 ne_lA
    have f175 := Exa.wr W166 f159
    have f176 := f160.other W166 ne_mA
    have f177 := Exa.wr W166 f161
    have Z178 : n0 ≤ h166.size := Nat.le_trans Z162 (Keep.of_wr W166).1
    have K179 := K163.wr W166 (Or.inl (List.mem_of_getElem? (i := 0) rfl))
    have f180 : Va Z h166 uA .byte [(.int (mkV u0 l0 m0 f la mi)), (.int (byt (mkV u1 l1 m1 f la mi))), (.int u2)] := V166
    have f181 : Va Z h166 uA .byte [(.int (mkV u0 l0 m0 f la mi)), (.int (mkV u1 l1 m1 f la mi)), (.int u2)] := by rw [show (byt (mkV u1 l1 m1 f la mi)) = (mkV u1 l1 m1 f la mi) from byt_byt _] at f180; exact f180
    refine Go.movp st166 (mkF m 96 #[.val (.ref a), .val (.int (3 : Int32)), .val (.ref uA), .val (.ref lA), .val (.ref mA), .val (.int f), .val (.int la), .val (.int mi), .val (.int (1 : Int32)), .val (.int (zV u1 l1 m1 f la mi))] []) rfl ?_
    refine g_iinc X166 hx (hb hby d5_96) (pc' := 99) rfl rfl (z := (1 : Int32)) rfl (Ls' := #[.val (.ref a), .val (.int (3 : Int32)), .val (.ref uA), .val (.ref lA), .val (.ref mA), .val (.int f), .val (.int la), .val (.int mi), .val (.int (2 : Int32)), .val (.int (zV u1 l1 m1 f la mi))]) rfl ?_
    refine g_goto X166 hx (hb hby d5_99) (by decide) (pc' := 46) (by decide) ?_
    refine g_iload X166 hx (hb hby d5_46) (pc' := 48) rfl rfl ?_
    refine g_iloadN X166 hx (hb hby d5_48) (pc' := 49) rfl rfl ?_
    refine g_icmp_ge X166 hx (hb hby d5_49) (pc1 := 52) rfl (by decide) (pc2 := 102) (by decide) (fun hc49_2 => absurd (by decide) hc49_2) (fun hc49_2 => ?_)
    refine g_aloadN X166 hx (hb hby d5_52) (pc' := 53) rfl rfl rfl ?_
    refine g_iload X166 hx (hb hby d5_53) (pc' := 55) rfl rfl ?_
    refine g_baload X166 hx hZ e166 f181 (i := 2) (v := (.int u2)) (hb hby d5_55) (pc' := 56) rfl (by decide) rfl rfl ?_
    refine g_iload X166 hx (hb hby d5_56) (pc' := 58) rfl rfl ?_
    refine g_ixor X166 hx (hb hby d5_58) (pc' := 59) rfl ?_
    refine g_aloadN X166 hx (hb hby d5_59) (pc' := 60) rfl rfl rfl ?_
    refine g_iload X166 hx (hb hby d5_60) (pc' := 62) rfl rfl ?_
    refine g_baload X166 hx hZ e166 f174 (i := 2) (v := (.int l2)) (hb hby d5_62) (pc' := 63) rfl (by decide) rfl rfl ?_
    refine g_iload X166 hx (hb hby d5_63) (pc' := 65) rfl rfl ?_
    refine g_ixor X166 hx (hb hby d5_65) (pc' := 66) rfl ?_
    refine g_ior X166 hx (hb hby d5_66) (pc' := 67) rfl ?_
    refine g_aload X166 hx (hb hby d5_67) (pc' := 69) rfl rfl rfl ?_
    refine g_iload X166 hx (hb hby d5_69) (pc' := 71) rfl rfl ?_
    refine g_baload X166 hx hZ e166 f176 (i := 2) (v := (.int m2)) (hb hby d5_71) (pc' := 72) rfl (by decide) rfl rfl ?_
    refine g_iload X166 hx (hb hby d5_72) (pc' := 74) rfl rfl ?_
    refine g_ixor X166 hx (hb hby d5_74) (pc' := 75) rfl ?_
    refine g_ior X166 hx (hb hby d5_75) (pc' := 76) rfl ?_
    refine Go.cast (show (mkF m 76 #[.val (.ref a), .val (.int (3 : Int32)), .val (.ref uA), .val (.ref lA), .val (.ref mA), .val (.int f), .val (.int la), .val (.int mi), .val (.int (2 : Int32)), .val (.int (zV u1 l1 m1 f la mi))] [(.int (((u2 ^^^ f) ||| (l2 ^^^ la)) ||| (m2 ^^^ mi)))]) = (mkF m 76 #[.val (.ref a), .val (.int (3 : Int32)), .val (.ref uA), .val (.ref lA), .val (.ref mA), .val (.int f), .val (.int la), .val (.int mi), .val (.int (2 : Int32)), .val (.int (zV u1 l1 m1 f la mi))] [(.int (zV u2 l2 m2 f la mi))]) from by rw [show (((u2 ^^^ f) ||| (l2 ^^^ la)) ||| (m2 ^^^ mi)) = (zV u2 l2 m2 f la mi) from rfl]) ?_
    refine g_istore X166 hx (hb hby d5_76) (pc' := 78) rfl (Ls' := #[.val (.ref a), .val (.int (3 : Int32)), .val (.ref uA), .val (.ref lA), .val (.ref mA), .val (.int f), .val (.int la), .val (.int mi), .val (.int (2 : Int32)), .val (.int (zV u2 l2 m2 f la mi))]) rfl ?_
    refine g_aloadN X166 hx (hb hby d5_78) (pc' := 79) rfl rfl rfl ?_
    refine g_iload X166 hx (hb hby d5_79) (pc' := 81) rfl rfl ?_
    refine g_iload X166 hx (hb hby d5_81) (pc' := 83) rfl rfl ?_
    refine g_iconst X166 hx (hb hby d5_83) (pc' := 84) rfl (z := (1 : Int32)) rfl ?_
    refine g_isub X166 hx (hb hby d5_84) (pc' := 85) rfl ?_
    refine g_iload X166 hx (hb hby d5_85) (pc' := 87) rfl rfl ?_
    refine g_iconst X166 hx (hb hby d5_87) (pc' := 88) rfl (z := (-1 : Int32)) rfl ?_
    refine g_ixor X166 hx (hb hby d5_88) (pc' := 89) rfl ?_
    refine g_iand X166 hx (hb hby d5_89) (pc' := 90) rfl ?_
    refine g_sipush X166 hx (hb hby d5_90) (pc' := 93) rfl (z := (128 : Int32)) rfl ?_
    refine g_iand X166 hx (hb hby d5_93) (pc' := 94) rfl ?_
    refine g_i2b X166 hx (hb hby d5_94) (pc' := 95) rfl ?_
    refine Go.cast (show (mkF m 95 #[.val (.ref a), .val (.int (3 : Int32)), .val (.ref uA), .val (.ref lA), .val (.ref mA), .val (.int f), .val (.int la), .val (.int mi), .val (.int (2 : Int32)), .val (.int (zV u2 l2 m2 f la mi))] [(.int (byt ((((zV u2 l2 m2 f la mi) - (1 : Int32)) &&& ((zV u2 l2 m2 f la mi) ^^^ (-1 : Int32))) &&& (128 : Int32)))), (.int (2 : Int32)), (.ref uA)]) = (mkF m 95 #[.val (.ref a), .val (.int (3 : Int32)), .val (.ref uA), .val (.ref lA), .val (.ref mA), .val (.int f), .val (.int la), .val (.int mi), .val (.int (2 : Int32)), .val (.int (zV u2 l2 m2 f la mi))] [(.int (mkV u2 l2 m2 f la mi)), (.int (2 : Int32)), (.ref uA)]) from by rw [show (byt ((((zV u2 l2 m2 f la mi) - (1 : Int32)) &&& ((zV u2 l2 m2 f la mi) ^^^ (-1 : Int32))) &&& (128 : Int32))) = (mkV u2 l2 m2 f la mi) from rfl]) ?_
    obtain ⟨T182, h182, L182, X182, e182, N182, W182, V182, st182⟩ := h_bastore X166 hx hZ e166 N166 f181 G1 (j := (2 : Int32)) (i := 2) (x := (mkV u2 l2 m2 f la mi)) (hb hby d5_95) (by decide) rfl rfl #[.val (.ref a), .val (.int (3 : Int32)), .val (.ref uA), .val (.ref lA), .val (.ref mA), .val (.int f), .val (.int la), .val (.int mi), .val (.int (2 : Int32)), .val (.int (zV u2 l2 m2 f la mi))] []
    have f183 := Fld.other W182 f167 (Or.inl ne_a)
    have f184 := Fld.other W182 f168 (Or.inl ne_a)
    have f185 := Fld.other W182 f169 (Or.inl ne_a)
    have f186 := Fld.other W182 f170 (Or.inl ne_a)
    have f187 := Fld.other W182 f171 (Or.inl ne_a)
    have f188 := Fld.other W182 f172 (Or.inl ne_a)
    have f189 := Exa.wr W182 f173
    have f190 := f174.other W182 ne_lA
    have f191 := Exa.wr W182 f175
    have f192 := f176.other W182 ne_mA
    have f193 := Exa.wr W182 f177
    have Z194 : n0 ≤ h182.size := Nat.le_trans Z178 (Keep.of_wr W182).1
    have K195 := K179.wr W182 (Or.inl (List.mem_of_getElem? (i := 0) rfl))
    have f196 : Va Z h182 uA .byte [(.int (mkV u0 l0 m0 f la mi)), (.int (mkV u1 l1 m1 f la mi)), (.int (byt (mkV u2 l2 m2 f la mi)))] := V182
    have f197 : Va Z h182 uA .byte [(.int (mkV u0 l0 m0 f la mi)), (.int (mkV u1 l1 m1 f la mi)), (.int (mkV u2 l2 m2 f la mi))] := by rw [show (byt (mkV u2 l2 m2 f la mi)) = (mkV u2 l2 m2 f la mi) from byt_byt _] at f196; exact f196
    refine Go.movp st182 (mkF m 96 #[.val (.ref a), .val (.int (3 : Int32)), .val (.ref uA), .val (.ref lA), .val (.ref mA), .val (.int f), .val (.int la), .val (.int mi), .val (.int (2 : Int32)), .val (.int (zV u2 l2 m2 f la mi))] []) rfl ?_
    refine g_iinc X182 hx (hb hby d5_96) (pc' := 99) rfl rfl (z := (1 : Int32)) rfl (Ls' := #[.val (.ref a), .val (.int (3 : Int32)), .val (.ref uA), .val (.ref lA), .val (.ref mA), .val (.int f), .val (.int la), .val (.int mi), .val (.int (3 : Int32)), .val (.int (zV u2 l2 m2 f la mi))]) rfl ?_
    refine g_goto X182 hx (hb hby d5_99) (by decide) (pc' := 46) (by decide) ?_
    refine g_iload X182 hx (hb hby d5_46) (pc' := 48) rfl rfl ?_
    refine g_iloadN X182 hx (hb hby d5_48) (pc' := 49) rfl rfl ?_
    refine g_icmp_ge X182 hx (hb hby d5_49) (pc1 := 52) rfl (by decide) (pc2 := 102) (by decide) (fun hc49_3 => ?_) (fun hc49_3 => absurd hc49_3 (by decide))
    exact g_return X182 hx hret (hb hby d5_102) N182 hlk (fun v t => endF (by decide) (by decide) v) (by rw [e182]; exact ⟨rfl, K195, Va.eq f197 (by rw [hx0, hx1, hx2])⟩)
theorem ef_5_1 (x0 : Addr) (x1 : Int32) (m : MethodId) : entryFrame m #[(.ref x0), (.int x1)] 10 = mkF m 0 #[.val (.ref x0), .val (.int x1), .unset, .unset, .unset, .unset, .unset, .unset, .unset, .unset] [] := by first | (simp [entryFrame, mkF, argsToLocals, Value.category]; done) | rfl
def Q5_1 (Z : State) (a : Addr) (uA : Addr) (mA : Addr) (u0 : Int32) (u1 : Int32) (u2 : Int32) (m0 : Int32) (m1 : Int32) (m2 : Int32) (f : Int32) (la : Int32) (mi : Int32) (n : Int32) (w0 : Int32) (w1 : Int32) (w2 : Int32) (h0 : Heap) (n0 : Nat) : Option Value → Heap → Prop := fun v h => v = none ∧ Keep h0 h [uA] ∧ Va Z h uA .byte [(.int w0), (.int w1), (.int w2)]
set_option maxRecDepth 65536 in
set_option maxHeartbeats 40000000 in
theorem rm5_1 (l : Launch) (Z : State) (a0 : Array Value) (hw : ∀ d ∈ tables_1, d.before a0 Z = true) (a : Addr) (uA : Addr) (mA : Addr) (u0 : Int32) (u1 : Int32) (u2 : Int32) (m0 : Int32) (m1 : Int32) (m2 : Int32) (f : Int32) (la : Int32) (mi : Int32) (n : Int32) (w0 : Int32) (w1 : Int32) (w2 : Int32) (h0 : Heap) (n0 : Nat) (Z0 : n0 ≤ h0.size) (F_units : Fld Z h0 a "com/example/needlework/needlework/PackedBlock" "units" "Ljava/lang/Object;" (.ref uA)) (F_lasts : Fld Z h0 a "com/example/needlework/needlework/PackedBlock" "lasts" "Ljava/lang/Object;" (.ref uA)) (F_middles : Fld Z h0 a "com/example/needlework/needlework/PackedBlock" "middles" "Ljava/lang/Object;" (.ref mA)) (F_first : Fld Z h0 a "com/example/needlework/needlework/PackedBlock" "first" "I" (.int f)) (F_last : Fld Z h0 a "com/example/needlework/needlework/PackedBlock" "last" "I" (.int la)) (F_middle : Fld Z h0 a "com/example/needlework/needlework/PackedBlock" "middle" "I" (.int mi)) (V_uA : Va Z h0 uA .byte [(.int u0), (.int u1), (.int u2)]) (V_mA : Va Z h0 mA .byte [(.int m0), (.int m1), (.int m2)]) (X_uA : Exa Z h0 uA "[B") (X_mA : Exa Z h0 mA "[B") (G1 : n0 ≤ uA) (ne_mA : mA ≠ uA) (ne_a : a ≠ uA) (hn : n = 0 ∨ n = 1 ∨ n = 2 ∨ n = 3) (hw0 : w0 = (if (0 : Int32) < n then (mkV u0 u0 m0 f la mi) else u0)) (hw1 : w1 = (if (1 : Int32) < n then (mkV u1 u1 m1 f la mi) else u1)) (hw2 : w2 = (if (2 : Int32) < n then (mkV u2 u2 m2 f la mi) else u2)) : Ctr l Z (⟨"com/example/needlework/needlework/PackedBlock$Bytes", "mark", "(I)V"⟩ : MethodName) prog_17_method_4_code 10 none ({ frames := 0, cells := 0, slots := 0, locals := 0 } : Room) #[(.ref a), (.int n)] h0 n0 (Q5_1 Z a uA mA u0 u1 u2 m0 m1 m2 f la mi n w0 w1 w2 h0 n0) := by
  refine Ctr.of (plainFor_of_name pn_2) (ef_5_1 a n) ?_
  intro p e s m below meth c T0 hx hby hml hown hnm hret hlk hZ X0 e0
  have N0 := Fr.nil n0
  rcases hn with rfl | rfl | rfl | rfl
  · skip
    have hx0 := hw0.trans (if_neg (by decide))
    have hx1 := hw1.trans (if_neg (by decide))
    have hx2 := hw2.trans (if_neg (by decide))
    refine g_aloadN X0 hx (hb hby d5_0) (pc' := 1) rfl rfl rfl ?_
    obtain ⟨T198, X198, e198, st198⟩ := getF X0 hx hZ hown (host := "") (Or.inl (hw _ (List.mem_of_getElem? (i := 43) rfl))) (Via.of (hw _ (List.mem_of_getElem? (i := 30) rfl))) e0 F_units (g := (mkF m 1 #[.val (.ref a), .val (.int (0 : Int32)), .unset, .unset, .unset, .unset, .unset, .unset, .unset, .unset] [(.ref a)])) rfl rfl (hb hby d5_1)
    refine Go.movp st198 (mkF m 4 #[.val (.ref a), .val (.int (0 : Int32)), .unset, .unset, .unset, .unset, .unset, .unset, .unset, .unset] [(.ref uA)]) rfl ?_
    obtain ⟨T199, X199, e199, st199⟩ := castY X198 hx hZ hown (hw _ (List.mem_of_getElem? (i := 44) rfl)) e198 (Ins.self X_uA) (g := (mkF m 4 #[.val (.ref a), .val (.int (0 : Int32)), .unset, .unset, .unset, .unset, .unset, .unset, .unset, .unset] [(.ref uA)])) rfl rfl (hb hby d5_4)
    refine Go.movp st199 (mkF m 7 #[.val (.ref a), .val (.int (0 : Int32)), .unset, .unset, .unset, .unset, .unset, .unset, .unset, .unset] [(.ref uA)]) rfl ?_
    refine g_astoreN X199 hx (hb hby d5_7) (pc' := 8) rfl rfl (Ls' := #[.val (.ref a), .val (.int (0 : Int32)), .val (.ref uA), .unset, .unset, .unset, .unset, .unset, .unset, .unset]) rfl ?_
    refine g_aloadN X199 hx (hb hby d5_8) (pc' := 9) rfl rfl rfl ?_
    obtain ⟨T200, X200, e200, st200⟩ := getF X199 hx hZ hown (host := "") (Or.inl (hw _ (List.mem_of_getElem? (i := 46) rfl))) (Via.of (hw _ (List.mem_of_getElem? (i := 33) rfl))) e199 F_lasts (g := (mkF m 9 #[.val (.ref a), .val (.int (0 : Int32)), .val (.ref uA), .unset, .unset, .unset, .unset, .unset, .unset, .unset] [(.ref a)])) rfl rfl (hb hby d5_9)
    refine Go.movp st200 (mkF m 12 #[.val (.ref a), .val (.int (0 : Int32)), .val (.ref uA), .unset, .unset, .unset, .unset, .unset, .unset, .unset] [(.ref uA)]) rfl ?_
    obtain ⟨T201, X201, e201, st201⟩ := castY X200 hx hZ hown (hw _ (List.mem_of_getElem? (i := 44) rfl)) e200 (Ins.self X_uA) (g := (mkF m 12 #[.val (.ref a), .val (.int (0 : Int32)), .val (.ref uA), .unset, .unset, .unset, .unset, .unset, .unset, .unset] [(.ref uA)])) rfl rfl (hb hby d5_12)
    refine Go.movp st201 (mkF m 15 #[.val (.ref a), .val (.int (0 : Int32)), .val (.ref uA), .unset, .unset, .unset, .unset, .unset, .unset, .unset] [(.ref uA)]) rfl ?_
    refine g_astoreN X201 hx (hb hby d5_15) (pc' := 16) rfl rfl (Ls' := #[.val (.ref a), .val (.int (0 : Int32)), .val (.ref uA), .val (.ref uA), .unset, .unset, .unset, .unset, .unset, .unset]) rfl ?_
    refine g_aloadN X201 hx (hb hby d5_16) (pc' := 17) rfl rfl rfl ?_
    obtain ⟨T202, X202, e202, st202⟩ := getF X201 hx hZ hown (host := "") (Or.inl (hw _ (List.mem_of_getElem? (i := 47) rfl))) (Via.of (hw _ (List.mem_of_getElem? (i := 36) rfl))) e201 F_middles (g := (mkF m 17 #[.val (.ref a), .val (.int (0 : Int32)), .val (.ref uA), .val (.ref uA), .unset, .unset, .unset, .unset, .unset, .unset] [(.ref a)])) rfl rfl (hb hby d5_17)
    refine Go.movp st202 (mkF m 20 #[.val (.ref a), .val (.int (0 : Int32)), .val (.ref uA), .val (.ref uA), .unset, .unset, .unset, .unset, .unset, .unset] [(.ref mA)]) rfl ?_
    obtain ⟨T203, X203, e203, st203⟩ := castY X202 hx hZ hown (hw _ (List.mem_of_getElem? (i := 44) rfl)) e202 (Ins.self X_mA) (g := (mkF m 20 #[.val (.ref a), .val (.int (0 : Int32)), .val (.ref uA), .val (.ref uA), .unset, .unset, .unset, .unset, .unset, .unset] [(.ref mA)])) rfl rfl (hb hby d5_20)
    refine Go.movp st203 (mkF m 23 #[.val (.ref a), .val (.int (0 : Int32)), .val (.ref uA), .val (.ref uA), .unset, .unset, .unset, .unset, .unset, .unset] [(.ref mA)]) rfl ?_
    refine g_astore X203 hx (hb hby d5_23) (pc' := 25) rfl rfl (Ls' := #[.val (.ref a), .val (.int (0 : Int32)), .val (.ref uA), .val (.ref uA), .val (.ref mA), .unset, .unset, .unset, .unset, .unset]) rfl ?_
    refine g_aloadN X203 hx (hb hby d5_25) (pc' := 26) rfl rfl rfl ?_
    obtain ⟨T204, X204, e204, st204⟩ := getF X203 hx hZ hown (host := "") (Or.inl (hw _ (List.mem_of_getElem? (i := 48) rfl))) (Via.of (hw _ (List.mem_of_getElem? (i := 49) rfl))) e203 F_first (g := (mkF m 26 #[.val (.ref a), .val (.int (0 : Int32)), .val (.ref uA), .val (.ref uA), .val (.ref mA), .unset, .unset, .unset, .unset, .unset] [(.ref a)])) rfl rfl (hb hby d5_26)
    refine Go.movp st204 (mkF m 29 #[.val (.ref a), .val (.int (0 : Int32)), .val (.ref uA), .val (.ref uA), .val (.ref mA), .unset, .unset, .unset, .unset, .unset] [(.int f)]) rfl ?_
    refine g_istore X204 hx (hb hby d5_29) (pc' := 31) rfl (Ls' := #[.val (.ref a), .val (.int (0 : Int32)), .val (.ref uA), .val (.ref uA), .val (.ref mA), .val (.int f), .unset, .unset, .unset, .unset]) rfl ?_
    refine g_aloadN X204 hx (hb hby d5_31) (pc' := 32) rfl rfl rfl ?_
    obtain ⟨T205, X205, e205, st205⟩ := getF X204 hx hZ hown (host := "") (Or.inl (hw _ (List.mem_of_getElem? (i := 50) rfl))) (Via.of (hw _ (List.mem_of_getElem? (i := 51) rfl))) e204 F_last (g := (mkF m 32 #[.val (.ref a), .val (.int (0 : Int32)), .val (.ref uA), .val (.ref uA), .val (.ref mA), .val (.int f), .unset, .unset, .unset, .unset] [(.ref a)])) rfl rfl (hb hby d5_32)
    refine Go.movp st205 (mkF m 35 #[.val (.ref a), .val (.int (0 : Int32)), .val (.ref uA), .val (.ref uA), .val (.ref mA), .val (.int f), .unset, .unset, .unset, .unset] [(.int la)]) rfl ?_
    refine g_istore X205 hx (hb hby d5_35) (pc' := 37) rfl (Ls' := #[.val (.ref a), .val (.int (0 : Int32)), .val (.ref uA), .val (.ref uA), .val (.ref mA), .val (.int f), .val (.int la), .unset, .unset, .unset]) rfl ?_
    refine g_aloadN X205 hx (hb hby d5_37) (pc' := 38) rfl rfl rfl ?_
    obtain ⟨T206, X206, e206, st206⟩ := getF X205 hx hZ hown (host := "") (Or.inl (hw _ (List.mem_of_getElem? (i := 52) rfl))) (Via.of (hw _ (List.mem_of_getElem? (i := 53) rfl))) e205 F_middle (g := (mkF m 38 #[.val (.ref a), .val (.int (0 : Int32)), .val (.ref uA), .val (.ref uA), .val (.ref mA), .val (.int f), .val (.int la), .unset, .unset, .unset] [(.ref a)])) rfl rfl (hb hby d5_38)
    refine Go.movp st206 (mkF m 41 #[.val (.ref a), .val (.int (0 : Int32)), .val (.ref uA), .val (.ref uA), .val (.ref mA), .val (.int f), .val (.int la), .unset, .unset, .unset] [(.int mi)]) rfl ?_
    refine g_istore X206 hx (hb hby d5_41) (pc' := 43) rfl (Ls' := #[.val (.ref a), .val (.int (0 : Int32)), .val (.ref uA), .val (.ref uA), .val (.ref mA), .val (.int f), .val (.int la), .val (.int mi), .unset, .unset]) rfl ?_
    refine g_iconst X206 hx (hb hby d5_43) (pc' := 44) rfl (z := (0 : Int32)) rfl ?_
    refine g_istore X206 hx (hb hby d5_44) (pc' := 46) rfl (Ls' := #[.val (.ref a), .val (.int (0 : Int32)), .val (.ref uA), .val (.ref uA), .val (.ref mA), .val (.int f), .val (.int la), .val (.int mi), .val (.int (0 : Int32)), .unset]) rfl ?_
    refine g_iload X206 hx (hb hby d5_46) (pc' := 48) rfl rfl ?_
    refine g_iloadN X206 hx (hb hby d5_48) (pc' := 49) rfl rfl ?_
    refine g_icmp_ge X206 hx (hb hby d5_49) (pc1 := 52) rfl (by decide) (pc2 := 102) (by decide) (fun hc49 => ?_) (fun hc49 => absurd hc49 (by decide))
    exact g_return X206 hx hret (hb hby d5_102) N0 hlk (fun v t => endF (by decide) (by decide) v) (by rw [e206]; exact ⟨rfl, (Keep.refl h0 [uA]), Va.eq V_uA (by rw [hx0, hx1, hx2])⟩)
  · skip
    have hx0 := hw0.trans (if_pos (by decide))
    have hx1 := hw1.trans (if_neg (by decide))
    have hx2 := hw2.trans (if_neg (by decide))
    refine g_aloadN X0 hx (hb hby d5_0) (pc' := 1) rfl rfl rfl ?_
    obtain ⟨T207, X207, e207, st207⟩ := getF X0 hx hZ hown (host := "") (Or.inl (hw _ (List.mem_of_getElem? (i := 43) rfl))) (Via.of (hw _ (List.mem_of_getElem? (i := 30) rfl))) e0 F_units (g := (mkF m 1 #[.val (.ref a), .val (.int (1 : Int32)), .unset, .unset, .unset, .unset, .unset, .unset, .unset, .unset] [(.ref a)])) rfl rfl (hb hby d5_1)
    refine Go.movp st207 (mkF m 4 #[.val (.ref a), .val (.int (1 : Int32)), .unset, .unset, .unset, .unset, .unset, .unset, .unset, .unset] [(.ref uA)]) rfl ?_
    obtain ⟨T208, X208, e208, st208⟩ := castY X207 hx hZ hown (hw _ (List.mem_of_getElem? (i := 44) rfl)) e207 (Ins.self X_uA) (g := (mkF m 4 #[.val (.ref a), .val (.int (1 : Int32)), .unset, .unset, .unset, .unset, .unset, .unset, .unset, .unset] [(.ref uA)])) rfl rfl (hb hby d5_4)
    refine Go.movp st208 (mkF m 7 #[.val (.ref a), .val (.int (1 : Int32)), .unset, .unset, .unset, .unset, .unset, .unset, .unset, .unset] [(.ref uA)]) rfl ?_
    refine g_astoreN X208 hx (hb hby d5_7) (pc' := 8) rfl rfl (Ls' := #[.val (.ref a), .val (.int (1 : Int32)), .val (.ref uA), .unset, .unset, .unset, .unset, .unset, .unset, .unset]) rfl ?_
    refine g_aloadN X208 hx (hb hby d5_8) (pc' := 9) rfl rfl rfl ?_
    obtain ⟨T209, X209, e209, st209⟩ := getF X208 hx hZ hown (host := "") (Or.inl (hw _ (List.mem_of_getElem? (i := 46) rfl))) (Via.of (hw _ (List.mem_of_getElem? (i := 33) rfl))) e208 F_lasts (g := (mkF m 9 #[.val (.ref a), .val (.int (1 : Int32)), .val (.ref uA), .unset, .unset, .unset, .unset, .unset, .unset, .unset] [(.ref a)])) rfl rfl (hb hby d5_9)
    refine Go.movp st209 (mkF m 12 #[.val (.ref a), .val (.int (1 : Int32)), .val (.ref uA), .unset, .unset, .unset, .unset, .unset, .unset, .unset] [(.ref uA)]) rfl ?_
    obtain ⟨T210, X210, e210, st210⟩ := castY X209 hx hZ hown (hw _ (List.mem_of_getElem? (i := 44) rfl)) e209 (Ins.self X_uA) (g := (mkF m 12 #[.val (.ref a), .val (.int (1 : Int32)), .val (.ref uA), .unset, .unset, .unset, .unset, .unset, .unset, .unset] [(.ref uA)])) rfl rfl (hb hby d5_12)
    refine Go.movp st210 (mkF m 15 #[.val (.ref a), .val (.int (1 : Int32)), .val (.ref uA), .unset, .unset, .unset, .unset, .unset, .unset, .unset] [(.ref uA)]) rfl ?_
    refine g_astoreN X210 hx (hb hby d5_15) (pc' := 16) rfl rfl (Ls' := #[.val (.ref a), .val (.int (1 : Int32)), .val (.ref uA), .val (.ref uA), .unset, .unset, .unset, .unset, .unset, .unset]) rfl ?_
    refine g_aloadN X210 hx (hb hby d5_16) (pc' := 17) rfl rfl rfl ?_
    obtain ⟨T211, X211, e211, st211⟩ := getF X210 hx hZ hown (host := "") (Or.inl (hw _ (List.mem_of_getElem? (i := 47) rfl))) (Via.of (hw _ (List.mem_of_getElem? (i := 36) rfl))) e210 F_middles (g := (mkF m 17 #[.val (.ref a), .val (.int (1 : Int32)), .val (.ref uA), .val (.ref uA), .unset, .unset, .unset, .unset, .unset, .unset] [(.ref a)])) rfl rfl (hb hby d5_17)
    refine Go.movp st211 (mkF m 20 #[.val (.ref a), .val (.int (1 : Int32)), .val (.ref uA), .val (.ref uA), .unset, .unset, .unset, .unset, .unset, .unset] [(.ref mA)]) rfl ?_
    obtain ⟨T212, X212, e212, st212⟩ := castY X211 hx hZ hown (hw _ (List.mem_of_getElem? (i := 44) rfl)) e211 (Ins.self X_mA) (g := (mkF m 20 #[.val (.ref a), .val (.int (1 : Int32)), .val (.ref uA), .val (.ref uA), .unset, .unset, .unset, .unset, .unset, .unset] [(.ref mA)])) rfl rfl (hb hby d5_20)
    refine Go.movp st212 (mkF m 23 #[.val (.ref a), .val (.int (1 : Int32)), .val (.ref uA), .val (.ref uA), .unset, .unset, .unset, .unset, .unset, .unset] [(.ref mA)]) rfl ?_
    refine g_astore X212 hx (hb hby d5_23) (pc' := 25) rfl rfl (Ls' := #[.val (.ref a), .val (.int (1 : Int32)), .val (.ref uA), .val (.ref uA), .val (.ref mA), .unset, .unset, .unset, .unset, .unset]) rfl ?_
    refine g_aloadN X212 hx (hb hby d5_25) (pc' := 26) rfl rfl rfl ?_
    obtain ⟨T213, X213, e213, st213⟩ := getF X212 hx hZ hown (host := "") (Or.inl (hw _ (List.mem_of_getElem? (i := 48) rfl))) (Via.of (hw _ (List.mem_of_getElem? (i := 49) rfl))) e212 F_first (g := (mkF m 26 #[.val (.ref a), .val (.int (1 : Int32)), .val (.ref uA), .val (.ref uA), .val (.ref mA), .unset, .unset, .unset, .unset, .unset] [(.ref a)])) rfl rfl (hb hby d5_26)
    refine Go.movp st213 (mkF m 29 #[.val (.ref a), .val (.int (1 : Int32)), .val (.ref uA), .val (.ref uA), .val (.ref mA), .unset, .unset, .unset, .unset, .unset] [(.int f)]) rfl ?_
    refine g_istore X213 hx (hb hby d5_29) (pc' := 31) rfl (Ls' := #[.val (.ref a), .val (.int (1 : Int32)), .val (.ref uA), .val (.ref uA), .val (.ref mA), .val (.int f), .unset, .unset, .unset, .unset]) rfl ?_
    refine g_aloadN X213 hx (hb hby d5_31) (pc' := 32) rfl rfl rfl ?_
    obtain ⟨T214, X214, e214, st214⟩ := getF X213 hx hZ hown (host := "") (Or.inl (hw _ (List.mem_of_getElem? (i := 50) rfl))) (Via.of (hw _ (List.mem_of_getElem? (i := 51) rfl))) e213 F_last (g := (mkF m 32 #[.val (.ref a), .val (.int (1 : Int32)), .val (.ref uA), .val (.ref uA), .val (.ref mA), .val (.int f), .unset, .unset, .unset, .unset] [(.ref a)])) rfl rfl (hb hby d5_32)
    refine Go.movp st214 (mkF m 35 #[.val (.ref a), .val (.int (1 : Int32)), .val (.ref uA), .val (.ref uA), .val (.ref mA), .val (.int f), .unset, .unset, .unset, .unset] [(.int la)]) rfl ?_
    refine g_istore X214 hx (hb hby d5_35) (pc' := 37) rfl (Ls' := #[.val (.ref a), .val (.int (1 : Int32)), .val (.ref uA), .val (.ref uA), .val (.ref mA), .val (.int f), .val (.int la), .unset, .unset, .unset]) rfl ?_
    refine g_aloadN X214 hx (hb hby d5_37) (pc' := 38) rfl rfl rfl ?_
    obtain ⟨T215, X215, e215, st215⟩ := getF X214 hx hZ hown (host := "") (Or.inl (hw _ (List.mem_of_getElem? (i := 52) rfl))) (Via.of (hw _ (List.mem_of_getElem? (i := 53) rfl))) e214 F_middle (g := (mkF m 38 #[.val (.ref a), .val (.int (1 : Int32)), .val (.ref uA), .val (.ref uA), .val (.ref mA), .val (.int f), .val (.int la), .unset, .unset, .unset] [(.ref a)])) rfl rfl (hb hby d5_38)
    refine Go.movp st215 (mkF m 41 #[.val (.ref a), .val (.int (1 : Int32)), .val (.ref uA), .val (.ref uA), .val (.ref mA), .val (.int f), .val (.int la), .unset, .unset, .unset] [(.int mi)]) rfl ?_
    refine g_istore X215 hx (hb hby d5_41) (pc' := 43) rfl (Ls' := #[.val (.ref a), .val (.int (1 : Int32)), .val (.ref uA), .val (.ref uA), .val (.ref mA), .val (.int f), .val (.int la), .val (.int mi), .unset, .unset]) rfl ?_
    refine g_iconst X215 hx (hb hby d5_43) (pc' := 44) rfl (z := (0 : Int32)) rfl ?_
    refine g_istore X215 hx (hb hby d5_44) (pc' := 46) rfl (Ls' := #[.val (.ref a), .val (.int (1 : Int32)), .val (.ref uA), .val (.ref uA), .val (.ref mA), .val (.int f), .val (.int la), .val (.int mi), .val (.int (0 : Int32)), .unset]) rfl ?_
    refine g_iload X215 hx (hb hby d5_46) (pc' := 48) rfl rfl ?_
    refine g_iloadN X215 hx (hb hby d5_48) (pc' := 49) rfl rfl ?_
    refine g_icmp_ge X215 hx (hb hby d5_49) (pc1 := 52) rfl (by decide) (pc2 := 102) (by decide) (fun hc49 => absurd (by decide) hc49) (fun hc49 => ?_)
    refine g_aloadN X215 hx (hb hby d5_52) (pc' := 53) rfl rfl rfl ?_
    refine g_iload X215 hx (hb hby d5_53) (pc' := 55) rfl rfl ?_
    refine g_baload X215 hx hZ e215 V_uA (i := 0) (v := (.int u0)) (hb hby d5_55) (pc' := 56) rfl (by decide) rfl rfl ?_
    refine g_iload X215 hx (hb hby d5_56) (pc' := 58) rfl rfl ?_
    refine g_ixor X215 hx (hb hby d5_58) (pc' := 59) rfl ?_
    refine g_aloadN X215 hx (hb hby d5_59) (pc' := 60) rfl rfl rfl ?_
    refine g_iload X215 hx (hb hby d5_60) (pc' := 62) rfl rfl ?_
    refine g_baload X215 hx hZ e215 V_uA (i := 0) (v := (.int u0)) (hb hby d5_62) (pc' := 63) rfl (by decide) rfl rfl ?_
    refine g_iload X215 hx (hb hby d5_63) (pc' := 65) rfl rfl ?_
    refine g_ixor X215 hx (hb hby d5_65) (pc' := 66) rfl ?_
    refine g_ior X215 hx (hb hby d5_66) (pc' := 67) rfl ?_
    refine g_aload X215 hx (hb hby d5_67) (pc' := 69) rfl rfl rfl ?_
    refine g_iload X215 hx (hb hby d5_69) (pc' := 71) rfl rfl ?_
    refine g_baload X215 hx hZ e215 V_mA (i := 0) (v := (.int m0)) (hb hby d5_71) (pc' := 72) rfl (by decide) rfl rfl ?_
    refine g_iload X215 hx (hb hby d5_72) (pc' := 74) rfl rfl ?_
    refine g_ixor X215 hx (hb hby d5_74) (pc' := 75) rfl ?_
    refine g_ior X215 hx (hb hby d5_75) (pc' := 76) rfl ?_
    refine Go.cast (show (mkF m 76 #[.val (.ref a), .val (.int (1 : Int32)), .val (.ref uA), .val (.ref uA), .val (.ref mA), .val (.int f), .val (.int la), .val (.int mi), .val (.int (0 : Int32)), .unset] [(.int (((u0 ^^^ f) ||| (u0 ^^^ la)) ||| (m0 ^^^ mi)))]) = (mkF m 76 #[.val (.ref a), .val (.int (1 : Int32)), .val (.ref uA), .val (.ref uA), .val (.ref mA), .val (.int f), .val (.int la), .val (.int mi), .val (.int (0 : Int32)), .unset] [(.int (zV u0 u0 m0 f la mi))]) from by rw [show (((u0 ^^^ f) ||| (u0 ^^^ la)) ||| (m0 ^^^ mi)) = (zV u0 u0 m0 f la mi) from rfl]) ?_
    refine g_istore X215 hx (hb hby d5_76) (pc' := 78) rfl (Ls' := #[.val (.ref a), .val (.int (1 : Int32)), .val (.ref uA), .val (.ref uA), .val (.ref mA), .val (.int f), .val (.int la), .val (.int mi), .val (.int (0 : Int32)), .val (.int (zV u0 u0 m0 f la mi))]) rfl ?_
    refine g_aloadN X215 hx (hb hby d5_78) (pc' := 79) rfl rfl rfl ?_
    refine g_iload X215 hx (hb hby d5_79) (pc' := 81) rfl rfl ?_
    refine g_iload X215 hx (hb hby d5_81) (pc' := 83) rfl rfl ?_
    refine g_iconst X215 hx (hb hby d5_83) (pc' := 84) rfl (z := (1 : Int32)) rfl ?_
    refine g_isub X215 hx (hb hby d5_84) (pc' := 85) rfl ?_
    refine g_iload X215 hx (hb hby d5_85) (pc' := 87) rfl rfl ?_
    refine g_iconst X215 hx (hb hby d5_87) (pc' := 88) rfl (z := (-1 : Int32)) rfl ?_
    refine g_ixor X215 hx (hb hby d5_88) (pc' := 89) rfl ?_
    refine g_iand X215 hx (hb hby d5_89) (pc' := 90) rfl ?_
    refine g_sipush X215 hx (hb hby d5_90) (pc' := 93) rfl (z := (128 : Int32)) rfl ?_
    refine g_iand X215 hx (hb hby d5_93) (pc' := 94) rfl ?_
    refine g_i2b X215 hx (hb hby d5_94) (pc' := 95) rfl ?_
    refine Go.cast (show (mkF m 95 #[.val (.ref a), .val (.int (1 : Int32)), .val (.ref uA), .val (.ref uA), .val (.ref mA), .val (.int f), .val (.int la), .val (.int mi), .val (.int (0 : Int32)), .val (.int (zV u0 u0 m0 f la mi))] [(.int (byt ((((zV u0 u0 m0 f la mi) - (1 : Int32)) &&& ((zV u0 u0 m0 f la mi) ^^^ (-1 : Int32))) &&& (128 : Int32)))), (.int (0 : Int32)), (.ref uA)]) = (mkF m 95 #[.val (.ref a), .val (.int (1 : Int32)), .val (.ref uA), .val (.ref uA), .val (.ref mA), .val (.int f), .val (.int la), .val (.int mi), .val (.int (0 : Int32)), .val (.int (zV u0 u0 m0 f la mi))] [(.int (mkV u0 u0 m0 f la mi)), (.int (0 : Int32)), (.ref uA)]) from by rw [show (byt ((((zV u0 u0 m0 f la mi) - (1 : Int32)) &&& ((zV u0 u0 m0 f la mi) ^^^ (-1 : Int32))) &&& (128 : Int32))) = (mkV u0 u0 m0 f la mi) from rfl]) ?_
    obtain ⟨T216, h216, L216, X216, e216, N216, W216, V216, st216⟩ := h_bastore X215 hx hZ e215 N0 V_uA G1 (j := (0 : Int32)) (i := 0) (x := (mkV u0 u0 m0 f la mi)) (hb hby d5_95) (by decide) rfl rfl #[.val (.ref a), .val (.int (1 : Int32)), .val (.ref uA), .val (.ref uA), .val (.ref mA), .val (.int f), .val (.int la), .val (.int mi), .val (.int (0 : Int32)), .val (.int (zV u0 u0 m0 f la mi))] []
    have f217 := Fld.other W216 F_units (Or.inl ne_a)
    have f218 := Fld.other W216 F_lasts (Or.inl ne_a)
    have f219 := Fld.other W216 F_middles (Or.inl ne_a)
    have f220 := Fld.other W216 F_first (Or.inl ne_a)
    have f221 := Fld.other W216 F_last (Or.inl ne_a)
    have f222 := Fld.other W216 F_middle (Or.inl ne_a)
    have f223 := Exa.wr W216 X_uA
    have f224 := V_mA.other W216 ne_mA
    have f225 := Exa.wr W216 X_mA
    have Z226 : n0 ≤ h216.size := Nat.le_trans Z0 (Keep.of_wr W216).1
    have K227 := (Keep.refl h0 [uA]).wr W216 (Or.inl (List.mem_of_getElem? (i := 0) rfl))
    have f228 : Va Z h216 uA .byte [(.int (byt (mkV u0 u0 m0 f la mi))), (.int u1), (.int u2)] := V216
    have f229 : Va Z h216 uA .byte [(.int (mkV u0 u0 m0 f la mi)), (.int u1), (.int u2)] := by rw [show (byt (mkV u0 u0 m0 f la mi)) = (mkV u0 u0 m0 f la mi) from byt_byt _] at f228; exact f228
    refine Go.movp st216 (mkF m 96 #[.val (.ref a), .val (.int (1 : Int32)), .val (.ref uA), .val (.ref uA), .val (.ref mA), .val (.int f), .val (.int la), .val (.int mi), .val (.int (0 : Int32)), .val (.int (zV u0 u0 m0 f la mi))] []) rfl ?_
    refine g_iinc X216 hx (hb hby d5_96) (pc' := 99) rfl rfl (z := (1 : Int32)) rfl (Ls' := #[.val (.ref a), .val (.int (1 : Int32)), .val (.ref uA), .val (.ref uA), .val (.ref mA), .val (.int f), .val (.int la), .val (.int mi), .val (.int (1 : Int32)), .val (.int (zV u0 u0 m0 f la mi))]) rfl ?_
    refine g_goto X216 hx (hb hby d5_99) (by decide) (pc' := 46) (by decide) ?_
    refine g_iload X216 hx (hb hby d5_46) (pc' := 48) rfl rfl ?_
    refine g_iloadN X216 hx (hb hby d5_48) (pc' := 49) rfl rfl ?_
    refine g_icmp_ge X216 hx (hb hby d5_49) (pc1 := 52) rfl (by decide) (pc2 := 102) (by decide) (fun hc49_1 => ?_) (fun hc49_1 => absurd hc49_1 (by decide))
    exact g_return X216 hx hret (hb hby d5_102) N216 hlk (fun v t => endF (by decide) (by decide) v) (by rw [e216]; exact ⟨rfl, K227, Va.eq f229 (by rw [hx0, hx1, hx2])⟩)
  · skip
    have hx0 := hw0.trans (if_pos (by decide))
    have hx1 := hw1.trans (if_pos (by decide))
    have hx2 := hw2.trans (if_neg (by decide))
    refine g_aloadN X0 hx (hb hby d5_0) (pc' := 1) rfl rfl rfl ?_
    obtain ⟨T230, X230, e230, st230⟩ := getF X0 hx hZ hown (host := "") (Or.inl (hw _ (List.mem_of_getElem? (i := 43) rfl))) (Via.of (hw _ (List.mem_of_getElem? (i := 30) rfl))) e0 F_units (g := (mkF m 1 #[.val (.ref a), .val (.int (2 : Int32)), .unset, .unset, .unset, .unset, .unset, .unset, .unset, .unset] [(.ref a)])) rfl rfl (hb hby d5_1)
    refine Go.movp st230 (mkF m 4 #[.val (.ref a), .val (.int (2 : Int32)), .unset, .unset, .unset, .unset, .unset, .unset, .unset, .unset] [(.ref uA)]) rfl ?_
    obtain ⟨T231, X231, e231, st231⟩ := castY X230 hx hZ hown (hw _ (List.mem_of_getElem? (i := 44) rfl)) e230 (Ins.self X_uA) (g := (mkF m 4 #[.val (.ref a), .val (.int (2 : Int32)), .unset, .unset, .unset, .unset, .unset, .unset, .unset, .unset] [(.ref uA)])) rfl rfl (hb hby d5_4)
    refine Go.movp st231 (mkF m 7 #[.val (.ref a), .val (.int (2 : Int32)), .unset, .unset, .unset, .unset, .unset, .unset, .unset, .unset] [(.ref uA)]) rfl ?_
    refine g_astoreN X231 hx (hb hby d5_7) (pc' := 8) rfl rfl (Ls' := #[.val (.ref a), .val (.int (2 : Int32)), .val (.ref uA), .unset, .unset, .unset, .unset, .unset, .unset, .unset]) rfl ?_
    refine g_aloadN X231 hx (hb hby d5_8) (pc' := 9) rfl rfl rfl ?_
    obtain ⟨T232, X232, e232, st232⟩ := getF X231 hx hZ hown (host := "") (Or.inl (hw _ (List.mem_of_getElem? (i := 46) rfl))) (Via.of (hw _ (List.mem_of_getElem? (i := 33) rfl))) e231 F_lasts (g := (mkF m 9 #[.val (.ref a), .val (.int (2 : Int32)), .val (.ref uA), .unset, .unset, .unset, .unset, .unset, .unset, .unset] [(.ref a)])) rfl rfl (hb hby d5_9)
    refine Go.movp st232 (mkF m 12 #[.val (.ref a), .val (.int (2 : Int32)), .val (.ref uA), .unset, .unset, .unset, .unset, .unset, .unset, .unset] [(.ref uA)]) rfl ?_
    obtain ⟨T233, X233, e233, st233⟩ := castY X232 hx hZ hown (hw _ (List.mem_of_getElem? (i := 44) rfl)) e232 (Ins.self X_uA) (g := (mkF m 12 #[.val (.ref a), .val (.int (2 : Int32)), .val (.ref uA), .unset, .unset, .unset, .unset, .unset, .unset, .unset] [(.ref uA)])) rfl rfl (hb hby d5_12)
    refine Go.movp st233 (mkF m 15 #[.val (.ref a), .val (.int (2 : Int32)), .val (.ref uA), .unset, .unset, .unset, .unset, .unset, .unset, .unset] [(.ref uA)]) rfl ?_
    refine g_astoreN X233 hx (hb hby d5_15) (pc' := 16) rfl rfl (Ls' := #[.val (.ref a), .val (.int (2 : Int32)), .val (.ref uA), .val (.ref uA), .unset, .unset, .unset, .unset, .unset, .unset]) rfl ?_
    refine g_aloadN X233 hx (hb hby d5_16) (pc' := 17) rfl rfl rfl ?_
    obtain ⟨T234, X234, e234, st234⟩ := getF X233 hx hZ hown (host := "") (Or.inl (hw _ (List.mem_of_getElem? (i := 47) rfl))) (Via.of (hw _ (List.mem_of_getElem? (i := 36) rfl))) e233 F_middles (g := (mkF m 17 #[.val (.ref a), .val (.int (2 : Int32)), .val (.ref uA), .val (.ref uA), .unset, .unset, .unset, .unset, .unset, .unset] [(.ref a)])) rfl rfl (hb hby d5_17)
    refine Go.movp st234 (mkF m 20 #[.val (.ref a), .val (.int (2 : Int32)), .val (.ref uA), .val (.ref uA), .unset, .unset, .unset, .unset, .unset, .unset] [(.ref mA)]) rfl ?_
    obtain ⟨T235, X235, e235, st235⟩ := castY X234 hx hZ hown (hw _ (List.mem_of_getElem? (i := 44) rfl)) e234 (Ins.self X_mA) (g := (mkF m 20 #[.val (.ref a), .val (.int (2 : Int32)), .val (.ref uA), .val (.ref uA), .unset, .unset, .unset, .unset, .unset, .unset] [(.ref mA)])) rfl rfl (hb hby d5_20)
    refine Go.movp st235 (mkF m 23 #[.val (.ref a), .val (.int (2 : Int32)), .val (.ref uA), .val (.ref uA), .unset, .unset, .unset, .unset, .unset, .unset] [(.ref mA)]) rfl ?_
    refine g_astore X235 hx (hb hby d5_23) (pc' := 25) rfl rfl (Ls' := #[.val (.ref a), .val (.int (2 : Int32)), .val (.ref uA), .val (.ref uA), .val (.ref mA), .unset, .unset, .unset, .unset, .unset]) rfl ?_
    refine g_aloadN X235 hx (hb hby d5_25) (pc' := 26) rfl rfl rfl ?_
    obtain ⟨T236, X236, e236, st236⟩ := getF X235 hx hZ hown (host := "") (Or.inl (hw _ (List.mem_of_getElem? (i := 48) rfl))) (Via.of (hw _ (List.mem_of_getElem? (i := 49) rfl))) e235 F_first (g := (mkF m 26 #[.val (.ref a), .val (.int (2 : Int32)), .val (.ref uA), .val (.ref uA), .val (.ref mA), .unset, .unset, .unset, .unset, .unset] [(.ref a)])) rfl rfl (hb hby d5_26)
    refine Go.movp st236 (mkF m 29 #[.val (.ref a), .val (.int (2 : Int32)), .val (.ref uA), .val (.ref uA), .val (.ref mA), .unset, .unset, .unset, .unset, .unset] [(.int f)]) rfl ?_
    refine g_istore X236 hx (hb hby d5_29) (pc' := 31) rfl (Ls' := #[.val (.ref a), .val (.int (2 : Int32)), .val (.ref uA), .val (.ref uA), .val (.ref mA), .val (.int f), .unset, .unset, .unset, .unset]) rfl ?_
    refine g_aloadN X236 hx (hb hby d5_31) (pc' := 32) rfl rfl rfl ?_
    obtain ⟨T237, X237, e237, st237⟩ := getF X236 hx hZ hown (host := "") (Or.inl (hw _ (List.mem_of_getElem? (i := 50) rfl))) (Via.of (hw _ (List.mem_of_getElem? (i := 51) rfl))) e236 F_last (g := (mkF m 32 #[.val (.ref a), .val (.int (2 : Int32)), .val (.ref uA), .val (.ref uA), .val (.ref mA), .val (.int f), .unset, .unset, .unset, .unset] [(.ref a)])) rfl rfl (hb hby d5_32)
    refine Go.movp st237 (mkF m 35 #[.val (.ref a), .val (.int (2 : Int32)), .val (.ref uA), .val (.ref uA), .val (.ref mA), .val (.int f), .unset, .unset, .unset, .unset] [(.int la)]) rfl ?_
    refine g_istore X237 hx (hb hby d5_35) (pc' := 37) rfl (Ls' := #[.val (.ref a), .val (.int (2 : Int32)), .val (.ref uA), .val (.ref uA), .val (.ref mA), .val (.int f), .val (.int la), .unset, .unset, .unset]) rfl ?_
    refine g_aloadN X237 hx (hb hby d5_37) (pc' := 38) rfl rfl rfl ?_
    obtain ⟨T238, X238, e238, st238⟩ := getF X237 hx hZ hown (host := "") (Or.inl (hw _ (List.mem_of_getElem? (i := 52) rfl))) (Via.of (hw _ (List.mem_of_getElem? (i := 53) rfl))) e237 F_middle (g := (mkF m 38 #[.val (.ref a), .val (.int (2 : Int32)), .val (.ref uA), .val (.ref uA), .val (.ref mA), .val (.int f), .val (.int la), .unset, .unset, .unset] [(.ref a)])) rfl rfl (hb hby d5_38)
    refine Go.movp st238 (mkF m 41 #[.val (.ref a), .val (.int (2 : Int32)), .val (.ref uA), .val (.ref uA), .val (.ref mA), .val (.int f), .val (.int la), .unset, .unset, .unset] [(.int mi)]) rfl ?_
    refine g_istore X238 hx (hb hby d5_41) (pc' := 43) rfl (Ls' := #[.val (.ref a), .val (.int (2 : Int32)), .val (.ref uA), .val (.ref uA), .val (.ref mA), .val (.int f), .val (.int la), .val (.int mi), .unset, .unset]) rfl ?_
    refine g_iconst X238 hx (hb hby d5_43) (pc' := 44) rfl (z := (0 : Int32)) rfl ?_
    refine g_istore X238 hx (hb hby d5_44) (pc' := 46) rfl (Ls' := #[.val (.ref a), .val (.int (2 : Int32)), .val (.ref uA), .val (.ref uA), .val (.ref mA), .val (.int f), .val (.int la), .val (.int mi), .val (.int (0 : Int32)), .unset]) rfl ?_
    refine g_iload X238 hx (hb hby d5_46) (pc' := 48) rfl rfl ?_
    refine g_iloadN X238 hx (hb hby d5_48) (pc' := 49) rfl rfl ?_
    refine g_icmp_ge X238 hx (hb hby d5_49) (pc1 := 52) rfl (by decide) (pc2 := 102) (by decide) (fun hc49 => absurd (by decide) hc49) (fun hc49 => ?_)
    refine g_aloadN X238 hx (hb hby d5_52) (pc' := 53) rfl rfl rfl ?_
    refine g_iload X238 hx (hb hby d5_53) (pc' := 55) rfl rfl ?_
    refine g_baload X238 hx hZ e238 V_uA (i := 0) (v := (.int u0)) (hb hby d5_55) (pc' := 56) rfl (by decide) rfl rfl ?_
    refine g_iload X238 hx (hb hby d5_56) (pc' := 58) rfl rfl ?_
    refine g_ixor X238 hx (hb hby d5_58) (pc' := 59) rfl ?_
    refine g_aloadN X238 hx (hb hby d5_59) (pc' := 60) rfl rfl rfl ?_
    refine g_iload X238 hx (hb hby d5_60) (pc' := 62) rfl rfl ?_
    refine g_baload X238 hx hZ e238 V_uA (i := 0) (v := (.int u0)) (hb hby d5_62) (pc' := 63) rfl (by decide) rfl rfl ?_
    refine g_iload X238 hx (hb hby d5_63) (pc' := 65) rfl rfl ?_
    refine g_ixor X238 hx (hb hby d5_65) (pc' := 66) rfl ?_
    refine g_ior X238 hx (hb hby d5_66) (pc' := 67) rfl ?_
    refine g_aload X238 hx (hb hby d5_67) (pc' := 69) rfl rfl rfl ?_
    refine g_iload X238 hx (hb hby d5_69) (pc' := 71) rfl rfl ?_
    refine g_baload X238 hx hZ e238 V_mA (i := 0) (v := (.int m0)) (hb hby d5_71) (pc' := 72) rfl (by decide) rfl rfl ?_
    refine g_iload X238 hx (hb hby d5_72) (pc' := 74) rfl rfl ?_
    refine g_ixor X238 hx (hb hby d5_74) (pc' := 75) rfl ?_
    refine g_ior X238 hx (hb hby d5_75) (pc' := 76) rfl ?_
    refine Go.cast (show (mkF m 76 #[.val (.ref a), .val (.int (2 : Int32)), .val (.ref uA), .val (.ref uA), .val (.ref mA), .val (.int f), .val (.int la), .val (.int mi), .val (.int (0 : Int32)), .unset] [(.int (((u0 ^^^ f) ||| (u0 ^^^ la)) ||| (m0 ^^^ mi)))]) = (mkF m 76 #[.val (.ref a), .val (.int (2 : Int32)), .val (.ref uA), .val (.ref uA), .val (.ref mA), .val (.int f), .val (.int la), .val (.int mi), .val (.int (0 : Int32)), .unset] [(.int (zV u0 u0 m0 f la mi))]) from by rw [show (((u0 ^^^ f) ||| (u0 ^^^ la)) ||| (m0 ^^^ mi)) = (zV u0 u0 m0 f la mi) from rfl]) ?_
    refine g_istore X238 hx (hb hby d5_76) (pc' := 78) rfl (Ls' := #[.val (.ref a), .val (.int (2 : Int32)), .val (.ref uA), .val (.ref uA), .val (.ref mA), .val (.int f), .val (.int la), .val (.int mi), .val (.int (0 : Int32)), .val (.int (zV u0 u0 m0 f la mi))]) rfl ?_
    refine g_aloadN X238 hx (hb hby d5_78) (pc' := 79) rfl rfl rfl ?_
    refine g_iload X238 hx (hb hby d5_79) (pc' := 81) rfl rfl ?_
    refine g_iload X238 hx (hb hby d5_81) (pc' := 83) rfl rfl ?_
    refine g_iconst X238 hx (hb hby d5_83) (pc' := 84) rfl (z := (1 : Int32)) rfl ?_
    refine g_isub X238 hx (hb hby d5_84) (pc' := 85) rfl ?_
    refine g_iload X238 hx (hb hby d5_85) (pc' := 87) rfl rfl ?_
    refine g_iconst X238 hx (hb hby d5_87) (pc' := 88) rfl (z := (-1 : Int32)) rfl ?_
    refine g_ixor X238 hx (hb hby d5_88) (pc' := 89) rfl ?_
    refine g_iand X238 hx (hb hby d5_89) (pc' := 90) rfl ?_
    refine g_sipush X238 hx (hb hby d5_90) (pc' := 93) rfl (z := (128 : Int32)) rfl ?_
    refine g_iand X238 hx (hb hby d5_93) (pc' := 94) rfl ?_
    refine g_i2b X238 hx (hb hby d5_94) (pc' := 95) rfl ?_
    refine Go.cast (show (mkF m 95 #[.val (.ref a), .val (.int (2 : Int32)), .val (.ref uA), .val (.ref uA), .val (.ref mA), .val (.int f), .val (.int la), .val (.int mi), .val (.int (0 : Int32)), .val (.int (zV u0 u0 m0 f la mi))] [(.int (byt ((((zV u0 u0 m0 f la mi) - (1 : Int32)) &&& ((zV u0 u0 m0 f la mi) ^^^ (-1 : Int32))) &&& (128 : Int32)))), (.int (0 : Int32)), (.ref uA)]) = (mkF m 95 #[.val (.ref a), .val (.int (2 : Int32)), .val (.ref uA), .val (.ref uA), .val (.ref mA), .val (.int f), .val (.int la), .val (.int mi), .val (.int (0 : Int32)), .val (.int (zV u0 u0 m0 f la mi))] [(.int (mkV u0 u0 m0 f la mi)), (.int (0 : Int32)), (.ref uA)]) from by rw [show (byt ((((zV u0 u0 m0 f la mi) - (1 : Int32)) &&& ((zV u0 u0 m0 f la mi) ^^^ (-1 : Int32))) &&& (128 : Int32))) = (mkV u0 u0 m0 f la mi) from rfl]) ?_
    obtain ⟨T239, h239, L239, X239, e239, N239, W239, V239, st239⟩ := h_bastore X238 hx hZ e238 N0 V_uA G1 (j := (0 : Int32)) (i := 0) (x := (mkV u0 u0 m0 f la mi)) (hb hby d5_95) (by decide) rfl rfl #[.val (.ref a), .val (.int (2 : Int32)), .val (.ref uA), .val (.ref uA), .val (.ref mA), .val (.int f), .val (.int la), .val (.int mi), .val (.int (0 : Int32)), .val (.int (zV u0 u0 m0 f la mi))] []
    have f240 := Fld.other W239 F_units (Or.inl ne_a)
    have f241 := Fld.other W239 F_lasts (Or.inl ne_a)
    have f242 := Fld.other W239 F_middles (Or.inl ne_a)
    have f243 := Fld.other W239 F_first (Or.inl ne_a)
    have f244 := Fld.other W239 F_last (Or.inl ne_a)
    have f245 := Fld.other W239 F_middle (Or.inl ne_a)
    have f246 := Exa.wr W239 X_uA
    have f247 := V_mA.other W239 ne_mA
    have f248 := Exa.wr W239 X_mA
    have Z249 : n0 ≤ h239.size := Nat.le_trans Z0 (Keep.of_wr W239).1
    have K250 := (Keep.refl h0 [uA]).wr W239 (Or.inl (List.mem_of_getElem? (i := 0) rfl))
    have f251 : Va Z h239 uA .byte [(.int (byt (mkV u0 u0 m0 f la mi))), (.int u1), (.int u2)] := V239
    have f252 : Va Z h239 uA .byte [(.int (mkV u0 u0 m0 f la mi)), (.int u1), (.int u2)] := by rw [show (byt (mkV u0 u0 m0 f la mi)) = (mkV u0 u0 m0 f la mi) from byt_byt _] at f251; exact f251
    refine Go.movp st239 (mkF m 96 #[.val (.ref a), .val (.int (2 : Int32)), .val (.ref uA), .val (.ref uA), .val (.ref mA), .val (.int f), .val (.int la), .val (.int mi), .val (.int (0 : Int32)), .val (.int (zV u0 u0 m0 f la mi))] []) rfl ?_
    refine g_iinc X239 hx (hb hby d5_96) (pc' := 99) rfl rfl (z := (1 : Int32)) rfl (Ls' := #[.val (.ref a), .val (.int (2 : Int32)), .val (.ref uA), .val (.ref uA), .val (.ref mA), .val (.int f), .val (.int la), .val (.int mi), .val (.int (1 : Int32)), .val (.int (zV u0 u0 m0 f la mi))]) rfl ?_
    refine g_goto X239 hx (hb hby d5_99) (by decide) (pc' := 46) (by decide) ?_
    refine g_iload X239 hx (hb hby d5_46) (pc' := 48) rfl rfl ?_
    refine g_iloadN X239 hx (hb hby d5_48) (pc' := 49) rfl rfl ?_
    refine g_icmp_ge X239 hx (hb hby d5_49) (pc1 := 52) rfl (by decide) (pc2 := 102) (by decide) (fun hc49_1 => absurd (by decide) hc49_1) (fun hc49_1 => ?_)
    refine g_aloadN X239 hx (hb hby d5_52) (pc' := 53) rfl rfl rfl ?_
    refine g_iload X239 hx (hb hby d5_53) (pc' := 55) rfl rfl ?_
    refine g_baload X239 hx hZ e239 f252 (i := 1) (v := (.int u1)) (hb hby d5_55) (pc' := 56) rfl (by decide) rfl rfl ?_
    refine g_iload X239 hx (hb hby d5_56) (pc' := 58) rfl rfl ?_
    refine g_ixor X239 hx (hb hby d5_58) (pc' := 59) rfl ?_
    refine g_aloadN X239 hx (hb hby d5_59) (pc' := 60) rfl rfl rfl ?_
    refine g_iload X239 hx (hb hby d5_60) (pc' := 62) rfl rfl ?_
    refine g_baload X239 hx hZ e239 f252 (i := 1) (v := (.int u1)) (hb hby d5_62) (pc' := 63) rfl (by decide) rfl rfl ?_
    refine g_iload X239 hx (hb hby d5_63) (pc' := 65) rfl rfl ?_
    refine g_ixor X239 hx (hb hby d5_65) (pc' := 66) rfl ?_
    refine g_ior X239 hx (hb hby d5_66) (pc' := 67) rfl ?_
    refine g_aload X239 hx (hb hby d5_67) (pc' := 69) rfl rfl rfl ?_
    refine g_iload X239 hx (hb hby d5_69) (pc' := 71) rfl rfl ?_
    refine g_baload X239 hx hZ e239 f247 (i := 1) (v := (.int m1)) (hb hby d5_71) (pc' := 72) rfl (by decide) rfl rfl ?_
    refine g_iload X239 hx (hb hby d5_72) (pc' := 74) rfl rfl ?_
    refine g_ixor X239 hx (hb hby d5_74) (pc' := 75) rfl ?_
    refine g_ior X239 hx (hb hby d5_75) (pc' := 76) rfl ?_
    refine Go.cast (show (mkF m 76 #[.val (.ref a), .val (.int (2 : Int32)), .val (.ref uA), .val (.ref uA), .val (.ref mA), .val (.int f), .val (.int la), .val (.int mi), .val (.int (1 : Int32)), .val (.int (zV u0 u0 m0 f la mi))] [(.int (((u1 ^^^ f) ||| (u1 ^^^ la)) ||| (m1 ^^^ mi)))]) = (mkF m 76 #[.val (.ref a), .val (.int (2 : Int32)), .val (.ref uA), .val (.ref uA), .val (.ref mA), .val (.int f), .val (.int la), .val (.int mi), .val (.int (1 : Int32)), .val (.int (zV u0 u0 m0 f la mi))] [(.int (zV u1 u1 m1 f la mi))]) from by rw [show (((u1 ^^^ f) ||| (u1 ^^^ la)) ||| (m1 ^^^ mi)) = (zV u1 u1 m1 f la mi) from rfl]) ?_
    refine g_istore X239 hx (hb hby d5_76) (pc' := 78) rfl (Ls' := #[.val (.ref a), .val (.int (2 : Int32)), .val (.ref uA), .val (.ref uA), .val (.ref mA), .val (.int f), .val (.int la), .val (.int mi), .val (.int (1 : Int32)), .val (.int (zV u1 u1 m1 f la mi))]) rfl ?_
    refine g_aloadN X239 hx (hb hby d5_78) (pc' := 79) rfl rfl rfl ?_
    refine g_iload X239 hx (hb hby d5_79) (pc' := 81) rfl rfl ?_
    refine g_iload X239 hx (hb hby d5_81) (pc' := 83) rfl rfl ?_
    refine g_iconst X239 hx (hb hby d5_83) (pc' := 84) rfl (z := (1 : Int32)) rfl ?_
    refine g_isub X239 hx (hb hby d5_84) (pc' := 85) rfl ?_
    refine g_iload X239 hx (hb hby d5_85) (pc' := 87) rfl rfl ?_
    refine g_iconst X239 hx (hb hby d5_87) (pc' := 88) rfl (z := (-1 : Int32)) rfl ?_
    refine g_ixor X239 hx (hb hby d5_88) (pc' := 89) rfl ?_
    refine g_iand X239 hx (hb hby d5_89) (pc' := 90) rfl ?_
    refine g_sipush X239 hx (hb hby d5_90) (pc' := 93) rfl (z := (128 : Int32)) rfl ?_
    refine g_iand X239 hx (hb hby d5_93) (pc' := 94) rfl ?_
    refine g_i2b X239 hx (hb hby d5_94) (pc' := 95) rfl ?_
    refine Go.cast (show (mkF m 95 #[.val (.ref a), .val (.int (2 : Int32)), .val (.ref uA), .val (.ref uA), .val (.ref mA), .val (.int f), .val (.int la), .val (.int mi), .val (.int (1 : Int32)), .val (.int (zV u1 u1 m1 f la mi))] [(.int (byt ((((zV u1 u1 m1 f la mi) - (1 : Int32)) &&& ((zV u1 u1 m1 f la mi) ^^^ (-1 : Int32))) &&& (128 : Int32)))), (.int (1 : Int32)), (.ref uA)]) = (mkF m 95 #[.val (.ref a), .val (.int (2 : Int32)), .val (.ref uA), .val (.ref uA), .val (.ref mA), .val (.int f), .val (.int la), .val (.int mi), .val (.int (1 : Int32)), .val (.int (zV u1 u1 m1 f la mi))] [(.int (mkV u1 u1 m1 f la mi)), (.int (1 : Int32)), (.ref uA)]) from by rw [show (byt ((((zV u1 u1 m1 f la mi) - (1 : Int32)) &&& ((zV u1 u1 m1 f la mi) ^^^ (-1 : Int32))) &&& (128 : Int32))) = (mkV u1 u1 m1 f la mi) from rfl]) ?_
    obtain ⟨T253, h253, L253, X253, e253, N253, W253, V253, st253⟩ := h_bastore X239 hx hZ e239 N239 f252 G1 (j := (1 : Int32)) (i := 1) (x := (mkV u1 u1 m1 f la mi)) (hb hby d5_95) (by decide) rfl rfl #[.val (.ref a), .val (.int (2 : Int32)), .val (.ref uA), .val (.ref uA), .val (.ref mA), .val (.int f), .val (.int la), .val (.int mi), .val (.int (1 : Int32)), .val (.int (zV u1 u1 m1 f la mi))] []
    have f254 := Fld.other W253 f240 (Or.inl ne_a)
    have f255 := Fld.other W253 f241 (Or.inl ne_a)
    have f256 := Fld.other W253 f242 (Or.inl ne_a)
    have f257 := Fld.other W253 f243 (Or.inl ne_a)
    have f258 := Fld.other W253 f244 (Or.inl ne_a)
    have f259 := Fld.other W253 f245 (Or.inl ne_a)
    have f260 := Exa.wr W253 f246
    have f261 := f247.other W253 ne_mA
    have f262 := Exa.wr W253 f248
    have Z263 : n0 ≤ h253.size := Nat.le_trans Z249 (Keep.of_wr W253).1
    have K264 := K250.wr W253 (Or.inl (List.mem_of_getElem? (i := 0) rfl))
    have f265 : Va Z h253 uA .byte [(.int (mkV u0 u0 m0 f la mi)), (.int (byt (mkV u1 u1 m1 f la mi))), (.int u2)] := V253
    have f266 : Va Z h253 uA .byte [(.int (mkV u0 u0 m0 f la mi)), (.int (mkV u1 u1 m1 f la mi)), (.int u2)] := by rw [show (byt (mkV u1 u1 m1 f la mi)) = (mkV u1 u1 m1 f la mi) from byt_byt _] at f265; exact f265
    refine Go.movp st253 (mkF m 96 #[.val (.ref a), .val (.int (2 : Int32)), .val (.ref uA), .val (.ref uA), .val (.ref mA), .val (.int f), .val (.int la), .val (.int mi), .val (.int (1 : Int32)), .val (.int (zV u1 u1 m1 f la mi))] []) rfl ?_
    refine g_iinc X253 hx (hb hby d5_96) (pc' := 99) rfl rfl (z := (1 : Int32)) rfl (Ls' := #[.val (.ref a), .val (.int (2 : Int32)), .val (.ref uA), .val (.ref uA), .val (.ref mA), .val (.int f), .val (.int la), .val (.int mi), .val (.int (2 : Int32)), .val (.int (zV u1 u1 m1 f la mi))]) rfl ?_
    refine g_goto X253 hx (hb hby d5_99) (by decide) (pc' := 46) (by decide) ?_
    refine g_iload X253 hx (hb hby d5_46) (pc' := 48) rfl rfl ?_
    refine g_iloadN X253 hx (hb hby d5_48) (pc' := 49) rfl rfl ?_
    refine g_icmp_ge X253 hx (hb hby d5_49) (pc1 := 52) rfl (by decide) (pc2 := 102) (by decide) (fun hc49_2 => ?_) (fun hc49_2 => absurd hc49_2 (by decide))
    exact g_return X253 hx hret (hb hby d5_102) N253 hlk (fun v t => endF (by decide) (by decide) v) (by rw [e253]; exact ⟨rfl, K264, Va.eq f266 (by rw [hx0, hx1, hx2])⟩)
  · skip
    have hx0 := hw0.trans (if_pos (by decide))
    have hx1 := hw1.trans (if_pos (by decide))
    have hx2 := hw2.trans (if_pos (by decide))
    refine g_aloadN X0 hx (hb hby d5_0) (pc' := 1) rfl rfl rfl ?_
    obtain ⟨T267, X267, e267, st267⟩ := getF X0 hx hZ hown (host := "") (Or.inl (hw _ (List.mem_of_getElem? (i := 43) rfl))) (Via.of (hw _ (List.mem_of_getElem? (i := 30) rfl))) e0 F_units (g := (mkF m 1 #[.val (.ref a), .val (.int (3 : Int32)), .unset, .unset, .unset, .unset, .unset, .unset, .unset, .unset] [(.ref a)])) rfl rfl (hb hby d5_1)
    refine Go.movp st267 (mkF m 4 #[.val (.ref a), .val (.int (3 : Int32)), .unset, .unset, .unset, .unset, .unset, .unset, .unset, .unset] [(.ref uA)]) rfl ?_
    obtain ⟨T268, X268, e268, st268⟩ := castY X267 hx hZ hown (hw _ (List.mem_of_getElem? (i := 44) rfl)) e267 (Ins.self X_uA) (g := (mkF m 4 #[.val (.ref a), .val (.int (3 : Int32)), .unset, .unset, .unset, .unset, .unset, .unset, .unset, .unset] [(.ref uA)])) rfl rfl (hb hby d5_4)
    refine Go.movp st268 (mkF m 7 #[.val (.ref a), .val (.int (3 : Int32)), .unset, .unset, .unset, .unset, .unset, .unset, .unset, .unset] [(.ref uA)]) rfl ?_
    refine g_astoreN X268 hx (hb hby d5_7) (pc' := 8) rfl rfl (Ls' := #[.val (.ref a), .val (.int (3 : Int32)), .val (.ref uA), .unset, .unset, .unset, .unset, .unset, .unset, .unset]) rfl ?_
    refine g_aloadN X268 hx (hb hby d5_8) (pc' := 9) rfl rfl rfl ?_
    obtain ⟨T269, X269, e269, st269⟩ := getF X268 hx hZ hown (host := "") (Or.inl (hw _ (List.mem_of_getElem? (i := 46) rfl))) (Via.of (hw _ (List.mem_of_getElem? (i := 33) rfl))) e268 F_lasts (g := (mkF m 9 #[.val (.ref a), .val (.int (3 : Int32)), .val (.ref uA), .unset, .unset, .unset, .unset, .unset, .unset, .unset] [(.ref a)])) rfl rfl (hb hby d5_9)
    refine Go.movp st269 (mkF m 12 #[.val (.ref a), .val (.int (3 : Int32)), .val (.ref uA), .unset, .unset, .unset, .unset, .unset, .unset, .unset] [(.ref uA)]) rfl ?_
    obtain ⟨T270, X270, e270, st270⟩ := castY X269 hx hZ hown (hw _ (List.mem_of_getElem? (i := 44) rfl)) e269 (Ins.self X_uA) (g := (mkF m 12 #[.val (.ref a), .val (.int (3 : Int32)), .val (.ref uA), .unset, .unset, .unset, .unset, .unset, .unset, .unset] [(.ref uA)])) rfl rfl (hb hby d5_12)
    refine Go.movp st270 (mkF m 15 #[.val (.ref a), .val (.int (3 : Int32)), .val (.ref uA), .unset, .unset, .unset, .unset, .unset, .unset, .unset] [(.ref uA)]) rfl ?_
    refine g_astoreN X270 hx (hb hby d5_15) (pc' := 16) rfl rfl (Ls' := #[.val (.ref a), .val (.int (3 : Int32)), .val (.ref uA), .val (.ref uA), .unset, .unset, .unset, .unset, .unset, .unset]) rfl ?_
    refine g_aloadN X270 hx (hb hby d5_16) (pc' := 17) rfl rfl rfl ?_
    obtain ⟨T271, X271, e271, st271⟩ := getF X270 hx hZ hown (host := "") (Or.inl (hw _ (List.mem_of_getElem? (i := 47) rfl))) (Via.of (hw _ (List.mem_of_getElem? (i := 36) rfl))) e270 F_middles (g := (mkF m 17 #[.val (.ref a), .val (.int (3 : Int32)), .val (.ref uA), .val (.ref uA), .unset, .unset, .unset, .unset, .unset, .unset] [(.ref a)])) rfl rfl (hb hby d5_17)
    refine Go.movp st271 (mkF m 20 #[.val (.ref a), .val (.int (3 : Int32)), .val (.ref uA), .val (.ref uA), .unset, .unset, .unset, .unset, .unset, .unset] [(.ref mA)]) rfl ?_
    obtain ⟨T272, X272, e272, st272⟩ := castY X271 hx hZ hown (hw _ (List.mem_of_getElem? (i := 44) rfl)) e271 (Ins.self X_mA) (g := (mkF m 20 #[.val (.ref a), .val (.int (3 : Int32)), .val (.ref uA), .val (.ref uA), .unset, .unset, .unset, .unset, .unset, .unset] [(.ref mA)])) rfl rfl (hb hby d5_20)
    refine Go.movp st272 (mkF m 23 #[.val (.ref a), .val (.int (3 : Int32)), .val (.ref uA), .val (.ref uA), .unset, .unset, .unset, .unset, .unset, .unset] [(.ref mA)]) rfl ?_
    refine g_astore X272 hx (hb hby d5_23) (pc' := 25) rfl rfl (Ls' := #[.val (.ref a), .val (.int (3 : Int32)), .val (.ref uA), .val (.ref uA), .val (.ref mA), .unset, .unset, .unset, .unset, .unset]) rfl ?_
    refine g_aloadN X272 hx (hb hby d5_25) (pc' := 26) rfl rfl rfl ?_
    obtain ⟨T273, X273, e273, st273⟩ := getF X272 hx hZ hown (host := "") (Or.inl (hw _ (List.mem_of_getElem? (i := 48) rfl))) (Via.of (hw _ (List.mem_of_getElem? (i := 49) rfl))) e272 F_first (g := (mkF m 26 #[.val (.ref a), .val (.int (3 : Int32)), .val (.ref uA), .val (.ref uA), .val (.ref mA), .unset, .unset, .unset, .unset, .unset] [(.ref a)])) rfl rfl (hb hby d5_26)
    refine Go.movp st273 (mkF m 29 #[.val (.ref a), .val (.int (3 : Int32)), .val (.ref uA), .val (.ref uA), .val (.ref mA), .unset, .unset, .unset, .unset, .unset] [(.int f)]) rfl ?_
    refine g_istore X273 hx (hb hby d5_29) (pc' := 31) rfl (Ls' := #[.val (.ref a), .val (.int (3 : Int32)), .val (.ref uA), .val (.ref uA), .val (.ref mA), .val (.int f), .unset, .unset, .unset, .unset]) rfl ?_
    refine g_aloadN X273 hx (hb hby d5_31) (pc' := 32) rfl rfl rfl ?_
    obtain ⟨T274, X274, e274, st274⟩ := getF X273 hx hZ hown (host := "") (Or.inl (hw _ (List.mem_of_getElem? (i := 50) rfl))) (Via.of (hw _ (List.mem_of_getElem? (i := 51) rfl))) e273 F_last (g := (mkF m 32 #[.val (.ref a), .val (.int (3 : Int32)), .val (.ref uA), .val (.ref uA), .val (.ref mA), .val (.int f), .unset, .unset, .unset, .unset] [(.ref a)])) rfl rfl (hb hby d5_32)
    refine Go.movp st274 (mkF m 35 #[.val (.ref a), .val (.int (3 : Int32)), .val (.ref uA), .val (.ref uA), .val (.ref mA), .val (.int f), .unset, .unset, .unset, .unset] [(.int la)]) rfl ?_
    refine g_istore X274 hx (hb hby d5_35) (pc' := 37) rfl (Ls' := #[.val (.ref a), .val (.int (3 : Int32)), .val (.ref uA), .val (.ref uA), .val (.ref mA), .val (.int f), .val (.int la), .unset, .unset, .unset]) rfl ?_
    refine g_aloadN X274 hx (hb hby d5_37) (pc' := 38) rfl rfl rfl ?_
    obtain ⟨T275, X275, e275, st275⟩ := getF X274 hx hZ hown (host := "") (Or.inl (hw _ (List.mem_of_getElem? (i := 52) rfl))) (Via.of (hw _ (List.mem_of_getElem? (i := 53) rfl))) e274 F_middle (g := (mkF m 38 #[.val (.ref a), .val (.int (3 : Int32)), .val (.ref uA), .val (.ref uA), .val (.ref mA), .val (.int f), .val (.int la), .unset, .unset, .unset] [(.ref a)])) rfl rfl (hb hby d5_38)
    refine Go.movp st275 (mkF m 41 #[.val (.ref a), .val (.int (3 : Int32)), .val (.ref uA), .val (.ref uA), .val (.ref mA), .val (.int f), .val (.int la), .unset, .unset, .unset] [(.int mi)]) rfl ?_
    refine g_istore X275 hx (hb hby d5_41) (pc' := 43) rfl (Ls' := #[.val (.ref a), .val (.int (3 : Int32)), .val (.ref uA), .val (.ref uA), .val (.ref mA), .val (.int f), .val (.int la), .val (.int mi), .unset, .unset]) rfl ?_
    refine g_iconst X275 hx (hb hby d5_43) (pc' := 44) rfl (z := (0 : Int32)) rfl ?_
    refine g_istore X275 hx (hb hby d5_44) (pc' := 46) rfl (Ls' := #[.val (.ref a), .val (.int (3 : Int32)), .val (.ref uA), .val (.ref uA), .val (.ref mA), .val (.int f), .val (.int la), .val (.int mi), .val (.int (0 : Int32)), .unset]) rfl ?_
    refine g_iload X275 hx (hb hby d5_46) (pc' := 48) rfl rfl ?_
    refine g_iloadN X275 hx (hb hby d5_48) (pc' := 49) rfl rfl ?_
    refine g_icmp_ge X275 hx (hb hby d5_49) (pc1 := 52) rfl (by decide) (pc2 := 102) (by decide) (fun hc49 => absurd (by decide) hc49) (fun hc49 => ?_)
    refine g_aloadN X275 hx (hb hby d5_52) (pc' := 53) rfl rfl rfl ?_
    refine g_iload X275 hx (hb hby d5_53) (pc' := 55) rfl rfl ?_
    refine g_baload X275 hx hZ e275 V_uA (i := 0) (v := (.int u0)) (hb hby d5_55) (pc' := 56) rfl (by decide) rfl rfl ?_
    refine g_iload X275 hx (hb hby d5_56) (pc' := 58) rfl rfl ?_
    refine g_ixor X275 hx (hb hby d5_58) (pc' := 59) rfl ?_
    refine g_aloadN X275 hx (hb hby d5_59) (pc' := 60) rfl rfl rfl ?_
    refine g_iload X275 hx (hb hby d5_60) (pc' := 62) rfl rfl ?_
    refine g_baload X275 hx hZ e275 V_uA (i := 0) (v := (.int u0)) (hb hby d5_62) (pc' := 63) rfl (by decide) rfl rfl ?_
    refine g_iload X275 hx (hb hby d5_63) (pc' := 65) rfl rfl ?_
    refine g_ixor X275 hx (hb hby d5_65) (pc' := 66) rfl ?_
    refine g_ior X275 hx (hb hby d5_66) (pc' := 67) rfl ?_
    refine g_aload X275 hx (hb hby d5_67) (pc' := 69) rfl rfl rfl ?_
    refine g_iload X275 hx (hb hby d5_69) (pc' := 71) rfl rfl ?_
    refine g_baload X275 hx hZ e275 V_mA (i := 0) (v := (.int m0)) (hb hby d5_71) (pc' := 72) rfl (by decide) rfl rfl ?_
    refine g_iload X275 hx (hb hby d5_72) (pc' := 74) rfl rfl ?_
    refine g_ixor X275 hx (hb hby d5_74) (pc' := 75) rfl ?_
    refine g_ior X275 hx (hb hby d5_75) (pc' := 76) rfl ?_
    refine Go.cast (show (mkF m 76 #[.val (.ref a), .val (.int (3 : Int32)), .val (.ref uA), .val (.ref uA), .val (.ref mA), .val (.int f), .val (.int la), .val (.int mi), .val (.int (0 : Int32)), .unset] [(.int (((u0 ^^^ f) ||| (u0 ^^^ la)) ||| (m0 ^^^ mi)))]) = (mkF m 76 #[.val (.ref a), .val (.int (3 : Int32)), .val (.ref uA), .val (.ref uA), .val (.ref mA), .val (.int f), .val (.int la), .val (.int mi), .val (.int (0 : Int32)), .unset] [(.int (zV u0 u0 m0 f la mi))]) from by rw [show (((u0 ^^^ f) ||| (u0 ^^^ la)) ||| (m0 ^^^ mi)) = (zV u0 u0 m0 f la mi) from rfl]) ?_
    refine g_istore X275 hx (hb hby d5_76) (pc' := 78) rfl (Ls' := #[.val (.ref a), .val (.int (3 : Int32)), .val (.ref uA), .val (.ref uA), .val (.ref mA), .val (.int f), .val (.int la), .val (.int mi), .val (.int (0 : Int32)), .val (.int (zV u0 u0 m0 f la mi))]) rfl ?_
    refine g_aloadN X275 hx (hb hby d5_78) (pc' := 79) rfl rfl rfl ?_
    refine g_iload X275 hx (hb hby d5_79) (pc' := 81) rfl rfl ?_
    refine g_iload X275 hx (hb hby d5_81) (pc' := 83) rfl rfl ?_
    refine g_iconst X275 hx (hb hby d5_83) (pc' := 84) rfl (z := (1 : Int32)) rfl ?_
    refine g_isub X275 hx (hb hby d5_84) (pc' := 85) rfl ?_
    refine g_iload X275 hx (hb hby d5_85) (pc' := 87) rfl rfl ?_
    refine g_iconst X275 hx (hb hby d5_87) (pc' := 88) rfl (z := (-1 : Int32)) rfl ?_
    refine g_ixor X275 hx (hb hby d5_88) (pc' := 89) rfl ?_
    refine g_iand X275 hx (hb hby d5_89) (pc' := 90) rfl ?_
    refine g_sipush X275 hx (hb hby d5_90) (pc' := 93) rfl (z := (128 : Int32)) rfl ?_
    refine g_iand X275 hx (hb hby d5_93) (pc' := 94) rfl ?_
    refine g_i2b X275 hx (hb hby d5_94) (pc' := 95) rfl ?_
    refine Go.cast (show (mkF m 95 #[.val (.ref a), .val (.int (3 : Int32)), .val (.ref uA), .val (.ref uA), .val (.ref mA), .val (.int f), .val (.int la), .val (.int mi), .val (.int (0 : Int32)), .val (.int (zV u0 u0 m0 f la mi))] [(.int (byt ((((zV u0 u0 m0 f la mi) - (1 : Int32)) &&& ((zV u0 u0 m0 f la mi) ^^^ (-1 : Int32))) &&& (128 : Int32)))), (.int (0 : Int32)), (.ref uA)]) = (mkF m 95 #[.val (.ref a), .val (.int (3 : Int32)), .val (.ref uA), .val (.ref uA), .val (.ref mA), .val (.int f), .val (.int la), .val (.int mi), .val (.int (0 : Int32)), .val (.int (zV u0 u0 m0 f la mi))] [(.int (mkV u0 u0 m0 f la mi)), (.int (0 : Int32)), (.ref uA)]) from by rw [show (byt ((((zV u0 u0 m0 f la mi) - (1 : Int32)) &&& ((zV u0 u0 m0 f la mi) ^^^ (-1 : Int32))) &&& (128 : Int32))) = (mkV u0 u0 m0 f la mi) from rfl]) ?_
    obtain ⟨T276, h276, L276, X276, e276, N276, W276, V276, st276⟩ := h_bastore X275 hx hZ e275 N0 V_uA G1 (j := (0 : Int32)) (i := 0) (x := (mkV u0 u0 m0 f la mi)) (hb hby d5_95) (by decide) rfl rfl #[.val (.ref a), .val (.int (3 : Int32)), .val (.ref uA), .val (.ref uA), .val (.ref mA), .val (.int f), .val (.int la), .val (.int mi), .val (.int (0 : Int32)), .val (.int (zV u0 u0 m0 f la mi))] []
    have f277 := Fld.other W276 F_units (Or.inl ne_a)
    have f278 := Fld.other W276 F_lasts (Or.inl ne_a)
    have f279 := Fld.other W276 F_middles (Or.inl ne_a)
    have f280 := Fld.other W276 F_first (Or.inl ne_a)
    have f281 := Fld.other W276 F_last (Or.inl ne_a)
    have f282 := Fld.other W276 F_middle (Or.inl ne_a)
    have f283 := Exa.wr W276 X_uA
    have f284 := V_mA.other W276 ne_mA
    have f285 := Exa.wr W276 X_mA
    have Z286 : n0 ≤ h276.size := Nat.le_trans Z0 (Keep.of_wr W276).1
    have K287 := (Keep.refl h0 [uA]).wr W276 (Or.inl (List.mem_of_getElem? (i := 0) rfl))
    have f288 : Va Z h276 uA .byte [(.int (byt (mkV u0 u0 m0 f la mi))), (.int u1), (.int u2)] := V276
    have f289 : Va Z h276 uA .byte [(.int (mkV u0 u0 m0 f la mi)), (.int u1), (.int u2)] := by rw [show (byt (mkV u0 u0 m0 f la mi)) = (mkV u0 u0 m0 f la mi) from byt_byt _] at f288; exact f288
    refine Go.movp st276 (mkF m 96 #[.val (.ref a), .val (.int (3 : Int32)), .val (.ref uA), .val (.ref uA), .val (.ref mA), .val (.int f), .val (.int la), .val (.int mi), .val (.int (0 : Int32)), .val (.int (zV u0 u0 m0 f la mi))] []) rfl ?_
    refine g_iinc X276 hx (hb hby d5_96) (pc' := 99) rfl rfl (z := (1 : Int32)) rfl (Ls' := #[.val (.ref a), .val (.int (3 : Int32)), .val (.ref uA), .val (.ref uA), .val (.ref mA), .val (.int f), .val (.int la), .val (.int mi), .val (.int (1 : Int32)), .val (.int (zV u0 u0 m0 f la mi))]) rfl ?_
    refine g_goto X276 hx (hb hby d5_99) (by decide) (pc' := 46) (by decide) ?_
    refine g_iload X276 hx (hb hby d5_46) (pc' := 48) rfl rfl ?_
    refine g_iloadN X276 hx (hb hby d5_48) (pc' := 49) rfl rfl ?_
    refine g_icmp_ge X276 hx (hb hby d5_49) (pc1 := 52) rfl (by decide) (pc2 := 102) (by decide) (fun hc49_1 => absurd (by decide) hc49_1) (fun hc49_1 => ?_)
    refine g_aloadN X276 hx (hb hby d5_52) (pc' := 53) rfl rfl rfl ?_
    refine g_iload X276 hx (hb hby d5_53) (pc' := 55) rfl rfl ?_
    refine g_baload X276 hx hZ e276 f289 (i := 1) (v := (.int u1)) (hb hby d5_55) (pc' := 56) rfl (by decide) rfl rfl ?_
    refine g_iload X276 hx (hb hby d5_56) (pc' := 58) rfl rfl ?_
    refine g_ixor X276 hx (hb hby d5_58) (pc' := 59) rfl ?_
    refine g_aloadN X276 hx (hb hby d5_59) (pc' := 60) rfl rfl rfl ?_
    refine g_iload X276 hx (hb hby d5_60) (pc' := 62) rfl rfl ?_
    refine g_baload X276 hx hZ e276 f289 (i := 1) (v := (.int u1)) (hb hby d5_62) (pc' := 63) rfl (by decide) rfl rfl ?_
    refine g_iload X276 hx (hb hby d5_63) (pc' := 65) rfl rfl ?_
    refine g_ixor X276 hx (hb hby d5_65) (pc' := 66) rfl ?_
    refine g_ior X276 hx (hb hby d5_66) (pc' := 67) rfl ?_
    refine g_aload X276 hx (hb hby d5_67) (pc' := 69) rfl rfl rfl ?_
    refine g_iload X276 hx (hb hby d5_69) (pc' := 71) rfl rfl ?_
    refine g_baload X276 hx hZ e276 f284 (i := 1) (v := (.int m1)) (hb hby d5_71) (pc' := 72) rfl (by decide) rfl rfl ?_
    refine g_iload X276 hx (hb hby d5_72) (pc' := 74) rfl rfl ?_
    refine g_ixor X276 hx (hb hby d5_74) (pc' := 75) rfl ?_
    refine g_ior X276 hx (hb hby d5_75) (pc' := 76) rfl ?_
    refine Go.cast (show (mkF m 76 #[.val (.ref a), .val (.int (3 : Int32)), .val (.ref uA), .val (.ref uA), .val (.ref mA), .val (.int f), .val (.int la), .val (.int mi), .val (.int (1 : Int32)), .val (.int (zV u0 u0 m0 f la mi))] [(.int (((u1 ^^^ f) ||| (u1 ^^^ la)) ||| (m1 ^^^ mi)))]) = (mkF m 76 #[.val (.ref a), .val (.int (3 : Int32)), .val (.ref uA), .val (.ref uA), .val (.ref mA), .val (.int f), .val (.int la), .val (.int mi), .val (.int (1 : Int32)), .val (.int (zV u0 u0 m0 f la mi))] [(.int (zV u1 u1 m1 f la mi))]) from by rw [show (((u1 ^^^ f) ||| (u1 ^^^ la)) ||| (m1 ^^^ mi)) = (zV u1 u1 m1 f la mi) from rfl]) ?_
    refine g_istore X276 hx (hb hby d5_76) (pc' := 78) rfl (Ls' := #[.val (.ref a), .val (.int (3 : Int32)), .val (.ref uA), .val (.ref uA), .val (.ref mA), .val (.int f), .val (.int la), .val (.int mi), .val (.int (1 : Int32)), .val (.int (zV u1 u1 m1 f la mi))]) rfl ?_
    refine g_aloadN X276 hx (hb hby d5_78) (pc' := 79) rfl rfl rfl ?_
    refine g_iload X276 hx (hb hby d5_79) (pc' := 81) rfl rfl ?_
    refine g_iload X276 hx (hb hby d5_81) (pc' := 83) rfl rfl ?_
    refine g_iconst X276 hx (hb hby d5_83) (pc' := 84) rfl (z := (1 : Int32)) rfl ?_
    refine g_isub X276 hx (hb hby d5_84) (pc' := 85) rfl ?_
    refine g_iload X276 hx (hb hby d5_85) (pc' := 87) rfl rfl ?_
    refine g_iconst X276 hx (hb hby d5_87) (pc' := 88) rfl (z := (-1 : Int32)) rfl ?_
    refine g_ixor X276 hx (hb hby d5_88) (pc' := 89) rfl ?_
    refine g_iand X276 hx (hb hby d5_89) (pc' := 90) rfl ?_
    refine g_sipush X276 hx (hb hby d5_90) (pc' := 93) rfl (z := (128 : Int32)) rfl ?_
    refine g_iand X276 hx (hb hby d5_93) (pc' := 94) rfl ?_
    refine g_i2b X276 hx (hb hby d5_94) (pc' := 95) rfl ?_
    refine Go.cast (show (mkF m 95 #[.val (.ref a), .val (.int (3 : Int32)), .val (.ref uA), .val (.ref uA), .val (.ref mA), .val (.int f), .val (.int la), .val (.int mi), .val (.int (1 : Int32)), .val (.int (zV u1 u1 m1 f la mi))] [(.int (byt ((((zV u1 u1 m1 f la mi) - (1 : Int32)) &&& ((zV u1 u1 m1 f la mi) ^^^ (-1 : Int32))) &&& (128 : Int32)))), (.int (1 : Int32)), (.ref uA)]) = (mkF m 95 #[.val (.ref a), .val (.int (3 : Int32)), .val (.ref uA), .val (.ref uA), .val (.ref mA), .val (.int f), .val (.int la), .val (.int mi), .val (.int (1 : Int32)), .val (.int (zV u1 u1 m1 f la mi))] [(.int (mkV u1 u1 m1 f la mi)), (.int (1 : Int32)), (.ref uA)]) from by rw [show (byt ((((zV u1 u1 m1 f la mi) - (1 : Int32)) &&& ((zV u1 u1 m1 f la mi) ^^^ (-1 : Int32))) &&& (128 : Int32))) = (mkV u1 u1 m1 f la mi) from rfl]) ?_
    obtain ⟨T290, h290, L290, X290, e290, N290, W290, V290, st290⟩ := h_bastore X276 hx hZ e276 N276 f289 G1 (j := (1 : Int32)) (i := 1) (x := (mkV u1 u1 m1 f la mi)) (hb hby d5_95) (by decide) rfl rfl #[.val (.ref a), .val (.int (3 : Int32)), .val (.ref uA), .val (.ref uA), .val (.ref mA), .val (.int f), .val (.int la), .val (.int mi), .val (.int (1 : Int32)), .val (.int (zV u1 u1 m1 f la mi))] []
    have f291 := Fld.other W290 f277 (Or.inl ne_a)
    have f292 := Fld.other W290 f278 (Or.inl ne_a)
    have f293 := Fld.other W290 f279 (Or.inl ne_a)
    have f294 := Fld.other W290 f280 (Or.inl ne_a)
    have f295 := Fld.other W290 f281 (Or.inl ne_a)
    have f296 := Fld.other W290 f282 (Or.inl ne_a)
    have f297 := Exa.wr W290 f283
    have f298 := f284.other W290 ne_mA
    have f299 := Exa.wr W290 f285
    have Z300 : n0 ≤ h290.size := Nat.le_trans Z286 (Keep.of_wr W290).1
    have K301 := K287.wr W290 (Or.inl (List.mem_of_getElem? (i := 0) rfl))
    have f302 : Va Z h290 uA .byte [(.int (mkV u0 u0 m0 f la mi)), (.int (byt (mkV u1 u1 m1 f la mi))), (.int u2)] := V290
    have f303 : Va Z h290 uA .byte [(.int (mkV u0 u0 m0 f la mi)), (.int (mkV u1 u1 m1 f la mi)), (.int u2)] := by rw [show (byt (mkV u1 u1 m1 f la mi)) = (mkV u1 u1 m1 f la mi) from byt_byt _] at f302; exact f302
    refine Go.movp st290 (mkF m 96 #[.val (.ref a), .val (.int (3 : Int32)), .val (.ref uA), .val (.ref uA), .val (.ref mA), .val (.int f), .val (.int la), .val (.int mi), .val (.int (1 : Int32)), .val (.int (zV u1 u1 m1 f la mi))] []) rfl ?_
    refine g_iinc X290 hx (hb hby d5_96) (pc' := 99) rfl rfl (z := (1 : Int32)) rfl (Ls' := #[.val (.ref a), .val (.int (3 : Int32)), .val (.ref uA), .val (.ref uA), .val (.ref mA), .val (.int f), .val (.int la), .val (.int mi), .val (.int (2 : Int32)), .val (.int (zV u1 u1 m1 f la mi))]) rfl ?_
    refine g_goto X290 hx (hb hby d5_99) (by decide) (pc' := 46) (by decide) ?_
    refine g_iload X290 hx (hb hby d5_46) (pc' := 48) rfl rfl ?_
    refine g_iloadN X290 hx (hb hby d5_48) (pc' := 49) rfl rfl ?_
    refine g_icmp_ge X290 hx (hb hby d5_49) (pc1 := 52) rfl (by decide) (pc2 := 102) (by decide) (fun hc49_2 => absurd (by decide) hc49_2) (fun hc49_2 => ?_)
    refine g_aloadN X290 hx (hb hby d5_52) (pc' := 53) rfl rfl rfl ?_
    refine g_iload X290 hx (hb hby d5_53) (pc' := 55) rfl rfl ?_
    refine g_baload X290 hx hZ e290 f303 (i := 2) (v := (.int u2)) (hb hby d5_55) (pc' := 56) rfl (by decide) rfl rfl ?_
    refine g_iload X290 hx (hb hby d5_56) (pc' := 58) rfl rfl ?_
    refine g_ixor X290 hx (hb hby d5_58) (pc' := 59) rfl ?_
    refine g_aloadN X290 hx (hb hby d5_59) (pc' := 60) rfl rfl rfl ?_
    refine g_iload X290 hx (hb hby d5_60) (pc' := 62) rfl rfl ?_
    refine g_baload X290 hx hZ e290 f303 (i := 2) (v := (.int u2)) (hb hby d5_62) (pc' := 63) rfl (by decide) rfl rfl ?_
    refine g_iload X290 hx (hb hby d5_63) (pc' := 65) rfl rfl ?_
    refine g_ixor X290 hx (hb hby d5_65) (pc' := 66) rfl ?_
    refine g_ior X290 hx (hb hby d5_66) (pc' := 67) rfl ?_
    refine g_aload X290 hx (hb hby d5_67) (pc' := 69) rfl rfl rfl ?_
    refine g_iload X290 hx (hb hby d5_69) (pc' := 71) rfl rfl ?_
    refine g_baload X290 hx hZ e290 f298 (i := 2) (v := (.int m2)) (hb hby d5_71) (pc' := 72) rfl (by decide) rfl rfl ?_
    refine g_iload X290 hx (hb hby d5_72) (pc' := 74) rfl rfl ?_
    refine g_ixor X290 hx (hb hby d5_74) (pc' := 75) rfl ?_
    refine g_ior X290 hx (hb hby d5_75) (pc' := 76) rfl ?_
    refine Go.cast (show (mkF m 76 #[.val (.ref a), .val (.int (3 : Int32)), .val (.ref uA), .val (.ref uA), .val (.ref mA), .val (.int f), .val (.int la), .val (.int mi), .val (.int (2 : Int32)), .val (.int (zV u1 u1 m1 f la mi))] [(.int (((u2 ^^^ f) ||| (u2 ^^^ la)) ||| (m2 ^^^ mi)))]) = (mkF m 76 #[.val (.ref a), .val (.int (3 : Int32)), .val (.ref uA), .val (.ref uA), .val (.ref mA), .val (.int f), .val (.int la), .val (.int mi), .val (.int (2 : Int32)), .val (.int (zV u1 u1 m1 f la mi))] [(.int (zV u2 u2 m2 f la mi))]) from by rw [show (((u2 ^^^ f) ||| (u2 ^^^ la)) ||| (m2 ^^^ mi)) = (zV u2 u2 m2 f la mi) from rfl]) ?_
    refine g_istore X290 hx (hb hby d5_76) (pc' := 78) rfl (Ls' := #[.val (.ref a), .val (.int (3 : Int32)), .val (.ref uA), .val (.ref uA), .val (.ref mA), .val (.int f), .val (.int la), .val (.int mi), .val (.int (2 : Int32)), .val (.int (zV u2 u2 m2 f la mi))]) rfl ?_
    refine g_aloadN X290 hx (hb hby d5_78) (pc' := 79) rfl rfl rfl ?_
    refine g_iload X290 hx (hb hby d5_79) (pc' := 81) rfl rfl ?_
    refine g_iload X290 hx (hb hby d5_81) (pc' := 83) rfl rfl ?_
    refine g_iconst X290 hx (hb hby d5_83) (pc' := 84) rfl (z := (1 : Int32)) rfl ?_
    refine g_isub X290 hx (hb hby d5_84) (pc' := 85) rfl ?_
    refine g_iload X290 hx (hb hby d5_85) (pc' := 87) rfl rfl ?_
    refine g_iconst X290 hx (hb hby d5_87) (pc' := 88) rfl (z := (-1 : Int32)) rfl ?_
    refine g_ixor X290 hx (hb hby d5_88) (pc' := 89) rfl ?_
    refine g_iand X290 hx (hb hby d5_89) (pc' := 90) rfl ?_
    refine g_sipush X290 hx (hb hby d5_90) (pc' := 93) rfl (z := (128 : Int32)) rfl ?_
    refine g_iand X290 hx (hb hby d5_93) (pc' := 94) rfl ?_
    refine g_i2b X290 hx (hb hby d5_94) (pc' := 95) rfl ?_
    refine Go.cast (show (mkF m 95 #[.val (.ref a), .val (.int (3 : Int32)), .val (.ref uA), .val (.ref uA), .val (.ref mA), .val (.int f), .val (.int la), .val (.int mi), .val (.int (2 : Int32)), .val (.int (zV u2 u2 m2 f la mi))] [(.int (byt ((((zV u2 u2 m2 f la mi) - (1 : Int32)) &&& ((zV u2 u2 m2 f la mi) ^^^ (-1 : Int32))) &&& (128 : Int32)))), (.int (2 : Int32)), (.ref uA)]) = (mkF m 95 #[.val (.ref a), .val (.int (3 : Int32)), .val (.ref uA), .val (.ref uA), .val (.ref mA), .val (.int f), .val (.int la), .val (.int mi), .val (.int (2 : Int32)), .val (.int (zV u2 u2 m2 f la mi))] [(.int (mkV u2 u2 m2 f la mi)), (.int (2 : Int32)), (.ref uA)]) from by rw [show (byt ((((zV u2 u2 m2 f la mi) - (1 : Int32)) &&& ((zV u2 u2 m2 f la mi) ^^^ (-1 : Int32))) &&& (128 : Int32))) = (mkV u2 u2 m2 f la mi) from rfl]) ?_
    obtain ⟨T304, h304, L304, X304, e304, N304, W304, V304, st304⟩ := h_bastore X290 hx hZ e290 N290 f303 G1 (j := (2 : Int32)) (i := 2) (x := (mkV u2 u2 m2 f la mi)) (hb hby d5_95) (by decide) rfl rfl #[.val (.ref a), .val (.int (3 : Int32)), .val (.ref uA), .val (.ref uA), .val (.ref mA), .val (.int f), .val (.int la), .val (.int mi), .val (.int (2 : Int32)), .val (.int (zV u2 u2 m2 f la mi))] []
    have f305 := Fld.other W304 f291 (Or.inl ne_a)
    have f306 := Fld.other W304 f292 (Or.inl ne_a)
    have f307 := Fld.other W304 f293 (Or.inl ne_a)
    have f308 := Fld.other W304 f294 (Or.inl ne_a)
    have f309 := Fld.other W304 f295 (Or.inl ne_a)
    have f310 := Fld.other W304 f296 (Or.inl ne_a)
    have f311 := Exa.wr W304 f297
    have f312 := f298.other W304 ne_mA
    have f313 := Exa.wr W304 f299
    have Z314 : n0 ≤ h304.size := Nat.le_trans Z300 (Keep.of_wr W304).1
    have K315 := K301.wr W304 (Or.inl (List.mem_of_getElem? (i := 0) rfl))
    have f316 : Va Z h304 uA .byte [(.int (mkV u0 u0 m0 f la mi)), (.int (mkV u1 u1 m1 f la mi)), (.int (byt (mkV u2 u2 m2 f la mi)))] := V304
    have f317 : Va Z h304 uA .byte [(.int (mkV u0 u0 m0 f la mi)), (.int (mkV u1 u1 m1 f la mi)), (.int (mkV u2 u2 m2 f la mi))] := by rw [show (byt (mkV u2 u2 m2 f la mi)) = (mkV u2 u2 m2 f la mi) from byt_byt _] at f316; exact f316
    refine Go.movp st304 (mkF m 96 #[.val (.ref a), .val (.int (3 : Int32)), .val (.ref uA), .val (.ref uA), .val (.ref mA), .val (.int f), .val (.int la), .val (.int mi), .val (.int (2 : Int32)), .val (.int (zV u2 u2 m2 f la mi))] []) rfl ?_
    refine g_iinc X304 hx (hb hby d5_96) (pc' := 99) rfl rfl (z := (1 : Int32)) rfl (Ls' := #[.val (.ref a), .val (.int (3 : Int32)), .val (.ref uA), .val (.ref uA), .val (.ref mA), .val (.int f), .val (.int la), .val (.int mi), .val (.int (3 : Int32)), .val (.int (zV u2 u2 m2 f la mi))]) rfl ?_
    refine g_goto X304 hx (hb hby d5_99) (by decide) (pc' := 46) (by decide) ?_
    refine g_iload X304 hx (hb hby d5_46) (pc' := 48) rfl rfl ?_
    refine g_iloadN X304 hx (hb hby d5_48) (pc' := 49) rfl rfl ?_
    refine g_icmp_ge X304 hx (hb hby d5_49) (pc1 := 52) rfl (by decide) (pc2 := 102) (by decide) (fun hc49_3 => ?_) (fun hc49_3 => absurd hc49_3 (by decide))
    exact g_return X304 hx hret (hb hby d5_102) N304 hlk (fun v t => endF (by decide) (by decide) v) (by rw [e304]; exact ⟨rfl, K315, Va.eq f317 (by rw [hx0, hx1, hx2])⟩)
theorem ef_5_2 (x0 : Addr) (x1 : Int32) (m : MethodId) : entryFrame m #[(.ref x0), (.int x1)] 10 = mkF m 0 #[.val (.ref x0), .val (.int x1), .unset, .unset, .unset, .unset, .unset, .unset, .unset, .unset] [] := by first | (simp [entryFrame, mkF, argsToLocals, Value.category]; done) | rfl
def Q5_2 (Z : State) (a : Addr) (uA : Addr) (lA : Addr) (u0 : Int32) (u1 : Int32) (u2 : Int32) (l0 : Int32) (l1 : Int32) (l2 : Int32) (f : Int32) (la : Int32) (mi : Int32) (n : Int32) (w0 : Int32) (w1 : Int32) (w2 : Int32) (h0 : Heap) (n0 : Nat) : Option Value → Heap → Prop := fun v h => v = none ∧ Keep h0 h [uA] ∧ Va Z h uA .byte [(.int w0), (.int w1), (.int w2)]
set_option maxRecDepth 65536 in
set_option maxHeartbeats 40000000 in
theorem rm5_2 (l : Launch) (Z : State) (a0 : Array Value) (hw : ∀ d ∈ tables_1, d.before a0 Z = true) (a : Addr) (uA : Addr) (lA : Addr) (u0 : Int32) (u1 : Int32) (u2 : Int32) (l0 : Int32) (l1 : Int32) (l2 : Int32) (f : Int32) (la : Int32) (mi : Int32) (n : Int32) (w0 : Int32) (w1 : Int32) (w2 : Int32) (h0 : Heap) (n0 : Nat) (Z0 : n0 ≤ h0.size) (F_units : Fld Z h0 a "com/example/needlework/needlework/PackedBlock" "units" "Ljava/lang/Object;" (.ref uA)) (F_lasts : Fld Z h0 a "com/example/needlework/needlework/PackedBlock" "lasts" "Ljava/lang/Object;" (.ref lA)) (F_middles : Fld Z h0 a "com/example/needlework/needlework/PackedBlock" "middles" "Ljava/lang/Object;" (.ref lA)) (F_first : Fld Z h0 a "com/example/needlework/needlework/PackedBlock" "first" "I" (.int f)) (F_last : Fld Z h0 a "com/example/needlework/needlework/PackedBlock" "last" "I" (.int la)) (F_middle : Fld Z h0 a "com/example/needlework/needlework/PackedBlock" "middle" "I" (.int mi)) (V_uA : Va Z h0 uA .byte [(.int u0), (.int u1), (.int u2)]) (V_lA : Va Z h0 lA .byte [(.int l0), (.int l1), (.int l2)]) (X_uA : Exa Z h0 uA "[B") (X_lA : Exa Z h0 lA "[B") (G1 : n0 ≤ uA) (ne_lA : lA ≠ uA) (ne_a : a ≠ uA) (hn : n = 0 ∨ n = 1 ∨ n = 2 ∨ n = 3) (hw0 : w0 = (if (0 : Int32) < n then (mkV u0 l0 l0 f la mi) else u0)) (hw1 : w1 = (if (1 : Int32) < n then (mkV u1 l1 l1 f la mi) else u1)) (hw2 : w2 = (if (2 : Int32) < n then (mkV u2 l2 l2 f la mi) else u2)) : Ctr l Z (⟨"com/example/needlework/needlework/PackedBlock$Bytes", "mark", "(I)V"⟩ : MethodName) prog_17_method_4_code 10 none ({ frames := 0, cells := 0, slots := 0, locals := 0 } : Room) #[(.ref a), (.int n)] h0 n0 (Q5_2 Z a uA lA u0 u1 u2 l0 l1 l2 f la mi n w0 w1 w2 h0 n0) := by
  refine Ctr.of (plainFor_of_name pn_2) (ef_5_2 a n) ?_
  intro p e s m below meth c T0 hx hby hml hown hnm hret hlk hZ X0 e0
  have N0 := Fr.nil n0
  rcases hn with rfl | rfl | rfl | rfl
  · skip
    have hx0 := hw0.trans (if_neg (by decide))
    have hx1 := hw1.trans (if_neg (by decide))
    have hx2 := hw2.trans (if_neg (by decide))
    refine g_aloadN X0 hx (hb hby d5_0) (pc' := 1) rfl rfl rfl ?_
    obtain ⟨T318, X318, e318, st318⟩ := getF X0 hx hZ hown (host := "") (Or.inl (hw _ (List.mem_of_getElem? (i := 43) rfl))) (Via.of (hw _ (List.mem_of_getElem? (i := 30) rfl))) e0 F_units (g := (mkF m 1 #[.val (.ref a), .val (.int (0 : Int32)), .unset, .unset, .unset, .unset, .unset, .unset, .unset, .unset] [(.ref a)])) rfl rfl (hb hby d5_1)
    refine Go.movp st318 (mkF m 4 #[.val (.ref a), .val (.int (0 : Int32)), .unset, .unset, .unset, .unset, .unset, .unset, .unset, .unset] [(.ref uA)]) rfl ?_
    obtain ⟨T319, X319, e319, st319⟩ := castY X318 hx hZ hown (hw _ (List.mem_of_getElem? (i := 44) rfl)) e318 (Ins.self X_uA) (g := (mkF m 4 #[.val (.ref a), .val (.int (0 : Int32)), .unset, .unset, .unset, .unset, .unset, .unset, .unset, .unset] [(.ref uA)])) rfl rfl (hb hby d5_4)
    refine Go.movp st319 (mkF m 7 #[.val (.ref a), .val (.int (0 : Int32)), .unset, .unset, .unset, .unset, .unset, .unset, .unset, .unset] [(.ref uA)]) rfl ?_
    refine g_astoreN X319 hx (hb hby d5_7) (pc' := 8) rfl rfl (Ls' := #[.val (.ref a), .val (.int (0 : Int32)), .val (.ref uA), .unset, .unset, .unset, .unset, .unset, .unset, .unset]) rfl ?_
    refine g_aloadN X319 hx (hb hby d5_8) (pc' := 9) rfl rfl rfl ?_
    obtain ⟨T320, X320, e320, st320⟩ := getF X319 hx hZ hown (host := "") (Or.inl (hw _ (List.mem_of_getElem? (i := 46) rfl))) (Via.of (hw _ (List.mem_of_getElem? (i := 33) rfl))) e319 F_lasts (g := (mkF m 9 #[.val (.ref a), .val (.int (0 : Int32)), .val (.ref uA), .unset, .unset, .unset, .unset, .unset, .unset, .unset] [(.ref a)])) rfl rfl (hb hby d5_9)
    refine Go.movp st320 (mkF m 12 #[.val (.ref a), .val (.int (0 : Int32)), .val (.ref uA), .unset, .unset, .unset, .unset, .unset, .unset, .unset] [(.ref lA)]) rfl ?_
    obtain ⟨T321, X321, e321, st321⟩ := castY X320 hx hZ hown (hw _ (List.mem_of_getElem? (i := 44) rfl)) e320 (Ins.self X_lA) (g := (mkF m 12 #[.val (.ref a), .val (.int (0 : Int32)), .val (.ref uA), .unset, .unset, .unset, .unset, .unset, .unset, .unset] [(.ref lA)])) rfl rfl (hb hby d5_12)
    refine Go.movp st321 (mkF m 15 #[.val (.ref a), .val (.int (0 : Int32)), .val (.ref uA), .unset, .unset, .unset, .unset, .unset, .unset, .unset] [(.ref lA)]) rfl ?_
    refine g_astoreN X321 hx (hb hby d5_15) (pc' := 16) rfl rfl (Ls' := #[.val (.ref a), .val (.int (0 : Int32)), .val (.ref uA), .val (.ref lA), .unset, .unset, .unset, .unset, .unset, .unset]) rfl ?_
    refine g_aloadN X321 hx (hb hby d5_16) (pc' := 17) rfl rfl rfl ?_
    obtain ⟨T322, X322, e322, st322⟩ := getF X321 hx hZ hown (host := "") (Or.inl (hw _ (List.mem_of_getElem? (i := 47) rfl))) (Via.of (hw _ (List.mem_of_getElem? (i := 36) rfl))) e321 F_middles (g := (mkF m 17 #[.val (.ref a), .val (.int (0 : Int32)), .val (.ref uA), .val (.ref lA), .unset, .unset, .unset, .unset, .unset, .unset] [(.ref a)])) rfl rfl (hb hby d5_17)
    refine Go.movp st322 (mkF m 20 #[.val (.ref a), .val (.int (0 : Int32)), .val (.ref uA), .val (.ref lA), .unset, .unset, .unset, .unset, .unset, .unset] [(.ref lA)]) rfl ?_
    obtain ⟨T323, X323, e323, st323⟩ := castY X322 hx hZ hown (hw _ (List.mem_of_getElem? (i := 44) rfl)) e322 (Ins.self X_lA) (g := (mkF m 20 #[.val (.ref a), .val (.int (0 : Int32)), .val (.ref uA), .val (.ref lA), .unset, .unset, .unset, .unset, .unset, .unset] [(.ref lA)])) rfl rfl (hb hby d5_20)
    refine Go.movp st323 (mkF m 23 #[.val (.ref a), .val (.int (0 : Int32)), .val (.ref uA), .val (.ref lA), .unset, .unset, .unset, .unset, .unset, .unset] [(.ref lA)]) rfl ?_
    refine g_astore X323 hx (hb hby d5_23) (pc' := 25) rfl rfl (Ls' := #[.val (.ref a), .val (.int (0 : Int32)), .val (.ref uA), .val (.ref lA), .val (.ref lA), .unset, .unset, .unset, .unset, .unset]) rfl ?_
    refine g_aloadN X323 hx (hb hby d5_25) (pc' := 26) rfl rfl rfl ?_
    obtain ⟨T324, X324, e324, st324⟩ := getF X323 hx hZ hown (host := "") (Or.inl (hw _ (List.mem_of_getElem? (i := 48) rfl))) (Via.of (hw _ (List.mem_of_getElem? (i := 49) rfl))) e323 F_first (g := (mkF m 26 #[.val (.ref a), .val (.int (0 : Int32)), .val (.ref uA), .val (.ref lA), .val (.ref lA), .unset, .unset, .unset, .unset, .unset] [(.ref a)])) rfl rfl (hb hby d5_26)
    refine Go.movp st324 (mkF m 29 #[.val (.ref a), .val (.int (0 : Int32)), .val (.ref uA), .val (.ref lA), .val (.ref lA), .unset, .unset, .unset, .unset, .unset] [(.int f)]) rfl ?_
    refine g_istore X324 hx (hb hby d5_29) (pc' := 31) rfl (Ls' := #[.val (.ref a), .val (.int (0 : Int32)), .val (.ref uA), .val (.ref lA), .val (.ref lA), .val (.int f), .unset, .unset, .unset, .unset]) rfl ?_
    refine g_aloadN X324 hx (hb hby d5_31) (pc' := 32) rfl rfl rfl ?_
    obtain ⟨T325, X325, e325, st325⟩ := getF X324 hx hZ hown (host := "") (Or.inl (hw _ (List.mem_of_getElem? (i := 50) rfl))) (Via.of (hw _ (List.mem_of_getElem? (i := 51) rfl))) e324 F_last (g := (mkF m 32 #[.val (.ref a), .val (.int (0 : Int32)), .val (.ref uA), .val (.ref lA), .val (.ref lA), .val (.int f), .unset, .unset, .unset, .unset] [(.ref a)])) rfl rfl (hb hby d5_32)
    refine Go.movp st325 (mkF m 35 #[.val (.ref a), .val (.int (0 : Int32)), .val (.ref uA), .val (.ref lA), .val (.ref lA), .val (.int f), .unset, .unset, .unset, .unset] [(.int la)]) rfl ?_
    refine g_istore X325 hx (hb hby d5_35) (pc' := 37) rfl (Ls' := #[.val (.ref a), .val (.int (0 : Int32)), .val (.ref uA), .val (.ref lA), .val (.ref lA), .val (.int f), .val (.int la), .unset, .unset, .unset]) rfl ?_
    refine g_aloadN X325 hx (hb hby d5_37) (pc' := 38) rfl rfl rfl ?_
    obtain ⟨T326, X326, e326, st326⟩ := getF X325 hx hZ hown (host := "") (Or.inl (hw _ (List.mem_of_getElem? (i := 52) rfl))) (Via.of (hw _ (List.mem_of_getElem? (i := 53) rfl))) e325 F_middle (g := (mkF m 38 #[.val (.ref a), .val (.int (0 : Int32)), .val (.ref uA), .val (.ref lA), .val (.ref lA), .val (.int f), .val (.int la), .unset, .unset, .unset] [(.ref a)])) rfl rfl (hb hby d5_38)
    refine Go.movp st326 (mkF m 41 #[.val (.ref a), .val (.int (0 : Int32)), .val (.ref uA), .val (.ref lA), .val (.ref lA), .val (.int f), .val (.int la), .unset, .unset, .unset] [(.int mi)]) rfl ?_
    refine g_istore X326 hx (hb hby d5_41) (pc' := 43) rfl (Ls' := #[.val (.ref a), .val (.int (0 : Int32)), .val (.ref uA), .val (.ref lA), .val (.ref lA), .val (.int f), .val (.int la), .val (.int mi), .unset, .unset]) rfl ?_
    refine g_iconst X326 hx (hb hby d5_43) (pc' := 44) rfl (z := (0 : Int32)) rfl ?_
    refine g_istore X326 hx (hb hby d5_44) (pc' := 46) rfl (Ls' := #[.val (.ref a), .val (.int (0 : Int32)), .val (.ref uA), .val (.ref lA), .val (.ref lA), .val (.int f), .val (.int la), .val (.int mi), .val (.int (0 : Int32)), .unset]) rfl ?_
    refine g_iload X326 hx (hb hby d5_46) (pc' := 48) rfl rfl ?_
    refine g_iloadN X326 hx (hb hby d5_48) (pc' := 49) rfl rfl ?_
    refine g_icmp_ge X326 hx (hb hby d5_49) (pc1 := 52) rfl (by decide) (pc2 := 102) (by decide) (fun hc49 => ?_) (fun hc49 => absurd hc49 (by decide))
    exact g_return X326 hx hret (hb hby d5_102) N0 hlk (fun v t => endF (by decide) (by decide) v) (by rw [e326]; exact ⟨rfl, (Keep.refl h0 [uA]), Va.eq V_uA (by rw [hx0, hx1, hx2])⟩)
  · skip
    have hx0 := hw0.trans (if_pos (by decide))
    have hx1 := hw1.trans (if_neg (by decide))
    have hx2 := hw2.trans (if_neg (by decide))
    refine g_aloadN X0 hx (hb hby d5_0) (pc' := 1) rfl rfl rfl ?_
    obtain ⟨T327, X327, e327, st327⟩ := getF X0 hx hZ hown (host := "") (Or.inl (hw _ (List.mem_of_getElem? (i := 43) rfl))) (Via.of (hw _ (List.mem_of_getElem? (i := 30) rfl))) e0 F_units (g := (mkF m 1 #[.val (.ref a), .val (.int (1 : Int32)), .unset, .unset, .unset, .unset, .unset, .unset, .unset, .unset] [(.ref a)])) rfl rfl (hb hby d5_1)
    refine Go.movp st327 (mkF m 4 #[.val (.ref a), .val (.int (1 : Int32)), .unset, .unset, .unset, .unset, .unset, .unset, .unset, .unset] [(.ref uA)]) rfl ?_
    obtain ⟨T328, X328, e328, st328⟩ := castY X327 hx hZ hown (hw _ (List.mem_of_getElem? (i := 44) rfl)) e327 (Ins.self X_uA) (g := (mkF m 4 #[.val (.ref a), .val (.int (1 : Int32)), .unset, .unset, .unset, .unset, .unset, .unset, .unset, .unset] [(.ref uA)])) rfl rfl (hb hby d5_4)
    refine Go.movp st328 (mkF m 7 #[.val (.ref a), .val (.int (1 : Int32)), .unset, .unset, .unset, .unset, .unset, .unset, .unset, .unset] [(.ref uA)]) rfl ?_
    refine g_astoreN X328 hx (hb hby d5_7) (pc' := 8) rfl rfl (Ls' := #[.val (.ref a), .val (.int (1 : Int32)), .val (.ref uA), .unset, .unset, .unset, .unset, .unset, .unset, .unset]) rfl ?_
    refine g_aloadN X328 hx (hb hby d5_8) (pc' := 9) rfl rfl rfl ?_
    obtain ⟨T329, X329, e329, st329⟩ := getF X328 hx hZ hown (host := "") (Or.inl (hw _ (List.mem_of_getElem? (i := 46) rfl))) (Via.of (hw _ (List.mem_of_getElem? (i := 33) rfl))) e328 F_lasts (g := (mkF m 9 #[.val (.ref a), .val (.int (1 : Int32)), .val (.ref uA), .unset, .unset, .unset, .unset, .unset, .unset, .unset] [(.ref a)])) rfl rfl (hb hby d5_9)
    refine Go.movp st329 (mkF m 12 #[.val (.ref a), .val (.int (1 : Int32)), .val (.ref uA), .unset, .unset, .unset, .unset, .unset, .unset, .unset] [(.ref lA)]) rfl ?_
    obtain ⟨T330, X330, e330, st330⟩ := castY X329 hx hZ hown (hw _ (List.mem_of_getElem? (i := 44) rfl)) e329 (Ins.self X_lA) (g := (mkF m 12 #[.val (.ref a), .val (.int (1 : Int32)), .val (.ref uA), .unset, .unset, .unset, .unset, .unset, .unset, .unset] [(.ref lA)])) rfl rfl (hb hby d5_12)
    refine Go.movp st330 (mkF m 15 #[.val (.ref a), .val (.int (1 : Int32)), .val (.ref uA), .unset, .unset, .unset, .unset, .unset, .unset, .unset] [(.ref lA)]) rfl ?_
    refine g_astoreN X330 hx (hb hby d5_15) (pc' := 16) rfl rfl (Ls' := #[.val (.ref a), .val (.int (1 : Int32)), .val (.ref uA), .val (.ref lA), .unset, .unset, .unset, .unset, .unset, .unset]) rfl ?_
    refine g_aloadN X330 hx (hb hby d5_16) (pc' := 17) rfl rfl rfl ?_
    obtain ⟨T331, X331, e331, st331⟩ := getF X330 hx hZ hown (host := "") (Or.inl (hw _ (List.mem_of_getElem? (i := 47) rfl))) (Via.of (hw _ (List.mem_of_getElem? (i := 36) rfl))) e330 F_middles (g := (mkF m 17 #[.val (.ref a), .val (.int (1 : Int32)), .val (.ref uA), .val (.ref lA), .unset, .unset, .unset, .unset, .unset, .unset] [(.ref a)])) rfl rfl (hb hby d5_17)
    refine Go.movp st331 (mkF m 20 #[.val (.ref a), .val (.int (1 : Int32)), .val (.ref uA), .val (.ref lA), .unset, .unset, .unset, .unset, .unset, .unset] [(.ref lA)]) rfl ?_
    obtain ⟨T332, X332, e332, st332⟩ := castY X331 hx hZ hown (hw _ (List.mem_of_getElem? (i := 44) rfl)) e331 (Ins.self X_lA) (g := (mkF m 20 #[.val (.ref a), .val (.int (1 : Int32)), .val (.ref uA), .val (.ref lA), .unset, .unset, .unset, .unset, .unset, .unset] [(.ref lA)])) rfl rfl (hb hby d5_20)
    refine Go.movp st332 (mkF m 23 #[.val (.ref a), .val (.int (1 : Int32)), .val (.ref uA), .val (.ref lA), .unset, .unset, .unset, .unset, .unset, .unset] [(.ref lA)]) rfl ?_
    refine g_astore X332 hx (hb hby d5_23) (pc' := 25) rfl rfl (Ls' := #[.val (.ref a), .val (.int (1 : Int32)), .val (.ref uA), .val (.ref lA), .val (.ref lA), .unset, .unset, .unset, .unset, .unset]) rfl ?_
    refine g_aloadN X332 hx (hb hby d5_25) (pc' := 26) rfl rfl rfl ?_
    obtain ⟨T333, X333, e333, st333⟩ := getF X332 hx hZ hown (host := "") (Or.inl (hw _ (List.mem_of_getElem? (i := 48) rfl))) (Via.of (hw _ (List.mem_of_getElem? (i := 49) rfl))) e332 F_first (g := (mkF m 26 #[.val (.ref a), .val (.int (1 : Int32)), .val (.ref uA), .val (.ref lA), .val (.ref lA), .unset, .unset, .unset, .unset, .unset] [(.ref a)])) rfl rfl (hb hby d5_26)
    refine Go.movp st333 (mkF m 29 #[.val (.ref a), .val (.int (1 : Int32)), .val (.ref uA), .val (.ref lA), .val (.ref lA), .unset, .unset, .unset, .unset, .unset] [(.int f)]) rfl ?_
    refine g_istore X333 hx (hb hby d5_29) (pc' := 31) rfl (Ls' := #[.val (.ref a), .val (.int (1 : Int32)), .val (.ref uA), .val (.ref lA), .val (.ref lA), .val (.int f), .unset, .unset, .unset, .unset]) rfl ?_
    refine g_aloadN X333 hx (hb hby d5_31) (pc' := 32) rfl rfl rfl ?_
    obtain ⟨T334, X334, e334, st334⟩ := getF X333 hx hZ hown (host := "") (Or.inl (hw _ (List.mem_of_getElem? (i := 50) rfl))) (Via.of (hw _ (List.mem_of_getElem? (i := 51) rfl))) e333 F_last (g := (mkF m 32 #[.val (.ref a), .val (.int (1 : Int32)), .val (.ref uA), .val (.ref lA), .val (.ref lA), .val (.int f), .unset, .unset, .unset, .unset] [(.ref a)])) rfl rfl (hb hby d5_32)
    refine Go.movp st334 (mkF m 35 #[.val (.ref a), .val (.int (1 : Int32)), .val (.ref uA), .val (.ref lA), .val (.ref lA), .val (.int f), .unset, .unset, .unset, .unset] [(.int la)]) rfl ?_
    refine g_istore X334 hx (hb hby d5_35) (pc' := 37) rfl (Ls' := #[.val (.ref a), .val (.int (1 : Int32)), .val (.ref uA), .val (.ref lA), .val (.ref lA), .val (.int f), .val (.int la), .unset, .unset, .unset]) rfl ?_
    refine g_aloadN X334 hx (hb hby d5_37) (pc' := 38) rfl rfl rfl ?_
    obtain ⟨T335, X335, e335, st335⟩ := getF X334 hx hZ hown (host := "") (Or.inl (hw _ (List.mem_of_getElem? (i := 52) rfl))) (Via.of (hw _ (List.mem_of_getElem? (i := 53) rfl))) e334 F_middle (g := (mkF m 38 #[.val (.ref a), .val (.int (1 : Int32)), .val (.ref uA), .val (.ref lA), .val (.ref lA), .val (.int f), .val (.int la), .unset, .unset, .unset] [(.ref a)])) rfl rfl (hb hby d5_38)
    refine Go.movp st335 (mkF m 41 #[.val (.ref a), .val (.int (1 : Int32)), .val (.ref uA), .val (.ref lA), .val (.ref lA), .val (.int f), .val (.int la), .unset, .unset, .unset] [(.int mi)]) rfl ?_
    refine g_istore X335 hx (hb hby d5_41) (pc' := 43) rfl (Ls' := #[.val (.ref a), .val (.int (1 : Int32)), .val (.ref uA), .val (.ref lA), .val (.ref lA), .val (.int f), .val (.int la), .val (.int mi), .unset, .unset]) rfl ?_
    refine g_iconst X335 hx (hb hby d5_43) (pc' := 44) rfl (z := (0 : Int32)) rfl ?_
    refine g_istore X335 hx (hb hby d5_44) (pc' := 46) rfl (Ls' := #[.val (.ref a), .val (.int (1 : Int32)), .val (.ref uA), .val (.ref lA), .val (.ref lA), .val (.int f), .val (.int la), .val (.int mi), .val (.int (0 : Int32)), .unset]) rfl ?_
    refine g_iload X335 hx (hb hby d5_46) (pc' := 48) rfl rfl ?_
    refine g_iloadN X335 hx (hb hby d5_48) (pc' := 49) rfl rfl ?_
    refine g_icmp_ge X335 hx (hb hby d5_49) (pc1 := 52) rfl (by decide) (pc2 := 102) (by decide) (fun hc49 => absurd (by decide) hc49) (fun hc49 => ?_)
    refine g_aloadN X335 hx (hb hby d5_52) (pc' := 53) rfl rfl rfl ?_
    refine g_iload X335 hx (hb hby d5_53) (pc' := 55) rfl rfl ?_
    refine g_baload X335 hx hZ e335 V_uA (i := 0) (v := (.int u0)) (hb hby d5_55) (pc' := 56) rfl (by decide) rfl rfl ?_
    refine g_iload X335 hx (hb hby d5_56) (pc' := 58) rfl rfl ?_
    refine g_ixor X335 hx (hb hby d5_58) (pc' := 59) rfl ?_
    refine g_aloadN X335 hx (hb hby d5_59) (pc' := 60) rfl rfl rfl ?_
    refine g_iload X335 hx (hb hby d5_60) (pc' := 62) rfl rfl ?_
    refine g_baload X335 hx hZ e335 V_lA (i := 0) (v := (.int l0)) (hb hby d5_62) (pc' := 63) rfl (by decide) rfl rfl ?_
    refine g_iload X335 hx (hb hby d5_63) (pc' := 65) rfl rfl ?_
    refine g_ixor X335 hx (hb hby d5_65) (pc' := 66) rfl ?_
    refine g_ior X335 hx (hb hby d5_66) (pc' := 67) rfl ?_
    refine g_aload X335 hx (hb hby d5_67) (pc' := 69) rfl rfl rfl ?_
    refine g_iload X335 hx (hb hby d5_69) (pc' := 71) rfl rfl ?_
    refine g_baload X335 hx hZ e335 V_lA (i := 0) (v := (.int l0)) (hb hby d5_71) (pc' := 72) rfl (by decide) rfl rfl ?_
    refine g_iload X335 hx (hb hby d5_72) (pc' := 74) rfl rfl ?_
    refine g_ixor X335 hx (hb hby d5_74) (pc' := 75) rfl ?_
    refine g_ior X335 hx (hb hby d5_75) (pc' := 76) rfl ?_
    refine Go.cast (show (mkF m 76 #[.val (.ref a), .val (.int (1 : Int32)), .val (.ref uA), .val (.ref lA), .val (.ref lA), .val (.int f), .val (.int la), .val (.int mi), .val (.int (0 : Int32)), .unset] [(.int (((u0 ^^^ f) ||| (l0 ^^^ la)) ||| (l0 ^^^ mi)))]) = (mkF m 76 #[.val (.ref a), .val (.int (1 : Int32)), .val (.ref uA), .val (.ref lA), .val (.ref lA), .val (.int f), .val (.int la), .val (.int mi), .val (.int (0 : Int32)), .unset] [(.int (zV u0 l0 l0 f la mi))]) from by rw [show (((u0 ^^^ f) ||| (l0 ^^^ la)) ||| (l0 ^^^ mi)) = (zV u0 l0 l0 f la mi) from rfl]) ?_
    refine g_istore X335 hx (hb hby d5_76) (pc' := 78) rfl (Ls' := #[.val (.ref a), .val (.int (1 : Int32)), .val (.ref uA), .val (.ref lA), .val (.ref lA), .val (.int f), .val (.int la), .val (.int mi), .val (.int (0 : Int32)), .val (.int (zV u0 l0 l0 f la mi))]) rfl ?_
    refine g_aloadN X335 hx (hb hby d5_78) (pc' := 79) rfl rfl rfl ?_
    refine g_iload X335 hx (hb hby d5_79) (pc' := 81) rfl rfl ?_
    refine g_iload X335 hx (hb hby d5_81) (pc' := 83) rfl rfl ?_
    refine g_iconst X335 hx (hb hby d5_83) (pc' := 84) rfl (z := (1 : Int32)) rfl ?_
    refine g_isub X335 hx (hb hby d5_84) (pc' := 85) rfl ?_
    refine g_iload X335 hx (hb hby d5_85) (pc' := 87) rfl rfl ?_
    refine g_iconst X335 hx (hb hby d5_87) (pc' := 88) rfl (z := (-1 : Int32)) rfl ?_
    refine g_ixor X335 hx (hb hby d5_88) (pc' := 89) rfl ?_
    refine g_iand X335 hx (hb hby d5_89) (pc' := 90) rfl ?_
    refine g_sipush X335 hx (hb hby d5_90) (pc' := 93) rfl (z := (128 : Int32)) rfl ?_
    refine g_iand X335 hx (hb hby d5_93) (pc' := 94) rfl ?_
    refine g_i2b X335 hx (hb hby d5_94) (pc' := 95) rfl ?_
    refine Go.cast (show (mkF m 95 #[.val (.ref a), .val (.int (1 : Int32)), .val (.ref uA), .val (.ref lA), .val (.ref lA), .val (.int f), .val (.int la), .val (.int mi), .val (.int (0 : Int32)), .val (.int (zV u0 l0 l0 f la mi))] [(.int (byt ((((zV u0 l0 l0 f la mi) - (1 : Int32)) &&& ((zV u0 l0 l0 f la mi) ^^^ (-1 : Int32))) &&& (128 : Int32)))), (.int (0 : Int32)), (.ref uA)]) = (mkF m 95 #[.val (.ref a), .val (.int (1 : Int32)), .val (.ref uA), .val (.ref lA), .val (.ref lA), .val (.int f), .val (.int la), .val (.int mi), .val (.int (0 : Int32)), .val (.int (zV u0 l0 l0 f la mi))] [(.int (mkV u0 l0 l0 f la mi)), (.int (0 : Int32)), (.ref uA)]) from by rw [show (byt ((((zV u0 l0 l0 f la mi) - (1 : Int32)) &&& ((zV u0 l0 l0 f la mi) ^^^ (-1 : Int32))) &&& (128 : Int32))) = (mkV u0 l0 l0 f la mi) from rfl]) ?_
    obtain ⟨T336, h336, L336, X336, e336, N336, W336, V336, st336⟩ := h_bastore X335 hx hZ e335 N0 V_uA G1 (j := (0 : Int32)) (i := 0) (x := (mkV u0 l0 l0 f la mi)) (hb hby d5_95) (by decide) rfl rfl #[.val (.ref a), .val (.int (1 : Int32)), .val (.ref uA), .val (.ref lA), .val (.ref lA), .val (.int f), .val (.int la), .val (.int mi), .val (.int (0 : Int32)), .val (.int (zV u0 l0 l0 f la mi))] []
    have f337 := Fld.other W336 F_units (Or.inl ne_a)
    have f338 := Fld.other W336 F_lasts (Or.inl ne_a)
    have f339 := Fld.other W336 F_middles (Or.inl ne_a)
    have f340 := Fld.other W336 F_first (Or.inl ne_a)
    have f341 := Fld.other W336 F_last (Or.inl ne_a)
    have f342 := Fld.other W336 F_middle (Or.inl ne_a)
    have f343 := Exa.wr W336 X_uA
    have f344 := V_lA.other W336 ne_lA
    have f345 := Exa.wr W336 X_lA
    have Z346 : n0 ≤ h336.size := Nat.le_trans Z0 (Keep.of_wr W336).1
    have K347 := (Keep.refl h0 [uA]).wr W336 (Or.inl (List.mem_of_getElem? (i := 0) rfl))
    have f348 : Va Z h336 uA .byte [(.int (byt (mkV u0 l0 l0 f la mi))), (.int u1), (.int u2)] := V336
    have f349 : Va Z h336 uA .byte [(.int (mkV u0 l0 l0 f la mi)), (.int u1), (.int u2)] := by rw [show (byt (mkV u0 l0 l0 f la mi)) = (mkV u0 l0 l0 f la mi) from byt_byt _] at f348; exact f348
    refine Go.movp st336 (mkF m 96 #[.val (.ref a), .val (.int (1 : Int32)), .val (.ref uA), .val (.ref lA), .val (.ref lA), .val (.int f), .val (.int la), .val (.int mi), .val (.int (0 : Int32)), .val (.int (zV u0 l0 l0 f la mi))] []) rfl ?_
    refine g_iinc X336 hx (hb hby d5_96) (pc' := 99) rfl rfl (z := (1 : Int32)) rfl (Ls' := #[.val (.ref a), .val (.int (1 : Int32)), .val (.ref uA), .val (.ref lA), .val (.ref lA), .val (.int f), .val (.int la), .val (.int mi), .val (.int (1 : Int32)), .val (.int (zV u0 l0 l0 f la mi))]) rfl ?_
    refine g_goto X336 hx (hb hby d5_99) (by decide) (pc' := 46) (by decide) ?_
    refine g_iload X336 hx (hb hby d5_46) (pc' := 48) rfl rfl ?_
    refine g_iloadN X336 hx (hb hby d5_48) (pc' := 49) rfl rfl ?_
    refine g_icmp_ge X336 hx (hb hby d5_49) (pc1 := 52) rfl (by decide) (pc2 := 102) (by decide) (fun hc49_1 => ?_) (fun hc49_1 => absurd hc49_1 (by decide))
    exact g_return X336 hx hret (hb hby d5_102) N336 hlk (fun v t => endF (by decide) (by decide) v) (by rw [e336]; exact ⟨rfl, K347, Va.eq f349 (by rw [hx0, hx1, hx2])⟩)
  · skip
    have hx0 := hw0.trans (if_pos (by decide))
    have hx1 := hw1.trans (if_pos (by decide))
    have hx2 := hw2.trans (if_neg (by decide))
    refine g_aloadN X0 hx (hb hby d5_0) (pc' := 1) rfl rfl rfl ?_
    obtain ⟨T350, X350, e350, st350⟩ := getF X0 hx hZ hown (host := "") (Or.inl (hw _ (List.mem_of_getElem? (i := 43) rfl))) (Via.of (hw _ (List.mem_of_getElem? (i := 30) rfl))) e0 F_units (g := (mkF m 1 #[.val (.ref a), .val (.int (2 : Int32)), .unset, .unset, .unset, .unset, .unset, .unset, .unset, .unset] [(.ref a)])) rfl rfl (hb hby d5_1)
    refine Go.movp st350 (mkF m 4 #[.val (.ref a), .val (.int (2 : Int32)), .unset, .unset, .unset, .unset, .unset, .unset, .unset, .unset] [(.ref uA)]) rfl ?_
    obtain ⟨T351, X351, e351, st351⟩ := castY X350 hx hZ hown (hw _ (List.mem_of_getElem? (i := 44) rfl)) e350 (Ins.self X_uA) (g := (mkF m 4 #[.val (.ref a), .val (.int (2 : Int32)), .unset, .unset, .unset, .unset, .unset, .unset, .unset, .unset] [(.ref uA)])) rfl rfl (hb hby d5_4)
    refine Go.movp st351 (mkF m 7 #[.val (.ref a), .val (.int (2 : Int32)), .unset, .unset, .unset, .unset, .unset, .unset, .unset, .unset] [(.ref uA)]) rfl ?_
    refine g_astoreN X351 hx (hb hby d5_7) (pc' := 8) rfl rfl (Ls' := #[.val (.ref a), .val (.int (2 : Int32)), .val (.ref uA), .unset, .unset, .unset, .unset, .unset, .unset, .unset]) rfl ?_
    refine g_aloadN X351 hx (hb hby d5_8) (pc' := 9) rfl rfl rfl ?_
    obtain ⟨T352, X352, e352, st352⟩ := getF X351 hx hZ hown (host := "") (Or.inl (hw _ (List.mem_of_getElem? (i := 46) rfl))) (Via.of (hw _ (List.mem_of_getElem? (i := 33) rfl))) e351 F_lasts (g := (mkF m 9 #[.val (.ref a), .val (.int (2 : Int32)), .val (.ref uA), .unset, .unset, .unset, .unset, .unset, .unset, .unset] [(.ref a)])) rfl rfl (hb hby d5_9)
    refine Go.movp st352 (mkF m 12 #[.val (.ref a), .val (.int (2 : Int32)), .val (.ref uA), .unset, .unset, .unset, .unset, .unset, .unset, .unset] [(.ref lA)]) rfl ?_
    obtain ⟨T353, X353, e353, st353⟩ := castY X352 hx hZ hown (hw _ (List.mem_of_getElem? (i := 44) rfl)) e352 (Ins.self X_lA) (g := (mkF m 12 #[.val (.ref a), .val (.int (2 : Int32)), .val (.ref uA), .unset, .unset, .unset, .unset, .unset, .unset, .unset] [(.ref lA)])) rfl rfl (hb hby d5_12)
    refine Go.movp st353 (mkF m 15 #[.val (.ref a), .val (.int (2 : Int32)), .val (.ref uA), .unset, .unset, .unset, .unset, .unset, .unset, .unset] [(.ref lA)]) rfl ?_
    refine g_astoreN X353 hx (hb hby d5_15) (pc' := 16) rfl rfl (Ls' := #[.val (.ref a), .val (.int (2 : Int32)), .val (.ref uA), .val (.ref lA), .unset, .unset, .unset, .unset, .unset, .unset]) rfl ?_
    refine g_aloadN X353 hx (hb hby d5_16) (pc' := 17) rfl rfl rfl ?_
    obtain ⟨T354, X354, e354, st354⟩ := getF X353 hx hZ hown (host := "") (Or.inl (hw _ (List.mem_of_getElem? (i := 47) rfl))) (Via.of (hw _ (List.mem_of_getElem? (i := 36) rfl))) e353 F_middles (g := (mkF m 17 #[.val (.ref a), .val (.int (2 : Int32)), .val (.ref uA), .val (.ref lA), .unset, .unset, .unset, .unset, .unset, .unset] [(.ref a)])) rfl rfl (hb hby d5_17)
    refine Go.movp st354 (mkF m 20 #[.val (.ref a), .val (.int (2 : Int32)), .val (.ref uA), .val (.ref lA), .unset, .unset, .unset, .unset, .unset, .unset] [(.ref lA)]) rfl ?_
    obtain ⟨T355, X355, e355, st355⟩ := castY X354 hx hZ hown (hw _ (List.mem_of_getElem? (i := 44) rfl)) e354 (Ins.self X_lA) (g := (mkF m 20 #[.val (.ref a), .val (.int (2 : Int32)), .val (.ref uA), .val (.ref lA), .unset, .unset, .unset, .unset, .unset, .unset] [(.ref lA)])) rfl rfl (hb hby d5_20)
    refine Go.movp st355 (mkF m 23 #[.val (.ref a), .val (.int (2 : Int32)), .val (.ref uA), .val (.ref lA), .unset, .unset, .unset, .unset, .unset, .unset] [(.ref lA)]) rfl ?_
    refine g_astore X355 hx (hb hby d5_23) (pc' := 25) rfl rfl (Ls' := #[.val (.ref a), .val (.int (2 : Int32)), .val (.ref uA), .val (.ref lA), .val (.ref lA), .unset, .unset, .unset, .unset, .unset]) rfl ?_
    refine g_aloadN X355 hx (hb hby d5_25) (pc' := 26) rfl rfl rfl ?_
    obtain ⟨T356, X356, e356, st356⟩ := getF X355 hx hZ hown (host := "") (Or.inl (hw _ (List.mem_of_getElem? (i := 48) rfl))) (Via.of (hw _ (List.mem_of_getElem? (i := 49) rfl))) e355 F_first (g := (mkF m 26 #[.val (.ref a), .val (.int (2 : Int32)), .val (.ref uA), .val (.ref lA), .val (.ref lA), .unset, .unset, .unset, .unset, .unset] [(.ref a)])) rfl rfl (hb hby d5_26)
    refine Go.movp st356 (mkF m 29 #[.val (.ref a), .val (.int (2 : Int32)), .val (.ref uA), .val (.ref lA), .val (.ref lA), .unset, .unset, .unset, .unset, .unset] [(.int f)]) rfl ?_
    refine g_istore X356 hx (hb hby d5_29) (pc' := 31) rfl (Ls' := #[.val (.ref a), .val (.int (2 : Int32)), .val (.ref uA), .val (.ref lA), .val (.ref lA), .val (.int f), .unset, .unset, .unset, .unset]) rfl ?_
    refine g_aloadN X356 hx (hb hby d5_31) (pc' := 32) rfl rfl rfl ?_
    obtain ⟨T357, X357, e357, st357⟩ := getF X356 hx hZ hown (host := "") (Or.inl (hw _ (List.mem_of_getElem? (i := 50) rfl))) (Via.of (hw _ (List.mem_of_getElem? (i := 51) rfl))) e356 F_last (g := (mkF m 32 #[.val (.ref a), .val (.int (2 : Int32)), .val (.ref uA), .val (.ref lA), .val (.ref lA), .val (.int f), .unset, .unset, .unset, .unset] [(.ref a)])) rfl rfl (hb hby d5_32)
    refine Go.movp st357 (mkF m 35 #[.val (.ref a), .val (.int (2 : Int32)), .val (.ref uA), .val (.ref lA), .val (.ref lA), .val (.int f), .unset, .unset, .unset, .unset] [(.int la)]) rfl ?_
    refine g_istore X357 hx (hb hby d5_35) (pc' := 37) rfl (Ls' := #[.val (.ref a), .val (.int (2 : Int32)), .val (.ref uA), .val (.ref lA), .val (.ref lA), .val (.int f), .val (.int la), .unset, .unset, .unset]) rfl ?_
    refine g_aloadN X357 hx (hb hby d5_37) (pc' := 38) rfl rfl rfl ?_
    obtain ⟨T358, X358, e358, st358⟩ := getF X357 hx hZ hown (host := "") (Or.inl (hw _ (List.mem_of_getElem? (i := 52) rfl))) (Via.of (hw _ (List.mem_of_getElem? (i := 53) rfl))) e357 F_middle (g := (mkF m 38 #[.val (.ref a), .val (.int (2 : Int32)), .val (.ref uA), .val (.ref lA), .val (.ref lA), .val (.int f), .val (.int la), .unset, .unset, .unset] [(.ref a)])) rfl rfl (hb hby d5_38)
    refine Go.movp st358 (mkF m 41 #[.val (.ref a), .val (.int (2 : Int32)), .val (.ref uA), .val (.ref lA), .val (.ref lA), .val (.int f), .val (.int la), .unset, .unset, .unset] [(.int mi)]) rfl ?_
    refine g_istore X358 hx (hb hby d5_41) (pc' := 43) rfl (Ls' := #[.val (.ref a), .val (.int (2 : Int32)), .val (.ref uA), .val (.ref lA), .val (.ref lA), .val (.int f), .val (.int la), .val (.int mi), .unset, .unset]) rfl ?_
    refine g_iconst X358 hx (hb hby d5_43) (pc' := 44) rfl (z := (0 : Int32)) rfl ?_
    refine g_istore X358 hx (hb hby d5_44) (pc' := 46) rfl (Ls' := #[.val (.ref a), .val (.int (2 : Int32)), .val (.ref uA), .val (.ref lA), .val (.ref lA), .val (.int f), .val (.int la), .val (.int mi), .val (.int (0 : Int32)), .unset]) rfl ?_
    refine g_iload X358 hx (hb hby d5_46) (pc' := 48) rfl rfl ?_
    refine g_iloadN X358 hx (hb hby d5_48) (pc' := 49) rfl rfl ?_
    refine g_icmp_ge X358 hx (hb hby d5_49) (pc1 := 52) rfl (by decide) (pc2 := 102) (by decide) (fun hc49 => absurd (by decide) hc49) (fun hc49 => ?_)
    refine g_aloadN X358 hx (hb hby d5_52) (pc' := 53) rfl rfl rfl ?_
    refine g_iload X358 hx (hb hby d5_53) (pc' := 55) rfl rfl ?_
    refine g_baload X358 hx hZ e358 V_uA (i := 0) (v := (.int u0)) (hb hby d5_55) (pc' := 56) rfl (by decide) rfl rfl ?_
    refine g_iload X358 hx (hb hby d5_56) (pc' := 58) rfl rfl ?_
    refine g_ixor X358 hx (hb hby d5_58) (pc' := 59) rfl ?_
    refine g_aloadN X358 hx (hb hby d5_59) (pc' := 60) rfl rfl rfl ?_
    refine g_iload X358 hx (hb hby d5_60) (pc' := 62) rfl rfl ?_
    refine g_baload X358 hx hZ e358 V_lA (i := 0) (v := (.int l0)) (hb hby d5_62) (pc' := 63) rfl (by decide) rfl rfl ?_
    refine g_iload X358 hx (hb hby d5_63) (pc' := 65) rfl rfl ?_
    refine g_ixor X358 hx (hb hby d5_65) (pc' := 66) rfl ?_
    refine g_ior X358 hx (hb hby d5_66) (pc' := 67) rfl ?_
    refine g_aload X358 hx (hb hby d5_67) (pc' := 69) rfl rfl rfl ?_
    refine g_iload X358 hx (hb hby d5_69) (pc' := 71) rfl rfl ?_
    refine g_baload X358 hx hZ e358 V_lA (i := 0) (v := (.int l0)) (hb hby d5_71) (pc' := 72) rfl (by decide) rfl rfl ?_
    refine g_iload X358 hx (hb hby d5_72) (pc' := 74) rfl rfl ?_
    refine g_ixor X358 hx (hb hby d5_74) (pc' := 75) rfl ?_
    refine g_ior X358 hx (hb hby d5_75) (pc' := 76) rfl ?_
    refine Go.cast (show (mkF m 76 #[.val (.ref a), .val (.int (2 : Int32)), .val (.ref uA), .val (.ref lA), .val (.ref lA), .val (.int f), .val (.int la), .val (.int mi), .val (.int (0 : Int32)), .unset] [(.int (((u0 ^^^ f) ||| (l0 ^^^ la)) ||| (l0 ^^^ mi)))]) = (mkF m 76 #[.val (.ref a), .val (.int (2 : Int32)), .val (.ref uA), .val (.ref lA), .val (.ref lA), .val (.int f), .val (.int la), .val (.int mi), .val (.int (0 : Int32)), .unset] [(.int (zV u0 l0 l0 f la mi))]) from by rw [show (((u0 ^^^ f) ||| (l0 ^^^ la)) ||| (l0 ^^^ mi)) = (zV u0 l0 l0 f la mi) from rfl]) ?_
    refine g_istore X358 hx (hb hby d5_76) (pc' := 78) rfl (Ls' := #[.val (.ref a), .val (.int (2 : Int32)), .val (.ref uA), .val (.ref lA), .val (.ref lA), .val (.int f), .val (.int la), .val (.int mi), .val (.int (0 : Int32)), .val (.int (zV u0 l0 l0 f la mi))]) rfl ?_
    refine g_aloadN X358 hx (hb hby d5_78) (pc' := 79) rfl rfl rfl ?_
    refine g_iload X358 hx (hb hby d5_79) (pc' := 81) rfl rfl ?_
    refine g_iload X358 hx (hb hby d5_81) (pc' := 83) rfl rfl ?_
    refine g_iconst X358 hx (hb hby d5_83) (pc' := 84) rfl (z := (1 : Int32)) rfl ?_
    refine g_isub X358 hx (hb hby d5_84) (pc' := 85) rfl ?_
    refine g_iload X358 hx (hb hby d5_85) (pc' := 87) rfl rfl ?_
    refine g_iconst X358 hx (hb hby d5_87) (pc' := 88) rfl (z := (-1 : Int32)) rfl ?_
    refine g_ixor X358 hx (hb hby d5_88) (pc' := 89) rfl ?_
    refine g_iand X358 hx (hb hby d5_89) (pc' := 90) rfl ?_
    refine g_sipush X358 hx (hb hby d5_90) (pc' := 93) rfl (z := (128 : Int32)) rfl ?_
    refine g_iand X358 hx (hb hby d5_93) (pc' := 94) rfl ?_
    refine g_i2b X358 hx (hb hby d5_94) (pc' := 95) rfl ?_
    refine Go.cast (show (mkF m 95 #[.val (.ref a), .val (.int (2 : Int32)), .val (.ref uA), .val (.ref lA), .val (.ref lA), .val (.int f), .val (.int la), .val (.int mi), .val (.int (0 : Int32)), .val (.int (zV u0 l0 l0 f la mi))] [(.int (byt ((((zV u0 l0 l0 f la mi) - (1 : Int32)) &&& ((zV u0 l0 l0 f la mi) ^^^ (-1 : Int32))) &&& (128 : Int32)))), (.int (0 : Int32)), (.ref uA)]) = (mkF m 95 #[.val (.ref a), .val (.int (2 : Int32)), .val (.ref uA), .val (.ref lA), .val (.ref lA), .val (.int f), .val (.int la), .val (.int mi), .val (.int (0 : Int32)), .val (.int (zV u0 l0 l0 f la mi))] [(.int (mkV u0 l0 l0 f la mi)), (.int (0 : Int32)), (.ref uA)]) from by rw [show (byt ((((zV u0 l0 l0 f la mi) - (1 : Int32)) &&& ((zV u0 l0 l0 f la mi) ^^^ (-1 : Int32))) &&& (128 : Int32))) = (mkV u0 l0 l0 f la mi) from rfl]) ?_
    obtain ⟨T359, h359, L359, X359, e359, N359, W359, V359, st359⟩ := h_bastore X358 hx hZ e358 N0 V_uA G1 (j := (0 : Int32)) (i := 0) (x := (mkV u0 l0 l0 f la mi)) (hb hby d5_95) (by decide) rfl rfl #[.val (.ref a), .val (.int (2 : Int32)), .val (.ref uA), .val (.ref lA), .val (.ref lA), .val (.int f), .val (.int la), .val (.int mi), .val (.int (0 : Int32)), .val (.int (zV u0 l0 l0 f la mi))] []
    have f360 := Fld.other W359 F_units (Or.inl ne_a)
    have f361 := Fld.other W359 F_lasts (Or.inl ne_a)
    have f362 := Fld.other W359 F_middles (Or.inl ne_a)
    have f363 := Fld.other W359 F_first (Or.inl ne_a)
    have f364 := Fld.other W359 F_last (Or.inl ne_a)
    have f365 := Fld.other W359 F_middle (Or.inl ne_a)
    have f366 := Exa.wr W359 X_uA
    have f367 := V_lA.other W359 ne_lA
    have f368 := Exa.wr W359 X_lA
    have Z369 : n0 ≤ h359.size := Nat.le_trans Z0 (Keep.of_wr W359).1
    have K370 := (Keep.refl h0 [uA]).wr W359 (Or.inl (List.mem_of_getElem? (i := 0) rfl))
    have f371 : Va Z h359 uA .byte [(.int (byt (mkV u0 l0 l0 f la mi))), (.int u1), (.int u2)] := V359
    have f372 : Va Z h359 uA .byte [(.int (mkV u0 l0 l0 f la mi)), (.int u1), (.int u2)] := by rw [show (byt (mkV u0 l0 l0 f la mi)) = (mkV u0 l0 l0 f la mi) from byt_byt _] at f371; exact f371
    refine Go.movp st359 (mkF m 96 #[.val (.ref a), .val (.int (2 : Int32)), .val (.ref uA), .val (.ref lA), .val (.ref lA), .val (.int f), .val (.int la), .val (.int mi), .val (.int (0 : Int32)), .val (.int (zV u0 l0 l0 f la mi))] []) rfl ?_
    refine g_iinc X359 hx (hb hby d5_96) (pc' := 99) rfl rfl (z := (1 : Int32)) rfl (Ls' := #[.val (.ref a), .val (.int (2 : Int32)), .val (.ref uA), .val (.ref lA), .val (.ref lA), .val (.int f), .val (.int la), .val (.int mi), .val (.int (1 : Int32)), .val (.int (zV u0 l0 l0 f la mi))]) rfl ?_
    refine g_goto X359 hx (hb hby d5_99) (by decide) (pc' := 46) (by decide) ?_
    refine g_iload X359 hx (hb hby d5_46) (pc' := 48) rfl rfl ?_
    refine g_iloadN X359 hx (hb hby d5_48) (pc' := 49) rfl rfl ?_
    refine g_icmp_ge X359 hx (hb hby d5_49) (pc1 := 52) rfl (by decide) (pc2 := 102) (by decide) (fun hc49_1 => absurd (by decide) hc49_1) (fun hc49_1 => ?_)
    refine g_aloadN X359 hx (hb hby d5_52) (pc' := 53) rfl rfl rfl ?_
    refine g_iload X359 hx (hb hby d5_53) (pc' := 55) rfl rfl ?_
    refine g_baload X359 hx hZ e359 f372 (i := 1) (v := (.int u1)) (hb hby d5_55) (pc' := 56) rfl (by decide) rfl rfl ?_
    refine g_iload X359 hx (hb hby d5_56) (pc' := 58) rfl rfl ?_
    refine g_ixor X359 hx (hb hby d5_58) (pc' := 59) rfl ?_
    refine g_aloadN X359 hx (hb hby d5_59) (pc' := 60) rfl rfl rfl ?_
    refine g_iload X359 hx (hb hby d5_60) (pc' := 62) rfl rfl ?_
    refine g_baload X359 hx hZ e359 f367 (i := 1) (v := (.int l1)) (hb hby d5_62) (pc' := 63) rfl (by decide) rfl rfl ?_
    refine g_iload X359 hx (hb hby d5_63) (pc' := 65) rfl rfl ?_
    refine g_ixor X359 hx (hb hby d5_65) (pc' := 66) rfl ?_
    refine g_ior X359 hx (hb hby d5_66) (pc' := 67) rfl ?_
    refine g_aload X359 hx (hb hby d5_67) (pc' := 69) rfl rfl rfl ?_
    refine g_iload X359 hx (hb hby d5_69) (pc' := 71) rfl rfl ?_
    refine g_baload X359 hx hZ e359 f367 (i := 1) (v := (.int l1)) (hb hby d5_71) (pc' := 72) rfl (by decide) rfl rfl ?_
    refine g_iload X359 hx (hb hby d5_72) (pc' := 74) rfl rfl ?_
    refine g_ixor X359 hx (hb hby d5_74) (pc' := 75) rfl ?_
    refine g_ior X359 hx (hb hby d5_75) (pc' := 76) rfl ?_
    refine Go.cast (show (mkF m 76 #[.val (.ref a), .val (.int (2 : Int32)), .val (.ref uA), .val (.ref lA), .val (.ref lA), .val (.int f), .val (.int la), .val (.int mi), .val (.int (1 : Int32)), .val (.int (zV u0 l0 l0 f la mi))] [(.int (((u1 ^^^ f) ||| (l1 ^^^ la)) ||| (l1 ^^^ mi)))]) = (mkF m 76 #[.val (.ref a), .val (.int (2 : Int32)), .val (.ref uA), .val (.ref lA), .val (.ref lA), .val (.int f), .val (.int la), .val (.int mi), .val (.int (1 : Int32)), .val (.int (zV u0 l0 l0 f la mi))] [(.int (zV u1 l1 l1 f la mi))]) from by rw [show (((u1 ^^^ f) ||| (l1 ^^^ la)) ||| (l1 ^^^ mi)) = (zV u1 l1 l1 f la mi) from rfl]) ?_
    refine g_istore X359 hx (hb hby d5_76) (pc' := 78) rfl (Ls' := #[.val (.ref a), .val (.int (2 : Int32)), .val (.ref uA), .val (.ref lA), .val (.ref lA), .val (.int f), .val (.int la), .val (.int mi), .val (.int (1 : Int32)), .val (.int (zV u1 l1 l1 f la mi))]) rfl ?_
    refine g_aloadN X359 hx (hb hby d5_78) (pc' := 79) rfl rfl rfl ?_
    refine g_iload X359 hx (hb hby d5_79) (pc' := 81) rfl rfl ?_
    refine g_iload X359 hx (hb hby d5_81) (pc' := 83) rfl rfl ?_
    refine g_iconst X359 hx (hb hby d5_83) (pc' := 84) rfl (z := (1 : Int32)) rfl ?_
    refine g_isub X359 hx (hb hby d5_84) (pc' := 85) rfl ?_
    refine g_iload X359 hx (hb hby d5_85) (pc' := 87) rfl rfl ?_
    refine g_iconst X359 hx (hb hby d5_87) (pc' := 88) rfl (z := (-1 : Int32)) rfl ?_
    refine g_ixor X359 hx (hb hby d5_88) (pc' := 89) rfl ?_
    refine g_iand X359 hx (hb hby d5_89) (pc' := 90) rfl ?_
    refine g_sipush X359 hx (hb hby d5_90) (pc' := 93) rfl (z := (128 : Int32)) rfl ?_
    refine g_iand X359 hx (hb hby d5_93) (pc' := 94) rfl ?_
    refine g_i2b X359 hx (hb hby d5_94) (pc' := 95) rfl ?_
    refine Go.cast (show (mkF m 95 #[.val (.ref a), .val (.int (2 : Int32)), .val (.ref uA), .val (.ref lA), .val (.ref lA), .val (.int f), .val (.int la), .val (.int mi), .val (.int (1 : Int32)), .val (.int (zV u1 l1 l1 f la mi))] [(.int (byt ((((zV u1 l1 l1 f la mi) - (1 : Int32)) &&& ((zV u1 l1 l1 f la mi) ^^^ (-1 : Int32))) &&& (128 : Int32)))), (.int (1 : Int32)), (.ref uA)]) = (mkF m 95 #[.val (.ref a), .val (.int (2 : Int32)), .val (.ref uA), .val (.ref lA), .val (.ref lA), .val (.int f), .val (.int la), .val (.int mi), .val (.int (1 : Int32)), .val (.int (zV u1 l1 l1 f la mi))] [(.int (mkV u1 l1 l1 f la mi)), (.int (1 : Int32)), (.ref uA)]) from by rw [show (byt ((((zV u1 l1 l1 f la mi) - (1 : Int32)) &&& ((zV u1 l1 l1 f la mi) ^^^ (-1 : Int32))) &&& (128 : Int32))) = (mkV u1 l1 l1 f la mi) from rfl]) ?_
    obtain ⟨T373, h373, L373, X373, e373, N373, W373, V373, st373⟩ := h_bastore X359 hx hZ e359 N359 f372 G1 (j := (1 : Int32)) (i := 1) (x := (mkV u1 l1 l1 f la mi)) (hb hby d5_95) (by decide) rfl rfl #[.val (.ref a), .val (.int (2 : Int32)), .val (.ref uA), .val (.ref lA), .val (.ref lA), .val (.int f), .val (.int la), .val (.int mi), .val (.int (1 : Int32)), .val (.int (zV u1 l1 l1 f la mi))] []
    have f374 := Fld.other W373 f360 (Or.inl ne_a)
    have f375 := Fld.other W373 f361 (Or.inl ne_a)
    have f376 := Fld.other W373 f362 (Or.inl ne_a)
    have f377 := Fld.other W373 f363 (Or.inl ne_a)
    have f378 := Fld.other W373 f364 (Or.inl ne_a)
    have f379 := Fld.other W373 f365 (Or.inl ne_a)
    have f380 := Exa.wr W373 f366
    have f381 := f367.other W373 ne_lA
    have f382 := Exa.wr W373 f368
    have Z383 : n0 ≤ h373.size := Nat.le_trans Z369 (Keep.of_wr W373).1
    have K384 := K370.wr W373 (Or.inl (List.mem_of_getElem? (i := 0) rfl))
    have f385 : Va Z h373 uA .byte [(.int (mkV u0 l0 l0 f la mi)), (.int (byt (mkV u1 l1 l1 f la mi))), (.int u2)] := V373
    have f386 : Va Z h373 uA .byte [(.int (mkV u0 l0 l0 f la mi)), (.int (mkV u1 l1 l1 f la mi)), (.int u2)] := by rw [show (byt (mkV u1 l1 l1 f la mi)) = (mkV u1 l1 l1 f la mi) from byt_byt _] at f385; exact f385
    refine Go.movp st373 (mkF m 96 #[.val (.ref a), .val (.int (2 : Int32)), .val (.ref uA), .val (.ref lA), .val (.ref lA), .val (.int f), .val (.int la), .val (.int mi), .val (.int (1 : Int32)), .val (.int (zV u1 l1 l1 f la mi))] []) rfl ?_
    refine g_iinc X373 hx (hb hby d5_96) (pc' := 99) rfl rfl (z := (1 : Int32)) rfl (Ls' := #[.val (.ref a), .val (.int (2 : Int32)), .val (.ref uA), .val (.ref lA), .val (.ref lA), .val (.int f), .val (.int la), .val (.int mi), .val (.int (2 : Int32)), .val (.int (zV u1 l1 l1 f la mi))]) rfl ?_
    refine g_goto X373 hx (hb hby d5_99) (by decide) (pc' := 46) (by decide) ?_
    refine g_iload X373 hx (hb hby d5_46) (pc' := 48) rfl rfl ?_
    refine g_iloadN X373 hx (hb hby d5_48) (pc' := 49) rfl rfl ?_
    refine g_icmp_ge X373 hx (hb hby d5_49) (pc1 := 52) rfl (by decide) (pc2 := 102) (by decide) (fun hc49_2 => ?_) (fun hc49_2 => absurd hc49_2 (by decide))
    exact g_return X373 hx hret (hb hby d5_102) N373 hlk (fun v t => endF (by decide) (by decide) v) (by rw [e373]; exact ⟨rfl, K384, Va.eq f386 (by rw [hx0, hx1, hx2])⟩)
  · skip
    have hx0 := hw0.trans (if_pos (by decide))
    have hx1 := hw1.trans (if_pos (by decide))
    have hx2 := hw2.trans (if_pos (by decide))
    refine g_aloadN X0 hx (hb hby d5_0) (pc' := 1) rfl rfl rfl ?_
    obtain ⟨T387, X387, e387, st387⟩ := getF X0 hx hZ hown (host := "") (Or.inl (hw _ (List.mem_of_getElem? (i := 43) rfl))) (Via.of (hw _ (List.mem_of_getElem? (i := 30) rfl))) e0 F_units (g := (mkF m 1 #[.val (.ref a), .val (.int (3 : Int32)), .unset, .unset, .unset, .unset, .unset, .unset, .unset, .unset] [(.ref a)])) rfl rfl (hb hby d5_1)
    refine Go.movp st387 (mkF m 4 #[.val (.ref a), .val (.int (3 : Int32)), .unset, .unset, .unset, .unset, .unset, .unset, .unset, .unset] [(.ref uA)]) rfl ?_
    obtain ⟨T388, X388, e388, st388⟩ := castY X387 hx hZ hown (hw _ (List.mem_of_getElem? (i := 44) rfl)) e387 (Ins.self X_uA) (g := (mkF m 4 #[.val (.ref a), .val (.int (3 : Int32)), .unset, .unset, .unset, .unset, .unset, .unset, .unset, .unset] [(.ref uA)])) rfl rfl (hb hby d5_4)
    refine Go.movp st388 (mkF m 7 #[.val (.ref a), .val (.int (3 : Int32)), .unset, .unset, .unset, .unset, .unset, .unset, .unset, .unset] [(.ref uA)]) rfl ?_
    refine g_astoreN X388 hx (hb hby d5_7) (pc' := 8) rfl rfl (Ls' := #[.val (.ref a), .val (.int (3 : Int32)), .val (.ref uA), .unset, .unset, .unset, .unset, .unset, .unset, .unset]) rfl ?_
    refine g_aloadN X388 hx (hb hby d5_8) (pc' := 9) rfl rfl rfl ?_
    obtain ⟨T389, X389, e389, st389⟩ := getF X388 hx hZ hown (host := "") (Or.inl (hw _ (List.mem_of_getElem? (i := 46) rfl))) (Via.of (hw _ (List.mem_of_getElem? (i := 33) rfl))) e388 F_lasts (g := (mkF m 9 #[.val (.ref a), .val (.int (3 : Int32)), .val (.ref uA), .unset, .unset, .unset, .unset, .unset, .unset, .unset] [(.ref a)])) rfl rfl (hb hby d5_9)
    refine Go.movp st389 (mkF m 12 #[.val (.ref a), .val (.int (3 : Int32)), .val (.ref uA), .unset, .unset, .unset, .unset, .unset, .unset, .unset] [(.ref lA)]) rfl ?_
    obtain ⟨T390, X390, e390, st390⟩ := castY X389 hx hZ hown (hw _ (List.mem_of_getElem? (i := 44) rfl)) e389 (Ins.self X_lA) (g := (mkF m 12 #[.val (.ref a), .val (.int (3 : Int32)), .val (.ref uA), .unset, .unset, .unset, .unset, .unset, .unset, .unset] [(.ref lA)])) rfl rfl (hb hby d5_12)
    refine Go.movp st390 (mkF m 15 #[.val (.ref a), .val (.int (3 : Int32)), .val (.ref uA), .unset, .unset, .unset, .unset, .unset, .unset, .unset] [(.ref lA)]) rfl ?_
    refine g_astoreN X390 hx (hb hby d5_15) (pc' := 16) rfl rfl (Ls' := #[.val (.ref a), .val (.int (3 : Int32)), .val (.ref uA), .val (.ref lA), .unset, .unset, .unset, .unset, .unset, .unset]) rfl ?_
    refine g_aloadN X390 hx (hb hby d5_16) (pc' := 17) rfl rfl rfl ?_
    obtain ⟨T391, X391, e391, st391⟩ := getF X390 hx hZ hown (host := "") (Or.inl (hw _ (List.mem_of_getElem? (i := 47) rfl))) (Via.of (hw _ (List.mem_of_getElem? (i := 36) rfl))) e390 F_middles (g := (mkF m 17 #[.val (.ref a), .val (.int (3 : Int32)), .val (.ref uA), .val (.ref lA), .unset, .unset, .unset, .unset, .unset, .unset] [(.ref a)])) rfl rfl (hb hby d5_17)
    refine Go.movp st391 (mkF m 20 #[.val (.ref a), .val (.int (3 : Int32)), .val (.ref uA), .val (.ref lA), .unset, .unset, .unset, .unset, .unset, .unset] [(.ref lA)]) rfl ?_
    obtain ⟨T392, X392, e392, st392⟩ := castY X391 hx hZ hown (hw _ (List.mem_of_getElem? (i := 44) rfl)) e391 (Ins.self X_lA) (g := (mkF m 20 #[.val (.ref a), .val (.int (3 : Int32)), .val (.ref uA), .val (.ref lA), .unset, .unset, .unset, .unset, .unset, .unset] [(.ref lA)])) rfl rfl (hb hby d5_20)
    refine Go.movp st392 (mkF m 23 #[.val (.ref a), .val (.int (3 : Int32)), .val (.ref uA), .val (.ref lA), .unset, .unset, .unset, .unset, .unset, .unset] [(.ref lA)]) rfl ?_
    refine g_astore X392 hx (hb hby d5_23) (pc' := 25) rfl rfl (Ls' := #[.val (.ref a), .val (.int (3 : Int32)), .val (.ref uA), .val (.ref lA), .val (.ref lA), .unset, .unset, .unset, .unset, .unset]) rfl ?_
    refine g_aloadN X392 hx (hb hby d5_25) (pc' := 26) rfl rfl rfl ?_
    obtain ⟨T393, X393, e393, st393⟩ := getF X392 hx hZ hown (host := "") (Or.inl (hw _ (List.mem_of_getElem? (i := 48) rfl))) (Via.of (hw _ (List.mem_of_getElem? (i := 49) rfl))) e392 F_first (g := (mkF m 26 #[.val (.ref a), .val (.int (3 : Int32)), .val (.ref uA), .val (.ref lA), .val (.ref lA), .unset, .unset, .unset, .unset, .unset] [(.ref a)])) rfl rfl (hb hby d5_26)
    refine Go.movp st393 (mkF m 29 #[.val (.ref a), .val (.int (3 : Int32)), .val (.ref uA), .val (.ref lA), .val (.ref lA), .unset, .unset, .unset, .unset, .unset] [(.int f)]) rfl ?_
    refine g_istore X393 hx (hb hby d5_29) (pc' := 31) rfl (Ls' := #[.val (.ref a), .val (.int (3 : Int32)), .val (.ref uA), .val (.ref lA), .val (.ref lA), .val (.int f), .unset, .unset, .unset, .unset]) rfl ?_
    refine g_aloadN X393 hx (hb hby d5_31) (pc' := 32) rfl rfl rfl ?_
    obtain ⟨T394, X394, e394, st394⟩ := getF X393 hx hZ hown (host := "") (Or.inl (hw _ (List.mem_of_getElem? (i := 50) rfl))) (Via.of (hw _ (List.mem_of_getElem? (i := 51) rfl))) e393 F_last (g := (mkF m 32 #[.val (.ref a), .val (.int (3 : Int32)), .val (.ref uA), .val (.ref lA), .val (.ref lA), .val (.int f), .unset, .unset, .unset, .unset] [(.ref a)])) rfl rfl (hb hby d5_32)
    refine Go.movp st394 (mkF m 35 #[.val (.ref a), .val (.int (3 : Int32)), .val (.ref uA), .val (.ref lA), .val (.ref lA), .val (.int f), .unset, .unset, .unset, .unset] [(.int la)]) rfl ?_
    refine g_istore X394 hx (hb hby d5_35) (pc' := 37) rfl (Ls' := #[.val (.ref a), .val (.int (3 : Int32)), .val (.ref uA), .val (.ref lA), .val (.ref lA), .val (.int f), .val (.int la), .unset, .unset, .unset]) rfl ?_
    refine g_aloadN X394 hx (hb hby d5_37) (pc' := 38) rfl rfl rfl ?_
    obtain ⟨T395, X395, e395, st395⟩ := getF X394 hx hZ hown (host := "") (Or.inl (hw _ (List.mem_of_getElem? (i := 52) rfl))) (Via.of (hw _ (List.mem_of_getElem? (i := 53) rfl))) e394 F_middle (g := (mkF m 38 #[.val (.ref a), .val (.int (3 : Int32)), .val (.ref uA), .val (.ref lA), .val (.ref lA), .val (.int f), .val (.int la), .unset, .unset, .unset] [(.ref a)])) rfl rfl (hb hby d5_38)
    refine Go.movp st395 (mkF m 41 #[.val (.ref a), .val (.int (3 : Int32)), .val (.ref uA), .val (.ref lA), .val (.ref lA), .val (.int f), .val (.int la), .unset, .unset, .unset] [(.int mi)]) rfl ?_
    refine g_istore X395 hx (hb hby d5_41) (pc' := 43) rfl (Ls' := #[.val (.ref a), .val (.int (3 : Int32)), .val (.ref uA), .val (.ref lA), .val (.ref lA), .val (.int f), .val (.int la), .val (.int mi), .unset, .unset]) rfl ?_
    refine g_iconst X395 hx (hb hby d5_43) (pc' := 44) rfl (z := (0 : Int32)) rfl ?_
    refine g_istore X395 hx (hb hby d5_44) (pc' := 46) rfl (Ls' := #[.val (.ref a), .val (.int (3 : Int32)), .val (.ref uA), .val (.ref lA), .val (.ref lA), .val (.int f), .val (.int la), .val (.int mi), .val (.int (0 : Int32)), .unset]) rfl ?_
    refine g_iload X395 hx (hb hby d5_46) (pc' := 48) rfl rfl ?_
    refine g_iloadN X395 hx (hb hby d5_48) (pc' := 49) rfl rfl ?_
    refine g_icmp_ge X395 hx (hb hby d5_49) (pc1 := 52) rfl (by decide) (pc2 := 102) (by decide) (fun hc49 => absurd (by decide) hc49) (fun hc49 => ?_)
    refine g_aloadN X395 hx (hb hby d5_52) (pc' := 53) rfl rfl rfl ?_
    refine g_iload X395 hx (hb hby d5_53) (pc' := 55) rfl rfl ?_
    refine g_baload X395 hx hZ e395 V_uA (i := 0) (v := (.int u0)) (hb hby d5_55) (pc' := 56) rfl (by decide) rfl rfl ?_
    refine g_iload X395 hx (hb hby d5_56) (pc' := 58) rfl rfl ?_
    refine g_ixor X395 hx (hb hby d5_58) (pc' := 59) rfl ?_
    refine g_aloadN X395 hx (hb hby d5_59) (pc' := 60) rfl rfl rfl ?_
    refine g_iload X395 hx (hb hby d5_60) (pc' := 62) rfl rfl ?_
    refine g_baload X395 hx hZ e395 V_lA (i := 0) (v := (.int l0)) (hb hby d5_62) (pc' := 63) rfl (by decide) rfl rfl ?_
    refine g_iload X395 hx (hb hby d5_63) (pc' := 65) rfl rfl ?_
    refine g_ixor X395 hx (hb hby d5_65) (pc' := 66) rfl ?_
    refine g_ior X395 hx (hb hby d5_66) (pc' := 67) rfl ?_
    refine g_aload X395 hx (hb hby d5_67) (pc' := 69) rfl rfl rfl ?_
    refine g_iload X395 hx (hb hby d5_69) (pc' := 71) rfl rfl ?_
    refine g_baload X395 hx hZ e395 V_lA (i := 0) (v := (.int l0)) (hb hby d5_71) (pc' := 72) rfl (by decide) rfl rfl ?_
    refine g_iload X395 hx (hb hby d5_72) (pc' := 74) rfl rfl ?_
    refine g_ixor X395 hx (hb hby d5_74) (pc' := 75) rfl ?_
    refine g_ior X395 hx (hb hby d5_75) (pc' := 76) rfl ?_
    refine Go.cast (show (mkF m 76 #[.val (.ref a), .val (.int (3 : Int32)), .val (.ref uA), .val (.ref lA), .val (.ref lA), .val (.int f), .val (.int la), .val (.int mi), .val (.int (0 : Int32)), .unset] [(.int (((u0 ^^^ f) ||| (l0 ^^^ la)) ||| (l0 ^^^ mi)))]) = (mkF m 76 #[.val (.ref a), .val (.int (3 : Int32)), .val (.ref uA), .val (.ref lA), .val (.ref lA), .val (.int f), .val (.int la), .val (.int mi), .val (.int (0 : Int32)), .unset] [(.int (zV u0 l0 l0 f la mi))]) from by rw [show (((u0 ^^^ f) ||| (l0 ^^^ la)) ||| (l0 ^^^ mi)) = (zV u0 l0 l0 f la mi) from rfl]) ?_
    refine g_istore X395 hx (hb hby d5_76) (pc' := 78) rfl (Ls' := #[.val (.ref a), .val (.int (3 : Int32)), .val (.ref uA), .val (.ref lA), .val (.ref lA), .val (.int f), .val (.int la), .val (.int mi), .val (.int (0 : Int32)), .val (.int (zV u0 l0 l0 f la mi))]) rfl ?_
    refine g_aloadN X395 hx (hb hby d5_78) (pc' := 79) rfl rfl rfl ?_
    refine g_iload X395 hx (hb hby d5_79) (pc' := 81) rfl rfl ?_
    refine g_iload X395 hx (hb hby d5_81) (pc' := 83) rfl rfl ?_
    refine g_iconst X395 hx (hb hby d5_83) (pc' := 84) rfl (z := (1 : Int32)) rfl ?_
    refine g_isub X395 hx (hb hby d5_84) (pc' := 85) rfl ?_
    refine g_iload X395 hx (hb hby d5_85) (pc' := 87) rfl rfl ?_
    refine g_iconst X395 hx (hb hby d5_87) (pc' := 88) rfl (z := (-1 : Int32)) rfl ?_
    refine g_ixor X395 hx (hb hby d5_88) (pc' := 89) rfl ?_
    refine g_iand X395 hx (hb hby d5_89) (pc' := 90) rfl ?_
    refine g_sipush X395 hx (hb hby d5_90) (pc' := 93) rfl (z := (128 : Int32)) rfl ?_
    refine g_iand X395 hx (hb hby d5_93) (pc' := 94) rfl ?_
    refine g_i2b X395 hx (hb hby d5_94) (pc' := 95) rfl ?_
    refine Go.cast (show (mkF m 95 #[.val (.ref a), .val (.int (3 : Int32)), .val (.ref uA), .val (.ref lA), .val (.ref lA), .val (.int f), .val (.int la), .val (.int mi), .val (.int (0 : Int32)), .val (.int (zV u0 l0 l0 f la mi))] [(.int (byt ((((zV u0 l0 l0 f la mi) - (1 : Int32)) &&& ((zV u0 l0 l0 f la mi) ^^^ (-1 : Int32))) &&& (128 : Int32)))), (.int (0 : Int32)), (.ref uA)]) = (mkF m 95 #[.val (.ref a), .val (.int (3 : Int32)), .val (.ref uA), .val (.ref lA), .val (.ref lA), .val (.int f), .val (.int la), .val (.int mi), .val (.int (0 : Int32)), .val (.int (zV u0 l0 l0 f la mi))] [(.int (mkV u0 l0 l0 f la mi)), (.int (0 : Int32)), (.ref uA)]) from by rw [show (byt ((((zV u0 l0 l0 f la mi) - (1 : Int32)) &&& ((zV u0 l0 l0 f la mi) ^^^ (-1 : Int32))) &&& (128 : Int32))) = (mkV u0 l0 l0 f la mi) from rfl]) ?_
    obtain ⟨T396, h396, L396, X396, e396, N396, W396, V396, st396⟩ := h_bastore X395 hx hZ e395 N0 V_uA G1 (j := (0 : Int32)) (i := 0) (x := (mkV u0 l0 l0 f la mi)) (hb hby d5_95) (by decide) rfl rfl #[.val (.ref a), .val (.int (3 : Int32)), .val (.ref uA), .val (.ref lA), .val (.ref lA), .val (.int f), .val (.int la), .val (.int mi), .val (.int (0 : Int32)), .val (.int (zV u0 l0 l0 f la mi))] []
    have f397 := Fld.other W396 F_units (Or.inl ne_a)
    have f398 := Fld.other W396 F_lasts (Or.inl ne_a)
    have f399 := Fld.other W396 F_middles (Or.inl ne_a)
    have f400 := Fld.other W396 F_first (Or.inl ne_a)
    have f401 := Fld.other W396 F_last (Or.inl ne_a)
    have f402 := Fld.other W396 F_middle (Or.inl ne_a)
    have f403 := Exa.wr W396 X_uA
    have f404 := V_lA.other W396 ne_lA
    have f405 := Exa.wr W396 X_lA
    have Z406 : n0 ≤ h396.size := Nat.le_trans Z0 (Keep.of_wr W396).1
    have K407 := (Keep.refl h0 [uA]).wr W396 (Or.inl (List.mem_of_getElem? (i := 0) rfl))
    have f408 : Va Z h396 uA .byte [(.int (byt (mkV u0 l0 l0 f la mi))), (.int u1), (.int u2)] := V396
    have f409 : Va Z h396 uA .byte [(.int (mkV u0 l0 l0 f la mi)), (.int u1), (.int u2)] := by rw [show (byt (mkV u0 l0 l0 f la mi)) = (mkV u0 l0 l0 f la mi) from byt_byt _] at f408; exact f408
    refine Go.movp st396 (mkF m 96 #[.val (.ref a), .val (.int (3 : Int32)), .val (.ref uA), .val (.ref lA), .val (.ref lA), .val (.int f), .val (.int la), .val (.int mi), .val (.int (0 : Int32)), .val (.int (zV u0 l0 l0 f la mi))] []) rfl ?_
    refine g_iinc X396 hx (hb hby d5_96) (pc' := 99) rfl rfl (z := (1 : Int32)) rfl (Ls' := #[.val (.ref a), .val (.int (3 : Int32)), .val (.ref uA), .val (.ref lA), .val (.ref lA), .val (.int f), .val (.int la), .val (.int mi), .val (.int (1 : Int32)), .val (.int (zV u0 l0 l0 f la mi))]) rfl ?_
    refine g_goto X396 hx (hb hby d5_99) (by decide) (pc' := 46) (by decide) ?_
    refine g_iload X396 hx (hb hby d5_46) (pc' := 48) rfl rfl ?_
    refine g_iloadN X396 hx (hb hby d5_48) (pc' := 49) rfl rfl ?_
    refine g_icmp_ge X396 hx (hb hby d5_49) (pc1 := 52) rfl (by decide) (pc2 := 102) (by decide) (fun hc49_1 => absurd (by decide) hc49_1) (fun hc49_1 => ?_)
    refine g_aloadN X396 hx (hb hby d5_52) (pc' := 53) rfl rfl rfl ?_
    refine g_iload X396 hx (hb hby d5_53) (pc' := 55) rfl rfl ?_
    refine g_baload X396 hx hZ e396 f409 (i := 1) (v := (.int u1)) (hb hby d5_55) (pc' := 56) rfl (by decide) rfl rfl ?_
    refine g_iload X396 hx (hb hby d5_56) (pc' := 58) rfl rfl ?_
    refine g_ixor X396 hx (hb hby d5_58) (pc' := 59) rfl ?_
    refine g_aloadN X396 hx (hb hby d5_59) (pc' := 60) rfl rfl rfl ?_
    refine g_iload X396 hx (hb hby d5_60) (pc' := 62) rfl rfl ?_
    refine g_baload X396 hx hZ e396 f404 (i := 1) (v := (.int l1)) (hb hby d5_62) (pc' := 63) rfl (by decide) rfl rfl ?_
    refine g_iload X396 hx (hb hby d5_63) (pc' := 65) rfl rfl ?_
    refine g_ixor X396 hx (hb hby d5_65) (pc' := 66) rfl ?_
    refine g_ior X396 hx (hb hby d5_66) (pc' := 67) rfl ?_
    refine g_aload X396 hx (hb hby d5_67) (pc' := 69) rfl rfl rfl ?_
    refine g_iload X396 hx (hb hby d5_69) (pc' := 71) rfl rfl ?_
    refine g_baload X396 hx hZ e396 f404 (i := 1) (v := (.int l1)) (hb hby d5_71) (pc' := 72) rfl (by decide) rfl rfl ?_
    refine g_iload X396 hx (hb hby d5_72) (pc' := 74) rfl rfl ?_
    refine g_ixor X396 hx (hb hby d5_74) (pc' := 75) rfl ?_
    refine g_ior X396 hx (hb hby d5_75) (pc' := 76) rfl ?_
    refine Go.cast (show (mkF m 76 #[.val (.ref a), .val (.int (3 : Int32)), .val (.ref uA), .val (.ref lA), .val (.ref lA), .val (.int f), .val (.int la), .val (.int mi), .val (.int (1 : Int32)), .val (.int (zV u0 l0 l0 f la mi))] [(.int (((u1 ^^^ f) ||| (l1 ^^^ la)) ||| (l1 ^^^ mi)))]) = (mkF m 76 #[.val (.ref a), .val (.int (3 : Int32)), .val (.ref uA), .val (.ref lA), .val (.ref lA), .val (.int f), .val (.int la), .val (.int mi), .val (.int (1 : Int32)), .val (.int (zV u0 l0 l0 f la mi))] [(.int (zV u1 l1 l1 f la mi))]) from by rw [show (((u1 ^^^ f) ||| (l1 ^^^ la)) ||| (l1 ^^^ mi)) = (zV u1 l1 l1 f la mi) from rfl]) ?_
    refine g_istore X396 hx (hb hby d5_76) (pc' := 78) rfl (Ls' := #[.val (.ref a), .val (.int (3 : Int32)), .val (.ref uA), .val (.ref lA), .val (.ref lA), .val (.int f), .val (.int la), .val (.int mi), .val (.int (1 : Int32)), .val (.int (zV u1 l1 l1 f la mi))]) rfl ?_
    refine g_aloadN X396 hx (hb hby d5_78) (pc' := 79) rfl rfl rfl ?_
    refine g_iload X396 hx (hb hby d5_79) (pc' := 81) rfl rfl ?_
    refine g_iload X396 hx (hb hby d5_81) (pc' := 83) rfl rfl ?_
    refine g_iconst X396 hx (hb hby d5_83) (pc' := 84) rfl (z := (1 : Int32)) rfl ?_
    refine g_isub X396 hx (hb hby d5_84) (pc' := 85) rfl ?_
    refine g_iload X396 hx (hb hby d5_85) (pc' := 87) rfl rfl ?_
    refine g_iconst X396 hx (hb hby d5_87) (pc' := 88) rfl (z := (-1 : Int32)) rfl ?_
    refine g_ixor X396 hx (hb hby d5_88) (pc' := 89) rfl ?_
    refine g_iand X396 hx (hb hby d5_89) (pc' := 90) rfl ?_
    refine g_sipush X396 hx (hb hby d5_90) (pc' := 93) rfl (z := (128 : Int32)) rfl ?_
    refine g_iand X396 hx (hb hby d5_93) (pc' := 94) rfl ?_
    refine g_i2b X396 hx (hb hby d5_94) (pc' := 95) rfl ?_
    refine Go.cast (show (mkF m 95 #[.val (.ref a), .val (.int (3 : Int32)), .val (.ref uA), .val (.ref lA), .val (.ref lA), .val (.int f), .val (.int la), .val (.int mi), .val (.int (1 : Int32)), .val (.int (zV u1 l1 l1 f la mi))] [(.int (byt ((((zV u1 l1 l1 f la mi) - (1 : Int32)) &&& ((zV u1 l1 l1 f la mi) ^^^ (-1 : Int32))) &&& (128 : Int32)))), (.int (1 : Int32)), (.ref uA)]) = (mkF m 95 #[.val (.ref a), .val (.int (3 : Int32)), .val (.ref uA), .val (.ref lA), .val (.ref lA), .val (.int f), .val (.int la), .val (.int mi), .val (.int (1 : Int32)), .val (.int (zV u1 l1 l1 f la mi))] [(.int (mkV u1 l1 l1 f la mi)), (.int (1 : Int32)), (.ref uA)]) from by rw [show (byt ((((zV u1 l1 l1 f la mi) - (1 : Int32)) &&& ((zV u1 l1 l1 f la mi) ^^^ (-1 : Int32))) &&& (128 : Int32))) = (mkV u1 l1 l1 f la mi) from rfl]) ?_
    obtain ⟨T410, h410, L410, X410, e410, N410, W410, V410, st410⟩ := h_bastore X396 hx hZ e396 N396 f409 G1 (j := (1 : Int32)) (i := 1) (x := (mkV u1 l1 l1 f la mi)) (hb hby d5_95) (by decide) rfl rfl #[.val (.ref a), .val (.int (3 : Int32)), .val (.ref uA), .val (.ref lA), .val (.ref lA), .val (.int f), .val (.int la), .val (.int mi), .val (.int (1 : Int32)), .val (.int (zV u1 l1 l1 f la mi))] []
    have f411 := Fld.other W410 f397 (Or.inl ne_a)
    have f412 := Fld.other W410 f398 (Or.inl ne_a)
    have f413 := Fld.other W410 f399 (Or.inl ne_a)
    have f414 := Fld.other W410 f400 (Or.inl ne_a)
    have f415 := Fld.other W410 f401 (Or.inl ne_a)
    have f416 := Fld.other W410 f402 (Or.inl ne_a)
    have f417 := Exa.wr W410 f403
    have f418 := f404.other W410 ne_lA
    have f419 := Exa.wr W410 f405
    have Z420 : n0 ≤ h410.size := Nat.le_trans Z406 (Keep.of_wr W410).1
    have K421 := K407.wr W410 (Or.inl (List.mem_of_getElem? (i := 0) rfl))
    have f422 : Va Z h410 uA .byte [(.int (mkV u0 l0 l0 f la mi)), (.int (byt (mkV u1 l1 l1 f la mi))), (.int u2)] := V410
    have f423 : Va Z h410 uA .byte [(.int (mkV u0 l0 l0 f la mi)), (.int (mkV u1 l1 l1 f la mi)), (.int u2)] := by rw [show (byt (mkV u1 l1 l1 f la mi)) = (mkV u1 l1 l1 f la mi) from byt_byt _] at f422; exact f422
    refine Go.movp st410 (mkF m 96 #[.val (.ref a), .val (.int (3 : Int32)), .val (.ref uA), .val (.ref lA), .val (.ref lA), .val (.int f), .val (.int la), .val (.int mi), .val (.int (1 : Int32)), .val (.int (zV u1 l1 l1 f la mi))] []) rfl ?_
    refine g_iinc X410 hx (hb hby d5_96) (pc' := 99) rfl rfl (z := (1 : Int32)) rfl (Ls' := #[.val (.ref a), .val (.int (3 : Int32)), .val (.ref uA), .val (.ref lA), .val (.ref lA), .val (.int f), .val (.int la), .val (.int mi), .val (.int (2 : Int32)), .val (.int (zV u1 l1 l1 f la mi))]) rfl ?_
    refine g_goto X410 hx (hb hby d5_99) (by decide) (pc' := 46) (by decide) ?_
    refine g_iload X410 hx (hb hby d5_46) (pc' := 48) rfl rfl ?_
    refine g_iloadN X410 hx (hb hby d5_48) (pc' := 49) rfl rfl ?_
    refine g_icmp_ge X410 hx (hb hby d5_49) (pc1 := 52) rfl (by decide) (pc2 := 102) (by decide) (fun hc49_2 => absurd (by decide) hc49_2) (fun hc49_2 => ?_)
    refine g_aloadN X410 hx (hb hby d5_52) (pc' := 53) rfl rfl rfl ?_
    refine g_iload X410 hx (hb hby d5_53) (pc' := 55) rfl rfl ?_
    refine g_baload X410 hx hZ e410 f423 (i := 2) (v := (.int u2)) (hb hby d5_55) (pc' := 56) rfl (by decide) rfl rfl ?_
    refine g_iload X410 hx (hb hby d5_56) (pc' := 58) rfl rfl ?_
    refine g_ixor X410 hx (hb hby d5_58) (pc' := 59) rfl ?_
    refine g_aloadN X410 hx (hb hby d5_59) (pc' := 60) rfl rfl rfl ?_
    refine g_iload X410 hx (hb hby d5_60) (pc' := 62) rfl rfl ?_
    refine g_baload X410 hx hZ e410 f418 (i := 2) (v := (.int l2)) (hb hby d5_62) (pc' := 63) rfl (by decide) rfl rfl ?_
    refine g_iload X410 hx (hb hby d5_63) (pc' := 65) rfl rfl ?_
    refine g_ixor X410 hx (hb hby d5_65) (pc' := 66) rfl ?_
    refine g_ior X410 hx (hb hby d5_66) (pc' := 67) rfl ?_
    refine g_aload X410 hx (hb hby d5_67) (pc' := 69) rfl rfl rfl ?_
    refine g_iload X410 hx (hb hby d5_69) (pc' := 71) rfl rfl ?_
    refine g_baload X410 hx hZ e410 f418 (i := 2) (v := (.int l2)) (hb hby d5_71) (pc' := 72) rfl (by decide) rfl rfl ?_
    refine g_iload X410 hx (hb hby d5_72) (pc' := 74) rfl rfl ?_
    refine g_ixor X410 hx (hb hby d5_74) (pc' := 75) rfl ?_
    refine g_ior X410 hx (hb hby d5_75) (pc' := 76) rfl ?_
    refine Go.cast (show (mkF m 76 #[.val (.ref a), .val (.int (3 : Int32)), .val (.ref uA), .val (.ref lA), .val (.ref lA), .val (.int f), .val (.int la), .val (.int mi), .val (.int (2 : Int32)), .val (.int (zV u1 l1 l1 f la mi))] [(.int (((u2 ^^^ f) ||| (l2 ^^^ la)) ||| (l2 ^^^ mi)))]) = (mkF m 76 #[.val (.ref a), .val (.int (3 : Int32)), .val (.ref uA), .val (.ref lA), .val (.ref lA), .val (.int f), .val (.int la), .val (.int mi), .val (.int (2 : Int32)), .val (.int (zV u1 l1 l1 f la mi))] [(.int (zV u2 l2 l2 f la mi))]) from by rw [show (((u2 ^^^ f) ||| (l2 ^^^ la)) ||| (l2 ^^^ mi)) = (zV u2 l2 l2 f la mi) from rfl]) ?_
    refine g_istore X410 hx (hb hby d5_76) (pc' := 78) rfl (Ls' := #[.val (.ref a), .val (.int (3 : Int32)), .val (.ref uA), .val (.ref lA), .val (.ref lA), .val (.int f), .val (.int la), .val (.int mi), .val (.int (2 : Int32)), .val (.int (zV u2 l2 l2 f la mi))]) rfl ?_
    refine g_aloadN X410 hx (hb hby d5_78) (pc' := 79) rfl rfl rfl ?_
    refine g_iload X410 hx (hb hby d5_79) (pc' := 81) rfl rfl ?_
    refine g_iload X410 hx (hb hby d5_81) (pc' := 83) rfl rfl ?_
    refine g_iconst X410 hx (hb hby d5_83) (pc' := 84) rfl (z := (1 : Int32)) rfl ?_
    refine g_isub X410 hx (hb hby d5_84) (pc' := 85) rfl ?_
    refine g_iload X410 hx (hb hby d5_85) (pc' := 87) rfl rfl ?_
    refine g_iconst X410 hx (hb hby d5_87) (pc' := 88) rfl (z := (-1 : Int32)) rfl ?_
    refine g_ixor X410 hx (hb hby d5_88) (pc' := 89) rfl ?_
    refine g_iand X410 hx (hb hby d5_89) (pc' := 90) rfl ?_
    refine g_sipush X410 hx (hb hby d5_90) (pc' := 93) rfl (z := (128 : Int32)) rfl ?_
    refine g_iand X410 hx (hb hby d5_93) (pc' := 94) rfl ?_
    refine g_i2b X410 hx (hb hby d5_94) (pc' := 95) rfl ?_
    refine Go.cast (show (mkF m 95 #[.val (.ref a), .val (.int (3 : Int32)), .val (.ref uA), .val (.ref lA), .val (.ref lA), .val (.int f), .val (.int la), .val (.int mi), .val (.int (2 : Int32)), .val (.int (zV u2 l2 l2 f la mi))] [(.int (byt ((((zV u2 l2 l2 f la mi) - (1 : Int32)) &&& ((zV u2 l2 l2 f la mi) ^^^ (-1 : Int32))) &&& (128 : Int32)))), (.int (2 : Int32)), (.ref uA)]) = (mkF m 95 #[.val (.ref a), .val (.int (3 : Int32)), .val (.ref uA), .val (.ref lA), .val (.ref lA), .val (.int f), .val (.int la), .val (.int mi), .val (.int (2 : Int32)), .val (.int (zV u2 l2 l2 f la mi))] [(.int (mkV u2 l2 l2 f la mi)), (.int (2 : Int32)), (.ref uA)]) from by rw [show (byt ((((zV u2 l2 l2 f la mi) - (1 : Int32)) &&& ((zV u2 l2 l2 f la mi) ^^^ (-1 : Int32))) &&& (128 : Int32))) = (mkV u2 l2 l2 f la mi) from rfl]) ?_
    obtain ⟨T424, h424, L424, X424, e424, N424, W424, V424, st424⟩ := h_bastore X410 hx hZ e410 N410 f423 G1 (j := (2 : Int32)) (i := 2) (x := (mkV u2 l2 l2 f la mi)) (hb hby d5_95) (by decide) rfl rfl #[.val (.ref a), .val (.int (3 : Int32)), .val (.ref uA), .val (.ref lA), .val (.ref lA), .val (.int f), .val (.int la), .val (.int mi), .val (.int (2 : Int32)), .val (.int (zV u2 l2 l2 f la mi))] []
    have f425 := Fld.other W424 f411 (Or.inl ne_a)
    have f426 := Fld.other W424 f412 (Or.inl ne_a)
    have f427 := Fld.other W424 f413 (Or.inl ne_a)
    have f428 := Fld.other W424 f414 (Or.inl ne_a)
    have f429 := Fld.other W424 f415 (Or.inl ne_a)
    have f430 := Fld.other W424 f416 (Or.inl ne_a)
    have f431 := Exa.wr W424 f417
    have f432 := f418.other W424 ne_lA
    have f433 := Exa.wr W424 f419
    have Z434 : n0 ≤ h424.size := Nat.le_trans Z420 (Keep.of_wr W424).1
    have K435 := K421.wr W424 (Or.inl (List.mem_of_getElem? (i := 0) rfl))
    have f436 : Va Z h424 uA .byte [(.int (mkV u0 l0 l0 f la mi)), (.int (mkV u1 l1 l1 f la mi)), (.int (byt (mkV u2 l2 l2 f la mi)))] := V424
    have f437 : Va Z h424 uA .byte [(.int (mkV u0 l0 l0 f la mi)), (.int (mkV u1 l1 l1 f la mi)), (.int (mkV u2 l2 l2 f la mi))] := by rw [show (byt (mkV u2 l2 l2 f la mi)) = (mkV u2 l2 l2 f la mi) from byt_byt _] at f436; exact f436
    refine Go.movp st424 (mkF m 96 #[.val (.ref a), .val (.int (3 : Int32)), .val (.ref uA), .val (.ref lA), .val (.ref lA), .val (.int f), .val (.int la), .val (.int mi), .val (.int (2 : Int32)), .val (.int (zV u2 l2 l2 f la mi))] []) rfl ?_
    refine g_iinc X424 hx (hb hby d5_96) (pc' := 99) rfl rfl (z := (1 : Int32)) rfl (Ls' := #[.val (.ref a), .val (.int (3 : Int32)), .val (.ref uA), .val (.ref lA), .val (.ref lA), .val (.int f), .val (.int la), .val (.int mi), .val (.int (3 : Int32)), .val (.int (zV u2 l2 l2 f la mi))]) rfl ?_
    refine g_goto X424 hx (hb hby d5_99) (by decide) (pc' := 46) (by decide) ?_
    refine g_iload X424 hx (hb hby d5_46) (pc' := 48) rfl rfl ?_
    refine g_iloadN X424 hx (hb hby d5_48) (pc' := 49) rfl rfl ?_
    refine g_icmp_ge X424 hx (hb hby d5_49) (pc1 := 52) rfl (by decide) (pc2 := 102) (by decide) (fun hc49_3 => ?_) (fun hc49_3 => absurd hc49_3 (by decide))
    exact g_return X424 hx hret (hb hby d5_102) N424 hlk (fun v t => endF (by decide) (by decide) v) (by rw [e424]; exact ⟨rfl, K435, Va.eq f437 (by rw [hx0, hx1, hx2])⟩)
theorem ef_5_3 (x0 : Addr) (x1 : Int32) (m : MethodId) : entryFrame m #[(.ref x0), (.int x1)] 10 = mkF m 0 #[.val (.ref x0), .val (.int x1), .unset, .unset, .unset, .unset, .unset, .unset, .unset, .unset] [] := by first | (simp [entryFrame, mkF, argsToLocals, Value.category]; done) | rfl
def Q5_3 (Z : State) (a : Addr) (uA : Addr) (u0 : Int32) (u1 : Int32) (u2 : Int32) (f : Int32) (la : Int32) (mi : Int32) (n : Int32) (w0 : Int32) (w1 : Int32) (w2 : Int32) (h0 : Heap) (n0 : Nat) : Option Value → Heap → Prop := fun v h => v = none ∧ Keep h0 h [uA] ∧ Va Z h uA .byte [(.int w0), (.int w1), (.int w2)]
set_option maxRecDepth 65536 in
set_option maxHeartbeats 40000000 in
theorem rm5_3 (l : Launch) (Z : State) (a0 : Array Value) (hw : ∀ d ∈ tables_1, d.before a0 Z = true) (a : Addr) (uA : Addr) (u0 : Int32) (u1 : Int32) (u2 : Int32) (f : Int32) (la : Int32) (mi : Int32) (n : Int32) (w0 : Int32) (w1 : Int32) (w2 : Int32) (h0 : Heap) (n0 : Nat) (Z0 : n0 ≤ h0.size) (F_units : Fld Z h0 a "com/example/needlework/needlework/PackedBlock" "units" "Ljava/lang/Object;" (.ref uA)) (F_lasts : Fld Z h0 a "com/example/needlework/needlework/PackedBlock" "lasts" "Ljava/lang/Object;" (.ref uA)) (F_middles : Fld Z h0 a "com/example/needlework/needlework/PackedBlock" "middles" "Ljava/lang/Object;" (.ref uA)) (F_first : Fld Z h0 a "com/example/needlework/needlework/PackedBlock" "first" "I" (.int f)) (F_last : Fld Z h0 a "com/example/needlework/needlework/PackedBlock" "last" "I" (.int la)) (F_middle : Fld Z h0 a "com/example/needlework/needlework/PackedBlock" "middle" "I" (.int mi)) (V_uA : Va Z h0 uA .byte [(.int u0), (.int u1), (.int u2)]) (X_uA : Exa Z h0 uA "[B") (G1 : n0 ≤ uA) (ne_a : a ≠ uA) (hn : n = 0 ∨ n = 1 ∨ n = 2 ∨ n = 3) (hw0 : w0 = (if (0 : Int32) < n then (mkV u0 u0 u0 f la mi) else u0)) (hw1 : w1 = (if (1 : Int32) < n then (mkV u1 u1 u1 f la mi) else u1)) (hw2 : w2 = (if (2 : Int32) < n then (mkV u2 u2 u2 f la mi) else u2)) : Ctr l Z (⟨"com/example/needlework/needlework/PackedBlock$Bytes", "mark", "(I)V"⟩ : MethodName) prog_17_method_4_code 10 none ({ frames := 0, cells := 0, slots := 0, locals := 0 } : Room) #[(.ref a), (.int n)] h0 n0 (Q5_3 Z a uA u0 u1 u2 f la mi n w0 w1 w2 h0 n0) := by
  refine Ctr.of (plainFor_of_name pn_2) (ef_5_3 a n) ?_
  intro p e s m below meth c T0 hx hby hml hown hnm hret hlk hZ X0 e0
  have N0 := Fr.nil n0
  rcases hn with rfl | rfl | rfl | rfl
  · skip
    have hx0 := hw0.trans (if_neg (by decide))
    have hx1 := hw1.trans (if_neg (by decide))
    have hx2 := hw2.trans (if_neg (by decide))
    refine g_aloadN X0 hx (hb hby d5_0) (pc' := 1) rfl rfl rfl ?_
    obtain ⟨T438, X438, e438, st438⟩ := getF X0 hx hZ hown (host := "") (Or.inl (hw _ (List.mem_of_getElem? (i := 43) rfl))) (Via.of (hw _ (List.mem_of_getElem? (i := 30) rfl))) e0 F_units (g := (mkF m 1 #[.val (.ref a), .val (.int (0 : Int32)), .unset, .unset, .unset, .unset, .unset, .unset, .unset, .unset] [(.ref a)])) rfl rfl (hb hby d5_1)
    refine Go.movp st438 (mkF m 4 #[.val (.ref a), .val (.int (0 : Int32)), .unset, .unset, .unset, .unset, .unset, .unset, .unset, .unset] [(.ref uA)]) rfl ?_
    obtain ⟨T439, X439, e439, st439⟩ := castY X438 hx hZ hown (hw _ (List.mem_of_getElem? (i := 44) rfl)) e438 (Ins.self X_uA) (g := (mkF m 4 #[.val (.ref a), .val (.int (0 : Int32)), .unset, .unset, .unset, .unset, .unset, .unset, .unset, .unset] [(.ref uA)])) rfl rfl (hb hby d5_4)
    refine Go.movp st439 (mkF m 7 #[.val (.ref a), .val (.int (0 : Int32)), .unset, .unset, .unset, .unset, .unset, .unset, .unset, .unset] [(.ref uA)]) rfl ?_
    refine g_astoreN X439 hx (hb hby d5_7) (pc' := 8) rfl rfl (Ls' := #[.val (.ref a), .val (.int (0 : Int32)), .val (.ref uA), .unset, .unset, .unset, .unset, .unset, .unset, .unset]) rfl ?_
    refine g_aloadN X439 hx (hb hby d5_8) (pc' := 9) rfl rfl rfl ?_
    obtain ⟨T440, X440, e440, st440⟩ := getF X439 hx hZ hown (host := "") (Or.inl (hw _ (List.mem_of_getElem? (i := 46) rfl))) (Via.of (hw _ (List.mem_of_getElem? (i := 33) rfl))) e439 F_lasts (g := (mkF m 9 #[.val (.ref a), .val (.int (0 : Int32)), .val (.ref uA), .unset, .unset, .unset, .unset, .unset, .unset, .unset] [(.ref a)])) rfl rfl (hb hby d5_9)
    refine Go.movp st440 (mkF m 12 #[.val (.ref a), .val (.int (0 : Int32)), .val (.ref uA), .unset, .unset, .unset, .unset, .unset, .unset, .unset] [(.ref uA)]) rfl ?_
    obtain ⟨T441, X441, e441, st441⟩ := castY X440 hx hZ hown (hw _ (List.mem_of_getElem? (i := 44) rfl)) e440 (Ins.self X_uA) (g := (mkF m 12 #[.val (.ref a), .val (.int (0 : Int32)), .val (.ref uA), .unset, .unset, .unset, .unset, .unset, .unset, .unset] [(.ref uA)])) rfl rfl (hb hby d5_12)
    refine Go.movp st441 (mkF m 15 #[.val (.ref a), .val (.int (0 : Int32)), .val (.ref uA), .unset, .unset, .unset, .unset, .unset, .unset, .unset] [(.ref uA)]) rfl ?_
    refine g_astoreN X441 hx (hb hby d5_15) (pc' := 16) rfl rfl (Ls' := #[.val (.ref a), .val (.int (0 : Int32)), .val (.ref uA), .val (.ref uA), .unset, .unset, .unset, .unset, .unset, .unset]) rfl ?_
    refine g_aloadN X441 hx (hb hby d5_16) (pc' := 17) rfl rfl rfl ?_
    obtain ⟨T442, X442, e442, st442⟩ := getF X441 hx hZ hown (host := "") (Or.inl (hw _ (List.mem_of_getElem? (i := 47) rfl))) (Via.of (hw _ (List.mem_of_getElem? (i := 36) rfl))) e441 F_middles (g := (mkF m 17 #[.val (.ref a), .val (.int (0 : Int32)), .val (.ref uA), .val (.ref uA), .unset, .unset, .unset, .unset, .unset, .unset] [(.ref a)])) rfl rfl (hb hby d5_17)
    refine Go.movp st442 (mkF m 20 #[.val (.ref a), .val (.int (0 : Int32)), .val (.ref uA), .val (.ref uA), .unset, .unset, .unset, .unset, .unset, .unset] [(.ref uA)]) rfl ?_
    obtain ⟨T443, X443, e443, st443⟩ := castY X442 hx hZ hown (hw _ (List.mem_of_getElem? (i := 44) rfl)) e442 (Ins.self X_uA) (g := (mkF m 20 #[.val (.ref a), .val (.int (0 : Int32)), .val (.ref uA), .val (.ref uA), .unset, .unset, .unset, .unset, .unset, .unset] [(.ref uA)])) rfl rfl (hb hby d5_20)
    refine Go.movp st443 (mkF m 23 #[.val (.ref a), .val (.int (0 : Int32)), .val (.ref uA), .val (.ref uA), .unset, .unset, .unset, .unset, .unset, .unset] [(.ref uA)]) rfl ?_
    refine g_astore X443 hx (hb hby d5_23) (pc' := 25) rfl rfl (Ls' := #[.val (.ref a), .val (.int (0 : Int32)), .val (.ref uA), .val (.ref uA), .val (.ref uA), .unset, .unset, .unset, .unset, .unset]) rfl ?_
    refine g_aloadN X443 hx (hb hby d5_25) (pc' := 26) rfl rfl rfl ?_
    obtain ⟨T444, X444, e444, st444⟩ := getF X443 hx hZ hown (host := "") (Or.inl (hw _ (List.mem_of_getElem? (i := 48) rfl))) (Via.of (hw _ (List.mem_of_getElem? (i := 49) rfl))) e443 F_first (g := (mkF m 26 #[.val (.ref a), .val (.int (0 : Int32)), .val (.ref uA), .val (.ref uA), .val (.ref uA), .unset, .unset, .unset, .unset, .unset] [(.ref a)])) rfl rfl (hb hby d5_26)
    refine Go.movp st444 (mkF m 29 #[.val (.ref a), .val (.int (0 : Int32)), .val (.ref uA), .val (.ref uA), .val (.ref uA), .unset, .unset, .unset, .unset, .unset] [(.int f)]) rfl ?_
    refine g_istore X444 hx (hb hby d5_29) (pc' := 31) rfl (Ls' := #[.val (.ref a), .val (.int (0 : Int32)), .val (.ref uA), .val (.ref uA), .val (.ref uA), .val (.int f), .unset, .unset, .unset, .unset]) rfl ?_
    refine g_aloadN X444 hx (hb hby d5_31) (pc' := 32) rfl rfl rfl ?_
    obtain ⟨T445, X445, e445, st445⟩ := getF X444 hx hZ hown (host := "") (Or.inl (hw _ (List.mem_of_getElem? (i := 50) rfl))) (Via.of (hw _ (List.mem_of_getElem? (i := 51) rfl))) e444 F_last (g := (mkF m 32 #[.val (.ref a), .val (.int (0 : Int32)), .val (.ref uA), .val (.ref uA), .val (.ref uA), .val (.int f), .unset, .unset, .unset, .unset] [(.ref a)])) rfl rfl (hb hby d5_32)
    refine Go.movp st445 (mkF m 35 #[.val (.ref a), .val (.int (0 : Int32)), .val (.ref uA), .val (.ref uA), .val (.ref uA), .val (.int f), .unset, .unset, .unset, .unset] [(.int la)]) rfl ?_
    refine g_istore X445 hx (hb hby d5_35) (pc' := 37) rfl (Ls' := #[.val (.ref a), .val (.int (0 : Int32)), .val (.ref uA), .val (.ref uA), .val (.ref uA), .val (.int f), .val (.int la), .unset, .unset, .unset]) rfl ?_
    refine g_aloadN X445 hx (hb hby d5_37) (pc' := 38) rfl rfl rfl ?_
    obtain ⟨T446, X446, e446, st446⟩ := getF X445 hx hZ hown (host := "") (Or.inl (hw _ (List.mem_of_getElem? (i := 52) rfl))) (Via.of (hw _ (List.mem_of_getElem? (i := 53) rfl))) e445 F_middle (g := (mkF m 38 #[.val (.ref a), .val (.int (0 : Int32)), .val (.ref uA), .val (.ref uA), .val (.ref uA), .val (.int f), .val (.int la), .unset, .unset, .unset] [(.ref a)])) rfl rfl (hb hby d5_38)
    refine Go.movp st446 (mkF m 41 #[.val (.ref a), .val (.int (0 : Int32)), .val (.ref uA), .val (.ref uA), .val (.ref uA), .val (.int f), .val (.int la), .unset, .unset, .unset] [(.int mi)]) rfl ?_
    refine g_istore X446 hx (hb hby d5_41) (pc' := 43) rfl (Ls' := #[.val (.ref a), .val (.int (0 : Int32)), .val (.ref uA), .val (.ref uA), .val (.ref uA), .val (.int f), .val (.int la), .val (.int mi), .unset, .unset]) rfl ?_
    refine g_iconst X446 hx (hb hby d5_43) (pc' := 44) rfl (z := (0 : Int32)) rfl ?_
    refine g_istore X446 hx (hb hby d5_44) (pc' := 46) rfl (Ls' := #[.val (.ref a), .val (.int (0 : Int32)), .val (.ref uA), .val (.ref uA), .val (.ref uA), .val (.int f), .val (.int la), .val (.int mi), .val (.int (0 : Int32)), .unset]) rfl ?_
    refine g_iload X446 hx (hb hby d5_46) (pc' := 48) rfl rfl ?_
    refine g_iloadN X446 hx (hb hby d5_48) (pc' := 49) rfl rfl ?_
    refine g_icmp_ge X446 hx (hb hby d5_49) (pc1 := 52) rfl (by decide) (pc2 := 102) (by decide) (fun hc49 => ?_) (fun hc49 => absurd hc49 (by decide))
    exact g_return X446 hx hret (hb hby d5_102) N0 hlk (fun v t => endF (by decide) (by decide) v) (by rw [e446]; exact ⟨rfl, (Keep.refl h0 [uA]), Va.eq V_uA (by rw [hx0, hx1, hx2])⟩)
  · skip
    have hx0 := hw0.trans (if_pos (by decide))
    have hx1 := hw1.trans (if_neg (by decide))
    have hx2 := hw2.trans (if_neg (by decide))
    refine g_aloadN X0 hx (hb hby d5_0) (pc' := 1) rfl rfl rfl ?_
    obtain ⟨T447, X447, e447, st447⟩ := getF X0 hx hZ hown (host := "") (Or.inl (hw _ (List.mem_of_getElem? (i := 43) rfl))) (Via.of (hw _ (List.mem_of_getElem? (i := 30) rfl))) e0 F_units (g := (mkF m 1 #[.val (.ref a), .val (.int (1 : Int32)), .unset, .unset, .unset, .unset, .unset, .unset, .unset, .unset] [(.ref a)])) rfl rfl (hb hby d5_1)
    refine Go.movp st447 (mkF m 4 #[.val (.ref a), .val (.int (1 : Int32)), .unset, .unset, .unset, .unset, .unset, .unset, .unset, .unset] [(.ref uA)]) rfl ?_
    obtain ⟨T448, X448, e448, st448⟩ := castY X447 hx hZ hown (hw _ (List.mem_of_getElem? (i := 44) rfl)) e447 (Ins.self X_uA) (g := (mkF m 4 #[.val (.ref a), .val (.int (1 : Int32)), .unset, .unset, .unset, .unset, .unset, .unset, .unset, .unset] [(.ref uA)])) rfl rfl (hb hby d5_4)
    refine Go.movp st448 (mkF m 7 #[.val (.ref a), .val (.int (1 : Int32)), .unset, .unset, .unset, .unset, .unset, .unset, .unset, .unset] [(.ref uA)]) rfl ?_
    refine g_astoreN X448 hx (hb hby d5_7) (pc' := 8) rfl rfl (Ls' := #[.val (.ref a), .val (.int (1 : Int32)), .val (.ref uA), .unset, .unset, .unset, .unset, .unset, .unset, .unset]) rfl ?_
    refine g_aloadN X448 hx (hb hby d5_8) (pc' := 9) rfl rfl rfl ?_
    obtain ⟨T449, X449, e449, st449⟩ := getF X448 hx hZ hown (host := "") (Or.inl (hw _ (List.mem_of_getElem? (i := 46) rfl))) (Via.of (hw _ (List.mem_of_getElem? (i := 33) rfl))) e448 F_lasts (g := (mkF m 9 #[.val (.ref a), .val (.int (1 : Int32)), .val (.ref uA), .unset, .unset, .unset, .unset, .unset, .unset, .unset] [(.ref a)])) rfl rfl (hb hby d5_9)
    refine Go.movp st449 (mkF m 12 #[.val (.ref a), .val (.int (1 : Int32)), .val (.ref uA), .unset, .unset, .unset, .unset, .unset, .unset, .unset] [(.ref uA)]) rfl ?_
    obtain ⟨T450, X450, e450, st450⟩ := castY X449 hx hZ hown (hw _ (List.mem_of_getElem? (i := 44) rfl)) e449 (Ins.self X_uA) (g := (mkF m 12 #[.val (.ref a), .val (.int (1 : Int32)), .val (.ref uA), .unset, .unset, .unset, .unset, .unset, .unset, .unset] [(.ref uA)])) rfl rfl (hb hby d5_12)
    refine Go.movp st450 (mkF m 15 #[.val (.ref a), .val (.int (1 : Int32)), .val (.ref uA), .unset, .unset, .unset, .unset, .unset, .unset, .unset] [(.ref uA)]) rfl ?_
    refine g_astoreN X450 hx (hb hby d5_15) (pc' := 16) rfl rfl (Ls' := #[.val (.ref a), .val (.int (1 : Int32)), .val (.ref uA), .val (.ref uA), .unset, .unset, .unset, .unset, .unset, .unset]) rfl ?_
    refine g_aloadN X450 hx (hb hby d5_16) (pc' := 17) rfl rfl rfl ?_
    obtain ⟨T451, X451, e451, st451⟩ := getF X450 hx hZ hown (host := "") (Or.inl (hw _ (List.mem_of_getElem? (i := 47) rfl))) (Via.of (hw _ (List.mem_of_getElem? (i := 36) rfl))) e450 F_middles (g := (mkF m 17 #[.val (.ref a), .val (.int (1 : Int32)), .val (.ref uA), .val (.ref uA), .unset, .unset, .unset, .unset, .unset, .unset] [(.ref a)])) rfl rfl (hb hby d5_17)
    refine Go.movp st451 (mkF m 20 #[.val (.ref a), .val (.int (1 : Int32)), .val (.ref uA), .val (.ref uA), .unset, .unset, .unset, .unset, .unset, .unset] [(.ref uA)]) rfl ?_
    obtain ⟨T452, X452, e452, st452⟩ := castY X451 hx hZ hown (hw _ (List.mem_of_getElem? (i := 44) rfl)) e451 (Ins.self X_uA) (g := (mkF m 20 #[.val (.ref a), .val (.int (1 : Int32)), .val (.ref uA), .val (.ref uA), .unset, .unset, .unset, .unset, .unset, .unset] [(.ref uA)])) rfl rfl (hb hby d5_20)
    refine Go.movp st452 (mkF m 23 #[.val (.ref a), .val (.int (1 : Int32)), .val (.ref uA), .val (.ref uA), .unset, .unset, .unset, .unset, .unset, .unset] [(.ref uA)]) rfl ?_
    refine g_astore X452 hx (hb hby d5_23) (pc' := 25) rfl rfl (Ls' := #[.val (.ref a), .val (.int (1 : Int32)), .val (.ref uA), .val (.ref uA), .val (.ref uA), .unset, .unset, .unset, .unset, .unset]) rfl ?_
    refine g_aloadN X452 hx (hb hby d5_25) (pc' := 26) rfl rfl rfl ?_
    obtain ⟨T453, X453, e453, st453⟩ := getF X452 hx hZ hown (host := "") (Or.inl (hw _ (List.mem_of_getElem? (i := 48) rfl))) (Via.of (hw _ (List.mem_of_getElem? (i := 49) rfl))) e452 F_first (g := (mkF m 26 #[.val (.ref a), .val (.int (1 : Int32)), .val (.ref uA), .val (.ref uA), .val (.ref uA), .unset, .unset, .unset, .unset, .unset] [(.ref a)])) rfl rfl (hb hby d5_26)
    refine Go.movp st453 (mkF m 29 #[.val (.ref a), .val (.int (1 : Int32)), .val (.ref uA), .val (.ref uA), .val (.ref uA), .unset, .unset, .unset, .unset, .unset] [(.int f)]) rfl ?_
    refine g_istore X453 hx (hb hby d5_29) (pc' := 31) rfl (Ls' := #[.val (.ref a), .val (.int (1 : Int32)), .val (.ref uA), .val (.ref uA), .val (.ref uA), .val (.int f), .unset, .unset, .unset, .unset]) rfl ?_
    refine g_aloadN X453 hx (hb hby d5_31) (pc' := 32) rfl rfl rfl ?_
    obtain ⟨T454, X454, e454, st454⟩ := getF X453 hx hZ hown (host := "") (Or.inl (hw _ (List.mem_of_getElem? (i := 50) rfl))) (Via.of (hw _ (List.mem_of_getElem? (i := 51) rfl))) e453 F_last (g := (mkF m 32 #[.val (.ref a), .val (.int (1 : Int32)), .val (.ref uA), .val (.ref uA), .val (.ref uA), .val (.int f), .unset, .unset, .unset, .unset] [(.ref a)])) rfl rfl (hb hby d5_32)
    refine Go.movp st454 (mkF m 35 #[.val (.ref a), .val (.int (1 : Int32)), .val (.ref uA), .val (.ref uA), .val (.ref uA), .val (.int f), .unset, .unset, .unset, .unset] [(.int la)]) rfl ?_
    refine g_istore X454 hx (hb hby d5_35) (pc' := 37) rfl (Ls' := #[.val (.ref a), .val (.int (1 : Int32)), .val (.ref uA), .val (.ref uA), .val (.ref uA), .val (.int f), .val (.int la), .unset, .unset, .unset]) rfl ?_
    refine g_aloadN X454 hx (hb hby d5_37) (pc' := 38) rfl rfl rfl ?_
    obtain ⟨T455, X455, e455, st455⟩ := getF X454 hx hZ hown (host := "") (Or.inl (hw _ (List.mem_of_getElem? (i := 52) rfl))) (Via.of (hw _ (List.mem_of_getElem? (i := 53) rfl))) e454 F_middle (g := (mkF m 38 #[.val (.ref a), .val (.int (1 : Int32)), .val (.ref uA), .val (.ref uA), .val (.ref uA), .val (.int f), .val (.int la), .unset, .unset, .unset] [(.ref a)])) rfl rfl (hb hby d5_38)
    refine Go.movp st455 (mkF m 41 #[.val (.ref a), .val (.int (1 : Int32)), .val (.ref uA), .val (.ref uA), .val (.ref uA), .val (.int f), .val (.int la), .unset, .unset, .unset] [(.int mi)]) rfl ?_
    refine g_istore X455 hx (hb hby d5_41) (pc' := 43) rfl (Ls' := #[.val (.ref a), .val (.int (1 : Int32)), .val (.ref uA), .val (.ref uA), .val (.ref uA), .val (.int f), .val (.int la), .val (.int mi), .unset, .unset]) rfl ?_
    refine g_iconst X455 hx (hb hby d5_43) (pc' := 44) rfl (z := (0 : Int32)) rfl ?_
    refine g_istore X455 hx (hb hby d5_44) (pc' := 46) rfl (Ls' := #[.val (.ref a), .val (.int (1 : Int32)), .val (.ref uA), .val (.ref uA), .val (.ref uA), .val (.int f), .val (.int la), .val (.int mi), .val (.int (0 : Int32)), .unset]) rfl ?_
    refine g_iload X455 hx (hb hby d5_46) (pc' := 48) rfl rfl ?_
    refine g_iloadN X455 hx (hb hby d5_48) (pc' := 49) rfl rfl ?_
    refine g_icmp_ge X455 hx (hb hby d5_49) (pc1 := 52) rfl (by decide) (pc2 := 102) (by decide) (fun hc49 => absurd (by decide) hc49) (fun hc49 => ?_)
    refine g_aloadN X455 hx (hb hby d5_52) (pc' := 53) rfl rfl rfl ?_
    refine g_iload X455 hx (hb hby d5_53) (pc' := 55) rfl rfl ?_
    refine g_baload X455 hx hZ e455 V_uA (i := 0) (v := (.int u0)) (hb hby d5_55) (pc' := 56) rfl (by decide) rfl rfl ?_
    refine g_iload X455 hx (hb hby d5_56) (pc' := 58) rfl rfl ?_
    refine g_ixor X455 hx (hb hby d5_58) (pc' := 59) rfl ?_
    refine g_aloadN X455 hx (hb hby d5_59) (pc' := 60) rfl rfl rfl ?_
    refine g_iload X455 hx (hb hby d5_60) (pc' := 62) rfl rfl ?_
    refine g_baload X455 hx hZ e455 V_uA (i := 0) (v := (.int u0)) (hb hby d5_62) (pc' := 63) rfl (by decide) rfl rfl ?_
    refine g_iload X455 hx (hb hby d5_63) (pc' := 65) rfl rfl ?_
    refine g_ixor X455 hx (hb hby d5_65) (pc' := 66) rfl ?_
    refine g_ior X455 hx (hb hby d5_66) (pc' := 67) rfl ?_
    refine g_aload X455 hx (hb hby d5_67) (pc' := 69) rfl rfl rfl ?_
    refine g_iload X455 hx (hb hby d5_69) (pc' := 71) rfl rfl ?_
    refine g_baload X455 hx hZ e455 V_uA (i := 0) (v := (.int u0)) (hb hby d5_71) (pc' := 72) rfl (by decide) rfl rfl ?_
    refine g_iload X455 hx (hb hby d5_72) (pc' := 74) rfl rfl ?_
    refine g_ixor X455 hx (hb hby d5_74) (pc' := 75) rfl ?_
    refine g_ior X455 hx (hb hby d5_75) (pc' := 76) rfl ?_
    refine Go.cast (show (mkF m 76 #[.val (.ref a), .val (.int (1 : Int32)), .val (.ref uA), .val (.ref uA), .val (.ref uA), .val (.int f), .val (.int la), .val (.int mi), .val (.int (0 : Int32)), .unset] [(.int (((u0 ^^^ f) ||| (u0 ^^^ la)) ||| (u0 ^^^ mi)))]) = (mkF m 76 #[.val (.ref a), .val (.int (1 : Int32)), .val (.ref uA), .val (.ref uA), .val (.ref uA), .val (.int f), .val (.int la), .val (.int mi), .val (.int (0 : Int32)), .unset] [(.int (zV u0 u0 u0 f la mi))]) from by rw [show (((u0 ^^^ f) ||| (u0 ^^^ la)) ||| (u0 ^^^ mi)) = (zV u0 u0 u0 f la mi) from rfl]) ?_
    refine g_istore X455 hx (hb hby d5_76) (pc' := 78) rfl (Ls' := #[.val (.ref a), .val (.int (1 : Int32)), .val (.ref uA), .val (.ref uA), .val (.ref uA), .val (.int f), .val (.int la), .val (.int mi), .val (.int (0 : Int32)), .val (.int (zV u0 u0 u0 f la mi))]) rfl ?_
    refine g_aloadN X455 hx (hb hby d5_78) (pc' := 79) rfl rfl rfl ?_
    refine g_iload X455 hx (hb hby d5_79) (pc' := 81) rfl rfl ?_
    refine g_iload X455 hx (hb hby d5_81) (pc' := 83) rfl rfl ?_
    refine g_iconst X455 hx (hb hby d5_83) (pc' := 84) rfl (z := (1 : Int32)) rfl ?_
    refine g_isub X455 hx (hb hby d5_84) (pc' := 85) rfl ?_
    refine g_iload X455 hx (hb hby d5_85) (pc' := 87) rfl rfl ?_
    refine g_iconst X455 hx (hb hby d5_87) (pc' := 88) rfl (z := (-1 : Int32)) rfl ?_
    refine g_ixor X455 hx (hb hby d5_88) (pc' := 89) rfl ?_
    refine g_iand X455 hx (hb hby d5_89) (pc' := 90) rfl ?_
    refine g_sipush X455 hx (hb hby d5_90) (pc' := 93) rfl (z := (128 : Int32)) rfl ?_
    refine g_iand X455 hx (hb hby d5_93) (pc' := 94) rfl ?_
    refine g_i2b X455 hx (hb hby d5_94) (pc' := 95) rfl ?_
    refine Go.cast (show (mkF m 95 #[.val (.ref a), .val (.int (1 : Int32)), .val (.ref uA), .val (.ref uA), .val (.ref uA), .val (.int f), .val (.int la), .val (.int mi), .val (.int (0 : Int32)), .val (.int (zV u0 u0 u0 f la mi))] [(.int (byt ((((zV u0 u0 u0 f la mi) - (1 : Int32)) &&& ((zV u0 u0 u0 f la mi) ^^^ (-1 : Int32))) &&& (128 : Int32)))), (.int (0 : Int32)), (.ref uA)]) = (mkF m 95 #[.val (.ref a), .val (.int (1 : Int32)), .val (.ref uA), .val (.ref uA), .val (.ref uA), .val (.int f), .val (.int la), .val (.int mi), .val (.int (0 : Int32)), .val (.int (zV u0 u0 u0 f la mi))] [(.int (mkV u0 u0 u0 f la mi)), (.int (0 : Int32)), (.ref uA)]) from by rw [show (byt ((((zV u0 u0 u0 f la mi) - (1 : Int32)) &&& ((zV u0 u0 u0 f la mi) ^^^ (-1 : Int32))) &&& (128 : Int32))) = (mkV u0 u0 u0 f la mi) from rfl]) ?_
    obtain ⟨T456, h456, L456, X456, e456, N456, W456, V456, st456⟩ := h_bastore X455 hx hZ e455 N0 V_uA G1 (j := (0 : Int32)) (i := 0) (x := (mkV u0 u0 u0 f la mi)) (hb hby d5_95) (by decide) rfl rfl #[.val (.ref a), .val (.int (1 : Int32)), .val (.ref uA), .val (.ref uA), .val (.ref uA), .val (.int f), .val (.int la), .val (.int mi), .val (.int (0 : Int32)), .val (.int (zV u0 u0 u0 f la mi))] []
    have f457 := Fld.other W456 F_units (Or.inl ne_a)
    have f458 := Fld.other W456 F_lasts (Or.inl ne_a)
    have f459 := Fld.other W456 F_middles (Or.inl ne_a)
    have f460 := Fld.other W456 F_first (Or.inl ne_a)
    have f461 := Fld.other W456 F_last (Or.inl ne_a)
    have f462 := Fld.other W456 F_middle (Or.inl ne_a)
    have f463 := Exa.wr W456 X_uA
    have Z464 : n0 ≤ h456.size := Nat.le_trans Z0 (Keep.of_wr W456).1
    have K465 := (Keep.refl h0 [uA]).wr W456 (Or.inl (List.mem_of_getElem? (i := 0) rfl))
    have f466 : Va Z h456 uA .byte [(.int (byt (mkV u0 u0 u0 f la mi))), (.int u1), (.int u2)] := V456
    have f467 : Va Z h456 uA .byte [(.int (mkV u0 u0 u0 f la mi)), (.int u1), (.int u2)] := by rw [show (byt (mkV u0 u0 u0 f la mi)) = (mkV u0 u0 u0 f la mi) from byt_byt _] at f466; exact f466
    refine Go.movp st456 (mkF m 96 #[.val (.ref a), .val (.int (1 : Int32)), .val (.ref uA), .val (.ref uA), .val (.ref uA), .val (.int f), .val (.int la), .val (.int mi), .val (.int (0 : Int32)), .val (.int (zV u0 u0 u0 f la mi))] []) rfl ?_
    refine g_iinc X456 hx (hb hby d5_96) (pc' := 99) rfl rfl (z := (1 : Int32)) rfl (Ls' := #[.val (.ref a), .val (.int (1 : Int32)), .val (.ref uA), .val (.ref uA), .val (.ref uA), .val (.int f), .val (.int la), .val (.int mi), .val (.int (1 : Int32)), .val (.int (zV u0 u0 u0 f la mi))]) rfl ?_
    refine g_goto X456 hx (hb hby d5_99) (by decide) (pc' := 46) (by decide) ?_
    refine g_iload X456 hx (hb hby d5_46) (pc' := 48) rfl rfl ?_
    refine g_iloadN X456 hx (hb hby d5_48) (pc' := 49) rfl rfl ?_
    refine g_icmp_ge X456 hx (hb hby d5_49) (pc1 := 52) rfl (by decide) (pc2 := 102) (by decide) (fun hc49_1 => ?_) (fun hc49_1 => absurd hc49_1 (by decide))
    exact g_return X456 hx hret (hb hby d5_102) N456 hlk (fun v t => endF (by decide) (by decide) v) (by rw [e456]; exact ⟨rfl, K465, Va.eq f467 (by rw [hx0, hx1, hx2])⟩)
  · skip
    have hx0 := hw0.trans (if_pos (by decide))
    have hx1 := hw1.trans (if_pos (by decide))
    have hx2 := hw2.trans (if_neg (by decide))
    refine g_aloadN X0 hx (hb hby d5_0) (pc' := 1) rfl rfl rfl ?_
    obtain ⟨T468, X468, e468, st468⟩ := getF X0 hx hZ hown (host := "") (Or.inl (hw _ (List.mem_of_getElem? (i := 43) rfl))) (Via.of (hw _ (List.mem_of_getElem? (i := 30) rfl))) e0 F_units (g := (mkF m 1 #[.val (.ref a), .val (.int (2 : Int32)), .unset, .unset, .unset, .unset, .unset, .unset, .unset, .unset] [(.ref a)])) rfl rfl (hb hby d5_1)
    refine Go.movp st468 (mkF m 4 #[.val (.ref a), .val (.int (2 : Int32)), .unset, .unset, .unset, .unset, .unset, .unset, .unset, .unset] [(.ref uA)]) rfl ?_
    obtain ⟨T469, X469, e469, st469⟩ := castY X468 hx hZ hown (hw _ (List.mem_of_getElem? (i := 44) rfl)) e468 (Ins.self X_uA) (g := (mkF m 4 #[.val (.ref a), .val (.int (2 : Int32)), .unset, .unset, .unset, .unset, .unset, .unset, .unset, .unset] [(.ref uA)])) rfl rfl (hb hby d5_4)
    refine Go.movp st469 (mkF m 7 #[.val (.ref a), .val (.int (2 : Int32)), .unset, .unset, .unset, .unset, .unset, .unset, .unset, .unset] [(.ref uA)]) rfl ?_
    refine g_astoreN X469 hx (hb hby d5_7) (pc' := 8) rfl rfl (Ls' := #[.val (.ref a), .val (.int (2 : Int32)), .val (.ref uA), .unset, .unset, .unset, .unset, .unset, .unset, .unset]) rfl ?_
    refine g_aloadN X469 hx (hb hby d5_8) (pc' := 9) rfl rfl rfl ?_
    obtain ⟨T470, X470, e470, st470⟩ := getF X469 hx hZ hown (host := "") (Or.inl (hw _ (List.mem_of_getElem? (i := 46) rfl))) (Via.of (hw _ (List.mem_of_getElem? (i := 33) rfl))) e469 F_lasts (g := (mkF m 9 #[.val (.ref a), .val (.int (2 : Int32)), .val (.ref uA), .unset, .unset, .unset, .unset, .unset, .unset, .unset] [(.ref a)])) rfl rfl (hb hby d5_9)
    refine Go.movp st470 (mkF m 12 #[.val (.ref a), .val (.int (2 : Int32)), .val (.ref uA), .unset, .unset, .unset, .unset, .unset, .unset, .unset] [(.ref uA)]) rfl ?_
    obtain ⟨T471, X471, e471, st471⟩ := castY X470 hx hZ hown (hw _ (List.mem_of_getElem? (i := 44) rfl)) e470 (Ins.self X_uA) (g := (mkF m 12 #[.val (.ref a), .val (.int (2 : Int32)), .val (.ref uA), .unset, .unset, .unset, .unset, .unset, .unset, .unset] [(.ref uA)])) rfl rfl (hb hby d5_12)
    refine Go.movp st471 (mkF m 15 #[.val (.ref a), .val (.int (2 : Int32)), .val (.ref uA), .unset, .unset, .unset, .unset, .unset, .unset, .unset] [(.ref uA)]) rfl ?_
    refine g_astoreN X471 hx (hb hby d5_15) (pc' := 16) rfl rfl (Ls' := #[.val (.ref a), .val (.int (2 : Int32)), .val (.ref uA), .val (.ref uA), .unset, .unset, .unset, .unset, .unset, .unset]) rfl ?_
    refine g_aloadN X471 hx (hb hby d5_16) (pc' := 17) rfl rfl rfl ?_
    obtain ⟨T472, X472, e472, st472⟩ := getF X471 hx hZ hown (host := "") (Or.inl (hw _ (List.mem_of_getElem? (i := 47) rfl))) (Via.of (hw _ (List.mem_of_getElem? (i := 36) rfl))) e471 F_middles (g := (mkF m 17 #[.val (.ref a), .val (.int (2 : Int32)), .val (.ref uA), .val (.ref uA), .unset, .unset, .unset, .unset, .unset, .unset] [(.ref a)])) rfl rfl (hb hby d5_17)
    refine Go.movp st472 (mkF m 20 #[.val (.ref a), .val (.int (2 : Int32)), .val (.ref uA), .val (.ref uA), .unset, .unset, .unset, .unset, .unset, .unset] [(.ref uA)]) rfl ?_
    obtain ⟨T473, X473, e473, st473⟩ := castY X472 hx hZ hown (hw _ (List.mem_of_getElem? (i := 44) rfl)) e472 (Ins.self X_uA) (g := (mkF m 20 #[.val (.ref a), .val (.int (2 : Int32)), .val (.ref uA), .val (.ref uA), .unset, .unset, .unset, .unset, .unset, .unset] [(.ref uA)])) rfl rfl (hb hby d5_20)
    refine Go.movp st473 (mkF m 23 #[.val (.ref a), .val (.int (2 : Int32)), .val (.ref uA), .val (.ref uA), .unset, .unset, .unset, .unset, .unset, .unset] [(.ref uA)]) rfl ?_
    refine g_astore X473 hx (hb hby d5_23) (pc' := 25) rfl rfl (Ls' := #[.val (.ref a), .val (.int (2 : Int32)), .val (.ref uA), .val (.ref uA), .val (.ref uA), .unset, .unset, .unset, .unset, .unset]) rfl ?_
    refine g_aloadN X473 hx (hb hby d5_25) (pc' := 26) rfl rfl rfl ?_
    obtain ⟨T474, X474, e474, st474⟩ := getF X473 hx hZ hown (host := "") (Or.inl (hw _ (List.mem_of_getElem? (i := 48) rfl))) (Via.of (hw _ (List.mem_of_getElem? (i := 49) rfl))) e473 F_first (g := (mkF m 26 #[.val (.ref a), .val (.int (2 : Int32)), .val (.ref uA), .val (.ref uA), .val (.ref uA), .unset, .unset, .unset, .unset, .unset] [(.ref a)])) rfl rfl (hb hby d5_26)
    refine Go.movp st474 (mkF m 29 #[.val (.ref a), .val (.int (2 : Int32)), .val (.ref uA), .val (.ref uA), .val (.ref uA), .unset, .unset, .unset, .unset, .unset] [(.int f)]) rfl ?_
    refine g_istore X474 hx (hb hby d5_29) (pc' := 31) rfl (Ls' := #[.val (.ref a), .val (.int (2 : Int32)), .val (.ref uA), .val (.ref uA), .val (.ref uA), .val (.int f), .unset, .unset, .unset, .unset]) rfl ?_
    refine g_aloadN X474 hx (hb hby d5_31) (pc' := 32) rfl rfl rfl ?_
    obtain ⟨T475, X475, e475, st475⟩ := getF X474 hx hZ hown (host := "") (Or.inl (hw _ (List.mem_of_getElem? (i := 50) rfl))) (Via.of (hw _ (List.mem_of_getElem? (i := 51) rfl))) e474 F_last (g := (mkF m 32 #[.val (.ref a), .val (.int (2 : Int32)), .val (.ref uA), .val (.ref uA), .val (.ref uA), .val (.int f), .unset, .unset, .unset, .unset] [(.ref a)])) rfl rfl (hb hby d5_32)
    refine Go.movp st475 (mkF m 35 #[.val (.ref a), .val (.int (2 : Int32)), .val (.ref uA), .val (.ref uA), .val (.ref uA), .val (.int f), .unset, .unset, .unset, .unset] [(.int la)]) rfl ?_
    refine g_istore X475 hx (hb hby d5_35) (pc' := 37) rfl (Ls' := #[.val (.ref a), .val (.int (2 : Int32)), .val (.ref uA), .val (.ref uA), .val (.ref uA), .val (.int f), .val (.int la), .unset, .unset, .unset]) rfl ?_
    refine g_aloadN X475 hx (hb hby d5_37) (pc' := 38) rfl rfl rfl ?_
    obtain ⟨T476, X476, e476, st476⟩ := getF X475 hx hZ hown (host := "") (Or.inl (hw _ (List.mem_of_getElem? (i := 52) rfl))) (Via.of (hw _ (List.mem_of_getElem? (i := 53) rfl))) e475 F_middle (g := (mkF m 38 #[.val (.ref a), .val (.int (2 : Int32)), .val (.ref uA), .val (.ref uA), .val (.ref uA), .val (.int f), .val (.int la), .unset, .unset, .unset] [(.ref a)])) rfl rfl (hb hby d5_38)
    refine Go.movp st476 (mkF m 41 #[.val (.ref a), .val (.int (2 : Int32)), .val (.ref uA), .val (.ref uA), .val (.ref uA), .val (.int f), .val (.int la), .unset, .unset, .unset] [(.int mi)]) rfl ?_
    refine g_istore X476 hx (hb hby d5_41) (pc' := 43) rfl (Ls' := #[.val (.ref a), .val (.int (2 : Int32)), .val (.ref uA), .val (.ref uA), .val (.ref uA), .val (.int f), .val (.int la), .val (.int mi), .unset, .unset]) rfl ?_
    refine g_iconst X476 hx (hb hby d5_43) (pc' := 44) rfl (z := (0 : Int32)) rfl ?_
    refine g_istore X476 hx (hb hby d5_44) (pc' := 46) rfl (Ls' := #[.val (.ref a), .val (.int (2 : Int32)), .val (.ref uA), .val (.ref uA), .val (.ref uA), .val (.int f), .val (.int la), .val (.int mi), .val (.int (0 : Int32)), .unset]) rfl ?_
    refine g_iload X476 hx (hb hby d5_46) (pc' := 48) rfl rfl ?_
    refine g_iloadN X476 hx (hb hby d5_48) (pc' := 49) rfl rfl ?_
    refine g_icmp_ge X476 hx (hb hby d5_49) (pc1 := 52) rfl (by decide) (pc2 := 102) (by decide) (fun hc49 => absurd (by decide) hc49) (fun hc49 => ?_)
    refine g_aloadN X476 hx (hb hby d5_52) (pc' := 53) rfl rfl rfl ?_
    refine g_iload X476 hx (hb hby d5_53) (pc' := 55) rfl rfl ?_
    refine g_baload X476 hx hZ e476 V_uA (i := 0) (v := (.int u0)) (hb hby d5_55) (pc' := 56) rfl (by decide) rfl rfl ?_
    refine g_iload X476 hx (hb hby d5_56) (pc' := 58) rfl rfl ?_
    refine g_ixor X476 hx (hb hby d5_58) (pc' := 59) rfl ?_
    refine g_aloadN X476 hx (hb hby d5_59) (pc' := 60) rfl rfl rfl ?_
    refine g_iload X476 hx (hb hby d5_60) (pc' := 62) rfl rfl ?_
    refine g_baload X476 hx hZ e476 V_uA (i := 0) (v := (.int u0)) (hb hby d5_62) (pc' := 63) rfl (by decide) rfl rfl ?_
    refine g_iload X476 hx (hb hby d5_63) (pc' := 65) rfl rfl ?_
    refine g_ixor X476 hx (hb hby d5_65) (pc' := 66) rfl ?_
    refine g_ior X476 hx (hb hby d5_66) (pc' := 67) rfl ?_
    refine g_aload X476 hx (hb hby d5_67) (pc' := 69) rfl rfl rfl ?_
    refine g_iload X476 hx (hb hby d5_69) (pc' := 71) rfl rfl ?_
    refine g_baload X476 hx hZ e476 V_uA (i := 0) (v := (.int u0)) (hb hby d5_71) (pc' := 72) rfl (by decide) rfl rfl ?_
    refine g_iload X476 hx (hb hby d5_72) (pc' := 74) rfl rfl ?_
    refine g_ixor X476 hx (hb hby d5_74) (pc' := 75) rfl ?_
    refine g_ior X476 hx (hb hby d5_75) (pc' := 76) rfl ?_
    refine Go.cast (show (mkF m 76 #[.val (.ref a), .val (.int (2 : Int32)), .val (.ref uA), .val (.ref uA), .val (.ref uA), .val (.int f), .val (.int la), .val (.int mi), .val (.int (0 : Int32)), .unset] [(.int (((u0 ^^^ f) ||| (u0 ^^^ la)) ||| (u0 ^^^ mi)))]) = (mkF m 76 #[.val (.ref a), .val (.int (2 : Int32)), .val (.ref uA), .val (.ref uA), .val (.ref uA), .val (.int f), .val (.int la), .val (.int mi), .val (.int (0 : Int32)), .unset] [(.int (zV u0 u0 u0 f la mi))]) from by rw [show (((u0 ^^^ f) ||| (u0 ^^^ la)) ||| (u0 ^^^ mi)) = (zV u0 u0 u0 f la mi) from rfl]) ?_
    refine g_istore X476 hx (hb hby d5_76) (pc' := 78) rfl (Ls' := #[.val (.ref a), .val (.int (2 : Int32)), .val (.ref uA), .val (.ref uA), .val (.ref uA), .val (.int f), .val (.int la), .val (.int mi), .val (.int (0 : Int32)), .val (.int (zV u0 u0 u0 f la mi))]) rfl ?_
    refine g_aloadN X476 hx (hb hby d5_78) (pc' := 79) rfl rfl rfl ?_
    refine g_iload X476 hx (hb hby d5_79) (pc' := 81) rfl rfl ?_
    refine g_iload X476 hx (hb hby d5_81) (pc' := 83) rfl rfl ?_
    refine g_iconst X476 hx (hb hby d5_83) (pc' := 84) rfl (z := (1 : Int32)) rfl ?_
    refine g_isub X476 hx (hb hby d5_84) (pc' := 85) rfl ?_
    refine g_iload X476 hx (hb hby d5_85) (pc' := 87) rfl rfl ?_
    refine g_iconst X476 hx (hb hby d5_87) (pc' := 88) rfl (z := (-1 : Int32)) rfl ?_
    refine g_ixor X476 hx (hb hby d5_88) (pc' := 89) rfl ?_
    refine g_iand X476 hx (hb hby d5_89) (pc' := 90) rfl ?_
    refine g_sipush X476 hx (hb hby d5_90) (pc' := 93) rfl (z := (128 : Int32)) rfl ?_
    refine g_iand X476 hx (hb hby d5_93) (pc' := 94) rfl ?_
    refine g_i2b X476 hx (hb hby d5_94) (pc' := 95) rfl ?_
    refine Go.cast (show (mkF m 95 #[.val (.ref a), .val (.int (2 : Int32)), .val (.ref uA), .val (.ref uA), .val (.ref uA), .val (.int f), .val (.int la), .val (.int mi), .val (.int (0 : Int32)), .val (.int (zV u0 u0 u0 f la mi))] [(.int (byt ((((zV u0 u0 u0 f la mi) - (1 : Int32)) &&& ((zV u0 u0 u0 f la mi) ^^^ (-1 : Int32))) &&& (128 : Int32)))), (.int (0 : Int32)), (.ref uA)]) = (mkF m 95 #[.val (.ref a), .val (.int (2 : Int32)), .val (.ref uA), .val (.ref uA), .val (.ref uA), .val (.int f), .val (.int la), .val (.int mi), .val (.int (0 : Int32)), .val (.int (zV u0 u0 u0 f la mi))] [(.int (mkV u0 u0 u0 f la mi)), (.int (0 : Int32)), (.ref uA)]) from by rw [show (byt ((((zV u0 u0 u0 f la mi) - (1 : Int32)) &&& ((zV u0 u0 u0 f la mi) ^^^ (-1 : Int32))) &&& (128 : Int32))) = (mkV u0 u0 u0 f la mi) from rfl]) ?_
    obtain ⟨T477, h477, L477, X477, e477, N477, W477, V477, st477⟩ := h_bastore X476 hx hZ e476 N0 V_uA G1 (j := (0 : Int32)) (i := 0) (x := (mkV u0 u0 u0 f la mi)) (hb hby d5_95) (by decide) rfl rfl #[.val (.ref a), .val (.int (2 : Int32)), .val (.ref uA), .val (.ref uA), .val (.ref uA), .val (.int f), .val (.int la), .val (.int mi), .val (.int (0 : Int32)), .val (.int (zV u0 u0 u0 f la mi))] []
    have f478 := Fld.other W477 F_units (Or.inl ne_a)
    have f479 := Fld.other W477 F_lasts (Or.inl ne_a)
    have f480 := Fld.other W477 F_middles (Or.inl ne_a)
    have f481 := Fld.other W477 F_first (Or.inl ne_a)
    have f482 := Fld.other W477 F_last (Or.inl ne_a)
    have f483 := Fld.other W477 F_middle (Or.inl ne_a)
    have f484 := Exa.wr W477 X_uA
    have Z485 : n0 ≤ h477.size := Nat.le_trans Z0 (Keep.of_wr W477).1
    have K486 := (Keep.refl h0 [uA]).wr W477 (Or.inl (List.mem_of_getElem? (i := 0) rfl))
    have f487 : Va Z h477 uA .byte [(.int (byt (mkV u0 u0 u0 f la mi))), (.int u1), (.int u2)] := V477
    have f488 : Va Z h477 uA .byte [(.int (mkV u0 u0 u0 f la mi)), (.int u1), (.int u2)] := by rw [show (byt (mkV u0 u0 u0 f la mi)) = (mkV u0 u0 u0 f la mi) from byt_byt _] at f487; exact f487
    refine Go.movp st477 (mkF m 96 #[.val (.ref a), .val (.int (2 : Int32)), .val (.ref uA), .val (.ref uA), .val (.ref uA), .val (.int f), .val (.int la), .val (.int mi), .val (.int (0 : Int32)), .val (.int (zV u0 u0 u0 f la mi))] []) rfl ?_
    refine g_iinc X477 hx (hb hby d5_96) (pc' := 99) rfl rfl (z := (1 : Int32)) rfl (Ls' := #[.val (.ref a), .val (.int (2 : Int32)), .val (.ref uA), .val (.ref uA), .val (.ref uA), .val (.int f), .val (.int la), .val (.int mi), .val (.int (1 : Int32)), .val (.int (zV u0 u0 u0 f la mi))]) rfl ?_
    refine g_goto X477 hx (hb hby d5_99) (by decide) (pc' := 46) (by decide) ?_
    refine g_iload X477 hx (hb hby d5_46) (pc' := 48) rfl rfl ?_
    refine g_iloadN X477 hx (hb hby d5_48) (pc' := 49) rfl rfl ?_
    refine g_icmp_ge X477 hx (hb hby d5_49) (pc1 := 52) rfl (by decide) (pc2 := 102) (by decide) (fun hc49_1 => absurd (by decide) hc49_1) (fun hc49_1 => ?_)
    refine g_aloadN X477 hx (hb hby d5_52) (pc' := 53) rfl rfl rfl ?_
    refine g_iload X477 hx (hb hby d5_53) (pc' := 55) rfl rfl ?_
    refine g_baload X477 hx hZ e477 f488 (i := 1) (v := (.int u1)) (hb hby d5_55) (pc' := 56) rfl (by decide) rfl rfl ?_
    refine g_iload X477 hx (hb hby d5_56) (pc' := 58) rfl rfl ?_
    refine g_ixor X477 hx (hb hby d5_58) (pc' := 59) rfl ?_
    refine g_aloadN X477 hx (hb hby d5_59) (pc' := 60) rfl rfl rfl ?_
    refine g_iload X477 hx (hb hby d5_60) (pc' := 62) rfl rfl ?_
    refine g_baload X477 hx hZ e477 f488 (i := 1) (v := (.int u1)) (hb hby d5_62) (pc' := 63) rfl (by decide) rfl rfl ?_
    refine g_iload X477 hx (hb hby d5_63) (pc' := 65) rfl rfl ?_
    refine g_ixor X477 hx (hb hby d5_65) (pc' := 66) rfl ?_
    refine g_ior X477 hx (hb hby d5_66) (pc' := 67) rfl ?_
    refine g_aload X477 hx (hb hby d5_67) (pc' := 69) rfl rfl rfl ?_
    refine g_iload X477 hx (hb hby d5_69) (pc' := 71) rfl rfl ?_
    refine g_baload X477 hx hZ e477 f488 (i := 1) (v := (.int u1)) (hb hby d5_71) (pc' := 72) rfl (by decide) rfl rfl ?_
    refine g_iload X477 hx (hb hby d5_72) (pc' := 74) rfl rfl ?_
    refine g_ixor X477 hx (hb hby d5_74) (pc' := 75) rfl ?_
    refine g_ior X477 hx (hb hby d5_75) (pc' := 76) rfl ?_
    refine Go.cast (show (mkF m 76 #[.val (.ref a), .val (.int (2 : Int32)), .val (.ref uA), .val (.ref uA), .val (.ref uA), .val (.int f), .val (.int la), .val (.int mi), .val (.int (1 : Int32)), .val (.int (zV u0 u0 u0 f la mi))] [(.int (((u1 ^^^ f) ||| (u1 ^^^ la)) ||| (u1 ^^^ mi)))]) = (mkF m 76 #[.val (.ref a), .val (.int (2 : Int32)), .val (.ref uA), .val (.ref uA), .val (.ref uA), .val (.int f), .val (.int la), .val (.int mi), .val (.int (1 : Int32)), .val (.int (zV u0 u0 u0 f la mi))] [(.int (zV u1 u1 u1 f la mi))]) from by rw [show (((u1 ^^^ f) ||| (u1 ^^^ la)) ||| (u1 ^^^ mi)) = (zV u1 u1 u1 f la mi) from rfl]) ?_
    refine g_istore X477 hx (hb hby d5_76) (pc' := 78) rfl (Ls' := #[.val (.ref a), .val (.int (2 : Int32)), .val (.ref uA), .val (.ref uA), .val (.ref uA), .val (.int f), .val (.int la), .val (.int mi), .val (.int (1 : Int32)), .val (.int (zV u1 u1 u1 f la mi))]) rfl ?_
    refine g_aloadN X477 hx (hb hby d5_78) (pc' := 79) rfl rfl rfl ?_
    refine g_iload X477 hx (hb hby d5_79) (pc' := 81) rfl rfl ?_
    refine g_iload X477 hx (hb hby d5_81) (pc' := 83) rfl rfl ?_
    refine g_iconst X477 hx (hb hby d5_83) (pc' := 84) rfl (z := (1 : Int32)) rfl ?_
    refine g_isub X477 hx (hb hby d5_84) (pc' := 85) rfl ?_
    refine g_iload X477 hx (hb hby d5_85) (pc' := 87) rfl rfl ?_
    refine g_iconst X477 hx (hb hby d5_87) (pc' := 88) rfl (z := (-1 : Int32)) rfl ?_
    refine g_ixor X477 hx (hb hby d5_88) (pc' := 89) rfl ?_
    refine g_iand X477 hx (hb hby d5_89) (pc' := 90) rfl ?_
    refine g_sipush X477 hx (hb hby d5_90) (pc' := 93) rfl (z := (128 : Int32)) rfl ?_
    refine g_iand X477 hx (hb hby d5_93) (pc' := 94) rfl ?_
    refine g_i2b X477 hx (hb hby d5_94) (pc' := 95) rfl ?_
    refine Go.cast (show (mkF m 95 #[.val (.ref a), .val (.int (2 : Int32)), .val (.ref uA), .val (.ref uA), .val (.ref uA), .val (.int f), .val (.int la), .val (.int mi), .val (.int (1 : Int32)), .val (.int (zV u1 u1 u1 f la mi))] [(.int (byt ((((zV u1 u1 u1 f la mi) - (1 : Int32)) &&& ((zV u1 u1 u1 f la mi) ^^^ (-1 : Int32))) &&& (128 : Int32)))), (.int (1 : Int32)), (.ref uA)]) = (mkF m 95 #[.val (.ref a), .val (.int (2 : Int32)), .val (.ref uA), .val (.ref uA), .val (.ref uA), .val (.int f), .val (.int la), .val (.int mi), .val (.int (1 : Int32)), .val (.int (zV u1 u1 u1 f la mi))] [(.int (mkV u1 u1 u1 f la mi)), (.int (1 : Int32)), (.ref uA)]) from by rw [show (byt ((((zV u1 u1 u1 f la mi) - (1 : Int32)) &&& ((zV u1 u1 u1 f la mi) ^^^ (-1 : Int32))) &&& (128 : Int32))) = (mkV u1 u1 u1 f la mi) from rfl]) ?_
    obtain ⟨T489, h489, L489, X489, e489, N489, W489, V489, st489⟩ := h_bastore X477 hx hZ e477 N477 f488 G1 (j := (1 : Int32)) (i := 1) (x := (mkV u1 u1 u1 f la mi)) (hb hby d5_95) (by decide) rfl rfl #[.val (.ref a), .val (.int (2 : Int32)), .val (.ref uA), .val (.ref uA), .val (.ref uA), .val (.int f), .val (.int la), .val (.int mi), .val (.int (1 : Int32)), .val (.int (zV u1 u1 u1 f la mi))] []
    have f490 := Fld.other W489 f478 (Or.inl ne_a)
    have f491 := Fld.other W489 f479 (Or.inl ne_a)
    have f492 := Fld.other W489 f480 (Or.inl ne_a)
    have f493 := Fld.other W489 f481 (Or.inl ne_a)
    have f494 := Fld.other W489 f482 (Or.inl ne_a)
    have f495 := Fld.other W489 f483 (Or.inl ne_a)
    have f496 := Exa.wr W489 f484
    have Z497 : n0 ≤ h489.size := Nat.le_trans Z485 (Keep.of_wr W489).1
    have K498 := K486.wr W489 (Or.inl (List.mem_of_getElem? (i := 0) rfl))
    have f499 : Va Z h489 uA .byte [(.int (mkV u0 u0 u0 f la mi)), (.int (byt (mkV u1 u1 u1 f la mi))), (.int u2)] := V489
    have f500 : Va Z h489 uA .byte [(.int (mkV u0 u0 u0 f la mi)), (.int (mkV u1 u1 u1 f la mi)), (.int u2)] := by rw [show (byt (mkV u1 u1 u1 f la mi)) = (mkV u1 u1 u1 f la mi) from byt_byt _] at f499; exact f499
    refine Go.movp st489 (mkF m 96 #[.val (.ref a), .val (.int (2 : Int32)), .val (.ref uA), .val (.ref uA), .val (.ref uA), .val (.int f), .val (.int la), .val (.int mi), .val (.int (1 : Int32)), .val (.int (zV u1 u1 u1 f la mi))] []) rfl ?_
    refine g_iinc X489 hx (hb hby d5_96) (pc' := 99) rfl rfl (z := (1 : Int32)) rfl (Ls' := #[.val (.ref a), .val (.int (2 : Int32)), .val (.ref uA), .val (.ref uA), .val (.ref uA), .val (.int f), .val (.int la), .val (.int mi), .val (.int (2 : Int32)), .val (.int (zV u1 u1 u1 f la mi))]) rfl ?_
    refine g_goto X489 hx (hb hby d5_99) (by decide) (pc' := 46) (by decide) ?_
    refine g_iload X489 hx (hb hby d5_46) (pc' := 48) rfl rfl ?_
    refine g_iloadN X489 hx (hb hby d5_48) (pc' := 49) rfl rfl ?_
    refine g_icmp_ge X489 hx (hb hby d5_49) (pc1 := 52) rfl (by decide) (pc2 := 102) (by decide) (fun hc49_2 => ?_) (fun hc49_2 => absurd hc49_2 (by decide))
    exact g_return X489 hx hret (hb hby d5_102) N489 hlk (fun v t => endF (by decide) (by decide) v) (by rw [e489]; exact ⟨rfl, K498, Va.eq f500 (by rw [hx0, hx1, hx2])⟩)
  · skip
    have hx0 := hw0.trans (if_pos (by decide))
    have hx1 := hw1.trans (if_pos (by decide))
    have hx2 := hw2.trans (if_pos (by decide))
    refine g_aloadN X0 hx (hb hby d5_0) (pc' := 1) rfl rfl rfl ?_
    obtain ⟨T501, X501, e501, st501⟩ := getF X0 hx hZ hown (host := "") (Or.inl (hw _ (List.mem_of_getElem? (i := 43) rfl))) (Via.of (hw _ (List.mem_of_getElem? (i := 30) rfl))) e0 F_units (g := (mkF m 1 #[.val (.ref a), .val (.int (3 : Int32)), .unset, .unset, .unset, .unset, .unset, .unset, .unset, .unset] [(.ref a)])) rfl rfl (hb hby d5_1)
    refine Go.movp st501 (mkF m 4 #[.val (.ref a), .val (.int (3 : Int32)), .unset, .unset, .unset, .unset, .unset, .unset, .unset, .unset] [(.ref uA)]) rfl ?_
    obtain ⟨T502, X502, e502, st502⟩ := castY X501 hx hZ hown (hw _ (List.mem_of_getElem? (i := 44) rfl)) e501 (Ins.self X_uA) (g := (mkF m 4 #[.val (.ref a), .val (.int (3 : Int32)), .unset, .unset, .unset, .unset, .unset, .unset, .unset, .unset] [(.ref uA)])) rfl rfl (hb hby d5_4)
    refine Go.movp st502 (mkF m 7 #[.val (.ref a), .val (.int (3 : Int32)), .unset, .unset, .unset, .unset, .unset, .unset, .unset, .unset] [(.ref uA)]) rfl ?_
    refine g_astoreN X502 hx (hb hby d5_7) (pc' := 8) rfl rfl (Ls' := #[.val (.ref a), .val (.int (3 : Int32)), .val (.ref uA), .unset, .unset, .unset, .unset, .unset, .unset, .unset]) rfl ?_
    refine g_aloadN X502 hx (hb hby d5_8) (pc' := 9) rfl rfl rfl ?_
    obtain ⟨T503, X503, e503, st503⟩ := getF X502 hx hZ hown (host := "") (Or.inl (hw _ (List.mem_of_getElem? (i := 46) rfl))) (Via.of (hw _ (List.mem_of_getElem? (i := 33) rfl))) e502 F_lasts (g := (mkF m 9 #[.val (.ref a), .val (.int (3 : Int32)), .val (.ref uA), .unset, .unset, .unset, .unset, .unset, .unset, .unset] [(.ref a)])) rfl rfl (hb hby d5_9)
    refine Go.movp st503 (mkF m 12 #[.val (.ref a), .val (.int (3 : Int32)), .val (.ref uA), .unset, .unset, .unset, .unset, .unset, .unset, .unset] [(.ref uA)]) rfl ?_
    obtain ⟨T504, X504, e504, st504⟩ := castY X503 hx hZ hown (hw _ (List.mem_of_getElem? (i := 44) rfl)) e503 (Ins.self X_uA) (g := (mkF m 12 #[.val (.ref a), .val (.int (3 : Int32)), .val (.ref uA), .unset, .unset, .unset, .unset, .unset, .unset, .unset] [(.ref uA)])) rfl rfl (hb hby d5_12)
    refine Go.movp st504 (mkF m 15 #[.val (.ref a), .val (.int (3 : Int32)), .val (.ref uA), .unset, .unset, .unset, .unset, .unset, .unset, .unset] [(.ref uA)]) rfl ?_
    refine g_astoreN X504 hx (hb hby d5_15) (pc' := 16) rfl rfl (Ls' := #[.val (.ref a), .val (.int (3 : Int32)), .val (.ref uA), .val (.ref uA), .unset, .unset, .unset, .unset, .unset, .unset]) rfl ?_
    refine g_aloadN X504 hx (hb hby d5_16) (pc' := 17) rfl rfl rfl ?_
    obtain ⟨T505, X505, e505, st505⟩ := getF X504 hx hZ hown (host := "") (Or.inl (hw _ (List.mem_of_getElem? (i := 47) rfl))) (Via.of (hw _ (List.mem_of_getElem? (i := 36) rfl))) e504 F_middles (g := (mkF m 17 #[.val (.ref a), .val (.int (3 : Int32)), .val (.ref uA), .val (.ref uA), .unset, .unset, .unset, .unset, .unset, .unset] [(.ref a)])) rfl rfl (hb hby d5_17)
    refine Go.movp st505 (mkF m 20 #[.val (.ref a), .val (.int (3 : Int32)), .val (.ref uA), .val (.ref uA), .unset, .unset, .unset, .unset, .unset, .unset] [(.ref uA)]) rfl ?_
    obtain ⟨T506, X506, e506, st506⟩ := castY X505 hx hZ hown (hw _ (List.mem_of_getElem? (i := 44) rfl)) e505 (Ins.self X_uA) (g := (mkF m 20 #[.val (.ref a), .val (.int (3 : Int32)), .val (.ref uA), .val (.ref uA), .unset, .unset, .unset, .unset, .unset, .unset] [(.ref uA)])) rfl rfl (hb hby d5_20)
    refine Go.movp st506 (mkF m 23 #[.val (.ref a), .val (.int (3 : Int32)), .val (.ref uA), .val (.ref uA), .unset, .unset, .unset, .unset, .unset, .unset] [(.ref uA)]) rfl ?_
    refine g_astore X506 hx (hb hby d5_23) (pc' := 25) rfl rfl (Ls' := #[.val (.ref a), .val (.int (3 : Int32)), .val (.ref uA), .val (.ref uA), .val (.ref uA), .unset, .unset, .unset, .unset, .unset]) rfl ?_
    refine g_aloadN X506 hx (hb hby d5_25) (pc' := 26) rfl rfl rfl ?_
    obtain ⟨T507, X507, e507, st507⟩ := getF X506 hx hZ hown (host := "") (Or.inl (hw _ (List.mem_of_getElem? (i := 48) rfl))) (Via.of (hw _ (List.mem_of_getElem? (i := 49) rfl))) e506 F_first (g := (mkF m 26 #[.val (.ref a), .val (.int (3 : Int32)), .val (.ref uA), .val (.ref uA), .val (.ref uA), .unset, .unset, .unset, .unset, .unset] [(.ref a)])) rfl rfl (hb hby d5_26)
    refine Go.movp st507 (mkF m 29 #[.val (.ref a), .val (.int (3 : Int32)), .val (.ref uA), .val (.ref uA), .val (.ref uA), .unset, .unset, .unset, .unset, .unset] [(.int f)]) rfl ?_
    refine g_istore X507 hx (hb hby d5_29) (pc' := 31) rfl (Ls' := #[.val (.ref a), .val (.int (3 : Int32)), .val (.ref uA), .val (.ref uA), .val (.ref uA), .val (.int f), .unset, .unset, .unset, .unset]) rfl ?_
    refine g_aloadN X507 hx (hb hby d5_31) (pc' := 32) rfl rfl rfl ?_
    obtain ⟨T508, X508, e508, st508⟩ := getF X507 hx hZ hown (host := "") (Or.inl (hw _ (List.mem_of_getElem? (i := 50) rfl))) (Via.of (hw _ (List.mem_of_getElem? (i := 51) rfl))) e507 F_last (g := (mkF m 32 #[.val (.ref a), .val (.int (3 : Int32)), .val (.ref uA), .val (.ref uA), .val (.ref uA), .val (.int f), .unset, .unset, .unset, .unset] [(.ref a)])) rfl rfl (hb hby d5_32)
    refine Go.movp st508 (mkF m 35 #[.val (.ref a), .val (.int (3 : Int32)), .val (.ref uA), .val (.ref uA), .val (.ref uA), .val (.int f), .unset, .unset, .unset, .unset] [(.int la)]) rfl ?_
    refine g_istore X508 hx (hb hby d5_35) (pc' := 37) rfl (Ls' := #[.val (.ref a), .val (.int (3 : Int32)), .val (.ref uA), .val (.ref uA), .val (.ref uA), .val (.int f), .val (.int la), .unset, .unset, .unset]) rfl ?_
    refine g_aloadN X508 hx (hb hby d5_37) (pc' := 38) rfl rfl rfl ?_
    obtain ⟨T509, X509, e509, st509⟩ := getF X508 hx hZ hown (host := "") (Or.inl (hw _ (List.mem_of_getElem? (i := 52) rfl))) (Via.of (hw _ (List.mem_of_getElem? (i := 53) rfl))) e508 F_middle (g := (mkF m 38 #[.val (.ref a), .val (.int (3 : Int32)), .val (.ref uA), .val (.ref uA), .val (.ref uA), .val (.int f), .val (.int la), .unset, .unset, .unset] [(.ref a)])) rfl rfl (hb hby d5_38)
    refine Go.movp st509 (mkF m 41 #[.val (.ref a), .val (.int (3 : Int32)), .val (.ref uA), .val (.ref uA), .val (.ref uA), .val (.int f), .val (.int la), .unset, .unset, .unset] [(.int mi)]) rfl ?_
    refine g_istore X509 hx (hb hby d5_41) (pc' := 43) rfl (Ls' := #[.val (.ref a), .val (.int (3 : Int32)), .val (.ref uA), .val (.ref uA), .val (.ref uA), .val (.int f), .val (.int la), .val (.int mi), .unset, .unset]) rfl ?_
    refine g_iconst X509 hx (hb hby d5_43) (pc' := 44) rfl (z := (0 : Int32)) rfl ?_
    refine g_istore X509 hx (hb hby d5_44) (pc' := 46) rfl (Ls' := #[.val (.ref a), .val (.int (3 : Int32)), .val (.ref uA), .val (.ref uA), .val (.ref uA), .val (.int f), .val (.int la), .val (.int mi), .val (.int (0 : Int32)), .unset]) rfl ?_
    refine g_iload X509 hx (hb hby d5_46) (pc' := 48) rfl rfl ?_
    refine g_iloadN X509 hx (hb hby d5_48) (pc' := 49) rfl rfl ?_
    refine g_icmp_ge X509 hx (hb hby d5_49) (pc1 := 52) rfl (by decide) (pc2 := 102) (by decide) (fun hc49 => absurd (by decide) hc49) (fun hc49 => ?_)
    refine g_aloadN X509 hx (hb hby d5_52) (pc' := 53) rfl rfl rfl ?_
    refine g_iload X509 hx (hb hby d5_53) (pc' := 55) rfl rfl ?_
    refine g_baload X509 hx hZ e509 V_uA (i := 0) (v := (.int u0)) (hb hby d5_55) (pc' := 56) rfl (by decide) rfl rfl ?_
    refine g_iload X509 hx (hb hby d5_56) (pc' := 58) rfl rfl ?_
    refine g_ixor X509 hx (hb hby d5_58) (pc' := 59) rfl ?_
    refine g_aloadN X509 hx (hb hby d5_59) (pc' := 60) rfl rfl rfl ?_
    refine g_iload X509 hx (hb hby d5_60) (pc' := 62) rfl rfl ?_
    refine g_baload X509 hx hZ e509 V_uA (i := 0) (v := (.int u0)) (hb hby d5_62) (pc' := 63) rfl (by decide) rfl rfl ?_
    refine g_iload X509 hx (hb hby d5_63) (pc' := 65) rfl rfl ?_
    refine g_ixor X509 hx (hb hby d5_65) (pc' := 66) rfl ?_
    refine g_ior X509 hx (hb hby d5_66) (pc' := 67) rfl ?_
    refine g_aload X509 hx (hb hby d5_67) (pc' := 69) rfl rfl rfl ?_
    refine g_iload X509 hx (hb hby d5_69) (pc' := 71) rfl rfl ?_
    refine g_baload X509 hx hZ e509 V_uA (i := 0) (v := (.int u0)) (hb hby d5_71) (pc' := 72) rfl (by decide) rfl rfl ?_
    refine g_iload X509 hx (hb hby d5_72) (pc' := 74) rfl rfl ?_
    refine g_ixor X509 hx (hb hby d5_74) (pc' := 75) rfl ?_
    refine g_ior X509 hx (hb hby d5_75) (pc' := 76) rfl ?_
    refine Go.cast (show (mkF m 76 #[.val (.ref a), .val (.int (3 : Int32)), .val (.ref uA), .val (.ref uA), .val (.ref uA), .val (.int f), .val (.int la), .val (.int mi), .val (.int (0 : Int32)), .unset] [(.int (((u0 ^^^ f) ||| (u0 ^^^ la)) ||| (u0 ^^^ mi)))]) = (mkF m 76 #[.val (.ref a), .val (.int (3 : Int32)), .val (.ref uA), .val (.ref uA), .val (.ref uA), .val (.int f), .val (.int la), .val (.int mi), .val (.int (0 : Int32)), .unset] [(.int (zV u0 u0 u0 f la mi))]) from by rw [show (((u0 ^^^ f) ||| (u0 ^^^ la)) ||| (u0 ^^^ mi)) = (zV u0 u0 u0 f la mi) from rfl]) ?_
    refine g_istore X509 hx (hb hby d5_76) (pc' := 78) rfl (Ls' := #[.val (.ref a), .val (.int (3 : Int32)), .val (.ref uA), .val (.ref uA), .val (.ref uA), .val (.int f), .val (.int la), .val (.int mi), .val (.int (0 : Int32)), .val (.int (zV u0 u0 u0 f la mi))]) rfl ?_
    refine g_aloadN X509 hx (hb hby d5_78) (pc' := 79) rfl rfl rfl ?_
    refine g_iload X509 hx (hb hby d5_79) (pc' := 81) rfl rfl ?_
    refine g_iload X509 hx (hb hby d5_81) (pc' := 83) rfl rfl ?_
    refine g_iconst X509 hx (hb hby d5_83) (pc' := 84) rfl (z := (1 : Int32)) rfl ?_
    refine g_isub X509 hx (hb hby d5_84) (pc' := 85) rfl ?_
    refine g_iload X509 hx (hb hby d5_85) (pc' := 87) rfl rfl ?_
    refine g_iconst X509 hx (hb hby d5_87) (pc' := 88) rfl (z := (-1 : Int32)) rfl ?_
    refine g_ixor X509 hx (hb hby d5_88) (pc' := 89) rfl ?_
    refine g_iand X509 hx (hb hby d5_89) (pc' := 90) rfl ?_
    refine g_sipush X509 hx (hb hby d5_90) (pc' := 93) rfl (z := (128 : Int32)) rfl ?_
    refine g_iand X509 hx (hb hby d5_93) (pc' := 94) rfl ?_
    refine g_i2b X509 hx (hb hby d5_94) (pc' := 95) rfl ?_
    refine Go.cast (show (mkF m 95 #[.val (.ref a), .val (.int (3 : Int32)), .val (.ref uA), .val (.ref uA), .val (.ref uA), .val (.int f), .val (.int la), .val (.int mi), .val (.int (0 : Int32)), .val (.int (zV u0 u0 u0 f la mi))] [(.int (byt ((((zV u0 u0 u0 f la mi) - (1 : Int32)) &&& ((zV u0 u0 u0 f la mi) ^^^ (-1 : Int32))) &&& (128 : Int32)))), (.int (0 : Int32)), (.ref uA)]) = (mkF m 95 #[.val (.ref a), .val (.int (3 : Int32)), .val (.ref uA), .val (.ref uA), .val (.ref uA), .val (.int f), .val (.int la), .val (.int mi), .val (.int (0 : Int32)), .val (.int (zV u0 u0 u0 f la mi))] [(.int (mkV u0 u0 u0 f la mi)), (.int (0 : Int32)), (.ref uA)]) from by rw [show (byt ((((zV u0 u0 u0 f la mi) - (1 : Int32)) &&& ((zV u0 u0 u0 f la mi) ^^^ (-1 : Int32))) &&& (128 : Int32))) = (mkV u0 u0 u0 f la mi) from rfl]) ?_
    obtain ⟨T510, h510, L510, X510, e510, N510, W510, V510, st510⟩ := h_bastore X509 hx hZ e509 N0 V_uA G1 (j := (0 : Int32)) (i := 0) (x := (mkV u0 u0 u0 f la mi)) (hb hby d5_95) (by decide) rfl rfl #[.val (.ref a), .val (.int (3 : Int32)), .val (.ref uA), .val (.ref uA), .val (.ref uA), .val (.int f), .val (.int la), .val (.int mi), .val (.int (0 : Int32)), .val (.int (zV u0 u0 u0 f la mi))] []
    have f511 := Fld.other W510 F_units (Or.inl ne_a)
    have f512 := Fld.other W510 F_lasts (Or.inl ne_a)
    have f513 := Fld.other W510 F_middles (Or.inl ne_a)
    have f514 := Fld.other W510 F_first (Or.inl ne_a)
    have f515 := Fld.other W510 F_last (Or.inl ne_a)
    have f516 := Fld.other W510 F_middle (Or.inl ne_a)
    have f517 := Exa.wr W510 X_uA
    have Z518 : n0 ≤ h510.size := Nat.le_trans Z0 (Keep.of_wr W510).1
    have K519 := (Keep.refl h0 [uA]).wr W510 (Or.inl (List.mem_of_getElem? (i := 0) rfl))
    have f520 : Va Z h510 uA .byte [(.int (byt (mkV u0 u0 u0 f la mi))), (.int u1), (.int u2)] := V510
    have f521 : Va Z h510 uA .byte [(.int (mkV u0 u0 u0 f la mi)), (.int u1), (.int u2)] := by rw [show (byt (mkV u0 u0 u0 f la mi)) = (mkV u0 u0 u0 f la mi) from byt_byt _] at f520; exact f520
    refine Go.movp st510 (mkF m 96 #[.val (.ref a), .val (.int (3 : Int32)), .val (.ref uA), .val (.ref uA), .val (.ref uA), .val (.int f), .val (.int la), .val (.int mi), .val (.int (0 : Int32)), .val (.int (zV u0 u0 u0 f la mi))] []) rfl ?_
    refine g_iinc X510 hx (hb hby d5_96) (pc' := 99) rfl rfl (z := (1 : Int32)) rfl (Ls' := #[.val (.ref a), .val (.int (3 : Int32)), .val (.ref uA), .val (.ref uA), .val (.ref uA), .val (.int f), .val (.int la), .val (.int mi), .val (.int (1 : Int32)), .val (.int (zV u0 u0 u0 f la mi))]) rfl ?_
    refine g_goto X510 hx (hb hby d5_99) (by decide) (pc' := 46) (by decide) ?_
    refine g_iload X510 hx (hb hby d5_46) (pc' := 48) rfl rfl ?_
    refine g_iloadN X510 hx (hb hby d5_48) (pc' := 49) rfl rfl ?_
    refine g_icmp_ge X510 hx (hb hby d5_49) (pc1 := 52) rfl (by decide) (pc2 := 102) (by decide) (fun hc49_1 => absurd (by decide) hc49_1) (fun hc49_1 => ?_)
    refine g_aloadN X510 hx (hb hby d5_52) (pc' := 53) rfl rfl rfl ?_
    refine g_iload X510 hx (hb hby d5_53) (pc' := 55) rfl rfl ?_
    refine g_baload X510 hx hZ e510 f521 (i := 1) (v := (.int u1)) (hb hby d5_55) (pc' := 56) rfl (by decide) rfl rfl ?_
    refine g_iload X510 hx (hb hby d5_56) (pc' := 58) rfl rfl ?_
    refine g_ixor X510 hx (hb hby d5_58) (pc' := 59) rfl ?_
    refine g_aloadN X510 hx (hb hby d5_59) (pc' := 60) rfl rfl rfl ?_
    refine g_iload X510 hx (hb hby d5_60) (pc' := 62) rfl rfl ?_
    refine g_baload X510 hx hZ e510 f521 (i := 1) (v := (.int u1)) (hb hby d5_62) (pc' := 63) rfl (by decide) rfl rfl ?_
    refine g_iload X510 hx (hb hby d5_63) (pc' := 65) rfl rfl ?_
    refine g_ixor X510 hx (hb hby d5_65) (pc' := 66) rfl ?_
    refine g_ior X510 hx (hb hby d5_66) (pc' := 67) rfl ?_
    refine g_aload X510 hx (hb hby d5_67) (pc' := 69) rfl rfl rfl ?_
    refine g_iload X510 hx (hb hby d5_69) (pc' := 71) rfl rfl ?_
    refine g_baload X510 hx hZ e510 f521 (i := 1) (v := (.int u1)) (hb hby d5_71) (pc' := 72) rfl (by decide) rfl rfl ?_
    refine g_iload X510 hx (hb hby d5_72) (pc' := 74) rfl rfl ?_
    refine g_ixor X510 hx (hb hby d5_74) (pc' := 75) rfl ?_
    refine g_ior X510 hx (hb hby d5_75) (pc' := 76) rfl ?_
    refine Go.cast (show (mkF m 76 #[.val (.ref a), .val (.int (3 : Int32)), .val (.ref uA), .val (.ref uA), .val (.ref uA), .val (.int f), .val (.int la), .val (.int mi), .val (.int (1 : Int32)), .val (.int (zV u0 u0 u0 f la mi))] [(.int (((u1 ^^^ f) ||| (u1 ^^^ la)) ||| (u1 ^^^ mi)))]) = (mkF m 76 #[.val (.ref a), .val (.int (3 : Int32)), .val (.ref uA), .val (.ref uA), .val (.ref uA), .val (.int f), .val (.int la), .val (.int mi), .val (.int (1 : Int32)), .val (.int (zV u0 u0 u0 f la mi))] [(.int (zV u1 u1 u1 f la mi))]) from by rw [show (((u1 ^^^ f) ||| (u1 ^^^ la)) ||| (u1 ^^^ mi)) = (zV u1 u1 u1 f la mi) from rfl]) ?_
    refine g_istore X510 hx (hb hby d5_76) (pc' := 78) rfl (Ls' := #[.val (.ref a), .val (.int (3 : Int32)), .val (.ref uA), .val (.ref uA), .val (.ref uA), .val (.int f), .val (.int la), .val (.int mi), .val (.int (1 : Int32)), .val (.int (zV u1 u1 u1 f la mi))]) rfl ?_
    refine g_aloadN X510 hx (hb hby d5_78) (pc' := 79) rfl rfl rfl ?_
    refine g_iload X510 hx (hb hby d5_79) (pc' := 81) rfl rfl ?_
    refine g_iload X510 hx (hb hby d5_81) (pc' := 83) rfl rfl ?_
    refine g_iconst X510 hx (hb hby d5_83) (pc' := 84) rfl (z := (1 : Int32)) rfl ?_
    refine g_isub X510 hx (hb hby d5_84) (pc' := 85) rfl ?_
    refine g_iload X510 hx (hb hby d5_85) (pc' := 87) rfl rfl ?_
    refine g_iconst X510 hx (hb hby d5_87) (pc' := 88) rfl (z := (-1 : Int32)) rfl ?_
    refine g_ixor X510 hx (hb hby d5_88) (pc' := 89) rfl ?_
    refine g_iand X510 hx (hb hby d5_89) (pc' := 90) rfl ?_
    refine g_sipush X510 hx (hb hby d5_90) (pc' := 93) rfl (z := (128 : Int32)) rfl ?_
    refine g_iand X510 hx (hb hby d5_93) (pc' := 94) rfl ?_
    refine g_i2b X510 hx (hb hby d5_94) (pc' := 95) rfl ?_
    refine Go.cast (show (mkF m 95 #[.val (.ref a), .val (.int (3 : Int32)), .val (.ref uA), .val (.ref uA), .val (.ref uA), .val (.int f), .val (.int la), .val (.int mi), .val (.int (1 : Int32)), .val (.int (zV u1 u1 u1 f la mi))] [(.int (byt ((((zV u1 u1 u1 f la mi) - (1 : Int32)) &&& ((zV u1 u1 u1 f la mi) ^^^ (-1 : Int32))) &&& (128 : Int32)))), (.int (1 : Int32)), (.ref uA)]) = (mkF m 95 #[.val (.ref a), .val (.int (3 : Int32)), .val (.ref uA), .val (.ref uA), .val (.ref uA), .val (.int f), .val (.int la), .val (.int mi), .val (.int (1 : Int32)), .val (.int (zV u1 u1 u1 f la mi))] [(.int (mkV u1 u1 u1 f la mi)), (.int (1 : Int32)), (.ref uA)]) from by rw [show (byt ((((zV u1 u1 u1 f la mi) - (1 : Int32)) &&& ((zV u1 u1 u1 f la mi) ^^^ (-1 : Int32))) &&& (128 : Int32))) = (mkV u1 u1 u1 f la mi) from rfl]) ?_
    obtain ⟨T522, h522, L522, X522, e522, N522, W522, V522, st522⟩ := h_bastore X510 hx hZ e510 N510 f521 G1 (j := (1 : Int32)) (i := 1) (x := (mkV u1 u1 u1 f la mi)) (hb hby d5_95) (by decide) rfl rfl #[.val (.ref a), .val (.int (3 : Int32)), .val (.ref uA), .val (.ref uA), .val (.ref uA), .val (.int f), .val (.int la), .val (.int mi), .val (.int (1 : Int32)), .val (.int (zV u1 u1 u1 f la mi))] []
    have f523 := Fld.other W522 f511 (Or.inl ne_a)
    have f524 := Fld.other W522 f512 (Or.inl ne_a)
    have f525 := Fld.other W522 f513 (Or.inl ne_a)
    have f526 := Fld.other W522 f514 (Or.inl ne_a)
    have f527 := Fld.other W522 f515 (Or.inl ne_a)
    have f528 := Fld.other W522 f516 (Or.inl ne_a)
    have f529 := Exa.wr W522 f517
    have Z530 : n0 ≤ h522.size := Nat.le_trans Z518 (Keep.of_wr W522).1
    have K531 := K519.wr W522 (Or.inl (List.mem_of_getElem? (i := 0) rfl))
    have f532 : Va Z h522 uA .byte [(.int (mkV u0 u0 u0 f la mi)), (.int (byt (mkV u1 u1 u1 f la mi))), (.int u2)] := V522
    have f533 : Va Z h522 uA .byte [(.int (mkV u0 u0 u0 f la mi)), (.int (mkV u1 u1 u1 f la mi)), (.int u2)] := by rw [show (byt (mkV u1 u1 u1 f la mi)) = (mkV u1 u1 u1 f la mi) from byt_byt _] at f532; exact f532
    refine Go.movp st522 (mkF m 96 #[.val (.ref a), .val (.int (3 : Int32)), .val (.ref uA), .val (.ref uA), .val (.ref uA), .val (.int f), .val (.int la), .val (.int mi), .val (.int (1 : Int32)), .val (.int (zV u1 u1 u1 f la mi))] []) rfl ?_
    refine g_iinc X522 hx (hb hby d5_96) (pc' := 99) rfl rfl (z := (1 : Int32)) rfl (Ls' := #[.val (.ref a), .val (.int (3 : Int32)), .val (.ref uA), .val (.ref uA), .val (.ref uA), .val (.int f), .val (.int la), .val (.int mi), .val (.int (2 : Int32)), .val (.int (zV u1 u1 u1 f la mi))]) rfl ?_
    refine g_goto X522 hx (hb hby d5_99) (by decide) (pc' := 46) (by decide) ?_
    refine g_iload X522 hx (hb hby d5_46) (pc' := 48) rfl rfl ?_
    refine g_iloadN X522 hx (hb hby d5_48) (pc' := 49) rfl rfl ?_
    refine g_icmp_ge X522 hx (hb hby d5_49) (pc1 := 52) rfl (by decide) (pc2 := 102) (by decide) (fun hc49_2 => absurd (by decide) hc49_2) (fun hc49_2 => ?_)
    refine g_aloadN X522 hx (hb hby d5_52) (pc' := 53) rfl rfl rfl ?_
    refine g_iload X522 hx (hb hby d5_53) (pc' := 55) rfl rfl ?_
    refine g_baload X522 hx hZ e522 f533 (i := 2) (v := (.int u2)) (hb hby d5_55) (pc' := 56) rfl (by decide) rfl rfl ?_
    refine g_iload X522 hx (hb hby d5_56) (pc' := 58) rfl rfl ?_
    refine g_ixor X522 hx (hb hby d5_58) (pc' := 59) rfl ?_
    refine g_aloadN X522 hx (hb hby d5_59) (pc' := 60) rfl rfl rfl ?_
    refine g_iload X522 hx (hb hby d5_60) (pc' := 62) rfl rfl ?_
    refine g_baload X522 hx hZ e522 f533 (i := 2) (v := (.int u2)) (hb hby d5_62) (pc' := 63) rfl (by decide) rfl rfl ?_
    refine g_iload X522 hx (hb hby d5_63) (pc' := 65) rfl rfl ?_
    refine g_ixor X522 hx (hb hby d5_65) (pc' := 66) rfl ?_
    refine g_ior X522 hx (hb hby d5_66) (pc' := 67) rfl ?_
    refine g_aload X522 hx (hb hby d5_67) (pc' := 69) rfl rfl rfl ?_
    refine g_iload X522 hx (hb hby d5_69) (pc' := 71) rfl rfl ?_
    refine g_baload X522 hx hZ e522 f533 (i := 2) (v := (.int u2)) (hb hby d5_71) (pc' := 72) rfl (by decide) rfl rfl ?_
    refine g_iload X522 hx (hb hby d5_72) (pc' := 74) rfl rfl ?_
    refine g_ixor X522 hx (hb hby d5_74) (pc' := 75) rfl ?_
    refine g_ior X522 hx (hb hby d5_75) (pc' := 76) rfl ?_
    refine Go.cast (show (mkF m 76 #[.val (.ref a), .val (.int (3 : Int32)), .val (.ref uA), .val (.ref uA), .val (.ref uA), .val (.int f), .val (.int la), .val (.int mi), .val (.int (2 : Int32)), .val (.int (zV u1 u1 u1 f la mi))] [(.int (((u2 ^^^ f) ||| (u2 ^^^ la)) ||| (u2 ^^^ mi)))]) = (mkF m 76 #[.val (.ref a), .val (.int (3 : Int32)), .val (.ref uA), .val (.ref uA), .val (.ref uA), .val (.int f), .val (.int la), .val (.int mi), .val (.int (2 : Int32)), .val (.int (zV u1 u1 u1 f la mi))] [(.int (zV u2 u2 u2 f la mi))]) from by rw [show (((u2 ^^^ f) ||| (u2 ^^^ la)) ||| (u2 ^^^ mi)) = (zV u2 u2 u2 f la mi) from rfl]) ?_
    refine g_istore X522 hx (hb hby d5_76) (pc' := 78) rfl (Ls' := #[.val (.ref a), .val (.int (3 : Int32)), .val (.ref uA), .val (.ref uA), .val (.ref uA), .val (.int f), .val (.int la), .val (.int mi), .val (.int (2 : Int32)), .val (.int (zV u2 u2 u2 f la mi))]) rfl ?_
    refine g_aloadN X522 hx (hb hby d5_78) (pc' := 79) rfl rfl rfl ?_
    refine g_iload X522 hx (hb hby d5_79) (pc' := 81) rfl rfl ?_
    refine g_iload X522 hx (hb hby d5_81) (pc' := 83) rfl rfl ?_
    refine g_iconst X522 hx (hb hby d5_83) (pc' := 84) rfl (z := (1 : Int32)) rfl ?_
    refine g_isub X522 hx (hb hby d5_84) (pc' := 85) rfl ?_
    refine g_iload X522 hx (hb hby d5_85) (pc' := 87) rfl rfl ?_
    refine g_iconst X522 hx (hb hby d5_87) (pc' := 88) rfl (z := (-1 : Int32)) rfl ?_
    refine g_ixor X522 hx (hb hby d5_88) (pc' := 89) rfl ?_
    refine g_iand X522 hx (hb hby d5_89) (pc' := 90) rfl ?_
    refine g_sipush X522 hx (hb hby d5_90) (pc' := 93) rfl (z := (128 : Int32)) rfl ?_
    refine g_iand X522 hx (hb hby d5_93) (pc' := 94) rfl ?_
    refine g_i2b X522 hx (hb hby d5_94) (pc' := 95) rfl ?_
    refine Go.cast (show (mkF m 95 #[.val (.ref a), .val (.int (3 : Int32)), .val (.ref uA), .val (.ref uA), .val (.ref uA), .val (.int f), .val (.int la), .val (.int mi), .val (.int (2 : Int32)), .val (.int (zV u2 u2 u2 f la mi))] [(.int (byt ((((zV u2 u2 u2 f la mi) - (1 : Int32)) &&& ((zV u2 u2 u2 f la mi) ^^^ (-1 : Int32))) &&& (128 : Int32)))), (.int (2 : Int32)), (.ref uA)]) = (mkF m 95 #[.val (.ref a), .val (.int (3 : Int32)), .val (.ref uA), .val (.ref uA), .val (.ref uA), .val (.int f), .val (.int la), .val (.int mi), .val (.int (2 : Int32)), .val (.int (zV u2 u2 u2 f la mi))] [(.int (mkV u2 u2 u2 f la mi)), (.int (2 : Int32)), (.ref uA)]) from by rw [show (byt ((((zV u2 u2 u2 f la mi) - (1 : Int32)) &&& ((zV u2 u2 u2 f la mi) ^^^ (-1 : Int32))) &&& (128 : Int32))) = (mkV u2 u2 u2 f la mi) from rfl]) ?_
    obtain ⟨T534, h534, L534, X534, e534, N534, W534, V534, st534⟩ := h_bastore X522 hx hZ e522 N522 f533 G1 (j := (2 : Int32)) (i := 2) (x := (mkV u2 u2 u2 f la mi)) (hb hby d5_95) (by decide) rfl rfl #[.val (.ref a), .val (.int (3 : Int32)), .val (.ref uA), .val (.ref uA), .val (.ref uA), .val (.int f), .val (.int la), .val (.int mi), .val (.int (2 : Int32)), .val (.int (zV u2 u2 u2 f la mi))] []
    have f535 := Fld.other W534 f523 (Or.inl ne_a)
    have f536 := Fld.other W534 f524 (Or.inl ne_a)
    have f537 := Fld.other W534 f525 (Or.inl ne_a)
    have f538 := Fld.other W534 f526 (Or.inl ne_a)
    have f539 := Fld.other W534 f527 (Or.inl ne_a)
    have f540 := Fld.other W534 f528 (Or.inl ne_a)
    have f541 := Exa.wr W534 f529
    have Z542 : n0 ≤ h534.size := Nat.le_trans Z530 (Keep.of_wr W534).1
    have K543 := K531.wr W534 (Or.inl (List.mem_of_getElem? (i := 0) rfl))
    have f544 : Va Z h534 uA .byte [(.int (mkV u0 u0 u0 f la mi)), (.int (mkV u1 u1 u1 f la mi)), (.int (byt (mkV u2 u2 u2 f la mi)))] := V534
    have f545 : Va Z h534 uA .byte [(.int (mkV u0 u0 u0 f la mi)), (.int (mkV u1 u1 u1 f la mi)), (.int (mkV u2 u2 u2 f la mi))] := by rw [show (byt (mkV u2 u2 u2 f la mi)) = (mkV u2 u2 u2 f la mi) from byt_byt _] at f544; exact f544
    refine Go.movp st534 (mkF m 96 #[.val (.ref a), .val (.int (3 : Int32)), .val (.ref uA), .val (.ref uA), .val (.ref uA), .val (.int f), .val (.int la), .val (.int mi), .val (.int (2 : Int32)), .val (.int (zV u2 u2 u2 f la mi))] []) rfl ?_
    refine g_iinc X534 hx (hb hby d5_96) (pc' := 99) rfl rfl (z := (1 : Int32)) rfl (Ls' := #[.val (.ref a), .val (.int (3 : Int32)), .val (.ref uA), .val (.ref uA), .val (.ref uA), .val (.int f), .val (.int la), .val (.int mi), .val (.int (3 : Int32)), .val (.int (zV u2 u2 u2 f la mi))]) rfl ?_
    refine g_goto X534 hx (hb hby d5_99) (by decide) (pc' := 46) (by decide) ?_
    refine g_iload X534 hx (hb hby d5_46) (pc' := 48) rfl rfl ?_
    refine g_iloadN X534 hx (hb hby d5_48) (pc' := 49) rfl rfl ?_
    refine g_icmp_ge X534 hx (hb hby d5_49) (pc1 := 52) rfl (by decide) (pc2 := 102) (by decide) (fun hc49_3 => ?_) (fun hc49_3 => absurd hc49_3 (by decide))
    exact g_return X534 hx hret (hb hby d5_102) N534 hlk (fun v t => endF (by decide) (by decide) v) (by rw [e534]; exact ⟨rfl, K543, Va.eq f545 (by rw [hx0, hx1, hx2])⟩)
theorem d6_0 : decode method_3_code 0 = .ok (.iload_n 0, 1) := by decide +kernel
theorem d6_1 : decode method_3_code 1 = .ok (.iload_n 1, 1) := by decide +kernel
theorem d6_2 : decode method_3_code 2 = .ok (.if_icmp .lt 17, 3) := by decide +kernel
theorem d6_5 : decode method_3_code 5 = .ok (.iload 8, 2) := by decide +kernel
theorem d6_7 : decode method_3_code 7 = .ok (.aload_n 2, 1) := by decide +kernel
theorem d6_8 : decode method_3_code 8 = .ok (.iload_n 0, 1) := by decide +kernel
theorem d6_9 : decode method_3_code 9 = .ok (.baload, 1) := by decide +kernel
theorem d6_10 : decode method_3_code 10 = .ok (.if_icmp .ne 7, 3) := by decide +kernel
theorem d6_13 : decode method_3_code 13 = .ok (.iconst 1, 1) := by decide +kernel
theorem d6_14 : decode method_3_code 14 = .ok (.goto 4, 3) := by decide +kernel
theorem d6_18 : decode method_3_code 18 = .ok (.ireturn, 1) := by decide +kernel
theorem d6_19 : decode method_3_code 19 = .ok (.aload_n 2, 1) := by decide +kernel
theorem d6_20 : decode method_3_code 20 = .ok (.iload_n 0, 1) := by decide +kernel
theorem d6_21 : decode method_3_code 21 = .ok (.baload, 1) := by decide +kernel
theorem d6_22 : decode method_3_code 22 = .ok (.iload 5, 2) := by decide +kernel
theorem d6_24 : decode method_3_code 24 = .ok (.if_icmp .ne 24, 3) := by decide +kernel
theorem d6_27 : decode method_3_code 27 = .ok (.aload_n 3, 1) := by decide +kernel
theorem d6_28 : decode method_3_code 28 = .ok (.iload_n 0, 1) := by decide +kernel
theorem d6_29 : decode method_3_code 29 = .ok (.baload, 1) := by decide +kernel
theorem d6_30 : decode method_3_code 30 = .ok (.iload 6, 2) := by decide +kernel
theorem d6_32 : decode method_3_code 32 = .ok (.if_icmp .ne 16, 3) := by decide +kernel
theorem d6_35 : decode method_3_code 35 = .ok (.aload 4, 2) := by decide +kernel
theorem d6_37 : decode method_3_code 37 = .ok (.iload_n 0, 1) := by decide +kernel
theorem d6_38 : decode method_3_code 38 = .ok (.baload, 1) := by decide +kernel
theorem d6_39 : decode method_3_code 39 = .ok (.iload 7, 2) := by decide +kernel
theorem d6_41 : decode method_3_code 41 = .ok (.if_icmp .ne 7, 3) := by decide +kernel
theorem d6_44 : decode method_3_code 44 = .ok (.iconst 1, 1) := by decide +kernel
theorem d6_45 : decode method_3_code 45 = .ok (.goto 4, 3) := by decide +kernel
theorem d6_48 : decode method_3_code 48 = .ok (.iconst 0, 1) := by decide +kernel
theorem d6_49 : decode method_3_code 49 = .ok (.istore 9, 2) := by decide +kernel
theorem d6_51 : decode method_3_code 51 = .ok (.iload 9, 2) := by decide +kernel
theorem d6_53 : decode method_3_code 53 = .ok (.ifCond .eq 8, 3) := by decide +kernel
theorem d6_56 : decode method_3_code 56 = .ok (.bipush (-128), 2) := by decide +kernel
theorem d6_58 : decode method_3_code 58 = .ok (.goto 4, 3) := by decide +kernel
theorem d6_61 : decode method_3_code 61 = .ok (.iconst 0, 1) := by decide +kernel
theorem d6_62 : decode method_3_code 62 = .ok (.istore 10, 2) := by decide +kernel
theorem d6_64 : decode method_3_code 64 = .ok (.iload 8, 2) := by decide +kernel
theorem d6_66 : decode method_3_code 66 = .ok (.iload 10, 2) := by decide +kernel
theorem d6_68 : decode method_3_code 68 = .ok (.if_icmp .ne 7, 3) := by decide +kernel
theorem d6_71 : decode method_3_code 71 = .ok (.iconst 1, 1) := by decide +kernel
theorem d6_72 : decode method_3_code 72 = .ok (.goto 4, 3) := by decide +kernel
theorem d6_76 : decode method_3_code 76 = .ok (.ireturn, 1) := by decide +kernel
theorem ef_6_0 (x0 : Int32) (x1 : Int32) (x2 : Addr) (x3 : Addr) (x4 : Addr) (x5 : Int32) (x6 : Int32) (x7 : Int32) (x8 : Int32) (m : MethodId) : entryFrame m #[(.int x0), (.int x1), (.ref x2), (.ref x3), (.ref x4), (.int x5), (.int x6), (.int x7), (.int x8)] 11 = mkF m 0 #[.val (.int x0), .val (.int x1), .val (.ref x2), .val (.ref x3), .val (.ref x4), .val (.int x5), .val (.int x6), .val (.int x7), .val (.int x8), .unset, .unset] [] := by first | (simp [entryFrame, mkF, argsToLocals, Value.category]; done) | rfl
def Q6_0 (Z : State) (ua : Addr) (lb : Addr) (mb : Addr) (u0 : Int32) (u1 : Int32) (u2 : Int32) (l0 : Int32) (l1 : Int32) (l2 : Int32) (m0 : Int32) (m1 : Int32) (m2 : Int32) (f : Int32) (la : Int32) (mi : Int32) (g : Int32) (n : Int32) (h0 : Heap) (n0 : Nat) : Option Value → Heap → Prop := fun v h => v = some (.int 1) ∧ h0 = h
set_option maxRecDepth 65536 in
set_option maxHeartbeats 40000000 in
theorem rm6_0 (l : Launch) (Z : State) (a0 : Array Value) (hw : ∀ d ∈ tables_1, d.before a0 Z = true) (ua : Addr) (lb : Addr) (mb : Addr) (u0 : Int32) (u1 : Int32) (u2 : Int32) (l0 : Int32) (l1 : Int32) (l2 : Int32) (m0 : Int32) (m1 : Int32) (m2 : Int32) (f : Int32) (la : Int32) (mi : Int32) (g : Int32) (n : Int32) (h0 : Heap) (n0 : Nat) (Z0 : n0 ≤ h0.size) (V_ua : Va Z h0 ua .byte [(.int u0), (.int u1), (.int u2)]) (V_lb : Va Z h0 lb .byte [(.int l0), (.int l1), (.int l2)]) (V_mb : Va Z h0 mb .byte [(.int m0), (.int m1), (.int m2)]) (hg : g = (if (0 : Int32) < n then (if u0 = f ∧ l0 = la ∧ m0 = mi then (-128 : Int32) else 0) else u0)) : Ctr l Z (⟨"com/example/needlework/needlework/BytesMarkPinLaw", "at", "(II[B[B[BBBBB)Z"⟩ : MethodName) method_3_code 11 (some .boolean) ({ frames := 0, cells := 0, slots := 0, locals := 0 } : Room) #[(.int (0 : Int32)), (.int n), (.ref ua), (.ref lb), (.ref mb), (.int f), (.int la), (.int mi), (.int g)] h0 n0 (Q6_0 Z ua lb mb u0 u1 u2 l0 l1 l2 m0 m1 m2 f la mi g n h0 n0) := by
  refine Ctr.of (plainFor_of_name pn_1) (ef_6_0 (0 : Int32) n ua lb mb f la mi g) ?_
  intro p e s m below meth c T0 hx hby hml hown hnm hret hlk hZ X0 e0
  have N0 := Fr.nil n0
  refine g_iloadN X0 hx (hb hby d6_0) (pc' := 1) rfl rfl ?_
  refine g_iloadN X0 hx (hb hby d6_1) (pc' := 2) rfl rfl ?_
  refine g_icmp_lt X0 hx (hb hby d6_2) (pc1 := 5) rfl (by decide) (pc2 := 19) (by decide) (fun hc2 => ?_) (fun hc2 => ?_)
  · skip
    refine g_aloadN X0 hx (hb hby d6_19) (pc' := 20) rfl rfl rfl ?_
    refine g_iloadN X0 hx (hb hby d6_20) (pc' := 21) rfl rfl ?_
    refine g_baload X0 hx hZ e0 V_ua (i := 0) (v := (.int u0)) (hb hby d6_21) (pc' := 22) rfl (by decide) rfl rfl ?_
    refine g_iload X0 hx (hb hby d6_22) (pc' := 24) rfl rfl ?_
    refine g_icmp_ne X0 hx (hb hby d6_24) (pc1 := 27) rfl (by decide) (pc2 := 48) (by decide) (fun hc24 => ?_) (fun hc24 => ?_)
    · skip
      refine g_iconst X0 hx (hb hby d6_48) (pc' := 49) rfl (z := (0 : Int32)) rfl ?_
      refine g_istore X0 hx (hb hby d6_49) (pc' := 51) rfl (Ls' := #[.val (.int (0 : Int32)), .val (.int n), .val (.ref ua), .val (.ref lb), .val (.ref mb), .val (.int f), .val (.int la), .val (.int mi), .val (.int g), .val (.int (0 : Int32)), .unset]) rfl ?_
      refine g_iload X0 hx (hb hby d6_51) (pc' := 53) rfl rfl ?_
      refine g_if_eq X0 hx (hb hby d6_53) (pc1 := 56) rfl (by decide) (pc2 := 61) (by decide) (fun hc53 => ?_) (fun hc53 => absurd rfl hc53)
      refine g_iconst X0 hx (hb hby d6_61) (pc' := 62) rfl (z := (0 : Int32)) rfl ?_
      refine g_istore X0 hx (hb hby d6_62) (pc' := 64) rfl (Ls' := #[.val (.int (0 : Int32)), .val (.int n), .val (.ref ua), .val (.ref lb), .val (.ref mb), .val (.int f), .val (.int la), .val (.int mi), .val (.int g), .val (.int (0 : Int32)), .val (.int (0 : Int32))]) rfl ?_
      refine g_iload X0 hx (hb hby d6_64) (pc' := 66) rfl rfl ?_
      refine g_iload X0 hx (hb hby d6_66) (pc' := 68) rfl rfl ?_
      refine g_icmp_ne X0 hx (hb hby d6_68) (pc1 := 71) rfl (by decide) (pc2 := 75) (by decide) (fun hc68 => absurd (hg.trans ((if_pos hc2).trans (if_neg (fun q => hc24 q.1)))) hc68) (fun hc68 => ?_)
      refine g_iconst X0 hx (hb hby d6_71) (pc' := 72) rfl (z := (1 : Int32)) rfl ?_
      refine g_goto X0 hx (hb hby d6_72) (by decide) (pc' := 76) (by decide) ?_
      exact g_zreturn X0 hx rfl hret (hb hby d6_76) N0 hlk (fun v t => endF (by decide) (by decide) v) (by rw [e0]; exact ⟨rfl, rfl⟩)
    · skip
      refine g_aloadN X0 hx (hb hby d6_27) (pc' := 28) rfl rfl rfl ?_
      refine g_iloadN X0 hx (hb hby d6_28) (pc' := 29) rfl rfl ?_
      refine g_baload X0 hx hZ e0 V_lb (i := 0) (v := (.int l0)) (hb hby d6_29) (pc' := 30) rfl (by decide) rfl rfl ?_
      refine g_iload X0 hx (hb hby d6_30) (pc' := 32) rfl rfl ?_
      refine g_icmp_ne X0 hx (hb hby d6_32) (pc1 := 35) rfl (by decide) (pc2 := 48) (by decide) (fun hc32 => ?_) (fun hc32 => ?_)
      · skip
        refine g_iconst X0 hx (hb hby d6_48) (pc' := 49) rfl (z := (0 : Int32)) rfl ?_
        refine g_istore X0 hx (hb hby d6_49) (pc' := 51) rfl (Ls' := #[.val (.int (0 : Int32)), .val (.int n), .val (.ref ua), .val (.ref lb), .val (.ref mb), .val (.int f), .val (.int la), .val (.int mi), .val (.int g), .val (.int (0 : Int32)), .unset]) rfl ?_
        refine g_iload X0 hx (hb hby d6_51) (pc' := 53) rfl rfl ?_
        refine g_if_eq X0 hx (hb hby d6_53) (pc1 := 56) rfl (by decide) (pc2 := 61) (by decide) (fun hc53 => ?_) (fun hc53 => absurd rfl hc53)
        refine g_iconst X0 hx (hb hby d6_61) (pc' := 62) rfl (z := (0 : Int32)) rfl ?_
        refine g_istore X0 hx (hb hby d6_62) (pc' := 64) rfl (Ls' := #[.val (.int (0 : Int32)), .val (.int n), .val (.ref ua), .val (.ref lb), .val (.ref mb), .val (.int f), .val (.int la), .val (.int mi), .val (.int g), .val (.int (0 : Int32)), .val (.int (0 : Int32))]) rfl ?_
        refine g_iload X0 hx (hb hby d6_64) (pc' := 66) rfl rfl ?_
        refine g_iload X0 hx (hb hby d6_66) (pc' := 68) rfl rfl ?_
        refine g_icmp_ne X0 hx (hb hby d6_68) (pc1 := 71) rfl (by decide) (pc2 := 75) (by decide) (fun hc68 => absurd (hg.trans ((if_pos hc2).trans (if_neg (fun q => hc32 q.2.1)))) hc68) (fun hc68 => ?_)
        refine g_iconst X0 hx (hb hby d6_71) (pc' := 72) rfl (z := (1 : Int32)) rfl ?_
        refine g_goto X0 hx (hb hby d6_72) (by decide) (pc' := 76) (by decide) ?_
        exact g_zreturn X0 hx rfl hret (hb hby d6_76) N0 hlk (fun v t => endF (by decide) (by decide) v) (by rw [e0]; exact ⟨rfl, rfl⟩)
      · skip
        refine g_aload X0 hx (hb hby d6_35) (pc' := 37) rfl rfl rfl ?_
        refine g_iloadN X0 hx (hb hby d6_37) (pc' := 38) rfl rfl ?_
        refine g_baload X0 hx hZ e0 V_mb (i := 0) (v := (.int m0)) (hb hby d6_38) (pc' := 39) rfl (by decide) rfl rfl ?_
        refine g_iload X0 hx (hb hby d6_39) (pc' := 41) rfl rfl ?_
        refine g_icmp_ne X0 hx (hb hby d6_41) (pc1 := 44) rfl (by decide) (pc2 := 48) (by decide) (fun hc41 => ?_) (fun hc41 => ?_)
        · skip
          refine g_iconst X0 hx (hb hby d6_48) (pc' := 49) rfl (z := (0 : Int32)) rfl ?_
          refine g_istore X0 hx (hb hby d6_49) (pc' := 51) rfl (Ls' := #[.val (.int (0 : Int32)), .val (.int n), .val (.ref ua), .val (.ref lb), .val (.ref mb), .val (.int f), .val (.int la), .val (.int mi), .val (.int g), .val (.int (0 : Int32)), .unset]) rfl ?_
          refine g_iload X0 hx (hb hby d6_51) (pc' := 53) rfl rfl ?_
          refine g_if_eq X0 hx (hb hby d6_53) (pc1 := 56) rfl (by decide) (pc2 := 61) (by decide) (fun hc53 => ?_) (fun hc53 => absurd rfl hc53)
          refine g_iconst X0 hx (hb hby d6_61) (pc' := 62) rfl (z := (0 : Int32)) rfl ?_
          refine g_istore X0 hx (hb hby d6_62) (pc' := 64) rfl (Ls' := #[.val (.int (0 : Int32)), .val (.int n), .val (.ref ua), .val (.ref lb), .val (.ref mb), .val (.int f), .val (.int la), .val (.int mi), .val (.int g), .val (.int (0 : Int32)), .val (.int (0 : Int32))]) rfl ?_
          refine g_iload X0 hx (hb hby d6_64) (pc' := 66) rfl rfl ?_
          refine g_iload X0 hx (hb hby d6_66) (pc' := 68) rfl rfl ?_
          refine g_icmp_ne X0 hx (hb hby d6_68) (pc1 := 71) rfl (by decide) (pc2 := 75) (by decide) (fun hc68 => absurd (hg.trans ((if_pos hc2).trans (if_neg (fun q => hc41 q.2.2)))) hc68) (fun hc68 => ?_)
          refine g_iconst X0 hx (hb hby d6_71) (pc' := 72) rfl (z := (1 : Int32)) rfl ?_
          refine g_goto X0 hx (hb hby d6_72) (by decide) (pc' := 76) (by decide) ?_
          exact g_zreturn X0 hx rfl hret (hb hby d6_76) N0 hlk (fun v t => endF (by decide) (by decide) v) (by rw [e0]; exact ⟨rfl, rfl⟩)
        · skip
          refine g_iconst X0 hx (hb hby d6_44) (pc' := 45) rfl (z := (1 : Int32)) rfl ?_
          refine g_goto X0 hx (hb hby d6_45) (by decide) (pc' := 49) (by decide) ?_
          refine g_istore X0 hx (hb hby d6_49) (pc' := 51) rfl (Ls' := #[.val (.int (0 : Int32)), .val (.int n), .val (.ref ua), .val (.ref lb), .val (.ref mb), .val (.int f), .val (.int la), .val (.int mi), .val (.int g), .val (.int (1 : Int32)), .unset]) rfl ?_
          refine g_iload X0 hx (hb hby d6_51) (pc' := 53) rfl rfl ?_
          refine g_if_eq X0 hx (hb hby d6_53) (pc1 := 56) rfl (by decide) (pc2 := 61) (by decide) (fun hc53 => absurd hc53 (by decide)) (fun hc53 => ?_)
          refine g_bipush X0 hx (hb hby d6_56) (pc' := 58) rfl (z := (-128 : Int32)) rfl ?_
          refine g_goto X0 hx (hb hby d6_58) (by decide) (pc' := 62) (by decide) ?_
          refine g_istore X0 hx (hb hby d6_62) (pc' := 64) rfl (Ls' := #[.val (.int (0 : Int32)), .val (.int n), .val (.ref ua), .val (.ref lb), .val (.ref mb), .val (.int f), .val (.int la), .val (.int mi), .val (.int g), .val (.int (1 : Int32)), .val (.int (-128 : Int32))]) rfl ?_
          refine g_iload X0 hx (hb hby d6_64) (pc' := 66) rfl rfl ?_
          refine g_iload X0 hx (hb hby d6_66) (pc' := 68) rfl rfl ?_
          refine g_icmp_ne X0 hx (hb hby d6_68) (pc1 := 71) rfl (by decide) (pc2 := 75) (by decide) (fun hc68 => absurd (hg.trans ((if_pos hc2).trans (if_pos ⟨hc24, hc32, hc41⟩))) hc68) (fun hc68 => ?_)
          refine g_iconst X0 hx (hb hby d6_71) (pc' := 72) rfl (z := (1 : Int32)) rfl ?_
          refine g_goto X0 hx (hb hby d6_72) (by decide) (pc' := 76) (by decide) ?_
          exact g_zreturn X0 hx rfl hret (hb hby d6_76) N0 hlk (fun v t => endF (by decide) (by decide) v) (by rw [e0]; exact ⟨rfl, rfl⟩)
  · skip
    refine g_iload X0 hx (hb hby d6_5) (pc' := 7) rfl rfl ?_
    refine g_aloadN X0 hx (hb hby d6_7) (pc' := 8) rfl rfl rfl ?_
    refine g_iloadN X0 hx (hb hby d6_8) (pc' := 9) rfl rfl ?_
    refine g_baload X0 hx hZ e0 V_ua (i := 0) (v := (.int u0)) (hb hby d6_9) (pc' := 10) rfl (by decide) rfl rfl ?_
    refine g_icmp_ne X0 hx (hb hby d6_10) (pc1 := 13) rfl (by decide) (pc2 := 17) (by decide) (fun hc10 => absurd (hg.trans (if_neg hc2)) hc10) (fun hc10 => ?_)
    refine g_iconst X0 hx (hb hby d6_13) (pc' := 14) rfl (z := (1 : Int32)) rfl ?_
    refine g_goto X0 hx (hb hby d6_14) (by decide) (pc' := 18) (by decide) ?_
    exact g_zreturn X0 hx rfl hret (hb hby d6_18) N0 hlk (fun v t => endF (by decide) (by decide) v) (by rw [e0]; exact ⟨rfl, rfl⟩)
theorem ef_6_1 (x0 : Int32) (x1 : Int32) (x2 : Addr) (x3 : Addr) (x4 : Addr) (x5 : Int32) (x6 : Int32) (x7 : Int32) (x8 : Int32) (m : MethodId) : entryFrame m #[(.int x0), (.int x1), (.ref x2), (.ref x3), (.ref x4), (.int x5), (.int x6), (.int x7), (.int x8)] 11 = mkF m 0 #[.val (.int x0), .val (.int x1), .val (.ref x2), .val (.ref x3), .val (.ref x4), .val (.int x5), .val (.int x6), .val (.int x7), .val (.int x8), .unset, .unset] [] := by first | (simp [entryFrame, mkF, argsToLocals, Value.category]; done) | rfl
def Q6_1 (Z : State) (ua : Addr) (lb : Addr) (mb : Addr) (u0 : Int32) (u1 : Int32) (u2 : Int32) (l0 : Int32) (l1 : Int32) (l2 : Int32) (m0 : Int32) (m1 : Int32) (m2 : Int32) (f : Int32) (la : Int32) (mi : Int32) (g : Int32) (n : Int32) (h0 : Heap) (n0 : Nat) : Option Value → Heap → Prop := fun v h => v = some (.int 1) ∧ h0 = h
set_option maxRecDepth 65536 in
set_option maxHeartbeats 40000000 in
theorem rm6_1 (l : Launch) (Z : State) (a0 : Array Value) (hw : ∀ d ∈ tables_1, d.before a0 Z = true) (ua : Addr) (lb : Addr) (mb : Addr) (u0 : Int32) (u1 : Int32) (u2 : Int32) (l0 : Int32) (l1 : Int32) (l2 : Int32) (m0 : Int32) (m1 : Int32) (m2 : Int32) (f : Int32) (la : Int32) (mi : Int32) (g : Int32) (n : Int32) (h0 : Heap) (n0 : Nat) (Z0 : n0 ≤ h0.size) (V_ua : Va Z h0 ua .byte [(.int u0), (.int u1), (.int u2)]) (V_lb : Va Z h0 lb .byte [(.int l0), (.int l1), (.int l2)]) (V_mb : Va Z h0 mb .byte [(.int m0), (.int m1), (.int m2)]) (hg : g = (if (1 : Int32) < n then (if u1 = f ∧ l1 = la ∧ m1 = mi then (-128 : Int32) else 0) else u1)) : Ctr l Z (⟨"com/example/needlework/needlework/BytesMarkPinLaw", "at", "(II[B[B[BBBBB)Z"⟩ : MethodName) method_3_code 11 (some .boolean) ({ frames := 0, cells := 0, slots := 0, locals := 0 } : Room) #[(.int (1 : Int32)), (.int n), (.ref ua), (.ref lb), (.ref mb), (.int f), (.int la), (.int mi), (.int g)] h0 n0 (Q6_1 Z ua lb mb u0 u1 u2 l0 l1 l2 m0 m1 m2 f la mi g n h0 n0) := by
  refine Ctr.of (plainFor_of_name pn_1) (ef_6_1 (1 : Int32) n ua lb mb f la mi g) ?_
  intro p e s m below meth c T0 hx hby hml hown hnm hret hlk hZ X0 e0
  have N0 := Fr.nil n0
  refine g_iloadN X0 hx (hb hby d6_0) (pc' := 1) rfl rfl ?_
  refine g_iloadN X0 hx (hb hby d6_1) (pc' := 2) rfl rfl ?_
  refine g_icmp_lt X0 hx (hb hby d6_2) (pc1 := 5) rfl (by decide) (pc2 := 19) (by decide) (fun hc2 => ?_) (fun hc2 => ?_)
  · skip
    refine g_aloadN X0 hx (hb hby d6_19) (pc' := 20) rfl rfl rfl ?_
    refine g_iloadN X0 hx (hb hby d6_20) (pc' := 21) rfl rfl ?_
    refine g_baload X0 hx hZ e0 V_ua (i := 1) (v := (.int u1)) (hb hby d6_21) (pc' := 22) rfl (by decide) rfl rfl ?_
    refine g_iload X0 hx (hb hby d6_22) (pc' := 24) rfl rfl ?_
    refine g_icmp_ne X0 hx (hb hby d6_24) (pc1 := 27) rfl (by decide) (pc2 := 48) (by decide) (fun hc24 => ?_) (fun hc24 => ?_)
    · skip
      refine g_iconst X0 hx (hb hby d6_48) (pc' := 49) rfl (z := (0 : Int32)) rfl ?_
      refine g_istore X0 hx (hb hby d6_49) (pc' := 51) rfl (Ls' := #[.val (.int (1 : Int32)), .val (.int n), .val (.ref ua), .val (.ref lb), .val (.ref mb), .val (.int f), .val (.int la), .val (.int mi), .val (.int g), .val (.int (0 : Int32)), .unset]) rfl ?_
      refine g_iload X0 hx (hb hby d6_51) (pc' := 53) rfl rfl ?_
      refine g_if_eq X0 hx (hb hby d6_53) (pc1 := 56) rfl (by decide) (pc2 := 61) (by decide) (fun hc53 => ?_) (fun hc53 => absurd rfl hc53)
      refine g_iconst X0 hx (hb hby d6_61) (pc' := 62) rfl (z := (0 : Int32)) rfl ?_
      refine g_istore X0 hx (hb hby d6_62) (pc' := 64) rfl (Ls' := #[.val (.int (1 : Int32)), .val (.int n), .val (.ref ua), .val (.ref lb), .val (.ref mb), .val (.int f), .val (.int la), .val (.int mi), .val (.int g), .val (.int (0 : Int32)), .val (.int (0 : Int32))]) rfl ?_
      refine g_iload X0 hx (hb hby d6_64) (pc' := 66) rfl rfl ?_
      refine g_iload X0 hx (hb hby d6_66) (pc' := 68) rfl rfl ?_
      refine g_icmp_ne X0 hx (hb hby d6_68) (pc1 := 71) rfl (by decide) (pc2 := 75) (by decide) (fun hc68 => absurd (hg.trans ((if_pos hc2).trans (if_neg (fun q => hc24 q.1)))) hc68) (fun hc68 => ?_)
      refine g_iconst X0 hx (hb hby d6_71) (pc' := 72) rfl (z := (1 : Int32)) rfl ?_
      refine g_goto X0 hx (hb hby d6_72) (by decide) (pc' := 76) (by decide) ?_
      exact g_zreturn X0 hx rfl hret (hb hby d6_76) N0 hlk (fun v t => endF (by decide) (by decide) v) (by rw [e0]; exact ⟨rfl, rfl⟩)
    · skip
      refine g_aloadN X0 hx (hb hby d6_27) (pc' := 28) rfl rfl rfl ?_
      refine g_iloadN X0 hx (hb hby d6_28) (pc' := 29) rfl rfl ?_
      refine g_baload X0 hx hZ e0 V_lb (i := 1) (v := (.int l1)) (hb hby d6_29) (pc' := 30) rfl (by decide) rfl rfl ?_
      refine g_iload X0 hx (hb hby d6_30) (pc' := 32) rfl rfl ?_
      refine g_icmp_ne X0 hx (hb hby d6_32) (pc1 := 35) rfl (by decide) (pc2 := 48) (by decide) (fun hc32 => ?_) (fun hc32 => ?_)
      · skip
        refine g_iconst X0 hx (hb hby d6_48) (pc' := 49) rfl (z := (0 : Int32)) rfl ?_
        refine g_istore X0 hx (hb hby d6_49) (pc' := 51) rfl (Ls' := #[.val (.int (1 : Int32)), .val (.int n), .val (.ref ua), .val (.ref lb), .val (.ref mb), .val (.int f), .val (.int la), .val (.int mi), .val (.int g), .val (.int (0 : Int32)), .unset]) rfl ?_
        refine g_iload X0 hx (hb hby d6_51) (pc' := 53) rfl rfl ?_
        refine g_if_eq X0 hx (hb hby d6_53) (pc1 := 56) rfl (by decide) (pc2 := 61) (by decide) (fun hc53 => ?_) (fun hc53 => absurd rfl hc53)
        refine g_iconst X0 hx (hb hby d6_61) (pc' := 62) rfl (z := (0 : Int32)) rfl ?_
        refine g_istore X0 hx (hb hby d6_62) (pc' := 64) rfl (Ls' := #[.val (.int (1 : Int32)), .val (.int n), .val (.ref ua), .val (.ref lb), .val (.ref mb), .val (.int f), .val (.int la), .val (.int mi), .val (.int g), .val (.int (0 : Int32)), .val (.int (0 : Int32))]) rfl ?_
        refine g_iload X0 hx (hb hby d6_64) (pc' := 66) rfl rfl ?_
        refine g_iload X0 hx (hb hby d6_66) (pc' := 68) rfl rfl ?_
        refine g_icmp_ne X0 hx (hb hby d6_68) (pc1 := 71) rfl (by decide) (pc2 := 75) (by decide) (fun hc68 => absurd (hg.trans ((if_pos hc2).trans (if_neg (fun q => hc32 q.2.1)))) hc68) (fun hc68 => ?_)
        refine g_iconst X0 hx (hb hby d6_71) (pc' := 72) rfl (z := (1 : Int32)) rfl ?_
        refine g_goto X0 hx (hb hby d6_72) (by decide) (pc' := 76) (by decide) ?_
        exact g_zreturn X0 hx rfl hret (hb hby d6_76) N0 hlk (fun v t => endF (by decide) (by decide) v) (by rw [e0]; exact ⟨rfl, rfl⟩)
      · skip
        refine g_aload X0 hx (hb hby d6_35) (pc' := 37) rfl rfl rfl ?_
        refine g_iloadN X0 hx (hb hby d6_37) (pc' := 38) rfl rfl ?_
        refine g_baload X0 hx hZ e0 V_mb (i := 1) (v := (.int m1)) (hb hby d6_38) (pc' := 39) rfl (by decide) rfl rfl ?_
        refine g_iload X0 hx (hb hby d6_39) (pc' := 41) rfl rfl ?_
        refine g_icmp_ne X0 hx (hb hby d6_41) (pc1 := 44) rfl (by decide) (pc2 := 48) (by decide) (fun hc41 => ?_) (fun hc41 => ?_)
        · skip
          refine g_iconst X0 hx (hb hby d6_48) (pc' := 49) rfl (z := (0 : Int32)) rfl ?_
          refine g_istore X0 hx (hb hby d6_49) (pc' := 51) rfl (Ls' := #[.val (.int (1 : Int32)), .val (.int n), .val (.ref ua), .val (.ref lb), .val (.ref mb), .val (.int f), .val (.int la), .val (.int mi), .val (.int g), .val (.int (0 : Int32)), .unset]) rfl ?_
          refine g_iload X0 hx (hb hby d6_51) (pc' := 53) rfl rfl ?_
          refine g_if_eq X0 hx (hb hby d6_53) (pc1 := 56) rfl (by decide) (pc2 := 61) (by decide) (fun hc53 => ?_) (fun hc53 => absurd rfl hc53)
          refine g_iconst X0 hx (hb hby d6_61) (pc' := 62) rfl (z := (0 : Int32)) rfl ?_
          refine g_istore X0 hx (hb hby d6_62) (pc' := 64) rfl (Ls' := #[.val (.int (1 : Int32)), .val (.int n), .val (.ref ua), .val (.ref lb), .val (.ref mb), .val (.int f), .val (.int la), .val (.int mi), .val (.int g), .val (.int (0 : Int32)), .val (.int (0 : Int32))]) rfl ?_
          refine g_iload X0 hx (hb hby d6_64) (pc' := 66) rfl rfl ?_
          refine g_iload X0 hx (hb hby d6_66) (pc' := 68) rfl rfl ?_
          refine g_icmp_ne X0 hx (hb hby d6_68) (pc1 := 71) rfl (by decide) (pc2 := 75) (by decide) (fun hc68 => absurd (hg.trans ((if_pos hc2).trans (if_neg (fun q => hc41 q.2.2)))) hc68) (fun hc68 => ?_)
          refine g_iconst X0 hx (hb hby d6_71) (pc' := 72) rfl (z := (1 : Int32)) rfl ?_
          refine g_goto X0 hx (hb hby d6_72) (by decide) (pc' := 76) (by decide) ?_
          exact g_zreturn X0 hx rfl hret (hb hby d6_76) N0 hlk (fun v t => endF (by decide) (by decide) v) (by rw [e0]; exact ⟨rfl, rfl⟩)
        · skip
          refine g_iconst X0 hx (hb hby d6_44) (pc' := 45) rfl (z := (1 : Int32)) rfl ?_
          refine g_goto X0 hx (hb hby d6_45) (by decide) (pc' := 49) (by decide) ?_
          refine g_istore X0 hx (hb hby d6_49) (pc' := 51) rfl (Ls' := #[.val (.int (1 : Int32)), .val (.int n), .val (.ref ua), .val (.ref lb), .val (.ref mb), .val (.int f), .val (.int la), .val (.int mi), .val (.int g), .val (.int (1 : Int32)), .unset]) rfl ?_
          refine g_iload X0 hx (hb hby d6_51) (pc' := 53) rfl rfl ?_
          refine g_if_eq X0 hx (hb hby d6_53) (pc1 := 56) rfl (by decide) (pc2 := 61) (by decide) (fun hc53 => absurd hc53 (by decide)) (fun hc53 => ?_)
          refine g_bipush X0 hx (hb hby d6_56) (pc' := 58) rfl (z := (-128 : Int32)) rfl ?_
          refine g_goto X0 hx (hb hby d6_58) (by decide) (pc' := 62) (by decide) ?_
          refine g_istore X0 hx (hb hby d6_62) (pc' := 64) rfl (Ls' := #[.val (.int (1 : Int32)), .val (.int n), .val (.ref ua), .val (.ref lb), .val (.ref mb), .val (.int f), .val (.int la), .val (.int mi), .val (.int g), .val (.int (1 : Int32)), .val (.int (-128 : Int32))]) rfl ?_
          refine g_iload X0 hx (hb hby d6_64) (pc' := 66) rfl rfl ?_
          refine g_iload X0 hx (hb hby d6_66) (pc' := 68) rfl rfl ?_
          refine g_icmp_ne X0 hx (hb hby d6_68) (pc1 := 71) rfl (by decide) (pc2 := 75) (by decide) (fun hc68 => absurd (hg.trans ((if_pos hc2).trans (if_pos ⟨hc24, hc32, hc41⟩))) hc68) (fun hc68 => ?_)
          refine g_iconst X0 hx (hb hby d6_71) (pc' := 72) rfl (z := (1 : Int32)) rfl ?_
          refine g_goto X0 hx (hb hby d6_72) (by decide) (pc' := 76) (by decide) ?_
          exact g_zreturn X0 hx rfl hret (hb hby d6_76) N0 hlk (fun v t => endF (by decide) (by decide) v) (by rw [e0]; exact ⟨rfl, rfl⟩)
  · skip
    refine g_iload X0 hx (hb hby d6_5) (pc' := 7) rfl rfl ?_
    refine g_aloadN X0 hx (hb hby d6_7) (pc' := 8) rfl rfl rfl ?_
    refine g_iloadN X0 hx (hb hby d6_8) (pc' := 9) rfl rfl ?_
    refine g_baload X0 hx hZ e0 V_ua (i := 1) (v := (.int u1)) (hb hby d6_9) (pc' := 10) rfl (by decide) rfl rfl ?_
    refine g_icmp_ne X0 hx (hb hby d6_10) (pc1 := 13) rfl (by decide) (pc2 := 17) (by decide) (fun hc10 => absurd (hg.trans (if_neg hc2)) hc10) (fun hc10 => ?_)
    refine g_iconst X0 hx (hb hby d6_13) (pc' := 14) rfl (z := (1 : Int32)) rfl ?_
    refine g_goto X0 hx (hb hby d6_14) (by decide) (pc' := 18) (by decide) ?_
    exact g_zreturn X0 hx rfl hret (hb hby d6_18) N0 hlk (fun v t => endF (by decide) (by decide) v) (by rw [e0]; exact ⟨rfl, rfl⟩)
theorem ef_6_2 (x0 : Int32) (x1 : Int32) (x2 : Addr) (x3 : Addr) (x4 : Addr) (x5 : Int32) (x6 : Int32) (x7 : Int32) (x8 : Int32) (m : MethodId) : entryFrame m #[(.int x0), (.int x1), (.ref x2), (.ref x3), (.ref x4), (.int x5), (.int x6), (.int x7), (.int x8)] 11 = mkF m 0 #[.val (.int x0), .val (.int x1), .val (.ref x2), .val (.ref x3), .val (.ref x4), .val (.int x5), .val (.int x6), .val (.int x7), .val (.int x8), .unset, .unset] [] := by first | (simp [entryFrame, mkF, argsToLocals, Value.category]; done) | rfl
def Q6_2 (Z : State) (ua : Addr) (lb : Addr) (mb : Addr) (u0 : Int32) (u1 : Int32) (u2 : Int32) (l0 : Int32) (l1 : Int32) (l2 : Int32) (m0 : Int32) (m1 : Int32) (m2 : Int32) (f : Int32) (la : Int32) (mi : Int32) (g : Int32) (n : Int32) (h0 : Heap) (n0 : Nat) : Option Value → Heap → Prop := fun v h => v = some (.int 1) ∧ h0 = h
set_option maxRecDepth 65536 in
set_option maxHeartbeats 40000000 in
theorem rm6_2 (l : Launch) (Z : State) (a0 : Array Value) (hw : ∀ d ∈ tables_1, d.before a0 Z = true) (ua : Addr) (lb : Addr) (mb : Addr) (u0 : Int32) (u1 : Int32) (u2 : Int32) (l0 : Int32) (l1 : Int32) (l2 : Int32) (m0 : Int32) (m1 : Int32) (m2 : Int32) (f : Int32) (la : Int32) (mi : Int32) (g : Int32) (n : Int32) (h0 : Heap) (n0 : Nat) (Z0 : n0 ≤ h0.size) (V_ua : Va Z h0 ua .byte [(.int u0), (.int u1), (.int u2)]) (V_lb : Va Z h0 lb .byte [(.int l0), (.int l1), (.int l2)]) (V_mb : Va Z h0 mb .byte [(.int m0), (.int m1), (.int m2)]) (hg : g = (if (2 : Int32) < n then (if u2 = f ∧ l2 = la ∧ m2 = mi then (-128 : Int32) else 0) else u2)) : Ctr l Z (⟨"com/example/needlework/needlework/BytesMarkPinLaw", "at", "(II[B[B[BBBBB)Z"⟩ : MethodName) method_3_code 11 (some .boolean) ({ frames := 0, cells := 0, slots := 0, locals := 0 } : Room) #[(.int (2 : Int32)), (.int n), (.ref ua), (.ref lb), (.ref mb), (.int f), (.int la), (.int mi), (.int g)] h0 n0 (Q6_2 Z ua lb mb u0 u1 u2 l0 l1 l2 m0 m1 m2 f la mi g n h0 n0) := by
  refine Ctr.of (plainFor_of_name pn_1) (ef_6_2 (2 : Int32) n ua lb mb f la mi g) ?_
  intro p e s m below meth c T0 hx hby hml hown hnm hret hlk hZ X0 e0
  have N0 := Fr.nil n0
  refine g_iloadN X0 hx (hb hby d6_0) (pc' := 1) rfl rfl ?_
  refine g_iloadN X0 hx (hb hby d6_1) (pc' := 2) rfl rfl ?_
  refine g_icmp_lt X0 hx (hb hby d6_2) (pc1 := 5) rfl (by decide) (pc2 := 19) (by decide) (fun hc2 => ?_) (fun hc2 => ?_)
  · skip
    refine g_aloadN X0 hx (hb hby d6_19) (pc' := 20) rfl rfl rfl ?_
    refine g_iloadN X0 hx (hb hby d6_20) (pc' := 21) rfl rfl ?_
    refine g_baload X0 hx hZ e0 V_ua (i := 2) (v := (.int u2)) (hb hby d6_21) (pc' := 22) rfl (by decide) rfl rfl ?_
    refine g_iload X0 hx (hb hby d6_22) (pc' := 24) rfl rfl ?_
    refine g_icmp_ne X0 hx (hb hby d6_24) (pc1 := 27) rfl (by decide) (pc2 := 48) (by decide) (fun hc24 => ?_) (fun hc24 => ?_)
    · skip
      refine g_iconst X0 hx (hb hby d6_48) (pc' := 49) rfl (z := (0 : Int32)) rfl ?_
      refine g_istore X0 hx (hb hby d6_49) (pc' := 51) rfl (Ls' := #[.val (.int (2 : Int32)), .val (.int n), .val (.ref ua), .val (.ref lb), .val (.ref mb), .val (.int f), .val (.int la), .val (.int mi), .val (.int g), .val (.int (0 : Int32)), .unset]) rfl ?_
      refine g_iload X0 hx (hb hby d6_51) (pc' := 53) rfl rfl ?_
      refine g_if_eq X0 hx (hb hby d6_53) (pc1 := 56) rfl (by decide) (pc2 := 61) (by decide) (fun hc53 => ?_) (fun hc53 => absurd rfl hc53)
      refine g_iconst X0 hx (hb hby d6_61) (pc' := 62) rfl (z := (0 : Int32)) rfl ?_
      refine g_istore X0 hx (hb hby d6_62) (pc' := 64) rfl (Ls' := #[.val (.int (2 : Int32)), .val (.int n), .val (.ref ua), .val (.ref lb), .val (.ref mb), .val (.int f), .val (.int la), .val (.int mi), .val (.int g), .val (.int (0 : Int32)), .val (.int (0 : Int32))]) rfl ?_
      refine g_iload X0 hx (hb hby d6_64) (pc' := 66) rfl rfl ?_
      refine g_iload X0 hx (hb hby d6_66) (pc' := 68) rfl rfl ?_
      refine g_icmp_ne X0 hx (hb hby d6_68) (pc1 := 71) rfl (by decide) (pc2 := 75) (by decide) (fun hc68 => absurd (hg.trans ((if_pos hc2).trans (if_neg (fun q => hc24 q.1)))) hc68) (fun hc68 => ?_)
      refine g_iconst X0 hx (hb hby d6_71) (pc' := 72) rfl (z := (1 : Int32)) rfl ?_
      refine g_goto X0 hx (hb hby d6_72) (by decide) (pc' := 76) (by decide) ?_
      exact g_zreturn X0 hx rfl hret (hb hby d6_76) N0 hlk (fun v t => endF (by decide) (by decide) v) (by rw [e0]; exact ⟨rfl, rfl⟩)
    · skip
      refine g_aloadN X0 hx (hb hby d6_27) (pc' := 28) rfl rfl rfl ?_
      refine g_iloadN X0 hx (hb hby d6_28) (pc' := 29) rfl rfl ?_
      refine g_baload X0 hx hZ e0 V_lb (i := 2) (v := (.int l2)) (hb hby d6_29) (pc' := 30) rfl (by decide) rfl rfl ?_
      refine g_iload X0 hx (hb hby d6_30) (pc' := 32) rfl rfl ?_
      refine g_icmp_ne X0 hx (hb hby d6_32) (pc1 := 35) rfl (by decide) (pc2 := 48) (by decide) (fun hc32 => ?_) (fun hc32 => ?_)
      · skip
        refine g_iconst X0 hx (hb hby d6_48) (pc' := 49) rfl (z := (0 : Int32)) rfl ?_
        refine g_istore X0 hx (hb hby d6_49) (pc' := 51) rfl (Ls' := #[.val (.int (2 : Int32)), .val (.int n), .val (.ref ua), .val (.ref lb), .val (.ref mb), .val (.int f), .val (.int la), .val (.int mi), .val (.int g), .val (.int (0 : Int32)), .unset]) rfl ?_
        refine g_iload X0 hx (hb hby d6_51) (pc' := 53) rfl rfl ?_
        refine g_if_eq X0 hx (hb hby d6_53) (pc1 := 56) rfl (by decide) (pc2 := 61) (by decide) (fun hc53 => ?_) (fun hc53 => absurd rfl hc53)
        refine g_iconst X0 hx (hb hby d6_61) (pc' := 62) rfl (z := (0 : Int32)) rfl ?_
        refine g_istore X0 hx (hb hby d6_62) (pc' := 64) rfl (Ls' := #[.val (.int (2 : Int32)), .val (.int n), .val (.ref ua), .val (.ref lb), .val (.ref mb), .val (.int f), .val (.int la), .val (.int mi), .val (.int g), .val (.int (0 : Int32)), .val (.int (0 : Int32))]) rfl ?_
        refine g_iload X0 hx (hb hby d6_64) (pc' := 66) rfl rfl ?_
        refine g_iload X0 hx (hb hby d6_66) (pc' := 68) rfl rfl ?_
        refine g_icmp_ne X0 hx (hb hby d6_68) (pc1 := 71) rfl (by decide) (pc2 := 75) (by decide) (fun hc68 => absurd (hg.trans ((if_pos hc2).trans (if_neg (fun q => hc32 q.2.1)))) hc68) (fun hc68 => ?_)
        refine g_iconst X0 hx (hb hby d6_71) (pc' := 72) rfl (z := (1 : Int32)) rfl ?_
        refine g_goto X0 hx (hb hby d6_72) (by decide) (pc' := 76) (by decide) ?_
        exact g_zreturn X0 hx rfl hret (hb hby d6_76) N0 hlk (fun v t => endF (by decide) (by decide) v) (by rw [e0]; exact ⟨rfl, rfl⟩)
      · skip
        refine g_aload X0 hx (hb hby d6_35) (pc' := 37) rfl rfl rfl ?_
        refine g_iloadN X0 hx (hb hby d6_37) (pc' := 38) rfl rfl ?_
        refine g_baload X0 hx hZ e0 V_mb (i := 2) (v := (.int m2)) (hb hby d6_38) (pc' := 39) rfl (by decide) rfl rfl ?_
        refine g_iload X0 hx (hb hby d6_39) (pc' := 41) rfl rfl ?_
        refine g_icmp_ne X0 hx (hb hby d6_41) (pc1 := 44) rfl (by decide) (pc2 := 48) (by decide) (fun hc41 => ?_) (fun hc41 => ?_)
        · skip
          refine g_iconst X0 hx (hb hby d6_48) (pc' := 49) rfl (z := (0 : Int32)) rfl ?_
          refine g_istore X0 hx (hb hby d6_49) (pc' := 51) rfl (Ls' := #[.val (.int (2 : Int32)), .val (.int n), .val (.ref ua), .val (.ref lb), .val (.ref mb), .val (.int f), .val (.int la), .val (.int mi), .val (.int g), .val (.int (0 : Int32)), .unset]) rfl ?_
          refine g_iload X0 hx (hb hby d6_51) (pc' := 53) rfl rfl ?_
          refine g_if_eq X0 hx (hb hby d6_53) (pc1 := 56) rfl (by decide) (pc2 := 61) (by decide) (fun hc53 => ?_) (fun hc53 => absurd rfl hc53)
          refine g_iconst X0 hx (hb hby d6_61) (pc' := 62) rfl (z := (0 : Int32)) rfl ?_
          refine g_istore X0 hx (hb hby d6_62) (pc' := 64) rfl (Ls' := #[.val (.int (2 : Int32)), .val (.int n), .val (.ref ua), .val (.ref lb), .val (.ref mb), .val (.int f), .val (.int la), .val (.int mi), .val (.int g), .val (.int (0 : Int32)), .val (.int (0 : Int32))]) rfl ?_
          refine g_iload X0 hx (hb hby d6_64) (pc' := 66) rfl rfl ?_
          refine g_iload X0 hx (hb hby d6_66) (pc' := 68) rfl rfl ?_
          refine g_icmp_ne X0 hx (hb hby d6_68) (pc1 := 71) rfl (by decide) (pc2 := 75) (by decide) (fun hc68 => absurd (hg.trans ((if_pos hc2).trans (if_neg (fun q => hc41 q.2.2)))) hc68) (fun hc68 => ?_)
          refine g_iconst X0 hx (hb hby d6_71) (pc' := 72) rfl (z := (1 : Int32)) rfl ?_
          refine g_goto X0 hx (hb hby d6_72) (by decide) (pc' := 76) (by decide) ?_
          exact g_zreturn X0 hx rfl hret (hb hby d6_76) N0 hlk (fun v t => endF (by decide) (by decide) v) (by rw [e0]; exact ⟨rfl, rfl⟩)
        · skip
          refine g_iconst X0 hx (hb hby d6_44) (pc' := 45) rfl (z := (1 : Int32)) rfl ?_
          refine g_goto X0 hx (hb hby d6_45) (by decide) (pc' := 49) (by decide) ?_
          refine g_istore X0 hx (hb hby d6_49) (pc' := 51) rfl (Ls' := #[.val (.int (2 : Int32)), .val (.int n), .val (.ref ua), .val (.ref lb), .val (.ref mb), .val (.int f), .val (.int la), .val (.int mi), .val (.int g), .val (.int (1 : Int32)), .unset]) rfl ?_
          refine g_iload X0 hx (hb hby d6_51) (pc' := 53) rfl rfl ?_
          refine g_if_eq X0 hx (hb hby d6_53) (pc1 := 56) rfl (by decide) (pc2 := 61) (by decide) (fun hc53 => absurd hc53 (by decide)) (fun hc53 => ?_)
          refine g_bipush X0 hx (hb hby d6_56) (pc' := 58) rfl (z := (-128 : Int32)) rfl ?_
          refine g_goto X0 hx (hb hby d6_58) (by decide) (pc' := 62) (by decide) ?_
          refine g_istore X0 hx (hb hby d6_62) (pc' := 64) rfl (Ls' := #[.val (.int (2 : Int32)), .val (.int n), .val (.ref ua), .val (.ref lb), .val (.ref mb), .val (.int f), .val (.int la), .val (.int mi), .val (.int g), .val (.int (1 : Int32)), .val (.int (-128 : Int32))]) rfl ?_
          refine g_iload X0 hx (hb hby d6_64) (pc' := 66) rfl rfl ?_
          refine g_iload X0 hx (hb hby d6_66) (pc' := 68) rfl rfl ?_
          refine g_icmp_ne X0 hx (hb hby d6_68) (pc1 := 71) rfl (by decide) (pc2 := 75) (by decide) (fun hc68 => absurd (hg.trans ((if_pos hc2).trans (if_pos ⟨hc24, hc32, hc41⟩))) hc68) (fun hc68 => ?_)
          refine g_iconst X0 hx (hb hby d6_71) (pc' := 72) rfl (z := (1 : Int32)) rfl ?_
          refine g_goto X0 hx (hb hby d6_72) (by decide) (pc' := 76) (by decide) ?_
          exact g_zreturn X0 hx rfl hret (hb hby d6_76) N0 hlk (fun v t => endF (by decide) (by decide) v) (by rw [e0]; exact ⟨rfl, rfl⟩)
  · skip
    refine g_iload X0 hx (hb hby d6_5) (pc' := 7) rfl rfl ?_
    refine g_aloadN X0 hx (hb hby d6_7) (pc' := 8) rfl rfl rfl ?_
    refine g_iloadN X0 hx (hb hby d6_8) (pc' := 9) rfl rfl ?_
    refine g_baload X0 hx hZ e0 V_ua (i := 2) (v := (.int u2)) (hb hby d6_9) (pc' := 10) rfl (by decide) rfl rfl ?_
    refine g_icmp_ne X0 hx (hb hby d6_10) (pc1 := 13) rfl (by decide) (pc2 := 17) (by decide) (fun hc10 => absurd (hg.trans (if_neg hc2)) hc10) (fun hc10 => ?_)
    refine g_iconst X0 hx (hb hby d6_13) (pc' := 14) rfl (z := (1 : Int32)) rfl ?_
    refine g_goto X0 hx (hb hby d6_14) (by decide) (pc' := 18) (by decide) ?_
    exact g_zreturn X0 hx rfl hret (hb hby d6_18) N0 hlk (fun v t => endF (by decide) (by decide) v) (by rw [e0]; exact ⟨rfl, rfl⟩)
theorem pd__IIBJI_B : parseMethodDescriptor "(IIBJI)B" = some ⟨[.int, .int, .byte, .long, .int], some .byte⟩ := by decide +kernel
theorem pd__CCCII_V : parseMethodDescriptor "(CCCII)V" = some ⟨[.char, .char, .char, .int, .int], none⟩ := by decide +kernel
theorem pd__I_V : parseMethodDescriptor "(I)V" = some ⟨[.int], none⟩ := by decide +kernel
theorem pd__II_B_B_BBBBB_Z : parseMethodDescriptor "(II[B[B[BBBBB)Z" = some ⟨[.int, .int, (.array .byte), (.array .byte), (.array .byte), .byte, .byte, .byte, .byte], some .boolean⟩ := by decide +kernel
theorem ef_0 (x0 : Int32) (x1 : Int32) (x2 : Int32) (x3 : Int64) (x4 : Int32) (x5 : Int32) (m : MethodId) : entryFrame m #[(.int x0), (.int x1), (.int x2), (.long x3), (.int x4), (.int x5)] maxLocals = mkF m 0 #[.val (.int x0), .val (.int x1), .val (.int x2), .val (.long x3), .second, .val (.int x4), .val (.int x5), .unset, .unset, .unset, .unset, .unset, .unset, .unset, .unset, .unset, .unset, .unset, .unset, .unset, .unset, .unset, .unset, .unset, .unset, .unset, .unset, .unset] [] := by first | (simp [entryFrame, mkF, argsToLocals, Value.category, maxLocals]; done) | rfl
def Q0 (Z : State) (p0 : Int32) (p1 : Int32) (p2 : Int32) (p3 : Int64) (p4 : Int32) (p5 : Int32) (h0 : Heap) (n0 : Nat) : Option Value → Heap → Prop := fun v h => v = some (.int 1)
set_option maxRecDepth 65536 in
set_option maxHeartbeats 40000000 in
theorem rm0 (l : Launch) (Z : State) (a0 : Array Value) (hw : ∀ d ∈ tables_1, d.before a0 Z = true) (p0 : Int32) (p1 : Int32) (p2 : Int32) (p3 : Int64) (p4 : Int32) (p5 : Int32) (h0 : Heap) (n0 : Nat) (Z0 : n0 ≤ h0.size) : Ctr l Z x code maxLocals ret room_1 #[(.int p0), (.int p1), (.int p2), (.long p3), (.int p4), (.int p5)] h0 n0 (Q0 Z p0 p1 p2 p3 p4 p5 h0 n0) := by
  refine Ctr.of (plainFor_of_name pn_1) (ef_0 p0 p1 p2 p3 p4 p5) ?_
  intro p e s m below meth c T0 hx hby hml hown hnm hret hlk hZ X0 e0
  have N0 := Fr.nil n0
  change c.maxLocals = 28 at hml
  change meth.sig.returnType = some .boolean at hret
  refine g_iloadN X0 hx (hb hby at_0) (pc' := 1) rfl rfl ?_
  refine g_i2c X0 hx (hb hby at_1) (pc' := 2) rfl ?_
  refine g_istore X0 hx (hb hby at_2) (pc' := 4) rfl (Ls' := #[.val (.int p0), .val (.int p1), .val (.int p2), .val (.long p3), .second, .val (.int p4), .val (.int p5), .val (.int (chr p0)), .unset, .unset, .unset, .unset, .unset, .unset, .unset, .unset, .unset, .unset, .unset, .unset, .unset, .unset, .unset, .unset, .unset, .unset, .unset, .unset]) rfl ?_
  refine g_iloadN X0 hx (hb hby at_4) (pc' := 5) rfl rfl ?_
  refine g_i2c X0 hx (hb hby at_5) (pc' := 6) rfl ?_
  refine g_istore X0 hx (hb hby at_6) (pc' := 8) rfl (Ls' := #[.val (.int p0), .val (.int p1), .val (.int p2), .val (.long p3), .second, .val (.int p4), .val (.int p5), .val (.int (chr p0)), .val (.int (chr p1)), .unset, .unset, .unset, .unset, .unset, .unset, .unset, .unset, .unset, .unset, .unset, .unset, .unset, .unset, .unset, .unset, .unset, .unset, .unset]) rfl ?_
  refine g_iloadN X0 hx (hb hby at_8) (pc' := 9) rfl rfl ?_
  refine g_i2c X0 hx (hb hby at_9) (pc' := 10) rfl ?_
  refine g_istore X0 hx (hb hby at_10) (pc' := 12) rfl (Ls' := #[.val (.int p0), .val (.int p1), .val (.int p2), .val (.long p3), .second, .val (.int p4), .val (.int p5), .val (.int (chr p0)), .val (.int (chr p1)), .val (.int (chr p2)), .unset, .unset, .unset, .unset, .unset, .unset, .unset, .unset, .unset, .unset, .unset, .unset, .unset, .unset, .unset, .unset, .unset, .unset]) rfl ?_
  refine g_iload X0 hx (hb hby at_12) (pc' := 14) rfl rfl ?_
  refine g_i2b X0 hx (hb hby at_14) (pc' := 15) rfl ?_
  refine g_istore X0 hx (hb hby at_15) (pc' := 17) rfl (Ls' := #[.val (.int p0), .val (.int p1), .val (.int p2), .val (.long p3), .second, .val (.int p4), .val (.int p5), .val (.int (chr p0)), .val (.int (chr p1)), .val (.int (chr p2)), .val (.int (byt (chr p0))), .unset, .unset, .unset, .unset, .unset, .unset, .unset, .unset, .unset, .unset, .unset, .unset, .unset, .unset, .unset, .unset, .unset]) rfl ?_
  refine g_iload X0 hx (hb hby at_17) (pc' := 19) rfl rfl ?_
  refine g_i2b X0 hx (hb hby at_19) (pc' := 20) rfl ?_
  refine g_istore X0 hx (hb hby at_20) (pc' := 22) rfl (Ls' := #[.val (.int p0), .val (.int p1), .val (.int p2), .val (.long p3), .second, .val (.int p4), .val (.int p5), .val (.int (chr p0)), .val (.int (chr p1)), .val (.int (chr p2)), .val (.int (byt (chr p0))), .val (.int (byt (chr p1))), .unset, .unset, .unset, .unset, .unset, .unset, .unset, .unset, .unset, .unset, .unset, .unset, .unset, .unset, .unset, .unset]) rfl ?_
  refine g_iload X0 hx (hb hby at_22) (pc' := 24) rfl rfl ?_
  refine g_i2b X0 hx (hb hby at_24) (pc' := 25) rfl ?_
  refine g_istore X0 hx (hb hby at_25) (pc' := 27) rfl (Ls' := #[.val (.int p0), .val (.int p1), .val (.int p2), .val (.long p3), .second, .val (.int p4), .val (.int p5), .val (.int (chr p0)), .val (.int (chr p1)), .val (.int (chr p2)), .val (.int (byt (chr p0))), .val (.int (byt (chr p1))), .val (.int (byt (chr p2))), .unset, .unset, .unset, .unset, .unset, .unset, .unset, .unset, .unset, .unset, .unset, .unset, .unset, .unset, .unset]) rfl ?_
  refine g_iconst X0 hx (hb hby at_27) (pc' := 28) rfl (z := (3 : Int32)) rfl ?_
  obtain ⟨T546, h546, b546, X546, e546, g546, E546, V546, A546, st546⟩ := h_newarray X0 hx hZ e0 (n := (3 : Int32)) (ty := .byte) rfl (hw _ (List.mem_of_getElem? (i := 0) rfl)) (hb hby at_28) (k := 3) (cap := 3) (by decide) rfl (by decide) (by decide) (by decide) (by decide) (ad := "[B") (by decide) #[.val (.int p0), .val (.int p1), .val (.int p2), .val (.long p3), .second, .val (.int p4), .val (.int p5), .val (.int (chr p0)), .val (.int (chr p1)), .val (.int (chr p2)), .val (.int (byt (chr p0))), .val (.int (byt (chr p1))), .val (.int (byt (chr p2))), .unset, .unset, .unset, .unset, .unset, .unset, .unset, .unset, .unset, .unset, .unset, .unset, .unset, .unset, .unset] []
  have ge547 : n0 ≤ b546 := g546 ▸ Z0
  have Z548 : n0 ≤ h546.size := Nat.le_trans Z0 E546.1
  have f549 : Va Z h546 b546 .byte [(.int (0 : Int32)), (.int (0 : Int32)), (.int (0 : Int32))] := V546
  refine Go.movp st546 (mkF m 30 #[.val (.int p0), .val (.int p1), .val (.int p2), .val (.long p3), .second, .val (.int p4), .val (.int p5), .val (.int (chr p0)), .val (.int (chr p1)), .val (.int (chr p2)), .val (.int (byt (chr p0))), .val (.int (byt (chr p1))), .val (.int (byt (chr p2))), .unset, .unset, .unset, .unset, .unset, .unset, .unset, .unset, .unset, .unset, .unset, .unset, .unset, .unset, .unset] [(.ref b546)]) rfl ?_
  refine g_dup X546 hx (hb hby at_30) (pc' := 31) rfl rfl ?_
  refine g_iconst X546 hx (hb hby at_31) (pc' := 32) rfl (z := (0 : Int32)) rfl ?_
  refine g_iload X546 hx (hb hby at_32) (pc' := 34) rfl rfl ?_
  refine g_iconst X546 hx (hb hby at_34) (pc' := 35) rfl (z := (0 : Int32)) rfl ?_
  refine g_iload X546 hx (hb hby at_35) (pc' := 37) rfl rfl ?_
  refine g_lloadN X546 hx (hb hby at_37) (pc' := 38) rfl rfl ?_
  refine g_iconst X546 hx (hb hby at_38) (pc' := 39) rfl (z := (0 : Int32)) rfl ?_
  obtain ⟨v550, T550, h550, L550, X550, e550, N550, q550, st550⟩ := h_static X546 hx (W := 3) (Ls := #[.val (.int p0), .val (.int p1), .val (.int p2), .val (.long p3), .second, .val (.int p4), .val (.int p5), .val (.int (chr p0)), .val (.int (chr p1)), .val (.int (chr p2)), .val (.int (byt (chr p0))), .val (.int (byt (chr p1))), .val (.int (byt (chr p2))), .unset, .unset, .unset, .unset, .unset, .unset, .unset, .unset, .unset, .unset, .unset, .unset, .unset, .unset, .unset]) (argsL := [(.int p5), (.int (0 : Int32)), (.int (byt (chr p0))), (.long p3), (.int (0 : Int32))]) (rest := [(.int (0 : Int32)), (.ref b546), (.ref b546)]) hZ e546 N0 hml hown (rm1 l Z a0 hw p5 (0 : Int32) (chr p0) p3 (0 : Int32) h546 n0 Z548) (hw _ (List.mem_of_getElem? (i := 1) rfl)) (hw _ (List.mem_of_getElem? (i := 2) rfl)) (hw _ (List.mem_of_getElem? (i := 3) rfl)) (hw _ (List.mem_of_getElem? (i := 4) rfl)) (by decide) pd__IIBJI_B rfl rfl (hb hby at_39) rfl (by decide) (by decide) (by decide) (by decide)
  obtain ⟨rfl, rfl⟩ := q550
  refine Go.movp st550 (mkF m 42 #[.val (.int p0), .val (.int p1), .val (.int p2), .val (.long p3), .second, .val (.int p4), .val (.int p5), .val (.int (chr p0)), .val (.int (chr p1)), .val (.int (chr p2)), .val (.int (byt (chr p0))), .val (.int (byt (chr p1))), .val (.int (byt (chr p2))), .unset, .unset, .unset, .unset, .unset, .unset, .unset, .unset, .unset, .unset, .unset, .unset, .unset, .unset, .unset] [(.int (pickV p5 (0 : Int32) (byt (chr p0)) p3 (0 : Int32))), (.int (0 : Int32)), (.ref b546), (.ref b546)]) rfl ?_
  obtain ⟨u0, eu0⟩ : ∃ z : Int32, z = (pickV p5 (0 : Int32) (byt (chr p0)) p3 (0 : Int32)) := ⟨_, rfl⟩
  refine Go.cast (show (mkF m 42 #[.val (.int p0), .val (.int p1), .val (.int p2), .val (.long p3), .second, .val (.int p4), .val (.int p5), .val (.int (chr p0)), .val (.int (chr p1)), .val (.int (chr p2)), .val (.int (byt (chr p0))), .val (.int (byt (chr p1))), .val (.int (byt (chr p2))), .unset, .unset, .unset, .unset, .unset, .unset, .unset, .unset, .unset, .unset, .unset, .unset, .unset, .unset, .unset] [(.int (pickV p5 (0 : Int32) (byt (chr p0)) p3 (0 : Int32))), (.int (0 : Int32)), (.ref b546), (.ref b546)]) = (mkF m 42 #[.val (.int p0), .val (.int p1), .val (.int p2), .val (.long p3), .second, .val (.int p4), .val (.int p5), .val (.int (chr p0)), .val (.int (chr p1)), .val (.int (chr p2)), .val (.int (byt (chr p0))), .val (.int (byt (chr p1))), .val (.int (byt (chr p2))), .unset, .unset, .unset, .unset, .unset, .unset, .unset, .unset, .unset, .unset, .unset, .unset, .unset, .unset, .unset] [(.int u0), (.int (0 : Int32)), (.ref b546), (.ref b546)]) from by rw [eu0]) ?_
  have bu0 : byt u0 = u0 := by rw [eu0]; exact pick_byt _ _ _ _ _
  obtain ⟨T551, h551, L551, X551, e551, N551, W551, V551, st551⟩ := h_bastore X550 hx hZ e550 N550 f549 ge547 (j := (0 : Int32)) (i := 0) (x := u0) (hb hby at_42) (by decide) rfl rfl #[.val (.int p0), .val (.int p1), .val (.int p2), .val (.long p3), .second, .val (.int p4), .val (.int p5), .val (.int (chr p0)), .val (.int (chr p1)), .val (.int (chr p2)), .val (.int (byt (chr p0))), .val (.int (byt (chr p1))), .val (.int (byt (chr p2))), .unset, .unset, .unset, .unset, .unset, .unset, .unset, .unset, .unset, .unset, .unset, .unset, .unset, .unset, .unset] [(.ref b546)]
  have f552 := Exa.wr W551 A546
  have Z553 : n0 ≤ h551.size := Nat.le_trans Z548 (Keep.of_wr W551).1
  have f554 : Va Z h551 b546 .byte [(.int (byt u0)), (.int (0 : Int32)), (.int (0 : Int32))] := V551
  have f555 : Va Z h551 b546 .byte [(.int u0), (.int (0 : Int32)), (.int (0 : Int32))] := by rw [show (byt u0) = u0 from bu0] at f554; exact f554
  refine Go.movp st551 (mkF m 43 #[.val (.int p0), .val (.int p1), .val (.int p2), .val (.long p3), .second, .val (.int p4), .val (.int p5), .val (.int (chr p0)), .val (.int (chr p1)), .val (.int (chr p2)), .val (.int (byt (chr p0))), .val (.int (byt (chr p1))), .val (.int (byt (chr p2))), .unset, .unset, .unset, .unset, .unset, .unset, .unset, .unset, .unset, .unset, .unset, .unset, .unset, .unset, .unset] [(.ref b546)]) rfl ?_
  refine g_dup X551 hx (hb hby at_43) (pc' := 44) rfl rfl ?_
  refine g_iconst X551 hx (hb hby at_44) (pc' := 45) rfl (z := (1 : Int32)) rfl ?_
  refine g_iload X551 hx (hb hby at_45) (pc' := 47) rfl rfl ?_
  refine g_iconst X551 hx (hb hby at_47) (pc' := 48) rfl (z := (1 : Int32)) rfl ?_
  refine g_iload X551 hx (hb hby at_48) (pc' := 50) rfl rfl ?_
  refine g_lloadN X551 hx (hb hby at_50) (pc' := 51) rfl rfl ?_
  refine g_bipush X551 hx (hb hby at_51) (pc' := 53) rfl (z := (8 : Int32)) rfl ?_
  obtain ⟨v556, T556, h556, L556, X556, e556, N556, q556, st556⟩ := h_static X551 hx (W := 3) (Ls := #[.val (.int p0), .val (.int p1), .val (.int p2), .val (.long p3), .second, .val (.int p4), .val (.int p5), .val (.int (chr p0)), .val (.int (chr p1)), .val (.int (chr p2)), .val (.int (byt (chr p0))), .val (.int (byt (chr p1))), .val (.int (byt (chr p2))), .unset, .unset, .unset, .unset, .unset, .unset, .unset, .unset, .unset, .unset, .unset, .unset, .unset, .unset, .unset]) (argsL := [(.int p5), (.int (1 : Int32)), (.int (byt (chr p0))), (.long p3), (.int (8 : Int32))]) (rest := [(.int (1 : Int32)), (.ref b546), (.ref b546)]) hZ e551 N551 hml hown (rm1 l Z a0 hw p5 (1 : Int32) (chr p0) p3 (8 : Int32) h551 n0 Z553) (hw _ (List.mem_of_getElem? (i := 1) rfl)) (hw _ (List.mem_of_getElem? (i := 2) rfl)) (hw _ (List.mem_of_getElem? (i := 3) rfl)) (hw _ (List.mem_of_getElem? (i := 4) rfl)) (by decide) pd__IIBJI_B rfl rfl (hb hby at_53) rfl (by decide) (by decide) (by decide) (by decide)
  obtain ⟨rfl, rfl⟩ := q556
  refine Go.movp st556 (mkF m 56 #[.val (.int p0), .val (.int p1), .val (.int p2), .val (.long p3), .second, .val (.int p4), .val (.int p5), .val (.int (chr p0)), .val (.int (chr p1)), .val (.int (chr p2)), .val (.int (byt (chr p0))), .val (.int (byt (chr p1))), .val (.int (byt (chr p2))), .unset, .unset, .unset, .unset, .unset, .unset, .unset, .unset, .unset, .unset, .unset, .unset, .unset, .unset, .unset] [(.int (pickV p5 (1 : Int32) (byt (chr p0)) p3 (8 : Int32))), (.int (1 : Int32)), (.ref b546), (.ref b546)]) rfl ?_
  obtain ⟨u1, eu1⟩ : ∃ z : Int32, z = (pickV p5 (1 : Int32) (byt (chr p0)) p3 (8 : Int32)) := ⟨_, rfl⟩
  refine Go.cast (show (mkF m 56 #[.val (.int p0), .val (.int p1), .val (.int p2), .val (.long p3), .second, .val (.int p4), .val (.int p5), .val (.int (chr p0)), .val (.int (chr p1)), .val (.int (chr p2)), .val (.int (byt (chr p0))), .val (.int (byt (chr p1))), .val (.int (byt (chr p2))), .unset, .unset, .unset, .unset, .unset, .unset, .unset, .unset, .unset, .unset, .unset, .unset, .unset, .unset, .unset] [(.int (pickV p5 (1 : Int32) (byt (chr p0)) p3 (8 : Int32))), (.int (1 : Int32)), (.ref b546), (.ref b546)]) = (mkF m 56 #[.val (.int p0), .val (.int p1), .val (.int p2), .val (.long p3), .second, .val (.int p4), .val (.int p5), .val (.int (chr p0)), .val (.int (chr p1)), .val (.int (chr p2)), .val (.int (byt (chr p0))), .val (.int (byt (chr p1))), .val (.int (byt (chr p2))), .unset, .unset, .unset, .unset, .unset, .unset, .unset, .unset, .unset, .unset, .unset, .unset, .unset, .unset, .unset] [(.int u1), (.int (1 : Int32)), (.ref b546), (.ref b546)]) from by rw [eu1]) ?_
  have bu1 : byt u1 = u1 := by rw [eu1]; exact pick_byt _ _ _ _ _
  obtain ⟨T557, h557, L557, X557, e557, N557, W557, V557, st557⟩ := h_bastore X556 hx hZ e556 N556 f555 ge547 (j := (1 : Int32)) (i := 1) (x := u1) (hb hby at_56) (by decide) rfl rfl #[.val (.int p0), .val (.int p1), .val (.int p2), .val (.long p3), .second, .val (.int p4), .val (.int p5), .val (.int (chr p0)), .val (.int (chr p1)), .val (.int (chr p2)), .val (.int (byt (chr p0))), .val (.int (byt (chr p1))), .val (.int (byt (chr p2))), .unset, .unset, .unset, .unset, .unset, .unset, .unset, .unset, .unset, .unset, .unset, .unset, .unset, .unset, .unset] [(.ref b546)]
  have f558 := Exa.wr W557 f552
  have Z559 : n0 ≤ h557.size := Nat.le_trans Z553 (Keep.of_wr W557).1
  have f560 : Va Z h557 b546 .byte [(.int u0), (.int (byt u1)), (.int (0 : Int32))] := V557
  have f561 : Va Z h557 b546 .byte [(.int u0), (.int u1), (.int (0 : Int32))] := by rw [show (byt u1) = u1 from bu1] at f560; exact f560
  refine Go.movp st557 (mkF m 57 #[.val (.int p0), .val (.int p1), .val (.int p2), .val (.long p3), .second, .val (.int p4), .val (.int p5), .val (.int (chr p0)), .val (.int (chr p1)), .val (.int (chr p2)), .val (.int (byt (chr p0))), .val (.int (byt (chr p1))), .val (.int (byt (chr p2))), .unset, .unset, .unset, .unset, .unset, .unset, .unset, .unset, .unset, .unset, .unset, .unset, .unset, .unset, .unset] [(.ref b546)]) rfl ?_
  refine g_dup X557 hx (hb hby at_57) (pc' := 58) rfl rfl ?_
  refine g_iconst X557 hx (hb hby at_58) (pc' := 59) rfl (z := (2 : Int32)) rfl ?_
  refine g_iload X557 hx (hb hby at_59) (pc' := 61) rfl rfl ?_
  refine g_iconst X557 hx (hb hby at_61) (pc' := 62) rfl (z := (2 : Int32)) rfl ?_
  refine g_iload X557 hx (hb hby at_62) (pc' := 64) rfl rfl ?_
  refine g_lloadN X557 hx (hb hby at_64) (pc' := 65) rfl rfl ?_
  refine g_bipush X557 hx (hb hby at_65) (pc' := 67) rfl (z := (16 : Int32)) rfl ?_
  obtain ⟨v562, T562, h562, L562, X562, e562, N562, q562, st562⟩ := h_static X557 hx (W := 3) (Ls := #[.val (.int p0), .val (.int p1), .val (.int p2), .val (.long p3), .second, .val (.int p4), .val (.int p5), .val (.int (chr p0)), .val (.int (chr p1)), .val (.int (chr p2)), .val (.int (byt (chr p0))), .val (.int (byt (chr p1))), .val (.int (byt (chr p2))), .unset, .unset, .unset, .unset, .unset, .unset, .unset, .unset, .unset, .unset, .unset, .unset, .unset, .unset, .unset]) (argsL := [(.int p5), (.int (2 : Int32)), (.int (byt (chr p0))), (.long p3), (.int (16 : Int32))]) (rest := [(.int (2 : Int32)), (.ref b546), (.ref b546)]) hZ e557 N557 hml hown (rm1 l Z a0 hw p5 (2 : Int32) (chr p0) p3 (16 : Int32) h557 n0 Z559) (hw _ (List.mem_of_getElem? (i := 1) rfl)) (hw _ (List.mem_of_getElem? (i := 2) rfl)) (hw _ (List.mem_of_getElem? (i := 3) rfl)) (hw _ (List.mem_of_getElem? (i := 4) rfl)) (by decide) pd__IIBJI_B rfl rfl (hb hby at_67) rfl (by decide) (by decide) (by decide) (by decide)
  obtain ⟨rfl, rfl⟩ := q562
  refine Go.movp st562 (mkF m 70 #[.val (.int p0), .val (.int p1), .val (.int p2), .val (.long p3), .second, .val (.int p4), .val (.int p5), .val (.int (chr p0)), .val (.int (chr p1)), .val (.int (chr p2)), .val (.int (byt (chr p0))), .val (.int (byt (chr p1))), .val (.int (byt (chr p2))), .unset, .unset, .unset, .unset, .unset, .unset, .unset, .unset, .unset, .unset, .unset, .unset, .unset, .unset, .unset] [(.int (pickV p5 (2 : Int32) (byt (chr p0)) p3 (16 : Int32))), (.int (2 : Int32)), (.ref b546), (.ref b546)]) rfl ?_
  obtain ⟨u2, eu2⟩ : ∃ z : Int32, z = (pickV p5 (2 : Int32) (byt (chr p0)) p3 (16 : Int32)) := ⟨_, rfl⟩
  refine Go.cast (show (mkF m 70 #[.val (.int p0), .val (.int p1), .val (.int p2), .val (.long p3), .second, .val (.int p4), .val (.int p5), .val (.int (chr p0)), .val (.int (chr p1)), .val (.int (chr p2)), .val (.int (byt (chr p0))), .val (.int (byt (chr p1))), .val (.int (byt (chr p2))), .unset, .unset, .unset, .unset, .unset, .unset, .unset, .unset, .unset, .unset, .unset, .unset, .unset, .unset, .unset] [(.int (pickV p5 (2 : Int32) (byt (chr p0)) p3 (16 : Int32))), (.int (2 : Int32)), (.ref b546), (.ref b546)]) = (mkF m 70 #[.val (.int p0), .val (.int p1), .val (.int p2), .val (.long p3), .second, .val (.int p4), .val (.int p5), .val (.int (chr p0)), .val (.int (chr p1)), .val (.int (chr p2)), .val (.int (byt (chr p0))), .val (.int (byt (chr p1))), .val (.int (byt (chr p2))), .unset, .unset, .unset, .unset, .unset, .unset, .unset, .unset, .unset, .unset, .unset, .unset, .unset, .unset, .unset] [(.int u2), (.int (2 : Int32)), (.ref b546), (.ref b546)]) from by rw [eu2]) ?_
  have bu2 : byt u2 = u2 := by rw [eu2]; exact pick_byt _ _ _ _ _
  obtain ⟨T563, h563, L563, X563, e563, N563, W563, V563, st563⟩ := h_bastore X562 hx hZ e562 N562 f561 ge547 (j := (2 : Int32)) (i := 2) (x := u2) (hb hby at_70) (by decide) rfl rfl #[.val (.int p0), .val (.int p1), .val (.int p2), .val (.long p3), .second, .val (.int p4), .val (.int p5), .val (.int (chr p0)), .val (.int (chr p1)), .val (.int (chr p2)), .val (.int (byt (chr p0))), .val (.int (byt (chr p1))), .val (.int (byt (chr p2))), .unset, .unset, .unset, .unset, .unset, .unset, .unset, .unset, .unset, .unset, .unset, .unset, .unset, .unset, .unset] [(.ref b546)]
  have f564 := Exa.wr W563 f558
  have Z565 : n0 ≤ h563.size := Nat.le_trans Z559 (Keep.of_wr W563).1
  have f566 : Va Z h563 b546 .byte [(.int u0), (.int u1), (.int (byt u2))] := V563
  have f567 : Va Z h563 b546 .byte [(.int u0), (.int u1), (.int u2)] := by rw [show (byt u2) = u2 from bu2] at f566; exact f566
  refine Go.movp st563 (mkF m 71 #[.val (.int p0), .val (.int p1), .val (.int p2), .val (.long p3), .second, .val (.int p4), .val (.int p5), .val (.int (chr p0)), .val (.int (chr p1)), .val (.int (chr p2)), .val (.int (byt (chr p0))), .val (.int (byt (chr p1))), .val (.int (byt (chr p2))), .unset, .unset, .unset, .unset, .unset, .unset, .unset, .unset, .unset, .unset, .unset, .unset, .unset, .unset, .unset] [(.ref b546)]) rfl ?_
  refine g_astore X563 hx (hb hby at_71) (pc' := 73) rfl rfl (Ls' := #[.val (.int p0), .val (.int p1), .val (.int p2), .val (.long p3), .second, .val (.int p4), .val (.int p5), .val (.int (chr p0)), .val (.int (chr p1)), .val (.int (chr p2)), .val (.int (byt (chr p0))), .val (.int (byt (chr p1))), .val (.int (byt (chr p2))), .val (.ref b546), .unset, .unset, .unset, .unset, .unset, .unset, .unset, .unset, .unset, .unset, .unset, .unset, .unset, .unset]) rfl ?_
  refine g_iconst X563 hx (hb hby at_73) (pc' := 74) rfl (z := (3 : Int32)) rfl ?_
  obtain ⟨T568, h568, b568, X568, e568, g568, E568, V568, A568, st568⟩ := h_newarray X563 hx hZ e563 (n := (3 : Int32)) (ty := .byte) rfl (hw _ (List.mem_of_getElem? (i := 0) rfl)) (hb hby at_74) (k := 3) (cap := 3) (by decide) rfl (by decide) (by decide) (by decide) (by decide) (ad := "[B") (by decide) #[.val (.int p0), .val (.int p1), .val (.int p2), .val (.long p3), .second, .val (.int p4), .val (.int p5), .val (.int (chr p0)), .val (.int (chr p1)), .val (.int (chr p2)), .val (.int (byt (chr p0))), .val (.int (byt (chr p1))), .val (.int (byt (chr p2))), .val (.ref b546), .unset, .unset, .unset, .unset, .unset, .unset, .unset, .unset, .unset, .unset, .unset, .unset, .unset, .unset] []
  have ne569 : b546 ≠ b568 := Nat.ne_of_lt (g568 ▸ f564.lt)
  have ge570 : n0 ≤ b568 := g568 ▸ Z565
  have f571 := Exa.ext E568 f564
  have f572 := f567.ext E568
  have Z573 : n0 ≤ h568.size := Nat.le_trans Z565 E568.1
  have f574 : Va Z h568 b568 .byte [(.int (0 : Int32)), (.int (0 : Int32)), (.int (0 : Int32))] := V568
  refine Go.movp st568 (mkF m 76 #[.val (.int p0), .val (.int p1), .val (.int p2), .val (.long p3), .second, .val (.int p4), .val (.int p5), .val (.int (chr p0)), .val (.int (chr p1)), .val (.int (chr p2)), .val (.int (byt (chr p0))), .val (.int (byt (chr p1))), .val (.int (byt (chr p2))), .val (.ref b546), .unset, .unset, .unset, .unset, .unset, .unset, .unset, .unset, .unset, .unset, .unset, .unset, .unset, .unset] [(.ref b568)]) rfl ?_
  refine g_dup X568 hx (hb hby at_76) (pc' := 77) rfl rfl ?_
  refine g_iconst X568 hx (hb hby at_77) (pc' := 78) rfl (z := (0 : Int32)) rfl ?_
  refine g_iload X568 hx (hb hby at_78) (pc' := 80) rfl rfl ?_
  refine g_iconst X568 hx (hb hby at_80) (pc' := 81) rfl (z := (3 : Int32)) rfl ?_
  refine g_iload X568 hx (hb hby at_81) (pc' := 83) rfl rfl ?_
  refine g_lloadN X568 hx (hb hby at_83) (pc' := 84) rfl rfl ?_
  refine g_bipush X568 hx (hb hby at_84) (pc' := 86) rfl (z := (24 : Int32)) rfl ?_
  obtain ⟨v575, T575, h575, L575, X575, e575, N575, q575, st575⟩ := h_static X568 hx (W := 3) (Ls := #[.val (.int p0), .val (.int p1), .val (.int p2), .val (.long p3), .second, .val (.int p4), .val (.int p5), .val (.int (chr p0)), .val (.int (chr p1)), .val (.int (chr p2)), .val (.int (byt (chr p0))), .val (.int (byt (chr p1))), .val (.int (byt (chr p2))), .val (.ref b546), .unset, .unset, .unset, .unset, .unset, .unset, .unset, .unset, .unset, .unset, .unset, .unset, .unset, .unset]) (argsL := [(.int p5), (.int (3 : Int32)), (.int (byt (chr p1))), (.long p3), (.int (24 : Int32))]) (rest := [(.int (0 : Int32)), (.ref b568), (.ref b568)]) hZ e568 N563 hml hown (rm1 l Z a0 hw p5 (3 : Int32) (chr p1) p3 (24 : Int32) h568 n0 Z573) (hw _ (List.mem_of_getElem? (i := 1) rfl)) (hw _ (List.mem_of_getElem? (i := 2) rfl)) (hw _ (List.mem_of_getElem? (i := 3) rfl)) (hw _ (List.mem_of_getElem? (i := 4) rfl)) (by decide) pd__IIBJI_B rfl rfl (hb hby at_86) rfl (by decide) (by decide) (by decide) (by decide)
  obtain ⟨rfl, rfl⟩ := q575
  refine Go.movp st575 (mkF m 89 #[.val (.int p0), .val (.int p1), .val (.int p2), .val (.long p3), .second, .val (.int p4), .val (.int p5), .val (.int (chr p0)), .val (.int (chr p1)), .val (.int (chr p2)), .val (.int (byt (chr p0))), .val (.int (byt (chr p1))), .val (.int (byt (chr p2))), .val (.ref b546), .unset, .unset, .unset, .unset, .unset, .unset, .unset, .unset, .unset, .unset, .unset, .unset, .unset, .unset] [(.int (pickV p5 (3 : Int32) (byt (chr p1)) p3 (24 : Int32))), (.int (0 : Int32)), (.ref b568), (.ref b568)]) rfl ?_
  obtain ⟨l0, el0⟩ : ∃ z : Int32, z = (pickV p5 (3 : Int32) (byt (chr p1)) p3 (24 : Int32)) := ⟨_, rfl⟩
  refine Go.cast (show (mkF m 89 #[.val (.int p0), .val (.int p1), .val (.int p2), .val (.long p3), .second, .val (.int p4), .val (.int p5), .val (.int (chr p0)), .val (.int (chr p1)), .val (.int (chr p2)), .val (.int (byt (chr p0))), .val (.int (byt (chr p1))), .val (.int (byt (chr p2))), .val (.ref b546), .unset, .unset, .unset, .unset, .unset, .unset, .unset, .unset, .unset, .unset, .unset, .unset, .unset, .unset] [(.int (pickV p5 (3 : Int32) (byt (chr p1)) p3 (24 : Int32))), (.int (0 : Int32)), (.ref b568), (.ref b568)]) = (mkF m 89 #[.val (.int p0), .val (.int p1), .val (.int p2), .val (.long p3), .second, .val (.int p4), .val (.int p5), .val (.int (chr p0)), .val (.int (chr p1)), .val (.int (chr p2)), .val (.int (byt (chr p0))), .val (.int (byt (chr p1))), .val (.int (byt (chr p2))), .val (.ref b546), .unset, .unset, .unset, .unset, .unset, .unset, .unset, .unset, .unset, .unset, .unset, .unset, .unset, .unset] [(.int l0), (.int (0 : Int32)), (.ref b568), (.ref b568)]) from by rw [el0]) ?_
  have bl0 : byt l0 = l0 := by rw [el0]; exact pick_byt _ _ _ _ _
  obtain ⟨T576, h576, L576, X576, e576, N576, W576, V576, st576⟩ := h_bastore X575 hx hZ e575 N575 f574 ge570 (j := (0 : Int32)) (i := 0) (x := l0) (hb hby at_89) (by decide) rfl rfl #[.val (.int p0), .val (.int p1), .val (.int p2), .val (.long p3), .second, .val (.int p4), .val (.int p5), .val (.int (chr p0)), .val (.int (chr p1)), .val (.int (chr p2)), .val (.int (byt (chr p0))), .val (.int (byt (chr p1))), .val (.int (byt (chr p2))), .val (.ref b546), .unset, .unset, .unset, .unset, .unset, .unset, .unset, .unset, .unset, .unset, .unset, .unset, .unset, .unset] [(.ref b568)]
  have f577 := Exa.wr W576 f571
  have f578 := f572.other W576 ne569
  have f579 := Exa.wr W576 A568
  have Z580 : n0 ≤ h576.size := Nat.le_trans Z573 (Keep.of_wr W576).1
  have f581 : Va Z h576 b568 .byte [(.int (byt l0)), (.int (0 : Int32)), (.int (0 : Int32))] := V576
  have f582 : Va Z h576 b568 .byte [(.int l0), (.int (0 : Int32)), (.int (0 : Int32))] := by rw [show (byt l0) = l0 from bl0] at f581; exact f581
  refine Go.movp st576 (mkF m 90 #[.val (.int p0), .val (.int p1), .val (.int p2), .val (.long p3), .second, .val (.int p4), .val (.int p5), .val (.int (chr p0)), .val (.int (chr p1)), .val (.int (chr p2)), .val (.int (byt (chr p0))), .val (.int (byt (chr p1))), .val (.int (byt (chr p2))), .val (.ref b546), .unset, .unset, .unset, .unset, .unset, .unset, .unset, .unset, .unset, .unset, .unset, .unset, .unset, .unset] [(.ref b568)]) rfl ?_
  refine g_dup X576 hx (hb hby at_90) (pc' := 91) rfl rfl ?_
  refine g_iconst X576 hx (hb hby at_91) (pc' := 92) rfl (z := (1 : Int32)) rfl ?_
  refine g_iload X576 hx (hb hby at_92) (pc' := 94) rfl rfl ?_
  refine g_iconst X576 hx (hb hby at_94) (pc' := 95) rfl (z := (4 : Int32)) rfl ?_
  refine g_iload X576 hx (hb hby at_95) (pc' := 97) rfl rfl ?_
  refine g_lloadN X576 hx (hb hby at_97) (pc' := 98) rfl rfl ?_
  refine g_bipush X576 hx (hb hby at_98) (pc' := 100) rfl (z := (32 : Int32)) rfl ?_
  obtain ⟨v583, T583, h583, L583, X583, e583, N583, q583, st583⟩ := h_static X576 hx (W := 3) (Ls := #[.val (.int p0), .val (.int p1), .val (.int p2), .val (.long p3), .second, .val (.int p4), .val (.int p5), .val (.int (chr p0)), .val (.int (chr p1)), .val (.int (chr p2)), .val (.int (byt (chr p0))), .val (.int (byt (chr p1))), .val (.int (byt (chr p2))), .val (.ref b546), .unset, .unset, .unset, .unset, .unset, .unset, .unset, .unset, .unset, .unset, .unset, .unset, .unset, .unset]) (argsL := [(.int p5), (.int (4 : Int32)), (.int (byt (chr p1))), (.long p3), (.int (32 : Int32))]) (rest := [(.int (1 : Int32)), (.ref b568), (.ref b568)]) hZ e576 N576 hml hown (rm1 l Z a0 hw p5 (4 : Int32) (chr p1) p3 (32 : Int32) h576 n0 Z580) (hw _ (List.mem_of_getElem? (i := 1) rfl)) (hw _ (List.mem_of_getElem? (i := 2) rfl)) (hw _ (List.mem_of_getElem? (i := 3) rfl)) (hw _ (List.mem_of_getElem? (i := 4) rfl)) (by decide) pd__IIBJI_B rfl rfl (hb hby at_100) rfl (by decide) (by decide) (by decide) (by decide)
  obtain ⟨rfl, rfl⟩ := q583
  refine Go.movp st583 (mkF m 103 #[.val (.int p0), .val (.int p1), .val (.int p2), .val (.long p3), .second, .val (.int p4), .val (.int p5), .val (.int (chr p0)), .val (.int (chr p1)), .val (.int (chr p2)), .val (.int (byt (chr p0))), .val (.int (byt (chr p1))), .val (.int (byt (chr p2))), .val (.ref b546), .unset, .unset, .unset, .unset, .unset, .unset, .unset, .unset, .unset, .unset, .unset, .unset, .unset, .unset] [(.int (pickV p5 (4 : Int32) (byt (chr p1)) p3 (32 : Int32))), (.int (1 : Int32)), (.ref b568), (.ref b568)]) rfl ?_
  obtain ⟨l1, el1⟩ : ∃ z : Int32, z = (pickV p5 (4 : Int32) (byt (chr p1)) p3 (32 : Int32)) := ⟨_, rfl⟩
  refine Go.cast (show (mkF m 103 #[.val (.int p0), .val (.int p1), .val (.int p2), .val (.long p3), .second, .val (.int p4), .val (.int p5), .val (.int (chr p0)), .val (.int (chr p1)), .val (.int (chr p2)), .val (.int (byt (chr p0))), .val (.int (byt (chr p1))), .val (.int (byt (chr p2))), .val (.ref b546), .unset, .unset, .unset, .unset, .unset, .unset, .unset, .unset, .unset, .unset, .unset, .unset, .unset, .unset] [(.int (pickV p5 (4 : Int32) (byt (chr p1)) p3 (32 : Int32))), (.int (1 : Int32)), (.ref b568), (.ref b568)]) = (mkF m 103 #[.val (.int p0), .val (.int p1), .val (.int p2), .val (.long p3), .second, .val (.int p4), .val (.int p5), .val (.int (chr p0)), .val (.int (chr p1)), .val (.int (chr p2)), .val (.int (byt (chr p0))), .val (.int (byt (chr p1))), .val (.int (byt (chr p2))), .val (.ref b546), .unset, .unset, .unset, .unset, .unset, .unset, .unset, .unset, .unset, .unset, .unset, .unset, .unset, .unset] [(.int l1), (.int (1 : Int32)), (.ref b568), (.ref b568)]) from by rw [el1]) ?_
  have bl1 : byt l1 = l1 := by rw [el1]; exact pick_byt _ _ _ _ _
  obtain ⟨T584, h584, L584, X584, e584, N584, W584, V584, st584⟩ := h_bastore X583 hx hZ e583 N583 f582 ge570 (j := (1 : Int32)) (i := 1) (x := l1) (hb hby at_103) (by decide) rfl rfl #[.val (.int p0), .val (.int p1), .val (.int p2), .val (.long p3), .second, .val (.int p4), .val (.int p5), .val (.int (chr p0)), .val (.int (chr p1)), .val (.int (chr p2)), .val (.int (byt (chr p0))), .val (.int (byt (chr p1))), .val (.int (byt (chr p2))), .val (.ref b546), .unset, .unset, .unset, .unset, .unset, .unset, .unset, .unset, .unset, .unset, .unset, .unset, .unset, .unset] [(.ref b568)]
  have f585 := Exa.wr W584 f577
  have f586 := f578.other W584 ne569
  have f587 := Exa.wr W584 f579
  have Z588 : n0 ≤ h584.size := Nat.le_trans Z580 (Keep.of_wr W584).1
  have f589 : Va Z h584 b568 .byte [(.int l0), (.int (byt l1)), (.int (0 : Int32))] := V584
  have f590 : Va Z h584 b568 .byte [(.int l0), (.int l1), (.int (0 : Int32))] := by rw [show (byt l1) = l1 from bl1] at f589; exact f589
  refine Go.movp st584 (mkF m 104 #[.val (.int p0), .val (.int p1), .val (.int p2), .val (.long p3), .second, .val (.int p4), .val (.int p5), .val (.int (chr p0)), .val (.int (chr p1)), .val (.int (chr p2)), .val (.int (byt (chr p0))), .val (.int (byt (chr p1))), .val (.int (byt (chr p2))), .val (.ref b546), .unset, .unset, .unset, .unset, .unset, .unset, .unset, .unset, .unset, .unset, .unset, .unset, .unset, .unset] [(.ref b568)]) rfl ?_
  refine g_dup X584 hx (hb hby at_104) (pc' := 105) rfl rfl ?_
  refine g_iconst X584 hx (hb hby at_105) (pc' := 106) rfl (z := (2 : Int32)) rfl ?_
  refine g_iload X584 hx (hb hby at_106) (pc' := 108) rfl rfl ?_
  refine g_iconst X584 hx (hb hby at_108) (pc' := 109) rfl (z := (5 : Int32)) rfl ?_
  refine g_iload X584 hx (hb hby at_109) (pc' := 111) rfl rfl ?_
  refine g_lloadN X584 hx (hb hby at_111) (pc' := 112) rfl rfl ?_
  refine g_bipush X584 hx (hb hby at_112) (pc' := 114) rfl (z := (40 : Int32)) rfl ?_
  obtain ⟨v591, T591, h591, L591, X591, e591, N591, q591, st591⟩ := h_static X584 hx (W := 3) (Ls := #[.val (.int p0), .val (.int p1), .val (.int p2), .val (.long p3), .second, .val (.int p4), .val (.int p5), .val (.int (chr p0)), .val (.int (chr p1)), .val (.int (chr p2)), .val (.int (byt (chr p0))), .val (.int (byt (chr p1))), .val (.int (byt (chr p2))), .val (.ref b546), .unset, .unset, .unset, .unset, .unset, .unset, .unset, .unset, .unset, .unset, .unset, .unset, .unset, .unset]) (argsL := [(.int p5), (.int (5 : Int32)), (.int (byt (chr p1))), (.long p3), (.int (40 : Int32))]) (rest := [(.int (2 : Int32)), (.ref b568), (.ref b568)]) hZ e584 N584 hml hown (rm1 l Z a0 hw p5 (5 : Int32) (chr p1) p3 (40 : Int32) h584 n0 Z588) (hw _ (List.mem_of_getElem? (i := 1) rfl)) (hw _ (List.mem_of_getElem? (i := 2) rfl)) (hw _ (List.mem_of_getElem? (i := 3) rfl)) (hw _ (List.mem_of_getElem? (i := 4) rfl)) (by decide) pd__IIBJI_B rfl rfl (hb hby at_114) rfl (by decide) (by decide) (by decide) (by decide)
  obtain ⟨rfl, rfl⟩ := q591
  refine Go.movp st591 (mkF m 117 #[.val (.int p0), .val (.int p1), .val (.int p2), .val (.long p3), .second, .val (.int p4), .val (.int p5), .val (.int (chr p0)), .val (.int (chr p1)), .val (.int (chr p2)), .val (.int (byt (chr p0))), .val (.int (byt (chr p1))), .val (.int (byt (chr p2))), .val (.ref b546), .unset, .unset, .unset, .unset, .unset, .unset, .unset, .unset, .unset, .unset, .unset, .unset, .unset, .unset] [(.int (pickV p5 (5 : Int32) (byt (chr p1)) p3 (40 : Int32))), (.int (2 : Int32)), (.ref b568), (.ref b568)]) rfl ?_
  obtain ⟨l2, el2⟩ : ∃ z : Int32, z = (pickV p5 (5 : Int32) (byt (chr p1)) p3 (40 : Int32)) := ⟨_, rfl⟩
  refine Go.cast (show (mkF m 117 #[.val (.int p0), .val (.int p1), .val (.int p2), .val (.long p3), .second, .val (.int p4), .val (.int p5), .val (.int (chr p0)), .val (.int (chr p1)), .val (.int (chr p2)), .val (.int (byt (chr p0))), .val (.int (byt (chr p1))), .val (.int (byt (chr p2))), .val (.ref b546), .unset, .unset, .unset, .unset, .unset, .unset, .unset, .unset, .unset, .unset, .unset, .unset, .unset, .unset] [(.int (pickV p5 (5 : Int32) (byt (chr p1)) p3 (40 : Int32))), (.int (2 : Int32)), (.ref b568), (.ref b568)]) = (mkF m 117 #[.val (.int p0), .val (.int p1), .val (.int p2), .val (.long p3), .second, .val (.int p4), .val (.int p5), .val (.int (chr p0)), .val (.int (chr p1)), .val (.int (chr p2)), .val (.int (byt (chr p0))), .val (.int (byt (chr p1))), .val (.int (byt (chr p2))), .val (.ref b546), .unset, .unset, .unset, .unset, .unset, .unset, .unset, .unset, .unset, .unset, .unset, .unset, .unset, .unset] [(.int l2), (.int (2 : Int32)), (.ref b568), (.ref b568)]) from by rw [el2]) ?_
  have bl2 : byt l2 = l2 := by rw [el2]; exact pick_byt _ _ _ _ _
  obtain ⟨T592, h592, L592, X592, e592, N592, W592, V592, st592⟩ := h_bastore X591 hx hZ e591 N591 f590 ge570 (j := (2 : Int32)) (i := 2) (x := l2) (hb hby at_117) (by decide) rfl rfl #[.val (.int p0), .val (.int p1), .val (.int p2), .val (.long p3), .second, .val (.int p4), .val (.int p5), .val (.int (chr p0)), .val (.int (chr p1)), .val (.int (chr p2)), .val (.int (byt (chr p0))), .val (.int (byt (chr p1))), .val (.int (byt (chr p2))), .val (.ref b546), .unset, .unset, .unset, .unset, .unset, .unset, .unset, .unset, .unset, .unset, .unset, .unset, .unset, .unset] [(.ref b568)]
  have f593 := Exa.wr W592 f585
  have f594 := f586.other W592 ne569
  have f595 := Exa.wr W592 f587
  have Z596 : n0 ≤ h592.size := Nat.le_trans Z588 (Keep.of_wr W592).1
  have f597 : Va Z h592 b568 .byte [(.int l0), (.int l1), (.int (byt l2))] := V592
  have f598 : Va Z h592 b568 .byte [(.int l0), (.int l1), (.int l2)] := by rw [show (byt l2) = l2 from bl2] at f597; exact f597
  refine Go.movp st592 (mkF m 118 #[.val (.int p0), .val (.int p1), .val (.int p2), .val (.long p3), .second, .val (.int p4), .val (.int p5), .val (.int (chr p0)), .val (.int (chr p1)), .val (.int (chr p2)), .val (.int (byt (chr p0))), .val (.int (byt (chr p1))), .val (.int (byt (chr p2))), .val (.ref b546), .unset, .unset, .unset, .unset, .unset, .unset, .unset, .unset, .unset, .unset, .unset, .unset, .unset, .unset] [(.ref b568)]) rfl ?_
  refine g_astore X592 hx (hb hby at_118) (pc' := 120) rfl rfl (Ls' := #[.val (.int p0), .val (.int p1), .val (.int p2), .val (.long p3), .second, .val (.int p4), .val (.int p5), .val (.int (chr p0)), .val (.int (chr p1)), .val (.int (chr p2)), .val (.int (byt (chr p0))), .val (.int (byt (chr p1))), .val (.int (byt (chr p2))), .val (.ref b546), .val (.ref b568), .unset, .unset, .unset, .unset, .unset, .unset, .unset, .unset, .unset, .unset, .unset, .unset, .unset]) rfl ?_
  refine g_iconst X592 hx (hb hby at_120) (pc' := 121) rfl (z := (3 : Int32)) rfl ?_
  obtain ⟨T599, h599, b599, X599, e599, g599, E599, V599, A599, st599⟩ := h_newarray X592 hx hZ e592 (n := (3 : Int32)) (ty := .byte) rfl (hw _ (List.mem_of_getElem? (i := 0) rfl)) (hb hby at_121) (k := 3) (cap := 3) (by decide) rfl (by decide) (by decide) (by decide) (by decide) (ad := "[B") (by decide) #[.val (.int p0), .val (.int p1), .val (.int p2), .val (.long p3), .second, .val (.int p4), .val (.int p5), .val (.int (chr p0)), .val (.int (chr p1)), .val (.int (chr p2)), .val (.int (byt (chr p0))), .val (.int (byt (chr p1))), .val (.int (byt (chr p2))), .val (.ref b546), .val (.ref b568), .unset, .unset, .unset, .unset, .unset, .unset, .unset, .unset, .unset, .unset, .unset, .unset, .unset] []
  have ne600 : b546 ≠ b599 := Nat.ne_of_lt (g599 ▸ f593.lt)
  have ne601 : b568 ≠ b599 := Nat.ne_of_lt (g599 ▸ f595.lt)
  have ge602 : n0 ≤ b599 := g599 ▸ Z596
  have f603 := Exa.ext E599 f593
  have f604 := f594.ext E599
  have f605 := Exa.ext E599 f595
  have f606 := f598.ext E599
  have Z607 : n0 ≤ h599.size := Nat.le_trans Z596 E599.1
  have f608 : Va Z h599 b599 .byte [(.int (0 : Int32)), (.int (0 : Int32)), (.int (0 : Int32))] := V599
  refine Go.movp st599 (mkF m 123 #[.val (.int p0), .val (.int p1), .val (.int p2), .val (.long p3), .second, .val (.int p4), .val (.int p5), .val (.int (chr p0)), .val (.int (chr p1)), .val (.int (chr p2)), .val (.int (byt (chr p0))), .val (.int (byt (chr p1))), .val (.int (byt (chr p2))), .val (.ref b546), .val (.ref b568), .unset, .unset, .unset, .unset, .unset, .unset, .unset, .unset, .unset, .unset, .unset, .unset, .unset] [(.ref b599)]) rfl ?_
  refine g_dup X599 hx (hb hby at_123) (pc' := 124) rfl rfl ?_
  refine g_iconst X599 hx (hb hby at_124) (pc' := 125) rfl (z := (0 : Int32)) rfl ?_
  refine g_iload X599 hx (hb hby at_125) (pc' := 127) rfl rfl ?_
  refine g_bipush X599 hx (hb hby at_127) (pc' := 129) rfl (z := (6 : Int32)) rfl ?_
  refine g_iload X599 hx (hb hby at_129) (pc' := 131) rfl rfl ?_
  refine g_iload X599 hx (hb hby at_131) (pc' := 133) rfl rfl ?_
  refine g_i2l X599 hx (hb hby at_133) (pc' := 134) rfl ?_
  refine g_iconst X599 hx (hb hby at_134) (pc' := 135) rfl (z := (0 : Int32)) rfl ?_
  obtain ⟨v609, T609, h609, L609, X609, e609, N609, q609, st609⟩ := h_static X599 hx (W := 3) (Ls := #[.val (.int p0), .val (.int p1), .val (.int p2), .val (.long p3), .second, .val (.int p4), .val (.int p5), .val (.int (chr p0)), .val (.int (chr p1)), .val (.int (chr p2)), .val (.int (byt (chr p0))), .val (.int (byt (chr p1))), .val (.int (byt (chr p2))), .val (.ref b546), .val (.ref b568), .unset, .unset, .unset, .unset, .unset, .unset, .unset, .unset, .unset, .unset, .unset, .unset, .unset]) (argsL := [(.int p5), (.int (6 : Int32)), (.int (byt (chr p2))), (.long p4.toInt64), (.int (0 : Int32))]) (rest := [(.int (0 : Int32)), (.ref b599), (.ref b599)]) hZ e599 N592 hml hown (rm1 l Z a0 hw p5 (6 : Int32) (chr p2) p4.toInt64 (0 : Int32) h599 n0 Z607) (hw _ (List.mem_of_getElem? (i := 1) rfl)) (hw _ (List.mem_of_getElem? (i := 2) rfl)) (hw _ (List.mem_of_getElem? (i := 3) rfl)) (hw _ (List.mem_of_getElem? (i := 4) rfl)) (by decide) pd__IIBJI_B rfl rfl (hb hby at_135) rfl (by decide) (by decide) (by decide) (by decide)
  obtain ⟨rfl, rfl⟩ := q609
  refine Go.movp st609 (mkF m 138 #[.val (.int p0), .val (.int p1), .val (.int p2), .val (.long p3), .second, .val (.int p4), .val (.int p5), .val (.int (chr p0)), .val (.int (chr p1)), .val (.int (chr p2)), .val (.int (byt (chr p0))), .val (.int (byt (chr p1))), .val (.int (byt (chr p2))), .val (.ref b546), .val (.ref b568), .unset, .unset, .unset, .unset, .unset, .unset, .unset, .unset, .unset, .unset, .unset, .unset, .unset] [(.int (pickV p5 (6 : Int32) (byt (chr p2)) p4.toInt64 (0 : Int32))), (.int (0 : Int32)), (.ref b599), (.ref b599)]) rfl ?_
  obtain ⟨m0, em0⟩ : ∃ z : Int32, z = (pickV p5 (6 : Int32) (byt (chr p2)) p4.toInt64 (0 : Int32)) := ⟨_, rfl⟩
  refine Go.cast (show (mkF m 138 #[.val (.int p0), .val (.int p1), .val (.int p2), .val (.long p3), .second, .val (.int p4), .val (.int p5), .val (.int (chr p0)), .val (.int (chr p1)), .val (.int (chr p2)), .val (.int (byt (chr p0))), .val (.int (byt (chr p1))), .val (.int (byt (chr p2))), .val (.ref b546), .val (.ref b568), .unset, .unset, .unset, .unset, .unset, .unset, .unset, .unset, .unset, .unset, .unset, .unset, .unset] [(.int (pickV p5 (6 : Int32) (byt (chr p2)) p4.toInt64 (0 : Int32))), (.int (0 : Int32)), (.ref b599), (.ref b599)]) = (mkF m 138 #[.val (.int p0), .val (.int p1), .val (.int p2), .val (.long p3), .second, .val (.int p4), .val (.int p5), .val (.int (chr p0)), .val (.int (chr p1)), .val (.int (chr p2)), .val (.int (byt (chr p0))), .val (.int (byt (chr p1))), .val (.int (byt (chr p2))), .val (.ref b546), .val (.ref b568), .unset, .unset, .unset, .unset, .unset, .unset, .unset, .unset, .unset, .unset, .unset, .unset, .unset] [(.int m0), (.int (0 : Int32)), (.ref b599), (.ref b599)]) from by rw [em0]) ?_
  have bm0 : byt m0 = m0 := by rw [em0]; exact pick_byt _ _ _ _ _
  obtain ⟨T610, h610, L610, X610, e610, N610, W610, V610, st610⟩ := h_bastore X609 hx hZ e609 N609 f608 ge602 (j := (0 : Int32)) (i := 0) (x := m0) (hb hby at_138) (by decide) rfl rfl #[.val (.int p0), .val (.int p1), .val (.int p2), .val (.long p3), .second, .val (.int p4), .val (.int p5), .val (.int (chr p0)), .val (.int (chr p1)), .val (.int (chr p2)), .val (.int (byt (chr p0))), .val (.int (byt (chr p1))), .val (.int (byt (chr p2))), .val (.ref b546), .val (.ref b568), .unset, .unset, .unset, .unset, .unset, .unset, .unset, .unset, .unset, .unset, .unset, .unset, .unset] [(.ref b599)]
  have f611 := Exa.wr W610 f603
  have f612 := f604.other W610 ne600
  have f613 := Exa.wr W610 f605
  have f614 := f606.other W610 ne601
  have f615 := Exa.wr W610 A599
  have Z616 : n0 ≤ h610.size := Nat.le_trans Z607 (Keep.of_wr W610).1
  have f617 : Va Z h610 b599 .byte [(.int (byt m0)), (.int (0 : Int32)), (.int (0 : Int32))] := V610
  have f618 : Va Z h610 b599 .byte [(.int m0), (.int (0 : Int32)), (.int (0 : Int32))] := by rw [show (byt m0) = m0 from bm0] at f617; exact f617
  refine Go.movp st610 (mkF m 139 #[.val (.int p0), .val (.int p1), .val (.int p2), .val (.long p3), .second, .val (.int p4), .val (.int p5), .val (.int (chr p0)), .val (.int (chr p1)), .val (.int (chr p2)), .val (.int (byt (chr p0))), .val (.int (byt (chr p1))), .val (.int (byt (chr p2))), .val (.ref b546), .val (.ref b568), .unset, .unset, .unset, .unset, .unset, .unset, .unset, .unset, .unset, .unset, .unset, .unset, .unset] [(.ref b599)]) rfl ?_
  refine g_dup X610 hx (hb hby at_139) (pc' := 140) rfl rfl ?_
  refine g_iconst X610 hx (hb hby at_140) (pc' := 141) rfl (z := (1 : Int32)) rfl ?_
  refine g_iload X610 hx (hb hby at_141) (pc' := 143) rfl rfl ?_
  refine g_bipush X610 hx (hb hby at_143) (pc' := 145) rfl (z := (7 : Int32)) rfl ?_
  refine g_iload X610 hx (hb hby at_145) (pc' := 147) rfl rfl ?_
  refine g_iload X610 hx (hb hby at_147) (pc' := 149) rfl rfl ?_
  refine g_i2l X610 hx (hb hby at_149) (pc' := 150) rfl ?_
  refine g_bipush X610 hx (hb hby at_150) (pc' := 152) rfl (z := (8 : Int32)) rfl ?_
  obtain ⟨v619, T619, h619, L619, X619, e619, N619, q619, st619⟩ := h_static X610 hx (W := 3) (Ls := #[.val (.int p0), .val (.int p1), .val (.int p2), .val (.long p3), .second, .val (.int p4), .val (.int p5), .val (.int (chr p0)), .val (.int (chr p1)), .val (.int (chr p2)), .val (.int (byt (chr p0))), .val (.int (byt (chr p1))), .val (.int (byt (chr p2))), .val (.ref b546), .val (.ref b568), .unset, .unset, .unset, .unset, .unset, .unset, .unset, .unset, .unset, .unset, .unset, .unset, .unset]) (argsL := [(.int p5), (.int (7 : Int32)), (.int (byt (chr p2))), (.long p4.toInt64), (.int (8 : Int32))]) (rest := [(.int (1 : Int32)), (.ref b599), (.ref b599)]) hZ e610 N610 hml hown (rm1 l Z a0 hw p5 (7 : Int32) (chr p2) p4.toInt64 (8 : Int32) h610 n0 Z616) (hw _ (List.mem_of_getElem? (i := 1) rfl)) (hw _ (List.mem_of_getElem? (i := 2) rfl)) (hw _ (List.mem_of_getElem? (i := 3) rfl)) (hw _ (List.mem_of_getElem? (i := 4) rfl)) (by decide) pd__IIBJI_B rfl rfl (hb hby at_152) rfl (by decide) (by decide) (by decide) (by decide)
  obtain ⟨rfl, rfl⟩ := q619
  refine Go.movp st619 (mkF m 155 #[.val (.int p0), .val (.int p1), .val (.int p2), .val (.long p3), .second, .val (.int p4), .val (.int p5), .val (.int (chr p0)), .val (.int (chr p1)), .val (.int (chr p2)), .val (.int (byt (chr p0))), .val (.int (byt (chr p1))), .val (.int (byt (chr p2))), .val (.ref b546), .val (.ref b568), .unset, .unset, .unset, .unset, .unset, .unset, .unset, .unset, .unset, .unset, .unset, .unset, .unset] [(.int (pickV p5 (7 : Int32) (byt (chr p2)) p4.toInt64 (8 : Int32))), (.int (1 : Int32)), (.ref b599), (.ref b599)]) rfl ?_
  obtain ⟨m1, em1⟩ : ∃ z : Int32, z = (pickV p5 (7 : Int32) (byt (chr p2)) p4.toInt64 (8 : Int32)) := ⟨_, rfl⟩
  refine Go.cast (show (mkF m 155 #[.val (.int p0), .val (.int p1), .val (.int p2), .val (.long p3), .second, .val (.int p4), .val (.int p5), .val (.int (chr p0)), .val (.int (chr p1)), .val (.int (chr p2)), .val (.int (byt (chr p0))), .val (.int (byt (chr p1))), .val (.int (byt (chr p2))), .val (.ref b546), .val (.ref b568), .unset, .unset, .unset, .unset, .unset, .unset, .unset, .unset, .unset, .unset, .unset, .unset, .unset] [(.int (pickV p5 (7 : Int32) (byt (chr p2)) p4.toInt64 (8 : Int32))), (.int (1 : Int32)), (.ref b599), (.ref b599)]) = (mkF m 155 #[.val (.int p0), .val (.int p1), .val (.int p2), .val (.long p3), .second, .val (.int p4), .val (.int p5), .val (.int (chr p0)), .val (.int (chr p1)), .val (.int (chr p2)), .val (.int (byt (chr p0))), .val (.int (byt (chr p1))), .val (.int (byt (chr p2))), .val (.ref b546), .val (.ref b568), .unset, .unset, .unset, .unset, .unset, .unset, .unset, .unset, .unset, .unset, .unset, .unset, .unset] [(.int m1), (.int (1 : Int32)), (.ref b599), (.ref b599)]) from by rw [em1]) ?_
  have bm1 : byt m1 = m1 := by rw [em1]; exact pick_byt _ _ _ _ _
  obtain ⟨T620, h620, L620, X620, e620, N620, W620, V620, st620⟩ := h_bastore X619 hx hZ e619 N619 f618 ge602 (j := (1 : Int32)) (i := 1) (x := m1) (hb hby at_155) (by decide) rfl rfl #[.val (.int p0), .val (.int p1), .val (.int p2), .val (.long p3), .second, .val (.int p4), .val (.int p5), .val (.int (chr p0)), .val (.int (chr p1)), .val (.int (chr p2)), .val (.int (byt (chr p0))), .val (.int (byt (chr p1))), .val (.int (byt (chr p2))), .val (.ref b546), .val (.ref b568), .unset, .unset, .unset, .unset, .unset, .unset, .unset, .unset, .unset, .unset, .unset, .unset, .unset] [(.ref b599)]
  have f621 := Exa.wr W620 f611
  have f622 := f612.other W620 ne600
  have f623 := Exa.wr W620 f613
  have f624 := f614.other W620 ne601
  have f625 := Exa.wr W620 f615
  have Z626 : n0 ≤ h620.size := Nat.le_trans Z616 (Keep.of_wr W620).1
  have f627 : Va Z h620 b599 .byte [(.int m0), (.int (byt m1)), (.int (0 : Int32))] := V620
  have f628 : Va Z h620 b599 .byte [(.int m0), (.int m1), (.int (0 : Int32))] := by rw [show (byt m1) = m1 from bm1] at f627; exact f627
  refine Go.movp st620 (mkF m 156 #[.val (.int p0), .val (.int p1), .val (.int p2), .val (.long p3), .second, .val (.int p4), .val (.int p5), .val (.int (chr p0)), .val (.int (chr p1)), .val (.int (chr p2)), .val (.int (byt (chr p0))), .val (.int (byt (chr p1))), .val (.int (byt (chr p2))), .val (.ref b546), .val (.ref b568), .unset, .unset, .unset, .unset, .unset, .unset, .unset, .unset, .unset, .unset, .unset, .unset, .unset] [(.ref b599)]) rfl ?_
  refine g_dup X620 hx (hb hby at_156) (pc' := 157) rfl rfl ?_
  refine g_iconst X620 hx (hb hby at_157) (pc' := 158) rfl (z := (2 : Int32)) rfl ?_
  refine g_iload X620 hx (hb hby at_158) (pc' := 160) rfl rfl ?_
  refine g_bipush X620 hx (hb hby at_160) (pc' := 162) rfl (z := (8 : Int32)) rfl ?_
  refine g_iload X620 hx (hb hby at_162) (pc' := 164) rfl rfl ?_
  refine g_iload X620 hx (hb hby at_164) (pc' := 166) rfl rfl ?_
  refine g_i2l X620 hx (hb hby at_166) (pc' := 167) rfl ?_
  refine g_bipush X620 hx (hb hby at_167) (pc' := 169) rfl (z := (16 : Int32)) rfl ?_
  obtain ⟨v629, T629, h629, L629, X629, e629, N629, q629, st629⟩ := h_static X620 hx (W := 3) (Ls := #[.val (.int p0), .val (.int p1), .val (.int p2), .val (.long p3), .second, .val (.int p4), .val (.int p5), .val (.int (chr p0)), .val (.int (chr p1)), .val (.int (chr p2)), .val (.int (byt (chr p0))), .val (.int (byt (chr p1))), .val (.int (byt (chr p2))), .val (.ref b546), .val (.ref b568), .unset, .unset, .unset, .unset, .unset, .unset, .unset, .unset, .unset, .unset, .unset, .unset, .unset]) (argsL := [(.int p5), (.int (8 : Int32)), (.int (byt (chr p2))), (.long p4.toInt64), (.int (16 : Int32))]) (rest := [(.int (2 : Int32)), (.ref b599), (.ref b599)]) hZ e620 N620 hml hown (rm1 l Z a0 hw p5 (8 : Int32) (chr p2) p4.toInt64 (16 : Int32) h620 n0 Z626) (hw _ (List.mem_of_getElem? (i := 1) rfl)) (hw _ (List.mem_of_getElem? (i := 2) rfl)) (hw _ (List.mem_of_getElem? (i := 3) rfl)) (hw _ (List.mem_of_getElem? (i := 4) rfl)) (by decide) pd__IIBJI_B rfl rfl (hb hby at_169) rfl (by decide) (by decide) (by decide) (by decide)
  obtain ⟨rfl, rfl⟩ := q629
  refine Go.movp st629 (mkF m 172 #[.val (.int p0), .val (.int p1), .val (.int p2), .val (.long p3), .second, .val (.int p4), .val (.int p5), .val (.int (chr p0)), .val (.int (chr p1)), .val (.int (chr p2)), .val (.int (byt (chr p0))), .val (.int (byt (chr p1))), .val (.int (byt (chr p2))), .val (.ref b546), .val (.ref b568), .unset, .unset, .unset, .unset, .unset, .unset, .unset, .unset, .unset, .unset, .unset, .unset, .unset] [(.int (pickV p5 (8 : Int32) (byt (chr p2)) p4.toInt64 (16 : Int32))), (.int (2 : Int32)), (.ref b599), (.ref b599)]) rfl ?_
  obtain ⟨m2, em2⟩ : ∃ z : Int32, z = (pickV p5 (8 : Int32) (byt (chr p2)) p4.toInt64 (16 : Int32)) := ⟨_, rfl⟩
  refine Go.cast (show (mkF m 172 #[.val (.int p0), .val (.int p1), .val (.int p2), .val (.long p3), .second, .val (.int p4), .val (.int p5), .val (.int (chr p0)), .val (.int (chr p1)), .val (.int (chr p2)), .val (.int (byt (chr p0))), .val (.int (byt (chr p1))), .val (.int (byt (chr p2))), .val (.ref b546), .val (.ref b568), .unset, .unset, .unset, .unset, .unset, .unset, .unset, .unset, .unset, .unset, .unset, .unset, .unset] [(.int (pickV p5 (8 : Int32) (byt (chr p2)) p4.toInt64 (16 : Int32))), (.int (2 : Int32)), (.ref b599), (.ref b599)]) = (mkF m 172 #[.val (.int p0), .val (.int p1), .val (.int p2), .val (.long p3), .second, .val (.int p4), .val (.int p5), .val (.int (chr p0)), .val (.int (chr p1)), .val (.int (chr p2)), .val (.int (byt (chr p0))), .val (.int (byt (chr p1))), .val (.int (byt (chr p2))), .val (.ref b546), .val (.ref b568), .unset, .unset, .unset, .unset, .unset, .unset, .unset, .unset, .unset, .unset, .unset, .unset, .unset] [(.int m2), (.int (2 : Int32)), (.ref b599), (.ref b599)]) from by rw [em2]) ?_
  have bm2 : byt m2 = m2 := by rw [em2]; exact pick_byt _ _ _ _ _
  obtain ⟨T630, h630, L630, X630, e630, N630, W630, V630, st630⟩ := h_bastore X629 hx hZ e629 N629 f628 ge602 (j := (2 : Int32)) (i := 2) (x := m2) (hb hby at_172) (by decide) rfl rfl #[.val (.int p0), .val (.int p1), .val (.int p2), .val (.long p3), .second, .val (.int p4), .val (.int p5), .val (.int (chr p0)), .val (.int (chr p1)), .val (.int (chr p2)), .val (.int (byt (chr p0))), .val (.int (byt (chr p1))), .val (.int (byt (chr p2))), .val (.ref b546), .val (.ref b568), .unset, .unset, .unset, .unset, .unset, .unset, .unset, .unset, .unset, .unset, .unset, .unset, .unset] [(.ref b599)]
  have f631 := Exa.wr W630 f621
  have f632 := f622.other W630 ne600
  have f633 := Exa.wr W630 f623
  have f634 := f624.other W630 ne601
  have f635 := Exa.wr W630 f625
  have Z636 : n0 ≤ h630.size := Nat.le_trans Z626 (Keep.of_wr W630).1
  have f637 : Va Z h630 b599 .byte [(.int m0), (.int m1), (.int (byt m2))] := V630
  have f638 : Va Z h630 b599 .byte [(.int m0), (.int m1), (.int m2)] := by rw [show (byt m2) = m2 from bm2] at f637; exact f637
  refine Go.movp st630 (mkF m 173 #[.val (.int p0), .val (.int p1), .val (.int p2), .val (.long p3), .second, .val (.int p4), .val (.int p5), .val (.int (chr p0)), .val (.int (chr p1)), .val (.int (chr p2)), .val (.int (byt (chr p0))), .val (.int (byt (chr p1))), .val (.int (byt (chr p2))), .val (.ref b546), .val (.ref b568), .unset, .unset, .unset, .unset, .unset, .unset, .unset, .unset, .unset, .unset, .unset, .unset, .unset] [(.ref b599)]) rfl ?_
  refine g_astore X630 hx (hb hby at_173) (pc' := 175) rfl rfl (Ls' := #[.val (.int p0), .val (.int p1), .val (.int p2), .val (.long p3), .second, .val (.int p4), .val (.int p5), .val (.int (chr p0)), .val (.int (chr p1)), .val (.int (chr p2)), .val (.int (byt (chr p0))), .val (.int (byt (chr p1))), .val (.int (byt (chr p2))), .val (.ref b546), .val (.ref b568), .val (.ref b599), .unset, .unset, .unset, .unset, .unset, .unset, .unset, .unset, .unset, .unset, .unset, .unset]) rfl ?_
  refine g_iconst X630 hx (hb hby at_175) (pc' := 176) rfl (z := (3 : Int32)) rfl ?_
  obtain ⟨T639, h639, b639, X639, e639, g639, E639, V639, A639, st639⟩ := h_newarray X630 hx hZ e630 (n := (3 : Int32)) (ty := .byte) rfl (hw _ (List.mem_of_getElem? (i := 0) rfl)) (hb hby at_176) (k := 3) (cap := 3) (by decide) rfl (by decide) (by decide) (by decide) (by decide) (ad := "[B") (by decide) #[.val (.int p0), .val (.int p1), .val (.int p2), .val (.long p3), .second, .val (.int p4), .val (.int p5), .val (.int (chr p0)), .val (.int (chr p1)), .val (.int (chr p2)), .val (.int (byt (chr p0))), .val (.int (byt (chr p1))), .val (.int (byt (chr p2))), .val (.ref b546), .val (.ref b568), .val (.ref b599), .unset, .unset, .unset, .unset, .unset, .unset, .unset, .unset, .unset, .unset, .unset, .unset] []
  have ne640 : b546 ≠ b639 := Nat.ne_of_lt (g639 ▸ f631.lt)
  have ne641 : b568 ≠ b639 := Nat.ne_of_lt (g639 ▸ f633.lt)
  have ne642 : b599 ≠ b639 := Nat.ne_of_lt (g639 ▸ f635.lt)
  have ge643 : n0 ≤ b639 := g639 ▸ Z636
  have f644 := Exa.ext E639 f631
  have f645 := f632.ext E639
  have f646 := Exa.ext E639 f633
  have f647 := f634.ext E639
  have f648 := Exa.ext E639 f635
  have f649 := f638.ext E639
  have Z650 : n0 ≤ h639.size := Nat.le_trans Z636 E639.1
  have f651 : Va Z h639 b639 .byte [(.int (0 : Int32)), (.int (0 : Int32)), (.int (0 : Int32))] := V639
  refine Go.movp st639 (mkF m 178 #[.val (.int p0), .val (.int p1), .val (.int p2), .val (.long p3), .second, .val (.int p4), .val (.int p5), .val (.int (chr p0)), .val (.int (chr p1)), .val (.int (chr p2)), .val (.int (byt (chr p0))), .val (.int (byt (chr p1))), .val (.int (byt (chr p2))), .val (.ref b546), .val (.ref b568), .val (.ref b599), .unset, .unset, .unset, .unset, .unset, .unset, .unset, .unset, .unset, .unset, .unset, .unset] [(.ref b639)]) rfl ?_
  refine g_dup X639 hx (hb hby at_178) (pc' := 179) rfl rfl ?_
  refine g_iconst X639 hx (hb hby at_179) (pc' := 180) rfl (z := (0 : Int32)) rfl ?_
  refine g_aload X639 hx (hb hby at_180) (pc' := 182) rfl rfl rfl ?_
  refine g_iconst X639 hx (hb hby at_182) (pc' := 183) rfl (z := (0 : Int32)) rfl ?_
  refine g_baload X639 hx hZ e639 f645 (i := 0) (v := (.int u0)) (hb hby at_183) (pc' := 184) rfl (by decide) rfl rfl ?_
  obtain ⟨T652, h652, L652, X652, e652, N652, W652, V652, st652⟩ := h_bastore X639 hx hZ e639 N630 f651 ge643 (j := (0 : Int32)) (i := 0) (x := u0) (hb hby at_184) (by decide) rfl rfl #[.val (.int p0), .val (.int p1), .val (.int p2), .val (.long p3), .second, .val (.int p4), .val (.int p5), .val (.int (chr p0)), .val (.int (chr p1)), .val (.int (chr p2)), .val (.int (byt (chr p0))), .val (.int (byt (chr p1))), .val (.int (byt (chr p2))), .val (.ref b546), .val (.ref b568), .val (.ref b599), .unset, .unset, .unset, .unset, .unset, .unset, .unset, .unset, .unset, .unset, .unset, .unset] [(.ref b639)]
  have f653 := Exa.wr W652 f644
  have f654 := f645.other W652 ne640
  have f655 := Exa.wr W652 f646
  have f656 := f647.other W652 ne641
  have f657 := Exa.wr W652 f648
  have f658 := f649.other W652 ne642
  have f659 := Exa.wr W652 A639
  have Z660 : n0 ≤ h652.size := Nat.le_trans Z650 (Keep.of_wr W652).1
  have f661 : Va Z h652 b639 .byte [(.int (byt u0)), (.int (0 : Int32)), (.int (0 : Int32))] := V652
  have f662 : Va Z h652 b639 .byte [(.int u0), (.int (0 : Int32)), (.int (0 : Int32))] := by rw [show (byt u0) = u0 from bu0] at f661; exact f661
  refine Go.movp st652 (mkF m 185 #[.val (.int p0), .val (.int p1), .val (.int p2), .val (.long p3), .second, .val (.int p4), .val (.int p5), .val (.int (chr p0)), .val (.int (chr p1)), .val (.int (chr p2)), .val (.int (byt (chr p0))), .val (.int (byt (chr p1))), .val (.int (byt (chr p2))), .val (.ref b546), .val (.ref b568), .val (.ref b599), .unset, .unset, .unset, .unset, .unset, .unset, .unset, .unset, .unset, .unset, .unset, .unset] [(.ref b639)]) rfl ?_
  refine g_dup X652 hx (hb hby at_185) (pc' := 186) rfl rfl ?_
  refine g_iconst X652 hx (hb hby at_186) (pc' := 187) rfl (z := (1 : Int32)) rfl ?_
  refine g_aload X652 hx (hb hby at_187) (pc' := 189) rfl rfl rfl ?_
  refine g_iconst X652 hx (hb hby at_189) (pc' := 190) rfl (z := (1 : Int32)) rfl ?_
  refine g_baload X652 hx hZ e652 f654 (i := 1) (v := (.int u1)) (hb hby at_190) (pc' := 191) rfl (by decide) rfl rfl ?_
  obtain ⟨T663, h663, L663, X663, e663, N663, W663, V663, st663⟩ := h_bastore X652 hx hZ e652 N652 f662 ge643 (j := (1 : Int32)) (i := 1) (x := u1) (hb hby at_191) (by decide) rfl rfl #[.val (.int p0), .val (.int p1), .val (.int p2), .val (.long p3), .second, .val (.int p4), .val (.int p5), .val (.int (chr p0)), .val (.int (chr p1)), .val (.int (chr p2)), .val (.int (byt (chr p0))), .val (.int (byt (chr p1))), .val (.int (byt (chr p2))), .val (.ref b546), .val (.ref b568), .val (.ref b599), .unset, .unset, .unset, .unset, .unset, .unset, .unset, .unset, .unset, .unset, .unset, .unset] [(.ref b639)]
  have f664 := Exa.wr W663 f653
  have f665 := f654.other W663 ne640
  have f666 := Exa.wr W663 f655
  have f667 := f656.other W663 ne641
  have f668 := Exa.wr W663 f657
  have f669 := f658.other W663 ne642
  have f670 := Exa.wr W663 f659
  have Z671 : n0 ≤ h663.size := Nat.le_trans Z660 (Keep.of_wr W663).1
  have f672 : Va Z h663 b639 .byte [(.int u0), (.int (byt u1)), (.int (0 : Int32))] := V663
  have f673 : Va Z h663 b639 .byte [(.int u0), (.int u1), (.int (0 : Int32))] := by rw [show (byt u1) = u1 from bu1] at f672; exact f672
  refine Go.movp st663 (mkF m 192 #[.val (.int p0), .val (.int p1), .val (.int p2), .val (.long p3), .second, .val (.int p4), .val (.int p5), .val (.int (chr p0)), .val (.int (chr p1)), .val (.int (chr p2)), .val (.int (byt (chr p0))), .val (.int (byt (chr p1))), .val (.int (byt (chr p2))), .val (.ref b546), .val (.ref b568), .val (.ref b599), .unset, .unset, .unset, .unset, .unset, .unset, .unset, .unset, .unset, .unset, .unset, .unset] [(.ref b639)]) rfl ?_
  refine g_dup X663 hx (hb hby at_192) (pc' := 193) rfl rfl ?_
  refine g_iconst X663 hx (hb hby at_193) (pc' := 194) rfl (z := (2 : Int32)) rfl ?_
  refine g_aload X663 hx (hb hby at_194) (pc' := 196) rfl rfl rfl ?_
  refine g_iconst X663 hx (hb hby at_196) (pc' := 197) rfl (z := (2 : Int32)) rfl ?_
  refine g_baload X663 hx hZ e663 f665 (i := 2) (v := (.int u2)) (hb hby at_197) (pc' := 198) rfl (by decide) rfl rfl ?_
  obtain ⟨T674, h674, L674, X674, e674, N674, W674, V674, st674⟩ := h_bastore X663 hx hZ e663 N663 f673 ge643 (j := (2 : Int32)) (i := 2) (x := u2) (hb hby at_198) (by decide) rfl rfl #[.val (.int p0), .val (.int p1), .val (.int p2), .val (.long p3), .second, .val (.int p4), .val (.int p5), .val (.int (chr p0)), .val (.int (chr p1)), .val (.int (chr p2)), .val (.int (byt (chr p0))), .val (.int (byt (chr p1))), .val (.int (byt (chr p2))), .val (.ref b546), .val (.ref b568), .val (.ref b599), .unset, .unset, .unset, .unset, .unset, .unset, .unset, .unset, .unset, .unset, .unset, .unset] [(.ref b639)]
  have f675 := Exa.wr W674 f664
  have f676 := f665.other W674 ne640
  have f677 := Exa.wr W674 f666
  have f678 := f667.other W674 ne641
  have f679 := Exa.wr W674 f668
  have f680 := f669.other W674 ne642
  have f681 := Exa.wr W674 f670
  have Z682 : n0 ≤ h674.size := Nat.le_trans Z671 (Keep.of_wr W674).1
  have f683 : Va Z h674 b639 .byte [(.int u0), (.int u1), (.int (byt u2))] := V674
  have f684 : Va Z h674 b639 .byte [(.int u0), (.int u1), (.int u2)] := by rw [show (byt u2) = u2 from bu2] at f683; exact f683
  refine Go.movp st674 (mkF m 199 #[.val (.int p0), .val (.int p1), .val (.int p2), .val (.long p3), .second, .val (.int p4), .val (.int p5), .val (.int (chr p0)), .val (.int (chr p1)), .val (.int (chr p2)), .val (.int (byt (chr p0))), .val (.int (byt (chr p1))), .val (.int (byt (chr p2))), .val (.ref b546), .val (.ref b568), .val (.ref b599), .unset, .unset, .unset, .unset, .unset, .unset, .unset, .unset, .unset, .unset, .unset, .unset] [(.ref b639)]) rfl ?_
  refine g_astore X674 hx (hb hby at_199) (pc' := 201) rfl rfl (Ls' := #[.val (.int p0), .val (.int p1), .val (.int p2), .val (.long p3), .second, .val (.int p4), .val (.int p5), .val (.int (chr p0)), .val (.int (chr p1)), .val (.int (chr p2)), .val (.int (byt (chr p0))), .val (.int (byt (chr p1))), .val (.int (byt (chr p2))), .val (.ref b546), .val (.ref b568), .val (.ref b599), .val (.ref b639), .unset, .unset, .unset, .unset, .unset, .unset, .unset, .unset, .unset, .unset, .unset]) rfl ?_
  refine g_iconst X674 hx (hb hby at_201) (pc' := 202) rfl (z := (3 : Int32)) rfl ?_
  obtain ⟨T685, h685, b685, X685, e685, g685, E685, V685, A685, st685⟩ := h_newarray X674 hx hZ e674 (n := (3 : Int32)) (ty := .byte) rfl (hw _ (List.mem_of_getElem? (i := 0) rfl)) (hb hby at_202) (k := 3) (cap := 3) (by decide) rfl (by decide) (by decide) (by decide) (by decide) (ad := "[B") (by decide) #[.val (.int p0), .val (.int p1), .val (.int p2), .val (.long p3), .second, .val (.int p4), .val (.int p5), .val (.int (chr p0)), .val (.int (chr p1)), .val (.int (chr p2)), .val (.int (byt (chr p0))), .val (.int (byt (chr p1))), .val (.int (byt (chr p2))), .val (.ref b546), .val (.ref b568), .val (.ref b599), .val (.ref b639), .unset, .unset, .unset, .unset, .unset, .unset, .unset, .unset, .unset, .unset, .unset] []
  have ne686 : b546 ≠ b685 := Nat.ne_of_lt (g685 ▸ f675.lt)
  have ne687 : b568 ≠ b685 := Nat.ne_of_lt (g685 ▸ f677.lt)
  have ne688 : b599 ≠ b685 := Nat.ne_of_lt (g685 ▸ f679.lt)
  have ne689 : b639 ≠ b685 := Nat.ne_of_lt (g685 ▸ f681.lt)
  have ge690 : n0 ≤ b685 := g685 ▸ Z682
  have f691 := Exa.ext E685 f675
  have f692 := f676.ext E685
  have f693 := Exa.ext E685 f677
  have f694 := f678.ext E685
  have f695 := Exa.ext E685 f679
  have f696 := f680.ext E685
  have f697 := Exa.ext E685 f681
  have f698 := f684.ext E685
  have Z699 : n0 ≤ h685.size := Nat.le_trans Z682 E685.1
  have f700 : Va Z h685 b685 .byte [(.int (0 : Int32)), (.int (0 : Int32)), (.int (0 : Int32))] := V685
  refine Go.movp st685 (mkF m 204 #[.val (.int p0), .val (.int p1), .val (.int p2), .val (.long p3), .second, .val (.int p4), .val (.int p5), .val (.int (chr p0)), .val (.int (chr p1)), .val (.int (chr p2)), .val (.int (byt (chr p0))), .val (.int (byt (chr p1))), .val (.int (byt (chr p2))), .val (.ref b546), .val (.ref b568), .val (.ref b599), .val (.ref b639), .unset, .unset, .unset, .unset, .unset, .unset, .unset, .unset, .unset, .unset, .unset] [(.ref b685)]) rfl ?_
  refine g_dup X685 hx (hb hby at_204) (pc' := 205) rfl rfl ?_
  refine g_iconst X685 hx (hb hby at_205) (pc' := 206) rfl (z := (0 : Int32)) rfl ?_
  refine g_aload X685 hx (hb hby at_206) (pc' := 208) rfl rfl rfl ?_
  refine g_iconst X685 hx (hb hby at_208) (pc' := 209) rfl (z := (0 : Int32)) rfl ?_
  refine g_baload X685 hx hZ e685 f694 (i := 0) (v := (.int l0)) (hb hby at_209) (pc' := 210) rfl (by decide) rfl rfl ?_
  obtain ⟨T701, h701, L701, X701, e701, N701, W701, V701, st701⟩ := h_bastore X685 hx hZ e685 N674 f700 ge690 (j := (0 : Int32)) (i := 0) (x := l0) (hb hby at_210) (by decide) rfl rfl #[.val (.int p0), .val (.int p1), .val (.int p2), .val (.long p3), .second, .val (.int p4), .val (.int p5), .val (.int (chr p0)), .val (.int (chr p1)), .val (.int (chr p2)), .val (.int (byt (chr p0))), .val (.int (byt (chr p1))), .val (.int (byt (chr p2))), .val (.ref b546), .val (.ref b568), .val (.ref b599), .val (.ref b639), .unset, .unset, .unset, .unset, .unset, .unset, .unset, .unset, .unset, .unset, .unset] [(.ref b685)]
  have f702 := Exa.wr W701 f691
  have f703 := f692.other W701 ne686
  have f704 := Exa.wr W701 f693
  have f705 := f694.other W701 ne687
  have f706 := Exa.wr W701 f695
  have f707 := f696.other W701 ne688
  have f708 := Exa.wr W701 f697
  have f709 := f698.other W701 ne689
  have f710 := Exa.wr W701 A685
  have Z711 : n0 ≤ h701.size := Nat.le_trans Z699 (Keep.of_wr W701).1
  have f712 : Va Z h701 b685 .byte [(.int (byt l0)), (.int (0 : Int32)), (.int (0 : Int32))] := V701
  have f713 : Va Z h701 b685 .byte [(.int l0), (.int (0 : Int32)), (.int (0 : Int32))] := by rw [show (byt l0) = l0 from bl0] at f712; exact f712
  refine Go.movp st701 (mkF m 211 #[.val (.int p0), .val (.int p1), .val (.int p2), .val (.long p3), .second, .val (.int p4), .val (.int p5), .val (.int (chr p0)), .val (.int (chr p1)), .val (.int (chr p2)), .val (.int (byt (chr p0))), .val (.int (byt (chr p1))), .val (.int (byt (chr p2))), .val (.ref b546), .val (.ref b568), .val (.ref b599), .val (.ref b639), .unset, .unset, .unset, .unset, .unset, .unset, .unset, .unset, .unset, .unset, .unset] [(.ref b685)]) rfl ?_
  refine g_dup X701 hx (hb hby at_211) (pc' := 212) rfl rfl ?_
  refine g_iconst X701 hx (hb hby at_212) (pc' := 213) rfl (z := (1 : Int32)) rfl ?_
  refine g_aload X701 hx (hb hby at_213) (pc' := 215) rfl rfl rfl ?_
  refine g_iconst X701 hx (hb hby at_215) (pc' := 216) rfl (z := (1 : Int32)) rfl ?_
  refine g_baload X701 hx hZ e701 f705 (i := 1) (v := (.int l1)) (hb hby at_216) (pc' := 217) rfl (by decide) rfl rfl ?_
  obtain ⟨T714, h714, L714, X714, e714, N714, W714, V714, st714⟩ := h_bastore X701 hx hZ e701 N701 f713 ge690 (j := (1 : Int32)) (i := 1) (x := l1) (hb hby at_217) (by decide) rfl rfl #[.val (.int p0), .val (.int p1), .val (.int p2), .val (.long p3), .second, .val (.int p4), .val (.int p5), .val (.int (chr p0)), .val (.int (chr p1)), .val (.int (chr p2)), .val (.int (byt (chr p0))), .val (.int (byt (chr p1))), .val (.int (byt (chr p2))), .val (.ref b546), .val (.ref b568), .val (.ref b599), .val (.ref b639), .unset, .unset, .unset, .unset, .unset, .unset, .unset, .unset, .unset, .unset, .unset] [(.ref b685)]
  have f715 := Exa.wr W714 f702
  have f716 := f703.other W714 ne686
  have f717 := Exa.wr W714 f704
  have f718 := f705.other W714 ne687
  have f719 := Exa.wr W714 f706
  have f720 := f707.other W714 ne688
  have f721 := Exa.wr W714 f708
  have f722 := f709.other W714 ne689
  have f723 := Exa.wr W714 f710
  have Z724 : n0 ≤ h714.size := Nat.le_trans Z711 (Keep.of_wr W714).1
  have f725 : Va Z h714 b685 .byte [(.int l0), (.int (byt l1)), (.int (0 : Int32))] := V714
  have f726 : Va Z h714 b685 .byte [(.int l0), (.int l1), (.int (0 : Int32))] := by rw [show (byt l1) = l1 from bl1] at f725; exact f725
  refine Go.movp st714 (mkF m 218 #[.val (.int p0), .val (.int p1), .val (.int p2), .val (.long p3), .second, .val (.int p4), .val (.int p5), .val (.int (chr p0)), .val (.int (chr p1)), .val (.int (chr p2)), .val (.int (byt (chr p0))), .val (.int (byt (chr p1))), .val (.int (byt (chr p2))), .val (.ref b546), .val (.ref b568), .val (.ref b599), .val (.ref b639), .unset, .unset, .unset, .unset, .unset, .unset, .unset, .unset, .unset, .unset, .unset] [(.ref b685)]) rfl ?_
  refine g_dup X714 hx (hb hby at_218) (pc' := 219) rfl rfl ?_
  refine g_iconst X714 hx (hb hby at_219) (pc' := 220) rfl (z := (2 : Int32)) rfl ?_
  refine g_aload X714 hx (hb hby at_220) (pc' := 222) rfl rfl rfl ?_
  refine g_iconst X714 hx (hb hby at_222) (pc' := 223) rfl (z := (2 : Int32)) rfl ?_
  refine g_baload X714 hx hZ e714 f718 (i := 2) (v := (.int l2)) (hb hby at_223) (pc' := 224) rfl (by decide) rfl rfl ?_
  obtain ⟨T727, h727, L727, X727, e727, N727, W727, V727, st727⟩ := h_bastore X714 hx hZ e714 N714 f726 ge690 (j := (2 : Int32)) (i := 2) (x := l2) (hb hby at_224) (by decide) rfl rfl #[.val (.int p0), .val (.int p1), .val (.int p2), .val (.long p3), .second, .val (.int p4), .val (.int p5), .val (.int (chr p0)), .val (.int (chr p1)), .val (.int (chr p2)), .val (.int (byt (chr p0))), .val (.int (byt (chr p1))), .val (.int (byt (chr p2))), .val (.ref b546), .val (.ref b568), .val (.ref b599), .val (.ref b639), .unset, .unset, .unset, .unset, .unset, .unset, .unset, .unset, .unset, .unset, .unset] [(.ref b685)]
  have f728 := Exa.wr W727 f715
  have f729 := f716.other W727 ne686
  have f730 := Exa.wr W727 f717
  have f731 := f718.other W727 ne687
  have f732 := Exa.wr W727 f719
  have f733 := f720.other W727 ne688
  have f734 := Exa.wr W727 f721
  have f735 := f722.other W727 ne689
  have f736 := Exa.wr W727 f723
  have Z737 : n0 ≤ h727.size := Nat.le_trans Z724 (Keep.of_wr W727).1
  have f738 : Va Z h727 b685 .byte [(.int l0), (.int l1), (.int (byt l2))] := V727
  have f739 : Va Z h727 b685 .byte [(.int l0), (.int l1), (.int l2)] := by rw [show (byt l2) = l2 from bl2] at f738; exact f738
  refine Go.movp st727 (mkF m 225 #[.val (.int p0), .val (.int p1), .val (.int p2), .val (.long p3), .second, .val (.int p4), .val (.int p5), .val (.int (chr p0)), .val (.int (chr p1)), .val (.int (chr p2)), .val (.int (byt (chr p0))), .val (.int (byt (chr p1))), .val (.int (byt (chr p2))), .val (.ref b546), .val (.ref b568), .val (.ref b599), .val (.ref b639), .unset, .unset, .unset, .unset, .unset, .unset, .unset, .unset, .unset, .unset, .unset] [(.ref b685)]) rfl ?_
  refine g_astore X727 hx (hb hby at_225) (pc' := 227) rfl rfl (Ls' := #[.val (.int p0), .val (.int p1), .val (.int p2), .val (.long p3), .second, .val (.int p4), .val (.int p5), .val (.int (chr p0)), .val (.int (chr p1)), .val (.int (chr p2)), .val (.int (byt (chr p0))), .val (.int (byt (chr p1))), .val (.int (byt (chr p2))), .val (.ref b546), .val (.ref b568), .val (.ref b599), .val (.ref b639), .val (.ref b685), .unset, .unset, .unset, .unset, .unset, .unset, .unset, .unset, .unset, .unset]) rfl ?_
  refine g_iconst X727 hx (hb hby at_227) (pc' := 228) rfl (z := (3 : Int32)) rfl ?_
  obtain ⟨T740, h740, b740, X740, e740, g740, E740, V740, A740, st740⟩ := h_newarray X727 hx hZ e727 (n := (3 : Int32)) (ty := .byte) rfl (hw _ (List.mem_of_getElem? (i := 0) rfl)) (hb hby at_228) (k := 3) (cap := 3) (by decide) rfl (by decide) (by decide) (by decide) (by decide) (ad := "[B") (by decide) #[.val (.int p0), .val (.int p1), .val (.int p2), .val (.long p3), .second, .val (.int p4), .val (.int p5), .val (.int (chr p0)), .val (.int (chr p1)), .val (.int (chr p2)), .val (.int (byt (chr p0))), .val (.int (byt (chr p1))), .val (.int (byt (chr p2))), .val (.ref b546), .val (.ref b568), .val (.ref b599), .val (.ref b639), .val (.ref b685), .unset, .unset, .unset, .unset, .unset, .unset, .unset, .unset, .unset, .unset] []
  have ne741 : b546 ≠ b740 := Nat.ne_of_lt (g740 ▸ f728.lt)
  have ne742 : b568 ≠ b740 := Nat.ne_of_lt (g740 ▸ f730.lt)
  have ne743 : b599 ≠ b740 := Nat.ne_of_lt (g740 ▸ f732.lt)
  have ne744 : b639 ≠ b740 := Nat.ne_of_lt (g740 ▸ f734.lt)
  have ne745 : b685 ≠ b740 := Nat.ne_of_lt (g740 ▸ f736.lt)
  have ge746 : n0 ≤ b740 := g740 ▸ Z737
  have f747 := Exa.ext E740 f728
  have f748 := f729.ext E740
  have f749 := Exa.ext E740 f730
  have f750 := f731.ext E740
  have f751 := Exa.ext E740 f732
  have f752 := f733.ext E740
  have f753 := Exa.ext E740 f734
  have f754 := f735.ext E740
  have f755 := Exa.ext E740 f736
  have f756 := f739.ext E740
  have Z757 : n0 ≤ h740.size := Nat.le_trans Z737 E740.1
  have f758 : Va Z h740 b740 .byte [(.int (0 : Int32)), (.int (0 : Int32)), (.int (0 : Int32))] := V740
  refine Go.movp st740 (mkF m 230 #[.val (.int p0), .val (.int p1), .val (.int p2), .val (.long p3), .second, .val (.int p4), .val (.int p5), .val (.int (chr p0)), .val (.int (chr p1)), .val (.int (chr p2)), .val (.int (byt (chr p0))), .val (.int (byt (chr p1))), .val (.int (byt (chr p2))), .val (.ref b546), .val (.ref b568), .val (.ref b599), .val (.ref b639), .val (.ref b685), .unset, .unset, .unset, .unset, .unset, .unset, .unset, .unset, .unset, .unset] [(.ref b740)]) rfl ?_
  refine g_dup X740 hx (hb hby at_230) (pc' := 231) rfl rfl ?_
  refine g_iconst X740 hx (hb hby at_231) (pc' := 232) rfl (z := (0 : Int32)) rfl ?_
  refine g_aload X740 hx (hb hby at_232) (pc' := 234) rfl rfl rfl ?_
  refine g_iconst X740 hx (hb hby at_234) (pc' := 235) rfl (z := (0 : Int32)) rfl ?_
  refine g_baload X740 hx hZ e740 f752 (i := 0) (v := (.int m0)) (hb hby at_235) (pc' := 236) rfl (by decide) rfl rfl ?_
  obtain ⟨T759, h759, L759, X759, e759, N759, W759, V759, st759⟩ := h_bastore X740 hx hZ e740 N727 f758 ge746 (j := (0 : Int32)) (i := 0) (x := m0) (hb hby at_236) (by decide) rfl rfl #[.val (.int p0), .val (.int p1), .val (.int p2), .val (.long p3), .second, .val (.int p4), .val (.int p5), .val (.int (chr p0)), .val (.int (chr p1)), .val (.int (chr p2)), .val (.int (byt (chr p0))), .val (.int (byt (chr p1))), .val (.int (byt (chr p2))), .val (.ref b546), .val (.ref b568), .val (.ref b599), .val (.ref b639), .val (.ref b685), .unset, .unset, .unset, .unset, .unset, .unset, .unset, .unset, .unset, .unset] [(.ref b740)]
  have f760 := Exa.wr W759 f747
  have f761 := f748.other W759 ne741
  have f762 := Exa.wr W759 f749
  have f763 := f750.other W759 ne742
  have f764 := Exa.wr W759 f751
  have f765 := f752.other W759 ne743
  have f766 := Exa.wr W759 f753
  have f767 := f754.other W759 ne744
  have f768 := Exa.wr W759 f755
  have f769 := f756.other W759 ne745
  have f770 := Exa.wr W759 A740
  have Z771 : n0 ≤ h759.size := Nat.le_trans Z757 (Keep.of_wr W759).1
  have f772 : Va Z h759 b740 .byte [(.int (byt m0)), (.int (0 : Int32)), (.int (0 : Int32))] := V759
  have f773 : Va Z h759 b740 .byte [(.int m0), (.int (0 : Int32)), (.int (0 : Int32))] := by rw [show (byt m0) = m0 from bm0] at f772; exact f772
  refine Go.movp st759 (mkF m 237 #[.val (.int p0), .val (.int p1), .val (.int p2), .val (.long p3), .second, .val (.int p4), .val (.int p5), .val (.int (chr p0)), .val (.int (chr p1)), .val (.int (chr p2)), .val (.int (byt (chr p0))), .val (.int (byt (chr p1))), .val (.int (byt (chr p2))), .val (.ref b546), .val (.ref b568), .val (.ref b599), .val (.ref b639), .val (.ref b685), .unset, .unset, .unset, .unset, .unset, .unset, .unset, .unset, .unset, .unset] [(.ref b740)]) rfl ?_
  refine g_dup X759 hx (hb hby at_237) (pc' := 238) rfl rfl ?_
  refine g_iconst X759 hx (hb hby at_238) (pc' := 239) rfl (z := (1 : Int32)) rfl ?_
  refine g_aload X759 hx (hb hby at_239) (pc' := 241) rfl rfl rfl ?_
  refine g_iconst X759 hx (hb hby at_241) (pc' := 242) rfl (z := (1 : Int32)) rfl ?_
  refine g_baload X759 hx hZ e759 f765 (i := 1) (v := (.int m1)) (hb hby at_242) (pc' := 243) rfl (by decide) rfl rfl ?_
  obtain ⟨T774, h774, L774, X774, e774, N774, W774, V774, st774⟩ := h_bastore X759 hx hZ e759 N759 f773 ge746 (j := (1 : Int32)) (i := 1) (x := m1) (hb hby at_243) (by decide) rfl rfl #[.val (.int p0), .val (.int p1), .val (.int p2), .val (.long p3), .second, .val (.int p4), .val (.int p5), .val (.int (chr p0)), .val (.int (chr p1)), .val (.int (chr p2)), .val (.int (byt (chr p0))), .val (.int (byt (chr p1))), .val (.int (byt (chr p2))), .val (.ref b546), .val (.ref b568), .val (.ref b599), .val (.ref b639), .val (.ref b685), .unset, .unset, .unset, .unset, .unset, .unset, .unset, .unset, .unset, .unset] [(.ref b740)]
  have f775 := Exa.wr W774 f760
  have f776 := f761.other W774 ne741
  have f777 := Exa.wr W774 f762
  have f778 := f763.other W774 ne742
  have f779 := Exa.wr W774 f764
  have f780 := f765.other W774 ne743
  have f781 := Exa.wr W774 f766
  have f782 := f767.other W774 ne744
  have f783 := Exa.wr W774 f768
  have f784 := f769.other W774 ne745
  have f785 := Exa.wr W774 f770
  have Z786 : n0 ≤ h774.size := Nat.le_trans Z771 (Keep.of_wr W774).1
  have f787 : Va Z h774 b740 .byte [(.int m0), (.int (byt m1)), (.int (0 : Int32))] := V774
  have f788 : Va Z h774 b740 .byte [(.int m0), (.int m1), (.int (0 : Int32))] := by rw [show (byt m1) = m1 from bm1] at f787; exact f787
  refine Go.movp st774 (mkF m 244 #[.val (.int p0), .val (.int p1), .val (.int p2), .val (.long p3), .second, .val (.int p4), .val (.int p5), .val (.int (chr p0)), .val (.int (chr p1)), .val (.int (chr p2)), .val (.int (byt (chr p0))), .val (.int (byt (chr p1))), .val (.int (byt (chr p2))), .val (.ref b546), .val (.ref b568), .val (.ref b599), .val (.ref b639), .val (.ref b685), .unset, .unset, .unset, .unset, .unset, .unset, .unset, .unset, .unset, .unset] [(.ref b740)]) rfl ?_
  refine g_dup X774 hx (hb hby at_244) (pc' := 245) rfl rfl ?_
  refine g_iconst X774 hx (hb hby at_245) (pc' := 246) rfl (z := (2 : Int32)) rfl ?_
  refine g_aload X774 hx (hb hby at_246) (pc' := 248) rfl rfl rfl ?_
  refine g_iconst X774 hx (hb hby at_248) (pc' := 249) rfl (z := (2 : Int32)) rfl ?_
  refine g_baload X774 hx hZ e774 f780 (i := 2) (v := (.int m2)) (hb hby at_249) (pc' := 250) rfl (by decide) rfl rfl ?_
  obtain ⟨T789, h789, L789, X789, e789, N789, W789, V789, st789⟩ := h_bastore X774 hx hZ e774 N774 f788 ge746 (j := (2 : Int32)) (i := 2) (x := m2) (hb hby at_250) (by decide) rfl rfl #[.val (.int p0), .val (.int p1), .val (.int p2), .val (.long p3), .second, .val (.int p4), .val (.int p5), .val (.int (chr p0)), .val (.int (chr p1)), .val (.int (chr p2)), .val (.int (byt (chr p0))), .val (.int (byt (chr p1))), .val (.int (byt (chr p2))), .val (.ref b546), .val (.ref b568), .val (.ref b599), .val (.ref b639), .val (.ref b685), .unset, .unset, .unset, .unset, .unset, .unset, .unset, .unset, .unset, .unset] [(.ref b740)]
  have f790 := Exa.wr W789 f775
  have f791 := f776.other W789 ne741
  have f792 := Exa.wr W789 f777
  have f793 := f778.other W789 ne742
  have f794 := Exa.wr W789 f779
  have f795 := f780.other W789 ne743
  have f796 := Exa.wr W789 f781
  have f797 := f782.other W789 ne744
  have f798 := Exa.wr W789 f783
  have f799 := f784.other W789 ne745
  have f800 := Exa.wr W789 f785
  have Z801 : n0 ≤ h789.size := Nat.le_trans Z786 (Keep.of_wr W789).1
  have f802 : Va Z h789 b740 .byte [(.int m0), (.int m1), (.int (byt m2))] := V789
  have f803 : Va Z h789 b740 .byte [(.int m0), (.int m1), (.int m2)] := by rw [show (byt m2) = m2 from bm2] at f802; exact f802
  refine Go.movp st789 (mkF m 251 #[.val (.int p0), .val (.int p1), .val (.int p2), .val (.long p3), .second, .val (.int p4), .val (.int p5), .val (.int (chr p0)), .val (.int (chr p1)), .val (.int (chr p2)), .val (.int (byt (chr p0))), .val (.int (byt (chr p1))), .val (.int (byt (chr p2))), .val (.ref b546), .val (.ref b568), .val (.ref b599), .val (.ref b639), .val (.ref b685), .unset, .unset, .unset, .unset, .unset, .unset, .unset, .unset, .unset, .unset] [(.ref b740)]) rfl ?_
  refine g_astore X789 hx (hb hby at_251) (pc' := 253) rfl rfl (Ls' := #[.val (.int p0), .val (.int p1), .val (.int p2), .val (.long p3), .second, .val (.int p4), .val (.int p5), .val (.int (chr p0)), .val (.int (chr p1)), .val (.int (chr p2)), .val (.int (byt (chr p0))), .val (.int (byt (chr p1))), .val (.int (byt (chr p2))), .val (.ref b546), .val (.ref b568), .val (.ref b599), .val (.ref b639), .val (.ref b685), .val (.ref b740), .unset, .unset, .unset, .unset, .unset, .unset, .unset, .unset, .unset]) rfl ?_
  refine g_iload X789 hx (hb hby at_253) (pc' := 255) rfl rfl ?_
  refine g_bipush X789 hx (hb hby at_255) (pc' := 257) rfl (z := (9 : Int32)) rfl ?_
  refine g_iushr X789 hx (hb hby at_257) (pc' := 258) rfl ?_
  refine g_iconst X789 hx (hb hby at_258) (pc' := 259) rfl (z := (3 : Int32)) rfl ?_
  refine g_iand X789 hx (hb hby at_259) (pc' := 260) rfl ?_
  obtain ⟨nn, enn⟩ : ∃ z : Int32, z = ((ushr p5 (9 : Int32)) &&& (3 : Int32)) := ⟨_, rfl⟩
  refine Go.cast (show (mkF m 260 #[.val (.int p0), .val (.int p1), .val (.int p2), .val (.long p3), .second, .val (.int p4), .val (.int p5), .val (.int (chr p0)), .val (.int (chr p1)), .val (.int (chr p2)), .val (.int (byt (chr p0))), .val (.int (byt (chr p1))), .val (.int (byt (chr p2))), .val (.ref b546), .val (.ref b568), .val (.ref b599), .val (.ref b639), .val (.ref b685), .val (.ref b740), .unset, .unset, .unset, .unset, .unset, .unset, .unset, .unset, .unset] [(.int ((ushr p5 (9 : Int32)) &&& (3 : Int32)))]) = (mkF m 260 #[.val (.int p0), .val (.int p1), .val (.int p2), .val (.long p3), .second, .val (.int p4), .val (.int p5), .val (.int (chr p0)), .val (.int (chr p1)), .val (.int (chr p2)), .val (.int (byt (chr p0))), .val (.int (byt (chr p1))), .val (.int (byt (chr p2))), .val (.ref b546), .val (.ref b568), .val (.ref b599), .val (.ref b639), .val (.ref b685), .val (.ref b740), .unset, .unset, .unset, .unset, .unset, .unset, .unset, .unset, .unset] [(.int nn)]) from by rw [enn]) ?_
  refine g_istore X789 hx (hb hby at_260) (pc' := 262) rfl (Ls' := #[.val (.int p0), .val (.int p1), .val (.int p2), .val (.long p3), .second, .val (.int p4), .val (.int p5), .val (.int (chr p0)), .val (.int (chr p1)), .val (.int (chr p2)), .val (.int (byt (chr p0))), .val (.int (byt (chr p1))), .val (.int (byt (chr p2))), .val (.ref b546), .val (.ref b568), .val (.ref b599), .val (.ref b639), .val (.ref b685), .val (.ref b740), .val (.int nn), .unset, .unset, .unset, .unset, .unset, .unset, .unset, .unset]) rfl ?_
  have hnn : nn = 0 ∨ nn = 1 ∨ nn = 2 ∨ nn = 3 := by rw [enn]; exact own_and3 _
  refine g_iload X789 hx (hb hby at_262) (pc' := 264) rfl rfl ?_
  refine g_bipush X789 hx (hb hby at_264) (pc' := 266) rfl (z := (11 : Int32)) rfl ?_
  refine g_iushr X789 hx (hb hby at_266) (pc' := 267) rfl ?_
  refine g_iconst X789 hx (hb hby at_267) (pc' := 268) rfl (z := (3 : Int32)) rfl ?_
  refine g_iand X789 hx (hb hby at_268) (pc' := 269) rfl ?_
  refine g_istore X789 hx (hb hby at_269) (pc' := 271) rfl (Ls' := #[.val (.int p0), .val (.int p1), .val (.int p2), .val (.long p3), .second, .val (.int p4), .val (.int p5), .val (.int (chr p0)), .val (.int (chr p1)), .val (.int (chr p2)), .val (.int (byt (chr p0))), .val (.int (byt (chr p1))), .val (.int (byt (chr p2))), .val (.ref b546), .val (.ref b568), .val (.ref b599), .val (.ref b639), .val (.ref b685), .val (.ref b740), .val (.int nn), .val (.int ((ushr p5 (11 : Int32)) &&& (3 : Int32))), .unset, .unset, .unset, .unset, .unset, .unset, .unset]) rfl ?_
  refine g_iload X789 hx (hb hby at_271) (pc' := 273) rfl rfl ?_
  refine g_if_ne X789 hx (hb hby at_273) (pc1 := 276) rfl (by decide) (pc2 := 295) (by decide) (fun hc273 => ?_) (fun hc273 => ?_)
  · skip
    refine g_iload X789 hx (hb hby at_295) (pc' := 297) rfl rfl ?_
    refine g_iconst X789 hx (hb hby at_297) (pc' := 298) rfl (z := (1 : Int32)) rfl ?_
    refine g_icmp_ne X789 hx (hb hby at_298) (pc1 := 301) rfl (by decide) (pc2 := 320) (by decide) (fun hc298 => ?_) (fun hc298 => ?_)
    · skip
      refine g_iload X789 hx (hb hby at_320) (pc' := 322) rfl rfl ?_
      refine g_iconst X789 hx (hb hby at_322) (pc' := 323) rfl (z := (2 : Int32)) rfl ?_
      refine g_icmp_ne X789 hx (hb hby at_323) (pc1 := 326) rfl (by decide) (pc2 := 345) (by decide) (fun hc323 => ?_) (fun hc323 => ?_)
      · skip
        refine g_aload X789 hx (hb hby at_345) (pc' := 347) rfl rfl rfl ?_
        refine g_astore X789 hx (hb hby at_347) (pc' := 349) rfl rfl (Ls' := #[.val (.int p0), .val (.int p1), .val (.int p2), .val (.long p3), .second, .val (.int p4), .val (.int p5), .val (.int (chr p0)), .val (.int (chr p1)), .val (.int (chr p2)), .val (.int (byt (chr p0))), .val (.int (byt (chr p1))), .val (.int (byt (chr p2))), .val (.ref b546), .val (.ref b568), .val (.ref b599), .val (.ref b639), .val (.ref b685), .val (.ref b740), .val (.int nn), .val (.int ((ushr p5 (11 : Int32)) &&& (3 : Int32))), .val (.ref b546), .unset, .unset, .unset, .unset, .unset, .unset]) rfl ?_
        refine g_aload X789 hx (hb hby at_349) (pc' := 351) rfl rfl rfl ?_
        refine g_astore X789 hx (hb hby at_351) (pc' := 353) rfl rfl (Ls' := #[.val (.int p0), .val (.int p1), .val (.int p2), .val (.long p3), .second, .val (.int p4), .val (.int p5), .val (.int (chr p0)), .val (.int (chr p1)), .val (.int (chr p2)), .val (.int (byt (chr p0))), .val (.int (byt (chr p1))), .val (.int (byt (chr p2))), .val (.ref b546), .val (.ref b568), .val (.ref b599), .val (.ref b639), .val (.ref b685), .val (.ref b740), .val (.int nn), .val (.int ((ushr p5 (11 : Int32)) &&& (3 : Int32))), .val (.ref b546), .val (.ref b546), .unset, .unset, .unset, .unset, .unset]) rfl ?_
        refine g_aload X789 hx (hb hby at_353) (pc' := 355) rfl rfl rfl ?_
        refine g_astore X789 hx (hb hby at_355) (pc' := 357) rfl rfl (Ls' := #[.val (.int p0), .val (.int p1), .val (.int p2), .val (.long p3), .second, .val (.int p4), .val (.int p5), .val (.int (chr p0)), .val (.int (chr p1)), .val (.int (chr p2)), .val (.int (byt (chr p0))), .val (.int (byt (chr p1))), .val (.int (byt (chr p2))), .val (.ref b546), .val (.ref b568), .val (.ref b599), .val (.ref b639), .val (.ref b685), .val (.ref b740), .val (.int nn), .val (.int ((ushr p5 (11 : Int32)) &&& (3 : Int32))), .val (.ref b546), .val (.ref b546), .val (.ref b639), .unset, .unset, .unset, .unset]) rfl ?_
        refine g_aload X789 hx (hb hby at_357) (pc' := 359) rfl rfl rfl ?_
        refine g_astore X789 hx (hb hby at_359) (pc' := 361) rfl rfl (Ls' := #[.val (.int p0), .val (.int p1), .val (.int p2), .val (.long p3), .second, .val (.int p4), .val (.int p5), .val (.int (chr p0)), .val (.int (chr p1)), .val (.int (chr p2)), .val (.int (byt (chr p0))), .val (.int (byt (chr p1))), .val (.int (byt (chr p2))), .val (.ref b546), .val (.ref b568), .val (.ref b599), .val (.ref b639), .val (.ref b685), .val (.ref b740), .val (.int nn), .val (.int ((ushr p5 (11 : Int32)) &&& (3 : Int32))), .val (.ref b546), .val (.ref b546), .val (.ref b639), .val (.ref b639), .unset, .unset, .unset]) rfl ?_
        obtain ⟨T804, h804, X804, e804, E804, A804, D804, -, st804⟩ := newO X789 hx hZ hown (hw _ (List.mem_of_getElem? (i := 5) rfl)) (hw _ (List.mem_of_getElem? (i := 6) rfl)) (hw _ (List.mem_of_getElem? (i := 7) rfl)) e789 (g := (mkF m 361 #[.val (.int p0), .val (.int p1), .val (.int p2), .val (.long p3), .second, .val (.int p4), .val (.int p5), .val (.int (chr p0)), .val (.int (chr p1)), .val (.int (chr p2)), .val (.int (byt (chr p0))), .val (.int (byt (chr p1))), .val (.int (byt (chr p2))), .val (.ref b546), .val (.ref b568), .val (.ref b599), .val (.ref b639), .val (.ref b685), .val (.ref b740), .val (.int nn), .val (.int ((ushr p5 (11 : Int32)) &&& (3 : Int32))), .val (.ref b546), .val (.ref b546), .val (.ref b639), .val (.ref b639), .unset, .unset, .unset] [])) rfl (hb hby at_361) (by decide) (by decide)
        obtain ⟨b804, g804⟩ : ∃ z, z = h789.size := ⟨_, rfl⟩
        rw [← g804] at A804 D804 st804
        have ne805 : b546 ≠ b804 := Nat.ne_of_lt (g804 ▸ f790.lt)
        have ne806 : b568 ≠ b804 := Nat.ne_of_lt (g804 ▸ f792.lt)
        have ne807 : b599 ≠ b804 := Nat.ne_of_lt (g804 ▸ f794.lt)
        have ne808 : b639 ≠ b804 := Nat.ne_of_lt (g804 ▸ f796.lt)
        have ne809 : b685 ≠ b804 := Nat.ne_of_lt (g804 ▸ f798.lt)
        have ne810 : b740 ≠ b804 := Nat.ne_of_lt (g804 ▸ f800.lt)
        have ge811 : n0 ≤ b804 := g804 ▸ Z801
        have f812 := Exa.ext E804 f790
        have f813 := f791.ext E804
        have f814 := Exa.ext E804 f792
        have f815 := f793.ext E804
        have f816 := Exa.ext E804 f794
        have f817 := f795.ext E804
        have f818 := Exa.ext E804 f796
        have f819 := f797.ext E804
        have f820 := Exa.ext E804 f798
        have f821 := f799.ext E804
        have f822 := Exa.ext E804 f800
        have f823 := f803.ext E804
        have Z824 : n0 ≤ h804.size := Nat.le_trans Z801 E804.1
        have f825 : Fld Z h804 b804 "com/example/needlework/needlework/PackedBlock" "first" "I" (.int (0 : Int32)) := D804 (Or.inr (hw _ (List.mem_of_getElem? (i := 20) rfl))) (ty := .int) (by decide)
        have f826 : Fld Z h804 b804 "com/example/needlework/needlework/PackedBlock" "last" "I" (.int (0 : Int32)) := D804 (Or.inr (hw _ (List.mem_of_getElem? (i := 22) rfl))) (ty := .int) (by decide)
        have f827 : Fld Z h804 b804 "com/example/needlework/needlework/PackedBlock" "middle" "I" (.int (0 : Int32)) := D804 (Or.inr (hw _ (List.mem_of_getElem? (i := 24) rfl))) (ty := .int) (by decide)
        have f828 : Fld Z h804 b804 "com/example/needlework/needlework/PackedBlock" "lastOffset" "I" (.int (0 : Int32)) := D804 (Or.inr (hw _ (List.mem_of_getElem? (i := 26) rfl))) (ty := .int) (by decide)
        have f829 : Fld Z h804 b804 "com/example/needlework/needlework/PackedBlock" "middleOffset" "I" (.int (0 : Int32)) := D804 (Or.inr (hw _ (List.mem_of_getElem? (i := 28) rfl))) (ty := .int) (by decide)
        have f830 : Fld Z h804 b804 "com/example/needlework/needlework/PackedBlock" "units" "Ljava/lang/Object;" .null := D804 (Or.inl (hw _ (List.mem_of_getElem? (i := 31) rfl))) (ty := (.object "java/lang/Object")) (by decide)
        have f831 : Fld Z h804 b804 "com/example/needlework/needlework/PackedBlock" "lasts" "Ljava/lang/Object;" .null := D804 (Or.inl (hw _ (List.mem_of_getElem? (i := 34) rfl))) (ty := (.object "java/lang/Object")) (by decide)
        have f832 : Fld Z h804 b804 "com/example/needlework/needlework/PackedBlock" "middles" "Ljava/lang/Object;" .null := D804 (Or.inl (hw _ (List.mem_of_getElem? (i := 37) rfl))) (ty := (.object "java/lang/Object")) (by decide)
        refine Go.movp st804 (mkF m 364 #[.val (.int p0), .val (.int p1), .val (.int p2), .val (.long p3), .second, .val (.int p4), .val (.int p5), .val (.int (chr p0)), .val (.int (chr p1)), .val (.int (chr p2)), .val (.int (byt (chr p0))), .val (.int (byt (chr p1))), .val (.int (byt (chr p2))), .val (.ref b546), .val (.ref b568), .val (.ref b599), .val (.ref b639), .val (.ref b685), .val (.ref b740), .val (.int nn), .val (.int ((ushr p5 (11 : Int32)) &&& (3 : Int32))), .val (.ref b546), .val (.ref b546), .val (.ref b639), .val (.ref b639), .unset, .unset, .unset] [(.ref b804)]) rfl ?_
        refine g_dup X804 hx (hb hby at_364) (pc' := 365) rfl rfl ?_
        refine g_iload X804 hx (hb hby at_365) (pc' := 367) rfl rfl ?_
        refine g_iload X804 hx (hb hby at_367) (pc' := 369) rfl rfl ?_
        refine g_iload X804 hx (hb hby at_369) (pc' := 371) rfl rfl ?_
        refine g_iconst X804 hx (hb hby at_371) (pc' := 372) rfl (z := (0 : Int32)) rfl ?_
        refine g_iconst X804 hx (hb hby at_372) (pc' := 373) rfl (z := (0 : Int32)) rfl ?_
        obtain ⟨v833, T833, h833, L833, X833, e833, N833, q833, st833⟩ := h_special (a := b804) X804 hx (W := 1) (Ls := #[.val (.int p0), .val (.int p1), .val (.int p2), .val (.long p3), .second, .val (.int p4), .val (.int p5), .val (.int (chr p0)), .val (.int (chr p1)), .val (.int (chr p2)), .val (.int (byt (chr p0))), .val (.int (byt (chr p1))), .val (.int (byt (chr p2))), .val (.ref b546), .val (.ref b568), .val (.ref b599), .val (.ref b639), .val (.ref b685), .val (.ref b740), .val (.int nn), .val (.int ((ushr p5 (11 : Int32)) &&& (3 : Int32))), .val (.ref b546), .val (.ref b546), .val (.ref b639), .val (.ref b639), .unset, .unset, .unset]) (argsL := [(.int (chr p0)), (.int (chr p1)), (.int (chr p2)), (.int (0 : Int32)), (.int (0 : Int32))]) (rest := [(.ref b804)]) hZ e804 N789 hml hown rfl (rm2 l Z a0 hw b804 (chr p0) (chr p1) (chr p2) (0 : Int32) (0 : Int32) h804 n0 Z824 f825 f826 f827 f828 f829 f830 f831 f832 A804 ge811) (hw _ (List.mem_of_getElem? (i := 8) rfl)) (hw _ (List.mem_of_getElem? (i := 9) rfl)) (hw _ (List.mem_of_getElem? (i := 7) rfl)) (hw _ (List.mem_of_getElem? (i := 10) rfl)) (by decide) pd__CCCII_V rfl rfl (hb hby at_373) rfl (by decide) (by decide) (by decide) (by decide)
        obtain ⟨rfl, K833, A833, C0_833, C1_833, C2_833, C3_833, C4_833, C5_833, C6_833, C7_833⟩ := q833
        have f834 := f812.keep K833
        have f835 := f813.keep K833 (ninS ne805 nin0)
        have f836 := f814.keep K833
        have f837 := f815.keep K833 (ninS ne806 nin0)
        have f838 := f816.keep K833
        have f839 := f817.keep K833 (ninS ne807 nin0)
        have f840 := f818.keep K833
        have f841 := f819.keep K833 (ninS ne808 nin0)
        have f842 := f820.keep K833
        have f843 := f821.keep K833 (ninS ne809 nin0)
        have f844 := f822.keep K833
        have f845 := f823.keep K833 (ninS ne810 nin0)
        have f846 := A804.keep K833
        have Z847 : n0 ≤ h833.size := Nat.le_trans Z824 K833.1
        refine Go.movp st833 (mkF m 376 #[.val (.int p0), .val (.int p1), .val (.int p2), .val (.long p3), .second, .val (.int p4), .val (.int p5), .val (.int (chr p0)), .val (.int (chr p1)), .val (.int (chr p2)), .val (.int (byt (chr p0))), .val (.int (byt (chr p1))), .val (.int (byt (chr p2))), .val (.ref b546), .val (.ref b568), .val (.ref b599), .val (.ref b639), .val (.ref b685), .val (.ref b740), .val (.int nn), .val (.int ((ushr p5 (11 : Int32)) &&& (3 : Int32))), .val (.ref b546), .val (.ref b546), .val (.ref b639), .val (.ref b639), .unset, .unset, .unset] [(.ref b804)]) rfl ?_
        refine g_astore X833 hx (hb hby at_376) (pc' := 378) rfl rfl (Ls' := #[.val (.int p0), .val (.int p1), .val (.int p2), .val (.long p3), .second, .val (.int p4), .val (.int p5), .val (.int (chr p0)), .val (.int (chr p1)), .val (.int (chr p2)), .val (.int (byt (chr p0))), .val (.int (byt (chr p1))), .val (.int (byt (chr p2))), .val (.ref b546), .val (.ref b568), .val (.ref b599), .val (.ref b639), .val (.ref b685), .val (.ref b740), .val (.int nn), .val (.int ((ushr p5 (11 : Int32)) &&& (3 : Int32))), .val (.ref b546), .val (.ref b546), .val (.ref b639), .val (.ref b639), .val (.ref b804), .unset, .unset]) rfl ?_
        refine g_aload X833 hx (hb hby at_378) (pc' := 380) rfl rfl rfl ?_
        refine g_aload X833 hx (hb hby at_380) (pc' := 382) rfl rfl rfl ?_
        obtain ⟨T848, h848, X848, e848, W848, st848⟩ := putF X833 hx hZ hown (host := "") (Or.inl (hw _ (List.mem_of_getElem? (i := 29) rfl))) (Via.of (hw _ (List.mem_of_getElem? (i := 30) rfl))) e833 C5_833 A833 (Or.inl (hw _ (List.mem_of_getElem? (i := 31) rfl))) (hw _ (List.mem_of_getElem? (i := 6) rfl)) (ty := (.object "java/lang/Object")) (by decide) rfl rfl (g := (mkF m 382 #[.val (.int p0), .val (.int p1), .val (.int p2), .val (.long p3), .second, .val (.int p4), .val (.int p5), .val (.int (chr p0)), .val (.int (chr p1)), .val (.int (chr p2)), .val (.int (byt (chr p0))), .val (.int (byt (chr p1))), .val (.int (byt (chr p2))), .val (.ref b546), .val (.ref b568), .val (.ref b599), .val (.ref b639), .val (.ref b685), .val (.ref b740), .val (.int nn), .val (.int ((ushr p5 (11 : Int32)) &&& (3 : Int32))), .val (.ref b546), .val (.ref b546), .val (.ref b639), .val (.ref b639), .val (.ref b804), .unset, .unset] [(.ref b546), (.ref b804)])) rfl rfl (hb hby at_382)
        have f849 : Fld Z h848 b804 "com/example/needlework/needlework/PackedBlock" "units" "Ljava/lang/Object;" (.ref b546) := Fld.same W848 C5_833
        have N848 := Fr.snoc X848 N833 ge811
        have f850 := Exa.wr W848 f834
        have f851 := f835.other W848 ne805
        have f852 := Exa.wr W848 f836
        have f853 := f837.other W848 ne806
        have f854 := Exa.wr W848 f838
        have f855 := f839.other W848 ne807
        have f856 := Exa.wr W848 f840
        have f857 := f841.other W848 ne808
        have f858 := Exa.wr W848 f842
        have f859 := f843.other W848 ne809
        have f860 := Exa.wr W848 f844
        have f861 := f845.other W848 ne810
        have f862 := Exa.wr W848 A833
        have f863 := Fld.other W848 C0_833 (Or.inr (slot_ne (Or.inr (hw _ (List.mem_of_getElem? (i := 20) rfl))) (Or.inl (hw _ (List.mem_of_getElem? (i := 31) rfl))) (by decide) (t := .int) (t' := (.object "java/lang/Object")) (by decide) (by decide)))
        have f864 := Fld.other W848 C1_833 (Or.inr (slot_ne (Or.inr (hw _ (List.mem_of_getElem? (i := 22) rfl))) (Or.inl (hw _ (List.mem_of_getElem? (i := 31) rfl))) (by decide) (t := .int) (t' := (.object "java/lang/Object")) (by decide) (by decide)))
        have f865 := Fld.other W848 C2_833 (Or.inr (slot_ne (Or.inr (hw _ (List.mem_of_getElem? (i := 24) rfl))) (Or.inl (hw _ (List.mem_of_getElem? (i := 31) rfl))) (by decide) (t := .int) (t' := (.object "java/lang/Object")) (by decide) (by decide)))
        have f866 := Fld.other W848 C3_833 (Or.inr (slot_ne (Or.inr (hw _ (List.mem_of_getElem? (i := 26) rfl))) (Or.inl (hw _ (List.mem_of_getElem? (i := 31) rfl))) (by decide) (t := .int) (t' := (.object "java/lang/Object")) (by decide) (by decide)))
        have f867 := Fld.other W848 C4_833 (Or.inr (slot_ne (Or.inr (hw _ (List.mem_of_getElem? (i := 28) rfl))) (Or.inl (hw _ (List.mem_of_getElem? (i := 31) rfl))) (by decide) (t := .int) (t' := (.object "java/lang/Object")) (by decide) (by decide)))
        have f868 := Fld.other W848 C6_833 (Or.inr (slot_ne (Or.inl (hw _ (List.mem_of_getElem? (i := 34) rfl))) (Or.inl (hw _ (List.mem_of_getElem? (i := 31) rfl))) (by decide) (t := (.object "java/lang/Object")) (t' := (.object "java/lang/Object")) (by decide) (by decide)))
        have f869 := Fld.other W848 C7_833 (Or.inr (slot_ne (Or.inl (hw _ (List.mem_of_getElem? (i := 37) rfl))) (Or.inl (hw _ (List.mem_of_getElem? (i := 31) rfl))) (by decide) (t := (.object "java/lang/Object")) (t' := (.object "java/lang/Object")) (by decide) (by decide)))
        have Z870 : n0 ≤ h848.size := Nat.le_trans Z847 (Keep.of_wr W848).1
        refine Go.movp st848 (mkF m 385 #[.val (.int p0), .val (.int p1), .val (.int p2), .val (.long p3), .second, .val (.int p4), .val (.int p5), .val (.int (chr p0)), .val (.int (chr p1)), .val (.int (chr p2)), .val (.int (byt (chr p0))), .val (.int (byt (chr p1))), .val (.int (byt (chr p2))), .val (.ref b546), .val (.ref b568), .val (.ref b599), .val (.ref b639), .val (.ref b685), .val (.ref b740), .val (.int nn), .val (.int ((ushr p5 (11 : Int32)) &&& (3 : Int32))), .val (.ref b546), .val (.ref b546), .val (.ref b639), .val (.ref b639), .val (.ref b804), .unset, .unset] []) rfl ?_
        refine g_aload X848 hx (hb hby at_385) (pc' := 387) rfl rfl rfl ?_
        refine g_aload X848 hx (hb hby at_387) (pc' := 389) rfl rfl rfl ?_
        obtain ⟨T871, h871, X871, e871, W871, st871⟩ := putF X848 hx hZ hown (host := "") (Or.inl (hw _ (List.mem_of_getElem? (i := 32) rfl))) (Via.of (hw _ (List.mem_of_getElem? (i := 33) rfl))) e848 f868 f862 (Or.inl (hw _ (List.mem_of_getElem? (i := 34) rfl))) (hw _ (List.mem_of_getElem? (i := 6) rfl)) (ty := (.object "java/lang/Object")) (by decide) rfl rfl (g := (mkF m 389 #[.val (.int p0), .val (.int p1), .val (.int p2), .val (.long p3), .second, .val (.int p4), .val (.int p5), .val (.int (chr p0)), .val (.int (chr p1)), .val (.int (chr p2)), .val (.int (byt (chr p0))), .val (.int (byt (chr p1))), .val (.int (byt (chr p2))), .val (.ref b546), .val (.ref b568), .val (.ref b599), .val (.ref b639), .val (.ref b685), .val (.ref b740), .val (.int nn), .val (.int ((ushr p5 (11 : Int32)) &&& (3 : Int32))), .val (.ref b546), .val (.ref b546), .val (.ref b639), .val (.ref b639), .val (.ref b804), .unset, .unset] [(.ref b546), (.ref b804)])) rfl rfl (hb hby at_389)
        have f872 : Fld Z h871 b804 "com/example/needlework/needlework/PackedBlock" "lasts" "Ljava/lang/Object;" (.ref b546) := Fld.same W871 f868
        have N871 := Fr.snoc X871 N848 ge811
        have f873 := Exa.wr W871 f850
        have f874 := f851.other W871 ne805
        have f875 := Exa.wr W871 f852
        have f876 := f853.other W871 ne806
        have f877 := Exa.wr W871 f854
        have f878 := f855.other W871 ne807
        have f879 := Exa.wr W871 f856
        have f880 := f857.other W871 ne808
        have f881 := Exa.wr W871 f858
        have f882 := f859.other W871 ne809
        have f883 := Exa.wr W871 f860
        have f884 := f861.other W871 ne810
        have f885 := Exa.wr W871 f862
        have f886 := Fld.other W871 f863 (Or.inr (slot_ne (Or.inr (hw _ (List.mem_of_getElem? (i := 20) rfl))) (Or.inl (hw _ (List.mem_of_getElem? (i := 34) rfl))) (by decide) (t := .int) (t' := (.object "java/lang/Object")) (by decide) (by decide)))
        have f887 := Fld.other W871 f864 (Or.inr (slot_ne (Or.inr (hw _ (List.mem_of_getElem? (i := 22) rfl))) (Or.inl (hw _ (List.mem_of_getElem? (i := 34) rfl))) (by decide) (t := .int) (t' := (.object "java/lang/Object")) (by decide) (by decide)))
        have f888 := Fld.other W871 f865 (Or.inr (slot_ne (Or.inr (hw _ (List.mem_of_getElem? (i := 24) rfl))) (Or.inl (hw _ (List.mem_of_getElem? (i := 34) rfl))) (by decide) (t := .int) (t' := (.object "java/lang/Object")) (by decide) (by decide)))
        have f889 := Fld.other W871 f866 (Or.inr (slot_ne (Or.inr (hw _ (List.mem_of_getElem? (i := 26) rfl))) (Or.inl (hw _ (List.mem_of_getElem? (i := 34) rfl))) (by decide) (t := .int) (t' := (.object "java/lang/Object")) (by decide) (by decide)))
        have f890 := Fld.other W871 f867 (Or.inr (slot_ne (Or.inr (hw _ (List.mem_of_getElem? (i := 28) rfl))) (Or.inl (hw _ (List.mem_of_getElem? (i := 34) rfl))) (by decide) (t := .int) (t' := (.object "java/lang/Object")) (by decide) (by decide)))
        have f891 := Fld.other W871 f869 (Or.inr (slot_ne (Or.inl (hw _ (List.mem_of_getElem? (i := 37) rfl))) (Or.inl (hw _ (List.mem_of_getElem? (i := 34) rfl))) (by decide) (t := (.object "java/lang/Object")) (t' := (.object "java/lang/Object")) (by decide) (by decide)))
        have f892 := Fld.other W871 f849 (Or.inr (slot_ne (Or.inl (hw _ (List.mem_of_getElem? (i := 31) rfl))) (Or.inl (hw _ (List.mem_of_getElem? (i := 34) rfl))) (by decide) (t := (.object "java/lang/Object")) (t' := (.object "java/lang/Object")) (by decide) (by decide)))
        have Z893 : n0 ≤ h871.size := Nat.le_trans Z870 (Keep.of_wr W871).1
        refine Go.movp st871 (mkF m 392 #[.val (.int p0), .val (.int p1), .val (.int p2), .val (.long p3), .second, .val (.int p4), .val (.int p5), .val (.int (chr p0)), .val (.int (chr p1)), .val (.int (chr p2)), .val (.int (byt (chr p0))), .val (.int (byt (chr p1))), .val (.int (byt (chr p2))), .val (.ref b546), .val (.ref b568), .val (.ref b599), .val (.ref b639), .val (.ref b685), .val (.ref b740), .val (.int nn), .val (.int ((ushr p5 (11 : Int32)) &&& (3 : Int32))), .val (.ref b546), .val (.ref b546), .val (.ref b639), .val (.ref b639), .val (.ref b804), .unset, .unset] []) rfl ?_
        refine g_aload X871 hx (hb hby at_392) (pc' := 394) rfl rfl rfl ?_
        refine g_aload X871 hx (hb hby at_394) (pc' := 396) rfl rfl rfl ?_
        obtain ⟨T894, h894, X894, e894, W894, st894⟩ := putF X871 hx hZ hown (host := "") (Or.inl (hw _ (List.mem_of_getElem? (i := 35) rfl))) (Via.of (hw _ (List.mem_of_getElem? (i := 36) rfl))) e871 f891 f885 (Or.inl (hw _ (List.mem_of_getElem? (i := 37) rfl))) (hw _ (List.mem_of_getElem? (i := 6) rfl)) (ty := (.object "java/lang/Object")) (by decide) rfl rfl (g := (mkF m 396 #[.val (.int p0), .val (.int p1), .val (.int p2), .val (.long p3), .second, .val (.int p4), .val (.int p5), .val (.int (chr p0)), .val (.int (chr p1)), .val (.int (chr p2)), .val (.int (byt (chr p0))), .val (.int (byt (chr p1))), .val (.int (byt (chr p2))), .val (.ref b546), .val (.ref b568), .val (.ref b599), .val (.ref b639), .val (.ref b685), .val (.ref b740), .val (.int nn), .val (.int ((ushr p5 (11 : Int32)) &&& (3 : Int32))), .val (.ref b546), .val (.ref b546), .val (.ref b639), .val (.ref b639), .val (.ref b804), .unset, .unset] [(.ref b546), (.ref b804)])) rfl rfl (hb hby at_396)
        have f895 : Fld Z h894 b804 "com/example/needlework/needlework/PackedBlock" "middles" "Ljava/lang/Object;" (.ref b546) := Fld.same W894 f891
        have N894 := Fr.snoc X894 N871 ge811
        have f896 := Exa.wr W894 f873
        have f897 := f874.other W894 ne805
        have f898 := Exa.wr W894 f875
        have f899 := f876.other W894 ne806
        have f900 := Exa.wr W894 f877
        have f901 := f878.other W894 ne807
        have f902 := Exa.wr W894 f879
        have f903 := f880.other W894 ne808
        have f904 := Exa.wr W894 f881
        have f905 := f882.other W894 ne809
        have f906 := Exa.wr W894 f883
        have f907 := f884.other W894 ne810
        have f908 := Exa.wr W894 f885
        have f909 := Fld.other W894 f886 (Or.inr (slot_ne (Or.inr (hw _ (List.mem_of_getElem? (i := 20) rfl))) (Or.inl (hw _ (List.mem_of_getElem? (i := 37) rfl))) (by decide) (t := .int) (t' := (.object "java/lang/Object")) (by decide) (by decide)))
        have f910 := Fld.other W894 f887 (Or.inr (slot_ne (Or.inr (hw _ (List.mem_of_getElem? (i := 22) rfl))) (Or.inl (hw _ (List.mem_of_getElem? (i := 37) rfl))) (by decide) (t := .int) (t' := (.object "java/lang/Object")) (by decide) (by decide)))
        have f911 := Fld.other W894 f888 (Or.inr (slot_ne (Or.inr (hw _ (List.mem_of_getElem? (i := 24) rfl))) (Or.inl (hw _ (List.mem_of_getElem? (i := 37) rfl))) (by decide) (t := .int) (t' := (.object "java/lang/Object")) (by decide) (by decide)))
        have f912 := Fld.other W894 f889 (Or.inr (slot_ne (Or.inr (hw _ (List.mem_of_getElem? (i := 26) rfl))) (Or.inl (hw _ (List.mem_of_getElem? (i := 37) rfl))) (by decide) (t := .int) (t' := (.object "java/lang/Object")) (by decide) (by decide)))
        have f913 := Fld.other W894 f890 (Or.inr (slot_ne (Or.inr (hw _ (List.mem_of_getElem? (i := 28) rfl))) (Or.inl (hw _ (List.mem_of_getElem? (i := 37) rfl))) (by decide) (t := .int) (t' := (.object "java/lang/Object")) (by decide) (by decide)))
        have f914 := Fld.other W894 f892 (Or.inr (slot_ne (Or.inl (hw _ (List.mem_of_getElem? (i := 31) rfl))) (Or.inl (hw _ (List.mem_of_getElem? (i := 37) rfl))) (by decide) (t := (.object "java/lang/Object")) (t' := (.object "java/lang/Object")) (by decide) (by decide)))
        have f915 := Fld.other W894 f872 (Or.inr (slot_ne (Or.inl (hw _ (List.mem_of_getElem? (i := 34) rfl))) (Or.inl (hw _ (List.mem_of_getElem? (i := 37) rfl))) (by decide) (t := (.object "java/lang/Object")) (t' := (.object "java/lang/Object")) (by decide) (by decide)))
        have Z916 : n0 ≤ h894.size := Nat.le_trans Z893 (Keep.of_wr W894).1
        refine Go.movp st894 (mkF m 399 #[.val (.int p0), .val (.int p1), .val (.int p2), .val (.long p3), .second, .val (.int p4), .val (.int p5), .val (.int (chr p0)), .val (.int (chr p1)), .val (.int (chr p2)), .val (.int (byt (chr p0))), .val (.int (byt (chr p1))), .val (.int (byt (chr p2))), .val (.ref b546), .val (.ref b568), .val (.ref b599), .val (.ref b639), .val (.ref b685), .val (.ref b740), .val (.int nn), .val (.int ((ushr p5 (11 : Int32)) &&& (3 : Int32))), .val (.ref b546), .val (.ref b546), .val (.ref b639), .val (.ref b639), .val (.ref b804), .unset, .unset] []) rfl ?_
        refine g_aload X894 hx (hb hby at_399) (pc' := 401) rfl rfl rfl ?_
        refine g_iload X894 hx (hb hby at_401) (pc' := 403) rfl rfl ?_
        obtain ⟨w0, hw0⟩ : ∃ z : Int32, z = (if (0 : Int32) < nn then (mkV u0 u0 u0 (byt (chr p0)) (byt (chr p1)) (byt (chr p2))) else u0) := ⟨_, rfl⟩
        obtain ⟨w1, hw1⟩ : ∃ z : Int32, z = (if (1 : Int32) < nn then (mkV u1 u1 u1 (byt (chr p0)) (byt (chr p1)) (byt (chr p2))) else u1) := ⟨_, rfl⟩
        obtain ⟨w2, hw2⟩ : ∃ z : Int32, z = (if (2 : Int32) < nn then (mkV u2 u2 u2 (byt (chr p0)) (byt (chr p1)) (byt (chr p2))) else u2) := ⟨_, rfl⟩
        obtain ⟨v917, T917, h917, L917, X917, e917, N917, q917, st917⟩ := h_virtual (a := b804) (z := (⟨"com/example/needlework/needlework/PackedBlock$Bytes", "mark", "(I)V"⟩ : MethodName)) X894 hx (W := 0) (Ls := #[.val (.int p0), .val (.int p1), .val (.int p2), .val (.long p3), .second, .val (.int p4), .val (.int p5), .val (.int (chr p0)), .val (.int (chr p1)), .val (.int (chr p2)), .val (.int (byt (chr p0))), .val (.int (byt (chr p1))), .val (.int (byt (chr p2))), .val (.ref b546), .val (.ref b568), .val (.ref b599), .val (.ref b639), .val (.ref b685), .val (.ref b740), .val (.int nn), .val (.int ((ushr p5 (11 : Int32)) &&& (3 : Int32))), .val (.ref b546), .val (.ref b546), .val (.ref b639), .val (.ref b639), .val (.ref b804), .unset, .unset]) (argsL := [(.int nn)]) (rest := []) hZ e894 N894 hml hown (rm5_3 l Z a0 hw b804 b546 u0 u1 u2 (byt (chr p0)) (byt (chr p1)) (byt (chr p2)) nn w0 w1 w2 h894 n0 Z916 f914 f915 f895 f909 f910 f911 f897 f896 ge547  (Ne.symm ne805) hnn hw0 hw1 hw2) f908 (hw _ (List.mem_of_getElem? (i := 38) rfl)) (hw _ (List.mem_of_getElem? (i := 39) rfl)) (notFace_of_selects (args := #[]) (mvT hZ (hw _ (List.mem_of_getElem? (i := 41) rfl)))) (hw _ (List.mem_of_getElem? (i := 41) rfl)) (hw _ (List.mem_of_getElem? (i := 40) rfl)) (hw _ (List.mem_of_getElem? (i := 7) rfl)) (hw _ (List.mem_of_getElem? (i := 42) rfl)) (by decide) pd__I_V rfl rfl (hb hby at_403) rfl (by decide) (by decide) (by decide) (by decide)
        obtain ⟨rfl, K917, V917⟩ := q917
        have f918 := f896.keep K917
        have f919 := f898.keep K917
        have f920 := f899.keep K917 (ninS (Ne.symm ne569) nin0)
        have f921 := f900.keep K917
        have f922 := f901.keep K917 (ninS (Ne.symm ne600) nin0)
        have f923 := f902.keep K917
        have f924 := f903.keep K917 (ninS (Ne.symm ne640) nin0)
        have f925 := f904.keep K917
        have f926 := f905.keep K917 (ninS (Ne.symm ne686) nin0)
        have f927 := f906.keep K917
        have f928 := f907.keep K917 (ninS (Ne.symm ne741) nin0)
        have f929 := f908.keep K917
        have f930 := f909.keep K917 (ninS (Ne.symm ne805) nin0)
        have f931 := f910.keep K917 (ninS (Ne.symm ne805) nin0)
        have f932 := f911.keep K917 (ninS (Ne.symm ne805) nin0)
        have f933 := f912.keep K917 (ninS (Ne.symm ne805) nin0)
        have f934 := f913.keep K917 (ninS (Ne.symm ne805) nin0)
        have f935 := f914.keep K917 (ninS (Ne.symm ne805) nin0)
        have f936 := f915.keep K917 (ninS (Ne.symm ne805) nin0)
        have f937 := f895.keep K917 (ninS (Ne.symm ne805) nin0)
        have Z938 : n0 ≤ h917.size := Nat.le_trans Z916 K917.1
        refine Go.movp st917 (mkF m 406 #[.val (.int p0), .val (.int p1), .val (.int p2), .val (.long p3), .second, .val (.int p4), .val (.int p5), .val (.int (chr p0)), .val (.int (chr p1)), .val (.int (chr p2)), .val (.int (byt (chr p0))), .val (.int (byt (chr p1))), .val (.int (byt (chr p2))), .val (.ref b546), .val (.ref b568), .val (.ref b599), .val (.ref b639), .val (.ref b685), .val (.ref b740), .val (.int nn), .val (.int ((ushr p5 (11 : Int32)) &&& (3 : Int32))), .val (.ref b546), .val (.ref b546), .val (.ref b639), .val (.ref b639), .val (.ref b804), .unset, .unset] []) rfl ?_
        refine g_aload X917 hx (hb hby at_406) (pc' := 408) rfl rfl rfl ?_
        obtain ⟨T939, X939, e939, st939⟩ := getF X917 hx hZ hown (host := "") (Or.inl (hw _ (List.mem_of_getElem? (i := 29) rfl))) (Via.of (hw _ (List.mem_of_getElem? (i := 30) rfl))) e917 f935 (g := (mkF m 408 #[.val (.int p0), .val (.int p1), .val (.int p2), .val (.long p3), .second, .val (.int p4), .val (.int p5), .val (.int (chr p0)), .val (.int (chr p1)), .val (.int (chr p2)), .val (.int (byt (chr p0))), .val (.int (byt (chr p1))), .val (.int (byt (chr p2))), .val (.ref b546), .val (.ref b568), .val (.ref b599), .val (.ref b639), .val (.ref b685), .val (.ref b740), .val (.int nn), .val (.int ((ushr p5 (11 : Int32)) &&& (3 : Int32))), .val (.ref b546), .val (.ref b546), .val (.ref b639), .val (.ref b639), .val (.ref b804), .unset, .unset] [(.ref b804)])) rfl rfl (hb hby at_408)
        refine Go.movp st939 (mkF m 411 #[.val (.int p0), .val (.int p1), .val (.int p2), .val (.long p3), .second, .val (.int p4), .val (.int p5), .val (.int (chr p0)), .val (.int (chr p1)), .val (.int (chr p2)), .val (.int (byt (chr p0))), .val (.int (byt (chr p1))), .val (.int (byt (chr p2))), .val (.ref b546), .val (.ref b568), .val (.ref b599), .val (.ref b639), .val (.ref b685), .val (.ref b740), .val (.int nn), .val (.int ((ushr p5 (11 : Int32)) &&& (3 : Int32))), .val (.ref b546), .val (.ref b546), .val (.ref b639), .val (.ref b639), .val (.ref b804), .unset, .unset] [(.ref b546)]) rfl ?_
        obtain ⟨T940, X940, e940, st940⟩ := castY X939 hx hZ hown (hw _ (List.mem_of_getElem? (i := 54) rfl)) e939 (Ins.self f918) (g := (mkF m 411 #[.val (.int p0), .val (.int p1), .val (.int p2), .val (.long p3), .second, .val (.int p4), .val (.int p5), .val (.int (chr p0)), .val (.int (chr p1)), .val (.int (chr p2)), .val (.int (byt (chr p0))), .val (.int (byt (chr p1))), .val (.int (byt (chr p2))), .val (.ref b546), .val (.ref b568), .val (.ref b599), .val (.ref b639), .val (.ref b685), .val (.ref b740), .val (.int nn), .val (.int ((ushr p5 (11 : Int32)) &&& (3 : Int32))), .val (.ref b546), .val (.ref b546), .val (.ref b639), .val (.ref b639), .val (.ref b804), .unset, .unset] [(.ref b546)])) rfl rfl (hb hby at_411)
        refine Go.movp st940 (mkF m 414 #[.val (.int p0), .val (.int p1), .val (.int p2), .val (.long p3), .second, .val (.int p4), .val (.int p5), .val (.int (chr p0)), .val (.int (chr p1)), .val (.int (chr p2)), .val (.int (byt (chr p0))), .val (.int (byt (chr p1))), .val (.int (byt (chr p2))), .val (.ref b546), .val (.ref b568), .val (.ref b599), .val (.ref b639), .val (.ref b685), .val (.ref b740), .val (.int nn), .val (.int ((ushr p5 (11 : Int32)) &&& (3 : Int32))), .val (.ref b546), .val (.ref b546), .val (.ref b639), .val (.ref b639), .val (.ref b804), .unset, .unset] [(.ref b546)]) rfl ?_
        refine g_astore X940 hx (hb hby at_414) (pc' := 416) rfl rfl (Ls' := #[.val (.int p0), .val (.int p1), .val (.int p2), .val (.long p3), .second, .val (.int p4), .val (.int p5), .val (.int (chr p0)), .val (.int (chr p1)), .val (.int (chr p2)), .val (.int (byt (chr p0))), .val (.int (byt (chr p1))), .val (.int (byt (chr p2))), .val (.ref b546), .val (.ref b568), .val (.ref b599), .val (.ref b639), .val (.ref b685), .val (.ref b740), .val (.int nn), .val (.int ((ushr p5 (11 : Int32)) &&& (3 : Int32))), .val (.ref b546), .val (.ref b546), .val (.ref b639), .val (.ref b639), .val (.ref b804), .val (.ref b546), .unset]) rfl ?_
        refine g_aload X940 hx (hb hby at_416) (pc' := 418) rfl rfl rfl ?_
        refine g_aload X940 hx (hb hby at_418) (pc' := 420) rfl rfl rfl ?_
        refine g_acmp_eq X940 hx (hb hby at_420) rfl rfl (pc1 := 423) rfl (by decide) (pc2 := 425) (by decide) (fun hc420 => ?_) (fun hc420 => absurd rfl hc420)
        refine g_iconst X940 hx (hb hby at_425) (pc' := 426) rfl (z := (0 : Int32)) rfl ?_
        refine g_iload X940 hx (hb hby at_426) (pc' := 428) rfl rfl ?_
        refine g_aload X940 hx (hb hby at_428) (pc' := 430) rfl rfl rfl ?_
        refine g_aload X940 hx (hb hby at_430) (pc' := 432) rfl rfl rfl ?_
        refine g_aload X940 hx (hb hby at_432) (pc' := 434) rfl rfl rfl ?_
        refine g_iload X940 hx (hb hby at_434) (pc' := 436) rfl rfl ?_
        refine g_iload X940 hx (hb hby at_436) (pc' := 438) rfl rfl ?_
        refine g_iload X940 hx (hb hby at_438) (pc' := 440) rfl rfl ?_
        refine g_aload X940 hx (hb hby at_440) (pc' := 442) rfl rfl rfl ?_
        refine g_iconst X940 hx (hb hby at_442) (pc' := 443) rfl (z := (0 : Int32)) rfl ?_
        refine g_baload X940 hx hZ e940 V917 (i := 0) (v := (.int w0)) (hb hby at_443) (pc' := 444) rfl (by decide) rfl rfl ?_
        obtain ⟨v941, T941, h941, L941, X941, e941, N941, q941, st941⟩ := h_static X940 hx (W := 0) (Ls := #[.val (.int p0), .val (.int p1), .val (.int p2), .val (.long p3), .second, .val (.int p4), .val (.int p5), .val (.int (chr p0)), .val (.int (chr p1)), .val (.int (chr p2)), .val (.int (byt (chr p0))), .val (.int (byt (chr p1))), .val (.int (byt (chr p2))), .val (.ref b546), .val (.ref b568), .val (.ref b599), .val (.ref b639), .val (.ref b685), .val (.ref b740), .val (.int nn), .val (.int ((ushr p5 (11 : Int32)) &&& (3 : Int32))), .val (.ref b546), .val (.ref b546), .val (.ref b639), .val (.ref b639), .val (.ref b804), .val (.ref b546), .unset]) (argsL := [(.int (0 : Int32)), (.int nn), (.ref b639), (.ref b639), (.ref b639), (.int (byt (chr p0))), (.int (byt (chr p1))), (.int (byt (chr p2))), (.int w0)]) (rest := []) hZ e940 N917 hml hown (rm6_0 l Z a0 hw b639 b639 b639 u0 u1 u2 u0 u1 u2 u0 u1 u2 (byt (chr p0)) (byt (chr p1)) (byt (chr p2)) w0 nn h917 n0 Z938 f924 f924 f924 (by rw [hw0, own_mk bu0 bu0 bu0 (byt_byt _) (byt_byt _) (byt_byt _)])) (hw _ (List.mem_of_getElem? (i := 55) rfl)) (hw _ (List.mem_of_getElem? (i := 56) rfl)) (hw _ (List.mem_of_getElem? (i := 3) rfl)) (hw _ (List.mem_of_getElem? (i := 57) rfl)) (by decide) pd__II_B_B_BBBBB_Z rfl rfl (hb hby at_444) rfl (by decide) (by decide) (by decide) (by decide)
        obtain ⟨rfl, rfl⟩ := q941
        refine Go.movp st941 (mkF m 447 #[.val (.int p0), .val (.int p1), .val (.int p2), .val (.long p3), .second, .val (.int p4), .val (.int p5), .val (.int (chr p0)), .val (.int (chr p1)), .val (.int (chr p2)), .val (.int (byt (chr p0))), .val (.int (byt (chr p1))), .val (.int (byt (chr p2))), .val (.ref b546), .val (.ref b568), .val (.ref b599), .val (.ref b639), .val (.ref b685), .val (.ref b740), .val (.int nn), .val (.int ((ushr p5 (11 : Int32)) &&& (3 : Int32))), .val (.ref b546), .val (.ref b546), .val (.ref b639), .val (.ref b639), .val (.ref b804), .val (.ref b546), .unset] [(.int (1 : Int32))]) rfl ?_
        refine g_if_eq X941 hx (hb hby at_447) (pc1 := 450) rfl (by decide) (pc2 := 504) (by decide) (fun hc447 => absurd hc447 (by decide)) (fun hc447 => ?_)
        refine g_iconst X941 hx (hb hby at_450) (pc' := 451) rfl (z := (1 : Int32)) rfl ?_
        refine g_iload X941 hx (hb hby at_451) (pc' := 453) rfl rfl ?_
        refine g_aload X941 hx (hb hby at_453) (pc' := 455) rfl rfl rfl ?_
        refine g_aload X941 hx (hb hby at_455) (pc' := 457) rfl rfl rfl ?_
        refine g_aload X941 hx (hb hby at_457) (pc' := 459) rfl rfl rfl ?_
        refine g_iload X941 hx (hb hby at_459) (pc' := 461) rfl rfl ?_
        refine g_iload X941 hx (hb hby at_461) (pc' := 463) rfl rfl ?_
        refine g_iload X941 hx (hb hby at_463) (pc' := 465) rfl rfl ?_
        refine g_aload X941 hx (hb hby at_465) (pc' := 467) rfl rfl rfl ?_
        refine g_iconst X941 hx (hb hby at_467) (pc' := 468) rfl (z := (1 : Int32)) rfl ?_
        refine g_baload X941 hx hZ e941 V917 (i := 1) (v := (.int w1)) (hb hby at_468) (pc' := 469) rfl (by decide) rfl rfl ?_
        obtain ⟨v942, T942, h942, L942, X942, e942, N942, q942, st942⟩ := h_static X941 hx (W := 0) (Ls := #[.val (.int p0), .val (.int p1), .val (.int p2), .val (.long p3), .second, .val (.int p4), .val (.int p5), .val (.int (chr p0)), .val (.int (chr p1)), .val (.int (chr p2)), .val (.int (byt (chr p0))), .val (.int (byt (chr p1))), .val (.int (byt (chr p2))), .val (.ref b546), .val (.ref b568), .val (.ref b599), .val (.ref b639), .val (.ref b685), .val (.ref b740), .val (.int nn), .val (.int ((ushr p5 (11 : Int32)) &&& (3 : Int32))), .val (.ref b546), .val (.ref b546), .val (.ref b639), .val (.ref b639), .val (.ref b804), .val (.ref b546), .unset]) (argsL := [(.int (1 : Int32)), (.int nn), (.ref b639), (.ref b639), (.ref b639), (.int (byt (chr p0))), (.int (byt (chr p1))), (.int (byt (chr p2))), (.int w1)]) (rest := []) hZ e941 N941 hml hown (rm6_1 l Z a0 hw b639 b639 b639 u0 u1 u2 u0 u1 u2 u0 u1 u2 (byt (chr p0)) (byt (chr p1)) (byt (chr p2)) w1 nn h917 n0 Z938 f924 f924 f924 (by rw [hw1, own_mk bu1 bu1 bu1 (byt_byt _) (byt_byt _) (byt_byt _)])) (hw _ (List.mem_of_getElem? (i := 55) rfl)) (hw _ (List.mem_of_getElem? (i := 56) rfl)) (hw _ (List.mem_of_getElem? (i := 3) rfl)) (hw _ (List.mem_of_getElem? (i := 57) rfl)) (by decide) pd__II_B_B_BBBBB_Z rfl rfl (hb hby at_469) rfl (by decide) (by decide) (by decide) (by decide)
        obtain ⟨rfl, rfl⟩ := q942
        refine Go.movp st942 (mkF m 472 #[.val (.int p0), .val (.int p1), .val (.int p2), .val (.long p3), .second, .val (.int p4), .val (.int p5), .val (.int (chr p0)), .val (.int (chr p1)), .val (.int (chr p2)), .val (.int (byt (chr p0))), .val (.int (byt (chr p1))), .val (.int (byt (chr p2))), .val (.ref b546), .val (.ref b568), .val (.ref b599), .val (.ref b639), .val (.ref b685), .val (.ref b740), .val (.int nn), .val (.int ((ushr p5 (11 : Int32)) &&& (3 : Int32))), .val (.ref b546), .val (.ref b546), .val (.ref b639), .val (.ref b639), .val (.ref b804), .val (.ref b546), .unset] [(.int (1 : Int32))]) rfl ?_
        refine g_if_eq X942 hx (hb hby at_472) (pc1 := 475) rfl (by decide) (pc2 := 504) (by decide) (fun hc472 => absurd hc472 (by decide)) (fun hc472 => ?_)
        refine g_iconst X942 hx (hb hby at_475) (pc' := 476) rfl (z := (2 : Int32)) rfl ?_
        refine g_iload X942 hx (hb hby at_476) (pc' := 478) rfl rfl ?_
        refine g_aload X942 hx (hb hby at_478) (pc' := 480) rfl rfl rfl ?_
        refine g_aload X942 hx (hb hby at_480) (pc' := 482) rfl rfl rfl ?_
        refine g_aload X942 hx (hb hby at_482) (pc' := 484) rfl rfl rfl ?_
        refine g_iload X942 hx (hb hby at_484) (pc' := 486) rfl rfl ?_
        refine g_iload X942 hx (hb hby at_486) (pc' := 488) rfl rfl ?_
        refine g_iload X942 hx (hb hby at_488) (pc' := 490) rfl rfl ?_
        refine g_aload X942 hx (hb hby at_490) (pc' := 492) rfl rfl rfl ?_
        refine g_iconst X942 hx (hb hby at_492) (pc' := 493) rfl (z := (2 : Int32)) rfl ?_
        refine g_baload X942 hx hZ e942 V917 (i := 2) (v := (.int w2)) (hb hby at_493) (pc' := 494) rfl (by decide) rfl rfl ?_
        obtain ⟨v943, T943, h943, L943, X943, e943, N943, q943, st943⟩ := h_static X942 hx (W := 0) (Ls := #[.val (.int p0), .val (.int p1), .val (.int p2), .val (.long p3), .second, .val (.int p4), .val (.int p5), .val (.int (chr p0)), .val (.int (chr p1)), .val (.int (chr p2)), .val (.int (byt (chr p0))), .val (.int (byt (chr p1))), .val (.int (byt (chr p2))), .val (.ref b546), .val (.ref b568), .val (.ref b599), .val (.ref b639), .val (.ref b685), .val (.ref b740), .val (.int nn), .val (.int ((ushr p5 (11 : Int32)) &&& (3 : Int32))), .val (.ref b546), .val (.ref b546), .val (.ref b639), .val (.ref b639), .val (.ref b804), .val (.ref b546), .unset]) (argsL := [(.int (2 : Int32)), (.int nn), (.ref b639), (.ref b639), (.ref b639), (.int (byt (chr p0))), (.int (byt (chr p1))), (.int (byt (chr p2))), (.int w2)]) (rest := []) hZ e942 N942 hml hown (rm6_2 l Z a0 hw b639 b639 b639 u0 u1 u2 u0 u1 u2 u0 u1 u2 (byt (chr p0)) (byt (chr p1)) (byt (chr p2)) w2 nn h917 n0 Z938 f924 f924 f924 (by rw [hw2, own_mk bu2 bu2 bu2 (byt_byt _) (byt_byt _) (byt_byt _)])) (hw _ (List.mem_of_getElem? (i := 55) rfl)) (hw _ (List.mem_of_getElem? (i := 56) rfl)) (hw _ (List.mem_of_getElem? (i := 3) rfl)) (hw _ (List.mem_of_getElem? (i := 57) rfl)) (by decide) pd__II_B_B_BBBBB_Z rfl rfl (hb hby at_494) rfl (by decide) (by decide) (by decide) (by decide)
        obtain ⟨rfl, rfl⟩ := q943
        refine Go.movp st943 (mkF m 497 #[.val (.int p0), .val (.int p1), .val (.int p2), .val (.long p3), .second, .val (.int p4), .val (.int p5), .val (.int (chr p0)), .val (.int (chr p1)), .val (.int (chr p2)), .val (.int (byt (chr p0))), .val (.int (byt (chr p1))), .val (.int (byt (chr p2))), .val (.ref b546), .val (.ref b568), .val (.ref b599), .val (.ref b639), .val (.ref b685), .val (.ref b740), .val (.int nn), .val (.int ((ushr p5 (11 : Int32)) &&& (3 : Int32))), .val (.ref b546), .val (.ref b546), .val (.ref b639), .val (.ref b639), .val (.ref b804), .val (.ref b546), .unset] [(.int (1 : Int32))]) rfl ?_
        refine g_if_eq X943 hx (hb hby at_497) (pc1 := 500) rfl (by decide) (pc2 := 504) (by decide) (fun hc497 => absurd hc497 (by decide)) (fun hc497 => ?_)
        refine g_iconst X943 hx (hb hby at_500) (pc' := 501) rfl (z := (1 : Int32)) rfl ?_
        refine g_goto X943 hx (hb hby at_501) (by decide) (pc' := 505) (by decide) ?_
        refine g_istore X943 hx (hb hby at_505) (pc' := 507) rfl (Ls' := #[.val (.int p0), .val (.int p1), .val (.int p2), .val (.long p3), .second, .val (.int p4), .val (.int p5), .val (.int (chr p0)), .val (.int (chr p1)), .val (.int (chr p2)), .val (.int (byt (chr p0))), .val (.int (byt (chr p1))), .val (.int (byt (chr p2))), .val (.ref b546), .val (.ref b568), .val (.ref b599), .val (.ref b639), .val (.ref b685), .val (.ref b740), .val (.int nn), .val (.int ((ushr p5 (11 : Int32)) &&& (3 : Int32))), .val (.ref b546), .val (.ref b546), .val (.ref b639), .val (.ref b639), .val (.ref b804), .val (.ref b546), .val (.int (1 : Int32))]) rfl ?_
        refine g_aload X943 hx (hb hby at_507) (pc' := 509) rfl rfl rfl ?_
        refine g_aload X943 hx (hb hby at_509) (pc' := 511) rfl rfl rfl ?_
        refine g_acmp_eq X943 hx (hb hby at_511) rfl rfl (pc1 := 514) rfl (by decide) (pc2 := 559) (by decide) (fun hc511 => ?_) (fun hc511 => absurd rfl hc511)
        refine g_aload X943 hx (hb hby at_559) (pc' := 561) rfl rfl rfl ?_
        refine g_aload X943 hx (hb hby at_561) (pc' := 563) rfl rfl rfl ?_
        refine g_acmp_eq X943 hx (hb hby at_563) rfl rfl (pc1 := 566) rfl (by decide) (pc2 := 611) (by decide) (fun hc563 => ?_) (fun hc563 => absurd rfl hc563)
        refine g_iload X943 hx (hb hby at_611) (pc' := 613) rfl rfl ?_
        exact g_zreturn X943 hx rfl hret (hb hby at_613) N943 hlk (fun v t => endF (by decide) (by decide) v) (by rw [e943]; exact rfl)
      · skip
        refine g_aload X789 hx (hb hby at_326) (pc' := 328) rfl rfl rfl ?_
        refine g_astore X789 hx (hb hby at_328) (pc' := 330) rfl rfl (Ls' := #[.val (.int p0), .val (.int p1), .val (.int p2), .val (.long p3), .second, .val (.int p4), .val (.int p5), .val (.int (chr p0)), .val (.int (chr p1)), .val (.int (chr p2)), .val (.int (byt (chr p0))), .val (.int (byt (chr p1))), .val (.int (byt (chr p2))), .val (.ref b546), .val (.ref b568), .val (.ref b599), .val (.ref b639), .val (.ref b685), .val (.ref b740), .val (.int nn), .val (.int ((ushr p5 (11 : Int32)) &&& (3 : Int32))), .val (.ref b568), .unset, .unset, .unset, .unset, .unset, .unset]) rfl ?_
        refine g_aload X789 hx (hb hby at_330) (pc' := 332) rfl rfl rfl ?_
        refine g_astore X789 hx (hb hby at_332) (pc' := 334) rfl rfl (Ls' := #[.val (.int p0), .val (.int p1), .val (.int p2), .val (.long p3), .second, .val (.int p4), .val (.int p5), .val (.int (chr p0)), .val (.int (chr p1)), .val (.int (chr p2)), .val (.int (byt (chr p0))), .val (.int (byt (chr p1))), .val (.int (byt (chr p2))), .val (.ref b546), .val (.ref b568), .val (.ref b599), .val (.ref b639), .val (.ref b685), .val (.ref b740), .val (.int nn), .val (.int ((ushr p5 (11 : Int32)) &&& (3 : Int32))), .val (.ref b568), .val (.ref b568), .unset, .unset, .unset, .unset, .unset]) rfl ?_
        refine g_aload X789 hx (hb hby at_334) (pc' := 336) rfl rfl rfl ?_
        refine g_astore X789 hx (hb hby at_336) (pc' := 338) rfl rfl (Ls' := #[.val (.int p0), .val (.int p1), .val (.int p2), .val (.long p3), .second, .val (.int p4), .val (.int p5), .val (.int (chr p0)), .val (.int (chr p1)), .val (.int (chr p2)), .val (.int (byt (chr p0))), .val (.int (byt (chr p1))), .val (.int (byt (chr p2))), .val (.ref b546), .val (.ref b568), .val (.ref b599), .val (.ref b639), .val (.ref b685), .val (.ref b740), .val (.int nn), .val (.int ((ushr p5 (11 : Int32)) &&& (3 : Int32))), .val (.ref b568), .val (.ref b568), .val (.ref b685), .unset, .unset, .unset, .unset]) rfl ?_
        refine g_aload X789 hx (hb hby at_338) (pc' := 340) rfl rfl rfl ?_
        refine g_astore X789 hx (hb hby at_340) (pc' := 342) rfl rfl (Ls' := #[.val (.int p0), .val (.int p1), .val (.int p2), .val (.long p3), .second, .val (.int p4), .val (.int p5), .val (.int (chr p0)), .val (.int (chr p1)), .val (.int (chr p2)), .val (.int (byt (chr p0))), .val (.int (byt (chr p1))), .val (.int (byt (chr p2))), .val (.ref b546), .val (.ref b568), .val (.ref b599), .val (.ref b639), .val (.ref b685), .val (.ref b740), .val (.int nn), .val (.int ((ushr p5 (11 : Int32)) &&& (3 : Int32))), .val (.ref b568), .val (.ref b568), .val (.ref b685), .val (.ref b685), .unset, .unset, .unset]) rfl ?_
        refine g_goto X789 hx (hb hby at_342) (by decide) (pc' := 361) (by decide) ?_
        obtain ⟨T944, h944, X944, e944, E944, A944, D944, -, st944⟩ := newO X789 hx hZ hown (hw _ (List.mem_of_getElem? (i := 5) rfl)) (hw _ (List.mem_of_getElem? (i := 6) rfl)) (hw _ (List.mem_of_getElem? (i := 7) rfl)) e789 (g := (mkF m 361 #[.val (.int p0), .val (.int p1), .val (.int p2), .val (.long p3), .second, .val (.int p4), .val (.int p5), .val (.int (chr p0)), .val (.int (chr p1)), .val (.int (chr p2)), .val (.int (byt (chr p0))), .val (.int (byt (chr p1))), .val (.int (byt (chr p2))), .val (.ref b546), .val (.ref b568), .val (.ref b599), .val (.ref b639), .val (.ref b685), .val (.ref b740), .val (.int nn), .val (.int ((ushr p5 (11 : Int32)) &&& (3 : Int32))), .val (.ref b568), .val (.ref b568), .val (.ref b685), .val (.ref b685), .unset, .unset, .unset] [])) rfl (hb hby at_361) (by decide) (by decide)
        obtain ⟨b944, g944⟩ : ∃ z, z = h789.size := ⟨_, rfl⟩
        rw [← g944] at A944 D944 st944
        have ne945 : b546 ≠ b944 := Nat.ne_of_lt (g944 ▸ f790.lt)
        have ne946 : b568 ≠ b944 := Nat.ne_of_lt (g944 ▸ f792.lt)
        have ne947 : b599 ≠ b944 := Nat.ne_of_lt (g944 ▸ f794.lt)
        have ne948 : b639 ≠ b944 := Nat.ne_of_lt (g944 ▸ f796.lt)
        have ne949 : b685 ≠ b944 := Nat.ne_of_lt (g944 ▸ f798.lt)
        have ne950 : b740 ≠ b944 := Nat.ne_of_lt (g944 ▸ f800.lt)
        have ge951 : n0 ≤ b944 := g944 ▸ Z801
        have f952 := Exa.ext E944 f790
        have f953 := f791.ext E944
        have f954 := Exa.ext E944 f792
        have f955 := f793.ext E944
        have f956 := Exa.ext E944 f794
        have f957 := f795.ext E944
        have f958 := Exa.ext E944 f796
        have f959 := f797.ext E944
        have f960 := Exa.ext E944 f798
        have f961 := f799.ext E944
        have f962 := Exa.ext E944 f800
        have f963 := f803.ext E944
        have Z964 : n0 ≤ h944.size := Nat.le_trans Z801 E944.1
        have f965 : Fld Z h944 b944 "com/example/needlework/needlework/PackedBlock" "first" "I" (.int (0 : Int32)) := D944 (Or.inr (hw _ (List.mem_of_getElem? (i := 20) rfl))) (ty := .int) (by decide)
        have f966 : Fld Z h944 b944 "com/example/needlework/needlework/PackedBlock" "last" "I" (.int (0 : Int32)) := D944 (Or.inr (hw _ (List.mem_of_getElem? (i := 22) rfl))) (ty := .int) (by decide)
        have f967 : Fld Z h944 b944 "com/example/needlework/needlework/PackedBlock" "middle" "I" (.int (0 : Int32)) := D944 (Or.inr (hw _ (List.mem_of_getElem? (i := 24) rfl))) (ty := .int) (by decide)
        have f968 : Fld Z h944 b944 "com/example/needlework/needlework/PackedBlock" "lastOffset" "I" (.int (0 : Int32)) := D944 (Or.inr (hw _ (List.mem_of_getElem? (i := 26) rfl))) (ty := .int) (by decide)
        have f969 : Fld Z h944 b944 "com/example/needlework/needlework/PackedBlock" "middleOffset" "I" (.int (0 : Int32)) := D944 (Or.inr (hw _ (List.mem_of_getElem? (i := 28) rfl))) (ty := .int) (by decide)
        have f970 : Fld Z h944 b944 "com/example/needlework/needlework/PackedBlock" "units" "Ljava/lang/Object;" .null := D944 (Or.inl (hw _ (List.mem_of_getElem? (i := 31) rfl))) (ty := (.object "java/lang/Object")) (by decide)
        have f971 : Fld Z h944 b944 "com/example/needlework/needlework/PackedBlock" "lasts" "Ljava/lang/Object;" .null := D944 (Or.inl (hw _ (List.mem_of_getElem? (i := 34) rfl))) (ty := (.object "java/lang/Object")) (by decide)
        have f972 : Fld Z h944 b944 "com/example/needlework/needlework/PackedBlock" "middles" "Ljava/lang/Object;" .null := D944 (Or.inl (hw _ (List.mem_of_getElem? (i := 37) rfl))) (ty := (.object "java/lang/Object")) (by decide)
        refine Go.movp st944 (mkF m 364 #[.val (.int p0), .val (.int p1), .val (.int p2), .val (.long p3), .second, .val (.int p4), .val (.int p5), .val (.int (chr p0)), .val (.int (chr p1)), .val (.int (chr p2)), .val (.int (byt (chr p0))), .val (.int (byt (chr p1))), .val (.int (byt (chr p2))), .val (.ref b546), .val (.ref b568), .val (.ref b599), .val (.ref b639), .val (.ref b685), .val (.ref b740), .val (.int nn), .val (.int ((ushr p5 (11 : Int32)) &&& (3 : Int32))), .val (.ref b568), .val (.ref b568), .val (.ref b685), .val (.ref b685), .unset, .unset, .unset] [(.ref b944)]) rfl ?_
        refine g_dup X944 hx (hb hby at_364) (pc' := 365) rfl rfl ?_
        refine g_iload X944 hx (hb hby at_365) (pc' := 367) rfl rfl ?_
        refine g_iload X944 hx (hb hby at_367) (pc' := 369) rfl rfl ?_
        refine g_iload X944 hx (hb hby at_369) (pc' := 371) rfl rfl ?_
        refine g_iconst X944 hx (hb hby at_371) (pc' := 372) rfl (z := (0 : Int32)) rfl ?_
        refine g_iconst X944 hx (hb hby at_372) (pc' := 373) rfl (z := (0 : Int32)) rfl ?_
        obtain ⟨v973, T973, h973, L973, X973, e973, N973, q973, st973⟩ := h_special (a := b944) X944 hx (W := 1) (Ls := #[.val (.int p0), .val (.int p1), .val (.int p2), .val (.long p3), .second, .val (.int p4), .val (.int p5), .val (.int (chr p0)), .val (.int (chr p1)), .val (.int (chr p2)), .val (.int (byt (chr p0))), .val (.int (byt (chr p1))), .val (.int (byt (chr p2))), .val (.ref b546), .val (.ref b568), .val (.ref b599), .val (.ref b639), .val (.ref b685), .val (.ref b740), .val (.int nn), .val (.int ((ushr p5 (11 : Int32)) &&& (3 : Int32))), .val (.ref b568), .val (.ref b568), .val (.ref b685), .val (.ref b685), .unset, .unset, .unset]) (argsL := [(.int (chr p0)), (.int (chr p1)), (.int (chr p2)), (.int (0 : Int32)), (.int (0 : Int32))]) (rest := [(.ref b944)]) hZ e944 N789 hml hown rfl (rm2 l Z a0 hw b944 (chr p0) (chr p1) (chr p2) (0 : Int32) (0 : Int32) h944 n0 Z964 f965 f966 f967 f968 f969 f970 f971 f972 A944 ge951) (hw _ (List.mem_of_getElem? (i := 8) rfl)) (hw _ (List.mem_of_getElem? (i := 9) rfl)) (hw _ (List.mem_of_getElem? (i := 7) rfl)) (hw _ (List.mem_of_getElem? (i := 10) rfl)) (by decide) pd__CCCII_V rfl rfl (hb hby at_373) rfl (by decide) (by decide) (by decide) (by decide)
        obtain ⟨rfl, K973, A973, C0_973, C1_973, C2_973, C3_973, C4_973, C5_973, C6_973, C7_973⟩ := q973
        have f974 := f952.keep K973
        have f975 := f953.keep K973 (ninS ne945 nin0)
        have f976 := f954.keep K973
        have f977 := f955.keep K973 (ninS ne946 nin0)
        have f978 := f956.keep K973
        have f979 := f957.keep K973 (ninS ne947 nin0)
        have f980 := f958.keep K973
        have f981 := f959.keep K973 (ninS ne948 nin0)
        have f982 := f960.keep K973
        have f983 := f961.keep K973 (ninS ne949 nin0)
        have f984 := f962.keep K973
        have f985 := f963.keep K973 (ninS ne950 nin0)
        have f986 := A944.keep K973
        have Z987 : n0 ≤ h973.size := Nat.le_trans Z964 K973.1
        refine Go.movp st973 (mkF m 376 #[.val (.int p0), .val (.int p1), .val (.int p2), .val (.long p3), .second, .val (.int p4), .val (.int p5), .val (.int (chr p0)), .val (.int (chr p1)), .val (.int (chr p2)), .val (.int (byt (chr p0))), .val (.int (byt (chr p1))), .val (.int (byt (chr p2))), .val (.ref b546), .val (.ref b568), .val (.ref b599), .val (.ref b639), .val (.ref b685), .val (.ref b740), .val (.int nn), .val (.int ((ushr p5 (11 : Int32)) &&& (3 : Int32))), .val (.ref b568), .val (.ref b568), .val (.ref b685), .val (.ref b685), .unset, .unset, .unset] [(.ref b944)]) rfl ?_
        refine g_astore X973 hx (hb hby at_376) (pc' := 378) rfl rfl (Ls' := #[.val (.int p0), .val (.int p1), .val (.int p2), .val (.long p3), .second, .val (.int p4), .val (.int p5), .val (.int (chr p0)), .val (.int (chr p1)), .val (.int (chr p2)), .val (.int (byt (chr p0))), .val (.int (byt (chr p1))), .val (.int (byt (chr p2))), .val (.ref b546), .val (.ref b568), .val (.ref b599), .val (.ref b639), .val (.ref b685), .val (.ref b740), .val (.int nn), .val (.int ((ushr p5 (11 : Int32)) &&& (3 : Int32))), .val (.ref b568), .val (.ref b568), .val (.ref b685), .val (.ref b685), .val (.ref b944), .unset, .unset]) rfl ?_
        refine g_aload X973 hx (hb hby at_378) (pc' := 380) rfl rfl rfl ?_
        refine g_aload X973 hx (hb hby at_380) (pc' := 382) rfl rfl rfl ?_
        obtain ⟨T988, h988, X988, e988, W988, st988⟩ := putF X973 hx hZ hown (host := "") (Or.inl (hw _ (List.mem_of_getElem? (i := 29) rfl))) (Via.of (hw _ (List.mem_of_getElem? (i := 30) rfl))) e973 C5_973 A973 (Or.inl (hw _ (List.mem_of_getElem? (i := 31) rfl))) (hw _ (List.mem_of_getElem? (i := 6) rfl)) (ty := (.object "java/lang/Object")) (by decide) rfl rfl (g := (mkF m 382 #[.val (.int p0), .val (.int p1), .val (.int p2), .val (.long p3), .second, .val (.int p4), .val (.int p5), .val (.int (chr p0)), .val (.int (chr p1)), .val (.int (chr p2)), .val (.int (byt (chr p0))), .val (.int (byt (chr p1))), .val (.int (byt (chr p2))), .val (.ref b546), .val (.ref b568), .val (.ref b599), .val (.ref b639), .val (.ref b685), .val (.ref b740), .val (.int nn), .val (.int ((ushr p5 (11 : Int32)) &&& (3 : Int32))), .val (.ref b568), .val (.ref b568), .val (.ref b685), .val (.ref b685), .val (.ref b944), .unset, .unset] [(.ref b546), (.ref b944)])) rfl rfl (hb hby at_382)
        have f989 : Fld Z h988 b944 "com/example/needlework/needlework/PackedBlock" "units" "Ljava/lang/Object;" (.ref b546) := Fld.same W988 C5_973
        have N988 := Fr.snoc X988 N973 ge951
        have f990 := Exa.wr W988 f974
        have f991 := f975.other W988 ne945
        have f992 := Exa.wr W988 f976
        have f993 := f977.other W988 ne946
        have f994 := Exa.wr W988 f978
        have f995 := f979.other W988 ne947
        have f996 := Exa.wr W988 f980
        have f997 := f981.other W988 ne948
        have f998 := Exa.wr W988 f982
        have f999 := f983.other W988 ne949
        have f1000 := Exa.wr W988 f984
        have f1001 := f985.other W988 ne950
        have f1002 := Exa.wr W988 A973
        have f1003 := Fld.other W988 C0_973 (Or.inr (slot_ne (Or.inr (hw _ (List.mem_of_getElem? (i := 20) rfl))) (Or.inl (hw _ (List.mem_of_getElem? (i := 31) rfl))) (by decide) (t := .int) (t' := (.object "java/lang/Object")) (by decide) (by decide)))
        have f1004 := Fld.other W988 C1_973 (Or.inr (slot_ne (Or.inr (hw _ (List.mem_of_getElem? (i := 22) rfl))) (Or.inl (hw _ (List.mem_of_getElem? (i := 31) rfl))) (by decide) (t := .int) (t' := (.object "java/lang/Object")) (by decide) (by decide)))
        have f1005 := Fld.other W988 C2_973 (Or.inr (slot_ne (Or.inr (hw _ (List.mem_of_getElem? (i := 24) rfl))) (Or.inl (hw _ (List.mem_of_getElem? (i := 31) rfl))) (by decide) (t := .int) (t' := (.object "java/lang/Object")) (by decide) (by decide)))
        have f1006 := Fld.other W988 C3_973 (Or.inr (slot_ne (Or.inr (hw _ (List.mem_of_getElem? (i := 26) rfl))) (Or.inl (hw _ (List.mem_of_getElem? (i := 31) rfl))) (by decide) (t := .int) (t' := (.object "java/lang/Object")) (by decide) (by decide)))
        have f1007 := Fld.other W988 C4_973 (Or.inr (slot_ne (Or.inr (hw _ (List.mem_of_getElem? (i := 28) rfl))) (Or.inl (hw _ (List.mem_of_getElem? (i := 31) rfl))) (by decide) (t := .int) (t' := (.object "java/lang/Object")) (by decide) (by decide)))
        have f1008 := Fld.other W988 C6_973 (Or.inr (slot_ne (Or.inl (hw _ (List.mem_of_getElem? (i := 34) rfl))) (Or.inl (hw _ (List.mem_of_getElem? (i := 31) rfl))) (by decide) (t := (.object "java/lang/Object")) (t' := (.object "java/lang/Object")) (by decide) (by decide)))
        have f1009 := Fld.other W988 C7_973 (Or.inr (slot_ne (Or.inl (hw _ (List.mem_of_getElem? (i := 37) rfl))) (Or.inl (hw _ (List.mem_of_getElem? (i := 31) rfl))) (by decide) (t := (.object "java/lang/Object")) (t' := (.object "java/lang/Object")) (by decide) (by decide)))
        have Z1010 : n0 ≤ h988.size := Nat.le_trans Z987 (Keep.of_wr W988).1
        refine Go.movp st988 (mkF m 385 #[.val (.int p0), .val (.int p1), .val (.int p2), .val (.long p3), .second, .val (.int p4), .val (.int p5), .val (.int (chr p0)), .val (.int (chr p1)), .val (.int (chr p2)), .val (.int (byt (chr p0))), .val (.int (byt (chr p1))), .val (.int (byt (chr p2))), .val (.ref b546), .val (.ref b568), .val (.ref b599), .val (.ref b639), .val (.ref b685), .val (.ref b740), .val (.int nn), .val (.int ((ushr p5 (11 : Int32)) &&& (3 : Int32))), .val (.ref b568), .val (.ref b568), .val (.ref b685), .val (.ref b685), .val (.ref b944), .unset, .unset] []) rfl ?_
        refine g_aload X988 hx (hb hby at_385) (pc' := 387) rfl rfl rfl ?_
        refine g_aload X988 hx (hb hby at_387) (pc' := 389) rfl rfl rfl ?_
        obtain ⟨T1011, h1011, X1011, e1011, W1011, st1011⟩ := putF X988 hx hZ hown (host := "") (Or.inl (hw _ (List.mem_of_getElem? (i := 32) rfl))) (Via.of (hw _ (List.mem_of_getElem? (i := 33) rfl))) e988 f1008 f1002 (Or.inl (hw _ (List.mem_of_getElem? (i := 34) rfl))) (hw _ (List.mem_of_getElem? (i := 6) rfl)) (ty := (.object "java/lang/Object")) (by decide) rfl rfl (g := (mkF m 389 #[.val (.int p0), .val (.int p1), .val (.int p2), .val (.long p3), .second, .val (.int p4), .val (.int p5), .val (.int (chr p0)), .val (.int (chr p1)), .val (.int (chr p2)), .val (.int (byt (chr p0))), .val (.int (byt (chr p1))), .val (.int (byt (chr p2))), .val (.ref b546), .val (.ref b568), .val (.ref b599), .val (.ref b639), .val (.ref b685), .val (.ref b740), .val (.int nn), .val (.int ((ushr p5 (11 : Int32)) &&& (3 : Int32))), .val (.ref b568), .val (.ref b568), .val (.ref b685), .val (.ref b685), .val (.ref b944), .unset, .unset] [(.ref b568), (.ref b944)])) rfl rfl (hb hby at_389)
        have f1012 : Fld Z h1011 b944 "com/example/needlework/needlework/PackedBlock" "lasts" "Ljava/lang/Object;" (.ref b568) := Fld.same W1011 f1008
        have N1011 := Fr.snoc X1011 N988 ge951
        have f1013 := Exa.wr W1011 f990
        have f1014 := f991.other W1011 ne945
        have f1015 := Exa.wr W1011 f992
        have f1016 := f993.other W1011 ne946
        have f1017 := Exa.wr W1011 f994
        have f1018 := f995.other W1011 ne947
        have f1019 := Exa.wr W1011 f996
        have f1020 := f997.other W1011 ne948
        have f1021 := Exa.wr W1011 f998
        have f1022 := f999.other W1011 ne949
        have f1023 := Exa.wr W1011 f1000
        have f1024 := f1001.other W1011 ne950
        have f1025 := Exa.wr W1011 f1002
        have f1026 := Fld.other W1011 f1003 (Or.inr (slot_ne (Or.inr (hw _ (List.mem_of_getElem? (i := 20) rfl))) (Or.inl (hw _ (List.mem_of_getElem? (i := 34) rfl))) (by decide) (t := .int) (t' := (.object "java/lang/Object")) (by decide) (by decide)))
        have f1027 := Fld.other W1011 f1004 (Or.inr (slot_ne (Or.inr (hw _ (List.mem_of_getElem? (i := 22) rfl))) (Or.inl (hw _ (List.mem_of_getElem? (i := 34) rfl))) (by decide) (t := .int) (t' := (.object "java/lang/Object")) (by decide) (by decide)))
        have f1028 := Fld.other W1011 f1005 (Or.inr (slot_ne (Or.inr (hw _ (List.mem_of_getElem? (i := 24) rfl))) (Or.inl (hw _ (List.mem_of_getElem? (i := 34) rfl))) (by decide) (t := .int) (t' := (.object "java/lang/Object")) (by decide) (by decide)))
        have f1029 := Fld.other W1011 f1006 (Or.inr (slot_ne (Or.inr (hw _ (List.mem_of_getElem? (i := 26) rfl))) (Or.inl (hw _ (List.mem_of_getElem? (i := 34) rfl))) (by decide) (t := .int) (t' := (.object "java/lang/Object")) (by decide) (by decide)))
        have f1030 := Fld.other W1011 f1007 (Or.inr (slot_ne (Or.inr (hw _ (List.mem_of_getElem? (i := 28) rfl))) (Or.inl (hw _ (List.mem_of_getElem? (i := 34) rfl))) (by decide) (t := .int) (t' := (.object "java/lang/Object")) (by decide) (by decide)))
        have f1031 := Fld.other W1011 f1009 (Or.inr (slot_ne (Or.inl (hw _ (List.mem_of_getElem? (i := 37) rfl))) (Or.inl (hw _ (List.mem_of_getElem? (i := 34) rfl))) (by decide) (t := (.object "java/lang/Object")) (t' := (.object "java/lang/Object")) (by decide) (by decide)))
        have f1032 := Fld.other W1011 f989 (Or.inr (slot_ne (Or.inl (hw _ (List.mem_of_getElem? (i := 31) rfl))) (Or.inl (hw _ (List.mem_of_getElem? (i := 34) rfl))) (by decide) (t := (.object "java/lang/Object")) (t' := (.object "java/lang/Object")) (by decide) (by decide)))
        have Z1033 : n0 ≤ h1011.size := Nat.le_trans Z1010 (Keep.of_wr W1011).1
        refine Go.movp st1011 (mkF m 392 #[.val (.int p0), .val (.int p1), .val (.int p2), .val (.long p3), .second, .val (.int p4), .val (.int p5), .val (.int (chr p0)), .val (.int (chr p1)), .val (.int (chr p2)), .val (.int (byt (chr p0))), .val (.int (byt (chr p1))), .val (.int (byt (chr p2))), .val (.ref b546), .val (.ref b568), .val (.ref b599), .val (.ref b639), .val (.ref b685), .val (.ref b740), .val (.int nn), .val (.int ((ushr p5 (11 : Int32)) &&& (3 : Int32))), .val (.ref b568), .val (.ref b568), .val (.ref b685), .val (.ref b685), .val (.ref b944), .unset, .unset] []) rfl ?_
        refine g_aload X1011 hx (hb hby at_392) (pc' := 394) rfl rfl rfl ?_
        refine g_aload X1011 hx (hb hby at_394) (pc' := 396) rfl rfl rfl ?_
        obtain ⟨T1034, h1034, X1034, e1034, W1034, st1034⟩ := putF X1011 hx hZ hown (host := "") (Or.inl (hw _ (List.mem_of_getElem? (i := 35) rfl))) (Via.of (hw _ (List.mem_of_getElem? (i := 36) rfl))) e1011 f1031 f1025 (Or.inl (hw _ (List.mem_of_getElem? (i := 37) rfl))) (hw _ (List.mem_of_getElem? (i := 6) rfl)) (ty := (.object "java/lang/Object")) (by decide) rfl rfl (g := (mkF m 396 #[.val (.int p0), .val (.int p1), .val (.int p2), .val (.long p3), .second, .val (.int p4), .val (.int p5), .val (.int (chr p0)), .val (.int (chr p1)), .val (.int (chr p2)), .val (.int (byt (chr p0))), .val (.int (byt (chr p1))), .val (.int (byt (chr p2))), .val (.ref b546), .val (.ref b568), .val (.ref b599), .val (.ref b639), .val (.ref b685), .val (.ref b740), .val (.int nn), .val (.int ((ushr p5 (11 : Int32)) &&& (3 : Int32))), .val (.ref b568), .val (.ref b568), .val (.ref b685), .val (.ref b685), .val (.ref b944), .unset, .unset] [(.ref b568), (.ref b944)])) rfl rfl (hb hby at_396)
        have f1035 : Fld Z h1034 b944 "com/example/needlework/needlework/PackedBlock" "middles" "Ljava/lang/Object;" (.ref b568) := Fld.same W1034 f1031
        have N1034 := Fr.snoc X1034 N1011 ge951
        have f1036 := Exa.wr W1034 f1013
        have f1037 := f1014.other W1034 ne945
        have f1038 := Exa.wr W1034 f1015
        have f1039 := f1016.other W1034 ne946
        have f1040 := Exa.wr W1034 f1017
        have f1041 := f1018.other W1034 ne947
        have f1042 := Exa.wr W1034 f1019
        have f1043 := f1020.other W1034 ne948
        have f1044 := Exa.wr W1034 f1021
        have f1045 := f1022.other W1034 ne949
        have f1046 := Exa.wr W1034 f1023
        have f1047 := f1024.other W1034 ne950
        have f1048 := Exa.wr W1034 f1025
        have f1049 := Fld.other W1034 f1026 (Or.inr (slot_ne (Or.inr (hw _ (List.mem_of_getElem? (i := 20) rfl))) (Or.inl (hw _ (List.mem_of_getElem? (i := 37) rfl))) (by decide) (t := .int) (t' := (.object "java/lang/Object")) (by decide) (by decide)))
        have f1050 := Fld.other W1034 f1027 (Or.inr (slot_ne (Or.inr (hw _ (List.mem_of_getElem? (i := 22) rfl))) (Or.inl (hw _ (List.mem_of_getElem? (i := 37) rfl))) (by decide) (t := .int) (t' := (.object "java/lang/Object")) (by decide) (by decide)))
        have f1051 := Fld.other W1034 f1028 (Or.inr (slot_ne (Or.inr (hw _ (List.mem_of_getElem? (i := 24) rfl))) (Or.inl (hw _ (List.mem_of_getElem? (i := 37) rfl))) (by decide) (t := .int) (t' := (.object "java/lang/Object")) (by decide) (by decide)))
        have f1052 := Fld.other W1034 f1029 (Or.inr (slot_ne (Or.inr (hw _ (List.mem_of_getElem? (i := 26) rfl))) (Or.inl (hw _ (List.mem_of_getElem? (i := 37) rfl))) (by decide) (t := .int) (t' := (.object "java/lang/Object")) (by decide) (by decide)))
        have f1053 := Fld.other W1034 f1030 (Or.inr (slot_ne (Or.inr (hw _ (List.mem_of_getElem? (i := 28) rfl))) (Or.inl (hw _ (List.mem_of_getElem? (i := 37) rfl))) (by decide) (t := .int) (t' := (.object "java/lang/Object")) (by decide) (by decide)))
        have f1054 := Fld.other W1034 f1032 (Or.inr (slot_ne (Or.inl (hw _ (List.mem_of_getElem? (i := 31) rfl))) (Or.inl (hw _ (List.mem_of_getElem? (i := 37) rfl))) (by decide) (t := (.object "java/lang/Object")) (t' := (.object "java/lang/Object")) (by decide) (by decide)))
        have f1055 := Fld.other W1034 f1012 (Or.inr (slot_ne (Or.inl (hw _ (List.mem_of_getElem? (i := 34) rfl))) (Or.inl (hw _ (List.mem_of_getElem? (i := 37) rfl))) (by decide) (t := (.object "java/lang/Object")) (t' := (.object "java/lang/Object")) (by decide) (by decide)))
        have Z1056 : n0 ≤ h1034.size := Nat.le_trans Z1033 (Keep.of_wr W1034).1
        refine Go.movp st1034 (mkF m 399 #[.val (.int p0), .val (.int p1), .val (.int p2), .val (.long p3), .second, .val (.int p4), .val (.int p5), .val (.int (chr p0)), .val (.int (chr p1)), .val (.int (chr p2)), .val (.int (byt (chr p0))), .val (.int (byt (chr p1))), .val (.int (byt (chr p2))), .val (.ref b546), .val (.ref b568), .val (.ref b599), .val (.ref b639), .val (.ref b685), .val (.ref b740), .val (.int nn), .val (.int ((ushr p5 (11 : Int32)) &&& (3 : Int32))), .val (.ref b568), .val (.ref b568), .val (.ref b685), .val (.ref b685), .val (.ref b944), .unset, .unset] []) rfl ?_
        refine g_aload X1034 hx (hb hby at_399) (pc' := 401) rfl rfl rfl ?_
        refine g_iload X1034 hx (hb hby at_401) (pc' := 403) rfl rfl ?_
        obtain ⟨w0, hw0⟩ : ∃ z : Int32, z = (if (0 : Int32) < nn then (mkV u0 l0 l0 (byt (chr p0)) (byt (chr p1)) (byt (chr p2))) else u0) := ⟨_, rfl⟩
        obtain ⟨w1, hw1⟩ : ∃ z : Int32, z = (if (1 : Int32) < nn then (mkV u1 l1 l1 (byt (chr p0)) (byt (chr p1)) (byt (chr p2))) else u1) := ⟨_, rfl⟩
        obtain ⟨w2, hw2⟩ : ∃ z : Int32, z = (if (2 : Int32) < nn then (mkV u2 l2 l2 (byt (chr p0)) (byt (chr p1)) (byt (chr p2))) else u2) := ⟨_, rfl⟩
        obtain ⟨v1057, T1057, h1057, L1057, X1057, e1057, N1057, q1057, st1057⟩ := h_virtual (a := b944) (z := (⟨"com/example/needlework/needlework/PackedBlock$Bytes", "mark", "(I)V"⟩ : MethodName)) X1034 hx (W := 0) (Ls := #[.val (.int p0), .val (.int p1), .val (.int p2), .val (.long p3), .second, .val (.int p4), .val (.int p5), .val (.int (chr p0)), .val (.int (chr p1)), .val (.int (chr p2)), .val (.int (byt (chr p0))), .val (.int (byt (chr p1))), .val (.int (byt (chr p2))), .val (.ref b546), .val (.ref b568), .val (.ref b599), .val (.ref b639), .val (.ref b685), .val (.ref b740), .val (.int nn), .val (.int ((ushr p5 (11 : Int32)) &&& (3 : Int32))), .val (.ref b568), .val (.ref b568), .val (.ref b685), .val (.ref b685), .val (.ref b944), .unset, .unset]) (argsL := [(.int nn)]) (rest := []) hZ e1034 N1034 hml hown (rm5_2 l Z a0 hw b944 b546 b568 u0 u1 u2 l0 l1 l2 (byt (chr p0)) (byt (chr p1)) (byt (chr p2)) nn w0 w1 w2 h1034 n0 Z1056 f1054 f1055 f1035 f1049 f1050 f1051 f1037 f1039 f1036 f1038 ge547 (Ne.symm ne569) (Ne.symm ne945) hnn hw0 hw1 hw2) f1048 (hw _ (List.mem_of_getElem? (i := 38) rfl)) (hw _ (List.mem_of_getElem? (i := 39) rfl)) (notFace_of_selects (args := #[]) (mvT hZ (hw _ (List.mem_of_getElem? (i := 41) rfl)))) (hw _ (List.mem_of_getElem? (i := 41) rfl)) (hw _ (List.mem_of_getElem? (i := 40) rfl)) (hw _ (List.mem_of_getElem? (i := 7) rfl)) (hw _ (List.mem_of_getElem? (i := 42) rfl)) (by decide) pd__I_V rfl rfl (hb hby at_403) rfl (by decide) (by decide) (by decide) (by decide)
        obtain ⟨rfl, K1057, V1057⟩ := q1057
        have f1058 := f1036.keep K1057
        have f1059 := f1038.keep K1057
        have f1060 := f1039.keep K1057 (ninS (Ne.symm ne569) nin0)
        have f1061 := f1040.keep K1057
        have f1062 := f1041.keep K1057 (ninS (Ne.symm ne600) nin0)
        have f1063 := f1042.keep K1057
        have f1064 := f1043.keep K1057 (ninS (Ne.symm ne640) nin0)
        have f1065 := f1044.keep K1057
        have f1066 := f1045.keep K1057 (ninS (Ne.symm ne686) nin0)
        have f1067 := f1046.keep K1057
        have f1068 := f1047.keep K1057 (ninS (Ne.symm ne741) nin0)
        have f1069 := f1048.keep K1057
        have f1070 := f1049.keep K1057 (ninS (Ne.symm ne945) nin0)
        have f1071 := f1050.keep K1057 (ninS (Ne.symm ne945) nin0)
        have f1072 := f1051.keep K1057 (ninS (Ne.symm ne945) nin0)
        have f1073 := f1052.keep K1057 (ninS (Ne.symm ne945) nin0)
        have f1074 := f1053.keep K1057 (ninS (Ne.symm ne945) nin0)
        have f1075 := f1054.keep K1057 (ninS (Ne.symm ne945) nin0)
        have f1076 := f1055.keep K1057 (ninS (Ne.symm ne945) nin0)
        have f1077 := f1035.keep K1057 (ninS (Ne.symm ne945) nin0)
        have Z1078 : n0 ≤ h1057.size := Nat.le_trans Z1056 K1057.1
        refine Go.movp st1057 (mkF m 406 #[.val (.int p0), .val (.int p1), .val (.int p2), .val (.long p3), .second, .val (.int p4), .val (.int p5), .val (.int (chr p0)), .val (.int (chr p1)), .val (.int (chr p2)), .val (.int (byt (chr p0))), .val (.int (byt (chr p1))), .val (.int (byt (chr p2))), .val (.ref b546), .val (.ref b568), .val (.ref b599), .val (.ref b639), .val (.ref b685), .val (.ref b740), .val (.int nn), .val (.int ((ushr p5 (11 : Int32)) &&& (3 : Int32))), .val (.ref b568), .val (.ref b568), .val (.ref b685), .val (.ref b685), .val (.ref b944), .unset, .unset] []) rfl ?_
        refine g_aload X1057 hx (hb hby at_406) (pc' := 408) rfl rfl rfl ?_
        obtain ⟨T1079, X1079, e1079, st1079⟩ := getF X1057 hx hZ hown (host := "") (Or.inl (hw _ (List.mem_of_getElem? (i := 29) rfl))) (Via.of (hw _ (List.mem_of_getElem? (i := 30) rfl))) e1057 f1075 (g := (mkF m 408 #[.val (.int p0), .val (.int p1), .val (.int p2), .val (.long p3), .second, .val (.int p4), .val (.int p5), .val (.int (chr p0)), .val (.int (chr p1)), .val (.int (chr p2)), .val (.int (byt (chr p0))), .val (.int (byt (chr p1))), .val (.int (byt (chr p2))), .val (.ref b546), .val (.ref b568), .val (.ref b599), .val (.ref b639), .val (.ref b685), .val (.ref b740), .val (.int nn), .val (.int ((ushr p5 (11 : Int32)) &&& (3 : Int32))), .val (.ref b568), .val (.ref b568), .val (.ref b685), .val (.ref b685), .val (.ref b944), .unset, .unset] [(.ref b944)])) rfl rfl (hb hby at_408)
        refine Go.movp st1079 (mkF m 411 #[.val (.int p0), .val (.int p1), .val (.int p2), .val (.long p3), .second, .val (.int p4), .val (.int p5), .val (.int (chr p0)), .val (.int (chr p1)), .val (.int (chr p2)), .val (.int (byt (chr p0))), .val (.int (byt (chr p1))), .val (.int (byt (chr p2))), .val (.ref b546), .val (.ref b568), .val (.ref b599), .val (.ref b639), .val (.ref b685), .val (.ref b740), .val (.int nn), .val (.int ((ushr p5 (11 : Int32)) &&& (3 : Int32))), .val (.ref b568), .val (.ref b568), .val (.ref b685), .val (.ref b685), .val (.ref b944), .unset, .unset] [(.ref b546)]) rfl ?_
        obtain ⟨T1080, X1080, e1080, st1080⟩ := castY X1079 hx hZ hown (hw _ (List.mem_of_getElem? (i := 54) rfl)) e1079 (Ins.self f1058) (g := (mkF m 411 #[.val (.int p0), .val (.int p1), .val (.int p2), .val (.long p3), .second, .val (.int p4), .val (.int p5), .val (.int (chr p0)), .val (.int (chr p1)), .val (.int (chr p2)), .val (.int (byt (chr p0))), .val (.int (byt (chr p1))), .val (.int (byt (chr p2))), .val (.ref b546), .val (.ref b568), .val (.ref b599), .val (.ref b639), .val (.ref b685), .val (.ref b740), .val (.int nn), .val (.int ((ushr p5 (11 : Int32)) &&& (3 : Int32))), .val (.ref b568), .val (.ref b568), .val (.ref b685), .val (.ref b685), .val (.ref b944), .unset, .unset] [(.ref b546)])) rfl rfl (hb hby at_411)
        refine Go.movp st1080 (mkF m 414 #[.val (.int p0), .val (.int p1), .val (.int p2), .val (.long p3), .second, .val (.int p4), .val (.int p5), .val (.int (chr p0)), .val (.int (chr p1)), .val (.int (chr p2)), .val (.int (byt (chr p0))), .val (.int (byt (chr p1))), .val (.int (byt (chr p2))), .val (.ref b546), .val (.ref b568), .val (.ref b599), .val (.ref b639), .val (.ref b685), .val (.ref b740), .val (.int nn), .val (.int ((ushr p5 (11 : Int32)) &&& (3 : Int32))), .val (.ref b568), .val (.ref b568), .val (.ref b685), .val (.ref b685), .val (.ref b944), .unset, .unset] [(.ref b546)]) rfl ?_
        refine g_astore X1080 hx (hb hby at_414) (pc' := 416) rfl rfl (Ls' := #[.val (.int p0), .val (.int p1), .val (.int p2), .val (.long p3), .second, .val (.int p4), .val (.int p5), .val (.int (chr p0)), .val (.int (chr p1)), .val (.int (chr p2)), .val (.int (byt (chr p0))), .val (.int (byt (chr p1))), .val (.int (byt (chr p2))), .val (.ref b546), .val (.ref b568), .val (.ref b599), .val (.ref b639), .val (.ref b685), .val (.ref b740), .val (.int nn), .val (.int ((ushr p5 (11 : Int32)) &&& (3 : Int32))), .val (.ref b568), .val (.ref b568), .val (.ref b685), .val (.ref b685), .val (.ref b944), .val (.ref b546), .unset]) rfl ?_
        refine g_aload X1080 hx (hb hby at_416) (pc' := 418) rfl rfl rfl ?_
        refine g_aload X1080 hx (hb hby at_418) (pc' := 420) rfl rfl rfl ?_
        refine g_acmp_eq X1080 hx (hb hby at_420) rfl rfl (pc1 := 423) rfl (by decide) (pc2 := 425) (by decide) (fun hc420 => ?_) (fun hc420 => absurd rfl hc420)
        refine g_iconst X1080 hx (hb hby at_425) (pc' := 426) rfl (z := (0 : Int32)) rfl ?_
        refine g_iload X1080 hx (hb hby at_426) (pc' := 428) rfl rfl ?_
        refine g_aload X1080 hx (hb hby at_428) (pc' := 430) rfl rfl rfl ?_
        refine g_aload X1080 hx (hb hby at_430) (pc' := 432) rfl rfl rfl ?_
        refine g_aload X1080 hx (hb hby at_432) (pc' := 434) rfl rfl rfl ?_
        refine g_iload X1080 hx (hb hby at_434) (pc' := 436) rfl rfl ?_
        refine g_iload X1080 hx (hb hby at_436) (pc' := 438) rfl rfl ?_
        refine g_iload X1080 hx (hb hby at_438) (pc' := 440) rfl rfl ?_
        refine g_aload X1080 hx (hb hby at_440) (pc' := 442) rfl rfl rfl ?_
        refine g_iconst X1080 hx (hb hby at_442) (pc' := 443) rfl (z := (0 : Int32)) rfl ?_
        refine g_baload X1080 hx hZ e1080 V1057 (i := 0) (v := (.int w0)) (hb hby at_443) (pc' := 444) rfl (by decide) rfl rfl ?_
        obtain ⟨v1081, T1081, h1081, L1081, X1081, e1081, N1081, q1081, st1081⟩ := h_static X1080 hx (W := 0) (Ls := #[.val (.int p0), .val (.int p1), .val (.int p2), .val (.long p3), .second, .val (.int p4), .val (.int p5), .val (.int (chr p0)), .val (.int (chr p1)), .val (.int (chr p2)), .val (.int (byt (chr p0))), .val (.int (byt (chr p1))), .val (.int (byt (chr p2))), .val (.ref b546), .val (.ref b568), .val (.ref b599), .val (.ref b639), .val (.ref b685), .val (.ref b740), .val (.int nn), .val (.int ((ushr p5 (11 : Int32)) &&& (3 : Int32))), .val (.ref b568), .val (.ref b568), .val (.ref b685), .val (.ref b685), .val (.ref b944), .val (.ref b546), .unset]) (argsL := [(.int (0 : Int32)), (.int nn), (.ref b639), (.ref b685), (.ref b685), (.int (byt (chr p0))), (.int (byt (chr p1))), (.int (byt (chr p2))), (.int w0)]) (rest := []) hZ e1080 N1057 hml hown (rm6_0 l Z a0 hw b639 b685 b685 u0 u1 u2 l0 l1 l2 l0 l1 l2 (byt (chr p0)) (byt (chr p1)) (byt (chr p2)) w0 nn h1057 n0 Z1078 f1064 f1066 f1066 (by rw [hw0, own_mk bu0 bl0 bl0 (byt_byt _) (byt_byt _) (byt_byt _)])) (hw _ (List.mem_of_getElem? (i := 55) rfl)) (hw _ (List.mem_of_getElem? (i := 56) rfl)) (hw _ (List.mem_of_getElem? (i := 3) rfl)) (hw _ (List.mem_of_getElem? (i := 57) rfl)) (by decide) pd__II_B_B_BBBBB_Z rfl rfl (hb hby at_444) rfl (by decide) (by decide) (by decide) (by decide)
        obtain ⟨rfl, rfl⟩ := q1081
        refine Go.movp st1081 (mkF m 447 #[.val (.int p0), .val (.int p1), .val (.int p2), .val (.long p3), .second, .val (.int p4), .val (.int p5), .val (.int (chr p0)), .val (.int (chr p1)), .val (.int (chr p2)), .val (.int (byt (chr p0))), .val (.int (byt (chr p1))), .val (.int (byt (chr p2))), .val (.ref b546), .val (.ref b568), .val (.ref b599), .val (.ref b639), .val (.ref b685), .val (.ref b740), .val (.int nn), .val (.int ((ushr p5 (11 : Int32)) &&& (3 : Int32))), .val (.ref b568), .val (.ref b568), .val (.ref b685), .val (.ref b685), .val (.ref b944), .val (.ref b546), .unset] [(.int (1 : Int32))]) rfl ?_
        refine g_if_eq X1081 hx (hb hby at_447) (pc1 := 450) rfl (by decide) (pc2 := 504) (by decide) (fun hc447 => absurd hc447 (by decide)) (fun hc447 => ?_)
        refine g_iconst X1081 hx (hb hby at_450) (pc' := 451) rfl (z := (1 : Int32)) rfl ?_
        refine g_iload X1081 hx (hb hby at_451) (pc' := 453) rfl rfl ?_
        refine g_aload X1081 hx (hb hby at_453) (pc' := 455) rfl rfl rfl ?_
        refine g_aload X1081 hx (hb hby at_455) (pc' := 457) rfl rfl rfl ?_
        refine g_aload X1081 hx (hb hby at_457) (pc' := 459) rfl rfl rfl ?_
        refine g_iload X1081 hx (hb hby at_459) (pc' := 461) rfl rfl ?_
        refine g_iload X1081 hx (hb hby at_461) (pc' := 463) rfl rfl ?_
        refine g_iload X1081 hx (hb hby at_463) (pc' := 465) rfl rfl ?_
        refine g_aload X1081 hx (hb hby at_465) (pc' := 467) rfl rfl rfl ?_
        refine g_iconst X1081 hx (hb hby at_467) (pc' := 468) rfl (z := (1 : Int32)) rfl ?_
        refine g_baload X1081 hx hZ e1081 V1057 (i := 1) (v := (.int w1)) (hb hby at_468) (pc' := 469) rfl (by decide) rfl rfl ?_
        obtain ⟨v1082, T1082, h1082, L1082, X1082, e1082, N1082, q1082, st1082⟩ := h_static X1081 hx (W := 0) (Ls := #[.val (.int p0), .val (.int p1), .val (.int p2), .val (.long p3), .second, .val (.int p4), .val (.int p5), .val (.int (chr p0)), .val (.int (chr p1)), .val (.int (chr p2)), .val (.int (byt (chr p0))), .val (.int (byt (chr p1))), .val (.int (byt (chr p2))), .val (.ref b546), .val (.ref b568), .val (.ref b599), .val (.ref b639), .val (.ref b685), .val (.ref b740), .val (.int nn), .val (.int ((ushr p5 (11 : Int32)) &&& (3 : Int32))), .val (.ref b568), .val (.ref b568), .val (.ref b685), .val (.ref b685), .val (.ref b944), .val (.ref b546), .unset]) (argsL := [(.int (1 : Int32)), (.int nn), (.ref b639), (.ref b685), (.ref b685), (.int (byt (chr p0))), (.int (byt (chr p1))), (.int (byt (chr p2))), (.int w1)]) (rest := []) hZ e1081 N1081 hml hown (rm6_1 l Z a0 hw b639 b685 b685 u0 u1 u2 l0 l1 l2 l0 l1 l2 (byt (chr p0)) (byt (chr p1)) (byt (chr p2)) w1 nn h1057 n0 Z1078 f1064 f1066 f1066 (by rw [hw1, own_mk bu1 bl1 bl1 (byt_byt _) (byt_byt _) (byt_byt _)])) (hw _ (List.mem_of_getElem? (i := 55) rfl)) (hw _ (List.mem_of_getElem? (i := 56) rfl)) (hw _ (List.mem_of_getElem? (i := 3) rfl)) (hw _ (List.mem_of_getElem? (i := 57) rfl)) (by decide) pd__II_B_B_BBBBB_Z rfl rfl (hb hby at_469) rfl (by decide) (by decide) (by decide) (by decide)
        obtain ⟨rfl, rfl⟩ := q1082
        refine Go.movp st1082 (mkF m 472 #[.val (.int p0), .val (.int p1), .val (.int p2), .val (.long p3), .second, .val (.int p4), .val (.int p5), .val (.int (chr p0)), .val (.int (chr p1)), .val (.int (chr p2)), .val (.int (byt (chr p0))), .val (.int (byt (chr p1))), .val (.int (byt (chr p2))), .val (.ref b546), .val (.ref b568), .val (.ref b599), .val (.ref b639), .val (.ref b685), .val (.ref b740), .val (.int nn), .val (.int ((ushr p5 (11 : Int32)) &&& (3 : Int32))), .val (.ref b568), .val (.ref b568), .val (.ref b685), .val (.ref b685), .val (.ref b944), .val (.ref b546), .unset] [(.int (1 : Int32))]) rfl ?_
        refine g_if_eq X1082 hx (hb hby at_472) (pc1 := 475) rfl (by decide) (pc2 := 504) (by decide) (fun hc472 => absurd hc472 (by decide)) (fun hc472 => ?_)
        refine g_iconst X1082 hx (hb hby at_475) (pc' := 476) rfl (z := (2 : Int32)) rfl ?_
        refine g_iload X1082 hx (hb hby at_476) (pc' := 478) rfl rfl ?_
        refine g_aload X1082 hx (hb hby at_478) (pc' := 480) rfl rfl rfl ?_
        refine g_aload X1082 hx (hb hby at_480) (pc' := 482) rfl rfl rfl ?_
        refine g_aload X1082 hx (hb hby at_482) (pc' := 484) rfl rfl rfl ?_
        refine g_iload X1082 hx (hb hby at_484) (pc' := 486) rfl rfl ?_
        refine g_iload X1082 hx (hb hby at_486) (pc' := 488) rfl rfl ?_
        refine g_iload X1082 hx (hb hby at_488) (pc' := 490) rfl rfl ?_
        refine g_aload X1082 hx (hb hby at_490) (pc' := 492) rfl rfl rfl ?_
        refine g_iconst X1082 hx (hb hby at_492) (pc' := 493) rfl (z := (2 : Int32)) rfl ?_
        refine g_baload X1082 hx hZ e1082 V1057 (i := 2) (v := (.int w2)) (hb hby at_493) (pc' := 494) rfl (by decide) rfl rfl ?_
        obtain ⟨v1083, T1083, h1083, L1083, X1083, e1083, N1083, q1083, st1083⟩ := h_static X1082 hx (W := 0) (Ls := #[.val (.int p0), .val (.int p1), .val (.int p2), .val (.long p3), .second, .val (.int p4), .val (.int p5), .val (.int (chr p0)), .val (.int (chr p1)), .val (.int (chr p2)), .val (.int (byt (chr p0))), .val (.int (byt (chr p1))), .val (.int (byt (chr p2))), .val (.ref b546), .val (.ref b568), .val (.ref b599), .val (.ref b639), .val (.ref b685), .val (.ref b740), .val (.int nn), .val (.int ((ushr p5 (11 : Int32)) &&& (3 : Int32))), .val (.ref b568), .val (.ref b568), .val (.ref b685), .val (.ref b685), .val (.ref b944), .val (.ref b546), .unset]) (argsL := [(.int (2 : Int32)), (.int nn), (.ref b639), (.ref b685), (.ref b685), (.int (byt (chr p0))), (.int (byt (chr p1))), (.int (byt (chr p2))), (.int w2)]) (rest := []) hZ e1082 N1082 hml hown (rm6_2 l Z a0 hw b639 b685 b685 u0 u1 u2 l0 l1 l2 l0 l1 l2 (byt (chr p0)) (byt (chr p1)) (byt (chr p2)) w2 nn h1057 n0 Z1078 f1064 f1066 f1066 (by rw [hw2, own_mk bu2 bl2 bl2 (byt_byt _) (byt_byt _) (byt_byt _)])) (hw _ (List.mem_of_getElem? (i := 55) rfl)) (hw _ (List.mem_of_getElem? (i := 56) rfl)) (hw _ (List.mem_of_getElem? (i := 3) rfl)) (hw _ (List.mem_of_getElem? (i := 57) rfl)) (by decide) pd__II_B_B_BBBBB_Z rfl rfl (hb hby at_494) rfl (by decide) (by decide) (by decide) (by decide)
        obtain ⟨rfl, rfl⟩ := q1083
        refine Go.movp st1083 (mkF m 497 #[.val (.int p0), .val (.int p1), .val (.int p2), .val (.long p3), .second, .val (.int p4), .val (.int p5), .val (.int (chr p0)), .val (.int (chr p1)), .val (.int (chr p2)), .val (.int (byt (chr p0))), .val (.int (byt (chr p1))), .val (.int (byt (chr p2))), .val (.ref b546), .val (.ref b568), .val (.ref b599), .val (.ref b639), .val (.ref b685), .val (.ref b740), .val (.int nn), .val (.int ((ushr p5 (11 : Int32)) &&& (3 : Int32))), .val (.ref b568), .val (.ref b568), .val (.ref b685), .val (.ref b685), .val (.ref b944), .val (.ref b546), .unset] [(.int (1 : Int32))]) rfl ?_
        refine g_if_eq X1083 hx (hb hby at_497) (pc1 := 500) rfl (by decide) (pc2 := 504) (by decide) (fun hc497 => absurd hc497 (by decide)) (fun hc497 => ?_)
        refine g_iconst X1083 hx (hb hby at_500) (pc' := 501) rfl (z := (1 : Int32)) rfl ?_
        refine g_goto X1083 hx (hb hby at_501) (by decide) (pc' := 505) (by decide) ?_
        refine g_istore X1083 hx (hb hby at_505) (pc' := 507) rfl (Ls' := #[.val (.int p0), .val (.int p1), .val (.int p2), .val (.long p3), .second, .val (.int p4), .val (.int p5), .val (.int (chr p0)), .val (.int (chr p1)), .val (.int (chr p2)), .val (.int (byt (chr p0))), .val (.int (byt (chr p1))), .val (.int (byt (chr p2))), .val (.ref b546), .val (.ref b568), .val (.ref b599), .val (.ref b639), .val (.ref b685), .val (.ref b740), .val (.int nn), .val (.int ((ushr p5 (11 : Int32)) &&& (3 : Int32))), .val (.ref b568), .val (.ref b568), .val (.ref b685), .val (.ref b685), .val (.ref b944), .val (.ref b546), .val (.int (1 : Int32))]) rfl ?_
        refine g_aload X1083 hx (hb hby at_507) (pc' := 509) rfl rfl rfl ?_
        refine g_aload X1083 hx (hb hby at_509) (pc' := 511) rfl rfl rfl ?_
        refine g_acmp_eq X1083 hx (hb hby at_511) rfl rfl (pc1 := 514) rfl (by decide) (pc2 := 559) (by decide) (fun hc511 => absurd hc511 (fun q => (Ne.symm ne569) (Value.ref.inj q))) (fun hc511 => ?_)
        refine g_iload X1083 hx (hb hby at_514) (pc' := 516) rfl rfl ?_
        refine g_if_eq X1083 hx (hb hby at_516) (pc1 := 519) rfl (by decide) (pc2 := 556) (by decide) (fun hc516 => absurd hc516 (by decide)) (fun hc516 => ?_)
        refine g_aload X1083 hx (hb hby at_519) (pc' := 521) rfl rfl rfl ?_
        refine g_iconst X1083 hx (hb hby at_521) (pc' := 522) rfl (z := (0 : Int32)) rfl ?_
        refine g_baload X1083 hx hZ e1083 f1060 (i := 0) (v := (.int l0)) (hb hby at_522) (pc' := 523) rfl (by decide) rfl rfl ?_
        refine g_aload X1083 hx (hb hby at_523) (pc' := 525) rfl rfl rfl ?_
        refine g_iconst X1083 hx (hb hby at_525) (pc' := 526) rfl (z := (0 : Int32)) rfl ?_
        refine g_baload X1083 hx hZ e1083 f1066 (i := 0) (v := (.int l0)) (hb hby at_526) (pc' := 527) rfl (by decide) rfl rfl ?_
        refine g_icmp_ne X1083 hx (hb hby at_527) (pc1 := 530) rfl (by decide) (pc2 := 556) (by decide) (fun hc527 => absurd rfl hc527) (fun hc527 => ?_)
        refine g_aload X1083 hx (hb hby at_530) (pc' := 532) rfl rfl rfl ?_
        refine g_iconst X1083 hx (hb hby at_532) (pc' := 533) rfl (z := (1 : Int32)) rfl ?_
        refine g_baload X1083 hx hZ e1083 f1060 (i := 1) (v := (.int l1)) (hb hby at_533) (pc' := 534) rfl (by decide) rfl rfl ?_
        refine g_aload X1083 hx (hb hby at_534) (pc' := 536) rfl rfl rfl ?_
        refine g_iconst X1083 hx (hb hby at_536) (pc' := 537) rfl (z := (1 : Int32)) rfl ?_
        refine g_baload X1083 hx hZ e1083 f1066 (i := 1) (v := (.int l1)) (hb hby at_537) (pc' := 538) rfl (by decide) rfl rfl ?_
        refine g_icmp_ne X1083 hx (hb hby at_538) (pc1 := 541) rfl (by decide) (pc2 := 556) (by decide) (fun hc538 => absurd rfl hc538) (fun hc538 => ?_)
        refine g_aload X1083 hx (hb hby at_541) (pc' := 543) rfl rfl rfl ?_
        refine g_iconst X1083 hx (hb hby at_543) (pc' := 544) rfl (z := (2 : Int32)) rfl ?_
        refine g_baload X1083 hx hZ e1083 f1060 (i := 2) (v := (.int l2)) (hb hby at_544) (pc' := 545) rfl (by decide) rfl rfl ?_
        refine g_aload X1083 hx (hb hby at_545) (pc' := 547) rfl rfl rfl ?_
        refine g_iconst X1083 hx (hb hby at_547) (pc' := 548) rfl (z := (2 : Int32)) rfl ?_
        refine g_baload X1083 hx hZ e1083 f1066 (i := 2) (v := (.int l2)) (hb hby at_548) (pc' := 549) rfl (by decide) rfl rfl ?_
        refine g_icmp_ne X1083 hx (hb hby at_549) (pc1 := 552) rfl (by decide) (pc2 := 556) (by decide) (fun hc549 => absurd rfl hc549) (fun hc549 => ?_)
        refine g_iconst X1083 hx (hb hby at_552) (pc' := 553) rfl (z := (1 : Int32)) rfl ?_
        refine g_goto X1083 hx (hb hby at_553) (by decide) (pc' := 557) (by decide) ?_
        refine g_istore X1083 hx (hb hby at_557) (pc' := 559) rfl (Ls' := #[.val (.int p0), .val (.int p1), .val (.int p2), .val (.long p3), .second, .val (.int p4), .val (.int p5), .val (.int (chr p0)), .val (.int (chr p1)), .val (.int (chr p2)), .val (.int (byt (chr p0))), .val (.int (byt (chr p1))), .val (.int (byt (chr p2))), .val (.ref b546), .val (.ref b568), .val (.ref b599), .val (.ref b639), .val (.ref b685), .val (.ref b740), .val (.int nn), .val (.int ((ushr p5 (11 : Int32)) &&& (3 : Int32))), .val (.ref b568), .val (.ref b568), .val (.ref b685), .val (.ref b685), .val (.ref b944), .val (.ref b546), .val (.int (1 : Int32))]) rfl ?_
        refine g_aload X1083 hx (hb hby at_559) (pc' := 561) rfl rfl rfl ?_
        refine g_aload X1083 hx (hb hby at_561) (pc' := 563) rfl rfl rfl ?_
        refine g_acmp_eq X1083 hx (hb hby at_563) rfl rfl (pc1 := 566) rfl (by decide) (pc2 := 611) (by decide) (fun hc563 => absurd hc563 (fun q => (Ne.symm ne569) (Value.ref.inj q))) (fun hc563 => ?_)
        refine g_iload X1083 hx (hb hby at_566) (pc' := 568) rfl rfl ?_
        refine g_if_eq X1083 hx (hb hby at_568) (pc1 := 571) rfl (by decide) (pc2 := 608) (by decide) (fun hc568 => absurd hc568 (by decide)) (fun hc568 => ?_)
        refine g_aload X1083 hx (hb hby at_571) (pc' := 573) rfl rfl rfl ?_
        refine g_iconst X1083 hx (hb hby at_573) (pc' := 574) rfl (z := (0 : Int32)) rfl ?_
        refine g_baload X1083 hx hZ e1083 f1060 (i := 0) (v := (.int l0)) (hb hby at_574) (pc' := 575) rfl (by decide) rfl rfl ?_
        refine g_aload X1083 hx (hb hby at_575) (pc' := 577) rfl rfl rfl ?_
        refine g_iconst X1083 hx (hb hby at_577) (pc' := 578) rfl (z := (0 : Int32)) rfl ?_
        refine g_baload X1083 hx hZ e1083 f1066 (i := 0) (v := (.int l0)) (hb hby at_578) (pc' := 579) rfl (by decide) rfl rfl ?_
        refine g_icmp_ne X1083 hx (hb hby at_579) (pc1 := 582) rfl (by decide) (pc2 := 608) (by decide) (fun hc579 => absurd rfl hc579) (fun hc579 => ?_)
        refine g_aload X1083 hx (hb hby at_582) (pc' := 584) rfl rfl rfl ?_
        refine g_iconst X1083 hx (hb hby at_584) (pc' := 585) rfl (z := (1 : Int32)) rfl ?_
        refine g_baload X1083 hx hZ e1083 f1060 (i := 1) (v := (.int l1)) (hb hby at_585) (pc' := 586) rfl (by decide) rfl rfl ?_
        refine g_aload X1083 hx (hb hby at_586) (pc' := 588) rfl rfl rfl ?_
        refine g_iconst X1083 hx (hb hby at_588) (pc' := 589) rfl (z := (1 : Int32)) rfl ?_
        refine g_baload X1083 hx hZ e1083 f1066 (i := 1) (v := (.int l1)) (hb hby at_589) (pc' := 590) rfl (by decide) rfl rfl ?_
        refine g_icmp_ne X1083 hx (hb hby at_590) (pc1 := 593) rfl (by decide) (pc2 := 608) (by decide) (fun hc590 => absurd rfl hc590) (fun hc590 => ?_)
        refine g_aload X1083 hx (hb hby at_593) (pc' := 595) rfl rfl rfl ?_
        refine g_iconst X1083 hx (hb hby at_595) (pc' := 596) rfl (z := (2 : Int32)) rfl ?_
        refine g_baload X1083 hx hZ e1083 f1060 (i := 2) (v := (.int l2)) (hb hby at_596) (pc' := 597) rfl (by decide) rfl rfl ?_
        refine g_aload X1083 hx (hb hby at_597) (pc' := 599) rfl rfl rfl ?_
        refine g_iconst X1083 hx (hb hby at_599) (pc' := 600) rfl (z := (2 : Int32)) rfl ?_
        refine g_baload X1083 hx hZ e1083 f1066 (i := 2) (v := (.int l2)) (hb hby at_600) (pc' := 601) rfl (by decide) rfl rfl ?_
        refine g_icmp_ne X1083 hx (hb hby at_601) (pc1 := 604) rfl (by decide) (pc2 := 608) (by decide) (fun hc601 => absurd rfl hc601) (fun hc601 => ?_)
        refine g_iconst X1083 hx (hb hby at_604) (pc' := 605) rfl (z := (1 : Int32)) rfl ?_
        refine g_goto X1083 hx (hb hby at_605) (by decide) (pc' := 609) (by decide) ?_
        refine g_istore X1083 hx (hb hby at_609) (pc' := 611) rfl (Ls' := #[.val (.int p0), .val (.int p1), .val (.int p2), .val (.long p3), .second, .val (.int p4), .val (.int p5), .val (.int (chr p0)), .val (.int (chr p1)), .val (.int (chr p2)), .val (.int (byt (chr p0))), .val (.int (byt (chr p1))), .val (.int (byt (chr p2))), .val (.ref b546), .val (.ref b568), .val (.ref b599), .val (.ref b639), .val (.ref b685), .val (.ref b740), .val (.int nn), .val (.int ((ushr p5 (11 : Int32)) &&& (3 : Int32))), .val (.ref b568), .val (.ref b568), .val (.ref b685), .val (.ref b685), .val (.ref b944), .val (.ref b546), .val (.int (1 : Int32))]) rfl ?_
        refine g_iload X1083 hx (hb hby at_611) (pc' := 613) rfl rfl ?_
        exact g_zreturn X1083 hx rfl hret (hb hby at_613) N1083 hlk (fun v t => endF (by decide) (by decide) v) (by rw [e1083]; exact rfl)
    · skip
      refine g_aload X789 hx (hb hby at_301) (pc' := 303) rfl rfl rfl ?_
      refine g_astore X789 hx (hb hby at_303) (pc' := 305) rfl rfl (Ls' := #[.val (.int p0), .val (.int p1), .val (.int p2), .val (.long p3), .second, .val (.int p4), .val (.int p5), .val (.int (chr p0)), .val (.int (chr p1)), .val (.int (chr p2)), .val (.int (byt (chr p0))), .val (.int (byt (chr p1))), .val (.int (byt (chr p2))), .val (.ref b546), .val (.ref b568), .val (.ref b599), .val (.ref b639), .val (.ref b685), .val (.ref b740), .val (.int nn), .val (.int ((ushr p5 (11 : Int32)) &&& (3 : Int32))), .val (.ref b546), .unset, .unset, .unset, .unset, .unset, .unset]) rfl ?_
      refine g_aload X789 hx (hb hby at_305) (pc' := 307) rfl rfl rfl ?_
      refine g_astore X789 hx (hb hby at_307) (pc' := 309) rfl rfl (Ls' := #[.val (.int p0), .val (.int p1), .val (.int p2), .val (.long p3), .second, .val (.int p4), .val (.int p5), .val (.int (chr p0)), .val (.int (chr p1)), .val (.int (chr p2)), .val (.int (byt (chr p0))), .val (.int (byt (chr p1))), .val (.int (byt (chr p2))), .val (.ref b546), .val (.ref b568), .val (.ref b599), .val (.ref b639), .val (.ref b685), .val (.ref b740), .val (.int nn), .val (.int ((ushr p5 (11 : Int32)) &&& (3 : Int32))), .val (.ref b546), .val (.ref b599), .unset, .unset, .unset, .unset, .unset]) rfl ?_
      refine g_aload X789 hx (hb hby at_309) (pc' := 311) rfl rfl rfl ?_
      refine g_astore X789 hx (hb hby at_311) (pc' := 313) rfl rfl (Ls' := #[.val (.int p0), .val (.int p1), .val (.int p2), .val (.long p3), .second, .val (.int p4), .val (.int p5), .val (.int (chr p0)), .val (.int (chr p1)), .val (.int (chr p2)), .val (.int (byt (chr p0))), .val (.int (byt (chr p1))), .val (.int (byt (chr p2))), .val (.ref b546), .val (.ref b568), .val (.ref b599), .val (.ref b639), .val (.ref b685), .val (.ref b740), .val (.int nn), .val (.int ((ushr p5 (11 : Int32)) &&& (3 : Int32))), .val (.ref b546), .val (.ref b599), .val (.ref b639), .unset, .unset, .unset, .unset]) rfl ?_
      refine g_aload X789 hx (hb hby at_313) (pc' := 315) rfl rfl rfl ?_
      refine g_astore X789 hx (hb hby at_315) (pc' := 317) rfl rfl (Ls' := #[.val (.int p0), .val (.int p1), .val (.int p2), .val (.long p3), .second, .val (.int p4), .val (.int p5), .val (.int (chr p0)), .val (.int (chr p1)), .val (.int (chr p2)), .val (.int (byt (chr p0))), .val (.int (byt (chr p1))), .val (.int (byt (chr p2))), .val (.ref b546), .val (.ref b568), .val (.ref b599), .val (.ref b639), .val (.ref b685), .val (.ref b740), .val (.int nn), .val (.int ((ushr p5 (11 : Int32)) &&& (3 : Int32))), .val (.ref b546), .val (.ref b599), .val (.ref b639), .val (.ref b740), .unset, .unset, .unset]) rfl ?_
      refine g_goto X789 hx (hb hby at_317) (by decide) (pc' := 361) (by decide) ?_
      obtain ⟨T1084, h1084, X1084, e1084, E1084, A1084, D1084, -, st1084⟩ := newO X789 hx hZ hown (hw _ (List.mem_of_getElem? (i := 5) rfl)) (hw _ (List.mem_of_getElem? (i := 6) rfl)) (hw _ (List.mem_of_getElem? (i := 7) rfl)) e789 (g := (mkF m 361 #[.val (.int p0), .val (.int p1), .val (.int p2), .val (.long p3), .second, .val (.int p4), .val (.int p5), .val (.int (chr p0)), .val (.int (chr p1)), .val (.int (chr p2)), .val (.int (byt (chr p0))), .val (.int (byt (chr p1))), .val (.int (byt (chr p2))), .val (.ref b546), .val (.ref b568), .val (.ref b599), .val (.ref b639), .val (.ref b685), .val (.ref b740), .val (.int nn), .val (.int ((ushr p5 (11 : Int32)) &&& (3 : Int32))), .val (.ref b546), .val (.ref b599), .val (.ref b639), .val (.ref b740), .unset, .unset, .unset] [])) rfl (hb hby at_361) (by decide) (by decide)
      obtain ⟨b1084, g1084⟩ : ∃ z, z = h789.size := ⟨_, rfl⟩
      rw [← g1084] at A1084 D1084 st1084
      have ne1085 : b546 ≠ b1084 := Nat.ne_of_lt (g1084 ▸ f790.lt)
      have ne1086 : b568 ≠ b1084 := Nat.ne_of_lt (g1084 ▸ f792.lt)
      have ne1087 : b599 ≠ b1084 := Nat.ne_of_lt (g1084 ▸ f794.lt)
      have ne1088 : b639 ≠ b1084 := Nat.ne_of_lt (g1084 ▸ f796.lt)
      have ne1089 : b685 ≠ b1084 := Nat.ne_of_lt (g1084 ▸ f798.lt)
      have ne1090 : b740 ≠ b1084 := Nat.ne_of_lt (g1084 ▸ f800.lt)
      have ge1091 : n0 ≤ b1084 := g1084 ▸ Z801
      have f1092 := Exa.ext E1084 f790
      have f1093 := f791.ext E1084
      have f1094 := Exa.ext E1084 f792
      have f1095 := f793.ext E1084
      have f1096 := Exa.ext E1084 f794
      have f1097 := f795.ext E1084
      have f1098 := Exa.ext E1084 f796
      have f1099 := f797.ext E1084
      have f1100 := Exa.ext E1084 f798
      have f1101 := f799.ext E1084
      have f1102 := Exa.ext E1084 f800
      have f1103 := f803.ext E1084
      have Z1104 : n0 ≤ h1084.size := Nat.le_trans Z801 E1084.1
      have f1105 : Fld Z h1084 b1084 "com/example/needlework/needlework/PackedBlock" "first" "I" (.int (0 : Int32)) := D1084 (Or.inr (hw _ (List.mem_of_getElem? (i := 20) rfl))) (ty := .int) (by decide)
      have f1106 : Fld Z h1084 b1084 "com/example/needlework/needlework/PackedBlock" "last" "I" (.int (0 : Int32)) := D1084 (Or.inr (hw _ (List.mem_of_getElem? (i := 22) rfl))) (ty := .int) (by decide)
      have f1107 : Fld Z h1084 b1084 "com/example/needlework/needlework/PackedBlock" "middle" "I" (.int (0 : Int32)) := D1084 (Or.inr (hw _ (List.mem_of_getElem? (i := 24) rfl))) (ty := .int) (by decide)
      have f1108 : Fld Z h1084 b1084 "com/example/needlework/needlework/PackedBlock" "lastOffset" "I" (.int (0 : Int32)) := D1084 (Or.inr (hw _ (List.mem_of_getElem? (i := 26) rfl))) (ty := .int) (by decide)
      have f1109 : Fld Z h1084 b1084 "com/example/needlework/needlework/PackedBlock" "middleOffset" "I" (.int (0 : Int32)) := D1084 (Or.inr (hw _ (List.mem_of_getElem? (i := 28) rfl))) (ty := .int) (by decide)
      have f1110 : Fld Z h1084 b1084 "com/example/needlework/needlework/PackedBlock" "units" "Ljava/lang/Object;" .null := D1084 (Or.inl (hw _ (List.mem_of_getElem? (i := 31) rfl))) (ty := (.object "java/lang/Object")) (by decide)
      have f1111 : Fld Z h1084 b1084 "com/example/needlework/needlework/PackedBlock" "lasts" "Ljava/lang/Object;" .null := D1084 (Or.inl (hw _ (List.mem_of_getElem? (i := 34) rfl))) (ty := (.object "java/lang/Object")) (by decide)
      have f1112 : Fld Z h1084 b1084 "com/example/needlework/needlework/PackedBlock" "middles" "Ljava/lang/Object;" .null := D1084 (Or.inl (hw _ (List.mem_of_getElem? (i := 37) rfl))) (ty := (.object "java/lang/Object")) (by decide)
      refine Go.movp st1084 (mkF m 364 #[.val (.int p0), .val (.int p1), .val (.int p2), .val (.long p3), .second, .val (.int p4), .val (.int p5), .val (.int (chr p0)), .val (.int (chr p1)), .val (.int (chr p2)), .val (.int (byt (chr p0))), .val (.int (byt (chr p1))), .val (.int (byt (chr p2))), .val (.ref b546), .val (.ref b568), .val (.ref b599), .val (.ref b639), .val (.ref b685), .val (.ref b740), .val (.int nn), .val (.int ((ushr p5 (11 : Int32)) &&& (3 : Int32))), .val (.ref b546), .val (.ref b599), .val (.ref b639), .val (.ref b740), .unset, .unset, .unset] [(.ref b1084)]) rfl ?_
      refine g_dup X1084 hx (hb hby at_364) (pc' := 365) rfl rfl ?_
      refine g_iload X1084 hx (hb hby at_365) (pc' := 367) rfl rfl ?_
      refine g_iload X1084 hx (hb hby at_367) (pc' := 369) rfl rfl ?_
      refine g_iload X1084 hx (hb hby at_369) (pc' := 371) rfl rfl ?_
      refine g_iconst X1084 hx (hb hby at_371) (pc' := 372) rfl (z := (0 : Int32)) rfl ?_
      refine g_iconst X1084 hx (hb hby at_372) (pc' := 373) rfl (z := (0 : Int32)) rfl ?_
      obtain ⟨v1113, T1113, h1113, L1113, X1113, e1113, N1113, q1113, st1113⟩ := h_special (a := b1084) X1084 hx (W := 1) (Ls := #[.val (.int p0), .val (.int p1), .val (.int p2), .val (.long p3), .second, .val (.int p4), .val (.int p5), .val (.int (chr p0)), .val (.int (chr p1)), .val (.int (chr p2)), .val (.int (byt (chr p0))), .val (.int (byt (chr p1))), .val (.int (byt (chr p2))), .val (.ref b546), .val (.ref b568), .val (.ref b599), .val (.ref b639), .val (.ref b685), .val (.ref b740), .val (.int nn), .val (.int ((ushr p5 (11 : Int32)) &&& (3 : Int32))), .val (.ref b546), .val (.ref b599), .val (.ref b639), .val (.ref b740), .unset, .unset, .unset]) (argsL := [(.int (chr p0)), (.int (chr p1)), (.int (chr p2)), (.int (0 : Int32)), (.int (0 : Int32))]) (rest := [(.ref b1084)]) hZ e1084 N789 hml hown rfl (rm2 l Z a0 hw b1084 (chr p0) (chr p1) (chr p2) (0 : Int32) (0 : Int32) h1084 n0 Z1104 f1105 f1106 f1107 f1108 f1109 f1110 f1111 f1112 A1084 ge1091) (hw _ (List.mem_of_getElem? (i := 8) rfl)) (hw _ (List.mem_of_getElem? (i := 9) rfl)) (hw _ (List.mem_of_getElem? (i := 7) rfl)) (hw _ (List.mem_of_getElem? (i := 10) rfl)) (by decide) pd__CCCII_V rfl rfl (hb hby at_373) rfl (by decide) (by decide) (by decide) (by decide)
      obtain ⟨rfl, K1113, A1113, C0_1113, C1_1113, C2_1113, C3_1113, C4_1113, C5_1113, C6_1113, C7_1113⟩ := q1113
      have f1114 := f1092.keep K1113
      have f1115 := f1093.keep K1113 (ninS ne1085 nin0)
      have f1116 := f1094.keep K1113
      have f1117 := f1095.keep K1113 (ninS ne1086 nin0)
      have f1118 := f1096.keep K1113
      have f1119 := f1097.keep K1113 (ninS ne1087 nin0)
      have f1120 := f1098.keep K1113
      have f1121 := f1099.keep K1113 (ninS ne1088 nin0)
      have f1122 := f1100.keep K1113
      have f1123 := f1101.keep K1113 (ninS ne1089 nin0)
      have f1124 := f1102.keep K1113
      have f1125 := f1103.keep K1113 (ninS ne1090 nin0)
      have f1126 := A1084.keep K1113
      have Z1127 : n0 ≤ h1113.size := Nat.le_trans Z1104 K1113.1
      refine Go.movp st1113 (mkF m 376 #[.val (.int p0), .val (.int p1), .val (.int p2), .val (.long p3), .second, .val (.int p4), .val (.int p5), .val (.int (chr p0)), .val (.int (chr p1)), .val (.int (chr p2)), .val (.int (byt (chr p0))), .val (.int (byt (chr p1))), .val (.int (byt (chr p2))), .val (.ref b546), .val (.ref b568), .val (.ref b599), .val (.ref b639), .val (.ref b685), .val (.ref b740), .val (.int nn), .val (.int ((ushr p5 (11 : Int32)) &&& (3 : Int32))), .val (.ref b546), .val (.ref b599), .val (.ref b639), .val (.ref b740), .unset, .unset, .unset] [(.ref b1084)]) rfl ?_
      refine g_astore X1113 hx (hb hby at_376) (pc' := 378) rfl rfl (Ls' := #[.val (.int p0), .val (.int p1), .val (.int p2), .val (.long p3), .second, .val (.int p4), .val (.int p5), .val (.int (chr p0)), .val (.int (chr p1)), .val (.int (chr p2)), .val (.int (byt (chr p0))), .val (.int (byt (chr p1))), .val (.int (byt (chr p2))), .val (.ref b546), .val (.ref b568), .val (.ref b599), .val (.ref b639), .val (.ref b685), .val (.ref b740), .val (.int nn), .val (.int ((ushr p5 (11 : Int32)) &&& (3 : Int32))), .val (.ref b546), .val (.ref b599), .val (.ref b639), .val (.ref b740), .val (.ref b1084), .unset, .unset]) rfl ?_
      refine g_aload X1113 hx (hb hby at_378) (pc' := 380) rfl rfl rfl ?_
      refine g_aload X1113 hx (hb hby at_380) (pc' := 382) rfl rfl rfl ?_
      obtain ⟨T1128, h1128, X1128, e1128, W1128, st1128⟩ := putF X1113 hx hZ hown (host := "") (Or.inl (hw _ (List.mem_of_getElem? (i := 29) rfl))) (Via.of (hw _ (List.mem_of_getElem? (i := 30) rfl))) e1113 C5_1113 A1113 (Or.inl (hw _ (List.mem_of_getElem? (i := 31) rfl))) (hw _ (List.mem_of_getElem? (i := 6) rfl)) (ty := (.object "java/lang/Object")) (by decide) rfl rfl (g := (mkF m 382 #[.val (.int p0), .val (.int p1), .val (.int p2), .val (.long p3), .second, .val (.int p4), .val (.int p5), .val (.int (chr p0)), .val (.int (chr p1)), .val (.int (chr p2)), .val (.int (byt (chr p0))), .val (.int (byt (chr p1))), .val (.int (byt (chr p2))), .val (.ref b546), .val (.ref b568), .val (.ref b599), .val (.ref b639), .val (.ref b685), .val (.ref b740), .val (.int nn), .val (.int ((ushr p5 (11 : Int32)) &&& (3 : Int32))), .val (.ref b546), .val (.ref b599), .val (.ref b639), .val (.ref b740), .val (.ref b1084), .unset, .unset] [(.ref b546), (.ref b1084)])) rfl rfl (hb hby at_382)
      have f1129 : Fld Z h1128 b1084 "com/example/needlework/needlework/PackedBlock" "units" "Ljava/lang/Object;" (.ref b546) := Fld.same W1128 C5_1113
      have N1128 := Fr.snoc X1128 N1113 ge1091
      have f1130 := Exa.wr W1128 f1114
      have f1131 := f1115.other W1128 ne1085
      have f1132 := Exa.wr W1128 f1116
      have f1133 := f1117.other W1128 ne1086
      have f1134 := Exa.wr W1128 f1118
      have f1135 := f1119.other W1128 ne1087
      have f1136 := Exa.wr W1128 f1120
      have f1137 := f1121.other W1128 ne1088
      have f1138 := Exa.wr W1128 f1122
      have f1139 := f1123.other W1128 ne1089
      have f1140 := Exa.wr W1128 f1124
      have f1141 := f1125.other W1128 ne1090
      have f1142 := Exa.wr W1128 A1113
      have f1143 := Fld.other W1128 C0_1113 (Or.inr (slot_ne (Or.inr (hw _ (List.mem_of_getElem? (i := 20) rfl))) (Or.inl (hw _ (List.mem_of_getElem? (i := 31) rfl))) (by decide) (t := .int) (t' := (.object "java/lang/Object")) (by decide) (by decide)))
      have f1144 := Fld.other W1128 C1_1113 (Or.inr (slot_ne (Or.inr (hw _ (List.mem_of_getElem? (i := 22) rfl))) (Or.inl (hw _ (List.mem_of_getElem? (i := 31) rfl))) (by decide) (t := .int) (t' := (.object "java/lang/Object")) (by decide) (by decide)))
      have f1145 := Fld.other W1128 C2_1113 (Or.inr (slot_ne (Or.inr (hw _ (List.mem_of_getElem? (i := 24) rfl))) (Or.inl (hw _ (List.mem_of_getElem? (i := 31) rfl))) (by decide) (t := .int) (t' := (.object "java/lang/Object")) (by decide) (by decide)))
      have f1146 := Fld.other W1128 C3_1113 (Or.inr (slot_ne (Or.inr (hw _ (List.mem_of_getElem? (i := 26) rfl))) (Or.inl (hw _ (List.mem_of_getElem? (i := 31) rfl))) (by decide) (t := .int) (t' := (.object "java/lang/Object")) (by decide) (by decide)))
      have f1147 := Fld.other W1128 C4_1113 (Or.inr (slot_ne (Or.inr (hw _ (List.mem_of_getElem? (i := 28) rfl))) (Or.inl (hw _ (List.mem_of_getElem? (i := 31) rfl))) (by decide) (t := .int) (t' := (.object "java/lang/Object")) (by decide) (by decide)))
      have f1148 := Fld.other W1128 C6_1113 (Or.inr (slot_ne (Or.inl (hw _ (List.mem_of_getElem? (i := 34) rfl))) (Or.inl (hw _ (List.mem_of_getElem? (i := 31) rfl))) (by decide) (t := (.object "java/lang/Object")) (t' := (.object "java/lang/Object")) (by decide) (by decide)))
      have f1149 := Fld.other W1128 C7_1113 (Or.inr (slot_ne (Or.inl (hw _ (List.mem_of_getElem? (i := 37) rfl))) (Or.inl (hw _ (List.mem_of_getElem? (i := 31) rfl))) (by decide) (t := (.object "java/lang/Object")) (t' := (.object "java/lang/Object")) (by decide) (by decide)))
      have Z1150 : n0 ≤ h1128.size := Nat.le_trans Z1127 (Keep.of_wr W1128).1
      refine Go.movp st1128 (mkF m 385 #[.val (.int p0), .val (.int p1), .val (.int p2), .val (.long p3), .second, .val (.int p4), .val (.int p5), .val (.int (chr p0)), .val (.int (chr p1)), .val (.int (chr p2)), .val (.int (byt (chr p0))), .val (.int (byt (chr p1))), .val (.int (byt (chr p2))), .val (.ref b546), .val (.ref b568), .val (.ref b599), .val (.ref b639), .val (.ref b685), .val (.ref b740), .val (.int nn), .val (.int ((ushr p5 (11 : Int32)) &&& (3 : Int32))), .val (.ref b546), .val (.ref b599), .val (.ref b639), .val (.ref b740), .val (.ref b1084), .unset, .unset] []) rfl ?_
      refine g_aload X1128 hx (hb hby at_385) (pc' := 387) rfl rfl rfl ?_
      refine g_aload X1128 hx (hb hby at_387) (pc' := 389) rfl rfl rfl ?_
      obtain ⟨T1151, h1151, X1151, e1151, W1151, st1151⟩ := putF X1128 hx hZ hown (host := "") (Or.inl (hw _ (List.mem_of_getElem? (i := 32) rfl))) (Via.of (hw _ (List.mem_of_getElem? (i := 33) rfl))) e1128 f1148 f1142 (Or.inl (hw _ (List.mem_of_getElem? (i := 34) rfl))) (hw _ (List.mem_of_getElem? (i := 6) rfl)) (ty := (.object "java/lang/Object")) (by decide) rfl rfl (g := (mkF m 389 #[.val (.int p0), .val (.int p1), .val (.int p2), .val (.long p3), .second, .val (.int p4), .val (.int p5), .val (.int (chr p0)), .val (.int (chr p1)), .val (.int (chr p2)), .val (.int (byt (chr p0))), .val (.int (byt (chr p1))), .val (.int (byt (chr p2))), .val (.ref b546), .val (.ref b568), .val (.ref b599), .val (.ref b639), .val (.ref b685), .val (.ref b740), .val (.int nn), .val (.int ((ushr p5 (11 : Int32)) &&& (3 : Int32))), .val (.ref b546), .val (.ref b599), .val (.ref b639), .val (.ref b740), .val (.ref b1084), .unset, .unset] [(.ref b546), (.ref b1084)])) rfl rfl (hb hby at_389)
      have f1152 : Fld Z h1151 b1084 "com/example/needlework/needlework/PackedBlock" "lasts" "Ljava/lang/Object;" (.ref b546) := Fld.same W1151 f1148
      have N1151 := Fr.snoc X1151 N1128 ge1091
      have f1153 := Exa.wr W1151 f1130
      have f1154 := f1131.other W1151 ne1085
      have f1155 := Exa.wr W1151 f1132
      have f1156 := f1133.other W1151 ne1086
      have f1157 := Exa.wr W1151 f1134
      have f1158 := f1135.other W1151 ne1087
      have f1159 := Exa.wr W1151 f1136
      have f1160 := f1137.other W1151 ne1088
      have f1161 := Exa.wr W1151 f1138
      have f1162 := f1139.other W1151 ne1089
      have f1163 := Exa.wr W1151 f1140
      have f1164 := f1141.other W1151 ne1090
      have f1165 := Exa.wr W1151 f1142
      have f1166 := Fld.other W1151 f1143 (Or.inr (slot_ne (Or.inr (hw _ (List.mem_of_getElem? (i := 20) rfl))) (Or.inl (hw _ (List.mem_of_getElem? (i := 34) rfl))) (by decide) (t := .int) (t' := (.object "java/lang/Object")) (by decide) (by decide)))
      have f1167 := Fld.other W1151 f1144 (Or.inr (slot_ne (Or.inr (hw _ (List.mem_of_getElem? (i := 22) rfl))) (Or.inl (hw _ (List.mem_of_getElem? (i := 34) rfl))) (by decide) (t := .int) (t' := (.object "java/lang/Object")) (by decide) (by decide)))
      have f1168 := Fld.other W1151 f1145 (Or.inr (slot_ne (Or.inr (hw _ (List.mem_of_getElem? (i := 24) rfl))) (Or.inl (hw _ (List.mem_of_getElem? (i := 34) rfl))) (by decide) (t := .int) (t' := (.object "java/lang/Object")) (by decide) (by decide)))
      have f1169 := Fld.other W1151 f1146 (Or.inr (slot_ne (Or.inr (hw _ (List.mem_of_getElem? (i := 26) rfl))) (Or.inl (hw _ (List.mem_of_getElem? (i := 34) rfl))) (by decide) (t := .int) (t' := (.object "java/lang/Object")) (by decide) (by decide)))
      have f1170 := Fld.other W1151 f1147 (Or.inr (slot_ne (Or.inr (hw _ (List.mem_of_getElem? (i := 28) rfl))) (Or.inl (hw _ (List.mem_of_getElem? (i := 34) rfl))) (by decide) (t := .int) (t' := (.object "java/lang/Object")) (by decide) (by decide)))
      have f1171 := Fld.other W1151 f1149 (Or.inr (slot_ne (Or.inl (hw _ (List.mem_of_getElem? (i := 37) rfl))) (Or.inl (hw _ (List.mem_of_getElem? (i := 34) rfl))) (by decide) (t := (.object "java/lang/Object")) (t' := (.object "java/lang/Object")) (by decide) (by decide)))
      have f1172 := Fld.other W1151 f1129 (Or.inr (slot_ne (Or.inl (hw _ (List.mem_of_getElem? (i := 31) rfl))) (Or.inl (hw _ (List.mem_of_getElem? (i := 34) rfl))) (by decide) (t := (.object "java/lang/Object")) (t' := (.object "java/lang/Object")) (by decide) (by decide)))
      have Z1173 : n0 ≤ h1151.size := Nat.le_trans Z1150 (Keep.of_wr W1151).1
      refine Go.movp st1151 (mkF m 392 #[.val (.int p0), .val (.int p1), .val (.int p2), .val (.long p3), .second, .val (.int p4), .val (.int p5), .val (.int (chr p0)), .val (.int (chr p1)), .val (.int (chr p2)), .val (.int (byt (chr p0))), .val (.int (byt (chr p1))), .val (.int (byt (chr p2))), .val (.ref b546), .val (.ref b568), .val (.ref b599), .val (.ref b639), .val (.ref b685), .val (.ref b740), .val (.int nn), .val (.int ((ushr p5 (11 : Int32)) &&& (3 : Int32))), .val (.ref b546), .val (.ref b599), .val (.ref b639), .val (.ref b740), .val (.ref b1084), .unset, .unset] []) rfl ?_
      refine g_aload X1151 hx (hb hby at_392) (pc' := 394) rfl rfl rfl ?_
      refine g_aload X1151 hx (hb hby at_394) (pc' := 396) rfl rfl rfl ?_
      obtain ⟨T1174, h1174, X1174, e1174, W1174, st1174⟩ := putF X1151 hx hZ hown (host := "") (Or.inl (hw _ (List.mem_of_getElem? (i := 35) rfl))) (Via.of (hw _ (List.mem_of_getElem? (i := 36) rfl))) e1151 f1171 f1165 (Or.inl (hw _ (List.mem_of_getElem? (i := 37) rfl))) (hw _ (List.mem_of_getElem? (i := 6) rfl)) (ty := (.object "java/lang/Object")) (by decide) rfl rfl (g := (mkF m 396 #[.val (.int p0), .val (.int p1), .val (.int p2), .val (.long p3), .second, .val (.int p4), .val (.int p5), .val (.int (chr p0)), .val (.int (chr p1)), .val (.int (chr p2)), .val (.int (byt (chr p0))), .val (.int (byt (chr p1))), .val (.int (byt (chr p2))), .val (.ref b546), .val (.ref b568), .val (.ref b599), .val (.ref b639), .val (.ref b685), .val (.ref b740), .val (.int nn), .val (.int ((ushr p5 (11 : Int32)) &&& (3 : Int32))), .val (.ref b546), .val (.ref b599), .val (.ref b639), .val (.ref b740), .val (.ref b1084), .unset, .unset] [(.ref b599), (.ref b1084)])) rfl rfl (hb hby at_396)
      have f1175 : Fld Z h1174 b1084 "com/example/needlework/needlework/PackedBlock" "middles" "Ljava/lang/Object;" (.ref b599) := Fld.same W1174 f1171
      have N1174 := Fr.snoc X1174 N1151 ge1091
      have f1176 := Exa.wr W1174 f1153
      have f1177 := f1154.other W1174 ne1085
      have f1178 := Exa.wr W1174 f1155
      have f1179 := f1156.other W1174 ne1086
      have f1180 := Exa.wr W1174 f1157
      have f1181 := f1158.other W1174 ne1087
      have f1182 := Exa.wr W1174 f1159
      have f1183 := f1160.other W1174 ne1088
      have f1184 := Exa.wr W1174 f1161
      have f1185 := f1162.other W1174 ne1089
      have f1186 := Exa.wr W1174 f1163
      have f1187 := f1164.other W1174 ne1090
      have f1188 := Exa.wr W1174 f1165
      have f1189 := Fld.other W1174 f1166 (Or.inr (slot_ne (Or.inr (hw _ (List.mem_of_getElem? (i := 20) rfl))) (Or.inl (hw _ (List.mem_of_getElem? (i := 37) rfl))) (by decide) (t := .int) (t' := (.object "java/lang/Object")) (by decide) (by decide)))
      have f1190 := Fld.other W1174 f1167 (Or.inr (slot_ne (Or.inr (hw _ (List.mem_of_getElem? (i := 22) rfl))) (Or.inl (hw _ (List.mem_of_getElem? (i := 37) rfl))) (by decide) (t := .int) (t' := (.object "java/lang/Object")) (by decide) (by decide)))
      have f1191 := Fld.other W1174 f1168 (Or.inr (slot_ne (Or.inr (hw _ (List.mem_of_getElem? (i := 24) rfl))) (Or.inl (hw _ (List.mem_of_getElem? (i := 37) rfl))) (by decide) (t := .int) (t' := (.object "java/lang/Object")) (by decide) (by decide)))
      have f1192 := Fld.other W1174 f1169 (Or.inr (slot_ne (Or.inr (hw _ (List.mem_of_getElem? (i := 26) rfl))) (Or.inl (hw _ (List.mem_of_getElem? (i := 37) rfl))) (by decide) (t := .int) (t' := (.object "java/lang/Object")) (by decide) (by decide)))
      have f1193 := Fld.other W1174 f1170 (Or.inr (slot_ne (Or.inr (hw _ (List.mem_of_getElem? (i := 28) rfl))) (Or.inl (hw _ (List.mem_of_getElem? (i := 37) rfl))) (by decide) (t := .int) (t' := (.object "java/lang/Object")) (by decide) (by decide)))
      have f1194 := Fld.other W1174 f1172 (Or.inr (slot_ne (Or.inl (hw _ (List.mem_of_getElem? (i := 31) rfl))) (Or.inl (hw _ (List.mem_of_getElem? (i := 37) rfl))) (by decide) (t := (.object "java/lang/Object")) (t' := (.object "java/lang/Object")) (by decide) (by decide)))
      have f1195 := Fld.other W1174 f1152 (Or.inr (slot_ne (Or.inl (hw _ (List.mem_of_getElem? (i := 34) rfl))) (Or.inl (hw _ (List.mem_of_getElem? (i := 37) rfl))) (by decide) (t := (.object "java/lang/Object")) (t' := (.object "java/lang/Object")) (by decide) (by decide)))
      have Z1196 : n0 ≤ h1174.size := Nat.le_trans Z1173 (Keep.of_wr W1174).1
      refine Go.movp st1174 (mkF m 399 #[.val (.int p0), .val (.int p1), .val (.int p2), .val (.long p3), .second, .val (.int p4), .val (.int p5), .val (.int (chr p0)), .val (.int (chr p1)), .val (.int (chr p2)), .val (.int (byt (chr p0))), .val (.int (byt (chr p1))), .val (.int (byt (chr p2))), .val (.ref b546), .val (.ref b568), .val (.ref b599), .val (.ref b639), .val (.ref b685), .val (.ref b740), .val (.int nn), .val (.int ((ushr p5 (11 : Int32)) &&& (3 : Int32))), .val (.ref b546), .val (.ref b599), .val (.ref b639), .val (.ref b740), .val (.ref b1084), .unset, .unset] []) rfl ?_
      refine g_aload X1174 hx (hb hby at_399) (pc' := 401) rfl rfl rfl ?_
      refine g_iload X1174 hx (hb hby at_401) (pc' := 403) rfl rfl ?_
      obtain ⟨w0, hw0⟩ : ∃ z : Int32, z = (if (0 : Int32) < nn then (mkV u0 u0 m0 (byt (chr p0)) (byt (chr p1)) (byt (chr p2))) else u0) := ⟨_, rfl⟩
      obtain ⟨w1, hw1⟩ : ∃ z : Int32, z = (if (1 : Int32) < nn then (mkV u1 u1 m1 (byt (chr p0)) (byt (chr p1)) (byt (chr p2))) else u1) := ⟨_, rfl⟩
      obtain ⟨w2, hw2⟩ : ∃ z : Int32, z = (if (2 : Int32) < nn then (mkV u2 u2 m2 (byt (chr p0)) (byt (chr p1)) (byt (chr p2))) else u2) := ⟨_, rfl⟩
      obtain ⟨v1197, T1197, h1197, L1197, X1197, e1197, N1197, q1197, st1197⟩ := h_virtual (a := b1084) (z := (⟨"com/example/needlework/needlework/PackedBlock$Bytes", "mark", "(I)V"⟩ : MethodName)) X1174 hx (W := 0) (Ls := #[.val (.int p0), .val (.int p1), .val (.int p2), .val (.long p3), .second, .val (.int p4), .val (.int p5), .val (.int (chr p0)), .val (.int (chr p1)), .val (.int (chr p2)), .val (.int (byt (chr p0))), .val (.int (byt (chr p1))), .val (.int (byt (chr p2))), .val (.ref b546), .val (.ref b568), .val (.ref b599), .val (.ref b639), .val (.ref b685), .val (.ref b740), .val (.int nn), .val (.int ((ushr p5 (11 : Int32)) &&& (3 : Int32))), .val (.ref b546), .val (.ref b599), .val (.ref b639), .val (.ref b740), .val (.ref b1084), .unset, .unset]) (argsL := [(.int nn)]) (rest := []) hZ e1174 N1174 hml hown (rm5_1 l Z a0 hw b1084 b546 b599 u0 u1 u2 m0 m1 m2 (byt (chr p0)) (byt (chr p1)) (byt (chr p2)) nn w0 w1 w2 h1174 n0 Z1196 f1194 f1195 f1175 f1189 f1190 f1191 f1177 f1181 f1176 f1180 ge547 (Ne.symm ne600) (Ne.symm ne1085) hnn hw0 hw1 hw2) f1188 (hw _ (List.mem_of_getElem? (i := 38) rfl)) (hw _ (List.mem_of_getElem? (i := 39) rfl)) (notFace_of_selects (args := #[]) (mvT hZ (hw _ (List.mem_of_getElem? (i := 41) rfl)))) (hw _ (List.mem_of_getElem? (i := 41) rfl)) (hw _ (List.mem_of_getElem? (i := 40) rfl)) (hw _ (List.mem_of_getElem? (i := 7) rfl)) (hw _ (List.mem_of_getElem? (i := 42) rfl)) (by decide) pd__I_V rfl rfl (hb hby at_403) rfl (by decide) (by decide) (by decide) (by decide)
      obtain ⟨rfl, K1197, V1197⟩ := q1197
      have f1198 := f1176.keep K1197
      have f1199 := f1178.keep K1197
      have f1200 := f1179.keep K1197 (ninS (Ne.symm ne569) nin0)
      have f1201 := f1180.keep K1197
      have f1202 := f1181.keep K1197 (ninS (Ne.symm ne600) nin0)
      have f1203 := f1182.keep K1197
      have f1204 := f1183.keep K1197 (ninS (Ne.symm ne640) nin0)
      have f1205 := f1184.keep K1197
      have f1206 := f1185.keep K1197 (ninS (Ne.symm ne686) nin0)
      have f1207 := f1186.keep K1197
      have f1208 := f1187.keep K1197 (ninS (Ne.symm ne741) nin0)
      have f1209 := f1188.keep K1197
      have f1210 := f1189.keep K1197 (ninS (Ne.symm ne1085) nin0)
      have f1211 := f1190.keep K1197 (ninS (Ne.symm ne1085) nin0)
      have f1212 := f1191.keep K1197 (ninS (Ne.symm ne1085) nin0)
      have f1213 := f1192.keep K1197 (ninS (Ne.symm ne1085) nin0)
      have f1214 := f1193.keep K1197 (ninS (Ne.symm ne1085) nin0)
      have f1215 := f1194.keep K1197 (ninS (Ne.symm ne1085) nin0)
      have f1216 := f1195.keep K1197 (ninS (Ne.symm ne1085) nin0)
      have f1217 := f1175.keep K1197 (ninS (Ne.symm ne1085) nin0)
      have Z1218 : n0 ≤ h1197.size := Nat.le_trans Z1196 K1197.1
      refine Go.movp st1197 (mkF m 406 #[.val (.int p0), .val (.int p1), .val (.int p2), .val (.long p3), .second, .val (.int p4), .val (.int p5), .val (.int (chr p0)), .val (.int (chr p1)), .val (.int (chr p2)), .val (.int (byt (chr p0))), .val (.int (byt (chr p1))), .val (.int (byt (chr p2))), .val (.ref b546), .val (.ref b568), .val (.ref b599), .val (.ref b639), .val (.ref b685), .val (.ref b740), .val (.int nn), .val (.int ((ushr p5 (11 : Int32)) &&& (3 : Int32))), .val (.ref b546), .val (.ref b599), .val (.ref b639), .val (.ref b740), .val (.ref b1084), .unset, .unset] []) rfl ?_
      refine g_aload X1197 hx (hb hby at_406) (pc' := 408) rfl rfl rfl ?_
      obtain ⟨T1219, X1219, e1219, st1219⟩ := getF X1197 hx hZ hown (host := "") (Or.inl (hw _ (List.mem_of_getElem? (i := 29) rfl))) (Via.of (hw _ (List.mem_of_getElem? (i := 30) rfl))) e1197 f1215 (g := (mkF m 408 #[.val (.int p0), .val (.int p1), .val (.int p2), .val (.long p3), .second, .val (.int p4), .val (.int p5), .val (.int (chr p0)), .val (.int (chr p1)), .val (.int (chr p2)), .val (.int (byt (chr p0))), .val (.int (byt (chr p1))), .val (.int (byt (chr p2))), .val (.ref b546), .val (.ref b568), .val (.ref b599), .val (.ref b639), .val (.ref b685), .val (.ref b740), .val (.int nn), .val (.int ((ushr p5 (11 : Int32)) &&& (3 : Int32))), .val (.ref b546), .val (.ref b599), .val (.ref b639), .val (.ref b740), .val (.ref b1084), .unset, .unset] [(.ref b1084)])) rfl rfl (hb hby at_408)
      refine Go.movp st1219 (mkF m 411 #[.val (.int p0), .val (.int p1), .val (.int p2), .val (.long p3), .second, .val (.int p4), .val (.int p5), .val (.int (chr p0)), .val (.int (chr p1)), .val (.int (chr p2)), .val (.int (byt (chr p0))), .val (.int (byt (chr p1))), .val (.int (byt (chr p2))), .val (.ref b546), .val (.ref b568), .val (.ref b599), .val (.ref b639), .val (.ref b685), .val (.ref b740), .val (.int nn), .val (.int ((ushr p5 (11 : Int32)) &&& (3 : Int32))), .val (.ref b546), .val (.ref b599), .val (.ref b639), .val (.ref b740), .val (.ref b1084), .unset, .unset] [(.ref b546)]) rfl ?_
      obtain ⟨T1220, X1220, e1220, st1220⟩ := castY X1219 hx hZ hown (hw _ (List.mem_of_getElem? (i := 54) rfl)) e1219 (Ins.self f1198) (g := (mkF m 411 #[.val (.int p0), .val (.int p1), .val (.int p2), .val (.long p3), .second, .val (.int p4), .val (.int p5), .val (.int (chr p0)), .val (.int (chr p1)), .val (.int (chr p2)), .val (.int (byt (chr p0))), .val (.int (byt (chr p1))), .val (.int (byt (chr p2))), .val (.ref b546), .val (.ref b568), .val (.ref b599), .val (.ref b639), .val (.ref b685), .val (.ref b740), .val (.int nn), .val (.int ((ushr p5 (11 : Int32)) &&& (3 : Int32))), .val (.ref b546), .val (.ref b599), .val (.ref b639), .val (.ref b740), .val (.ref b1084), .unset, .unset] [(.ref b546)])) rfl rfl (hb hby at_411)
      refine Go.movp st1220 (mkF m 414 #[.val (.int p0), .val (.int p1), .val (.int p2), .val (.long p3), .second, .val (.int p4), .val (.int p5), .val (.int (chr p0)), .val (.int (chr p1)), .val (.int (chr p2)), .val (.int (byt (chr p0))), .val (.int (byt (chr p1))), .val (.int (byt (chr p2))), .val (.ref b546), .val (.ref b568), .val (.ref b599), .val (.ref b639), .val (.ref b685), .val (.ref b740), .val (.int nn), .val (.int ((ushr p5 (11 : Int32)) &&& (3 : Int32))), .val (.ref b546), .val (.ref b599), .val (.ref b639), .val (.ref b740), .val (.ref b1084), .unset, .unset] [(.ref b546)]) rfl ?_
      refine g_astore X1220 hx (hb hby at_414) (pc' := 416) rfl rfl (Ls' := #[.val (.int p0), .val (.int p1), .val (.int p2), .val (.long p3), .second, .val (.int p4), .val (.int p5), .val (.int (chr p0)), .val (.int (chr p1)), .val (.int (chr p2)), .val (.int (byt (chr p0))), .val (.int (byt (chr p1))), .val (.int (byt (chr p2))), .val (.ref b546), .val (.ref b568), .val (.ref b599), .val (.ref b639), .val (.ref b685), .val (.ref b740), .val (.int nn), .val (.int ((ushr p5 (11 : Int32)) &&& (3 : Int32))), .val (.ref b546), .val (.ref b599), .val (.ref b639), .val (.ref b740), .val (.ref b1084), .val (.ref b546), .unset]) rfl ?_
      refine g_aload X1220 hx (hb hby at_416) (pc' := 418) rfl rfl rfl ?_
      refine g_aload X1220 hx (hb hby at_418) (pc' := 420) rfl rfl rfl ?_
      refine g_acmp_eq X1220 hx (hb hby at_420) rfl rfl (pc1 := 423) rfl (by decide) (pc2 := 425) (by decide) (fun hc420 => ?_) (fun hc420 => absurd rfl hc420)
      refine g_iconst X1220 hx (hb hby at_425) (pc' := 426) rfl (z := (0 : Int32)) rfl ?_
      refine g_iload X1220 hx (hb hby at_426) (pc' := 428) rfl rfl ?_
      refine g_aload X1220 hx (hb hby at_428) (pc' := 430) rfl rfl rfl ?_
      refine g_aload X1220 hx (hb hby at_430) (pc' := 432) rfl rfl rfl ?_
      refine g_aload X1220 hx (hb hby at_432) (pc' := 434) rfl rfl rfl ?_
      refine g_iload X1220 hx (hb hby at_434) (pc' := 436) rfl rfl ?_
      refine g_iload X1220 hx (hb hby at_436) (pc' := 438) rfl rfl ?_
      refine g_iload X1220 hx (hb hby at_438) (pc' := 440) rfl rfl ?_
      refine g_aload X1220 hx (hb hby at_440) (pc' := 442) rfl rfl rfl ?_
      refine g_iconst X1220 hx (hb hby at_442) (pc' := 443) rfl (z := (0 : Int32)) rfl ?_
      refine g_baload X1220 hx hZ e1220 V1197 (i := 0) (v := (.int w0)) (hb hby at_443) (pc' := 444) rfl (by decide) rfl rfl ?_
      obtain ⟨v1221, T1221, h1221, L1221, X1221, e1221, N1221, q1221, st1221⟩ := h_static X1220 hx (W := 0) (Ls := #[.val (.int p0), .val (.int p1), .val (.int p2), .val (.long p3), .second, .val (.int p4), .val (.int p5), .val (.int (chr p0)), .val (.int (chr p1)), .val (.int (chr p2)), .val (.int (byt (chr p0))), .val (.int (byt (chr p1))), .val (.int (byt (chr p2))), .val (.ref b546), .val (.ref b568), .val (.ref b599), .val (.ref b639), .val (.ref b685), .val (.ref b740), .val (.int nn), .val (.int ((ushr p5 (11 : Int32)) &&& (3 : Int32))), .val (.ref b546), .val (.ref b599), .val (.ref b639), .val (.ref b740), .val (.ref b1084), .val (.ref b546), .unset]) (argsL := [(.int (0 : Int32)), (.int nn), (.ref b639), (.ref b639), (.ref b740), (.int (byt (chr p0))), (.int (byt (chr p1))), (.int (byt (chr p2))), (.int w0)]) (rest := []) hZ e1220 N1197 hml hown (rm6_0 l Z a0 hw b639 b639 b740 u0 u1 u2 u0 u1 u2 m0 m1 m2 (byt (chr p0)) (byt (chr p1)) (byt (chr p2)) w0 nn h1197 n0 Z1218 f1204 f1204 f1208 (by rw [hw0, own_mk bu0 bu0 bm0 (byt_byt _) (byt_byt _) (byt_byt _)])) (hw _ (List.mem_of_getElem? (i := 55) rfl)) (hw _ (List.mem_of_getElem? (i := 56) rfl)) (hw _ (List.mem_of_getElem? (i := 3) rfl)) (hw _ (List.mem_of_getElem? (i := 57) rfl)) (by decide) pd__II_B_B_BBBBB_Z rfl rfl (hb hby at_444) rfl (by decide) (by decide) (by decide) (by decide)
      obtain ⟨rfl, rfl⟩ := q1221
      refine Go.movp st1221 (mkF m 447 #[.val (.int p0), .val (.int p1), .val (.int p2), .val (.long p3), .second, .val (.int p4), .val (.int p5), .val (.int (chr p0)), .val (.int (chr p1)), .val (.int (chr p2)), .val (.int (byt (chr p0))), .val (.int (byt (chr p1))), .val (.int (byt (chr p2))), .val (.ref b546), .val (.ref b568), .val (.ref b599), .val (.ref b639), .val (.ref b685), .val (.ref b740), .val (.int nn), .val (.int ((ushr p5 (11 : Int32)) &&& (3 : Int32))), .val (.ref b546), .val (.ref b599), .val (.ref b639), .val (.ref b740), .val (.ref b1084), .val (.ref b546), .unset] [(.int (1 : Int32))]) rfl ?_
      refine g_if_eq X1221 hx (hb hby at_447) (pc1 := 450) rfl (by decide) (pc2 := 504) (by decide) (fun hc447 => absurd hc447 (by decide)) (fun hc447 => ?_)
      refine g_iconst X1221 hx (hb hby at_450) (pc' := 451) rfl (z := (1 : Int32)) rfl ?_
      refine g_iload X1221 hx (hb hby at_451) (pc' := 453) rfl rfl ?_
      refine g_aload X1221 hx (hb hby at_453) (pc' := 455) rfl rfl rfl ?_
      refine g_aload X1221 hx (hb hby at_455) (pc' := 457) rfl rfl rfl ?_
      refine g_aload X1221 hx (hb hby at_457) (pc' := 459) rfl rfl rfl ?_
      refine g_iload X1221 hx (hb hby at_459) (pc' := 461) rfl rfl ?_
      refine g_iload X1221 hx (hb hby at_461) (pc' := 463) rfl rfl ?_
      refine g_iload X1221 hx (hb hby at_463) (pc' := 465) rfl rfl ?_
      refine g_aload X1221 hx (hb hby at_465) (pc' := 467) rfl rfl rfl ?_
      refine g_iconst X1221 hx (hb hby at_467) (pc' := 468) rfl (z := (1 : Int32)) rfl ?_
      refine g_baload X1221 hx hZ e1221 V1197 (i := 1) (v := (.int w1)) (hb hby at_468) (pc' := 469) rfl (by decide) rfl rfl ?_
      obtain ⟨v1222, T1222, h1222, L1222, X1222, e1222, N1222, q1222, st1222⟩ := h_static X1221 hx (W := 0) (Ls := #[.val (.int p0), .val (.int p1), .val (.int p2), .val (.long p3), .second, .val (.int p4), .val (.int p5), .val (.int (chr p0)), .val (.int (chr p1)), .val (.int (chr p2)), .val (.int (byt (chr p0))), .val (.int (byt (chr p1))), .val (.int (byt (chr p2))), .val (.ref b546), .val (.ref b568), .val (.ref b599), .val (.ref b639), .val (.ref b685), .val (.ref b740), .val (.int nn), .val (.int ((ushr p5 (11 : Int32)) &&& (3 : Int32))), .val (.ref b546), .val (.ref b599), .val (.ref b639), .val (.ref b740), .val (.ref b1084), .val (.ref b546), .unset]) (argsL := [(.int (1 : Int32)), (.int nn), (.ref b639), (.ref b639), (.ref b740), (.int (byt (chr p0))), (.int (byt (chr p1))), (.int (byt (chr p2))), (.int w1)]) (rest := []) hZ e1221 N1221 hml hown (rm6_1 l Z a0 hw b639 b639 b740 u0 u1 u2 u0 u1 u2 m0 m1 m2 (byt (chr p0)) (byt (chr p1)) (byt (chr p2)) w1 nn h1197 n0 Z1218 f1204 f1204 f1208 (by rw [hw1, own_mk bu1 bu1 bm1 (byt_byt _) (byt_byt _) (byt_byt _)])) (hw _ (List.mem_of_getElem? (i := 55) rfl)) (hw _ (List.mem_of_getElem? (i := 56) rfl)) (hw _ (List.mem_of_getElem? (i := 3) rfl)) (hw _ (List.mem_of_getElem? (i := 57) rfl)) (by decide) pd__II_B_B_BBBBB_Z rfl rfl (hb hby at_469) rfl (by decide) (by decide) (by decide) (by decide)
      obtain ⟨rfl, rfl⟩ := q1222
      refine Go.movp st1222 (mkF m 472 #[.val (.int p0), .val (.int p1), .val (.int p2), .val (.long p3), .second, .val (.int p4), .val (.int p5), .val (.int (chr p0)), .val (.int (chr p1)), .val (.int (chr p2)), .val (.int (byt (chr p0))), .val (.int (byt (chr p1))), .val (.int (byt (chr p2))), .val (.ref b546), .val (.ref b568), .val (.ref b599), .val (.ref b639), .val (.ref b685), .val (.ref b740), .val (.int nn), .val (.int ((ushr p5 (11 : Int32)) &&& (3 : Int32))), .val (.ref b546), .val (.ref b599), .val (.ref b639), .val (.ref b740), .val (.ref b1084), .val (.ref b546), .unset] [(.int (1 : Int32))]) rfl ?_
      refine g_if_eq X1222 hx (hb hby at_472) (pc1 := 475) rfl (by decide) (pc2 := 504) (by decide) (fun hc472 => absurd hc472 (by decide)) (fun hc472 => ?_)
      refine g_iconst X1222 hx (hb hby at_475) (pc' := 476) rfl (z := (2 : Int32)) rfl ?_
      refine g_iload X1222 hx (hb hby at_476) (pc' := 478) rfl rfl ?_
      refine g_aload X1222 hx (hb hby at_478) (pc' := 480) rfl rfl rfl ?_
      refine g_aload X1222 hx (hb hby at_480) (pc' := 482) rfl rfl rfl ?_
      refine g_aload X1222 hx (hb hby at_482) (pc' := 484) rfl rfl rfl ?_
      refine g_iload X1222 hx (hb hby at_484) (pc' := 486) rfl rfl ?_
      refine g_iload X1222 hx (hb hby at_486) (pc' := 488) rfl rfl ?_
      refine g_iload X1222 hx (hb hby at_488) (pc' := 490) rfl rfl ?_
      refine g_aload X1222 hx (hb hby at_490) (pc' := 492) rfl rfl rfl ?_
      refine g_iconst X1222 hx (hb hby at_492) (pc' := 493) rfl (z := (2 : Int32)) rfl ?_
      refine g_baload X1222 hx hZ e1222 V1197 (i := 2) (v := (.int w2)) (hb hby at_493) (pc' := 494) rfl (by decide) rfl rfl ?_
      obtain ⟨v1223, T1223, h1223, L1223, X1223, e1223, N1223, q1223, st1223⟩ := h_static X1222 hx (W := 0) (Ls := #[.val (.int p0), .val (.int p1), .val (.int p2), .val (.long p3), .second, .val (.int p4), .val (.int p5), .val (.int (chr p0)), .val (.int (chr p1)), .val (.int (chr p2)), .val (.int (byt (chr p0))), .val (.int (byt (chr p1))), .val (.int (byt (chr p2))), .val (.ref b546), .val (.ref b568), .val (.ref b599), .val (.ref b639), .val (.ref b685), .val (.ref b740), .val (.int nn), .val (.int ((ushr p5 (11 : Int32)) &&& (3 : Int32))), .val (.ref b546), .val (.ref b599), .val (.ref b639), .val (.ref b740), .val (.ref b1084), .val (.ref b546), .unset]) (argsL := [(.int (2 : Int32)), (.int nn), (.ref b639), (.ref b639), (.ref b740), (.int (byt (chr p0))), (.int (byt (chr p1))), (.int (byt (chr p2))), (.int w2)]) (rest := []) hZ e1222 N1222 hml hown (rm6_2 l Z a0 hw b639 b639 b740 u0 u1 u2 u0 u1 u2 m0 m1 m2 (byt (chr p0)) (byt (chr p1)) (byt (chr p2)) w2 nn h1197 n0 Z1218 f1204 f1204 f1208 (by rw [hw2, own_mk bu2 bu2 bm2 (byt_byt _) (byt_byt _) (byt_byt _)])) (hw _ (List.mem_of_getElem? (i := 55) rfl)) (hw _ (List.mem_of_getElem? (i := 56) rfl)) (hw _ (List.mem_of_getElem? (i := 3) rfl)) (hw _ (List.mem_of_getElem? (i := 57) rfl)) (by decide) pd__II_B_B_BBBBB_Z rfl rfl (hb hby at_494) rfl (by decide) (by decide) (by decide) (by decide)
      obtain ⟨rfl, rfl⟩ := q1223
      refine Go.movp st1223 (mkF m 497 #[.val (.int p0), .val (.int p1), .val (.int p2), .val (.long p3), .second, .val (.int p4), .val (.int p5), .val (.int (chr p0)), .val (.int (chr p1)), .val (.int (chr p2)), .val (.int (byt (chr p0))), .val (.int (byt (chr p1))), .val (.int (byt (chr p2))), .val (.ref b546), .val (.ref b568), .val (.ref b599), .val (.ref b639), .val (.ref b685), .val (.ref b740), .val (.int nn), .val (.int ((ushr p5 (11 : Int32)) &&& (3 : Int32))), .val (.ref b546), .val (.ref b599), .val (.ref b639), .val (.ref b740), .val (.ref b1084), .val (.ref b546), .unset] [(.int (1 : Int32))]) rfl ?_
      refine g_if_eq X1223 hx (hb hby at_497) (pc1 := 500) rfl (by decide) (pc2 := 504) (by decide) (fun hc497 => absurd hc497 (by decide)) (fun hc497 => ?_)
      refine g_iconst X1223 hx (hb hby at_500) (pc' := 501) rfl (z := (1 : Int32)) rfl ?_
      refine g_goto X1223 hx (hb hby at_501) (by decide) (pc' := 505) (by decide) ?_
      refine g_istore X1223 hx (hb hby at_505) (pc' := 507) rfl (Ls' := #[.val (.int p0), .val (.int p1), .val (.int p2), .val (.long p3), .second, .val (.int p4), .val (.int p5), .val (.int (chr p0)), .val (.int (chr p1)), .val (.int (chr p2)), .val (.int (byt (chr p0))), .val (.int (byt (chr p1))), .val (.int (byt (chr p2))), .val (.ref b546), .val (.ref b568), .val (.ref b599), .val (.ref b639), .val (.ref b685), .val (.ref b740), .val (.int nn), .val (.int ((ushr p5 (11 : Int32)) &&& (3 : Int32))), .val (.ref b546), .val (.ref b599), .val (.ref b639), .val (.ref b740), .val (.ref b1084), .val (.ref b546), .val (.int (1 : Int32))]) rfl ?_
      refine g_aload X1223 hx (hb hby at_507) (pc' := 509) rfl rfl rfl ?_
      refine g_aload X1223 hx (hb hby at_509) (pc' := 511) rfl rfl rfl ?_
      refine g_acmp_eq X1223 hx (hb hby at_511) rfl rfl (pc1 := 514) rfl (by decide) (pc2 := 559) (by decide) (fun hc511 => ?_) (fun hc511 => absurd rfl hc511)
      refine g_aload X1223 hx (hb hby at_559) (pc' := 561) rfl rfl rfl ?_
      refine g_aload X1223 hx (hb hby at_561) (pc' := 563) rfl rfl rfl ?_
      refine g_acmp_eq X1223 hx (hb hby at_563) rfl rfl (pc1 := 566) rfl (by decide) (pc2 := 611) (by decide) (fun hc563 => absurd hc563 (fun q => (Ne.symm ne600) (Value.ref.inj q))) (fun hc563 => ?_)
      refine g_iload X1223 hx (hb hby at_566) (pc' := 568) rfl rfl ?_
      refine g_if_eq X1223 hx (hb hby at_568) (pc1 := 571) rfl (by decide) (pc2 := 608) (by decide) (fun hc568 => absurd hc568 (by decide)) (fun hc568 => ?_)
      refine g_aload X1223 hx (hb hby at_571) (pc' := 573) rfl rfl rfl ?_
      refine g_iconst X1223 hx (hb hby at_573) (pc' := 574) rfl (z := (0 : Int32)) rfl ?_
      refine g_baload X1223 hx hZ e1223 f1202 (i := 0) (v := (.int m0)) (hb hby at_574) (pc' := 575) rfl (by decide) rfl rfl ?_
      refine g_aload X1223 hx (hb hby at_575) (pc' := 577) rfl rfl rfl ?_
      refine g_iconst X1223 hx (hb hby at_577) (pc' := 578) rfl (z := (0 : Int32)) rfl ?_
      refine g_baload X1223 hx hZ e1223 f1208 (i := 0) (v := (.int m0)) (hb hby at_578) (pc' := 579) rfl (by decide) rfl rfl ?_
      refine g_icmp_ne X1223 hx (hb hby at_579) (pc1 := 582) rfl (by decide) (pc2 := 608) (by decide) (fun hc579 => absurd rfl hc579) (fun hc579 => ?_)
      refine g_aload X1223 hx (hb hby at_582) (pc' := 584) rfl rfl rfl ?_
      refine g_iconst X1223 hx (hb hby at_584) (pc' := 585) rfl (z := (1 : Int32)) rfl ?_
      refine g_baload X1223 hx hZ e1223 f1202 (i := 1) (v := (.int m1)) (hb hby at_585) (pc' := 586) rfl (by decide) rfl rfl ?_
      refine g_aload X1223 hx (hb hby at_586) (pc' := 588) rfl rfl rfl ?_
      refine g_iconst X1223 hx (hb hby at_588) (pc' := 589) rfl (z := (1 : Int32)) rfl ?_
      refine g_baload X1223 hx hZ e1223 f1208 (i := 1) (v := (.int m1)) (hb hby at_589) (pc' := 590) rfl (by decide) rfl rfl ?_
      refine g_icmp_ne X1223 hx (hb hby at_590) (pc1 := 593) rfl (by decide) (pc2 := 608) (by decide) (fun hc590 => absurd rfl hc590) (fun hc590 => ?_)
      refine g_aload X1223 hx (hb hby at_593) (pc' := 595) rfl rfl rfl ?_
      refine g_iconst X1223 hx (hb hby at_595) (pc' := 596) rfl (z := (2 : Int32)) rfl ?_
      refine g_baload X1223 hx hZ e1223 f1202 (i := 2) (v := (.int m2)) (hb hby at_596) (pc' := 597) rfl (by decide) rfl rfl ?_
      refine g_aload X1223 hx (hb hby at_597) (pc' := 599) rfl rfl rfl ?_
      refine g_iconst X1223 hx (hb hby at_599) (pc' := 600) rfl (z := (2 : Int32)) rfl ?_
      refine g_baload X1223 hx hZ e1223 f1208 (i := 2) (v := (.int m2)) (hb hby at_600) (pc' := 601) rfl (by decide) rfl rfl ?_
      refine g_icmp_ne X1223 hx (hb hby at_601) (pc1 := 604) rfl (by decide) (pc2 := 608) (by decide) (fun hc601 => absurd rfl hc601) (fun hc601 => ?_)
      refine g_iconst X1223 hx (hb hby at_604) (pc' := 605) rfl (z := (1 : Int32)) rfl ?_
      refine g_goto X1223 hx (hb hby at_605) (by decide) (pc' := 609) (by decide) ?_
      refine g_istore X1223 hx (hb hby at_609) (pc' := 611) rfl (Ls' := #[.val (.int p0), .val (.int p1), .val (.int p2), .val (.long p3), .second, .val (.int p4), .val (.int p5), .val (.int (chr p0)), .val (.int (chr p1)), .val (.int (chr p2)), .val (.int (byt (chr p0))), .val (.int (byt (chr p1))), .val (.int (byt (chr p2))), .val (.ref b546), .val (.ref b568), .val (.ref b599), .val (.ref b639), .val (.ref b685), .val (.ref b740), .val (.int nn), .val (.int ((ushr p5 (11 : Int32)) &&& (3 : Int32))), .val (.ref b546), .val (.ref b599), .val (.ref b639), .val (.ref b740), .val (.ref b1084), .val (.ref b546), .val (.int (1 : Int32))]) rfl ?_
      refine g_iload X1223 hx (hb hby at_611) (pc' := 613) rfl rfl ?_
      exact g_zreturn X1223 hx rfl hret (hb hby at_613) N1223 hlk (fun v t => endF (by decide) (by decide) v) (by rw [e1223]; exact rfl)
  · skip
    refine g_aload X789 hx (hb hby at_276) (pc' := 278) rfl rfl rfl ?_
    refine g_astore X789 hx (hb hby at_278) (pc' := 280) rfl rfl (Ls' := #[.val (.int p0), .val (.int p1), .val (.int p2), .val (.long p3), .second, .val (.int p4), .val (.int p5), .val (.int (chr p0)), .val (.int (chr p1)), .val (.int (chr p2)), .val (.int (byt (chr p0))), .val (.int (byt (chr p1))), .val (.int (byt (chr p2))), .val (.ref b546), .val (.ref b568), .val (.ref b599), .val (.ref b639), .val (.ref b685), .val (.ref b740), .val (.int nn), .val (.int ((ushr p5 (11 : Int32)) &&& (3 : Int32))), .val (.ref b568), .unset, .unset, .unset, .unset, .unset, .unset]) rfl ?_
    refine g_aload X789 hx (hb hby at_280) (pc' := 282) rfl rfl rfl ?_
    refine g_astore X789 hx (hb hby at_282) (pc' := 284) rfl rfl (Ls' := #[.val (.int p0), .val (.int p1), .val (.int p2), .val (.long p3), .second, .val (.int p4), .val (.int p5), .val (.int (chr p0)), .val (.int (chr p1)), .val (.int (chr p2)), .val (.int (byt (chr p0))), .val (.int (byt (chr p1))), .val (.int (byt (chr p2))), .val (.ref b546), .val (.ref b568), .val (.ref b599), .val (.ref b639), .val (.ref b685), .val (.ref b740), .val (.int nn), .val (.int ((ushr p5 (11 : Int32)) &&& (3 : Int32))), .val (.ref b568), .val (.ref b599), .unset, .unset, .unset, .unset, .unset]) rfl ?_
    refine g_aload X789 hx (hb hby at_284) (pc' := 286) rfl rfl rfl ?_
    refine g_astore X789 hx (hb hby at_286) (pc' := 288) rfl rfl (Ls' := #[.val (.int p0), .val (.int p1), .val (.int p2), .val (.long p3), .second, .val (.int p4), .val (.int p5), .val (.int (chr p0)), .val (.int (chr p1)), .val (.int (chr p2)), .val (.int (byt (chr p0))), .val (.int (byt (chr p1))), .val (.int (byt (chr p2))), .val (.ref b546), .val (.ref b568), .val (.ref b599), .val (.ref b639), .val (.ref b685), .val (.ref b740), .val (.int nn), .val (.int ((ushr p5 (11 : Int32)) &&& (3 : Int32))), .val (.ref b568), .val (.ref b599), .val (.ref b685), .unset, .unset, .unset, .unset]) rfl ?_
    refine g_aload X789 hx (hb hby at_288) (pc' := 290) rfl rfl rfl ?_
    refine g_astore X789 hx (hb hby at_290) (pc' := 292) rfl rfl (Ls' := #[.val (.int p0), .val (.int p1), .val (.int p2), .val (.long p3), .second, .val (.int p4), .val (.int p5), .val (.int (chr p0)), .val (.int (chr p1)), .val (.int (chr p2)), .val (.int (byt (chr p0))), .val (.int (byt (chr p1))), .val (.int (byt (chr p2))), .val (.ref b546), .val (.ref b568), .val (.ref b599), .val (.ref b639), .val (.ref b685), .val (.ref b740), .val (.int nn), .val (.int ((ushr p5 (11 : Int32)) &&& (3 : Int32))), .val (.ref b568), .val (.ref b599), .val (.ref b685), .val (.ref b740), .unset, .unset, .unset]) rfl ?_
    refine g_goto X789 hx (hb hby at_292) (by decide) (pc' := 361) (by decide) ?_
    obtain ⟨T1224, h1224, X1224, e1224, E1224, A1224, D1224, -, st1224⟩ := newO X789 hx hZ hown (hw _ (List.mem_of_getElem? (i := 5) rfl)) (hw _ (List.mem_of_getElem? (i := 6) rfl)) (hw _ (List.mem_of_getElem? (i := 7) rfl)) e789 (g := (mkF m 361 #[.val (.int p0), .val (.int p1), .val (.int p2), .val (.long p3), .second, .val (.int p4), .val (.int p5), .val (.int (chr p0)), .val (.int (chr p1)), .val (.int (chr p2)), .val (.int (byt (chr p0))), .val (.int (byt (chr p1))), .val (.int (byt (chr p2))), .val (.ref b546), .val (.ref b568), .val (.ref b599), .val (.ref b639), .val (.ref b685), .val (.ref b740), .val (.int nn), .val (.int ((ushr p5 (11 : Int32)) &&& (3 : Int32))), .val (.ref b568), .val (.ref b599), .val (.ref b685), .val (.ref b740), .unset, .unset, .unset] [])) rfl (hb hby at_361) (by decide) (by decide)
    obtain ⟨b1224, g1224⟩ : ∃ z, z = h789.size := ⟨_, rfl⟩
    rw [← g1224] at A1224 D1224 st1224
    have ne1225 : b546 ≠ b1224 := Nat.ne_of_lt (g1224 ▸ f790.lt)
    have ne1226 : b568 ≠ b1224 := Nat.ne_of_lt (g1224 ▸ f792.lt)
    have ne1227 : b599 ≠ b1224 := Nat.ne_of_lt (g1224 ▸ f794.lt)
    have ne1228 : b639 ≠ b1224 := Nat.ne_of_lt (g1224 ▸ f796.lt)
    have ne1229 : b685 ≠ b1224 := Nat.ne_of_lt (g1224 ▸ f798.lt)
    have ne1230 : b740 ≠ b1224 := Nat.ne_of_lt (g1224 ▸ f800.lt)
    have ge1231 : n0 ≤ b1224 := g1224 ▸ Z801
    have f1232 := Exa.ext E1224 f790
    have f1233 := f791.ext E1224
    have f1234 := Exa.ext E1224 f792
    have f1235 := f793.ext E1224
    have f1236 := Exa.ext E1224 f794
    have f1237 := f795.ext E1224
    have f1238 := Exa.ext E1224 f796
    have f1239 := f797.ext E1224
    have f1240 := Exa.ext E1224 f798
    have f1241 := f799.ext E1224
    have f1242 := Exa.ext E1224 f800
    have f1243 := f803.ext E1224
    have Z1244 : n0 ≤ h1224.size := Nat.le_trans Z801 E1224.1
    have f1245 : Fld Z h1224 b1224 "com/example/needlework/needlework/PackedBlock" "first" "I" (.int (0 : Int32)) := D1224 (Or.inr (hw _ (List.mem_of_getElem? (i := 20) rfl))) (ty := .int) (by decide)
    have f1246 : Fld Z h1224 b1224 "com/example/needlework/needlework/PackedBlock" "last" "I" (.int (0 : Int32)) := D1224 (Or.inr (hw _ (List.mem_of_getElem? (i := 22) rfl))) (ty := .int) (by decide)
    have f1247 : Fld Z h1224 b1224 "com/example/needlework/needlework/PackedBlock" "middle" "I" (.int (0 : Int32)) := D1224 (Or.inr (hw _ (List.mem_of_getElem? (i := 24) rfl))) (ty := .int) (by decide)
    have f1248 : Fld Z h1224 b1224 "com/example/needlework/needlework/PackedBlock" "lastOffset" "I" (.int (0 : Int32)) := D1224 (Or.inr (hw _ (List.mem_of_getElem? (i := 26) rfl))) (ty := .int) (by decide)
    have f1249 : Fld Z h1224 b1224 "com/example/needlework/needlework/PackedBlock" "middleOffset" "I" (.int (0 : Int32)) := D1224 (Or.inr (hw _ (List.mem_of_getElem? (i := 28) rfl))) (ty := .int) (by decide)
    have f1250 : Fld Z h1224 b1224 "com/example/needlework/needlework/PackedBlock" "units" "Ljava/lang/Object;" .null := D1224 (Or.inl (hw _ (List.mem_of_getElem? (i := 31) rfl))) (ty := (.object "java/lang/Object")) (by decide)
    have f1251 : Fld Z h1224 b1224 "com/example/needlework/needlework/PackedBlock" "lasts" "Ljava/lang/Object;" .null := D1224 (Or.inl (hw _ (List.mem_of_getElem? (i := 34) rfl))) (ty := (.object "java/lang/Object")) (by decide)
    have f1252 : Fld Z h1224 b1224 "com/example/needlework/needlework/PackedBlock" "middles" "Ljava/lang/Object;" .null := D1224 (Or.inl (hw _ (List.mem_of_getElem? (i := 37) rfl))) (ty := (.object "java/lang/Object")) (by decide)
    refine Go.movp st1224 (mkF m 364 #[.val (.int p0), .val (.int p1), .val (.int p2), .val (.long p3), .second, .val (.int p4), .val (.int p5), .val (.int (chr p0)), .val (.int (chr p1)), .val (.int (chr p2)), .val (.int (byt (chr p0))), .val (.int (byt (chr p1))), .val (.int (byt (chr p2))), .val (.ref b546), .val (.ref b568), .val (.ref b599), .val (.ref b639), .val (.ref b685), .val (.ref b740), .val (.int nn), .val (.int ((ushr p5 (11 : Int32)) &&& (3 : Int32))), .val (.ref b568), .val (.ref b599), .val (.ref b685), .val (.ref b740), .unset, .unset, .unset] [(.ref b1224)]) rfl ?_
    refine g_dup X1224 hx (hb hby at_364) (pc' := 365) rfl rfl ?_
    refine g_iload X1224 hx (hb hby at_365) (pc' := 367) rfl rfl ?_
    refine g_iload X1224 hx (hb hby at_367) (pc' := 369) rfl rfl ?_
    refine g_iload X1224 hx (hb hby at_369) (pc' := 371) rfl rfl ?_
    refine g_iconst X1224 hx (hb hby at_371) (pc' := 372) rfl (z := (0 : Int32)) rfl ?_
    refine g_iconst X1224 hx (hb hby at_372) (pc' := 373) rfl (z := (0 : Int32)) rfl ?_
    obtain ⟨v1253, T1253, h1253, L1253, X1253, e1253, N1253, q1253, st1253⟩ := h_special (a := b1224) X1224 hx (W := 1) (Ls := #[.val (.int p0), .val (.int p1), .val (.int p2), .val (.long p3), .second, .val (.int p4), .val (.int p5), .val (.int (chr p0)), .val (.int (chr p1)), .val (.int (chr p2)), .val (.int (byt (chr p0))), .val (.int (byt (chr p1))), .val (.int (byt (chr p2))), .val (.ref b546), .val (.ref b568), .val (.ref b599), .val (.ref b639), .val (.ref b685), .val (.ref b740), .val (.int nn), .val (.int ((ushr p5 (11 : Int32)) &&& (3 : Int32))), .val (.ref b568), .val (.ref b599), .val (.ref b685), .val (.ref b740), .unset, .unset, .unset]) (argsL := [(.int (chr p0)), (.int (chr p1)), (.int (chr p2)), (.int (0 : Int32)), (.int (0 : Int32))]) (rest := [(.ref b1224)]) hZ e1224 N789 hml hown rfl (rm2 l Z a0 hw b1224 (chr p0) (chr p1) (chr p2) (0 : Int32) (0 : Int32) h1224 n0 Z1244 f1245 f1246 f1247 f1248 f1249 f1250 f1251 f1252 A1224 ge1231) (hw _ (List.mem_of_getElem? (i := 8) rfl)) (hw _ (List.mem_of_getElem? (i := 9) rfl)) (hw _ (List.mem_of_getElem? (i := 7) rfl)) (hw _ (List.mem_of_getElem? (i := 10) rfl)) (by decide) pd__CCCII_V rfl rfl (hb hby at_373) rfl (by decide) (by decide) (by decide) (by decide)
    obtain ⟨rfl, K1253, A1253, C0_1253, C1_1253, C2_1253, C3_1253, C4_1253, C5_1253, C6_1253, C7_1253⟩ := q1253
    have f1254 := f1232.keep K1253
    have f1255 := f1233.keep K1253 (ninS ne1225 nin0)
    have f1256 := f1234.keep K1253
    have f1257 := f1235.keep K1253 (ninS ne1226 nin0)
    have f1258 := f1236.keep K1253
    have f1259 := f1237.keep K1253 (ninS ne1227 nin0)
    have f1260 := f1238.keep K1253
    have f1261 := f1239.keep K1253 (ninS ne1228 nin0)
    have f1262 := f1240.keep K1253
    have f1263 := f1241.keep K1253 (ninS ne1229 nin0)
    have f1264 := f1242.keep K1253
    have f1265 := f1243.keep K1253 (ninS ne1230 nin0)
    have f1266 := A1224.keep K1253
    have Z1267 : n0 ≤ h1253.size := Nat.le_trans Z1244 K1253.1
    refine Go.movp st1253 (mkF m 376 #[.val (.int p0), .val (.int p1), .val (.int p2), .val (.long p3), .second, .val (.int p4), .val (.int p5), .val (.int (chr p0)), .val (.int (chr p1)), .val (.int (chr p2)), .val (.int (byt (chr p0))), .val (.int (byt (chr p1))), .val (.int (byt (chr p2))), .val (.ref b546), .val (.ref b568), .val (.ref b599), .val (.ref b639), .val (.ref b685), .val (.ref b740), .val (.int nn), .val (.int ((ushr p5 (11 : Int32)) &&& (3 : Int32))), .val (.ref b568), .val (.ref b599), .val (.ref b685), .val (.ref b740), .unset, .unset, .unset] [(.ref b1224)]) rfl ?_
    refine g_astore X1253 hx (hb hby at_376) (pc' := 378) rfl rfl (Ls' := #[.val (.int p0), .val (.int p1), .val (.int p2), .val (.long p3), .second, .val (.int p4), .val (.int p5), .val (.int (chr p0)), .val (.int (chr p1)), .val (.int (chr p2)), .val (.int (byt (chr p0))), .val (.int (byt (chr p1))), .val (.int (byt (chr p2))), .val (.ref b546), .val (.ref b568), .val (.ref b599), .val (.ref b639), .val (.ref b685), .val (.ref b740), .val (.int nn), .val (.int ((ushr p5 (11 : Int32)) &&& (3 : Int32))), .val (.ref b568), .val (.ref b599), .val (.ref b685), .val (.ref b740), .val (.ref b1224), .unset, .unset]) rfl ?_
    refine g_aload X1253 hx (hb hby at_378) (pc' := 380) rfl rfl rfl ?_
    refine g_aload X1253 hx (hb hby at_380) (pc' := 382) rfl rfl rfl ?_
    obtain ⟨T1268, h1268, X1268, e1268, W1268, st1268⟩ := putF X1253 hx hZ hown (host := "") (Or.inl (hw _ (List.mem_of_getElem? (i := 29) rfl))) (Via.of (hw _ (List.mem_of_getElem? (i := 30) rfl))) e1253 C5_1253 A1253 (Or.inl (hw _ (List.mem_of_getElem? (i := 31) rfl))) (hw _ (List.mem_of_getElem? (i := 6) rfl)) (ty := (.object "java/lang/Object")) (by decide) rfl rfl (g := (mkF m 382 #[.val (.int p0), .val (.int p1), .val (.int p2), .val (.long p3), .second, .val (.int p4), .val (.int p5), .val (.int (chr p0)), .val (.int (chr p1)), .val (.int (chr p2)), .val (.int (byt (chr p0))), .val (.int (byt (chr p1))), .val (.int (byt (chr p2))), .val (.ref b546), .val (.ref b568), .val (.ref b599), .val (.ref b639), .val (.ref b685), .val (.ref b740), .val (.int nn), .val (.int ((ushr p5 (11 : Int32)) &&& (3 : Int32))), .val (.ref b568), .val (.ref b599), .val (.ref b685), .val (.ref b740), .val (.ref b1224), .unset, .unset] [(.ref b546), (.ref b1224)])) rfl rfl (hb hby at_382)
    have f1269 : Fld Z h1268 b1224 "com/example/needlework/needlework/PackedBlock" "units" "Ljava/lang/Object;" (.ref b546) := Fld.same W1268 C5_1253
    have N1268 := Fr.snoc X1268 N1253 ge1231
    have f1270 := Exa.wr W1268 f1254
    have f1271 := f1255.other W1268 ne1225
    have f1272 := Exa.wr W1268 f1256
    have f1273 := f1257.other W1268 ne1226
    have f1274 := Exa.wr W1268 f1258
    have f1275 := f1259.other W1268 ne1227
    have f1276 := Exa.wr W1268 f1260
    have f1277 := f1261.other W1268 ne1228
    have f1278 := Exa.wr W1268 f1262
    have f1279 := f1263.other W1268 ne1229
    have f1280 := Exa.wr W1268 f1264
    have f1281 := f1265.other W1268 ne1230
    have f1282 := Exa.wr W1268 A1253
    have f1283 := Fld.other W1268 C0_1253 (Or.inr (slot_ne (Or.inr (hw _ (List.mem_of_getElem? (i := 20) rfl))) (Or.inl (hw _ (List.mem_of_getElem? (i := 31) rfl))) (by decide) (t := .int) (t' := (.object "java/lang/Object")) (by decide) (by decide)))
    have f1284 := Fld.other W1268 C1_1253 (Or.inr (slot_ne (Or.inr (hw _ (List.mem_of_getElem? (i := 22) rfl))) (Or.inl (hw _ (List.mem_of_getElem? (i := 31) rfl))) (by decide) (t := .int) (t' := (.object "java/lang/Object")) (by decide) (by decide)))
    have f1285 := Fld.other W1268 C2_1253 (Or.inr (slot_ne (Or.inr (hw _ (List.mem_of_getElem? (i := 24) rfl))) (Or.inl (hw _ (List.mem_of_getElem? (i := 31) rfl))) (by decide) (t := .int) (t' := (.object "java/lang/Object")) (by decide) (by decide)))
    have f1286 := Fld.other W1268 C3_1253 (Or.inr (slot_ne (Or.inr (hw _ (List.mem_of_getElem? (i := 26) rfl))) (Or.inl (hw _ (List.mem_of_getElem? (i := 31) rfl))) (by decide) (t := .int) (t' := (.object "java/lang/Object")) (by decide) (by decide)))
    have f1287 := Fld.other W1268 C4_1253 (Or.inr (slot_ne (Or.inr (hw _ (List.mem_of_getElem? (i := 28) rfl))) (Or.inl (hw _ (List.mem_of_getElem? (i := 31) rfl))) (by decide) (t := .int) (t' := (.object "java/lang/Object")) (by decide) (by decide)))
    have f1288 := Fld.other W1268 C6_1253 (Or.inr (slot_ne (Or.inl (hw _ (List.mem_of_getElem? (i := 34) rfl))) (Or.inl (hw _ (List.mem_of_getElem? (i := 31) rfl))) (by decide) (t := (.object "java/lang/Object")) (t' := (.object "java/lang/Object")) (by decide) (by decide)))
    have f1289 := Fld.other W1268 C7_1253 (Or.inr (slot_ne (Or.inl (hw _ (List.mem_of_getElem? (i := 37) rfl))) (Or.inl (hw _ (List.mem_of_getElem? (i := 31) rfl))) (by decide) (t := (.object "java/lang/Object")) (t' := (.object "java/lang/Object")) (by decide) (by decide)))
    have Z1290 : n0 ≤ h1268.size := Nat.le_trans Z1267 (Keep.of_wr W1268).1
    refine Go.movp st1268 (mkF m 385 #[.val (.int p0), .val (.int p1), .val (.int p2), .val (.long p3), .second, .val (.int p4), .val (.int p5), .val (.int (chr p0)), .val (.int (chr p1)), .val (.int (chr p2)), .val (.int (byt (chr p0))), .val (.int (byt (chr p1))), .val (.int (byt (chr p2))), .val (.ref b546), .val (.ref b568), .val (.ref b599), .val (.ref b639), .val (.ref b685), .val (.ref b740), .val (.int nn), .val (.int ((ushr p5 (11 : Int32)) &&& (3 : Int32))), .val (.ref b568), .val (.ref b599), .val (.ref b685), .val (.ref b740), .val (.ref b1224), .unset, .unset] []) rfl ?_
    refine g_aload X1268 hx (hb hby at_385) (pc' := 387) rfl rfl rfl ?_
    refine g_aload X1268 hx (hb hby at_387) (pc' := 389) rfl rfl rfl ?_
    obtain ⟨T1291, h1291, X1291, e1291, W1291, st1291⟩ := putF X1268 hx hZ hown (host := "") (Or.inl (hw _ (List.mem_of_getElem? (i := 32) rfl))) (Via.of (hw _ (List.mem_of_getElem? (i := 33) rfl))) e1268 f1288 f1282 (Or.inl (hw _ (List.mem_of_getElem? (i := 34) rfl))) (hw _ (List.mem_of_getElem? (i := 6) rfl)) (ty := (.object "java/lang/Object")) (by decide) rfl rfl (g := (mkF m 389 #[.val (.int p0), .val (.int p1), .val (.int p2), .val (.long p3), .second, .val (.int p4), .val (.int p5), .val (.int (chr p0)), .val (.int (chr p1)), .val (.int (chr p2)), .val (.int (byt (chr p0))), .val (.int (byt (chr p1))), .val (.int (byt (chr p2))), .val (.ref b546), .val (.ref b568), .val (.ref b599), .val (.ref b639), .val (.ref b685), .val (.ref b740), .val (.int nn), .val (.int ((ushr p5 (11 : Int32)) &&& (3 : Int32))), .val (.ref b568), .val (.ref b599), .val (.ref b685), .val (.ref b740), .val (.ref b1224), .unset, .unset] [(.ref b568), (.ref b1224)])) rfl rfl (hb hby at_389)
    have f1292 : Fld Z h1291 b1224 "com/example/needlework/needlework/PackedBlock" "lasts" "Ljava/lang/Object;" (.ref b568) := Fld.same W1291 f1288
    have N1291 := Fr.snoc X1291 N1268 ge1231
    have f1293 := Exa.wr W1291 f1270
    have f1294 := f1271.other W1291 ne1225
    have f1295 := Exa.wr W1291 f1272
    have f1296 := f1273.other W1291 ne1226
    have f1297 := Exa.wr W1291 f1274
    have f1298 := f1275.other W1291 ne1227
    have f1299 := Exa.wr W1291 f1276
    have f1300 := f1277.other W1291 ne1228
    have f1301 := Exa.wr W1291 f1278
    have f1302 := f1279.other W1291 ne1229
    have f1303 := Exa.wr W1291 f1280
    have f1304 := f1281.other W1291 ne1230
    have f1305 := Exa.wr W1291 f1282
    have f1306 := Fld.other W1291 f1283 (Or.inr (slot_ne (Or.inr (hw _ (List.mem_of_getElem? (i := 20) rfl))) (Or.inl (hw _ (List.mem_of_getElem? (i := 34) rfl))) (by decide) (t := .int) (t' := (.object "java/lang/Object")) (by decide) (by decide)))
    have f1307 := Fld.other W1291 f1284 (Or.inr (slot_ne (Or.inr (hw _ (List.mem_of_getElem? (i := 22) rfl))) (Or.inl (hw _ (List.mem_of_getElem? (i := 34) rfl))) (by decide) (t := .int) (t' := (.object "java/lang/Object")) (by decide) (by decide)))
    have f1308 := Fld.other W1291 f1285 (Or.inr (slot_ne (Or.inr (hw _ (List.mem_of_getElem? (i := 24) rfl))) (Or.inl (hw _ (List.mem_of_getElem? (i := 34) rfl))) (by decide) (t := .int) (t' := (.object "java/lang/Object")) (by decide) (by decide)))
    have f1309 := Fld.other W1291 f1286 (Or.inr (slot_ne (Or.inr (hw _ (List.mem_of_getElem? (i := 26) rfl))) (Or.inl (hw _ (List.mem_of_getElem? (i := 34) rfl))) (by decide) (t := .int) (t' := (.object "java/lang/Object")) (by decide) (by decide)))
    have f1310 := Fld.other W1291 f1287 (Or.inr (slot_ne (Or.inr (hw _ (List.mem_of_getElem? (i := 28) rfl))) (Or.inl (hw _ (List.mem_of_getElem? (i := 34) rfl))) (by decide) (t := .int) (t' := (.object "java/lang/Object")) (by decide) (by decide)))
    have f1311 := Fld.other W1291 f1289 (Or.inr (slot_ne (Or.inl (hw _ (List.mem_of_getElem? (i := 37) rfl))) (Or.inl (hw _ (List.mem_of_getElem? (i := 34) rfl))) (by decide) (t := (.object "java/lang/Object")) (t' := (.object "java/lang/Object")) (by decide) (by decide)))
    have f1312 := Fld.other W1291 f1269 (Or.inr (slot_ne (Or.inl (hw _ (List.mem_of_getElem? (i := 31) rfl))) (Or.inl (hw _ (List.mem_of_getElem? (i := 34) rfl))) (by decide) (t := (.object "java/lang/Object")) (t' := (.object "java/lang/Object")) (by decide) (by decide)))
    have Z1313 : n0 ≤ h1291.size := Nat.le_trans Z1290 (Keep.of_wr W1291).1
    refine Go.movp st1291 (mkF m 392 #[.val (.int p0), .val (.int p1), .val (.int p2), .val (.long p3), .second, .val (.int p4), .val (.int p5), .val (.int (chr p0)), .val (.int (chr p1)), .val (.int (chr p2)), .val (.int (byt (chr p0))), .val (.int (byt (chr p1))), .val (.int (byt (chr p2))), .val (.ref b546), .val (.ref b568), .val (.ref b599), .val (.ref b639), .val (.ref b685), .val (.ref b740), .val (.int nn), .val (.int ((ushr p5 (11 : Int32)) &&& (3 : Int32))), .val (.ref b568), .val (.ref b599), .val (.ref b685), .val (.ref b740), .val (.ref b1224), .unset, .unset] []) rfl ?_
    refine g_aload X1291 hx (hb hby at_392) (pc' := 394) rfl rfl rfl ?_
    refine g_aload X1291 hx (hb hby at_394) (pc' := 396) rfl rfl rfl ?_
    obtain ⟨T1314, h1314, X1314, e1314, W1314, st1314⟩ := putF X1291 hx hZ hown (host := "") (Or.inl (hw _ (List.mem_of_getElem? (i := 35) rfl))) (Via.of (hw _ (List.mem_of_getElem? (i := 36) rfl))) e1291 f1311 f1305 (Or.inl (hw _ (List.mem_of_getElem? (i := 37) rfl))) (hw _ (List.mem_of_getElem? (i := 6) rfl)) (ty := (.object "java/lang/Object")) (by decide) rfl rfl (g := (mkF m 396 #[.val (.int p0), .val (.int p1), .val (.int p2), .val (.long p3), .second, .val (.int p4), .val (.int p5), .val (.int (chr p0)), .val (.int (chr p1)), .val (.int (chr p2)), .val (.int (byt (chr p0))), .val (.int (byt (chr p1))), .val (.int (byt (chr p2))), .val (.ref b546), .val (.ref b568), .val (.ref b599), .val (.ref b639), .val (.ref b685), .val (.ref b740), .val (.int nn), .val (.int ((ushr p5 (11 : Int32)) &&& (3 : Int32))), .val (.ref b568), .val (.ref b599), .val (.ref b685), .val (.ref b740), .val (.ref b1224), .unset, .unset] [(.ref b599), (.ref b1224)])) rfl rfl (hb hby at_396)
    have f1315 : Fld Z h1314 b1224 "com/example/needlework/needlework/PackedBlock" "middles" "Ljava/lang/Object;" (.ref b599) := Fld.same W1314 f1311
    have N1314 := Fr.snoc X1314 N1291 ge1231
    have f1316 := Exa.wr W1314 f1293
    have f1317 := f1294.other W1314 ne1225
    have f1318 := Exa.wr W1314 f1295
    have f1319 := f1296.other W1314 ne1226
    have f1320 := Exa.wr W1314 f1297
    have f1321 := f1298.other W1314 ne1227
    have f1322 := Exa.wr W1314 f1299
    have f1323 := f1300.other W1314 ne1228
    have f1324 := Exa.wr W1314 f1301
    have f1325 := f1302.other W1314 ne1229
    have f1326 := Exa.wr W1314 f1303
    have f1327 := f1304.other W1314 ne1230
    have f1328 := Exa.wr W1314 f1305
    have f1329 := Fld.other W1314 f1306 (Or.inr (slot_ne (Or.inr (hw _ (List.mem_of_getElem? (i := 20) rfl))) (Or.inl (hw _ (List.mem_of_getElem? (i := 37) rfl))) (by decide) (t := .int) (t' := (.object "java/lang/Object")) (by decide) (by decide)))
    have f1330 := Fld.other W1314 f1307 (Or.inr (slot_ne (Or.inr (hw _ (List.mem_of_getElem? (i := 22) rfl))) (Or.inl (hw _ (List.mem_of_getElem? (i := 37) rfl))) (by decide) (t := .int) (t' := (.object "java/lang/Object")) (by decide) (by decide)))
    have f1331 := Fld.other W1314 f1308 (Or.inr (slot_ne (Or.inr (hw _ (List.mem_of_getElem? (i := 24) rfl))) (Or.inl (hw _ (List.mem_of_getElem? (i := 37) rfl))) (by decide) (t := .int) (t' := (.object "java/lang/Object")) (by decide) (by decide)))
    have f1332 := Fld.other W1314 f1309 (Or.inr (slot_ne (Or.inr (hw _ (List.mem_of_getElem? (i := 26) rfl))) (Or.inl (hw _ (List.mem_of_getElem? (i := 37) rfl))) (by decide) (t := .int) (t' := (.object "java/lang/Object")) (by decide) (by decide)))
    have f1333 := Fld.other W1314 f1310 (Or.inr (slot_ne (Or.inr (hw _ (List.mem_of_getElem? (i := 28) rfl))) (Or.inl (hw _ (List.mem_of_getElem? (i := 37) rfl))) (by decide) (t := .int) (t' := (.object "java/lang/Object")) (by decide) (by decide)))
    have f1334 := Fld.other W1314 f1312 (Or.inr (slot_ne (Or.inl (hw _ (List.mem_of_getElem? (i := 31) rfl))) (Or.inl (hw _ (List.mem_of_getElem? (i := 37) rfl))) (by decide) (t := (.object "java/lang/Object")) (t' := (.object "java/lang/Object")) (by decide) (by decide)))
    have f1335 := Fld.other W1314 f1292 (Or.inr (slot_ne (Or.inl (hw _ (List.mem_of_getElem? (i := 34) rfl))) (Or.inl (hw _ (List.mem_of_getElem? (i := 37) rfl))) (by decide) (t := (.object "java/lang/Object")) (t' := (.object "java/lang/Object")) (by decide) (by decide)))
    have Z1336 : n0 ≤ h1314.size := Nat.le_trans Z1313 (Keep.of_wr W1314).1
    refine Go.movp st1314 (mkF m 399 #[.val (.int p0), .val (.int p1), .val (.int p2), .val (.long p3), .second, .val (.int p4), .val (.int p5), .val (.int (chr p0)), .val (.int (chr p1)), .val (.int (chr p2)), .val (.int (byt (chr p0))), .val (.int (byt (chr p1))), .val (.int (byt (chr p2))), .val (.ref b546), .val (.ref b568), .val (.ref b599), .val (.ref b639), .val (.ref b685), .val (.ref b740), .val (.int nn), .val (.int ((ushr p5 (11 : Int32)) &&& (3 : Int32))), .val (.ref b568), .val (.ref b599), .val (.ref b685), .val (.ref b740), .val (.ref b1224), .unset, .unset] []) rfl ?_
    refine g_aload X1314 hx (hb hby at_399) (pc' := 401) rfl rfl rfl ?_
    refine g_iload X1314 hx (hb hby at_401) (pc' := 403) rfl rfl ?_
    obtain ⟨w0, hw0⟩ : ∃ z : Int32, z = (if (0 : Int32) < nn then (mkV u0 l0 m0 (byt (chr p0)) (byt (chr p1)) (byt (chr p2))) else u0) := ⟨_, rfl⟩
    obtain ⟨w1, hw1⟩ : ∃ z : Int32, z = (if (1 : Int32) < nn then (mkV u1 l1 m1 (byt (chr p0)) (byt (chr p1)) (byt (chr p2))) else u1) := ⟨_, rfl⟩
    obtain ⟨w2, hw2⟩ : ∃ z : Int32, z = (if (2 : Int32) < nn then (mkV u2 l2 m2 (byt (chr p0)) (byt (chr p1)) (byt (chr p2))) else u2) := ⟨_, rfl⟩
    obtain ⟨v1337, T1337, h1337, L1337, X1337, e1337, N1337, q1337, st1337⟩ := h_virtual (a := b1224) (z := (⟨"com/example/needlework/needlework/PackedBlock$Bytes", "mark", "(I)V"⟩ : MethodName)) X1314 hx (W := 0) (Ls := #[.val (.int p0), .val (.int p1), .val (.int p2), .val (.long p3), .second, .val (.int p4), .val (.int p5), .val (.int (chr p0)), .val (.int (chr p1)), .val (.int (chr p2)), .val (.int (byt (chr p0))), .val (.int (byt (chr p1))), .val (.int (byt (chr p2))), .val (.ref b546), .val (.ref b568), .val (.ref b599), .val (.ref b639), .val (.ref b685), .val (.ref b740), .val (.int nn), .val (.int ((ushr p5 (11 : Int32)) &&& (3 : Int32))), .val (.ref b568), .val (.ref b599), .val (.ref b685), .val (.ref b740), .val (.ref b1224), .unset, .unset]) (argsL := [(.int nn)]) (rest := []) hZ e1314 N1314 hml hown (rm5_0 l Z a0 hw b1224 b546 b568 b599 u0 u1 u2 l0 l1 l2 m0 m1 m2 (byt (chr p0)) (byt (chr p1)) (byt (chr p2)) nn w0 w1 w2 h1314 n0 Z1336 f1334 f1335 f1315 f1329 f1330 f1331 f1317 f1319 f1321 f1316 f1318 f1320 ge547 (Ne.symm ne569) (Ne.symm ne600) (Ne.symm ne1225) hnn hw0 hw1 hw2) f1328 (hw _ (List.mem_of_getElem? (i := 38) rfl)) (hw _ (List.mem_of_getElem? (i := 39) rfl)) (notFace_of_selects (args := #[]) (mvT hZ (hw _ (List.mem_of_getElem? (i := 41) rfl)))) (hw _ (List.mem_of_getElem? (i := 41) rfl)) (hw _ (List.mem_of_getElem? (i := 40) rfl)) (hw _ (List.mem_of_getElem? (i := 7) rfl)) (hw _ (List.mem_of_getElem? (i := 42) rfl)) (by decide) pd__I_V rfl rfl (hb hby at_403) rfl (by decide) (by decide) (by decide) (by decide)
    obtain ⟨rfl, K1337, V1337⟩ := q1337
    have f1338 := f1316.keep K1337
    have f1339 := f1318.keep K1337
    have f1340 := f1319.keep K1337 (ninS (Ne.symm ne569) nin0)
    have f1341 := f1320.keep K1337
    have f1342 := f1321.keep K1337 (ninS (Ne.symm ne600) nin0)
    have f1343 := f1322.keep K1337
    have f1344 := f1323.keep K1337 (ninS (Ne.symm ne640) nin0)
    have f1345 := f1324.keep K1337
    have f1346 := f1325.keep K1337 (ninS (Ne.symm ne686) nin0)
    have f1347 := f1326.keep K1337
    have f1348 := f1327.keep K1337 (ninS (Ne.symm ne741) nin0)
    have f1349 := f1328.keep K1337
    have f1350 := f1329.keep K1337 (ninS (Ne.symm ne1225) nin0)
    have f1351 := f1330.keep K1337 (ninS (Ne.symm ne1225) nin0)
    have f1352 := f1331.keep K1337 (ninS (Ne.symm ne1225) nin0)
    have f1353 := f1332.keep K1337 (ninS (Ne.symm ne1225) nin0)
    have f1354 := f1333.keep K1337 (ninS (Ne.symm ne1225) nin0)
    have f1355 := f1334.keep K1337 (ninS (Ne.symm ne1225) nin0)
    have f1356 := f1335.keep K1337 (ninS (Ne.symm ne1225) nin0)
    have f1357 := f1315.keep K1337 (ninS (Ne.symm ne1225) nin0)
    have Z1358 : n0 ≤ h1337.size := Nat.le_trans Z1336 K1337.1
    refine Go.movp st1337 (mkF m 406 #[.val (.int p0), .val (.int p1), .val (.int p2), .val (.long p3), .second, .val (.int p4), .val (.int p5), .val (.int (chr p0)), .val (.int (chr p1)), .val (.int (chr p2)), .val (.int (byt (chr p0))), .val (.int (byt (chr p1))), .val (.int (byt (chr p2))), .val (.ref b546), .val (.ref b568), .val (.ref b599), .val (.ref b639), .val (.ref b685), .val (.ref b740), .val (.int nn), .val (.int ((ushr p5 (11 : Int32)) &&& (3 : Int32))), .val (.ref b568), .val (.ref b599), .val (.ref b685), .val (.ref b740), .val (.ref b1224), .unset, .unset] []) rfl ?_
    refine g_aload X1337 hx (hb hby at_406) (pc' := 408) rfl rfl rfl ?_
    obtain ⟨T1359, X1359, e1359, st1359⟩ := getF X1337 hx hZ hown (host := "") (Or.inl (hw _ (List.mem_of_getElem? (i := 29) rfl))) (Via.of (hw _ (List.mem_of_getElem? (i := 30) rfl))) e1337 f1355 (g := (mkF m 408 #[.val (.int p0), .val (.int p1), .val (.int p2), .val (.long p3), .second, .val (.int p4), .val (.int p5), .val (.int (chr p0)), .val (.int (chr p1)), .val (.int (chr p2)), .val (.int (byt (chr p0))), .val (.int (byt (chr p1))), .val (.int (byt (chr p2))), .val (.ref b546), .val (.ref b568), .val (.ref b599), .val (.ref b639), .val (.ref b685), .val (.ref b740), .val (.int nn), .val (.int ((ushr p5 (11 : Int32)) &&& (3 : Int32))), .val (.ref b568), .val (.ref b599), .val (.ref b685), .val (.ref b740), .val (.ref b1224), .unset, .unset] [(.ref b1224)])) rfl rfl (hb hby at_408)
    refine Go.movp st1359 (mkF m 411 #[.val (.int p0), .val (.int p1), .val (.int p2), .val (.long p3), .second, .val (.int p4), .val (.int p5), .val (.int (chr p0)), .val (.int (chr p1)), .val (.int (chr p2)), .val (.int (byt (chr p0))), .val (.int (byt (chr p1))), .val (.int (byt (chr p2))), .val (.ref b546), .val (.ref b568), .val (.ref b599), .val (.ref b639), .val (.ref b685), .val (.ref b740), .val (.int nn), .val (.int ((ushr p5 (11 : Int32)) &&& (3 : Int32))), .val (.ref b568), .val (.ref b599), .val (.ref b685), .val (.ref b740), .val (.ref b1224), .unset, .unset] [(.ref b546)]) rfl ?_
    obtain ⟨T1360, X1360, e1360, st1360⟩ := castY X1359 hx hZ hown (hw _ (List.mem_of_getElem? (i := 54) rfl)) e1359 (Ins.self f1338) (g := (mkF m 411 #[.val (.int p0), .val (.int p1), .val (.int p2), .val (.long p3), .second, .val (.int p4), .val (.int p5), .val (.int (chr p0)), .val (.int (chr p1)), .val (.int (chr p2)), .val (.int (byt (chr p0))), .val (.int (byt (chr p1))), .val (.int (byt (chr p2))), .val (.ref b546), .val (.ref b568), .val (.ref b599), .val (.ref b639), .val (.ref b685), .val (.ref b740), .val (.int nn), .val (.int ((ushr p5 (11 : Int32)) &&& (3 : Int32))), .val (.ref b568), .val (.ref b599), .val (.ref b685), .val (.ref b740), .val (.ref b1224), .unset, .unset] [(.ref b546)])) rfl rfl (hb hby at_411)
    refine Go.movp st1360 (mkF m 414 #[.val (.int p0), .val (.int p1), .val (.int p2), .val (.long p3), .second, .val (.int p4), .val (.int p5), .val (.int (chr p0)), .val (.int (chr p1)), .val (.int (chr p2)), .val (.int (byt (chr p0))), .val (.int (byt (chr p1))), .val (.int (byt (chr p2))), .val (.ref b546), .val (.ref b568), .val (.ref b599), .val (.ref b639), .val (.ref b685), .val (.ref b740), .val (.int nn), .val (.int ((ushr p5 (11 : Int32)) &&& (3 : Int32))), .val (.ref b568), .val (.ref b599), .val (.ref b685), .val (.ref b740), .val (.ref b1224), .unset, .unset] [(.ref b546)]) rfl ?_
    refine g_astore X1360 hx (hb hby at_414) (pc' := 416) rfl rfl (Ls' := #[.val (.int p0), .val (.int p1), .val (.int p2), .val (.long p3), .second, .val (.int p4), .val (.int p5), .val (.int (chr p0)), .val (.int (chr p1)), .val (.int (chr p2)), .val (.int (byt (chr p0))), .val (.int (byt (chr p1))), .val (.int (byt (chr p2))), .val (.ref b546), .val (.ref b568), .val (.ref b599), .val (.ref b639), .val (.ref b685), .val (.ref b740), .val (.int nn), .val (.int ((ushr p5 (11 : Int32)) &&& (3 : Int32))), .val (.ref b568), .val (.ref b599), .val (.ref b685), .val (.ref b740), .val (.ref b1224), .val (.ref b546), .unset]) rfl ?_
    refine g_aload X1360 hx (hb hby at_416) (pc' := 418) rfl rfl rfl ?_
    refine g_aload X1360 hx (hb hby at_418) (pc' := 420) rfl rfl rfl ?_
    refine g_acmp_eq X1360 hx (hb hby at_420) rfl rfl (pc1 := 423) rfl (by decide) (pc2 := 425) (by decide) (fun hc420 => ?_) (fun hc420 => absurd rfl hc420)
    refine g_iconst X1360 hx (hb hby at_425) (pc' := 426) rfl (z := (0 : Int32)) rfl ?_
    refine g_iload X1360 hx (hb hby at_426) (pc' := 428) rfl rfl ?_
    refine g_aload X1360 hx (hb hby at_428) (pc' := 430) rfl rfl rfl ?_
    refine g_aload X1360 hx (hb hby at_430) (pc' := 432) rfl rfl rfl ?_
    refine g_aload X1360 hx (hb hby at_432) (pc' := 434) rfl rfl rfl ?_
    refine g_iload X1360 hx (hb hby at_434) (pc' := 436) rfl rfl ?_
    refine g_iload X1360 hx (hb hby at_436) (pc' := 438) rfl rfl ?_
    refine g_iload X1360 hx (hb hby at_438) (pc' := 440) rfl rfl ?_
    refine g_aload X1360 hx (hb hby at_440) (pc' := 442) rfl rfl rfl ?_
    refine g_iconst X1360 hx (hb hby at_442) (pc' := 443) rfl (z := (0 : Int32)) rfl ?_
    refine g_baload X1360 hx hZ e1360 V1337 (i := 0) (v := (.int w0)) (hb hby at_443) (pc' := 444) rfl (by decide) rfl rfl ?_
    obtain ⟨v1361, T1361, h1361, L1361, X1361, e1361, N1361, q1361, st1361⟩ := h_static X1360 hx (W := 0) (Ls := #[.val (.int p0), .val (.int p1), .val (.int p2), .val (.long p3), .second, .val (.int p4), .val (.int p5), .val (.int (chr p0)), .val (.int (chr p1)), .val (.int (chr p2)), .val (.int (byt (chr p0))), .val (.int (byt (chr p1))), .val (.int (byt (chr p2))), .val (.ref b546), .val (.ref b568), .val (.ref b599), .val (.ref b639), .val (.ref b685), .val (.ref b740), .val (.int nn), .val (.int ((ushr p5 (11 : Int32)) &&& (3 : Int32))), .val (.ref b568), .val (.ref b599), .val (.ref b685), .val (.ref b740), .val (.ref b1224), .val (.ref b546), .unset]) (argsL := [(.int (0 : Int32)), (.int nn), (.ref b639), (.ref b685), (.ref b740), (.int (byt (chr p0))), (.int (byt (chr p1))), (.int (byt (chr p2))), (.int w0)]) (rest := []) hZ e1360 N1337 hml hown (rm6_0 l Z a0 hw b639 b685 b740 u0 u1 u2 l0 l1 l2 m0 m1 m2 (byt (chr p0)) (byt (chr p1)) (byt (chr p2)) w0 nn h1337 n0 Z1358 f1344 f1346 f1348 (by rw [hw0, own_mk bu0 bl0 bm0 (byt_byt _) (byt_byt _) (byt_byt _)])) (hw _ (List.mem_of_getElem? (i := 55) rfl)) (hw _ (List.mem_of_getElem? (i := 56) rfl)) (hw _ (List.mem_of_getElem? (i := 3) rfl)) (hw _ (List.mem_of_getElem? (i := 57) rfl)) (by decide) pd__II_B_B_BBBBB_Z rfl rfl (hb hby at_444) rfl (by decide) (by decide) (by decide) (by decide)
    obtain ⟨rfl, rfl⟩ := q1361
    refine Go.movp st1361 (mkF m 447 #[.val (.int p0), .val (.int p1), .val (.int p2), .val (.long p3), .second, .val (.int p4), .val (.int p5), .val (.int (chr p0)), .val (.int (chr p1)), .val (.int (chr p2)), .val (.int (byt (chr p0))), .val (.int (byt (chr p1))), .val (.int (byt (chr p2))), .val (.ref b546), .val (.ref b568), .val (.ref b599), .val (.ref b639), .val (.ref b685), .val (.ref b740), .val (.int nn), .val (.int ((ushr p5 (11 : Int32)) &&& (3 : Int32))), .val (.ref b568), .val (.ref b599), .val (.ref b685), .val (.ref b740), .val (.ref b1224), .val (.ref b546), .unset] [(.int (1 : Int32))]) rfl ?_
    refine g_if_eq X1361 hx (hb hby at_447) (pc1 := 450) rfl (by decide) (pc2 := 504) (by decide) (fun hc447 => absurd hc447 (by decide)) (fun hc447 => ?_)
    refine g_iconst X1361 hx (hb hby at_450) (pc' := 451) rfl (z := (1 : Int32)) rfl ?_
    refine g_iload X1361 hx (hb hby at_451) (pc' := 453) rfl rfl ?_
    refine g_aload X1361 hx (hb hby at_453) (pc' := 455) rfl rfl rfl ?_
    refine g_aload X1361 hx (hb hby at_455) (pc' := 457) rfl rfl rfl ?_
    refine g_aload X1361 hx (hb hby at_457) (pc' := 459) rfl rfl rfl ?_
    refine g_iload X1361 hx (hb hby at_459) (pc' := 461) rfl rfl ?_
    refine g_iload X1361 hx (hb hby at_461) (pc' := 463) rfl rfl ?_
    refine g_iload X1361 hx (hb hby at_463) (pc' := 465) rfl rfl ?_
    refine g_aload X1361 hx (hb hby at_465) (pc' := 467) rfl rfl rfl ?_
    refine g_iconst X1361 hx (hb hby at_467) (pc' := 468) rfl (z := (1 : Int32)) rfl ?_
    refine g_baload X1361 hx hZ e1361 V1337 (i := 1) (v := (.int w1)) (hb hby at_468) (pc' := 469) rfl (by decide) rfl rfl ?_
    obtain ⟨v1362, T1362, h1362, L1362, X1362, e1362, N1362, q1362, st1362⟩ := h_static X1361 hx (W := 0) (Ls := #[.val (.int p0), .val (.int p1), .val (.int p2), .val (.long p3), .second, .val (.int p4), .val (.int p5), .val (.int (chr p0)), .val (.int (chr p1)), .val (.int (chr p2)), .val (.int (byt (chr p0))), .val (.int (byt (chr p1))), .val (.int (byt (chr p2))), .val (.ref b546), .val (.ref b568), .val (.ref b599), .val (.ref b639), .val (.ref b685), .val (.ref b740), .val (.int nn), .val (.int ((ushr p5 (11 : Int32)) &&& (3 : Int32))), .val (.ref b568), .val (.ref b599), .val (.ref b685), .val (.ref b740), .val (.ref b1224), .val (.ref b546), .unset]) (argsL := [(.int (1 : Int32)), (.int nn), (.ref b639), (.ref b685), (.ref b740), (.int (byt (chr p0))), (.int (byt (chr p1))), (.int (byt (chr p2))), (.int w1)]) (rest := []) hZ e1361 N1361 hml hown (rm6_1 l Z a0 hw b639 b685 b740 u0 u1 u2 l0 l1 l2 m0 m1 m2 (byt (chr p0)) (byt (chr p1)) (byt (chr p2)) w1 nn h1337 n0 Z1358 f1344 f1346 f1348 (by rw [hw1, own_mk bu1 bl1 bm1 (byt_byt _) (byt_byt _) (byt_byt _)])) (hw _ (List.mem_of_getElem? (i := 55) rfl)) (hw _ (List.mem_of_getElem? (i := 56) rfl)) (hw _ (List.mem_of_getElem? (i := 3) rfl)) (hw _ (List.mem_of_getElem? (i := 57) rfl)) (by decide) pd__II_B_B_BBBBB_Z rfl rfl (hb hby at_469) rfl (by decide) (by decide) (by decide) (by decide)
    obtain ⟨rfl, rfl⟩ := q1362
    refine Go.movp st1362 (mkF m 472 #[.val (.int p0), .val (.int p1), .val (.int p2), .val (.long p3), .second, .val (.int p4), .val (.int p5), .val (.int (chr p0)), .val (.int (chr p1)), .val (.int (chr p2)), .val (.int (byt (chr p0))), .val (.int (byt (chr p1))), .val (.int (byt (chr p2))), .val (.ref b546), .val (.ref b568), .val (.ref b599), .val (.ref b639), .val (.ref b685), .val (.ref b740), .val (.int nn), .val (.int ((ushr p5 (11 : Int32)) &&& (3 : Int32))), .val (.ref b568), .val (.ref b599), .val (.ref b685), .val (.ref b740), .val (.ref b1224), .val (.ref b546), .unset] [(.int (1 : Int32))]) rfl ?_
    refine g_if_eq X1362 hx (hb hby at_472) (pc1 := 475) rfl (by decide) (pc2 := 504) (by decide) (fun hc472 => absurd hc472 (by decide)) (fun hc472 => ?_)
    refine g_iconst X1362 hx (hb hby at_475) (pc' := 476) rfl (z := (2 : Int32)) rfl ?_
    refine g_iload X1362 hx (hb hby at_476) (pc' := 478) rfl rfl ?_
    refine g_aload X1362 hx (hb hby at_478) (pc' := 480) rfl rfl rfl ?_
    refine g_aload X1362 hx (hb hby at_480) (pc' := 482) rfl rfl rfl ?_
    refine g_aload X1362 hx (hb hby at_482) (pc' := 484) rfl rfl rfl ?_
    refine g_iload X1362 hx (hb hby at_484) (pc' := 486) rfl rfl ?_
    refine g_iload X1362 hx (hb hby at_486) (pc' := 488) rfl rfl ?_
    refine g_iload X1362 hx (hb hby at_488) (pc' := 490) rfl rfl ?_
    refine g_aload X1362 hx (hb hby at_490) (pc' := 492) rfl rfl rfl ?_
    refine g_iconst X1362 hx (hb hby at_492) (pc' := 493) rfl (z := (2 : Int32)) rfl ?_
    refine g_baload X1362 hx hZ e1362 V1337 (i := 2) (v := (.int w2)) (hb hby at_493) (pc' := 494) rfl (by decide) rfl rfl ?_
    obtain ⟨v1363, T1363, h1363, L1363, X1363, e1363, N1363, q1363, st1363⟩ := h_static X1362 hx (W := 0) (Ls := #[.val (.int p0), .val (.int p1), .val (.int p2), .val (.long p3), .second, .val (.int p4), .val (.int p5), .val (.int (chr p0)), .val (.int (chr p1)), .val (.int (chr p2)), .val (.int (byt (chr p0))), .val (.int (byt (chr p1))), .val (.int (byt (chr p2))), .val (.ref b546), .val (.ref b568), .val (.ref b599), .val (.ref b639), .val (.ref b685), .val (.ref b740), .val (.int nn), .val (.int ((ushr p5 (11 : Int32)) &&& (3 : Int32))), .val (.ref b568), .val (.ref b599), .val (.ref b685), .val (.ref b740), .val (.ref b1224), .val (.ref b546), .unset]) (argsL := [(.int (2 : Int32)), (.int nn), (.ref b639), (.ref b685), (.ref b740), (.int (byt (chr p0))), (.int (byt (chr p1))), (.int (byt (chr p2))), (.int w2)]) (rest := []) hZ e1362 N1362 hml hown (rm6_2 l Z a0 hw b639 b685 b740 u0 u1 u2 l0 l1 l2 m0 m1 m2 (byt (chr p0)) (byt (chr p1)) (byt (chr p2)) w2 nn h1337 n0 Z1358 f1344 f1346 f1348 (by rw [hw2, own_mk bu2 bl2 bm2 (byt_byt _) (byt_byt _) (byt_byt _)])) (hw _ (List.mem_of_getElem? (i := 55) rfl)) (hw _ (List.mem_of_getElem? (i := 56) rfl)) (hw _ (List.mem_of_getElem? (i := 3) rfl)) (hw _ (List.mem_of_getElem? (i := 57) rfl)) (by decide) pd__II_B_B_BBBBB_Z rfl rfl (hb hby at_494) rfl (by decide) (by decide) (by decide) (by decide)
    obtain ⟨rfl, rfl⟩ := q1363
    refine Go.movp st1363 (mkF m 497 #[.val (.int p0), .val (.int p1), .val (.int p2), .val (.long p3), .second, .val (.int p4), .val (.int p5), .val (.int (chr p0)), .val (.int (chr p1)), .val (.int (chr p2)), .val (.int (byt (chr p0))), .val (.int (byt (chr p1))), .val (.int (byt (chr p2))), .val (.ref b546), .val (.ref b568), .val (.ref b599), .val (.ref b639), .val (.ref b685), .val (.ref b740), .val (.int nn), .val (.int ((ushr p5 (11 : Int32)) &&& (3 : Int32))), .val (.ref b568), .val (.ref b599), .val (.ref b685), .val (.ref b740), .val (.ref b1224), .val (.ref b546), .unset] [(.int (1 : Int32))]) rfl ?_
    refine g_if_eq X1363 hx (hb hby at_497) (pc1 := 500) rfl (by decide) (pc2 := 504) (by decide) (fun hc497 => absurd hc497 (by decide)) (fun hc497 => ?_)
    refine g_iconst X1363 hx (hb hby at_500) (pc' := 501) rfl (z := (1 : Int32)) rfl ?_
    refine g_goto X1363 hx (hb hby at_501) (by decide) (pc' := 505) (by decide) ?_
    refine g_istore X1363 hx (hb hby at_505) (pc' := 507) rfl (Ls' := #[.val (.int p0), .val (.int p1), .val (.int p2), .val (.long p3), .second, .val (.int p4), .val (.int p5), .val (.int (chr p0)), .val (.int (chr p1)), .val (.int (chr p2)), .val (.int (byt (chr p0))), .val (.int (byt (chr p1))), .val (.int (byt (chr p2))), .val (.ref b546), .val (.ref b568), .val (.ref b599), .val (.ref b639), .val (.ref b685), .val (.ref b740), .val (.int nn), .val (.int ((ushr p5 (11 : Int32)) &&& (3 : Int32))), .val (.ref b568), .val (.ref b599), .val (.ref b685), .val (.ref b740), .val (.ref b1224), .val (.ref b546), .val (.int (1 : Int32))]) rfl ?_
    refine g_aload X1363 hx (hb hby at_507) (pc' := 509) rfl rfl rfl ?_
    refine g_aload X1363 hx (hb hby at_509) (pc' := 511) rfl rfl rfl ?_
    refine g_acmp_eq X1363 hx (hb hby at_511) rfl rfl (pc1 := 514) rfl (by decide) (pc2 := 559) (by decide) (fun hc511 => absurd hc511 (fun q => (Ne.symm ne569) (Value.ref.inj q))) (fun hc511 => ?_)
    refine g_iload X1363 hx (hb hby at_514) (pc' := 516) rfl rfl ?_
    refine g_if_eq X1363 hx (hb hby at_516) (pc1 := 519) rfl (by decide) (pc2 := 556) (by decide) (fun hc516 => absurd hc516 (by decide)) (fun hc516 => ?_)
    refine g_aload X1363 hx (hb hby at_519) (pc' := 521) rfl rfl rfl ?_
    refine g_iconst X1363 hx (hb hby at_521) (pc' := 522) rfl (z := (0 : Int32)) rfl ?_
    refine g_baload X1363 hx hZ e1363 f1340 (i := 0) (v := (.int l0)) (hb hby at_522) (pc' := 523) rfl (by decide) rfl rfl ?_
    refine g_aload X1363 hx (hb hby at_523) (pc' := 525) rfl rfl rfl ?_
    refine g_iconst X1363 hx (hb hby at_525) (pc' := 526) rfl (z := (0 : Int32)) rfl ?_
    refine g_baload X1363 hx hZ e1363 f1346 (i := 0) (v := (.int l0)) (hb hby at_526) (pc' := 527) rfl (by decide) rfl rfl ?_
    refine g_icmp_ne X1363 hx (hb hby at_527) (pc1 := 530) rfl (by decide) (pc2 := 556) (by decide) (fun hc527 => absurd rfl hc527) (fun hc527 => ?_)
    refine g_aload X1363 hx (hb hby at_530) (pc' := 532) rfl rfl rfl ?_
    refine g_iconst X1363 hx (hb hby at_532) (pc' := 533) rfl (z := (1 : Int32)) rfl ?_
    refine g_baload X1363 hx hZ e1363 f1340 (i := 1) (v := (.int l1)) (hb hby at_533) (pc' := 534) rfl (by decide) rfl rfl ?_
    refine g_aload X1363 hx (hb hby at_534) (pc' := 536) rfl rfl rfl ?_
    refine g_iconst X1363 hx (hb hby at_536) (pc' := 537) rfl (z := (1 : Int32)) rfl ?_
    refine g_baload X1363 hx hZ e1363 f1346 (i := 1) (v := (.int l1)) (hb hby at_537) (pc' := 538) rfl (by decide) rfl rfl ?_
    refine g_icmp_ne X1363 hx (hb hby at_538) (pc1 := 541) rfl (by decide) (pc2 := 556) (by decide) (fun hc538 => absurd rfl hc538) (fun hc538 => ?_)
    refine g_aload X1363 hx (hb hby at_541) (pc' := 543) rfl rfl rfl ?_
    refine g_iconst X1363 hx (hb hby at_543) (pc' := 544) rfl (z := (2 : Int32)) rfl ?_
    refine g_baload X1363 hx hZ e1363 f1340 (i := 2) (v := (.int l2)) (hb hby at_544) (pc' := 545) rfl (by decide) rfl rfl ?_
    refine g_aload X1363 hx (hb hby at_545) (pc' := 547) rfl rfl rfl ?_
    refine g_iconst X1363 hx (hb hby at_547) (pc' := 548) rfl (z := (2 : Int32)) rfl ?_
    refine g_baload X1363 hx hZ e1363 f1346 (i := 2) (v := (.int l2)) (hb hby at_548) (pc' := 549) rfl (by decide) rfl rfl ?_
    refine g_icmp_ne X1363 hx (hb hby at_549) (pc1 := 552) rfl (by decide) (pc2 := 556) (by decide) (fun hc549 => absurd rfl hc549) (fun hc549 => ?_)
    refine g_iconst X1363 hx (hb hby at_552) (pc' := 553) rfl (z := (1 : Int32)) rfl ?_
    refine g_goto X1363 hx (hb hby at_553) (by decide) (pc' := 557) (by decide) ?_
    refine g_istore X1363 hx (hb hby at_557) (pc' := 559) rfl (Ls' := #[.val (.int p0), .val (.int p1), .val (.int p2), .val (.long p3), .second, .val (.int p4), .val (.int p5), .val (.int (chr p0)), .val (.int (chr p1)), .val (.int (chr p2)), .val (.int (byt (chr p0))), .val (.int (byt (chr p1))), .val (.int (byt (chr p2))), .val (.ref b546), .val (.ref b568), .val (.ref b599), .val (.ref b639), .val (.ref b685), .val (.ref b740), .val (.int nn), .val (.int ((ushr p5 (11 : Int32)) &&& (3 : Int32))), .val (.ref b568), .val (.ref b599), .val (.ref b685), .val (.ref b740), .val (.ref b1224), .val (.ref b546), .val (.int (1 : Int32))]) rfl ?_
    refine g_aload X1363 hx (hb hby at_559) (pc' := 561) rfl rfl rfl ?_
    refine g_aload X1363 hx (hb hby at_561) (pc' := 563) rfl rfl rfl ?_
    refine g_acmp_eq X1363 hx (hb hby at_563) rfl rfl (pc1 := 566) rfl (by decide) (pc2 := 611) (by decide) (fun hc563 => absurd hc563 (fun q => (Ne.symm ne600) (Value.ref.inj q))) (fun hc563 => ?_)
    refine g_iload X1363 hx (hb hby at_566) (pc' := 568) rfl rfl ?_
    refine g_if_eq X1363 hx (hb hby at_568) (pc1 := 571) rfl (by decide) (pc2 := 608) (by decide) (fun hc568 => absurd hc568 (by decide)) (fun hc568 => ?_)
    refine g_aload X1363 hx (hb hby at_571) (pc' := 573) rfl rfl rfl ?_
    refine g_iconst X1363 hx (hb hby at_573) (pc' := 574) rfl (z := (0 : Int32)) rfl ?_
    refine g_baload X1363 hx hZ e1363 f1342 (i := 0) (v := (.int m0)) (hb hby at_574) (pc' := 575) rfl (by decide) rfl rfl ?_
    refine g_aload X1363 hx (hb hby at_575) (pc' := 577) rfl rfl rfl ?_
    refine g_iconst X1363 hx (hb hby at_577) (pc' := 578) rfl (z := (0 : Int32)) rfl ?_
    refine g_baload X1363 hx hZ e1363 f1348 (i := 0) (v := (.int m0)) (hb hby at_578) (pc' := 579) rfl (by decide) rfl rfl ?_
    refine g_icmp_ne X1363 hx (hb hby at_579) (pc1 := 582) rfl (by decide) (pc2 := 608) (by decide) (fun hc579 => absurd rfl hc579) (fun hc579 => ?_)
    refine g_aload X1363 hx (hb hby at_582) (pc' := 584) rfl rfl rfl ?_
    refine g_iconst X1363 hx (hb hby at_584) (pc' := 585) rfl (z := (1 : Int32)) rfl ?_
    refine g_baload X1363 hx hZ e1363 f1342 (i := 1) (v := (.int m1)) (hb hby at_585) (pc' := 586) rfl (by decide) rfl rfl ?_
    refine g_aload X1363 hx (hb hby at_586) (pc' := 588) rfl rfl rfl ?_
    refine g_iconst X1363 hx (hb hby at_588) (pc' := 589) rfl (z := (1 : Int32)) rfl ?_
    refine g_baload X1363 hx hZ e1363 f1348 (i := 1) (v := (.int m1)) (hb hby at_589) (pc' := 590) rfl (by decide) rfl rfl ?_
    refine g_icmp_ne X1363 hx (hb hby at_590) (pc1 := 593) rfl (by decide) (pc2 := 608) (by decide) (fun hc590 => absurd rfl hc590) (fun hc590 => ?_)
    refine g_aload X1363 hx (hb hby at_593) (pc' := 595) rfl rfl rfl ?_
    refine g_iconst X1363 hx (hb hby at_595) (pc' := 596) rfl (z := (2 : Int32)) rfl ?_
    refine g_baload X1363 hx hZ e1363 f1342 (i := 2) (v := (.int m2)) (hb hby at_596) (pc' := 597) rfl (by decide) rfl rfl ?_
    refine g_aload X1363 hx (hb hby at_597) (pc' := 599) rfl rfl rfl ?_
    refine g_iconst X1363 hx (hb hby at_599) (pc' := 600) rfl (z := (2 : Int32)) rfl ?_
    refine g_baload X1363 hx hZ e1363 f1348 (i := 2) (v := (.int m2)) (hb hby at_600) (pc' := 601) rfl (by decide) rfl rfl ?_
    refine g_icmp_ne X1363 hx (hb hby at_601) (pc1 := 604) rfl (by decide) (pc2 := 608) (by decide) (fun hc601 => absurd rfl hc601) (fun hc601 => ?_)
    refine g_iconst X1363 hx (hb hby at_604) (pc' := 605) rfl (z := (1 : Int32)) rfl ?_
    refine g_goto X1363 hx (hb hby at_605) (by decide) (pc' := 609) (by decide) ?_
    refine g_istore X1363 hx (hb hby at_609) (pc' := 611) rfl (Ls' := #[.val (.int p0), .val (.int p1), .val (.int p2), .val (.long p3), .second, .val (.int p4), .val (.int p5), .val (.int (chr p0)), .val (.int (chr p1)), .val (.int (chr p2)), .val (.int (byt (chr p0))), .val (.int (byt (chr p1))), .val (.int (byt (chr p2))), .val (.ref b546), .val (.ref b568), .val (.ref b599), .val (.ref b639), .val (.ref b685), .val (.ref b740), .val (.int nn), .val (.int ((ushr p5 (11 : Int32)) &&& (3 : Int32))), .val (.ref b568), .val (.ref b599), .val (.ref b685), .val (.ref b740), .val (.ref b1224), .val (.ref b546), .val (.int (1 : Int32))]) rfl ?_
    refine g_iload X1363 hx (hb hby at_611) (pc' := 613) rfl rfl ?_
    exact g_zreturn X1363 hx rfl hret (hb hby at_613) N1363 hlk (fun v t => endF (by decide) (by decide) v) (by rw [e1363]; exact rfl)
set_option maxRecDepth 65536 in
set_option maxHeartbeats 40000000 in
theorem comes_1 {Post : Tables → Env → Array Value → State → Outcome → State → Prop} (hpost : ∀ tb e args s v u, (limb_1_1.after args s (.returned v) u = true ∧ limb_1_2.after args s (.returned v) u = true ∧ True) → FrameEnd s (.returned v) u (Jvm.fieldLocs frame_1_writes args s ++ Jvm.arrayLocs frame_1_arrays args s ++ Jvm.staticLocs frame_1_statics s) 24 128 → Post tb e args s (.returned v) u) :
    ArmFor flags0 classFile x code maxLocals ret World_1 tables_1 room_1 Calls_1 rest_1 Pre_1 Post := by
  intro l hfl _ _ p e ha hc hk s m args below hf hA hF happ hP
  obtain ⟨hcalls, hrest, hpre⟩ := hP
  obtain ⟨-, -, -, hnamed, -, -, -, hat⟩ := (Spec.applies_iff hf).mp happ
  obtain ⟨hg, hn⟩ := and_e (Cond.before_iff.mp (show (Jvm.Cond.and given_1 narrow_1).before args s = true from hpre))
  obtain ⟨g1, g2⟩ := and_e hg
  obtain ⟨g3, g4⟩ := and_e g2
  obtain ⟨g5, g6⟩ := and_e g4
  obtain ⟨g7, g8⟩ := and_e g6
  obtain ⟨g9, g10⟩ := and_e g8
  obtain ⟨g11, g12⟩ := and_e g10
  obtain ⟨w0, w1, w2, w3, w4, w5, rfl⟩ : ∃ w0 w1 w2 w3 w4 w5 : Value, args = #[w0, w1, w2, w3, w4, w5] := by
    have hs : args.size = 6 := by simpa [Cond.value, given_1] using g1
    obtain ⟨L⟩ := args
    match L, hs with
    | [w0, w1, w2, w3, w4, w5], _ => exact ⟨w0, w1, w2, w3, w4, w5, rfl⟩
  have hw := fun d (hd : d ∈ tables_1) => atoms_spec (ws := Jvm.Cond.code x code maxLocals ret :: tables_1) hat d (List.mem_cons_of_mem _ hd)
  have hfit : Fit s := fun {y c} hc i hi => by
    obtain ⟨ha, rfl⟩ := Array.getElem?_eq_some_iff.mp hc
    have q := List.all_eq_true.mp ((Array.all_eq_true_iff_forall_mem.mp hF) _ (Array.getElem_mem ha)) i (List.mem_range.mpr hi)
    simpa [Array.getElem?_eq_getElem hi] using q
  obtain ⟨i0, ei0⟩ := is_v g3
  obtain rfl : w0 = (.int i0) := Option.some.inj ei0
  obtain ⟨i1, ei1⟩ := is_v g5
  obtain rfl : w1 = (.int i1) := Option.some.inj ei1
  obtain ⟨i2, ei2⟩ := is_v g7
  obtain rfl : w2 = (.int i2) := Option.some.inj ei2
  obtain ⟨i3, ei3⟩ := isL_v g9
  obtain rfl : w3 = (.long i3) := Option.some.inj ei3
  obtain ⟨i4, ei4⟩ := is_v g11
  obtain rfl : w4 = (.int i4) := Option.some.inj ei4
  obtain ⟨i5, ei5⟩ := is_v g12
  obtain rfl : w5 = (.int i5) := Option.some.inj ei5
  obtain ⟨n, o, h1, h2, h3, _, L, rfl, ⟨rfl, N⟩, hq⟩ := rm0 l s _ hw i0 i1 i2 i3 i4 i5 s.heap s.heap.size (Nat.le_refl _) tables_1 p e ha hc hk s m _ below hf ((Spec.applies_iff_loose hf).mp happ).1 ⟨rfl, State.Warmed39.refl s, rfl⟩ trivial
  refine ⟨n, _, h1, h2, h3, hpost _ _ _ _ _ _ ⟨Cond.after_iff.mpr rfl, Cond.after_iff.mpr (eq_i res_at (Term.int_eval (1)) rfl), trivial⟩ ⟨hq.1, hq.2.1, (hq.2.2.sift fun y hy => Or.inr (N y hy)).mono (by decide) (by decide)⟩⟩
theorem main_1_1 : Claimed_1_1 := comes_1 fun _ _ _ _ _ _ h hF => ⟨h.1, hF⟩
theorem main_1_2 : Claimed_1_2 := comes_1 fun _ _ _ _ _ _ h hF => ⟨h.2.1, hF⟩
end Jvm.Pilot.@@N@@
namespace Jvm.Pilot.@@N@@
open Jvm Jvm.ClassFile Sem Op Lib Jvm.Free Jvm.Stand Jvm.Pilot.@@N@@.Jvm.D
/-! MADE BY PROGRAM (witnessworld.py) out of the Statement's table words and the real class files: 10 classes; the members and pool entries that the words name. The judged class is class 1, her method 3. -/
namespace start1
open Jvm.ClassFile
def u (s : String) : CpInfo := .utf8 (stringToUtf16 s)
/-- a pool by its gaps: so many unusable entries, then the entry; so many at the end -/
def gap : Nat → List CpInfo → List CpInfo
  | 0, r => r
  | n + 1, r => .unusable :: gap n r
def poolList (es : List (Nat × CpInfo)) (last : Nat) : List CpInfo := es.foldr (fun e r => gap e.1 (e.2 :: r)) (gap last [])
def pool (es : List (Nat × CpInfo)) (last : Nat) : Array CpInfo := ⟨poolList es last⟩
def fileOf (pool : Array CpInfo) (this : Nat) (attrs : Array Attribute := #[]) (ms : Array MethodInfo := #[]) (fl : Nat := 33) (sup : Nat := 0) (ifs : Array Nat := #[]) (fds : Array FieldInfo := #[]) : ClassFile where
  minorVersion := 0
  majorVersion := 65
  constantPool := pool
  accessFlags := fl
  thisClass := this
  superClass := sup
  interfaces := ifs
  fields := fds
  methods := ms
  attributes := attrs
def plain (name : String) (sup : Option ClassId) : Class where
  name := name
  kind := .ordinary
  loader := none
  accessFlags := 33
  super := sup
  interfaces := #[]
  cf := none
  fields := #[]
  methods := #[]
  instanceTypes := #[]
  staticTypes := #[]
  resolved := #[]
  callSites := []
  init := .initialized
  statics := none
  mirror := none

def pool0 : Array CpInfo := pool [(5, u "<init>"), (0, u "()V"), (1, .class_ 10), (1, u "java/lang/Object")] 113

def k0c0 : Code := { maxStack := 0, maxLocals := 1, code := object_method_1_code, exceptionTable := #[], attributes := #[] }
def k0m0 : Method := { name := "<init>", desc := "()V", sig := { parameters := [], returnType := none }, accessFlags := 1, code := some k0c0 }
/-- java/lang/Object -/
def k0 : Class := { plain "java/lang/Object" none with
  accessFlags := 33
  interfaces := #[]
  cf := some (fileOf pool0 8 #[] #[{ accessFlags := 1, nameIndex := 5, descriptorIndex := 6, attributes := #[] }] 33 0 #[] #[])
  fields := #[]
  methods := #[k0m0]
  instanceTypes := #[]
  staticTypes := #[]
  resolved := Array.replicate 124 none
  statics := none }

def pool1 : Array CpInfo := pool [(2, .class_ 4), (1, u "java/lang/Object"), (0, u "<init>"), (0, u "()V"), (0, .methodref 8 9), (0, .class_ 10), (0, .nameAndType 11 12), (0, u "com/example/needlework/needlework/BytesMarkPinLaw"), (0, u "pick"), (0, u "(IIBJI)B"), (0, .class_ 14), (0, u "com/example/needlework/needlework/PackedBlock$Bytes"), (0, .methodref 13 16), (0, .nameAndType 5 17), (0, u "(CCCII)V"), (0, .fieldref 13 19), (0, .nameAndType 20 21), (0, u "units"), (0, u "Ljava/lang/Object;"), (0, .fieldref 13 23), (0, .nameAndType 24 21), (0, u "lasts"), (0, .fieldref 13 26), (0, .nameAndType 27 21), (0, u "middles"), (0, .methodref 13 29), (0, .nameAndType 30 31), (0, u "mark"), (0, u "(I)V"), (0, .class_ 33), (0, u "[B"), (0, .methodref 8 35), (0, .nameAndType 36 37), (0, u "at"), (0, u "(II[B[B[BBBBB)Z"), (3, u "law"), (0, u "(IIIJII)Z")] 6

def k1m0 : Method := { name := "<init>", desc := "()V", sig := { parameters := [], returnType := none }, accessFlags := 1, code := none }
def k1c1 : Code := { maxStack := 3, maxLocals := 6, code := method_2_code, exceptionTable := #[], attributes := #[] }
def k1m1 : Method := { name := "pick", desc := "(IIBJI)B", sig := { parameters := [.int, .int, .byte, .long, .int], returnType := some .byte }, accessFlags := 10, code := some k1c1 }
def k1c2 : Code := { maxStack := 3, maxLocals := 11, code := method_3_code, exceptionTable := #[], attributes := #[] }
def k1m2 : Method := { name := "at", desc := "(II[B[B[BBBBB)Z", sig := { parameters := [.int, .int, (.array .byte), (.array .byte), (.array .byte), .byte, .byte, .byte, .byte], returnType := some .boolean }, accessFlags := 10, code := some k1c2 }
def k1c3 : Code := { maxStack := 10, maxLocals := 28, code := code, exceptionTable := #[], attributes := #[] }
def k1m3 : Method := { name := "law", desc := "(IIIJII)Z", sig := { parameters := [.int, .int, .int, .long, .int, .int], returnType := some .boolean }, accessFlags := 9, code := some k1c3 }
/-- com/example/needlework/needlework/BytesMarkPinLaw -/
def k1 : Class := { plain "com/example/needlework/needlework/BytesMarkPinLaw" (some 0) with
  accessFlags := 49
  interfaces := #[]
  cf := some (fileOf pool1 8 #[] #[{ accessFlags := 1, nameIndex := 5, descriptorIndex := 6, attributes := #[] }, { accessFlags := 10, nameIndex := 11, descriptorIndex := 12, attributes := #[] }, { accessFlags := 10, nameIndex := 36, descriptorIndex := 37, attributes := #[] }, { accessFlags := 9, nameIndex := 41, descriptorIndex := 42, attributes := #[] }] 49 2 #[] #[])
  fields := #[]
  methods := #[k1m0, k1m1, k1m2, k1m3]
  instanceTypes := #[]
  staticTypes := #[]
  resolved := Array.replicate 49 none
  statics := none }

def pool2 : Array CpInfo := pool [(1, .methodref 2 3), (0, .class_ 4), (0, .nameAndType 5 6), (0, u "java/lang/Object"), (0, u "<init>"), (0, u "()V"), (0, .fieldref 8 9), (0, .class_ 10), (0, .nameAndType 11 12), (0, u "com/example/needlework/needlework/PackedBlock"), (0, u "first"), (0, u "I"), (0, .fieldref 8 14), (0, .nameAndType 15 12), (0, u "last"), (0, .fieldref 8 17), (0, .nameAndType 18 12), (0, u "middle"), (0, .fieldref 8 20), (0, .nameAndType 21 12), (0, u "lastOffset"), (0, .fieldref 8 23), (0, .nameAndType 24 12), (0, u "middleOffset"), (2, u "capacity"), (6, u "units"), (0, u "Ljava/lang/Object;"), (2, u "lasts"), (2, u "middles"), (16, u "positions"), (9, u "ZEROS"), (4, u "(IIIII)V"), (13, .class_ 88), (0, u "com/example/needlework/needlework/PackedBlock$Chars"), (0, .class_ 90), (0, u "com/example/needlework/needlework/PackedBlock$Bytes")] 3

def k2c0 : Code := { maxStack := 2, maxLocals := 6, code := prog_16_method_1_code, exceptionTable := #[], attributes := #[] }
def k2m0 : Method := { name := "<init>", desc := "(IIIII)V", sig := { parameters := [.int, .int, .int, .int, .int], returnType := none }, accessFlags := 2, code := some k2c0 }
/-- com/example/needlework/needlework/PackedBlock -/
def k2 : Class := { plain "com/example/needlework/needlework/PackedBlock" (some 0) with
  accessFlags := 1056
  interfaces := #[]
  cf := some (fileOf pool2 8 #[.nestMembers #[87, 89]] #[{ accessFlags := 2, nameIndex := 5, descriptorIndex := 73, attributes := #[] }] 1056 2 #[] #[{ accessFlags := 26, nameIndex := 68, descriptorIndex := 12, attributes := #[] }, { accessFlags := 18, nameIndex := 21, descriptorIndex := 12, attributes := #[] }, { accessFlags := 18, nameIndex := 24, descriptorIndex := 12, attributes := #[] }, { accessFlags := 16, nameIndex := 11, descriptorIndex := 12, attributes := #[] }, { accessFlags := 16, nameIndex := 15, descriptorIndex := 12, attributes := #[] }, { accessFlags := 16, nameIndex := 18, descriptorIndex := 12, attributes := #[] }, { accessFlags := 0, nameIndex := 34, descriptorIndex := 35, attributes := #[] }, { accessFlags := 0, nameIndex := 38, descriptorIndex := 35, attributes := #[] }, { accessFlags := 0, nameIndex := 41, descriptorIndex := 35, attributes := #[] }, { accessFlags := 2, nameIndex := 27, descriptorIndex := 12, attributes := #[] }, { accessFlags := 2, nameIndex := 58, descriptorIndex := 12, attributes := #[] }])
  fields := #[{ name := "ZEROS", type := .int, accessFlags := 26, slot := 0, constantValue := 0 }, { name := "lastOffset", type := .int, accessFlags := 18, slot := 0, constantValue := 0 }, { name := "middleOffset", type := .int, accessFlags := 18, slot := 1, constantValue := 0 }, { name := "first", type := .int, accessFlags := 16, slot := 2, constantValue := 0 }, { name := "last", type := .int, accessFlags := 16, slot := 3, constantValue := 0 }, { name := "middle", type := .int, accessFlags := 16, slot := 4, constantValue := 0 }, { name := "units", type := (.object "java/lang/Object"), accessFlags := 0, slot := 5, constantValue := 0 }, { name := "lasts", type := (.object "java/lang/Object"), accessFlags := 0, slot := 6, constantValue := 0 }, { name := "middles", type := (.object "java/lang/Object"), accessFlags := 0, slot := 7, constantValue := 0 }, { name := "capacity", type := .int, accessFlags := 2, slot := 8, constantValue := 0 }, { name := "positions", type := .int, accessFlags := 2, slot := 9, constantValue := 0 }]
  methods := #[k2m0]
  instanceTypes := #[.int, .int, .int, .int, .int, (.object "java/lang/Object"), (.object "java/lang/Object"), (.object "java/lang/Object"), .int, .int]
  staticTypes := #[.int]
  resolved := Array.replicate 94 none
  statics := none }

def pool3 : Array CpInfo := pool [(1, .class_ 2), (0, u "com/example/needlework/needlework/PackedBlock"), (0, .methodref 1 4), (0, .nameAndType 5 6), (0, u "<init>"), (0, u "(IIIII)V"), (2, .fieldref 10 11), (0, .class_ 12), (0, .nameAndType 13 14), (0, u "com/example/needlework/needlework/PackedBlock$Bytes"), (0, u "units"), (0, u "Ljava/lang/Object;"), (0, .class_ 16), (0, u "[B"), (4, .fieldref 10 22), (0, .nameAndType 23 14), (0, u "lasts"), (0, .fieldref 10 25), (0, .nameAndType 26 14), (0, u "middles"), (0, .fieldref 10 28), (0, .nameAndType 29 30), (0, u "first"), (0, u "I"), (0, .fieldref 10 32), (0, .nameAndType 33 30), (0, u "last"), (0, .fieldref 10 35), (0, .nameAndType 36 30), (0, u "middle"), (2, u "ZERO_BYTES"), (10, u "(CCCII)V"), (4, u "mark"), (0, u "(I)V")] 14

def k3c0 : Code := { maxStack := 6, maxLocals := 6, code := prog_17_method_1_code, exceptionTable := #[], attributes := #[] }
def k3m0 : Method := { name := "<init>", desc := "(CCCII)V", sig := { parameters := [.char, .char, .char, .int, .int], returnType := none }, accessFlags := 0, code := some k3c0 }
def k3c1 : Code := { maxStack := 5, maxLocals := 10, code := prog_17_method_4_code, exceptionTable := #[], attributes := #[] }
def k3m1 : Method := { name := "mark", desc := "(I)V", sig := { parameters := [.int], returnType := none }, accessFlags := 0, code := some k3c1 }
/-- com/example/needlework/needlework/PackedBlock$Bytes -/
def k3 : Class := { plain "com/example/needlework/needlework/PackedBlock$Bytes" (some 2) with
  accessFlags := 48
  interfaces := #[]
  cf := some (fileOf pool3 10 #[.nestHost 1] #[{ accessFlags := 0, nameIndex := 5, descriptorIndex := 50, attributes := #[] }, { accessFlags := 0, nameIndex := 55, descriptorIndex := 56, attributes := #[] }] 48 1 #[] #[{ accessFlags := 26, nameIndex := 39, descriptorIndex := 16, attributes := #[] }])
  fields := #[{ name := "ZERO_BYTES", type := (.array .byte), accessFlags := 26, slot := 0, constantValue := 0 }]
  methods := #[k3m0, k3m1]
  instanceTypes := #[.int, .int, .int, .int, .int, (.object "java/lang/Object"), (.object "java/lang/Object"), (.object "java/lang/Object"), .int, .int]
  staticTypes := #[(.array .byte)]
  resolved := Array.replicate 71 none
  statics := none }

def pool4 : Array CpInfo := pool [(1, u "java/lang/Cloneable"), (0, .class_ 1), (0, u "java/lang/Object"), (0, .class_ 3)] 3

/-- java/lang/Cloneable -/
def k4 : Class := { plain "java/lang/Cloneable" (some 0) with
  accessFlags := 1537
  interfaces := #[]
  cf := some (fileOf pool4 2 #[] #[] 1537 4 #[] #[])
  fields := #[]
  methods := #[]
  instanceTypes := #[]
  staticTypes := #[]
  resolved := Array.replicate 8 none
  statics := none }

def pool5 : Array CpInfo := pool [(1, u "java/io/Serializable"), (0, .class_ 1), (0, u "java/lang/Object"), (0, .class_ 3)] 3

/-- java/io/Serializable -/
def k5 : Class := { plain "java/io/Serializable" (some 0) with
  accessFlags := 1537
  interfaces := #[]
  cf := some (fileOf pool5 2 #[] #[] 1537 4 #[] #[])
  fields := #[]
  methods := #[]
  instanceTypes := #[]
  staticTypes := #[]
  resolved := Array.replicate 8 none
  statics := none }

/-- the primitive byte -/
def k6 : Class := { plain "byte" none with kind := .primitive 'B', accessFlags := 0x411 }
/-- [B -/
def k7 : Class := { plain "[B" (some 0) with kind := .array 6 .byte, interfaces := #[4, 5], accessFlags := 1041 }

/-- the primitive int -/
def k8 : Class := { plain "int" none with kind := .primitive 'I', accessFlags := 0x411 }
/-- [I -/
def k9 : Class := { plain "[I" (some 0) with kind := .array 8 .int, interfaces := #[4, 5], accessFlags := 1041 }

def heap : Heap := #[]
def classes : Array Class := #[k0, k1, k2, k3, k4, k5, k6, k7, k8, k9]
def interned : List (Array UInt16 × Addr) := []
def slotsUsed : Nat := 0
def theMethod : MethodId := ⟨1, 3⟩
def args0 : Array Value := #[.int 5, .int 6, .int 7, .long 8, .int 9, .int 10]
def aboutOver (below : List Frame) : State where
  vm := { classes := classes, interned := interned.toArray }
  heap := heap
  slotsUsed := slotsUsed
  threads := #[{ frames := .invoking theMethod args0 :: below }]
def below0 : List Frame := [.native { method := ⟨0, 0⟩, args := #[] }]
def about1 : State := aboutOver below0
def p0 : Program := .bare "" "" ""
def e0 : Env := launch0.env 0 0 0
theorem w_frames : about1.frames = Frame.invoking theMethod args0 :: below0 := rfl
set_option maxRecDepth 65536 in
theorem w_args : argsFit about1.vm theMethod args0 = true := by decide +kernel
set_option maxRecDepth 65536 in
theorem w_heap : heapFits about1 = true := by decide +kernel
set_option maxRecDepth 65536 in
theorem w_runnable : about1.curStatus? = some .runnable := by decide +kernel
set_option maxRecDepth 65536 in
theorem w_alone : about1.alone = true := by decide +kernel
set_option maxRecDepth 65536 in
theorem w_named : about1.methodNamed? x = some theMethod := by decide +kernel
set_option maxRecDepth 65536 in
theorem w_hears : about1.hears theMethod below0 = true := by decide +kernel
set_option maxRecDepth 65536 in
theorem w_ripe : about1.ripe theMethod args0 below0 = true := by decide +kernel
theorem w_running : about1.status = .running := rfl
set_option maxRecDepth 65536 in
theorem w_room : about1.hasRoom e0.platform room_1 = true :=
  launch0.hasRoom_least _ room_1 (by decide +kernel) (by decide +kernel) (by decide +kernel) (by decide +kernel) (by decide +kernel) (by decide +kernel)
theorem allAtoms_all (ts : List Jvm.Cond) (a : Array Jvm.Value) (st : Jvm.State) : (allAtoms ts).before a st = ts.all (fun c => c.before a st) := by
  induction ts with
  | nil => rfl
  | cons c t ih =>
    show (Jvm.Cond.and c (allAtoms t)).before a st = _
    rw [Jvm.Cond.before_and, ih, List.all_cons]
def words1 : List Jvm.Cond := Jvm.Cond.code x code maxLocals ret :: tables_1
/-- a 'code' word, met by the world's own term for the bytes: nothing is compared byte by byte -/
theorem code_word {y : MethodName} {bytes : ByteArray} {mx : Nat} {rt : Option FieldType} {a : Array Value} {s : State} {m : MethodId} {meth : Method} {c : Code} (h1 : s.methodNamed? y = some m) (h2 : s.vm.method? m = some meth) (h3 : meth.code = some c) (h4 : c.code = bytes)
    (h5 : (c.maxLocals == mx && c.exceptionTable.isEmpty && decide (c.maxStack ≤ mostOperands) && decide (meth.sig.returnType = rt) && !meth.locks && decide (parseMethodDescriptor y.desc = some meth.sig)) = true) : (Jvm.Cond.code y bytes mx rt).before a s = true := by
  simp only [Bool.and_eq_true, beq_iff_eq, Bool.not_eq_true', decide_eq_true_eq] at h5
  obtain ⟨⟨⟨⟨⟨g1, g2⟩, g3⟩, g4⟩, g5⟩, g6⟩ := h5
  simp [Cond.before, Cond.holds, Cond.value, h1, h2, h3, h4, g1, g2, g3, g4, g5, g6]
def isCode : Jvm.Cond → Bool
  | .code _ _ _ _ => true
  | _ => false
theorem all_split {L : List Jvm.Cond} {P : Jvm.Cond → Bool} (h1 : L.all (fun c => isCode c || P c) = true) (h2 : ∀ c ∈ L.filter isCode, P c = true) : L.all P = true := by
  refine List.all_eq_true.mpr fun c hc => ?_
  have h := List.all_eq_true.mp h1 c hc
  rcases Bool.eq_false_or_eq_true (isCode c) with hi | hi
  · exact h2 c (List.mem_filter.mpr ⟨hc, hi⟩)
  · simpa [hi] using h
set_option maxRecDepth 65536 in
theorem w_c0 : (Jvm.Cond.code x code maxLocals ret).before args0 about1 = true := code_word (m := ⟨1, 3⟩) (meth := k1m3) (c := k1c3) (by decide +kernel) rfl rfl rfl (by decide +kernel)
set_option maxRecDepth 65536 in
theorem w_c1 : (Jvm.Cond.code ({ cls := "com/example/needlework/needlework/BytesMarkPinLaw", name := "pick", desc := "(IIBJI)B" } : Jvm.MethodName) method_2_code (6 : Nat) (Option.some Jvm.ClassFile.FieldType.byte)).before args0 about1 = true := code_word (m := ⟨1, 1⟩) (meth := k1m1) (c := k1c1) (by decide +kernel) rfl rfl rfl (by decide +kernel)
set_option maxRecDepth 65536 in
theorem w_c2 : (Jvm.Cond.code ({ cls := "com/example/needlework/needlework/PackedBlock$Bytes", name := "<init>", desc := "(CCCII)V" } : Jvm.MethodName) prog_17_method_1_code (6 : Nat) (Option.none : Option Jvm.ClassFile.FieldType)).before args0 about1 = true := code_word (m := ⟨3, 0⟩) (meth := k3m0) (c := k3c0) (by decide +kernel) rfl rfl rfl (by decide +kernel)
set_option maxRecDepth 65536 in
theorem w_c3 : (Jvm.Cond.code ({ cls := "com/example/needlework/needlework/PackedBlock", name := "<init>", desc := "(IIIII)V" } : Jvm.MethodName) prog_16_method_1_code (6 : Nat) (Option.none : Option Jvm.ClassFile.FieldType)).before args0 about1 = true := code_word (m := ⟨2, 0⟩) (meth := k2m0) (c := k2c0) (by decide +kernel) rfl rfl rfl (by decide +kernel)
set_option maxRecDepth 65536 in
theorem w_c4 : (Jvm.Cond.code ({ cls := "java/lang/Object", name := "<init>", desc := "()V" } : Jvm.MethodName) object_method_1_code (1 : Nat) (Option.none : Option Jvm.ClassFile.FieldType)).before args0 about1 = true := code_word (m := ⟨0, 0⟩) (meth := k0m0) (c := k0c0) (by decide +kernel) rfl rfl rfl (by decide +kernel)
set_option maxRecDepth 65536 in
theorem w_c5 : (Jvm.Cond.code ({ cls := "com/example/needlework/needlework/PackedBlock$Bytes", name := "mark", desc := "(I)V" } : Jvm.MethodName) prog_17_method_4_code (10 : Nat) (Option.none : Option Jvm.ClassFile.FieldType)).before args0 about1 = true := code_word (m := ⟨3, 1⟩) (meth := k3m1) (c := k3c1) (by decide +kernel) rfl rfl rfl (by decide +kernel)
set_option maxRecDepth 65536 in
theorem w_c6 : (Jvm.Cond.code ({ cls := "com/example/needlework/needlework/BytesMarkPinLaw", name := "at", desc := "(II[B[B[BBBBB)Z" } : Jvm.MethodName) method_3_code (11 : Nat) (Option.some Jvm.ClassFile.FieldType.boolean)).before args0 about1 = true := code_word (m := ⟨1, 2⟩) (meth := k1m2) (c := k1c2) (by decide +kernel) rfl rfl rfl (by decide +kernel)
def codes1 : List Jvm.Cond := [Jvm.Cond.code x code maxLocals ret, Jvm.Cond.code ({ cls := "com/example/needlework/needlework/BytesMarkPinLaw", name := "pick", desc := "(IIBJI)B" } : Jvm.MethodName) method_2_code (6 : Nat) (Option.some Jvm.ClassFile.FieldType.byte), Jvm.Cond.code ({ cls := "com/example/needlework/needlework/PackedBlock$Bytes", name := "<init>", desc := "(CCCII)V" } : Jvm.MethodName) prog_17_method_1_code (6 : Nat) (Option.none : Option Jvm.ClassFile.FieldType), Jvm.Cond.code ({ cls := "com/example/needlework/needlework/PackedBlock", name := "<init>", desc := "(IIIII)V" } : Jvm.MethodName) prog_16_method_1_code (6 : Nat) (Option.none : Option Jvm.ClassFile.FieldType), Jvm.Cond.code ({ cls := "java/lang/Object", name := "<init>", desc := "()V" } : Jvm.MethodName) object_method_1_code (1 : Nat) (Option.none : Option Jvm.ClassFile.FieldType), Jvm.Cond.code ({ cls := "com/example/needlework/needlework/PackedBlock$Bytes", name := "mark", desc := "(I)V" } : Jvm.MethodName) prog_17_method_4_code (10 : Nat) (Option.none : Option Jvm.ClassFile.FieldType), Jvm.Cond.code ({ cls := "com/example/needlework/needlework/BytesMarkPinLaw", name := "at", desc := "(II[B[B[BBBBB)Z" } : Jvm.MethodName) method_3_code (11 : Nat) (Option.some Jvm.ClassFile.FieldType.boolean)]
set_option maxRecDepth 65536 in
theorem codes_eq : words1.filter isCode = codes1 := rfl
theorem w_codes : ∀ c ∈ words1.filter isCode, c.before args0 about1 = true := by
  rw [codes_eq]
  intro c hc
  simp only [codes1, List.mem_cons, List.not_mem_nil, or_false] at hc
  rcases hc with rfl | rfl | rfl | rfl | rfl | rfl | rfl
  · exact w_c0
  · exact w_c1
  · exact w_c2
  · exact w_c3
  · exact w_c4
  · exact w_c5
  · exact w_c6
set_option maxRecDepth 65536 in
theorem w_t1 : (words1.take 24).all (fun c => isCode c || c.before args0 about1) = true := by decide +kernel
set_option maxRecDepth 65536 in
theorem w_t2 : ((words1.drop 24).take 24).all (fun c => isCode c || c.before args0 about1) = true := by decide +kernel
set_option maxRecDepth 65536 in
theorem w_t3 : ((words1.drop 24).drop 24).all (fun c => isCode c || c.before args0 about1) = true := by decide +kernel
theorem w_tables : (allAtoms (Jvm.Cond.code x code maxLocals ret :: tables_1)).before args0 about1 = true := by
  rw [allAtoms_all]
  show words1.all (fun c => c.before args0 about1) = true
  refine all_split ?_ w_codes
  rw [← List.take_append_drop 24 words1, List.all_append, w_t1, ← List.take_append_drop 24 (words1.drop 24), List.all_append, w_t2, w_t3]
  rfl
set_option maxRecDepth 65536 in
theorem w_case : (Jvm.Cond.and given_1 narrow_1).before args0 about1 = true := by decide +kernel
theorem w_applies : (headSpec (Jvm.Cond.code x code maxLocals ret :: tables_1) room_1).applies x e0.platform about1 = true :=
  (Spec.applies_iff w_frames).mpr ⟨w_running, w_runnable, w_alone, w_named, w_hears, w_ripe, w_room, w_tables⟩
theorem atStart : AtStart classFile x code maxLocals ret World_1 tables_1 room_1 Calls_1 rest_1 Pre_1 launch0 p0 e0 about1 theMethod args0 below0 :=
  ⟨lists_1, trivial, launch0.admits_env _ _ _, launch0.least_env, fairChoices_fair.cas, fairChoices_fair.clock, w_frames, w_args, w_heap, w_applies, trivial, trivial, w_case⟩
end start1
theorem witness_1 : WitnessClaimed_1 := ⟨start1.p0, start1.e0, start1.about1, start1.theMethod, start1.args0, start1.below0, start1.atStart⟩
end Jvm.Pilot.@@N@@
