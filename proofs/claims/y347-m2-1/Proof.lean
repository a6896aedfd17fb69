import JvmDerived
import JvmDerived.Pilot.@@N@@Statement
import JvmDerived.Pilot.@@N@@Code
set_option linter.unusedVariables false
set_option linter.unusedSimpArgs false
namespace Jvm.OwnKit
open Sem ClassFile Op Lib Jvm.Stand Jvm.Free Jvm.LawKit Jvm.RoadKit
/-! int and long operations, named -/
def ushr (x y : Int32) : Int32 := (x.toUInt32 >>> (y &&& 31).toUInt32).toInt32
def shl (x y : Int32) : Int32 := x <<< (y &&& 31)
def shr (x y : Int32) : Int32 := x >>> (y &&& 31)
def lushr (x : Int64) (y : Int32) : Int64 := (x.toUInt64 >>> (y &&& 0x3f).toInt64.toUInt64).toInt64
def lshl (x : Int64) (y : Int32) : Int64 := x <<< (y &&& 0x3f).toInt64
def lshr (x : Int64) (y : Int32) : Int64 := x >>> (y &&& 0x3f).toInt64
def chr (x : Int32) : Int32 := x.toUInt32.toUInt16.toUInt32.toInt32
def byt (x : Int32) : Int32 := x.toInt8.toInt32
def sht (x : Int32) : Int32 := x.toInt16.toInt32
theorem narrow_byt (x : Int32) : narrow .byte (.int (byt x)) = .int (byt x) := by simp [narrow, byt]
theorem chr_chr (x : Int32) : chr (chr x) = chr x := by unfold chr; simp only [UInt32.toUInt32_toInt32, UInt16.toUInt16_toUInt32]
theorem byt_byt (x : Int32) : byt (byt x) = byt x := by simp [byt]
theorem narrow_chr (x : Int32) : narrow .char (.int (chr x)) = .int (chr x) := congrArg Value.int (chr_chr x)
/-- what a contract says at the end -/
def CQ (Q : Option Value → Heap → Prop) (n0 : Nat) (v : Option Value) (h : Heap) (L : List Loc) : Prop := Q v h ∧ Fr n0 L
/-- from this frame on the run ends as asked -/
def Go (p : Program) (e : Env) (below : List Frame) (En : Option Value → State → List Loc → Prop) (n0 : Nat) (Q : Option Value → Heap → Prop) (T : State) (g : JFrame) : Prop :=
  ∃ s₂ o, Steps p.tables e below (T.setTop g) s₂ ∧ s₂.status = .running ∧ Ended s₂ below o ∧ ∃ v L, o = .returned v ∧ CQ Q n0 v s₂.heap L ∧ En v s₂ L
/-- the plain end: nothing interned -/
def EndF (s : State) (C S : Nat) (v : Option Value) (t : State) (L : List Loc) : Prop := FrameEnd s (.returned v) t L C S
theorem endF {s : State} {C S cells slots : Nat} {t : State} {L : List Loc} {h : Heap} (hc : cells ≤ C) (hs : slots ≤ S) (v : Option Value) (_ : t.heap = h) (hW : s.WarmedH t.vm) (hsm : s.sameButNew ({ t with vm := s.vm } : State) L cells slots) : EndF s C S v t L := ⟨⟨_, rfl⟩, hW, hsm.mono hc hs⟩
/-- a method's contract -/
def Ctr (l : Launch) (Z : State) (y : MethodName) (bytes : ByteArray) (maxL : Nat) (ret : Option FieldType) (rm : Room) (as' : Array Value) (h0 : Heap) (n0 : Nat) (Q : Option Value → Heap → Prop) : Prop :=
  ∀ ws : List Jvm.Cond, MetFree l y (head1 (Jvm.Cond.code y bytes maxL ret :: ws) rm) (fun a U => a = as' ∧ Z.Warmed39 U.vm ∧ U.heap = h0) (fun _ _ _ _ _ => True) (fun _ U o U' => ∃ v L, o = .returned v ∧ CQ Q n0 v U'.heap L ∧ FrameEnd U o U' L rm.cells rm.slots)
theorem Ctr.of {l : Launch} {Z : State} {y : MethodName} {bytes : ByteArray} {maxL : Nat} {ret : Option FieldType} {rm : Room} {as' : Array Value} {h0 : Heap} {n0 : Nat} {Q : Option Value → Heap → Prop} {Ls : Array Slot}
    (hpl : plainFor y = true) (hef : ∀ m, entryFrame m as' maxL = mkF m 0 Ls [])
    (body : ∀ (p : Program) (e : Env) (s : State) (m : MethodId) (below : List Frame) (meth : Method) (c : Code) (T : State), p.tables.exec = Jvm.exec → c.code = bytes → c.maxLocals = maxL → s.vm.findClass y.cls = some m.cls → meth.name = y.name → meth.sig.returnType = ret → meth.locks = false → Z.Warmed39 s.vm →
      Stand p l e rm s m as' below meth c T [] 0 0 → T.heap = h0 → Go p e below (EndF s rm.cells rm.slots) n0 Q T (mkF m 0 Ls [])) : Ctr l Z y bytes maxL ret rm as' h0 n0 Q := by
  intro ws
  refine MetFree.of_bodySF hpl hisR ?_
  intro p e s m args below meth c s₁ Bd hml0 hP hK
  obtain ⟨rfl, hZ, hh⟩ := hP
  have hown : s.vm.findClass y.cls = some m.cls := findClass_of_methodNamed Bd.named
  have hnm := (name_of_methodNamed Bd.named Bd.method).1
  have e0 : s₁.heap = h0 := by rw [← hh, Bd.state]; rfl
  rw [hef]
  obtain ⟨s₂, o, h1, h2, h3, v, L, rfl, h5, h6⟩ := body p e s m below meth c s₁ Bd.exec Bd.bytes hml0 hown hnm Bd.returns Bd.notSynchronized hZ (Stand.of_body Bd) e0
  exact ⟨s₂, _, h1, h2, h3, v, L, rfl, h5, h6⟩
section Go
variable {p : Program} {l : Launch} {e : Env} {R : Room} {s : State} {m : MethodId} {args : Array Value} {below : List Frame} {meth : Method} {c : Code} {T : State} {locs : List Loc} {cells slots : Nat} {Z : State} {a0 : Array Value} {h h' : Heap} {n0 : Nat} {En : Option Value → State → List Loc → Prop} {Q : Option Value → Heap → Prop}
variable {pc pc' pc1 pc2 : Nat} {Ls Ls' : Array Slot} {st : List Value}
theorem Go.mov {T' : State} {g g' : JFrame} (k : ∀ target, Steps p.tables e below (T'.setTop g') target → Steps p.tables e below (T.setTop g) target) (G : Go p e below En n0 Q T' g') : Go p e below En n0 Q T g := by
  obtain ⟨s₂, o, h1, r⟩ := G
  exact ⟨s₂, o, k _ h1, r⟩
theorem Go.movp {T' : State} {g g' : JFrame} (k : ∀ target, Steps p.tables e below (T'.setTop g') target → Steps p.tables e below (T.setTop g) target) (g'' : JFrame) (q : g' = g'') (G : Go p e below En n0 Q T' g'') : Go p e below En n0 Q T g := Go.mov k (q ▸ G)
theorem Go.cast {g g' : JFrame} (q : g = g') (G : Go p e below En n0 Q T g') : Go p e below En n0 Q T g := q ▸ G
theorem Go.imp {Q' : Option Value → Heap → Prop} {g : JFrame} (q : ∀ v h, Q v h → Q' v h) (G : Go p e below En n0 Q T g) : Go p e below En n0 Q' T g := by
  obtain ⟨s₂, o, h1, h2, h3, v, L, h4, ⟨h5, h6⟩, h7⟩ := G
  exact ⟨s₂, o, h1, h2, h3, v, L, h4, ⟨q _ _ h5, h6⟩, h7⟩
theorem g_iload (X : Stand p l e R s m args below meth c T locs cells slots) (hx : p.tables.exec = Jvm.exec) {k : Nat} {v : Int32} (hd : decode c.code pc = .ok (.iload k, 2)) (hp : pc + 2 = pc') (hl : Ls[k]? = some (.val (.int v))) (G : Go p e below En n0 Q T (mkF m pc' Ls (.int v :: st))) : Go p e below En n0 Q T (mkF m pc Ls (st)) := by
  subst hp
  exact Go.mov (fun _ k => XS.iload X.here hx rfl hd hl k) G
theorem g_iloadN (X : Stand p l e R s m args below meth c T locs cells slots) (hx : p.tables.exec = Jvm.exec) {k : Fin 4} {v : Int32} (hd : decode c.code pc = .ok (.iload_n k, 1)) (hp : pc + 1 = pc') (hl : Ls[k.val]? = some (.val (.int v))) (G : Go p e below En n0 Q T (mkF m pc' Ls (.int v :: st))) : Go p e below En n0 Q T (mkF m pc Ls (st)) := by
  subst hp
  exact Go.mov (fun _ k => XS.iloadN X.here hx rfl hd hl k) G
theorem g_lload (X : Stand p l e R s m args below meth c T locs cells slots) (hx : p.tables.exec = Jvm.exec) {k : Nat} {v : Int64} (hd : decode c.code pc = .ok (.lload k, 2)) (hp : pc + 2 = pc') (hl : Ls[k]? = some (.val (.long v))) (G : Go p e below En n0 Q T (mkF m pc' Ls (.long v :: st))) : Go p e below En n0 Q T (mkF m pc Ls (st)) := by
  subst hp
  exact Go.mov (fun _ k => XS.lload X.here hx rfl hd hl k) G
theorem g_lloadN (X : Stand p l e R s m args below meth c T locs cells slots) (hx : p.tables.exec = Jvm.exec) {k : Fin 4} {v : Int64} (hd : decode c.code pc = .ok (.lload_n k, 1)) (hp : pc + 1 = pc') (hl : Ls[k.val]? = some (.val (.long v))) (G : Go p e below En n0 Q T (mkF m pc' Ls (.long v :: st))) : Go p e below En n0 Q T (mkF m pc Ls (st)) := by
  subst hp
  exact Go.mov (fun _ k => XS.lloadN X.here hx rfl hd hl k) G
theorem g_aload (X : Stand p l e R s m args below meth c T locs cells slots) (hx : p.tables.exec = Jvm.exec) {k : Nat} {v : Value} (hd : decode c.code pc = .ok (.aload k, 2)) (hp : pc + 2 = pc') (hl : Ls[k]? = some (.val v)) (hv : v.isRef = true) (G : Go p e below En n0 Q T (mkF m pc' Ls (v :: st))) : Go p e below En n0 Q T (mkF m pc Ls (st)) := by
  subst hp
  exact Go.mov (fun _ k => XS.aload X.here hx rfl hd hl hv k) G
theorem g_aloadN (X : Stand p l e R s m args below meth c T locs cells slots) (hx : p.tables.exec = Jvm.exec) {k : Fin 4} {v : Value} (hd : decode c.code pc = .ok (.aload_n k, 1)) (hp : pc + 1 = pc') (hl : Ls[k.val]? = some (.val v)) (hv : v.isRef = true) (G : Go p e below En n0 Q T (mkF m pc' Ls (v :: st))) : Go p e below En n0 Q T (mkF m pc Ls (st)) := by
  subst hp
  exact Go.mov (fun _ k => XS.aloadN X.here hx rfl hd hl hv k) G
theorem g_istore (X : Stand p l e R s m args below meth c T locs cells slots) (hx : p.tables.exec = Jvm.exec) {k : Nat} {v : Int32} (hd : decode c.code pc = .ok (.istore k, 2)) (hp : pc + 2 = pc') (hl : storeLocals Ls k (.int v) = some Ls') (G : Go p e below En n0 Q T (mkF m pc' Ls' (st))) : Go p e below En n0 Q T (mkF m pc Ls (.int v :: st)) := by
  subst hp
  exact Go.mov (fun _ k => XS.istore X.here hx rfl hd rfl hl k) G
theorem g_istoreN (X : Stand p l e R s m args below meth c T locs cells slots) (hx : p.tables.exec = Jvm.exec) {k : Fin 4} {v : Int32} (hd : decode c.code pc = .ok (.istore_n k, 1)) (hp : pc + 1 = pc') (hl : storeLocals Ls k.val (.int v) = some Ls') (G : Go p e below En n0 Q T (mkF m pc' Ls' (st))) : Go p e below En n0 Q T (mkF m pc Ls (.int v :: st)) := by
  subst hp
  exact Go.mov (fun _ k => XS.istoreN X.here hx rfl hd rfl hl k) G
theorem g_lstore (X : Stand p l e R s m args below meth c T locs cells slots) (hx : p.tables.exec = Jvm.exec) {k : Nat} {v : Int64} (hd : decode c.code pc = .ok (.lstore k, 2)) (hp : pc + 2 = pc') (hl : storeLocals Ls k (.long v) = some Ls') (G : Go p e below En n0 Q T (mkF m pc' Ls' (st))) : Go p e below En n0 Q T (mkF m pc Ls (.long v :: st)) := by
  subst hp
  exact Go.mov (fun _ k => XS.lstore X.here hx rfl hd rfl hl k) G
theorem g_lstoreN (X : Stand p l e R s m args below meth c T locs cells slots) (hx : p.tables.exec = Jvm.exec) {k : Fin 4} {v : Int64} (hd : decode c.code pc = .ok (.lstore_n k, 1)) (hp : pc + 1 = pc') (hl : storeLocals Ls k.val (.long v) = some Ls') (G : Go p e below En n0 Q T (mkF m pc' Ls' (st))) : Go p e below En n0 Q T (mkF m pc Ls (.long v :: st)) := by
  subst hp
  exact Go.mov (fun _ k => XS.lstoreN X.here hx rfl hd rfl hl k) G
theorem g_astore (X : Stand p l e R s m args below meth c T locs cells slots) (hx : p.tables.exec = Jvm.exec) {k : Nat} {v : Value} (hd : decode c.code pc = .ok (.astore k, 2)) (hp : pc + 2 = pc') (hv : v.isRef = true) (hl : storeLocals Ls k v = some Ls') (G : Go p e below En n0 Q T (mkF m pc' Ls' (st))) : Go p e below En n0 Q T (mkF m pc Ls (v :: st)) := by
  subst hp
  exact Go.mov (fun _ k => XS.astore X.here hx rfl hd rfl hv hl k) G
theorem g_astoreN (X : Stand p l e R s m args below meth c T locs cells slots) (hx : p.tables.exec = Jvm.exec) {k : Fin 4} {v : Value} (hd : decode c.code pc = .ok (.astore_n k, 1)) (hp : pc + 1 = pc') (hv : v.isRef = true) (hl : storeLocals Ls k.val v = some Ls') (G : Go p e below En n0 Q T (mkF m pc' Ls' (st))) : Go p e below En n0 Q T (mkF m pc Ls (v :: st)) := by
  subst hp
  exact Go.mov (fun _ k => XS.astoreN X.here hx rfl hd rfl hv hl k) G
theorem g_iconst (X : Stand p l e R s m args below meth c T locs cells slots) (hx : p.tables.exec = Jvm.exec) {i : Int} {z : Int32} (hd : decode c.code pc = .ok (.iconst i, 1)) (hp : pc + 1 = pc') (hz : Int32.ofInt i = z) (G : Go p e below En n0 Q T (mkF m pc' Ls (.int z :: st))) : Go p e below En n0 Q T (mkF m pc Ls st) := by
  subst hp hz
  exact Go.mov (fun _ k => XS.iconst X.here hx rfl hd k) G
theorem g_bipush (X : Stand p l e R s m args below meth c T locs cells slots) (hx : p.tables.exec = Jvm.exec) {i : Int} {z : Int32} (hd : decode c.code pc = .ok (.bipush i, 2)) (hp : pc + 2 = pc') (hz : (Int8.ofInt i).toInt32 = z) (G : Go p e below En n0 Q T (mkF m pc' Ls (.int z :: st))) : Go p e below En n0 Q T (mkF m pc Ls st) := by
  subst hp hz
  exact Go.mov (fun _ k => XS.bipush X.here hx rfl hd k) G
theorem g_sipush (X : Stand p l e R s m args below meth c T locs cells slots) (hx : p.tables.exec = Jvm.exec) {i : Int} {z : Int32} (hd : decode c.code pc = .ok (.sipush i, 3)) (hp : pc + 3 = pc') (hz : (Int16.ofInt i).toInt32 = z) (G : Go p e below En n0 Q T (mkF m pc' Ls (.int z :: st))) : Go p e below En n0 Q T (mkF m pc Ls st) := by
  subst hp hz
  exact Go.mov (fun _ k => XS.sipush X.here hx rfl hd k) G
theorem g_lconst (X : Stand p l e R s m args below meth c T locs cells slots) (hx : p.tables.exec = Jvm.exec) {i : Fin 2} {z : Int64} (hd : decode c.code pc = .ok (.lconst i, 1)) (hp : pc + 1 = pc') (hz : Int64.ofNat i = z) (G : Go p e below En n0 Q T (mkF m pc' Ls (.long z :: st))) : Go p e below En n0 Q T (mkF m pc Ls st) := by
  subst hp hz
  exact Go.mov (fun _ k => XS.lconst X.here hx rfl hd k) G
theorem g_aconst_null (X : Stand p l e R s m args below meth c T locs cells slots) (hx : p.tables.exec = Jvm.exec)  (hd : decode c.code pc = .ok (.aconst_null, 1)) (hp : pc + 1 = pc') (G : Go p e below En n0 Q T (mkF m pc' Ls (.null :: st))) : Go p e below En n0 Q T (mkF m pc Ls (st)) := by
  subst hp
  exact Go.mov (fun _ k => XS.aconstNull X.here hx rfl hd k) G
theorem g_iadd (X : Stand p l e R s m args below meth c T locs cells slots) (hx : p.tables.exec = Jvm.exec) {x y : Int32} (hd : decode c.code pc = .ok (.iadd, 1)) (hp : pc + 1 = pc') (G : Go p e below En n0 Q T (mkF m pc' Ls (.int (x + y) :: st))) : Go p e below En n0 Q T (mkF m pc Ls (.int y :: .int x :: st)) := by
  subst hp
  exact Go.mov (fun _ k => XS.iadd X.here hx rfl hd rfl k) G
theorem g_ladd (X : Stand p l e R s m args below meth c T locs cells slots) (hx : p.tables.exec = Jvm.exec) {x y : Int64} (hd : decode c.code pc = .ok (.ladd, 1)) (hp : pc + 1 = pc') (G : Go p e below En n0 Q T (mkF m pc' Ls (.long (x + y) :: st))) : Go p e below En n0 Q T (mkF m pc Ls (.long y :: .long x :: st)) := by
  subst hp
  exact Go.mov (fun _ k => XS.ladd X.here hx rfl hd rfl k) G
theorem g_isub (X : Stand p l e R s m args below meth c T locs cells slots) (hx : p.tables.exec = Jvm.exec) {x y : Int32} (hd : decode c.code pc = .ok (.isub, 1)) (hp : pc + 1 = pc') (G : Go p e below En n0 Q T (mkF m pc' Ls (.int (x - y) :: st))) : Go p e below En n0 Q T (mkF m pc Ls (.int y :: .int x :: st)) := by
  subst hp
  exact Go.mov (fun _ k => XS.isub X.here hx rfl hd rfl k) G
theorem g_lsub (X : Stand p l e R s m args below meth c T locs cells slots) (hx : p.tables.exec = Jvm.exec) {x y : Int64} (hd : decode c.code pc = .ok (.lsub, 1)) (hp : pc + 1 = pc') (G : Go p e below En n0 Q T (mkF m pc' Ls (.long (x - y) :: st))) : Go p e below En n0 Q T (mkF m pc Ls (.long y :: .long x :: st)) := by
  subst hp
  exact Go.mov (fun _ k => XS.lsub X.here hx rfl hd rfl k) G
theorem g_imul (X : Stand p l e R s m args below meth c T locs cells slots) (hx : p.tables.exec = Jvm.exec) {x y : Int32} (hd : decode c.code pc = .ok (.imul, 1)) (hp : pc + 1 = pc') (G : Go p e below En n0 Q T (mkF m pc' Ls (.int (x * y) :: st))) : Go p e below En n0 Q T (mkF m pc Ls (.int y :: .int x :: st)) := by
  subst hp
  exact Go.mov (fun _ k => XS.imul X.here hx rfl hd rfl k) G
theorem g_lmul (X : Stand p l e R s m args below meth c T locs cells slots) (hx : p.tables.exec = Jvm.exec) {x y : Int64} (hd : decode c.code pc = .ok (.lmul, 1)) (hp : pc + 1 = pc') (G : Go p e below En n0 Q T (mkF m pc' Ls (.long (x * y) :: st))) : Go p e below En n0 Q T (mkF m pc Ls (.long y :: .long x :: st)) := by
  subst hp
  exact Go.mov (fun _ k => XS.lmul X.here hx rfl hd rfl k) G
theorem g_iand (X : Stand p l e R s m args below meth c T locs cells slots) (hx : p.tables.exec = Jvm.exec) {x y : Int32} (hd : decode c.code pc = .ok (.iand, 1)) (hp : pc + 1 = pc') (G : Go p e below En n0 Q T (mkF m pc' Ls (.int (x &&& y) :: st))) : Go p e below En n0 Q T (mkF m pc Ls (.int y :: .int x :: st)) := by
  subst hp
  exact Go.mov (fun _ k => XS.iand X.here hx rfl hd rfl k) G
theorem g_land (X : Stand p l e R s m args below meth c T locs cells slots) (hx : p.tables.exec = Jvm.exec) {x y : Int64} (hd : decode c.code pc = .ok (.land, 1)) (hp : pc + 1 = pc') (G : Go p e below En n0 Q T (mkF m pc' Ls (.long (x &&& y) :: st))) : Go p e below En n0 Q T (mkF m pc Ls (.long y :: .long x :: st)) := by
  subst hp
  exact Go.mov (fun _ k => XS.land X.here hx rfl hd rfl k) G
theorem g_ior (X : Stand p l e R s m args below meth c T locs cells slots) (hx : p.tables.exec = Jvm.exec) {x y : Int32} (hd : decode c.code pc = .ok (.ior, 1)) (hp : pc + 1 = pc') (G : Go p e below En n0 Q T (mkF m pc' Ls (.int (x ||| y) :: st))) : Go p e below En n0 Q T (mkF m pc Ls (.int y :: .int x :: st)) := by
  subst hp
  exact Go.mov (fun _ k => XS.ior X.here hx rfl hd rfl k) G
theorem g_lor (X : Stand p l e R s m args below meth c T locs cells slots) (hx : p.tables.exec = Jvm.exec) {x y : Int64} (hd : decode c.code pc = .ok (.lor, 1)) (hp : pc + 1 = pc') (G : Go p e below En n0 Q T (mkF m pc' Ls (.long (x ||| y) :: st))) : Go p e below En n0 Q T (mkF m pc Ls (.long y :: .long x :: st)) := by
  subst hp
  exact Go.mov (fun _ k => XS.lor X.here hx rfl hd rfl k) G
theorem g_ixor (X : Stand p l e R s m args below meth c T locs cells slots) (hx : p.tables.exec = Jvm.exec) {x y : Int32} (hd : decode c.code pc = .ok (.ixor, 1)) (hp : pc + 1 = pc') (G : Go p e below En n0 Q T (mkF m pc' Ls (.int (x ^^^ y) :: st))) : Go p e below En n0 Q T (mkF m pc Ls (.int y :: .int x :: st)) := by
  subst hp
  exact Go.mov (fun _ k => XS.ixor X.here hx rfl hd rfl k) G
theorem g_lxor (X : Stand p l e R s m args below meth c T locs cells slots) (hx : p.tables.exec = Jvm.exec) {x y : Int64} (hd : decode c.code pc = .ok (.lxor, 1)) (hp : pc + 1 = pc') (G : Go p e below En n0 Q T (mkF m pc' Ls (.long (x ^^^ y) :: st))) : Go p e below En n0 Q T (mkF m pc Ls (.long y :: .long x :: st)) := by
  subst hp
  exact Go.mov (fun _ k => XS.lxor X.here hx rfl hd rfl k) G
theorem g_ishl (X : Stand p l e R s m args below meth c T locs cells slots) (hx : p.tables.exec = Jvm.exec) {x y : Int32} (hd : decode c.code pc = .ok (.ishl, 1)) (hp : pc + 1 = pc') (G : Go p e below En n0 Q T (mkF m pc' Ls (.int (shl x y) :: st))) : Go p e below En n0 Q T (mkF m pc Ls (.int y :: .int x :: st)) := by
  subst hp
  exact Go.mov (fun _ k => XS.ishl X.here hx rfl hd rfl k) G
theorem g_lshl (X : Stand p l e R s m args below meth c T locs cells slots) (hx : p.tables.exec = Jvm.exec) {x : Int64} {y : Int32} (hd : decode c.code pc = .ok (.lshl, 1)) (hp : pc + 1 = pc') (G : Go p e below En n0 Q T (mkF m pc' Ls (.long (lshl x y) :: st))) : Go p e below En n0 Q T (mkF m pc Ls (.int y :: .long x :: st)) := by
  subst hp
  exact Go.mov (fun _ k => XS.lshl X.here hx rfl hd rfl k) G
theorem g_ishr (X : Stand p l e R s m args below meth c T locs cells slots) (hx : p.tables.exec = Jvm.exec) {x y : Int32} (hd : decode c.code pc = .ok (.ishr, 1)) (hp : pc + 1 = pc') (G : Go p e below En n0 Q T (mkF m pc' Ls (.int (shr x y) :: st))) : Go p e below En n0 Q T (mkF m pc Ls (.int y :: .int x :: st)) := by
  subst hp
  exact Go.mov (fun _ k => XS.ishr X.here hx rfl hd rfl k) G
theorem g_lshr (X : Stand p l e R s m args below meth c T locs cells slots) (hx : p.tables.exec = Jvm.exec) {x : Int64} {y : Int32} (hd : decode c.code pc = .ok (.lshr, 1)) (hp : pc + 1 = pc') (G : Go p e below En n0 Q T (mkF m pc' Ls (.long (lshr x y) :: st))) : Go p e below En n0 Q T (mkF m pc Ls (.int y :: .long x :: st)) := by
  subst hp
  exact Go.mov (fun _ k => XS.lshr X.here hx rfl hd rfl k) G
theorem g_iushr (X : Stand p l e R s m args below meth c T locs cells slots) (hx : p.tables.exec = Jvm.exec) {x y : Int32} (hd : decode c.code pc = .ok (.iushr, 1)) (hp : pc + 1 = pc') (G : Go p e below En n0 Q T (mkF m pc' Ls (.int (ushr x y) :: st))) : Go p e below En n0 Q T (mkF m pc Ls (.int y :: .int x :: st)) := by
  subst hp
  exact Go.mov (fun _ k => XS.iushr X.here hx rfl hd rfl k) G
theorem g_lushr (X : Stand p l e R s m args below meth c T locs cells slots) (hx : p.tables.exec = Jvm.exec) {x : Int64} {y : Int32} (hd : decode c.code pc = .ok (.lushr, 1)) (hp : pc + 1 = pc') (G : Go p e below En n0 Q T (mkF m pc' Ls (.long (lushr x y) :: st))) : Go p e below En n0 Q T (mkF m pc Ls (.int y :: .long x :: st)) := by
  subst hp
  exact Go.mov (fun _ k => XS.lushr X.here hx rfl hd rfl k) G
theorem g_i2b (X : Stand p l e R s m args below meth c T locs cells slots) (hx : p.tables.exec = Jvm.exec) {x : Int32} (hd : decode c.code pc = .ok (.i2b, 1)) (hp : pc + 1 = pc') (G : Go p e below En n0 Q T (mkF m pc' Ls (.int (byt x) :: st))) : Go p e below En n0 Q T (mkF m pc Ls (.int x :: st)) := by
  subst hp
  exact Go.mov (fun _ k => XS.i2b X.here hx rfl hd rfl k) G
theorem g_i2c (X : Stand p l e R s m args below meth c T locs cells slots) (hx : p.tables.exec = Jvm.exec) {x : Int32} (hd : decode c.code pc = .ok (.i2c, 1)) (hp : pc + 1 = pc') (G : Go p e below En n0 Q T (mkF m pc' Ls (.int (chr x) :: st))) : Go p e below En n0 Q T (mkF m pc Ls (.int x :: st)) := by
  subst hp
  exact Go.mov (fun _ k => XS.i2c X.here hx rfl hd rfl k) G
theorem g_i2s (X : Stand p l e R s m args below meth c T locs cells slots) (hx : p.tables.exec = Jvm.exec) {x : Int32} (hd : decode c.code pc = .ok (.i2s, 1)) (hp : pc + 1 = pc') (G : Go p e below En n0 Q T (mkF m pc' Ls (.int (sht x) :: st))) : Go p e below En n0 Q T (mkF m pc Ls (.int x :: st)) := by
  subst hp
  exact Go.mov (fun _ k => XS.i2s X.here hx rfl hd rfl k) G
theorem g_i2l (X : Stand p l e R s m args below meth c T locs cells slots) (hx : p.tables.exec = Jvm.exec) {x : Int32} (hd : decode c.code pc = .ok (.i2l, 1)) (hp : pc + 1 = pc') (G : Go p e below En n0 Q T (mkF m pc' Ls (.long x.toInt64 :: st))) : Go p e below En n0 Q T (mkF m pc Ls (.int x :: st)) := by
  subst hp
  exact Go.mov (fun _ k => XS.i2l X.here hx rfl hd rfl k) G
theorem g_l2i (X : Stand p l e R s m args below meth c T locs cells slots) (hx : p.tables.exec = Jvm.exec) {x : Int64} (hd : decode c.code pc = .ok (.l2i, 1)) (hp : pc + 1 = pc') (G : Go p e below En n0 Q T (mkF m pc' Ls (.int x.toInt32 :: st))) : Go p e below En n0 Q T (mkF m pc Ls (.long x :: st)) := by
  subst hp
  exact Go.mov (fun _ k => XS.l2i X.here hx rfl hd rfl k) G
theorem g_ineg (X : Stand p l e R s m args below meth c T locs cells slots) (hx : p.tables.exec = Jvm.exec) {x : Int32} (hd : decode c.code pc = .ok (.ineg, 1)) (hp : pc + 1 = pc') (G : Go p e below En n0 Q T (mkF m pc' Ls (.int (-x) :: st))) : Go p e below En n0 Q T (mkF m pc Ls (.int x :: st)) := by
  subst hp
  exact Go.mov (fun _ k => XS.ineg X.here hx rfl hd rfl k) G
theorem g_lneg (X : Stand p l e R s m args below meth c T locs cells slots) (hx : p.tables.exec = Jvm.exec) {x : Int64} (hd : decode c.code pc = .ok (.lneg, 1)) (hp : pc + 1 = pc') (G : Go p e below En n0 Q T (mkF m pc' Ls (.long (-x) :: st))) : Go p e below En n0 Q T (mkF m pc Ls (.long x :: st)) := by
  subst hp
  exact Go.mov (fun _ k => XS.lneg X.here hx rfl hd rfl k) G
theorem g_idiv (X : Stand p l e R s m args below meth c T locs cells slots) (hx : p.tables.exec = Jvm.exec) {x y : Int32} (hd : decode c.code pc = .ok (.idiv, 1)) (hp : pc + 1 = pc') (hy : y ≠ 0) (G : Go p e below En n0 Q T (mkF m pc' Ls (.int (x / y) :: st))) : Go p e below En n0 Q T (mkF m pc Ls (.int y :: .int x :: st)) := by
  subst hp
  exact Go.mov (fun _ k => XS.idiv X.here hx rfl hd rfl hy k) G
theorem g_ldiv (X : Stand p l e R s m args below meth c T locs cells slots) (hx : p.tables.exec = Jvm.exec) {x y : Int64} (hd : decode c.code pc = .ok (.ldiv, 1)) (hp : pc + 1 = pc') (hy : y ≠ 0) (G : Go p e below En n0 Q T (mkF m pc' Ls (.long (x / y) :: st))) : Go p e below En n0 Q T (mkF m pc Ls (.long y :: .long x :: st)) := by
  subst hp
  exact Go.mov (fun _ k => XS.ldiv X.here hx rfl hd rfl hy k) G
theorem g_irem (X : Stand p l e R s m args below meth c T locs cells slots) (hx : p.tables.exec = Jvm.exec) {x y : Int32} (hd : decode c.code pc = .ok (.irem, 1)) (hp : pc + 1 = pc') (hy : y ≠ 0) (G : Go p e below En n0 Q T (mkF m pc' Ls (.int (x % y) :: st))) : Go p e below En n0 Q T (mkF m pc Ls (.int y :: .int x :: st)) := by
  subst hp
  exact Go.mov (fun _ k => iremM X hx rfl hd rfl hy k) G
theorem g_lcmp (X : Stand p l e R s m args below meth c T locs cells slots) (hx : p.tables.exec = Jvm.exec) {x y : Int64} (hd : decode c.code pc = .ok (.lcmp, 1)) (hp : pc + 1 = pc') (G : Go p e below En n0 Q T (mkF m pc' Ls (.int (lcmpW x y) :: st))) : Go p e below En n0 Q T (mkF m pc Ls (.long y :: .long x :: st)) := by
  subst hp
  exact Go.mov (fun _ k => XS.lcmp X.here hx rfl hd rfl k) G
theorem g_dup (X : Stand p l e R s m args below meth c T locs cells slots) (hx : p.tables.exec = Jvm.exec) {x : Value} (hd : decode c.code pc = .ok (.dup, 1)) (hp : pc + 1 = pc') (hc : x.category = 1) (G : Go p e below En n0 Q T (mkF m pc' Ls (x :: x :: st))) : Go p e below En n0 Q T (mkF m pc Ls (x :: st)) := by
  subst hp
  exact Go.mov (fun _ k => XS.dup X.here hx rfl hd rfl hc k) G
theorem g_dup_x1 (X : Stand p l e R s m args below meth c T locs cells slots) (hx : p.tables.exec = Jvm.exec) {x y : Value} (hd : decode c.code pc = .ok (.dup_x1, 1)) (hp : pc + 1 = pc') (hc : x.category = 1) (hc2 : y.category = 1) (G : Go p e below En n0 Q T (mkF m pc' Ls (x :: y :: x :: st))) : Go p e below En n0 Q T (mkF m pc Ls (x :: y :: st)) := by
  subst hp
  exact Go.mov (fun _ k => XS.dupX1 X.here hx rfl hd rfl hc hc2 k) G
theorem g_pop (X : Stand p l e R s m args below meth c T locs cells slots) (hx : p.tables.exec = Jvm.exec) {x : Value} (hd : decode c.code pc = .ok (.pop, 1)) (hp : pc + 1 = pc') (hc : x.category = 1) (G : Go p e below En n0 Q T (mkF m pc' Ls (st))) : Go p e below En n0 Q T (mkF m pc Ls (x :: st)) := by
  subst hp
  exact Go.mov (fun _ k => XS.pop X.here hx rfl hd rfl hc k) G
theorem g_iinc (X : Stand p l e R s m args below meth c T locs cells slots) (hx : p.tables.exec = Jvm.exec) {k : Nat} {cst : Int} {v z : Int32} (hd : decode c.code pc = .ok (.iinc k cst, 3)) (hp : pc + 3 = pc') (hl : Ls[k]? = some (.val (.int v))) (hz : Int32.ofInt cst = z) (hl' : storeLocals Ls k (.int (v + z)) = some Ls') (G : Go p e below En n0 Q T (mkF m pc' Ls' st)) : Go p e below En n0 Q T (mkF m pc Ls st) := by
  subst hp hz
  exact Go.mov (fun _ k => XS.iinc X.here hx rfl hd hl hl' k) G
theorem g_goto (X : Stand p l e R s m args below meth c T locs cells slots) (hx : p.tables.exec = Jvm.exec) {o : Int} (hd : decode c.code pc = .ok (.goto o, 3)) (ho : 0 ≤ (pc : Int) + o) (hp : ((pc : Int) + o).toNat = pc') (G : Go p e below En n0 Q T (mkF m pc' Ls st)) : Go p e below En n0 Q T (mkF m pc Ls st) :=
  Go.mov (fun _ k => XS.goto X.here hx rfl rfl hd ho hp k) G
theorem g_icmp_lt (X : Stand p l e R s m args below meth c T locs cells slots) (hx : p.tables.exec = Jvm.exec) {x y : Int32} {o : Int} (hd : decode c.code pc = .ok (.if_icmp .lt o, 3)) (hp1 : pc1 = pc + 3) (ho : 0 ≤ (pc : Int) + o) (hp2 : ((pc : Int) + o).toNat = pc2) (G2 : (x < y) → Go p e below En n0 Q T (mkF m pc2 Ls st)) (G1 : (¬ x < y) → Go p e below En n0 Q T (mkF m pc1 Ls st)) : Go p e below En n0 Q T (mkF m pc Ls (.int y :: .int x :: st)) := by
  by_cases q : x < y
  · exact Go.mov (fun _ k => XS.icmpYes X.here hx rfl rfl hd rfl (tlt q).1 ho hp2 k) (G2 q)
  · exact Go.mov (fun _ k => XS.icmpNo X.here hx rfl hd rfl (flt q).1 (hp1 ▸ k)) (G1 q)
theorem g_if_lt (X : Stand p l e R s m args below meth c T locs cells slots) (hx : p.tables.exec = Jvm.exec) {x : Int32} {o : Int} (hd : decode c.code pc = .ok (.ifCond .lt o, 3)) (hp1 : pc1 = pc + 3) (ho : 0 ≤ (pc : Int) + o) (hp2 : ((pc : Int) + o).toNat = pc2) (G2 : (x < (0 : Int32)) → Go p e below En n0 Q T (mkF m pc2 Ls st)) (G1 : (¬ x < (0 : Int32)) → Go p e below En n0 Q T (mkF m pc1 Ls st)) : Go p e below En n0 Q T (mkF m pc Ls (.int x :: st)) := by
  by_cases q : x < (0 : Int32)
  · exact Go.mov (fun _ k => XS.ifYes X.here hx rfl rfl hd rfl ((if0 _ _).trans (tlt q).1) ho hp2 k) (G2 q)
  · exact Go.mov (fun _ k => XS.ifNo X.here hx rfl hd rfl ((if0 _ _).trans (flt q).1) (hp1 ▸ k)) (G1 q)
theorem g_lcmp_lt (X : Stand p l e R s m args below meth c T locs cells slots) (hx : p.tables.exec = Jvm.exec) {x y : Int64} {o : Int} (hd0 : decode c.code pc = .ok (.lcmp, 1)) (hp0 : pc + 1 = pc') (hd : decode c.code pc' = .ok (.ifCond .lt o, 3)) (hp1 : pc1 = pc' + 3) (ho : 0 ≤ (pc' : Int) + o) (hp2 : ((pc' : Int) + o).toNat = pc2) (G2 : (x < y) → Go p e below En n0 Q T (mkF m pc2 Ls st)) (G1 : (¬ x < y) → Go p e below En n0 Q T (mkF m pc1 Ls st)) : Go p e below En n0 Q T (mkF m pc Ls (.long y :: .long x :: st)) :=
  g_lcmp X hx hd0 hp0 (g_if_lt X hx hd hp1 ho hp2 (fun q => G2 ((lw_lt x y).mp q)) (fun q => G1 (fun r => q ((lw_lt x y).mpr r))))
theorem g_icmp_ge (X : Stand p l e R s m args below meth c T locs cells slots) (hx : p.tables.exec = Jvm.exec) {x y : Int32} {o : Int} (hd : decode c.code pc = .ok (.if_icmp .ge o, 3)) (hp1 : pc1 = pc + 3) (ho : 0 ≤ (pc : Int) + o) (hp2 : ((pc : Int) + o).toNat = pc2) (G2 : (¬ x < y) → Go p e below En n0 Q T (mkF m pc2 Ls st)) (G1 : (x < y) → Go p e below En n0 Q T (mkF m pc1 Ls st)) : Go p e below En n0 Q T (mkF m pc Ls (.int y :: .int x :: st)) := by
  by_cases q : x < y
  · exact Go.mov (fun _ k => XS.icmpNo X.here hx rfl hd rfl (tlt q).2.1 (hp1 ▸ k)) (G1 q)
  · exact Go.mov (fun _ k => XS.icmpYes X.here hx rfl rfl hd rfl (flt q).2.1 ho hp2 k) (G2 q)
theorem g_if_ge (X : Stand p l e R s m args below meth c T locs cells slots) (hx : p.tables.exec = Jvm.exec) {x : Int32} {o : Int} (hd : decode c.code pc = .ok (.ifCond .ge o, 3)) (hp1 : pc1 = pc + 3) (ho : 0 ≤ (pc : Int) + o) (hp2 : ((pc : Int) + o).toNat = pc2) (G2 : (¬ x < (0 : Int32)) → Go p e below En n0 Q T (mkF m pc2 Ls st)) (G1 : (x < (0 : Int32)) → Go p e below En n0 Q T (mkF m pc1 Ls st)) : Go p e below En n0 Q T (mkF m pc Ls (.int x :: st)) := by
  by_cases q : x < (0 : Int32)
  · exact Go.mov (fun _ k => XS.ifNo X.here hx rfl hd rfl ((if0 _ _).trans (tlt q).2.1) (hp1 ▸ k)) (G1 q)
  · exact Go.mov (fun _ k => XS.ifYes X.here hx rfl rfl hd rfl ((if0 _ _).trans (flt q).2.1) ho hp2 k) (G2 q)
theorem g_lcmp_ge (X : Stand p l e R s m args below meth c T locs cells slots) (hx : p.tables.exec = Jvm.exec) {x y : Int64} {o : Int} (hd0 : decode c.code pc = .ok (.lcmp, 1)) (hp0 : pc + 1 = pc') (hd : decode c.code pc' = .ok (.ifCond .ge o, 3)) (hp1 : pc1 = pc' + 3) (ho : 0 ≤ (pc' : Int) + o) (hp2 : ((pc' : Int) + o).toNat = pc2) (G2 : (¬ x < y) → Go p e below En n0 Q T (mkF m pc2 Ls st)) (G1 : (x < y) → Go p e below En n0 Q T (mkF m pc1 Ls st)) : Go p e below En n0 Q T (mkF m pc Ls (.long y :: .long x :: st)) :=
  g_lcmp X hx hd0 hp0 (g_if_ge X hx hd hp1 ho hp2 (fun q => G2 (fun r => q ((lw_lt x y).mpr r))) (fun q => G1 ((lw_lt x y).mp q)))
theorem g_icmp_gt (X : Stand p l e R s m args below meth c T locs cells slots) (hx : p.tables.exec = Jvm.exec) {x y : Int32} {o : Int} (hd : decode c.code pc = .ok (.if_icmp .gt o, 3)) (hp1 : pc1 = pc + 3) (ho : 0 ≤ (pc : Int) + o) (hp2 : ((pc : Int) + o).toNat = pc2) (G2 : (y < x) → Go p e below En n0 Q T (mkF m pc2 Ls st)) (G1 : (¬ y < x) → Go p e below En n0 Q T (mkF m pc1 Ls st)) : Go p e below En n0 Q T (mkF m pc Ls (.int y :: .int x :: st)) := by
  by_cases q : y < x
  · exact Go.mov (fun _ k => XS.icmpYes X.here hx rfl rfl hd rfl (tlt q).2.2.1 ho hp2 k) (G2 q)
  · exact Go.mov (fun _ k => XS.icmpNo X.here hx rfl hd rfl (flt q).2.2.1 (hp1 ▸ k)) (G1 q)
theorem g_if_gt (X : Stand p l e R s m args below meth c T locs cells slots) (hx : p.tables.exec = Jvm.exec) {x : Int32} {o : Int} (hd : decode c.code pc = .ok (.ifCond .gt o, 3)) (hp1 : pc1 = pc + 3) (ho : 0 ≤ (pc : Int) + o) (hp2 : ((pc : Int) + o).toNat = pc2) (G2 : ((0 : Int32) < x) → Go p e below En n0 Q T (mkF m pc2 Ls st)) (G1 : (¬ (0 : Int32) < x) → Go p e below En n0 Q T (mkF m pc1 Ls st)) : Go p e below En n0 Q T (mkF m pc Ls (.int x :: st)) := by
  by_cases q : (0 : Int32) < x
  · exact Go.mov (fun _ k => XS.ifYes X.here hx rfl rfl hd rfl ((if0 _ _).trans (tlt q).2.2.1) ho hp2 k) (G2 q)
  · exact Go.mov (fun _ k => XS.ifNo X.here hx rfl hd rfl ((if0 _ _).trans (flt q).2.2.1) (hp1 ▸ k)) (G1 q)
theorem g_lcmp_gt (X : Stand p l e R s m args below meth c T locs cells slots) (hx : p.tables.exec = Jvm.exec) {x y : Int64} {o : Int} (hd0 : decode c.code pc = .ok (.lcmp, 1)) (hp0 : pc + 1 = pc') (hd : decode c.code pc' = .ok (.ifCond .gt o, 3)) (hp1 : pc1 = pc' + 3) (ho : 0 ≤ (pc' : Int) + o) (hp2 : ((pc' : Int) + o).toNat = pc2) (G2 : (y < x) → Go p e below En n0 Q T (mkF m pc2 Ls st)) (G1 : (¬ y < x) → Go p e below En n0 Q T (mkF m pc1 Ls st)) : Go p e below En n0 Q T (mkF m pc Ls (.long y :: .long x :: st)) :=
  g_lcmp X hx hd0 hp0 (g_if_gt X hx hd hp1 ho hp2 (fun q => G2 ((lw_gt x y).mp q)) (fun q => G1 (fun r => q ((lw_gt x y).mpr r))))
theorem g_icmp_le (X : Stand p l e R s m args below meth c T locs cells slots) (hx : p.tables.exec = Jvm.exec) {x y : Int32} {o : Int} (hd : decode c.code pc = .ok (.if_icmp .le o, 3)) (hp1 : pc1 = pc + 3) (ho : 0 ≤ (pc : Int) + o) (hp2 : ((pc : Int) + o).toNat = pc2) (G2 : (¬ y < x) → Go p e below En n0 Q T (mkF m pc2 Ls st)) (G1 : (y < x) → Go p e below En n0 Q T (mkF m pc1 Ls st)) : Go p e below En n0 Q T (mkF m pc Ls (.int y :: .int x :: st)) := by
  by_cases q : y < x
  · exact Go.mov (fun _ k => XS.icmpNo X.here hx rfl hd rfl (tlt q).2.2.2 (hp1 ▸ k)) (G1 q)
  · exact Go.mov (fun _ k => XS.icmpYes X.here hx rfl rfl hd rfl (flt q).2.2.2 ho hp2 k) (G2 q)
theorem g_if_le (X : Stand p l e R s m args below meth c T locs cells slots) (hx : p.tables.exec = Jvm.exec) {x : Int32} {o : Int} (hd : decode c.code pc = .ok (.ifCond .le o, 3)) (hp1 : pc1 = pc + 3) (ho : 0 ≤ (pc : Int) + o) (hp2 : ((pc : Int) + o).toNat = pc2) (G2 : (¬ (0 : Int32) < x) → Go p e below En n0 Q T (mkF m pc2 Ls st)) (G1 : ((0 : Int32) < x) → Go p e below En n0 Q T (mkF m pc1 Ls st)) : Go p e below En n0 Q T (mkF m pc Ls (.int x :: st)) := by
  by_cases q : (0 : Int32) < x
  · exact Go.mov (fun _ k => XS.ifNo X.here hx rfl hd rfl ((if0 _ _).trans (tlt q).2.2.2) (hp1 ▸ k)) (G1 q)
  · exact Go.mov (fun _ k => XS.ifYes X.here hx rfl rfl hd rfl ((if0 _ _).trans (flt q).2.2.2) ho hp2 k) (G2 q)
theorem g_lcmp_le (X : Stand p l e R s m args below meth c T locs cells slots) (hx : p.tables.exec = Jvm.exec) {x y : Int64} {o : Int} (hd0 : decode c.code pc = .ok (.lcmp, 1)) (hp0 : pc + 1 = pc') (hd : decode c.code pc' = .ok (.ifCond .le o, 3)) (hp1 : pc1 = pc' + 3) (ho : 0 ≤ (pc' : Int) + o) (hp2 : ((pc' : Int) + o).toNat = pc2) (G2 : (¬ y < x) → Go p e below En n0 Q T (mkF m pc2 Ls st)) (G1 : (y < x) → Go p e below En n0 Q T (mkF m pc1 Ls st)) : Go p e below En n0 Q T (mkF m pc Ls (.long y :: .long x :: st)) :=
  g_lcmp X hx hd0 hp0 (g_if_le X hx hd hp1 ho hp2 (fun q => G2 (fun r => q ((lw_gt x y).mpr r))) (fun q => G1 ((lw_gt x y).mp q)))
theorem g_icmp_eq (X : Stand p l e R s m args below meth c T locs cells slots) (hx : p.tables.exec = Jvm.exec) {x y : Int32} {o : Int} (hd : decode c.code pc = .ok (.if_icmp .eq o, 3)) (hp1 : pc1 = pc + 3) (ho : 0 ≤ (pc : Int) + o) (hp2 : ((pc : Int) + o).toNat = pc2) (G2 : (x = y) → Go p e below En n0 Q T (mkF m pc2 Ls st)) (G1 : (¬ x = y) → Go p e below En n0 Q T (mkF m pc1 Ls st)) : Go p e below En n0 Q T (mkF m pc Ls (.int y :: .int x :: st)) := by
  by_cases q : x = y
  · exact Go.mov (fun _ k => XS.icmpYes X.here hx rfl rfl hd rfl (teq q).1 ho hp2 k) (G2 q)
  · exact Go.mov (fun _ k => XS.icmpNo X.here hx rfl hd rfl (feq q).1 (hp1 ▸ k)) (G1 q)
theorem g_if_eq (X : Stand p l e R s m args below meth c T locs cells slots) (hx : p.tables.exec = Jvm.exec) {x : Int32} {o : Int} (hd : decode c.code pc = .ok (.ifCond .eq o, 3)) (hp1 : pc1 = pc + 3) (ho : 0 ≤ (pc : Int) + o) (hp2 : ((pc : Int) + o).toNat = pc2) (G2 : (x = (0 : Int32)) → Go p e below En n0 Q T (mkF m pc2 Ls st)) (G1 : (¬ x = (0 : Int32)) → Go p e below En n0 Q T (mkF m pc1 Ls st)) : Go p e below En n0 Q T (mkF m pc Ls (.int x :: st)) := by
  by_cases q : x = (0 : Int32)
  · exact Go.mov (fun _ k => XS.ifYes X.here hx rfl rfl hd rfl ((if0 _ _).trans (teq q).1) ho hp2 k) (G2 q)
  · exact Go.mov (fun _ k => XS.ifNo X.here hx rfl hd rfl ((if0 _ _).trans (feq q).1) (hp1 ▸ k)) (G1 q)
theorem g_lcmp_eq (X : Stand p l e R s m args below meth c T locs cells slots) (hx : p.tables.exec = Jvm.exec) {x y : Int64} {o : Int} (hd0 : decode c.code pc = .ok (.lcmp, 1)) (hp0 : pc + 1 = pc') (hd : decode c.code pc' = .ok (.ifCond .eq o, 3)) (hp1 : pc1 = pc' + 3) (ho : 0 ≤ (pc' : Int) + o) (hp2 : ((pc' : Int) + o).toNat = pc2) (G2 : (x = y) → Go p e below En n0 Q T (mkF m pc2 Ls st)) (G1 : (¬ x = y) → Go p e below En n0 Q T (mkF m pc1 Ls st)) : Go p e below En n0 Q T (mkF m pc Ls (.long y :: .long x :: st)) :=
  g_lcmp X hx hd0 hp0 (g_if_eq X hx hd hp1 ho hp2 (fun q => G2 ((lw_eq x y).mp q)) (fun q => G1 (fun r => q ((lw_eq x y).mpr r))))
theorem g_icmp_ne (X : Stand p l e R s m args below meth c T locs cells slots) (hx : p.tables.exec = Jvm.exec) {x y : Int32} {o : Int} (hd : decode c.code pc = .ok (.if_icmp .ne o, 3)) (hp1 : pc1 = pc + 3) (ho : 0 ≤ (pc : Int) + o) (hp2 : ((pc : Int) + o).toNat = pc2) (G2 : (¬ x = y) → Go p e below En n0 Q T (mkF m pc2 Ls st)) (G1 : (x = y) → Go p e below En n0 Q T (mkF m pc1 Ls st)) : Go p e below En n0 Q T (mkF m pc Ls (.int y :: .int x :: st)) := by
  by_cases q : x = y
  · exact Go.mov (fun _ k => XS.icmpNo X.here hx rfl hd rfl (teq q).2 (hp1 ▸ k)) (G1 q)
  · exact Go.mov (fun _ k => XS.icmpYes X.here hx rfl rfl hd rfl (feq q).2 ho hp2 k) (G2 q)
theorem g_if_ne (X : Stand p l e R s m args below meth c T locs cells slots) (hx : p.tables.exec = Jvm.exec) {x : Int32} {o : Int} (hd : decode c.code pc = .ok (.ifCond .ne o, 3)) (hp1 : pc1 = pc + 3) (ho : 0 ≤ (pc : Int) + o) (hp2 : ((pc : Int) + o).toNat = pc2) (G2 : (¬ x = (0 : Int32)) → Go p e below En n0 Q T (mkF m pc2 Ls st)) (G1 : (x = (0 : Int32)) → Go p e below En n0 Q T (mkF m pc1 Ls st)) : Go p e below En n0 Q T (mkF m pc Ls (.int x :: st)) := by
  by_cases q : x = (0 : Int32)
  · exact Go.mov (fun _ k => XS.ifNo X.here hx rfl hd rfl ((if0 _ _).trans (teq q).2) (hp1 ▸ k)) (G1 q)
  · exact Go.mov (fun _ k => XS.ifYes X.here hx rfl rfl hd rfl ((if0 _ _).trans (feq q).2) ho hp2 k) (G2 q)
theorem g_lcmp_ne (X : Stand p l e R s m args below meth c T locs cells slots) (hx : p.tables.exec = Jvm.exec) {x y : Int64} {o : Int} (hd0 : decode c.code pc = .ok (.lcmp, 1)) (hp0 : pc + 1 = pc') (hd : decode c.code pc' = .ok (.ifCond .ne o, 3)) (hp1 : pc1 = pc' + 3) (ho : 0 ≤ (pc' : Int) + o) (hp2 : ((pc' : Int) + o).toNat = pc2) (G2 : (¬ x = y) → Go p e below En n0 Q T (mkF m pc2 Ls st)) (G1 : (x = y) → Go p e below En n0 Q T (mkF m pc1 Ls st)) : Go p e below En n0 Q T (mkF m pc Ls (.long y :: .long x :: st)) :=
  g_lcmp X hx hd0 hp0 (g_if_ne X hx hd hp1 ho hp2 (fun q => G2 (fun r => q ((lw_eq x y).mpr r))) (fun q => G1 ((lw_eq x y).mp q)))
theorem g_ifnull_n (X : Stand p l e R s m args below meth c T locs cells slots) (hx : p.tables.exec = Jvm.exec) {b : Addr} {o : Int} (hd : decode c.code pc = .ok (.ifnull o, 3)) (hp : pc + 3 = pc') (G : Go p e below En n0 Q T (mkF m pc' Ls st)) : Go p e below En n0 Q T (mkF m pc Ls (.ref b :: st)) := by
  subst hp
  exact Go.mov (fun _ k => XS.ifnullNo X.here hx rfl hd rfl k) G
theorem g_ifnull_y (X : Stand p l e R s m args below meth c T locs cells slots) (hx : p.tables.exec = Jvm.exec) {o : Int} (hd : decode c.code pc = .ok (.ifnull o, 3)) (ho : 0 ≤ (pc : Int) + o) (hp : ((pc : Int) + o).toNat = pc') (G : Go p e below En n0 Q T (mkF m pc' Ls st)) : Go p e below En n0 Q T (mkF m pc Ls (.null :: st)) :=
  Go.mov (fun _ k => XS.ifnullYes X.here hx rfl rfl hd rfl ho hp k) G
theorem g_ifnonnull_y (X : Stand p l e R s m args below meth c T locs cells slots) (hx : p.tables.exec = Jvm.exec) {b : Addr} {o : Int} (hd : decode c.code pc = .ok (.ifnonnull o, 3)) (ho : 0 ≤ (pc : Int) + o) (hp : ((pc : Int) + o).toNat = pc') (G : Go p e below En n0 Q T (mkF m pc' Ls st)) : Go p e below En n0 Q T (mkF m pc Ls (.ref b :: st)) :=
  Go.mov (fun _ k => XS.ifnonnullYes X.here hx rfl rfl hd rfl ho hp k) G
theorem g_ifnonnull_n (X : Stand p l e R s m args below meth c T locs cells slots) (hx : p.tables.exec = Jvm.exec) {o : Int} (hd : decode c.code pc = .ok (.ifnonnull o, 3)) (hp : pc + 3 = pc') (G : Go p e below En n0 Q T (mkF m pc' Ls st)) : Go p e below En n0 Q T (mkF m pc Ls (.null :: st)) := by
  subst hp
  exact Go.mov (fun _ k => XS.ifnonnullNo X.here hx rfl hd rfl k) G
theorem g_acmp_eq (X : Stand p l e R s m args below meth c T locs cells slots) (hx : p.tables.exec = Jvm.exec) {x y : Value} {o : Int} (hd : decode c.code pc = .ok (.if_acmp .eq o, 3)) (hx1 : x.isRef = true) (hy1 : y.isRef = true) (hp1 : pc1 = pc + 3) (ho : 0 ≤ (pc : Int) + o) (hp2 : ((pc : Int) + o).toNat = pc2) (G2 : (x = y) → Go p e below En n0 Q T (mkF m pc2 Ls st)) (G1 : (¬ x = y) → Go p e below En n0 Q T (mkF m pc1 Ls st)) : Go p e below En n0 Q T (mkF m pc Ls (y :: x :: st)) := by
  subst hp1 hp2
  by_cases q : x = y
  · exact Go.mov (fun _ k => acmp X hx rfl hx1 hy1 rfl hd rfl (same := true) (decide_eq_true q) ho rfl k) (G2 q)
  · exact Go.mov (fun _ k => acmp X hx rfl hx1 hy1 rfl hd rfl (same := false) (decide_eq_false q) ho rfl k) (G1 q)
theorem g_acmp_ne (X : Stand p l e R s m args below meth c T locs cells slots) (hx : p.tables.exec = Jvm.exec) {x y : Value} {o : Int} (hd : decode c.code pc = .ok (.if_acmp .ne o, 3)) (hx1 : x.isRef = true) (hy1 : y.isRef = true) (hp1 : pc1 = pc + 3) (ho : 0 ≤ (pc : Int) + o) (hp2 : ((pc : Int) + o).toNat = pc2) (G2 : (¬ x = y) → Go p e below En n0 Q T (mkF m pc2 Ls st)) (G1 : (x = y) → Go p e below En n0 Q T (mkF m pc1 Ls st)) : Go p e below En n0 Q T (mkF m pc Ls (y :: x :: st)) := by
  subst hp1 hp2
  by_cases q : x = y
  · exact Go.mov (fun _ k => acmp X hx rfl hx1 hy1 rfl hd rfl (same := true) (decide_eq_true q) ho rfl k) (G1 q)
  · exact Go.mov (fun _ k => acmp X hx rfl hx1 hy1 rfl hd rfl (same := false) (decide_eq_false q) ho rfl k) (G2 q)
theorem g_ldc (X : Stand p l e R s m args below meth c T locs cells slots) (hx : p.tables.exec = Jvm.exec) (hZ : Z.Warmed39 s.vm) {own : String} {i : Nat} {v : Int32} (hown : s.vm.findClass own = some m.cls) (w : (Jvm.Cond.constant own i v).before a0 Z = true) (hd : decode c.code pc = .ok (.ldc i, 2)) (hp : pc + 2 = pc') (G : Go p e below En n0 Q T (mkF m pc' Ls (.int v :: st))) : Go p e below En n0 Q T (mkF m pc Ls st) := by
  subst hp
  exact Go.mov (X.ldcInt hx hown (mvT hZ w) rfl hd) G
theorem g_ldc_w (X : Stand p l e R s m args below meth c T locs cells slots) (hx : p.tables.exec = Jvm.exec) (hZ : Z.Warmed39 s.vm) {own : String} {i : Nat} {v : Int32} (hown : s.vm.findClass own = some m.cls) (w : (Jvm.Cond.constant own i v).before a0 Z = true) (hd : decode c.code pc = .ok (.ldc_w i, 3)) (hp : pc + 3 = pc') (G : Go p e below En n0 Q T (mkF m pc' Ls (.int v :: st))) : Go p e below En n0 Q T (mkF m pc Ls st) := by
  subst hp
  exact Go.mov (X.ldcwInt hx hown (mvT hZ w) rfl hd) G
theorem g_ldc2_w (X : Stand p l e R s m args below meth c T locs cells slots) (hx : p.tables.exec = Jvm.exec) (hZ : Z.Warmed39 s.vm) {own : String} {i : Nat} {v : Int64} (hown : s.vm.findClass own = some m.cls) (w : (Jvm.Cond.constantLong own i v).before a0 Z = true) (hd : decode c.code pc = .ok (.ldc2_w i, 3)) (hp : pc + 3 = pc') (G : Go p e below En n0 Q T (mkF m pc' Ls (.long v :: st))) : Go p e below En n0 Q T (mkF m pc Ls st) := by
  subst hp
  exact Go.mov (X.ldc2Long hx hown (mvT hZ w) rfl hd) G
theorem g_return (X : Stand p l e R s m args below meth c T locs cells slots) (hx : p.tables.exec = Jvm.exec) (hr : meth.sig.returnType = none) (hd : decode c.code pc = .ok (.return_, 1)) (N : Fr n0 locs) (hlk : meth.locks = false) (hE : ∀ v t, t.heap = T.heap → s.WarmedH t.vm → s.sameButNew ({ t with vm := s.vm } : State) locs cells slots → En v t locs) (hQ : Q none T.heap) : Go p e below En n0 Q T (mkF m pc Ls []) := by
  obtain ⟨fs, hr1, hrun, hended, hW, hsame⟩ := X.leave (v := none) (fun _ => rfl) hlk
  exact ⟨_, _, X.returnOut hx hr hd hr1, hrun, hended, _, _, rfl, ⟨hQ, N⟩, hE _ _ rfl hW hsame⟩
theorem g_ireturn (X : Stand p l e R s m args below meth c T locs cells slots) (hx : p.tables.exec = Jvm.exec) {z : Int32} (hr : meth.sig.returnType = some .int) (hd : decode c.code pc = .ok (.ireturn, 1)) (N : Fr n0 locs) (hlk : meth.locks = false) (hE : ∀ v t, t.heap = T.heap → s.WarmedH t.vm → s.sameButNew ({ t with vm := s.vm } : State) locs cells slots → En v t locs) (hQ : Q (some (.int z)) T.heap) : Go p e below En n0 Q T (mkF m pc Ls (.int z :: st)) := by
  obtain ⟨fs, hr1, hrun, hended, hW, hsame⟩ := X.leave (v := some (.int z)) (fun h => by rw [hr] at h; cases h) hlk
  exact ⟨_, _, retOut X hx hr rfl (Or.inl ⟨rfl, Or.inl rfl, z, rfl⟩) hd hr1, hrun, hended, _, _, rfl, ⟨hQ, N⟩, hE _ _ rfl hW hsame⟩
theorem g_lreturn (X : Stand p l e R s m args below meth c T locs cells slots) (hx : p.tables.exec = Jvm.exec) {z : Int64} (hr : meth.sig.returnType = some .long) (hd : decode c.code pc = .ok (.lreturn, 1)) (N : Fr n0 locs) (hlk : meth.locks = false) (hE : ∀ v t, t.heap = T.heap → s.WarmedH t.vm → s.sameButNew ({ t with vm := s.vm } : State) locs cells slots → En v t locs) (hQ : Q (some (.long z)) T.heap) : Go p e below En n0 Q T (mkF m pc Ls (.long z :: st)) := by
  obtain ⟨fs, hr1, hrun, hended, hW, hsame⟩ := X.leave (v := some (.long z)) (fun h => by rw [hr] at h; cases h) hlk
  exact ⟨_, _, retOut X hx hr rfl (Or.inr (Or.inl ⟨rfl, rfl, z, rfl⟩)) hd hr1, hrun, hended, _, _, rfl, ⟨hQ, N⟩, hE _ _ rfl hW hsame⟩
theorem g_areturn (X : Stand p l e R s m args below meth c T locs cells slots) (hx : p.tables.exec = Jvm.exec) {v : Value} {t : FieldType} (ht : t.isReference = true) (hv : v.isRef = true) (hr : meth.sig.returnType = some t) (hd : decode c.code pc = .ok (.areturn, 1)) (N : Fr n0 locs) (hlk : meth.locks = false) (hE : ∀ v t, t.heap = T.heap → s.WarmedH t.vm → s.sameButNew ({ t with vm := s.vm } : State) locs cells slots → En v t locs) (hQ : Q (some (v)) T.heap) : Go p e below En n0 Q T (mkF m pc Ls (v :: st)) := by
  obtain ⟨fs, hr1, hrun, hended, hW, hsame⟩ := X.leave (v := some (v)) (fun h => by rw [hr] at h; cases h) hlk
  exact ⟨_, _, retOut X hx hr (by cases t <;> first | rfl | (cases ht; done)) (Or.inr (Or.inr (Or.inr (Or.inr ⟨rfl, ht, hv⟩)))) hd hr1, hrun, hended, _, _, rfl, ⟨hQ, N⟩, hE _ _ rfl hW hsame⟩
theorem g_zreturn (X : Stand p l e R s m args below meth c T locs cells slots) (hx : p.tables.exec = Jvm.exec) {z : Int32} (hn : narrow .boolean (.int z) = .int z) (hr : meth.sig.returnType = some .boolean) (hd : decode c.code pc = .ok (.ireturn, 1)) (N : Fr n0 locs) (hlk : meth.locks = false) (hE : ∀ v t, t.heap = T.heap → s.WarmedH t.vm → s.sameButNew ({ t with vm := s.vm } : State) locs cells slots → En v t locs) (hQ : Q (some (.int z)) T.heap) : Go p e below En n0 Q T (mkF m pc Ls (.int z :: st)) := by
  obtain ⟨fs, hr1, hrun, hended, hW, hsame⟩ := X.leave (v := some (.int z)) (fun h => by rw [hr] at h; cases h) hlk
  exact ⟨_, _, retOut X hx hr hn (Or.inl ⟨rfl, by simp, z, rfl⟩) hd hr1, hrun, hended, _, _, rfl, ⟨hQ, N⟩, hE _ _ rfl hW hsame⟩
theorem g_breturn (X : Stand p l e R s m args below meth c T locs cells slots) (hx : p.tables.exec = Jvm.exec) {z : Int32} (hn : narrow .byte (.int z) = .int z) (hr : meth.sig.returnType = some .byte) (hd : decode c.code pc = .ok (.ireturn, 1)) (N : Fr n0 locs) (hlk : meth.locks = false) (hE : ∀ v t, t.heap = T.heap → s.WarmedH t.vm → s.sameButNew ({ t with vm := s.vm } : State) locs cells slots → En v t locs) (hQ : Q (some (.int z)) T.heap) : Go p e below En n0 Q T (mkF m pc Ls (.int z :: st)) := by
  obtain ⟨fs, hr1, hrun, hended, hW, hsame⟩ := X.leave (v := some (.int z)) (fun h => by rw [hr] at h; cases h) hlk
  exact ⟨_, _, retOut X hx hr hn (Or.inl ⟨rfl, by simp, z, rfl⟩) hd hr1, hrun, hended, _, _, rfl, ⟨hQ, N⟩, hE _ _ rfl hW hsame⟩
theorem g_creturn (X : Stand p l e R s m args below meth c T locs cells slots) (hx : p.tables.exec = Jvm.exec) {z : Int32} (hn : narrow .char (.int z) = .int z) (hr : meth.sig.returnType = some .char) (hd : decode c.code pc = .ok (.ireturn, 1)) (N : Fr n0 locs) (hlk : meth.locks = false) (hE : ∀ v t, t.heap = T.heap → s.WarmedH t.vm → s.sameButNew ({ t with vm := s.vm } : State) locs cells slots → En v t locs) (hQ : Q (some (.int z)) T.heap) : Go p e below En n0 Q T (mkF m pc Ls (.int z :: st)) := by
  obtain ⟨fs, hr1, hrun, hended, hW, hsame⟩ := X.leave (v := some (.int z)) (fun h => by rw [hr] at h; cases h) hlk
  exact ⟨_, _, retOut X hx hr hn (Or.inl ⟨rfl, by simp, z, rfl⟩) hd hr1, hrun, hended, _, _, rfl, ⟨hQ, N⟩, hE _ _ rfl hW hsame⟩
theorem g_sreturn (X : Stand p l e R s m args below meth c T locs cells slots) (hx : p.tables.exec = Jvm.exec) {z : Int32} (hn : narrow .short (.int z) = .int z) (hr : meth.sig.returnType = some .short) (hd : decode c.code pc = .ok (.ireturn, 1)) (N : Fr n0 locs) (hlk : meth.locks = false) (hE : ∀ v t, t.heap = T.heap → s.WarmedH t.vm → s.sameButNew ({ t with vm := s.vm } : State) locs cells slots → En v t locs) (hQ : Q (some (.int z)) T.heap) : Go p e below En n0 Q T (mkF m pc Ls (.int z :: st)) := by
  obtain ⟨fs, hr1, hrun, hended, hW, hsame⟩ := X.leave (v := some (.int z)) (fun h => by rw [hr] at h; cases h) hlk
  exact ⟨_, _, retOut X hx hr hn (Or.inl ⟨rfl, by simp, z, rfl⟩) hd hr1, hrun, hended, _, _, rfl, ⟨hQ, N⟩, hE _ _ rfl hW hsame⟩
end Go
/-! arrays: every component is known -/
def Va (Z : State) (h : Heap) (a : Addr) (ty : FieldType) (vs : List Value) : Prop := ∃ c : Cell, Arr Z h a c ty ∧ c.slots.toList = vs
section Arrays
variable {p : Program} {l : Launch} {e : Env} {R : Room} {s : State} {m : MethodId} {args : Array Value} {below : List Frame} {meth : Method} {c : Code} {T : State} {locs : List Loc} {cells slots : Nat} {Z : State} {a0 : Array Value} {h h' : Heap} {n0 : Nat} {En : Option Value → State → List Loc → Prop} {Q : Option Value → Heap → Prop}
variable {pc pc' : Nat} {Ls : Array Slot} {st : List Value} {a b : Addr} {ty : FieldType} {vs : List Value} {v w : Value} {sl : Nat} {ws : List Addr}
theorem Va.lt (F : Va Z h a ty vs) : a < h.size := by obtain ⟨c, A, -⟩ := F; exact A.lt
theorem Va.ext (F : Va Z h a ty vs) (E : Ext h h') : Va Z h' a ty vs := by obtain ⟨c, A, r⟩ := F; exact ⟨c, A.ext E, r⟩
theorem Va.other (F : Va Z h b ty vs) (W : Wr h h' a sl v) (q : b ≠ a) : Va Z h' b ty vs := by obtain ⟨c, A, r⟩ := F; exact ⟨c, A.other W q, r⟩
theorem Va.keep (F : Va Z h a ty vs) (K : Keep h h' ws) (q : a ∉ ws) : Va Z h' a ty vs := by obtain ⟨c, A, r⟩ := F; exact ⟨c, ⟨K.2.1 a c A.1 q, A.2⟩, r⟩
theorem Va.same (F : Va Z h a ty vs) (W : Wr h h' a sl v) : Va Z h' a ty (vs.set sl v) := by
  obtain ⟨c, A, rfl⟩ := F
  exact ⟨_, A.same W, by simp [Cell.setSlot]⟩
theorem Va.eq (F : Va Z h a ty vs) {vs' : List Value} (q : vs = vs') : Va Z h a ty vs' := q ▸ F
theorem Va.len (F : Va Z h a ty vs) : ∃ c : Cell, Arr Z h a c ty ∧ c.slots.size = vs.length ∧ ∀ i : Nat, c.slots[i]? = vs[i]? := by
  obtain ⟨c, A, rfl⟩ := F
  exact ⟨c, A, by simp, fun i => by simp⟩
theorem Va.new {cA : ClassId} {n : Int32} {k : Nat} (A : Arr Z h a (newA cA ty n) ty) (hk : n.toNatClampNeg = k) : Va Z h a ty (List.replicate k (defaultValue ty)) := ⟨_, A, by simp [newA, hk]⟩
theorem inV {c : Cell} {j : Int32} {i : Nat} (hs : c.slots.size = vs.length) (hj : ¬ j < 0) (hi : j.toNatClampNeg = i) (hv : vs[i]? = some v) : ¬ (j < 0 ∨ c.slots.size ≤ j.toNatClampNeg) := by
  rintro (q | q)
  · exact hj q
  · rw [hs, hi] at q
    rw [List.getElem?_eq_none q] at hv
    cases hv
theorem g_baload (X : Stand p l e R s m args below meth c T locs cells slots) (hx : p.tables.exec = Jvm.exec) (hZ : Z.Warmed39 s.vm) (eT : T.heap = h) (F : Va Z h a .byte vs) {j : Int32} {i : Nat} (hd : decode c.code pc = .ok (.baload, 1)) (hp : pc + 1 = pc') (hj : ¬ j < 0) (hi : j.toNatClampNeg = i) (hv : vs[i]? = some v) (G : Go p e below En n0 Q T (mkF m pc' Ls (v :: st))) : Go p e below En n0 Q T (mkF m pc Ls (.int j :: .ref a :: st)) := by
  subst hp eT
  obtain ⟨cl, A, hs, hat⟩ := F.len
  have hv' : cl.slots[j.toNatClampNeg]? = some v := by rw [hat, hi]; exact hv
  exact Go.mov (fun t k => X.baloadBytes hx (j := j) (v := v) A.1 (State.isArrayOf_alike hZ.alike A.2.1) A.2.2 (inV hs hj hi hv) hv' (g := mkF m pc Ls (.int j :: .ref a :: st)) rfl rfl hd t k) G
theorem g_caload (X : Stand p l e R s m args below meth c T locs cells slots) (hx : p.tables.exec = Jvm.exec) (hZ : Z.Warmed39 s.vm) (eT : T.heap = h) (F : Va Z h a .char vs) {j : Int32} {i : Nat} (hd : decode c.code pc = .ok (.caload, 1)) (hp : pc + 1 = pc') (hj : ¬ j < 0) (hi : j.toNatClampNeg = i) (hv : vs[i]? = some v) (G : Go p e below En n0 Q T (mkF m pc' Ls (v :: st))) : Go p e below En n0 Q T (mkF m pc Ls (.int j :: .ref a :: st)) := by
  subst hp eT
  obtain ⟨cl, A, hs, hat⟩ := F.len
  have hv' : cl.slots[j.toNatClampNeg]? = some v := by rw [hat, hi]; exact hv
  exact Go.mov (fun t k => X.caload hx (j := j) (v := v) A.1 (State.isArrayOf_alike hZ.alike A.2.1) A.2.2 (inV hs hj hi hv) hv' (g := mkF m pc Ls (.int j :: .ref a :: st)) rfl rfl hd t k) G
theorem g_laload (X : Stand p l e R s m args below meth c T locs cells slots) (hx : p.tables.exec = Jvm.exec) (hZ : Z.Warmed39 s.vm) (eT : T.heap = h) (F : Va Z h a .long vs) {j : Int32} {i : Nat} (hd : decode c.code pc = .ok (.laload, 1)) (hp : pc + 1 = pc') (hj : ¬ j < 0) (hi : j.toNatClampNeg = i) (hv : vs[i]? = some v) (G : Go p e below En n0 Q T (mkF m pc' Ls (v :: st))) : Go p e below En n0 Q T (mkF m pc Ls (.int j :: .ref a :: st)) := by
  subst hp eT
  obtain ⟨cl, A, hs, hat⟩ := F.len
  have hv' : cl.slots[j.toNatClampNeg]? = some v := by rw [hat, hi]; exact hv
  exact Go.mov (fun t k => X.laload hx (j := j) (v := v) A.1 (State.isArrayOf_alike hZ.alike A.2.1) A.2.2 (inV hs hj hi hv) hv' (g := mkF m pc Ls (.int j :: .ref a :: st)) rfl rfl hd t k) G
theorem g_iaload (X : Stand p l e R s m args below meth c T locs cells slots) (hx : p.tables.exec = Jvm.exec) (hZ : Z.Warmed39 s.vm) (eT : T.heap = h) (F : Va Z h a .int vs) {j : Int32} {i : Nat} (hd : decode c.code pc = .ok (.iaload, 1)) (hp : pc + 1 = pc') (hj : ¬ j < 0) (hi : j.toNatClampNeg = i) (hv : vs[i]? = some v) (G : Go p e below En n0 Q T (mkF m pc' Ls (v :: st))) : Go p e below En n0 Q T (mkF m pc Ls (.int j :: .ref a :: st)) := by
  subst hp eT
  obtain ⟨cl, A, hs, hat⟩ := F.len
  have hv' : cl.slots[j.toNatClampNeg]? = some v := by rw [hat, hi]; exact hv
  exact Go.mov (fun t k => X.iaload hx (j := j) (v := v) A.1 (State.isArrayOf_alike hZ.alike A.2.1) A.2.2 (inV hs hj hi hv) hv' (g := mkF m pc Ls (.int j :: .ref a :: st)) rfl rfl hd t k) G
theorem g_arraylength (X : Stand p l e R s m args below meth c T locs cells slots) (hx : p.tables.exec = Jvm.exec) (hZ : Z.Warmed39 s.vm) (eT : T.heap = h) (F : Va Z h a ty vs) {z : Int32} (hd : decode c.code pc = .ok (.arraylength, 1)) (hp : pc + 1 = pc') (hz : vs.length.toInt32 = z) (G : Go p e below En n0 Q T (mkF m pc' Ls (.int z :: st))) : Go p e below En n0 Q T (mkF m pc Ls (.ref a :: st)) := by
  subst hp eT
  obtain ⟨cl, A, hs, hat⟩ := F.len
  subst hz
  rw [← hs] at G
  exact Go.mov (fun t k => X.arraylength hx A.1 (State.isArrayOf_alike hZ.alike A.2.1) (g := mkF m pc Ls (.ref a :: st)) rfl rfl hd t k) G
theorem h_bastore (X : Stand p l e R s m args below meth c T locs cells slots) (hx : p.tables.exec = Jvm.exec) (hZ : Z.Warmed39 s.vm) (eT : T.heap = h) (N : Fr n0 locs) (F : Va Z h a .byte vs) (hn : n0 ≤ a) {j : Int32} {i : Nat} {x : Int32} {v : Value} (hd : decode c.code pc = .ok (.bastore, 1)) (hj : ¬ j < 0) (hi : j.toNatClampNeg = i) (hv : vs[i]? = some v) (Ls : Array Slot) (st : List Value) :
    ∃ T' h' L, Stand p l e R s m args below meth c T' L cells slots ∧ T'.heap = h' ∧ Fr n0 L ∧ Wr h h' a i (.int (byt x)) ∧ Va Z h' a .byte (vs.set i (.int (byt x))) ∧ ∀ target, Steps p.tables e below (T'.setTop (mkF m (pc + 1) Ls st)) target → Steps p.tables e below (T.setTop (mkF m pc Ls (.int x :: .int j :: .ref a :: st))) target := by
  obtain ⟨cl, A, hs, hat⟩ := F.len
  obtain ⟨T', h', X', e', W, k⟩ := stB X hx hZ eT A (j := j) (inV hs hj hi hv) (g := mkF m pc Ls (.int x :: .int j :: .ref a :: st)) rfl rfl hd
  subst hi
  exact ⟨T', h', _, X', e', Fr.snoc X' N hn, W, F.same W, k⟩
theorem h_castore (X : Stand p l e R s m args below meth c T locs cells slots) (hx : p.tables.exec = Jvm.exec) (hZ : Z.Warmed39 s.vm) (eT : T.heap = h) (N : Fr n0 locs) (F : Va Z h a .char vs) (hn : n0 ≤ a) {j : Int32} {i : Nat} {x : Int32} {v : Value} (hd : decode c.code pc = .ok (.castore, 1)) (hj : ¬ j < 0) (hi : j.toNatClampNeg = i) (hv : vs[i]? = some v) (Ls : Array Slot) (st : List Value) :
    ∃ T' h' L, Stand p l e R s m args below meth c T' L cells slots ∧ T'.heap = h' ∧ Fr n0 L ∧ Wr h h' a i (.int (chr x)) ∧ Va Z h' a .char (vs.set i (.int (chr x))) ∧ ∀ target, Steps p.tables e below (T'.setTop (mkF m (pc + 1) Ls st)) target → Steps p.tables e below (T.setTop (mkF m pc Ls (.int x :: .int j :: .ref a :: st))) target := by
  obtain ⟨cl, A, hs, hat⟩ := F.len
  obtain ⟨T', h', X', e', W, k⟩ := stC X hx hZ eT A (j := j) (inV hs hj hi hv) (g := mkF m pc Ls (.int x :: .int j :: .ref a :: st)) rfl rfl hd
  subst hi
  exact ⟨T', h', _, X', e', Fr.snoc X' N hn, W, F.same W, k⟩
theorem h_lastore (X : Stand p l e R s m args below meth c T locs cells slots) (hx : p.tables.exec = Jvm.exec) (hZ : Z.Warmed39 s.vm) (eT : T.heap = h) (N : Fr n0 locs) (F : Va Z h a .long vs) (hn : n0 ≤ a) {j : Int32} {i : Nat} {x : Int64} {v : Value} (hd : decode c.code pc = .ok (.lastore, 1)) (hj : ¬ j < 0) (hi : j.toNatClampNeg = i) (hv : vs[i]? = some v) (Ls : Array Slot) (st : List Value) :
    ∃ T' h' L, Stand p l e R s m args below meth c T' L cells slots ∧ T'.heap = h' ∧ Fr n0 L ∧ Wr h h' a i (.long x) ∧ Va Z h' a .long (vs.set i (.long x)) ∧ ∀ target, Steps p.tables e below (T'.setTop (mkF m (pc + 1) Ls st)) target → Steps p.tables e below (T.setTop (mkF m pc Ls (.long x :: .int j :: .ref a :: st))) target := by
  obtain ⟨cl, A, hs, hat⟩ := F.len
  obtain ⟨T', h', X', e', W, k⟩ := stJ X hx hZ eT A (j := j) (inV hs hj hi hv) (g := mkF m pc Ls (.long x :: .int j :: .ref a :: st)) rfl rfl hd
  subst hi
  exact ⟨T', h', _, X', e', Fr.snoc X' N hn, W, F.same W, k⟩
theorem h_iastore (X : Stand p l e R s m args below meth c T locs cells slots) (hx : p.tables.exec = Jvm.exec) (hZ : Z.Warmed39 s.vm) (eT : T.heap = h) (N : Fr n0 locs) (F : Va Z h a .int vs) (hn : n0 ≤ a) {j : Int32} {i : Nat} {x : Int32} {v : Value} (hd : decode c.code pc = .ok (.iastore, 1)) (hj : ¬ j < 0) (hi : j.toNatClampNeg = i) (hv : vs[i]? = some v) (Ls : Array Slot) (st : List Value) :
    ∃ T' h' L, Stand p l e R s m args below meth c T' L cells slots ∧ T'.heap = h' ∧ Fr n0 L ∧ Wr h h' a i (.int x) ∧ Va Z h' a .int (vs.set i (.int x)) ∧ ∀ target, Steps p.tables e below (T'.setTop (mkF m (pc + 1) Ls st)) target → Steps p.tables e below (T.setTop (mkF m pc Ls (.int x :: .int j :: .ref a :: st))) target := by
  obtain ⟨cl, A, hs, hat⟩ := F.len
  obtain ⟨T', h', X', e', W, k⟩ := stI X hx hZ eT A (j := j) (inV hs hj hi hv) (g := mkF m pc Ls (.int x :: .int j :: .ref a :: st)) rfl rfl hd
  subst hi
  exact ⟨T', h', _, X', e', Fr.snoc X' N hn, W, F.same W, k⟩
theorem h_newarray (X : Stand p l e R s m args below meth c T locs cells slots) (hx : p.tables.exec = Jvm.exec) (hZ : Z.Warmed39 s.vm) (eT : T.heap = h) {aty : ArrayType} {ty : FieldType} (hty : newarray.typeOf aty = ty) (w : (Jvm.Cond.arrayClass ty).before a0 Z = true) {n : Int32} {k cap : Nat} (hd : decode c.code pc = .ok (.newarray aty, 2)) (hn : ¬ n < 0) (hk : n.toNatClampNeg = k) (hcap : k ≤ cap) (hb : cap * 8 ≤ 536870912) (hc : cells + 1 ≤ R.cells) (hl : slots + cap ≤ R.slots) {ad : String} (had : "[" ++ ty.toString = ad) (Ls : Array Slot) (st : List Value) :
    ∃ T' h' a, Stand p l e R s m args below meth c T' locs (cells + 1) (slots + cap) ∧ T'.heap = h' ∧ a = h.size ∧ Ext h h' ∧ Va Z h' a ty (List.replicate k (defaultValue ty)) ∧ Exa Z h' a ad ∧ ∀ target, Steps p.tables e below (T'.setTop (mkF m (pc + 2) Ls (.ref a :: st))) target → Steps p.tables e below (T.setTop (mkF m pc Ls (.int n :: st))) target := by
  subst hty
  obtain ⟨T', h', cA, X', e', E, A, Ex, st'⟩ := newPE X hx hZ w eT (g := mkF m pc Ls (.int n :: st)) rfl hd rfl hn (cap := cap) (by rw [hk]; exact hcap) hb hc hl had
  exact ⟨T', h', _, X', e', rfl, E, Va.new A hk, Ex, st'⟩
end Arrays
/-! calls by a contract -/
section Calls
variable {p : Program} {l : Launch} {e : Env} {R : Room} {s : State} {m : MethodId} {args : Array Value} {below : List Frame} {meth : Method} {c : Code} {T : State} {locs : List Loc} {cells slots : Nat} {Z : State} {a0 : Array Value} {h h' : Heap} {n0 : Nat} {Q : Option Value → Heap → Prop}
variable {pc : Nat} {own : String} {i maxL : Nat} {y z : MethodName} {bytes : ByteArray} {ret : Option FieldType} {rm : Room} {as' : Array Value} {ps : List FieldType} {rt : Option FieldType}
theorem h_static (X : Stand p l e R s m args below meth c T locs cells slots) (hx : p.tables.exec = Jvm.exec) {Ls : Array Slot} {W : Nat} {argsL rest : List Value} (hZ : Z.Warmed39 s.vm) (eT : T.heap = h) (N : Fr n0 locs) (hml : c.maxLocals = Ls.size) (hown : s.vm.findClass own = some m.cls) (hK : Ctr l Z y bytes maxL ret rm as' h n0 Q) (w1 : (Jvm.Cond.methodLink own i y).before a0 Z = true) (w2 : (Jvm.Cond.static y).before a0 Z = true) (w3 : (Jvm.Cond.initialized y.cls).before a0 Z = true) (w4 : (Jvm.Cond.code y bytes maxL ret).before a0 Z = true) (hy : y.cls ≠ "java/lang/invoke/MethodHandle" ∧ y.cls ≠ "java/lang/invoke/VarHandle") (pd : parseMethodDescriptor y.desc = some ⟨ps, rt⟩) (hlen : argsL.length = ps.length) (has : as' = argsL.toArray) (hd : decode c.code pc = .ok (.invokestatic i, 3)) (hW : (rest.map fun v => v.category).sum = W) (hf : rm.frames + 1 ≤ R.frames) (hlo : W + (maxL + 11) + rm.locals ≤ R.locals) (hcc : cells + rm.cells ≤ R.cells) (hss : slots + rm.slots ≤ R.slots) :
    ∃ v T' h' L, Stand p l e R s m args below meth c T' L (cells + rm.cells) (slots + rm.slots) ∧ T'.heap = h' ∧ Fr n0 L ∧ Q v h' ∧ ∀ target, Steps p.tables e below (T'.setTop (mkF m (pc + 3) Ls (v.toList ++ rest))) target → Steps p.tables e below (T.setTop (mkF m pc Ls (argsL.reverse ++ rest))) target := by
  obtain ⟨v, _, ⟨T', L', k', n'⟩, -, X', ⟨Lc, hQ, h1, h2, h3⟩, st⟩ := Jvm.LawKit.callS X hx (y := y) hown (mvT hZ w1) (mvT hZ w2) (mvT hZ w3) (mvT hZ w4) hy (backOf (W := W) (hK []) hZ w4 w3 hf hlo) (g := mkF m pc Ls (argsL.reverse ++ rest)) rfl hml.symm (argsL := argsL) (rest := rest) (lenOf pd hlen) rfl (by show 2 * 0 + _ ≤ _; omega) hd (fun _ _ => ⟨has.symm, eT, hcc, hss⟩)
  dsimp only [Pt.U, Pt.locs, Pt.cells, Pt.slots] at X' h1 h2 h3 st hQ
  subst h1 h2 h3
  exact ⟨v, T', _, _, X', rfl, N.app hQ.2, hQ.1, st⟩
theorem h_special (X : Stand p l e R s m args below meth c T locs cells slots) (hx : p.tables.exec = Jvm.exec) {Ls : Array Slot} {W : Nat} {a : Addr} {argsL rest : List Value} (hZ : Z.Warmed39 s.vm) (eT : T.heap = h) (N : Fr n0 locs) (hml : c.maxLocals = Ls.size) (hown : s.vm.findClass own = some m.cls) (hy1 : y.name = "<init>") (hK : Ctr l Z y bytes maxL none rm as' h n0 Q) (w1 : (Jvm.Cond.methodLink own i y).before a0 Z = true) (w2 : (Jvm.Cond.instanceMethod y).before a0 Z = true) (w3 : (Jvm.Cond.initialized y.cls).before a0 Z = true) (w4 : (Jvm.Cond.code y bytes maxL none).before a0 Z = true) (hy : y.cls ≠ "java/lang/invoke/MethodHandle" ∧ y.cls ≠ "java/lang/invoke/VarHandle") (pd : parseMethodDescriptor y.desc = some ⟨ps, rt⟩) (hlen : argsL.length = ps.length) (has : as' = (.ref a :: argsL).toArray) (hd : decode c.code pc = .ok (.invokespecial i, 3)) (hW : (rest.map fun v => v.category).sum = W) (hf : rm.frames + 1 ≤ R.frames) (hlo : W + (maxL + 11) + rm.locals ≤ R.locals) (hcc : cells + rm.cells ≤ R.cells) (hss : slots + rm.slots ≤ R.slots) :
    ∃ v T' h' L, Stand p l e R s m args below meth c T' L (cells + rm.cells) (slots + rm.slots) ∧ T'.heap = h' ∧ Fr n0 L ∧ Q v h' ∧ ∀ target, Steps p.tables e below (T'.setTop (mkF m (pc + 3) Ls (v.toList ++ rest))) target → Steps p.tables e below (T.setTop (mkF m pc Ls (argsL.reverse ++ .ref a :: rest))) target := by
  obtain ⟨v, _, ⟨T', L', k', n'⟩, -, X', ⟨Lc, hQ, h1, h2, h3⟩, st⟩ := X.specialBack hx (y := y) hy1 hown (mvT hZ w1) (mvT hZ w2) (mvT hZ w4) hy (backOf (W := W) (hK []) hZ w4 w3 hf hlo) (g := mkF m pc Ls (argsL.reverse ++ .ref a :: rest)) rfl hml.symm (Steps.refl _) (a := a) (argsL := argsL) (rest := rest) (lenOf pd hlen) rfl (by show 2 * 0 + _ ≤ _; omega) hd (fun _ _ => ⟨has.symm, eT, hcc, hss⟩)
  dsimp only [Pt.U, Pt.locs, Pt.cells, Pt.slots] at X' h1 h2 h3 st hQ
  subst h1 h2 h3
  exact ⟨v, T', _, _, X', rfl, N.app hQ.2, hQ.1, fun t k => st.trans k⟩
theorem h_virtual (X : Stand p l e R s m args below meth c T locs cells slots) (hx : p.tables.exec = Jvm.exec) {Ls : Array Slot} {W : Nat} {a : Addr} {cls : String} {argsL rest : List Value} (hZ : Z.Warmed39 s.vm) (eT : T.heap = h) (N : Fr n0 locs) (hml : c.maxLocals = Ls.size) (hown : s.vm.findClass own = some m.cls) (hK : Ctr l Z z bytes maxL ret rm as' h n0 Q) (E : Exa Z h a cls) (w1 : (Jvm.Cond.methodLink own i y).before a0 Z = true) (w2 : (Jvm.Cond.declares y).before a0 Z = true) (nf : NotFace s y) (w5 : (Jvm.Cond.selects cls y z).before a0 Z = true) (w6 : (Jvm.Cond.instanceMethod z).before a0 Z = true) (w3 : (Jvm.Cond.initialized z.cls).before a0 Z = true) (w4 : (Jvm.Cond.code z bytes maxL ret).before a0 Z = true) (hy : y.cls ≠ "java/lang/invoke/MethodHandle" ∧ y.cls ≠ "java/lang/invoke/VarHandle") (pd : parseMethodDescriptor y.desc = some ⟨ps, rt⟩) (hlen : argsL.length = ps.length) (has : as' = (.ref a :: argsL).toArray) (hd : decode c.code pc = .ok (.invokevirtual i, 3)) (hW : (rest.map fun v => v.category).sum = W) (hf : rm.frames + 1 ≤ R.frames) (hlo : W + (maxL + 11) + rm.locals ≤ R.locals) (hcc : cells + rm.cells ≤ R.cells) (hss : slots + rm.slots ≤ R.slots) :
    ∃ v T' h' L, Stand p l e R s m args below meth c T' L (cells + rm.cells) (slots + rm.slots) ∧ T'.heap = h' ∧ Fr n0 L ∧ Q v h' ∧ ∀ target, Steps p.tables e below (T'.setTop (mkF m (pc + 3) Ls (v.toList ++ rest))) target → Steps p.tables e below (T.setTop (mkF m pc Ls (argsL.reverse ++ .ref a :: rest))) target := by
  obtain ⟨cq, kq, qa, qb, qc⟩ := isOf hZ eT E
  obtain ⟨v, _, ⟨T', L', k', n'⟩, -, X', ⟨Lc, hQ, h1, h2, h3⟩, st⟩ := X.virtualBack hx (y := y) (z := z) hown (mvT hZ w1) (mvT hZ w2) nf (mvT hZ w5) (mvT hZ w6) hy (backOf (W := W) (hK []) hZ w4 w3 hf hlo) qa qc (g := mkF m pc Ls (argsL.reverse ++ .ref a :: rest)) rfl hml.symm (Steps.refl _) (argsL := argsL) (rest := rest) (lenOf pd hlen) rfl (by show 2 * 0 + _ ≤ _; omega) hd (fun _ _ => ⟨has.symm, eT, hcc, hss⟩)
  dsimp only [Pt.U, Pt.locs, Pt.cells, Pt.slots] at X' h1 h2 h3 st hQ
  subst h1 h2 h3
  exact ⟨v, T', _, _, X', rfl, N.app hQ.2, hQ.1, fun t k => st.trans k⟩
theorem h_specialN (X : Stand p l e R s m args below meth c T locs cells slots) (hx : p.tables.exec = Jvm.exec) {Ls : Array Slot} {W : Nat} {a : Addr} {host : String} {argsL rest : List Value} (hZ : Z.Warmed39 s.vm) (eT : T.heap = h) (N : Fr n0 locs) (hml : c.maxLocals = Ls.size) (hown : s.vm.findClass own = some m.cls) (hy1 : y.name = "<init>") (hK : Ctr l Z y bytes maxL none rm as' h n0 Q) (w1 : (Jvm.Cond.methodLinkNest own i y host).before a0 Z = true) (w2 : (Jvm.Cond.instanceMethod y).before a0 Z = true) (w3 : (Jvm.Cond.initialized y.cls).before a0 Z = true) (w4 : (Jvm.Cond.code y bytes maxL none).before a0 Z = true) (hy : y.cls ≠ "java/lang/invoke/MethodHandle" ∧ y.cls ≠ "java/lang/invoke/VarHandle") (pd : parseMethodDescriptor y.desc = some ⟨ps, rt⟩) (hlen : argsL.length = ps.length) (has : as' = (.ref a :: argsL).toArray) (hd : decode c.code pc = .ok (.invokespecial i, 3)) (hW : (rest.map fun v => v.category).sum = W) (hf : rm.frames + 1 ≤ R.frames) (hlo : W + (maxL + 11) + rm.locals ≤ R.locals) (hcc : cells + rm.cells ≤ R.cells) (hss : slots + rm.slots ≤ R.slots) :
    ∃ v T' h' L, Stand p l e R s m args below meth c T' L (cells + rm.cells) (slots + rm.slots) ∧ T'.heap = h' ∧ Fr n0 L ∧ Q v h' ∧ ∀ target, Steps p.tables e below (T'.setTop (mkF m (pc + 3) Ls (v.toList ++ rest))) target → Steps p.tables e below (T.setTop (mkF m pc Ls (argsL.reverse ++ .ref a :: rest))) target := by
  obtain ⟨v, _, ⟨T', L', k', n'⟩, -, X', ⟨Lc, hQ, h1, h2, h3⟩, st⟩ := X.specialBackNest hx (y := y) hy1 hown (Jvm.Cond.methodLinkNest_wide hZ w1) (mvT hZ w2) (mvT hZ w4) hy (backOf (W := W) (hK []) hZ w4 w3 hf hlo) (g := mkF m pc Ls (argsL.reverse ++ .ref a :: rest)) rfl hml.symm (Steps.refl _) (a := a) (argsL := argsL) (rest := rest) (lenOf pd hlen) rfl (by show 2 * 0 + _ ≤ _; omega) hd (fun _ _ => ⟨has.symm, eT, hcc, hss⟩)
  dsimp only [Pt.U, Pt.locs, Pt.cells, Pt.slots] at X' h1 h2 h3 st hQ
  subst h1 h2 h3
  exact ⟨v, T', _, _, X', rfl, N.app hQ.2, hQ.1, fun t k => st.trans k⟩
theorem h_private (X : Stand p l e R s m args below meth c T locs cells slots) (hx : p.tables.exec = Jvm.exec) {Ls : Array Slot} {W : Nat} {a : Addr} {cls : String} {kk : Nat} {argsL rest : List Value} (hZ : Z.Warmed39 s.vm) (eT : T.heap = h) (N : Fr n0 locs) (hml : c.maxLocals = Ls.size) (hown : s.vm.findClass own = some m.cls) (hK : Ctr l Z y bytes maxL ret rm as' h n0 Q) (E : Exa Z h a cls) (w1 : (Jvm.Cond.methodLink own i y).before a0 Z = true) (w2 : (Jvm.Cond.instanceMethod y).before a0 Z = true) (wp : (Jvm.Cond.privateMethod y).before a0 Z = true) (wi : (Jvm.Cond.instantiable y.cls kk).before a0 Z = true) (w3 : (Jvm.Cond.initialized y.cls).before a0 Z = true) (w4 : (Jvm.Cond.code y bytes maxL ret).before a0 Z = true) (hy : y.cls ≠ "java/lang/invoke/MethodHandle" ∧ y.cls ≠ "java/lang/invoke/VarHandle") (pd : parseMethodDescriptor y.desc = some ⟨ps, rt⟩) (hlen : argsL.length = ps.length) (has : as' = (.ref a :: argsL).toArray) (hd : decode c.code pc = .ok (.invokevirtual i, 3)) (hW : (rest.map fun v => v.category).sum = W) (hf : rm.frames + 1 ≤ R.frames) (hlo : W + (maxL + 11) + rm.locals ≤ R.locals) (hcc : cells + rm.cells ≤ R.cells) (hss : slots + rm.slots ≤ R.slots) :
    ∃ v T' h' L, Stand p l e R s m args below meth c T' L (cells + rm.cells) (slots + rm.slots) ∧ T'.heap = h' ∧ Fr n0 L ∧ Q v h' ∧ ∀ target, Steps p.tables e below (T'.setTop (mkF m (pc + 3) Ls (v.toList ++ rest))) target → Steps p.tables e below (T.setTop (mkF m pc Ls (argsL.reverse ++ .ref a :: rest))) target := by
  obtain ⟨cq, q1, q2⟩ := E.cell
  obtain ⟨c2, k2, i1, i2, i3, i4, -⟩ := Jvm.Cond.instantiable_spec (mvT (args := args) (d := .instantiable y.cls kk) hZ wi)
  have hpv := Jvm.Cond.privateMethod_at (mvP hZ wp (args := args))
  have hsel := selects_self_of_private (args := args) i1 i2 (by revert i4; cases k2.isInterface <;> simp) hpv (mvT hZ w2) hy
  obtain ⟨v, _, ⟨T', L', k', n'⟩, -, X', ⟨Lc, hQ, h1, h2, h3⟩, st⟩ := X.privateBack hx (y := y) hown (mvT hZ w1) (mvT hZ w2) hsel hpv (mvT hZ w4) hy (backOf (W := W) (hK []) hZ w4 w3 hf hlo) (g := mkF m pc Ls (argsL.reverse ++ .ref a :: rest)) rfl hml.symm (Steps.refl _) (a := a) (by rw [eT]; exact q1) q2 (argsL := argsL) (rest := rest) (lenOf pd hlen) rfl (by show 2 * 0 + _ ≤ _; omega) hd (fun _ _ => ⟨has.symm, eT, hcc, hss⟩)
  dsimp only [Pt.U, Pt.locs, Pt.cells, Pt.slots] at X' h1 h2 h3 st hQ
  subst h1 h2 h3
  exact ⟨v, T', _, _, X', rfl, N.app hQ.2, hQ.1, fun t k => st.trans k⟩
end Calls
/-! an enum's constant, where the law begins -/
theorem enum_at {C f d : String} {a0 : Array Value} {k : Int32} {s : State} (h1 : (Jvm.Cond.exactly (.static C f d) C).value a0 s none s [] = some true) (h2 : (Jvm.Cond.eq (.field (.static C f d) "java/lang/Enum" "ordinal" "I") (.int k)).value a0 s none s [] = some true)
    (wi : (Jvm.Cond.initialized C).before a0 s = true) (wl : (Jvm.Cond.laysStatic C f d).before a0 s = true) : ∃ a, Sta s s.heap C f d (.ref a) ∧ Exa s s.heap a C ∧ s.fieldOf? a "java/lang/Enum" "ordinal" "I" = some (.int k) := by
  obtain ⟨a, ev⟩ := exa_v h1
  refine ⟨a, Sta.start ev (Or.inr ⟨wi, wl⟩), Exa.start ev h1, ?_⟩
  obtain ⟨x, y, e1, e2, k1, k2⟩ := cmp_v (Or.inl h2)
  have ey : y = .int k := (Option.some.inj ((Term.int_eval k).symm.trans e2)).symm
  subst ey
  obtain ⟨z, rfl⟩ := k2
  have q : (Jvm.Cond.eq (.field (.static C f d) "java/lang/Enum" "ordinal" "I") (.int k)).value a0 s none s [] = some (decide (z = k)) := by simp [Jvm.Cond.value, e1, e2]
  have r := gotT q h2
  subst r
  rw [← fld_at (C := "java/lang/Enum") (n := "ordinal") (dd := "I") ev]
  exact e1
theorem enum_ne {s : State} {a b : Addr} {k k' : Int32} (h1 : s.fieldOf? a "java/lang/Enum" "ordinal" "I" = some (.int k)) (h2 : s.fieldOf? b "java/lang/Enum" "ordinal" "I" = some (.int k')) (q : k ≠ k') : a ≠ b := fun e => by
  subst e
  rw [h1] at h2
  exact q (Value.int.inj (Option.some.inj h2))
end Jvm.OwnKit
namespace Jvm.Pilot.@@N@@
open Jvm Jvm.ClassFile Sem Op Lib Jvm.Free Jvm.Stand Jvm.LawKit Jvm.RoadKit Jvm.OwnKit Bundle Jvm.Pilot.@@N@@.Jvm.D
def zV (u l m f la mi : Int32) : Int32 := ((u ^^^ f) ||| (l ^^^ la)) ||| (m ^^^ mi)
def mkV (u l m f la mi : Int32) : Int32 := chr ((((zV u l m f la mi) - (1 : Int32)) &&& ((zV u l m f la mi) ^^^ (-1 : Int32))) &&& (32768 : Int32))
theorem chr_bv (x : Int32) : (chr x).toBitVec = (x.toBitVec.setWidth 16).setWidth 32 := by simp [chr]; rfl
theorem chr_xor {x y : Int32} (hx : chr x = x) (hy : chr y = y) : chr (x ^^^ y) = x ^^^ y := by
  apply Int32.toBitVec_inj.mp
  have ex := congrArg Int32.toBitVec hx
  have ey := congrArg Int32.toBitVec hy
  rw [chr_bv] at ex ey ⊢
  rw [Int32.toBitVec_xor, ← ex, ← ey]
  apply BitVec.eq_of_getLsbD_eq
  intro i hi
  by_cases q : i < 16 <;> simp [q, hi]
theorem chr_or {x y : Int32} (hx : chr x = x) (hy : chr y = y) : chr (x ||| y) = x ||| y := by
  apply Int32.toBitVec_inj.mp
  have ex := congrArg Int32.toBitVec hx
  have ey := congrArg Int32.toBitVec hy
  rw [chr_bv] at ex ey ⊢
  rw [Int32.toBitVec_or, ← ex, ← ey]
  apply BitVec.eq_of_getLsbD_eq
  intro i hi
  by_cases q : i < 16 <;> simp [q, hi]
theorem or_zero {x y : Int32} : x ||| y = 0 ↔ x = 0 ∧ y = 0 := by
  constructor
  · intro h
    have q := congrArg Int32.toBitVec h
    rw [Int32.toBitVec_or] at q
    have r := BitVec.or_eq_zero_iff.mp q
    exact ⟨Int32.toBitVec_inj.mp r.1, Int32.toBitVec_inj.mp r.2⟩
  · rintro ⟨rfl, rfl⟩; rfl
theorem xor_zero {x y : Int32} : x ^^^ y = 0 ↔ x = y := by
  constructor
  · intro h
    have q := congrArg Int32.toBitVec h
    rw [Int32.toBitVec_xor] at q
    exact Int32.toBitVec_inj.mp (BitVec.xor_eq_zero_iff.mp q)
  · rintro rfl; exact Int32.xor_self
theorem own_z0 {z : Int32} (h : chr z = z) (hz : ¬ z = 0) : chr (((z - (1 : Int32)) &&& (z ^^^ (-1 : Int32))) &&& (32768 : Int32)) = 0 := by
  have e := congrArg Int32.toBitVec h
  rw [chr_bv] at e
  generalize hb : z.toBitVec.setWidth 16 = b at e
  have zn : z.toBitVec.toNat = b.toNat := by rw [← e]; simp; omega
  have lt := b.isLt
  have pos : 0 < z.toBitVec.toNat := by
    rcases Nat.eq_zero_or_pos z.toBitVec.toNat with q | q
    · exact absurd (Int32.toBitVec_inj.mp (BitVec.eq_of_toNat_eq q)) hz
    · exact q
  have key : ((z - (1 : Int32)) &&& (z ^^^ (-1 : Int32))) &&& (32768 : Int32) = 0 := by
    apply Int32.toBitVec_inj.mp
    rw [Int32.toBitVec_and, Int32.toBitVec_and, Int32.toBitVec_sub, Int32.toBitVec_xor]
    show ((z.toBitVec - 1#32) &&& (z.toBitVec ^^^ BitVec.allOnes 32)) &&& 32768#32 = 0#32
    apply BitVec.eq_of_getLsbD_eq
    intro i hi
    have m : (32768#32).getLsbD i = decide (i = 15) := by
      rw [BitVec.getLsbD_ofNat, show 32768 = 2 ^ 15 from rfl, Nat.testBit_two_pow]; simp [hi, eq_comm]
    rw [BitVec.getLsbD_and, m]
    by_cases q : i = 15
    · subst q
      rw [BitVec.getLsbD_and, BitVec.getLsbD_xor, BitVec.getLsbD_allOnes]
      have s1 : (z.toBitVec - 1#32).toNat = z.toBitVec.toNat - 1 := by rw [BitVec.toNat_sub]; simp; omega
      have t1 : (z.toBitVec - 1#32).getLsbD 15 = decide ((z.toBitVec.toNat - 1) / 2 ^ 15 % 2 = 1) := by
        show (z.toBitVec - 1#32).toNat.testBit 15 = _
        rw [s1, Nat.testBit_eq_decide_div_mod_eq]
      have t2 : z.toBitVec.getLsbD 15 = decide (z.toBitVec.toNat / 2 ^ 15 % 2 = 1) := by
        show z.toBitVec.toNat.testBit 15 = _
        rw [Nat.testBit_eq_decide_div_mod_eq]
      rw [t1, t2]
      by_cases r : z.toBitVec.toNat < 32768
      · have : (z.toBitVec.toNat - 1) / 2 ^ 15 % 2 = 0 := by omega
        simp [this]
      · have : z.toBitVec.toNat / 2 ^ 15 % 2 = 1 := by omega
        simp [this]
    · simp [q]
  rw [key]; decide
theorem own_mk {u l m f la mi : Int32} (h1 : chr u = u) (h2 : chr l = l) (h3 : chr m = m) (h4 : chr f = f) (h5 : chr la = la) (h6 : chr mi = mi) : mkV u l m f la mi = if u = f ∧ l = la ∧ m = mi then (32768 : Int32) else 0 := by
  have hz : zV u l m f la mi = 0 ↔ (u = f ∧ l = la ∧ m = mi) := by
    unfold zV; rw [or_zero, or_zero, xor_zero, xor_zero, xor_zero, and_assoc]
  unfold mkV
  split
  · rename_i q
    rw [hz.mpr q]; decide
  · rename_i q
    exact own_z0 (chr_or (chr_or (chr_xor h1 h4) (chr_xor h2 h5)) (chr_xor h3 h6)) (fun r => q (hz.mp r))

def minI (x y : Int32) : Int32 := if y < x then y else x
def cellV (c d ctl bit : Int32) : Int32 := if (ushr ctl bit) &&& 1 = 0 then chr (c ^^^ (d &&& 65535)) else c
theorem cell_chr {c : Int32} (h : chr c = c) (d ctl bit : Int32) : chr (cellV c d ctl bit) = cellV c d ctl bit := by
  unfold cellV; split
  · exact chr_chr _
  · exact h
theorem own_min (x : Int32) : minI (x &&& 3) 2 = 0 ∨ minI (x &&& 3) 2 = 1 ∨ minI (x &&& 3) 2 = 2 := by
  have h := c_mask x 3 2 (by decide) (by decide)
  have : (x &&& 3).toInt = 0 ∨ (x &&& 3).toInt = 1 ∨ (x &&& 3).toInt = 2 ∨ (x &&& 3).toInt = 3 := by omega
  rcases this with q | q | q | q
  · rw [show x &&& 3 = 0 from Int32.toInt_inj.mp q]; decide
  · rw [show x &&& 3 = 1 from Int32.toInt_inj.mp q]; decide
  · rw [show x &&& 3 = 2 from Int32.toInt_inj.mp q]; decide
  · rw [show x &&& 3 = 3 from Int32.toInt_inj.mp q]; decide
theorem d1_0 : decode jdk_29_method_69_code 0 = .ok (.iload_n 0, 1) := by decide +kernel
theorem d1_1 : decode jdk_29_method_69_code 1 = .ok (.iload_n 1, 1) := by decide +kernel
theorem d1_2 : decode jdk_29_method_69_code 2 = .ok (.if_icmp .gt 7, 3) := by decide +kernel
theorem d1_5 : decode jdk_29_method_69_code 5 = .ok (.iload_n 0, 1) := by decide +kernel
theorem d1_6 : decode jdk_29_method_69_code 6 = .ok (.goto 4, 3) := by decide +kernel
theorem d1_9 : decode jdk_29_method_69_code 9 = .ok (.iload_n 1, 1) := by decide +kernel
theorem d1_10 : decode jdk_29_method_69_code 10 = .ok (.ireturn, 1) := by decide +kernel
theorem ef_1 (x0 : Int32) (x1 : Int32) (m : MethodId) : entryFrame m #[(.int x0), (.int x1)] 2 = mkF m 0 #[.val (.int x0), .val (.int x1)] [] := by first | (simp [entryFrame, mkF, argsToLocals, Value.category]; done) | rfl
def Q1 (Z : State) (p1 : Int32) (p2 : Int32) (h0 : Heap) (n0 : Nat) : Option Value → Heap → Prop := fun v h => v = some (.int (minI p1 p2)) ∧ h0 = h
set_option maxRecDepth 65536 in
set_option maxHeartbeats 40000000 in
theorem rm1 (l : Launch) (Z : State) (a0 : Array Value) (hw : ∀ d ∈ tables_1, d.before a0 Z = true) (p1 : Int32) (p2 : Int32) (h0 : Heap) (n0 : Nat) (Z0 : n0 ≤ h0.size) : Ctr l Z (⟨"java/lang/Math", "min", "(II)I"⟩ : MethodName) jdk_29_method_69_code 2 (some .int) ({ frames := 0, cells := 0, slots := 0, locals := 0 } : Room) #[(.int p1), (.int p2)] h0 n0 (Q1 Z p1 p2 h0 n0) := by
  refine Ctr.of (Jvm.Free.JP.mathPlain rfl (by decide +kernel)) (ef_1 p1 p2) ?_
  intro p e s m below meth c T0 hx hby hml hown hnm hret hlk hZ X0 e0
  have N0 := Fr.nil n0
  refine g_iloadN X0 hx (hb hby d1_0) (pc' := 1) rfl rfl ?_
  refine g_iloadN X0 hx (hb hby d1_1) (pc' := 2) rfl rfl ?_
  refine g_icmp_gt X0 hx (hb hby d1_2) (pc1 := 5) rfl (by decide) (pc2 := 9) (by decide) (fun hc2 => ?_) (fun hc2 => ?_)
  · skip
    refine g_iloadN X0 hx (hb hby d1_9) (pc' := 10) rfl rfl ?_
    exact g_ireturn X0 hx hret (hb hby d1_10) N0 hlk (fun v t => endF (by decide) (by decide) v) (by rw [e0]; refine ⟨?_, rfl⟩; simp [minI, hc2])
  · skip
    refine g_iloadN X0 hx (hb hby d1_5) (pc' := 6) rfl rfl ?_
    refine g_goto X0 hx (hb hby d1_6) (by decide) (pc' := 10) (by decide) ?_
    exact g_ireturn X0 hx hret (hb hby d1_10) N0 hlk (fun v t => endF (by decide) (by decide) v) (by rw [e0]; refine ⟨?_, rfl⟩; simp [minI, hc2])
theorem d2_0 : decode method_2_code 0 = .ok (.iload_n 2, 1) := by decide +kernel
theorem d2_1 : decode method_2_code 1 = .ok (.iload_n 3, 1) := by decide +kernel
theorem d2_2 : decode method_2_code 2 = .ok (.iushr, 1) := by decide +kernel
theorem d2_3 : decode method_2_code 3 = .ok (.iconst 1, 1) := by decide +kernel
theorem d2_4 : decode method_2_code 4 = .ok (.iand, 1) := by decide +kernel
theorem d2_5 : decode method_2_code 5 = .ok (.ifCond .eq 5, 3) := by decide +kernel
theorem d2_8 : decode method_2_code 8 = .ok (.iload_n 0, 1) := by decide +kernel
theorem d2_9 : decode method_2_code 9 = .ok (.ireturn, 1) := by decide +kernel
theorem d2_10 : decode method_2_code 10 = .ok (.iload_n 0, 1) := by decide +kernel
theorem d2_11 : decode method_2_code 11 = .ok (.iload_n 1, 1) := by decide +kernel
theorem d2_12 : decode method_2_code 12 = .ok (.ldc 7, 2) := by decide +kernel
theorem d2_14 : decode method_2_code 14 = .ok (.iand, 1) := by decide +kernel
theorem d2_15 : decode method_2_code 15 = .ok (.ixor, 1) := by decide +kernel
theorem d2_16 : decode method_2_code 16 = .ok (.i2c, 1) := by decide +kernel
theorem d2_17 : decode method_2_code 17 = .ok (.ireturn, 1) := by decide +kernel
theorem pn_2 : plainName "com/example/needlework/needlework/CharsMarkPinLaw" = true := by first | (simp [plainName, overriddenIn]; done) | decide +kernel
theorem ef_2 (x0 : Int32) (x1 : Int32) (x2 : Int32) (x3 : Int32) (m : MethodId) : entryFrame m #[(.int x0), (.int x1), (.int x2), (.int x3)] 4 = mkF m 0 #[.val (.int x0), .val (.int x1), .val (.int x2), .val (.int x3)] [] := by first | (simp [entryFrame, mkF, argsToLocals, Value.category]; done) | rfl
def Q2 (Z : State) (c1 : Int32) (d : Int32) (ctl : Int32) (bit : Int32) (h0 : Heap) (n0 : Nat) : Option Value → Heap → Prop := fun v h => v = some (.int (cellV c1 d ctl bit)) ∧ h0 = h
set_option maxRecDepth 65536 in
set_option maxHeartbeats 40000000 in
theorem rm2 (l : Launch) (Z : State) (a0 : Array Value) (hw : ∀ d ∈ tables_1, d.before a0 Z = true) (c1 : Int32) (d : Int32) (ctl : Int32) (bit : Int32) (h0 : Heap) (n0 : Nat) (Z0 : n0 ≤ h0.size) (hc : chr c1 = c1) : Ctr l Z (⟨"com/example/needlework/needlework/CharsMarkPinLaw", "cell", "(CIII)C"⟩ : MethodName) method_2_code 4 (some .char) ({ frames := 0, cells := 0, slots := 0, locals := 0 } : Room) #[(.int c1), (.int d), (.int ctl), (.int bit)] h0 n0 (Q2 Z c1 d ctl bit h0 n0) := by
  refine Ctr.of (plainFor_of_name pn_2) (ef_2 c1 d ctl bit) ?_
  intro p e s m below meth c T0 hx hby hml hown hnm hret hlk hZ X0 e0
  have N0 := Fr.nil n0
  refine g_iloadN X0 hx (hb hby d2_0) (pc' := 1) rfl rfl ?_
  refine g_iloadN X0 hx (hb hby d2_1) (pc' := 2) rfl rfl ?_
  refine g_iushr X0 hx (hb hby d2_2) (pc' := 3) rfl ?_
  refine g_iconst X0 hx (hb hby d2_3) (pc' := 4) rfl (z := (1 : Int32)) rfl ?_
  refine g_iand X0 hx (hb hby d2_4) (pc' := 5) rfl ?_
  refine g_if_eq X0 hx (hb hby d2_5) (pc1 := 8) rfl (by decide) (pc2 := 10) (by decide) (fun hc5 => ?_) (fun hc5 => ?_)
  · skip
    refine g_iloadN X0 hx (hb hby d2_10) (pc' := 11) rfl rfl ?_
    refine g_iloadN X0 hx (hb hby d2_11) (pc' := 12) rfl rfl ?_
    refine g_ldc X0 hx hZ hown (hw _ (List.mem_of_getElem? (i := 8) rfl)) (hb hby d2_12) (pc' := 14) rfl ?_
    refine g_iand X0 hx (hb hby d2_14) (pc' := 15) rfl ?_
    refine g_ixor X0 hx (hb hby d2_15) (pc' := 16) rfl ?_
    refine g_i2c X0 hx (hb hby d2_16) (pc' := 17) rfl ?_
    exact g_creturn X0 hx (narrow_chr _) hret (hb hby d2_17) N0 hlk (fun v t => endF (by decide) (by decide) v) (by rw [e0]; exact ⟨by rw [cellV, if_pos hc5], rfl⟩)
  · skip
    refine g_iloadN X0 hx (hb hby d2_8) (pc' := 9) rfl rfl ?_
    exact g_creturn X0 hx (by rw [← hc]; exact narrow_chr c1) hret (hb hby d2_9) N0 hlk (fun v t => endF (by decide) (by decide) v) (by rw [e0]; exact ⟨by rw [cellV, if_neg hc5], rfl⟩)
theorem d4_0 : decode prog_16_method_1_code 0 = .ok (.aload_n 0, 1) := by decide +kernel
theorem d4_1 : decode prog_16_method_1_code 1 = .ok (.invokespecial 1, 3) := by decide +kernel
theorem d4_4 : decode prog_16_method_1_code 4 = .ok (.aload_n 0, 1) := by decide +kernel
theorem d4_5 : decode prog_16_method_1_code 5 = .ok (.iload_n 1, 1) := by decide +kernel
theorem d4_6 : decode prog_16_method_1_code 6 = .ok (.putfield 7, 3) := by decide +kernel
theorem d4_9 : decode prog_16_method_1_code 9 = .ok (.aload_n 0, 1) := by decide +kernel
theorem d4_10 : decode prog_16_method_1_code 10 = .ok (.iload_n 2, 1) := by decide +kernel
theorem d4_11 : decode prog_16_method_1_code 11 = .ok (.putfield 13, 3) := by decide +kernel
theorem d4_14 : decode prog_16_method_1_code 14 = .ok (.aload_n 0, 1) := by decide +kernel
theorem d4_15 : decode prog_16_method_1_code 15 = .ok (.iload_n 3, 1) := by decide +kernel
theorem d4_16 : decode prog_16_method_1_code 16 = .ok (.putfield 16, 3) := by decide +kernel
theorem d4_19 : decode prog_16_method_1_code 19 = .ok (.aload_n 0, 1) := by decide +kernel
theorem d4_20 : decode prog_16_method_1_code 20 = .ok (.iload 4, 2) := by decide +kernel
theorem d4_22 : decode prog_16_method_1_code 22 = .ok (.putfield 19, 3) := by decide +kernel
theorem d4_25 : decode prog_16_method_1_code 25 = .ok (.aload_n 0, 1) := by decide +kernel
theorem d4_26 : decode prog_16_method_1_code 26 = .ok (.iload 5, 2) := by decide +kernel
theorem d4_28 : decode prog_16_method_1_code 28 = .ok (.putfield 22, 3) := by decide +kernel
theorem d4_31 : decode prog_16_method_1_code 31 = .ok (.return_, 1) := by decide +kernel
theorem pn_4 : plainName "com/example/needlework/needlework/PackedBlock" = true := by first | (simp [plainName, overriddenIn]; done) | decide +kernel
theorem ef_4 (x0 : Addr) (x1 : Int32) (x2 : Int32) (x3 : Int32) (x4 : Int32) (x5 : Int32) (m : MethodId) : entryFrame m #[(.ref x0), (.int x1), (.int x2), (.int x3), (.int x4), (.int x5)] 6 = mkF m 0 #[.val (.ref x0), .val (.int x1), .val (.int x2), .val (.int x3), .val (.int x4), .val (.int x5)] [] := by first | (simp [entryFrame, mkF, argsToLocals, Value.category]; done) | rfl
def Q4 (Z : State) (a : Addr) (x1 : Int32) (x2 : Int32) (x3 : Int32) (x4 : Int32) (x5 : Int32) (h0 : Heap) (n0 : Nat) : Option Value → Heap → Prop := fun v h => v = none ∧ Keep h0 h [a] ∧ Exa Z h a "com/example/needlework/needlework/PackedBlock$Chars" ∧ Fld Z h a "com/example/needlework/needlework/PackedBlock" "first" "I" (.int x1) ∧ Fld Z h a "com/example/needlework/needlework/PackedBlock" "last" "I" (.int x2) ∧ Fld Z h a "com/example/needlework/needlework/PackedBlock" "middle" "I" (.int x3) ∧ Fld Z h a "com/example/needlework/needlework/PackedBlock" "lastOffset" "I" (.int x4) ∧ Fld Z h a "com/example/needlework/needlework/PackedBlock" "middleOffset" "I" (.int x5) ∧ Fld Z h a "com/example/needlework/needlework/PackedBlock" "units" "Ljava/lang/Object;" .null ∧ Fld Z h a "com/example/needlework/needlework/PackedBlock" "lasts" "Ljava/lang/Object;" .null ∧ Fld Z h a "com/example/needlework/needlework/PackedBlock" "middles" "Ljava/lang/Object;" .null
set_option maxRecDepth 65536 in
set_option maxHeartbeats 40000000 in
theorem rm4 (l : Launch) (Z : State) (a0 : Array Value) (hw : ∀ d ∈ tables_1, d.before a0 Z = true) (a : Addr) (x1 : Int32) (x2 : Int32) (x3 : Int32) (x4 : Int32) (x5 : Int32) (h0 : Heap) (n0 : Nat) (Z0 : n0 ≤ h0.size) (F_first : Fld Z h0 a "com/example/needlework/needlework/PackedBlock" "first" "I" (.int (0 : Int32))) (F_last : Fld Z h0 a "com/example/needlework/needlework/PackedBlock" "last" "I" (.int (0 : Int32))) (F_middle : Fld Z h0 a "com/example/needlework/needlework/PackedBlock" "middle" "I" (.int (0 : Int32))) (F_lastOffset : Fld Z h0 a "com/example/needlework/needlework/PackedBlock" "lastOffset" "I" (.int (0 : Int32))) (F_middleOffset : Fld Z h0 a "com/example/needlework/needlework/PackedBlock" "middleOffset" "I" (.int (0 : Int32))) (F_units : Fld Z h0 a "com/example/needlework/needlework/PackedBlock" "units" "Ljava/lang/Object;" .null) (F_lasts : Fld Z h0 a "com/example/needlework/needlework/PackedBlock" "lasts" "Ljava/lang/Object;" .null) (F_middles : Fld Z h0 a "com/example/needlework/needlework/PackedBlock" "middles" "Ljava/lang/Object;" .null) (E1 : Exa Z h0 a "com/example/needlework/needlework/PackedBlock$Chars") (G1 : n0 ≤ a) : Ctr l Z (⟨"com/example/needlework/needlework/PackedBlock", "<init>", "(IIIII)V"⟩ : MethodName) prog_16_method_1_code 6 none ({ frames := 1, cells := 0, slots := 0, locals := 12 } : Room) #[(.ref a), (.int x1), (.int x2), (.int x3), (.int x4), (.int x5)] h0 n0 (Q4 Z a x1 x2 x3 x4 x5 h0 n0) := by
  refine Ctr.of (plainFor_of_name pn_4) (ef_4 a x1 x2 x3 x4 x5) ?_
  intro p e s m below meth c T0 hx hby hml hown hnm hret hlk hZ X0 e0
  have N0 := Fr.nil n0
  refine g_aloadN X0 hx (hb hby d4_0) (pc' := 1) rfl rfl rfl ?_
  obtain ⟨T1, X1, e1, st1⟩ := initO X0 hx hZ hown (hw _ (List.mem_of_getElem? (i := 21) rfl)) (hw _ (List.mem_of_getElem? (i := 22) rfl)) (hw _ (List.mem_of_getElem? (i := 23) rfl)) e0 (g := (mkF m 1 #[.val (.ref a), .val (.int x1), .val (.int x2), .val (.int x3), .val (.int x4), .val (.int x5)] [(.ref a)])) rfl (by rw [hml]; rfl) rfl (hb hby d4_1) (by decide) (W := 0) (by show 2 * 0 + _ ≤ _; exact Nat.le_of_eq rfl) (by decide)
  refine Go.movp st1 (mkF m 4 #[.val (.ref a), .val (.int x1), .val (.int x2), .val (.int x3), .val (.int x4), .val (.int x5)] []) rfl ?_
  refine g_aloadN X1 hx (hb hby d4_4) (pc' := 5) rfl rfl rfl ?_
  refine g_iloadN X1 hx (hb hby d4_5) (pc' := 6) rfl rfl ?_
  obtain ⟨T2, h2, X2, e2, W2, st2⟩ := putF X1 hx hZ hown (host := "") (Or.inl (hw _ (List.mem_of_getElem? (i := 24) rfl))) Via.refl e1 F_first E1 (Or.inr ⟨(hw _ (List.mem_of_getElem? (i := 25) rfl)), rfl, hnm⟩) (hw _ (List.mem_of_getElem? (i := 11) rfl)) (ty := .int) (by decide) rfl rfl (g := (mkF m 6 #[.val (.ref a), .val (.int x1), .val (.int x2), .val (.int x3), .val (.int x4), .val (.int x5)] [(.int x1), (.ref a)])) rfl rfl (hb hby d4_6)
  have f3 : Fld Z h2 a "com/example/needlework/needlework/PackedBlock" "first" "I" (.int x1) := Fld.same W2 F_first
  have N2 := Fr.snoc X2 N0 G1
  have f4 := Fld.other W2 F_last (Or.inr (slot_ne (Or.inr (hw _ (List.mem_of_getElem? (i := 27) rfl))) (Or.inr (hw _ (List.mem_of_getElem? (i := 25) rfl))) (by decide) (t := .int) (t' := .int) (by decide) (by decide)))
  have f5 := Fld.other W2 F_middle (Or.inr (slot_ne (Or.inr (hw _ (List.mem_of_getElem? (i := 29) rfl))) (Or.inr (hw _ (List.mem_of_getElem? (i := 25) rfl))) (by decide) (t := .int) (t' := .int) (by decide) (by decide)))
  have f6 := Fld.other W2 F_lastOffset (Or.inr (slot_ne (Or.inr (hw _ (List.mem_of_getElem? (i := 31) rfl))) (Or.inr (hw _ (List.mem_of_getElem? (i := 25) rfl))) (by decide) (t := .int) (t' := .int) (by decide) (by decide)))
  have f7 := Fld.other W2 F_middleOffset (Or.inr (slot_ne (Or.inr (hw _ (List.mem_of_getElem? (i := 33) rfl))) (Or.inr (hw _ (List.mem_of_getElem? (i := 25) rfl))) (by decide) (t := .int) (t' := .int) (by decide) (by decide)))
  have f8 := Fld.other W2 F_units (Or.inr (slot_ne (Or.inl (hw _ (List.mem_of_getElem? (i := 36) rfl))) (Or.inr (hw _ (List.mem_of_getElem? (i := 25) rfl))) (by decide) (t := (.object "java/lang/Object")) (t' := .int) (by decide) (by decide)))
  have f9 := Fld.other W2 F_lasts (Or.inr (slot_ne (Or.inl (hw _ (List.mem_of_getElem? (i := 39) rfl))) (Or.inr (hw _ (List.mem_of_getElem? (i := 25) rfl))) (by decide) (t := (.object "java/lang/Object")) (t' := .int) (by decide) (by decide)))
  have f10 := Fld.other W2 F_middles (Or.inr (slot_ne (Or.inl (hw _ (List.mem_of_getElem? (i := 42) rfl))) (Or.inr (hw _ (List.mem_of_getElem? (i := 25) rfl))) (by decide) (t := (.object "java/lang/Object")) (t' := .int) (by decide) (by decide)))
  have f11 := Exa.wr W2 E1
  have Z12 : n0 ≤ h2.size := Nat.le_trans Z0 (Keep.of_wr W2).1
  have K13 := (Keep.refl h0 [a]).wr W2 (Or.inl (List.mem_of_getElem? (i := 0) rfl))
  refine Go.movp st2 (mkF m 9 #[.val (.ref a), .val (.int x1), .val (.int x2), .val (.int x3), .val (.int x4), .val (.int x5)] []) rfl ?_
  refine g_aloadN X2 hx (hb hby d4_9) (pc' := 10) rfl rfl rfl ?_
  refine g_iloadN X2 hx (hb hby d4_10) (pc' := 11) rfl rfl ?_
  obtain ⟨T14, h14, X14, e14, W14, st14⟩ := putF X2 hx hZ hown (host := "") (Or.inl (hw _ (List.mem_of_getElem? (i := 26) rfl))) Via.refl e2 f4 f11 (Or.inr ⟨(hw _ (List.mem_of_getElem? (i := 27) rfl)), rfl, hnm⟩) (hw _ (List.mem_of_getElem? (i := 11) rfl)) (ty := .int) (by decide) rfl rfl (g := (mkF m 11 #[.val (.ref a), .val (.int x1), .val (.int x2), .val (.int x3), .val (.int x4), .val (.int x5)] [(.int x2), (.ref a)])) rfl rfl (hb hby d4_11)
  have f15 : Fld Z h14 a "com/example/needlework/needlework/PackedBlock" "last" "I" (.int x2) := Fld.same W14 f4
  have N14 := Fr.snoc X14 N2 G1
  have f16 := Fld.other W14 f5 (Or.inr (slot_ne (Or.inr (hw _ (List.mem_of_getElem? (i := 29) rfl))) (Or.inr (hw _ (List.mem_of_getElem? (i := 27) rfl))) (by decide) (t := .int) (t' := .int) (by decide) (by decide)))
  have f17 := Fld.other W14 f6 (Or.inr (slot_ne (Or.inr (hw _ (List.mem_of_getElem? (i := 31) rfl))) (Or.inr (hw _ (List.mem_of_getElem? (i := 27) rfl))) (by decide) (t := .int) (t' := .int) (by decide) (by decide)))
  have f18 := Fld.other W14 f7 (Or.inr (slot_ne (Or.inr (hw _ (List.mem_of_getElem? (i := 33) rfl))) (Or.inr (hw _ (List.mem_of_getElem? (i := 27) rfl))) (by decide) (t := .int) (t' := .int) (by decide) (by decide)))
  have f19 := Fld.other W14 f8 (Or.inr (slot_ne (Or.inl (hw _ (List.mem_of_getElem? (i := 36) rfl))) (Or.inr (hw _ (List.mem_of_getElem? (i := 27) rfl))) (by decide) (t := (.object "java/lang/Object")) (t' := .int) (by decide) (by decide)))
  have f20 := Fld.other W14 f9 (Or.inr (slot_ne (Or.inl (hw _ (List.mem_of_getElem? (i := 39) rfl))) (Or.inr (hw _ (List.mem_of_getElem? (i := 27) rfl))) (by decide) (t := (.object "java/lang/Object")) (t' := .int) (by decide) (by decide)))
  have f21 := Fld.other W14 f10 (Or.inr (slot_ne (Or.inl (hw _ (List.mem_of_getElem? (i := 42) rfl))) (Or.inr (hw _ (List.mem_of_getElem? (i := 27) rfl))) (by decide) (t := (.object "java/lang/Object")) (t' := .int) (by decide) (by decide)))
  have f22 := Exa.wr W14 f11
  have f23 := Fld.other W14 f3 (Or.inr (slot_ne (Or.inr (hw _ (List.mem_of_getElem? (i := 25) rfl))) (Or.inr (hw _ (List.mem_of_getElem? (i := 27) rfl))) (by decide) (t := .int) (t' := .int) (by decide) (by decide)))
  have Z24 : n0 ≤ h14.size := Nat.le_trans Z12 (Keep.of_wr W14).1
  have K25 := K13.wr W14 (Or.inl (List.mem_of_getElem? (i := 0) rfl))
  refine Go.movp st14 (mkF m 14 #[.val (.ref a), .val (.int x1), .val (.int x2), .val (.int x3), .val (.int x4), .val (.int x5)] []) rfl ?_
  refine g_aloadN X14 hx (hb hby d4_14) (pc' := 15) rfl rfl rfl ?_
  refine g_iloadN X14 hx (hb hby d4_15) (pc' := 16) rfl rfl ?_
  obtain ⟨T26, h26, X26, e26, W26, st26⟩ := putF X14 hx hZ hown (host := "") (Or.inl (hw _ (List.mem_of_getElem? (i := 28) rfl))) Via.refl e14 f16 f22 (Or.inr ⟨(hw _ (List.mem_of_getElem? (i := 29) rfl)), rfl, hnm⟩) (hw _ (List.mem_of_getElem? (i := 11) rfl)) (ty := .int) (by decide) rfl rfl (g := (mkF m 16 #[.val (.ref a), .val (.int x1), .val (.int x2), .val (.int x3), .val (.int x4), .val (.int x5)] [(.int x3), (.ref a)])) rfl rfl (hb hby d4_16)
  have f27 : Fld Z h26 a "com/example/needlework/needlework/PackedBlock" "middle" "I" (.int x3) := Fld.same W26 f16
  have N26 := Fr.snoc X26 N14 G1
  have f28 := Fld.other W26 f17 (Or.inr (slot_ne (Or.inr (hw _ (List.mem_of_getElem? (i := 31) rfl))) (Or.inr (hw _ (List.mem_of_getElem? (i := 29) rfl))) (by decide) (t := .int) (t' := .int) (by decide) (by decide)))
  have f29 := Fld.other W26 f18 (Or.inr (slot_ne (Or.inr (hw _ (List.mem_of_getElem? (i := 33) rfl))) (Or.inr (hw _ (List.mem_of_getElem? (i := 29) rfl))) (by decide) (t := .int) (t' := .int) (by decide) (by decide)))
  have f30 := Fld.other W26 f19 (Or.inr (slot_ne (Or.inl (hw _ (List.mem_of_getElem? (i := 36) rfl))) (Or.inr (hw _ (List.mem_of_getElem? (i := 29) rfl))) (by decide) (t := (.object "java/lang/Object")) (t' := .int) (by decide) (by decide)))
  have f31 := Fld.other W26 f20 (Or.inr (slot_ne (Or.inl (hw _ (List.mem_of_getElem? (i := 39) rfl))) (Or.inr (hw _ (List.mem_of_getElem? (i := 29) rfl))) (by decide) (t := (.object "java/lang/Object")) (t' := .int) (by decide) (by decide)))
  have f32 := Fld.other W26 f21 (Or.inr (slot_ne (Or.inl (hw _ (List.mem_of_getElem? (i := 42) rfl))) (Or.inr (hw _ (List.mem_of_getElem? (i := 29) rfl))) (by decide) (t := (.object "java/lang/Object")) (t' := .int) (by decide) (by decide)))
  have f33 := Exa.wr W26 f22
  have f34 := Fld.other W26 f23 (Or.inr (slot_ne (Or.inr (hw _ (List.mem_of_getElem? (i := 25) rfl))) (Or.inr (hw _ (List.mem_of_getElem? (i := 29) rfl))) (by decide) (t := .int) (t' := .int) (by decide) (by decide)))
  have f35 := Fld.other W26 f15 (Or.inr (slot_ne (Or.inr (hw _ (List.mem_of_getElem? (i := 27) rfl))) (Or.inr (hw _ (List.mem_of_getElem? (i := 29) rfl))) (by decide) (t := .int) (t' := .int) (by decide) (by decide)))
  have Z36 : n0 ≤ h26.size := Nat.le_trans Z24 (Keep.of_wr W26).1
  have K37 := K25.wr W26 (Or.inl (List.mem_of_getElem? (i := 0) rfl))
  refine Go.movp st26 (mkF m 19 #[.val (.ref a), .val (.int x1), .val (.int x2), .val (.int x3), .val (.int x4), .val (.int x5)] []) rfl ?_
  refine g_aloadN X26 hx (hb hby d4_19) (pc' := 20) rfl rfl rfl ?_
  refine g_iload X26 hx (hb hby d4_20) (pc' := 22) rfl rfl ?_
  obtain ⟨T38, h38, X38, e38, W38, st38⟩ := putF X26 hx hZ hown (host := "") (Or.inl (hw _ (List.mem_of_getElem? (i := 30) rfl))) Via.refl e26 f28 f33 (Or.inr ⟨(hw _ (List.mem_of_getElem? (i := 31) rfl)), rfl, hnm⟩) (hw _ (List.mem_of_getElem? (i := 11) rfl)) (ty := .int) (by decide) rfl rfl (g := (mkF m 22 #[.val (.ref a), .val (.int x1), .val (.int x2), .val (.int x3), .val (.int x4), .val (.int x5)] [(.int x4), (.ref a)])) rfl rfl (hb hby d4_22)
  have f39 : Fld Z h38 a "com/example/needlework/needlework/PackedBlock" "lastOffset" "I" (.int x4) := Fld.same W38 f28
  have N38 := Fr.snoc X38 N26 G1
  have f40 := Fld.other W38 f29 (Or.inr (slot_ne (Or.inr (hw _ (List.mem_of_getElem? (i := 33) rfl))) (Or.inr (hw _ (List.mem_of_getElem? (i := 31) rfl))) (by decide) (t := .int) (t' := .int) (by decide) (by decide)))
  have f41 := Fld.other W38 f30 (Or.inr (slot_ne (Or.inl (hw _ (List.mem_of_getElem? (i := 36) rfl))) (Or.inr (hw _ (List.mem_of_getElem? (i := 31) rfl))) (by decide) (t := (.object "java/lang/Object")) (t' := .int) (by decide) (by decide)))
  have f42 := Fld.other W38 f31 (Or.inr (slot_ne (Or.inl (hw _ (List.mem_of_getElem? (i := 39) rfl))) (Or.inr (hw _ (List.mem_of_getElem? (i := 31) rfl))) (by decide) (t := (.object "java/lang/Object")) (t' := .int) (by decide) (by decide)))
  have f43 := Fld.other W38 f32 (Or.inr (slot_ne (Or.inl (hw _ (List.mem_of_getElem? (i := 42) rfl))) (Or.inr (hw _ (List.mem_of_getElem? (i := 31) rfl))) (by decide) (t := (.object "java/lang/Object")) (t' := .int) (by decide) (by decide)))
  have f44 := Exa.wr W38 f33
  have f45 := Fld.other W38 f34 (Or.inr (slot_ne (Or.inr (hw _ (List.mem_of_getElem? (i := 25) rfl))) (Or.inr (hw _ (List.mem_of_getElem? (i := 31) rfl))) (by decide) (t := .int) (t' := .int) (by decide) (by decide)))
  have f46 := Fld.other W38 f35 (Or.inr (slot_ne (Or.inr (hw _ (List.mem_of_getElem? (i := 27) rfl))) (Or.inr (hw _ (List.mem_of_getElem? (i := 31) rfl))) (by decide) (t := .int) (t' := .int) (by decide) (by decide)))
  have f47 := Fld.other W38 f27 (Or.inr (slot_ne (Or.inr (hw _ (List.mem_of_getElem? (i := 29) rfl))) (Or.inr (hw _ (List.mem_of_getElem? (i := 31) rfl))) (by decide) (t := .int) (t' := .int) (by decide) (by decide)))
  have Z48 : n0 ≤ h38.size := Nat.le_trans Z36 (Keep.of_wr W38).1
  have K49 := K37.wr W38 (Or.inl (List.mem_of_getElem? (i := 0) rfl))
  refine Go.movp st38 (mkF m 25 #[.val (.ref a), .val (.int x1), .val (.int x2), .val (.int x3), .val (.int x4), .val (.int x5)] []) rfl ?_
  refine g_aloadN X38 hx (hb hby d4_25) (pc' := 26) rfl rfl rfl ?_
  refine g_iload X38 hx (hb hby d4_26) (pc' := 28) rfl rfl ?_
  obtain ⟨T50, h50, X50, e50, W50, st50⟩ := putF X38 hx hZ hown (host := "") (Or.inl (hw _ (List.mem_of_getElem? (i := 32) rfl))) Via.refl e38 f40 f44 (Or.inr ⟨(hw _ (List.mem_of_getElem? (i := 33) rfl)), rfl, hnm⟩) (hw _ (List.mem_of_getElem? (i := 11) rfl)) (ty := .int) (by decide) rfl rfl (g := (mkF m 28 #[.val (.ref a), .val (.int x1), .val (.int x2), .val (.int x3), .val (.int x4), .val (.int x5)] [(.int x5), (.ref a)])) rfl rfl (hb hby d4_28)
  have f51 : Fld Z h50 a "com/example/needlework/needlework/PackedBlock" "middleOffset" "I" (.int x5) := Fld.same W50 f40
  have N50 := Fr.snoc X50 N38 G1
  have f52 := Fld.other W50 f41 (Or.inr (slot_ne (Or.inl (hw _ (List.mem_of_getElem? (i := 36) rfl))) (Or.inr (hw _ (List.mem_of_getElem? (i := 33) rfl))) (by decide) (t := (.object "java/lang/Object")) (t' := .int) (by decide) (by decide)))
  have f53 := Fld.other W50 f42 (Or.inr (slot_ne (Or.inl (hw _ (List.mem_of_getElem? (i := 39) rfl))) (Or.inr (hw _ (List.mem_of_getElem? (i := 33) rfl))) (by decide) (t := (.object "java/lang/Object")) (t' := .int) (by decide) (by decide)))
  have f54 := Fld.other W50 f43 (Or.inr (slot_ne (Or.inl (hw _ (List.mem_of_getElem? (i := 42) rfl))) (Or.inr (hw _ (List.mem_of_getElem? (i := 33) rfl))) (by decide) (t := (.object "java/lang/Object")) (t' := .int) (by decide) (by decide)))
  have f55 := Exa.wr W50 f44
  have f56 := Fld.other W50 f45 (Or.inr (slot_ne (Or.inr (hw _ (List.mem_of_getElem? (i := 25) rfl))) (Or.inr (hw _ (List.mem_of_getElem? (i := 33) rfl))) (by decide) (t := .int) (t' := .int) (by decide) (by decide)))
  have f57 := Fld.other W50 f46 (Or.inr (slot_ne (Or.inr (hw _ (List.mem_of_getElem? (i := 27) rfl))) (Or.inr (hw _ (List.mem_of_getElem? (i := 33) rfl))) (by decide) (t := .int) (t' := .int) (by decide) (by decide)))
  have f58 := Fld.other W50 f47 (Or.inr (slot_ne (Or.inr (hw _ (List.mem_of_getElem? (i := 29) rfl))) (Or.inr (hw _ (List.mem_of_getElem? (i := 33) rfl))) (by decide) (t := .int) (t' := .int) (by decide) (by decide)))
  have f59 := Fld.other W50 f39 (Or.inr (slot_ne (Or.inr (hw _ (List.mem_of_getElem? (i := 31) rfl))) (Or.inr (hw _ (List.mem_of_getElem? (i := 33) rfl))) (by decide) (t := .int) (t' := .int) (by decide) (by decide)))
  have Z60 : n0 ≤ h50.size := Nat.le_trans Z48 (Keep.of_wr W50).1
  have K61 := K49.wr W50 (Or.inl (List.mem_of_getElem? (i := 0) rfl))
  refine Go.movp st50 (mkF m 31 #[.val (.ref a), .val (.int x1), .val (.int x2), .val (.int x3), .val (.int x4), .val (.int x5)] []) rfl ?_
  exact g_return X50 hx hret (hb hby d4_31) N50 hlk (fun v t => endF (by decide) (by decide) v) (by rw [e50]; exact ⟨rfl, K61, f55, f56, f57, f58, f59, f51, f52, f53, f54⟩)
theorem pd__IIIII_V : parseMethodDescriptor "(IIIII)V" = some ⟨[.int, .int, .int, .int, .int], none⟩ := by decide +kernel
theorem d3_0 : decode prog_18_method_1_code 0 = .ok (.aload_n 0, 1) := by decide +kernel
theorem d3_1 : decode prog_18_method_1_code 1 = .ok (.iload_n 1, 1) := by decide +kernel
theorem d3_2 : decode prog_18_method_1_code 2 = .ok (.iload_n 2, 1) := by decide +kernel
theorem d3_3 : decode prog_18_method_1_code 3 = .ok (.iload_n 3, 1) := by decide +kernel
theorem d3_4 : decode prog_18_method_1_code 4 = .ok (.iload 4, 2) := by decide +kernel
theorem d3_6 : decode prog_18_method_1_code 6 = .ok (.iload 5, 2) := by decide +kernel
theorem d3_8 : decode prog_18_method_1_code 8 = .ok (.invokespecial 3, 3) := by decide +kernel
theorem d3_11 : decode prog_18_method_1_code 11 = .ok (.return_, 1) := by decide +kernel
theorem pn_3 : plainName "com/example/needlework/needlework/PackedBlock$Chars" = true := by first | (simp [plainName, overriddenIn]; done) | decide +kernel
theorem ef_3 (x0 : Addr) (x1 : Int32) (x2 : Int32) (x3 : Int32) (x4 : Int32) (x5 : Int32) (m : MethodId) : entryFrame m #[(.ref x0), (.int x1), (.int x2), (.int x3), (.int x4), (.int x5)] 6 = mkF m 0 #[.val (.ref x0), .val (.int x1), .val (.int x2), .val (.int x3), .val (.int x4), .val (.int x5)] [] := by first | (simp [entryFrame, mkF, argsToLocals, Value.category]; done) | rfl
def Q3 (Z : State) (a : Addr) (x1 : Int32) (x2 : Int32) (x3 : Int32) (x4 : Int32) (x5 : Int32) (h0 : Heap) (n0 : Nat) : Option Value → Heap → Prop := fun v h => v = none ∧ Keep h0 h [a] ∧ Exa Z h a "com/example/needlework/needlework/PackedBlock$Chars" ∧ Fld Z h a "com/example/needlework/needlework/PackedBlock" "first" "I" (.int x1) ∧ Fld Z h a "com/example/needlework/needlework/PackedBlock" "last" "I" (.int x2) ∧ Fld Z h a "com/example/needlework/needlework/PackedBlock" "middle" "I" (.int x3) ∧ Fld Z h a "com/example/needlework/needlework/PackedBlock" "lastOffset" "I" (.int x4) ∧ Fld Z h a "com/example/needlework/needlework/PackedBlock" "middleOffset" "I" (.int x5) ∧ Fld Z h a "com/example/needlework/needlework/PackedBlock" "units" "Ljava/lang/Object;" .null ∧ Fld Z h a "com/example/needlework/needlework/PackedBlock" "lasts" "Ljava/lang/Object;" .null ∧ Fld Z h a "com/example/needlework/needlework/PackedBlock" "middles" "Ljava/lang/Object;" .null
set_option maxRecDepth 65536 in
set_option maxHeartbeats 40000000 in
theorem rm3 (l : Launch) (Z : State) (a0 : Array Value) (hw : ∀ d ∈ tables_1, d.before a0 Z = true) (a : Addr) (x1 : Int32) (x2 : Int32) (x3 : Int32) (x4 : Int32) (x5 : Int32) (h0 : Heap) (n0 : Nat) (Z0 : n0 ≤ h0.size) (F_first : Fld Z h0 a "com/example/needlework/needlework/PackedBlock" "first" "I" (.int (0 : Int32))) (F_last : Fld Z h0 a "com/example/needlework/needlework/PackedBlock" "last" "I" (.int (0 : Int32))) (F_middle : Fld Z h0 a "com/example/needlework/needlework/PackedBlock" "middle" "I" (.int (0 : Int32))) (F_lastOffset : Fld Z h0 a "com/example/needlework/needlework/PackedBlock" "lastOffset" "I" (.int (0 : Int32))) (F_middleOffset : Fld Z h0 a "com/example/needlework/needlework/PackedBlock" "middleOffset" "I" (.int (0 : Int32))) (F_units : Fld Z h0 a "com/example/needlework/needlework/PackedBlock" "units" "Ljava/lang/Object;" .null) (F_lasts : Fld Z h0 a "com/example/needlework/needlework/PackedBlock" "lasts" "Ljava/lang/Object;" .null) (F_middles : Fld Z h0 a "com/example/needlework/needlework/PackedBlock" "middles" "Ljava/lang/Object;" .null) (E1 : Exa Z h0 a "com/example/needlework/needlework/PackedBlock$Chars") (G1 : n0 ≤ a) : Ctr l Z (⟨"com/example/needlework/needlework/PackedBlock$Chars", "<init>", "(CCCII)V"⟩ : MethodName) prog_18_method_1_code 6 none ({ frames := 2, cells := 0, slots := 0, locals := 29 } : Room) #[(.ref a), (.int x1), (.int x2), (.int x3), (.int x4), (.int x5)] h0 n0 (Q3 Z a x1 x2 x3 x4 x5 h0 n0) := by
  refine Ctr.of (plainFor_of_name pn_3) (ef_3 a x1 x2 x3 x4 x5) ?_
  intro p e s m below meth c T0 hx hby hml hown hnm hret hlk hZ X0 e0
  have N0 := Fr.nil n0
  refine g_aloadN X0 hx (hb hby d3_0) (pc' := 1) rfl rfl rfl ?_
  refine g_iloadN X0 hx (hb hby d3_1) (pc' := 2) rfl rfl ?_
  refine g_iloadN X0 hx (hb hby d3_2) (pc' := 3) rfl rfl ?_
  refine g_iloadN X0 hx (hb hby d3_3) (pc' := 4) rfl rfl ?_
  refine g_iload X0 hx (hb hby d3_4) (pc' := 6) rfl rfl ?_
  refine g_iload X0 hx (hb hby d3_6) (pc' := 8) rfl rfl ?_
  obtain ⟨v62, T62, h62, L62, X62, e62, N62, q62, st62⟩ := h_specialN (a := a) X0 hx (W := 0) (Ls := #[.val (.ref a), .val (.int x1), .val (.int x2), .val (.int x3), .val (.int x4), .val (.int x5)]) (argsL := [(.int x1), (.int x2), (.int x3), (.int x4), (.int x5)]) (rest := []) hZ e0 N0 hml hown rfl (rm4 l Z a0 hw a x1 x2 x3 x4 x5 h0 n0 Z0 F_first F_last F_middle F_lastOffset F_middleOffset F_units F_lasts F_middles E1 G1) (hw _ (List.mem_of_getElem? (i := 16) rfl)) (hw _ (List.mem_of_getElem? (i := 17) rfl)) (hw _ (List.mem_of_getElem? (i := 19) rfl)) (hw _ (List.mem_of_getElem? (i := 20) rfl)) (by decide) pd__IIIII_V rfl rfl (hb hby d3_8) rfl (by decide) (by decide) (by decide) (by decide)
  obtain ⟨rfl, K62, A62, C0_62, C1_62, C2_62, C3_62, C4_62, C5_62, C6_62, C7_62⟩ := q62
  have f63 := E1.keep K62
  have Z64 : n0 ≤ h62.size := Nat.le_trans Z0 K62.1
  have K65 := (Keep.refl h0 [a]).trans K62 (allS (Or.inl (List.mem_of_getElem? (i := 0) rfl)) all0)
  refine Go.movp st62 (mkF m 11 #[.val (.ref a), .val (.int x1), .val (.int x2), .val (.int x3), .val (.int x4), .val (.int x5)] []) rfl ?_
  exact g_return X62 hx hret (hb hby d3_11) N62 hlk (fun v t => endF (by decide) (by decide) v) (by rw [e62]; exact ⟨rfl, K65, A62, C0_62, C1_62, C2_62, C3_62, C4_62, C5_62, C6_62, C7_62⟩)
theorem d6_0 : decode prog_18_method_4_code 0 = .ok (.aload_n 0, 1) := by decide +kernel
theorem d6_1 : decode prog_18_method_4_code 1 = .ok (.getfield 7, 3) := by decide +kernel
theorem d6_4 : decode prog_18_method_4_code 4 = .ok (.checkcast 13, 3) := by decide +kernel
theorem d6_7 : decode prog_18_method_4_code 7 = .ok (.astore_n 2, 1) := by decide +kernel
theorem d6_8 : decode prog_18_method_4_code 8 = .ok (.aload_n 0, 1) := by decide +kernel
theorem d6_9 : decode prog_18_method_4_code 9 = .ok (.getfield 50, 3) := by decide +kernel
theorem d6_12 : decode prog_18_method_4_code 12 = .ok (.checkcast 13, 3) := by decide +kernel
theorem d6_15 : decode prog_18_method_4_code 15 = .ok (.astore_n 3, 1) := by decide +kernel
theorem d6_16 : decode prog_18_method_4_code 16 = .ok (.aload_n 0, 1) := by decide +kernel
theorem d6_17 : decode prog_18_method_4_code 17 = .ok (.getfield 53, 3) := by decide +kernel
theorem d6_20 : decode prog_18_method_4_code 20 = .ok (.checkcast 13, 3) := by decide +kernel
theorem d6_23 : decode prog_18_method_4_code 23 = .ok (.astore 4, 2) := by decide +kernel
theorem d6_25 : decode prog_18_method_4_code 25 = .ok (.aload_n 0, 1) := by decide +kernel
theorem d6_26 : decode prog_18_method_4_code 26 = .ok (.getfield 56, 3) := by decide +kernel
theorem d6_29 : decode prog_18_method_4_code 29 = .ok (.istore 5, 2) := by decide +kernel
theorem d6_31 : decode prog_18_method_4_code 31 = .ok (.aload_n 0, 1) := by decide +kernel
theorem d6_32 : decode prog_18_method_4_code 32 = .ok (.getfield 60, 3) := by decide +kernel
theorem d6_35 : decode prog_18_method_4_code 35 = .ok (.istore 6, 2) := by decide +kernel
theorem d6_37 : decode prog_18_method_4_code 37 = .ok (.aload_n 0, 1) := by decide +kernel
theorem d6_38 : decode prog_18_method_4_code 38 = .ok (.getfield 63, 3) := by decide +kernel
theorem d6_41 : decode prog_18_method_4_code 41 = .ok (.istore 7, 2) := by decide +kernel
theorem d6_43 : decode prog_18_method_4_code 43 = .ok (.iconst 0, 1) := by decide +kernel
theorem d6_44 : decode prog_18_method_4_code 44 = .ok (.istore 8, 2) := by decide +kernel
theorem d6_46 : decode prog_18_method_4_code 46 = .ok (.iload 8, 2) := by decide +kernel
theorem d6_48 : decode prog_18_method_4_code 48 = .ok (.iload_n 1, 1) := by decide +kernel
theorem d6_49 : decode prog_18_method_4_code 49 = .ok (.if_icmp .ge 52, 3) := by decide +kernel
theorem d6_52 : decode prog_18_method_4_code 52 = .ok (.aload_n 2, 1) := by decide +kernel
theorem d6_53 : decode prog_18_method_4_code 53 = .ok (.iload 8, 2) := by decide +kernel
theorem d6_55 : decode prog_18_method_4_code 55 = .ok (.caload, 1) := by decide +kernel
theorem d6_56 : decode prog_18_method_4_code 56 = .ok (.iload 5, 2) := by decide +kernel
theorem d6_58 : decode prog_18_method_4_code 58 = .ok (.ixor, 1) := by decide +kernel
theorem d6_59 : decode prog_18_method_4_code 59 = .ok (.aload_n 3, 1) := by decide +kernel
theorem d6_60 : decode prog_18_method_4_code 60 = .ok (.iload 8, 2) := by decide +kernel
theorem d6_62 : decode prog_18_method_4_code 62 = .ok (.caload, 1) := by decide +kernel
theorem d6_63 : decode prog_18_method_4_code 63 = .ok (.iload 6, 2) := by decide +kernel
theorem d6_65 : decode prog_18_method_4_code 65 = .ok (.ixor, 1) := by decide +kernel
theorem d6_66 : decode prog_18_method_4_code 66 = .ok (.ior, 1) := by decide +kernel
theorem d6_67 : decode prog_18_method_4_code 67 = .ok (.aload 4, 2) := by decide +kernel
theorem d6_69 : decode prog_18_method_4_code 69 = .ok (.iload 8, 2) := by decide +kernel
theorem d6_71 : decode prog_18_method_4_code 71 = .ok (.caload, 1) := by decide +kernel
theorem d6_72 : decode prog_18_method_4_code 72 = .ok (.iload 7, 2) := by decide +kernel
theorem d6_74 : decode prog_18_method_4_code 74 = .ok (.ixor, 1) := by decide +kernel
theorem d6_75 : decode prog_18_method_4_code 75 = .ok (.ior, 1) := by decide +kernel
theorem d6_76 : decode prog_18_method_4_code 76 = .ok (.istore 9, 2) := by decide +kernel
theorem d6_78 : decode prog_18_method_4_code 78 = .ok (.aload_n 2, 1) := by decide +kernel
theorem d6_79 : decode prog_18_method_4_code 79 = .ok (.iload 8, 2) := by decide +kernel
theorem d6_81 : decode prog_18_method_4_code 81 = .ok (.iload 9, 2) := by decide +kernel
theorem d6_83 : decode prog_18_method_4_code 83 = .ok (.iconst 1, 1) := by decide +kernel
theorem d6_84 : decode prog_18_method_4_code 84 = .ok (.isub, 1) := by decide +kernel
theorem d6_85 : decode prog_18_method_4_code 85 = .ok (.iload 9, 2) := by decide +kernel
theorem d6_87 : decode prog_18_method_4_code 87 = .ok (.iconst (-1), 1) := by decide +kernel
theorem d6_88 : decode prog_18_method_4_code 88 = .ok (.ixor, 1) := by decide +kernel
theorem d6_89 : decode prog_18_method_4_code 89 = .ok (.iand, 1) := by decide +kernel
theorem d6_90 : decode prog_18_method_4_code 90 = .ok (.ldc 66, 2) := by decide +kernel
theorem d6_92 : decode prog_18_method_4_code 92 = .ok (.iand, 1) := by decide +kernel
theorem d6_93 : decode prog_18_method_4_code 93 = .ok (.i2c, 1) := by decide +kernel
theorem d6_94 : decode prog_18_method_4_code 94 = .ok (.castore, 1) := by decide +kernel
theorem d6_95 : decode prog_18_method_4_code 95 = .ok (.iinc 8 1, 3) := by decide +kernel
theorem d6_98 : decode prog_18_method_4_code 98 = .ok (.goto (-52), 3) := by decide +kernel
theorem d6_101 : decode prog_18_method_4_code 101 = .ok (.return_, 1) := by decide +kernel
theorem ef_6_0 (x0 : Addr) (x1 : Int32) (m : MethodId) : entryFrame m #[(.ref x0), (.int x1)] 10 = mkF m 0 #[.val (.ref x0), .val (.int x1), .unset, .unset, .unset, .unset, .unset, .unset, .unset, .unset] [] := by first | (simp [entryFrame, mkF, argsToLocals, Value.category]; done) | rfl
def Q6_0 (Z : State) (a : Addr) (uA : Addr) (lA : Addr) (mA : Addr) (u0 : Int32) (u1 : Int32) (l0 : Int32) (l1 : Int32) (m0 : Int32) (m1 : Int32) (f : Int32) (la : Int32) (mi : Int32) (n : Int32) (w0 : Int32) (w1 : Int32) (h0 : Heap) (n0 : Nat) : Option Value → Heap → Prop := fun v h => v = none ∧ Keep h0 h [uA] ∧ Va Z h uA .char [(.int w0), (.int w1)]
set_option maxRecDepth 65536 in
set_option maxHeartbeats 40000000 in
theorem rm6_0 (l : Launch) (Z : State) (a0 : Array Value) (hw : ∀ d ∈ tables_1, d.before a0 Z = true) (a : Addr) (uA : Addr) (lA : Addr) (mA : Addr) (u0 : Int32) (u1 : Int32) (l0 : Int32) (l1 : Int32) (m0 : Int32) (m1 : Int32) (f : Int32) (la : Int32) (mi : Int32) (n : Int32) (w0 : Int32) (w1 : Int32) (h0 : Heap) (n0 : Nat) (Z0 : n0 ≤ h0.size) (F_units : Fld Z h0 a "com/example/needlework/needlework/PackedBlock" "units" "Ljava/lang/Object;" (.ref uA)) (F_lasts : Fld Z h0 a "com/example/needlework/needlework/PackedBlock" "lasts" "Ljava/lang/Object;" (.ref lA)) (F_middles : Fld Z h0 a "com/example/needlework/needlework/PackedBlock" "middles" "Ljava/lang/Object;" (.ref mA)) (F_first : Fld Z h0 a "com/example/needlework/needlework/PackedBlock" "first" "I" (.int f)) (F_last : Fld Z h0 a "com/example/needlework/needlework/PackedBlock" "last" "I" (.int la)) (F_middle : Fld Z h0 a "com/example/needlework/needlework/PackedBlock" "middle" "I" (.int mi)) (V_uA : Va Z h0 uA .char [(.int u0), (.int u1)]) (V_lA : Va Z h0 lA .char [(.int l0), (.int l1)]) (V_mA : Va Z h0 mA .char [(.int m0), (.int m1)]) (X_uA : Exa Z h0 uA "[C") (X_lA : Exa Z h0 lA "[C") (X_mA : Exa Z h0 mA "[C") (G1 : n0 ≤ uA) (ne_lA : lA ≠ uA) (ne_mA : mA ≠ uA) (ne_a : a ≠ uA) (hn : n = 0 ∨ n = 1 ∨ n = 2) (hw0 : w0 = (if (0 : Int32) < n then (mkV u0 l0 m0 f la mi) else u0)) (hw1 : w1 = (if (1 : Int32) < n then (mkV u1 l1 m1 f la mi) else u1)) : Ctr l Z (⟨"com/example/needlework/needlework/PackedBlock$Chars", "mark", "(I)V"⟩ : MethodName) prog_18_method_4_code 10 none ({ frames := 0, cells := 0, slots := 0, locals := 0 } : Room) #[(.ref a), (.int n)] h0 n0 (Q6_0 Z a uA lA mA u0 u1 l0 l1 m0 m1 f la mi n w0 w1 h0 n0) := by
  refine Ctr.of (plainFor_of_name pn_3) (ef_6_0 a n) ?_
  intro p e s m below meth c T0 hx hby hml hown hnm hret hlk hZ X0 e0
  have N0 := Fr.nil n0
  rcases hn with rfl | rfl | rfl
  · skip
    have hx0 := hw0.trans (if_neg (by decide))
    have hx1 := hw1.trans (if_neg (by decide))
    refine g_aloadN X0 hx (hb hby d6_0) (pc' := 1) rfl rfl rfl ?_
    obtain ⟨T66, X66, e66, st66⟩ := getF X0 hx hZ hown (host := "") (Or.inl (hw _ (List.mem_of_getElem? (i := 48) rfl))) (Via.of (hw _ (List.mem_of_getElem? (i := 35) rfl))) e0 F_units (g := (mkF m 1 #[.val (.ref a), .val (.int (0 : Int32)), .unset, .unset, .unset, .unset, .unset, .unset, .unset, .unset] [(.ref a)])) rfl rfl (hb hby d6_1)
    refine Go.movp st66 (mkF m 4 #[.val (.ref a), .val (.int (0 : Int32)), .unset, .unset, .unset, .unset, .unset, .unset, .unset, .unset] [(.ref uA)]) rfl ?_
    obtain ⟨T67, X67, e67, st67⟩ := castY X66 hx hZ hown (hw _ (List.mem_of_getElem? (i := 49) rfl)) e66 (Ins.self X_uA) (g := (mkF m 4 #[.val (.ref a), .val (.int (0 : Int32)), .unset, .unset, .unset, .unset, .unset, .unset, .unset, .unset] [(.ref uA)])) rfl rfl (hb hby d6_4)
    refine Go.movp st67 (mkF m 7 #[.val (.ref a), .val (.int (0 : Int32)), .unset, .unset, .unset, .unset, .unset, .unset, .unset, .unset] [(.ref uA)]) rfl ?_
    refine g_astoreN X67 hx (hb hby d6_7) (pc' := 8) rfl rfl (Ls' := #[.val (.ref a), .val (.int (0 : Int32)), .val (.ref uA), .unset, .unset, .unset, .unset, .unset, .unset, .unset]) rfl ?_
    refine g_aloadN X67 hx (hb hby d6_8) (pc' := 9) rfl rfl rfl ?_
    obtain ⟨T68, X68, e68, st68⟩ := getF X67 hx hZ hown (host := "") (Or.inl (hw _ (List.mem_of_getElem? (i := 51) rfl))) (Via.of (hw _ (List.mem_of_getElem? (i := 38) rfl))) e67 F_lasts (g := (mkF m 9 #[.val (.ref a), .val (.int (0 : Int32)), .val (.ref uA), .unset, .unset, .unset, .unset, .unset, .unset, .unset] [(.ref a)])) rfl rfl (hb hby d6_9)
    refine Go.movp st68 (mkF m 12 #[.val (.ref a), .val (.int (0 : Int32)), .val (.ref uA), .unset, .unset, .unset, .unset, .unset, .unset, .unset] [(.ref lA)]) rfl ?_
    obtain ⟨T69, X69, e69, st69⟩ := castY X68 hx hZ hown (hw _ (List.mem_of_getElem? (i := 49) rfl)) e68 (Ins.self X_lA) (g := (mkF m 12 #[.val (.ref a), .val (.int (0 : Int32)), .val (.ref uA), .unset, .unset, .unset, .unset, .unset, .unset, .unset] [(.ref lA)])) rfl rfl (hb hby d6_12)
    refine Go.movp st69 (mkF m 15 #[.val (.ref a), .val (.int (0 : Int32)), .val (.ref uA), .unset, .unset, .unset, .unset, .unset, .unset, .unset] [(.ref lA)]) rfl ?_
    refine g_astoreN X69 hx (hb hby d6_15) (pc' := 16) rfl rfl (Ls' := #[.val (.ref a), .val (.int (0 : Int32)), .val (.ref uA), .val (.ref lA), .unset, .unset, .unset, .unset, .unset, .unset]) rfl ?_
    refine g_aloadN X69 hx (hb hby d6_16) (pc' := 17) rfl rfl rfl ?_
    obtain ⟨T70, X70, e70, st70⟩ := getF X69 hx hZ hown (host := "") (Or.inl (hw _ (List.mem_of_getElem? (i := 52) rfl))) (Via.of (hw _ (List.mem_of_getElem? (i := 41) rfl))) e69 F_middles (g := (mkF m 17 #[.val (.ref a), .val (.int (0 : Int32)), .val (.ref uA), .val (.ref lA), .unset, .unset, .unset, .unset, .unset, .unset] [(.ref a)])) rfl rfl (hb hby d6_17)
    refine Go.movp st70 (mkF m 20 #[.val (.ref a), .val (.int (0 : Int32)), .val (.ref uA), .val (.ref lA), .unset, .unset, .unset, .unset, .unset, .unset] [(.ref mA)]) rfl ?_
    obtain ⟨T71, X71, e71, st71⟩ := castY X70 hx hZ hown (hw _ (List.mem_of_getElem? (i := 49) rfl)) e70 (Ins.self X_mA) (g := (mkF m 20 #[.val (.ref a), .val (.int (0 : Int32)), .val (.ref uA), .val (.ref lA), .unset, .unset, .unset, .unset, .unset, .unset] [(.ref mA)])) rfl rfl (hb hby d6_20)
    refine Go.movp st71 (mkF m 23 #[.val (.ref a), .val (.int (0 : Int32)), .val (.ref uA), .val (.ref lA), .unset, .unset, .unset, .unset, .unset, .unset] [(.ref mA)]) rfl ?_
    refine g_astore X71 hx (hb hby d6_23) (pc' := 25) rfl rfl (Ls' := #[.val (.ref a), .val (.int (0 : Int32)), .val (.ref uA), .val (.ref lA), .val (.ref mA), .unset, .unset, .unset, .unset, .unset]) rfl ?_
    refine g_aloadN X71 hx (hb hby d6_25) (pc' := 26) rfl rfl rfl ?_
    obtain ⟨T72, X72, e72, st72⟩ := getF X71 hx hZ hown (host := "") (Or.inl (hw _ (List.mem_of_getElem? (i := 53) rfl))) (Via.of (hw _ (List.mem_of_getElem? (i := 54) rfl))) e71 F_first (g := (mkF m 26 #[.val (.ref a), .val (.int (0 : Int32)), .val (.ref uA), .val (.ref lA), .val (.ref mA), .unset, .unset, .unset, .unset, .unset] [(.ref a)])) rfl rfl (hb hby d6_26)
    refine Go.movp st72 (mkF m 29 #[.val (.ref a), .val (.int (0 : Int32)), .val (.ref uA), .val (.ref lA), .val (.ref mA), .unset, .unset, .unset, .unset, .unset] [(.int f)]) rfl ?_
    refine g_istore X72 hx (hb hby d6_29) (pc' := 31) rfl (Ls' := #[.val (.ref a), .val (.int (0 : Int32)), .val (.ref uA), .val (.ref lA), .val (.ref mA), .val (.int f), .unset, .unset, .unset, .unset]) rfl ?_
    refine g_aloadN X72 hx (hb hby d6_31) (pc' := 32) rfl rfl rfl ?_
    obtain ⟨T73, X73, e73, st73⟩ := getF X72 hx hZ hown (host := "") (Or.inl (hw _ (List.mem_of_getElem? (i := 55) rfl))) (Via.of (hw _ (List.mem_of_getElem? (i := 56) rfl))) e72 F_last (g := (mkF m 32 #[.val (.ref a), .val (.int (0 : Int32)), .val (.ref uA), .val (.ref lA), .val (.ref mA), .val (.int f), .unset, .unset, .unset, .unset] [(.ref a)])) rfl rfl (hb hby d6_32)
    refine Go.movp st73 (mkF m 35 #[.val (.ref a), .val (.int (0 : Int32)), .val (.ref uA), .val (.ref lA), .val (.ref mA), .val (.int f), .unset, .unset, .unset, .unset] [(.int la)]) rfl ?_
    refine g_istore X73 hx (hb hby d6_35) (pc' := 37) rfl (Ls' := #[.val (.ref a), .val (.int (0 : Int32)), .val (.ref uA), .val (.ref lA), .val (.ref mA), .val (.int f), .val (.int la), .unset, .unset, .unset]) rfl ?_
    refine g_aloadN X73 hx (hb hby d6_37) (pc' := 38) rfl rfl rfl ?_
    obtain ⟨T74, X74, e74, st74⟩ := getF X73 hx hZ hown (host := "") (Or.inl (hw _ (List.mem_of_getElem? (i := 57) rfl))) (Via.of (hw _ (List.mem_of_getElem? (i := 58) rfl))) e73 F_middle (g := (mkF m 38 #[.val (.ref a), .val (.int (0 : Int32)), .val (.ref uA), .val (.ref lA), .val (.ref mA), .val (.int f), .val (.int la), .unset, .unset, .unset] [(.ref a)])) rfl rfl (hb hby d6_38)
    refine Go.movp st74 (mkF m 41 #[.val (.ref a), .val (.int (0 : Int32)), .val (.ref uA), .val (.ref lA), .val (.ref mA), .val (.int f), .val (.int la), .unset, .unset, .unset] [(.int mi)]) rfl ?_
    refine g_istore X74 hx (hb hby d6_41) (pc' := 43) rfl (Ls' := #[.val (.ref a), .val (.int (0 : Int32)), .val (.ref uA), .val (.ref lA), .val (.ref mA), .val (.int f), .val (.int la), .val (.int mi), .unset, .unset]) rfl ?_
    refine g_iconst X74 hx (hb hby d6_43) (pc' := 44) rfl (z := (0 : Int32)) rfl ?_
    refine g_istore X74 hx (hb hby d6_44) (pc' := 46) rfl (Ls' := #[.val (.ref a), .val (.int (0 : Int32)), .val (.ref uA), .val (.ref lA), .val (.ref mA), .val (.int f), .val (.int la), .val (.int mi), .val (.int (0 : Int32)), .unset]) rfl ?_
    refine g_iload X74 hx (hb hby d6_46) (pc' := 48) rfl rfl ?_
    refine g_iloadN X74 hx (hb hby d6_48) (pc' := 49) rfl rfl ?_
    refine g_icmp_ge X74 hx (hb hby d6_49) (pc1 := 52) rfl (by decide) (pc2 := 101) (by decide) (fun hc49 => ?_) (fun hc49 => absurd hc49 (by decide))
    exact g_return X74 hx hret (hb hby d6_101) N0 hlk (fun v t => endF (by decide) (by decide) v) (by rw [e74]; exact ⟨rfl, (Keep.refl h0 [uA]), Va.eq V_uA (by rw [hx0, hx1])⟩)
  · skip
    have hx0 := hw0.trans (if_pos (by decide))
    have hx1 := hw1.trans (if_neg (by decide))
    refine g_aloadN X0 hx (hb hby d6_0) (pc' := 1) rfl rfl rfl ?_
    obtain ⟨T75, X75, e75, st75⟩ := getF X0 hx hZ hown (host := "") (Or.inl (hw _ (List.mem_of_getElem? (i := 48) rfl))) (Via.of (hw _ (List.mem_of_getElem? (i := 35) rfl))) e0 F_units (g := (mkF m 1 #[.val (.ref a), .val (.int (1 : Int32)), .unset, .unset, .unset, .unset, .unset, .unset, .unset, .unset] [(.ref a)])) rfl rfl (hb hby d6_1)
    refine Go.movp st75 (mkF m 4 #[.val (.ref a), .val (.int (1 : Int32)), .unset, .unset, .unset, .unset, .unset, .unset, .unset, .unset] [(.ref uA)]) rfl ?_
    obtain ⟨T76, X76, e76, st76⟩ := castY X75 hx hZ hown (hw _ (List.mem_of_getElem? (i := 49) rfl)) e75 (Ins.self X_uA) (g := (mkF m 4 #[.val (.ref a), .val (.int (1 : Int32)), .unset, .unset, .unset, .unset, .unset, .unset, .unset, .unset] [(.ref uA)])) rfl rfl (hb hby d6_4)
    refine Go.movp st76 (mkF m 7 #[.val (.ref a), .val (.int (1 : Int32)), .unset, .unset, .unset, .unset, .unset, .unset, .unset, .unset] [(.ref uA)]) rfl ?_
    refine g_astoreN X76 hx (hb hby d6_7) (pc' := 8) rfl rfl (Ls' := #[.val (.ref a), .val (.int (1 : Int32)), .val (.ref uA), .unset, .unset, .unset, .unset, .unset, .unset, .unset]) rfl ?_
    refine g_aloadN X76 hx (hb hby d6_8) (pc' := 9) rfl rfl rfl ?_
    obtain ⟨T77, X77, e77, st77⟩ := getF X76 hx hZ hown (host := "") (Or.inl (hw _ (List.mem_of_getElem? (i := 51) rfl))) (Via.of (hw _ (List.mem_of_getElem? (i := 38) rfl))) e76 F_lasts (g := (mkF m 9 #[.val (.ref a), .val (.int (1 : Int32)), .val (.ref uA), .unset, .unset, .unset, .unset, .unset, .unset, .unset] [(.ref a)])) rfl rfl (hb hby d6_9)
    refine Go.movp st77 (mkF m 12 #[.val (.ref a), .val (.int (1 : Int32)), .val (.ref uA), .unset, .unset, .unset, .unset, .unset, .unset, .unset] [(.ref lA)]) rfl ?_
    obtain ⟨T78, X78, e78, st78⟩ := castY X77 hx hZ hown (hw _ (List.mem_of_getElem? (i := 49) rfl)) e77 (Ins.self X_lA) (g := (mkF m 12 #[.val (.ref a), .val (.int (1 : Int32)), .val (.ref uA), .unset, .unset, .unset, .unset, .unset, .unset, .unset] [(.ref lA)])) rfl rfl (hb hby d6_12)
    refine Go.movp st78 (mkF m 15 #[.val (.ref a), .val (.int (1 : Int32)), .val (.ref uA), .unset, .unset, .unset, .unset, .unset, .unset, .unset] [(.ref lA)]) rfl ?_
    refine g_astoreN X78 hx (hb hby d6_15) (pc' := 16) rfl rfl (Ls' := #[.val (.ref a), .val (.int (1 : Int32)), .val (.ref uA), .val (.ref lA), .unset, .unset, .unset, .unset, .unset, .unset]) rfl ?_
    refine g_aloadN X78 hx (hb hby d6_16) (pc' := 17) rfl rfl rfl ?_
    obtain ⟨T79, X79, e79, st79⟩ := getF X78 hx hZ hown (host := "") (Or.inl (hw _ (List.mem_of_getElem? (i := 52) rfl))) (Via.of (hw _ (List.mem_of_getElem? (i := 41) rfl))) e78 F_middles (g := (mkF m 17 #[.val (.ref a), .val (.int (1 : Int32)), .val (.ref uA), .val (.ref lA), .unset, .unset, .unset, .unset, .unset, .unset] [(.ref a)])) rfl rfl (hb hby d6_17)
    refine Go.movp st79 (mkF m 20 #[.val (.ref a), .val (.int (1 : Int32)), .val (.ref uA), .val (.ref lA), .unset, .unset, .unset, .unset, .unset, .unset] [(.ref mA)]) rfl ?_
    obtain ⟨T80, X80, e80, st80⟩ := castY X79 hx hZ hown (hw _ (List.mem_of_getElem? (i := 49) rfl)) e79 (Ins.self X_mA) (g := (mkF m 20 #[.val (.ref a), .val (.int (1 : Int32)), .val (.ref uA), .val (.ref lA), .unset, .unset, .unset, .unset, .unset, .unset] [(.ref mA)])) rfl rfl (hb hby d6_20)
    refine Go.movp st80 (mkF m 23 #[.val (.ref a), .val (.int (1 : Int32)), .val (.ref uA), .val (.ref lA), .unset, .unset, .unset, .unset, .unset, .unset] [(.ref mA)]) rfl ?_
    refine g_astore X80 hx (hb hby d6_23) (pc' := 25) rfl rfl (Ls' := #[.val (.ref a), .val (.int (1 : Int32)), .val (.ref uA), .val (.ref lA), .val (.ref mA), .unset, .unset, .unset, .unset, .unset]) rfl ?_
    refine g_aloadN X80 hx (hb hby d6_25) (pc' := 26) rfl rfl rfl ?_
    obtain ⟨T81, X81, e81, st81⟩ := getF X80 hx hZ hown (host := "") (Or.inl (hw _ (List.mem_of_getElem? (i := 53) rfl))) (Via.of (hw _ (List.mem_of_getElem? (i := 54) rfl))) e80 F_first (g := (mkF m 26 #[.val (.ref a), .val (.int (1 : Int32)), .val (.ref uA), .val (.ref lA), .val (.ref mA), .unset, .unset, .unset, .unset, .unset] [(.ref a)])) rfl rfl (hb hby d6_26)
    refine Go.movp st81 (mkF m 29 #[.val (.ref a), .val (.int (1 : Int32)), .val (.ref uA), .val (.ref lA), .val (.ref mA), .unset, .unset, .unset, .unset, .unset] [(.int f)]) rfl ?_
    refine g_istore X81 hx (hb hby d6_29) (pc' := 31) rfl (Ls' := #[.val (.ref a), .val (.int (1 : Int32)), .val (.ref uA), .val (.ref lA), .val (.ref mA), .val (.int f), .unset, .unset, .unset, .unset]) rfl ?_
    refine g_aloadN X81 hx (hb hby d6_31) (pc' := 32) rfl rfl rfl ?_
    obtain ⟨T82, X82, e82, st82⟩ := getF X81 hx hZ hown (host := "") (Or.inl (hw _ (List.mem_of_getElem? (i := 55) rfl))) (Via.of (hw _ (List.mem_of_getElem? (i := 56) rfl))) e81 F_last (g := (mkF m 32 #[.val (.ref a), .val (.int (1 : Int32)), .val (.ref uA), .val (.ref lA), .val (.ref mA), .val (.int f), .unset, .unset, .unset, .unset] [(.ref a)])) rfl rfl (hb hby d6_32)
    refine Go.movp st82 (mkF m 35 #[.val (.ref a), .val (.int (1 : Int32)), .val (.ref uA), .val (.ref lA), .val (.ref mA), .val (.int f), .unset, .unset, .unset, .unset] [(.int la)]) rfl ?_
    refine g_istore X82 hx (hb hby d6_35) (pc' := 37) rfl (Ls' := #[.val (.ref a), .val (.int (1 : Int32)), .val (.ref uA), .val (.ref lA), .val (.ref mA), .val (.int f), .val (.int la), .unset, .unset, .unset]) rfl ?_
    refine g_aloadN X82 hx (hb hby d6_37) (pc' := 38) rfl rfl rfl ?_
    obtain ⟨T83, X83, e83, st83⟩ := getF X82 hx hZ hown (host := "") (Or.inl (hw _ (List.mem_of_getElem? (i := 57) rfl))) (Via.of (hw _ (List.mem_of_getElem? (i := 58) rfl))) e82 F_middle (g := (mkF m 38 #[.val (.ref a), .val (.int (1 : Int32)), .val (.ref uA), .val (.ref lA), .val (.ref mA), .val (.int f), .val (.int la), .unset, .unset, .unset] [(.ref a)])) rfl rfl (hb hby d6_38)
    refine Go.movp st83 (mkF m 41 #[.val (.ref a), .val (.int (1 : Int32)), .val (.ref uA), .val (.ref lA), .val (.ref mA), .val (.int f), .val (.int la), .unset, .unset, .unset] [(.int mi)]) rfl ?_
    refine g_istore X83 hx (hb hby d6_41) (pc' := 43) rfl (Ls' := #[.val (.ref a), .val (.int (1 : Int32)), .val (.ref uA), .val (.ref lA), .val (.ref mA), .val (.int f), .val (.int la), .val (.int mi), .unset, .unset]) rfl ?_
    refine g_iconst X83 hx (hb hby d6_43) (pc' := 44) rfl (z := (0 : Int32)) rfl ?_
    refine g_istore X83 hx (hb hby d6_44) (pc' := 46) rfl (Ls' := #[.val (.ref a), .val (.int (1 : Int32)), .val (.ref uA), .val (.ref lA), .val (.ref mA), .val (.int f), .val (.int la), .val (.int mi), .val (.int (0 : Int32)), .unset]) rfl ?_
    refine g_iload X83 hx (hb hby d6_46) (pc' := 48) rfl rfl ?_
    refine g_iloadN X83 hx (hb hby d6_48) (pc' := 49) rfl rfl ?_
    refine g_icmp_ge X83 hx (hb hby d6_49) (pc1 := 52) rfl (by decide) (pc2 := 101) (by decide) (fun hc49 => absurd (by decide) hc49) (fun hc49 => ?_)
    refine g_aloadN X83 hx (hb hby d6_52) (pc' := 53) rfl rfl rfl ?_
    refine g_iload X83 hx (hb hby d6_53) (pc' := 55) rfl rfl ?_
    refine g_caload X83 hx hZ e83 V_uA (i := 0) (v := (.int u0)) (hb hby d6_55) (pc' := 56) rfl (by decide) rfl rfl ?_
    refine g_iload X83 hx (hb hby d6_56) (pc' := 58) rfl rfl ?_
    refine g_ixor X83 hx (hb hby d6_58) (pc' := 59) rfl ?_
    refine g_aloadN X83 hx (hb hby d6_59) (pc' := 60) rfl rfl rfl ?_
    refine g_iload X83 hx (hb hby d6_60) (pc' := 62) rfl rfl ?_
    refine g_caload X83 hx hZ e83 V_lA (i := 0) (v := (.int l0)) (hb hby d6_62) (pc' := 63) rfl (by decide) rfl rfl ?_
    refine g_iload X83 hx (hb hby d6_63) (pc' := 65) rfl rfl ?_
    refine g_ixor X83 hx (hb hby d6_65) (pc' := 66) rfl ?_
    refine g_ior X83 hx (hb hby d6_66) (pc' := 67) rfl ?_
    refine g_aload X83 hx (hb hby d6_67) (pc' := 69) rfl rfl rfl ?_
    refine g_iload X83 hx (hb hby d6_69) (pc' := 71) rfl rfl ?_
    refine g_caload X83 hx hZ e83 V_mA (i := 0) (v := (.int m0)) (hb hby d6_71) (pc' := 72) rfl (by decide) rfl rfl ?_
    refine g_iload X83 hx (hb hby d6_72) (pc' := 74) rfl rfl ?_
    refine g_ixor X83 hx (hb hby d6_74) (pc' := 75) rfl ?_
    refine g_ior X83 hx (hb hby d6_75) (pc' := 76) rfl ?_
    refine Go.cast (show (mkF m 76 #[.val (.ref a), .val (.int (1 : Int32)), .val (.ref uA), .val (.ref lA), .val (.ref mA), .val (.int f), .val (.int la), .val (.int mi), .val (.int (0 : Int32)), .unset] [(.int (((u0 ^^^ f) ||| (l0 ^^^ la)) ||| (m0 ^^^ mi)))]) = (mkF m 76 #[.val (.ref a), .val (.int (1 : Int32)), .val (.ref uA), .val (.ref lA), .val (.ref mA), .val (.int f), .val (.int la), .val (.int mi), .val (.int (0 : Int32)), .unset] [(.int (zV u0 l0 m0 f la mi))]) from by rw [show (((u0 ^^^ f) ||| (l0 ^^^ la)) ||| (m0 ^^^ mi)) = (zV u0 l0 m0 f la mi) from rfl]) ?_
    refine g_istore X83 hx (hb hby d6_76) (pc' := 78) rfl (Ls' := #[.val (.ref a), .val (.int (1 : Int32)), .val (.ref uA), .val (.ref lA), .val (.ref mA), .val (.int f), .val (.int la), .val (.int mi), .val (.int (0 : Int32)), .val (.int (zV u0 l0 m0 f la mi))]) rfl ?_
    refine g_aloadN X83 hx (hb hby d6_78) (pc' := 79) rfl rfl rfl ?_
    refine g_iload X83 hx (hb hby d6_79) (pc' := 81) rfl rfl ?_
    refine g_iload X83 hx (hb hby d6_81) (pc' := 83) rfl rfl ?_
    refine g_iconst X83 hx (hb hby d6_83) (pc' := 84) rfl (z := (1 : Int32)) rfl ?_
    refine g_isub X83 hx (hb hby d6_84) (pc' := 85) rfl ?_
    refine g_iload X83 hx (hb hby d6_85) (pc' := 87) rfl rfl ?_
    refine g_iconst X83 hx (hb hby d6_87) (pc' := 88) rfl (z := (-1 : Int32)) rfl ?_
    refine g_ixor X83 hx (hb hby d6_88) (pc' := 89) rfl ?_
    refine g_iand X83 hx (hb hby d6_89) (pc' := 90) rfl ?_
    refine g_ldc X83 hx hZ hown (hw _ (List.mem_of_getElem? (i := 59) rfl)) (hb hby d6_90) (pc' := 92) rfl ?_
    refine g_iand X83 hx (hb hby d6_92) (pc' := 93) rfl ?_
    refine g_i2c X83 hx (hb hby d6_93) (pc' := 94) rfl ?_
    refine Go.cast (show (mkF m 94 #[.val (.ref a), .val (.int (1 : Int32)), .val (.ref uA), .val (.ref lA), .val (.ref mA), .val (.int f), .val (.int la), .val (.int mi), .val (.int (0 : Int32)), .val (.int (zV u0 l0 m0 f la mi))] [(.int (chr ((((zV u0 l0 m0 f la mi) - (1 : Int32)) &&& ((zV u0 l0 m0 f la mi) ^^^ (-1 : Int32))) &&& (32768 : Int32)))), (.int (0 : Int32)), (.ref uA)]) = (mkF m 94 #[.val (.ref a), .val (.int (1 : Int32)), .val (.ref uA), .val (.ref lA), .val (.ref mA), .val (.int f), .val (.int la), .val (.int mi), .val (.int (0 : Int32)), .val (.int (zV u0 l0 m0 f la mi))] [(.int (mkV u0 l0 m0 f la mi)), (.int (0 : Int32)), (.ref uA)]) from by rw [show (chr ((((zV u0 l0 m0 f la mi) - (1 : Int32)) &&& ((zV u0 l0 m0 f la mi) ^^^ (-1 : Int32))) &&& (32768 : Int32))) = (mkV u0 l0 m0 f la mi) from rfl]) ?_
    obtain ⟨T84, h84, L84, X84, e84, N84, W84, V84, st84⟩ := h_castore X83 hx hZ e83 N0 V_uA G1 (j := (0 : Int32)) (i := 0) (x := (mkV u0 l0 m0 f la mi)) (hb hby d6_94) (by decide) rfl rfl #[.val (.ref a), .val (.int (1 : Int32)), .val (.ref uA), .val (.ref lA), .val (.ref mA), .val (.int f), .val (.int la), .val (.int mi), .val (.int (0 : Int32)), .val (.int (zV u0 l0 m0 f la mi))] []
    have f85 := Fld.other W84 F_units (Or.inl ne_a)
    have f86 := Fld.other W84 F_lasts (Or.inl ne_a)
    have f87 := Fld.other W84 F_middles (Or.inl ne_a)
    have f88 := Fld.other W84 F_first (Or.inl ne_a)
    have f89 := Fld.other W84 F_last (Or.inl ne_a)
    have f90 := Fld.other W84 F_middle (Or.inl ne_a)
    have f91 := Exa.wr W84 X_uA
    have f92 := V_lA.other W84 ne_lA
    have f93 := Exa.wr W84 X_lA
    have f94 := V_mA.other W84 ne_mA
    have f95 := Exa.wr W84 X_mA
    have Z96 : n0 ≤ h84.size := Nat.le_trans Z0 (Keep.of_wr W84).1
    have K97 := (Keep.refl h0 [uA]).wr W84 (Or.inl (List.mem_of_getElem? (i := 0) rfl))
    have f98 : Va Z h84 uA .char [(.int (chr (mkV u0 l0 m0 f la mi))), (.int u1)] := V84
    have f99 : Va Z h84 uA .char [(.int (mkV u0 l0 m0 f la mi)), (.int u1)] := by rw [show (chr (mkV u0 l0 m0 f la mi)) = (mkV u0 l0 m0 f la mi) from chr_chr _] at f98; exact f98
    refine Go.movp st84 (mkF m 95 #[.val (.ref a), .val (.int (1 : Int32)), .val (.ref uA), .val (.ref lA), .val (.ref mA), .val (.int f), .val (.int la), .val (.int mi), .val (.int (0 : Int32)), .val (.int (zV u0 l0 m0 f la mi))] []) rfl ?_
    refine g_iinc X84 hx (hb hby d6_95) (pc' := 98) rfl rfl (z := (1 : Int32)) rfl (Ls' := #[.val (.ref a), .val (.int (1 : Int32)), .val (.ref uA), .val (.ref lA), .val (.ref mA), .val (.int f), .val (.int la), .val (.int mi), .val (.int (1 : Int32)), .val (.int (zV u0 l0 m0 f la mi))]) rfl ?_
    refine g_goto X84 hx (hb hby d6_98) (by decide) (pc' := 46) (by decide) ?_
    refine g_iload X84 hx (hb hby d6_46) (pc' := 48) rfl rfl ?_
    refine g_iloadN X84 hx (hb hby d6_48) (pc' := 49) rfl rfl ?_
    refine g_icmp_ge X84 hx (hb hby d6_49) (pc1 := 52) rfl (by decide) (pc2 := 101) (by decide) (fun hc49_1 => ?_) (fun hc49_1 => absurd hc49_1 (by decide))
    exact g_return X84 hx hret (hb hby d6_101) N84 hlk (fun v t => endF (by decide) (by decide) v) (by rw [e84]; exact ⟨rfl, K97, Va.eq f99 (by rw [hx0, hx1])⟩)
  · skip
    have hx0 := hw0.trans (if_pos (by decide))
    have hx1 := hw1.trans (if_pos (by decide))
    refine g_aloadN X0 hx (hb hby d6_0) (pc' := 1) rfl rfl rfl ?_
    obtain ⟨T100, X100, e100, st100⟩ := getF X0 hx hZ hown (host := "") (Or.inl (hw _ (List.mem_of_getElem? (i := 48) rfl))) (Via.of (hw _ (List.mem_of_getElem? (i := 35) rfl))) e0 F_units (g := (mkF m 1 #[.val (.ref a), .val (.int (2 : Int32)), .unset, .unset, .unset, .unset, .unset, .unset, .unset, .unset] [(.ref a)])) rfl rfl (hb hby d6_1)
    refine Go.movp st100 (mkF m 4 #[.val (.ref a), .val (.int (2 : Int32)), .unset, .unset, .unset, .unset, .unset, .unset, .unset, .unset] [(.ref uA)]) rfl ?_
    obtain ⟨T101, X101, e101, st101⟩ := castY X100 hx hZ hown (hw _ (List.mem_of_getElem? (i := 49) rfl)) e100 (Ins.self X_uA) (g := (mkF m 4 #[.val (.ref a), .val (.int (2 : Int32)), .unset, .unset, .unset, .unset, .unset, .unset, .unset, .unset] [(.ref uA)])) rfl rfl (hb hby d6_4)
    refine Go.movp st101 (mkF m 7 #[.val (.ref a), .val (.int (2 : Int32)), .unset, .unset, .unset, .unset, .unset, .unset, .unset, .unset] [(.ref uA)]) rfl ?_
    refine g_astoreN X101 hx (hb hby d6_7) (pc' := 8) rfl rfl (Ls' := #[.val (.ref a), .val (.int (2 : Int32)), .val (.ref uA), .unset, .unset, .unset, .unset, .unset, .unset, .unset]) rfl ?_
    refine g_aloadN X101 hx (hb hby d6_8) (pc' := 9) rfl rfl rfl ?_
    obtain ⟨T102, X102, e102, st102⟩ := getF X101 hx hZ hown (host := "") (Or.inl (hw _ (List.mem_of_getElem? (i := 51) rfl))) (Via.of (hw _ (List.mem_of_getElem? (i := 38) rfl))) e101 F_lasts (g := (mkF m 9 #[.val (.ref a), .val (.int (2 : Int32)), .val (.ref uA), .unset, .unset, .unset, .unset, .unset, .unset, .unset] [(.ref a)])) rfl rfl (hb hby d6_9)
    refine Go.movp st102 (mkF m 12 #[.val (.ref a), .val (.int (2 : Int32)), .val (.ref uA), .unset, .unset, .unset, .unset, .unset, .unset, .unset] [(.ref lA)]) rfl ?_
    obtain ⟨T103, X103, e103, st103⟩ := castY X102 hx hZ hown (hw _ (List.mem_of_getElem? (i := 49) rfl)) e102 (Ins.self X_lA) (g := (mkF m 12 #[.val (.ref a), .val (.int (2 : Int32)), .val (.ref uA), .unset, .unset, .unset, .unset, .unset, .unset, .unset] [(.ref lA)])) rfl rfl (hb hby d6_12)
    refine Go.movp st103 (mkF m 15 #[.val (.ref a), .val (.int (2 : Int32)), .val (.ref uA), .unset, .unset, .unset, .unset, .unset, .unset, .unset] [(.ref lA)]) rfl ?_
    refine g_astoreN X103 hx (hb hby d6_15) (pc' := 16) rfl rfl (Ls' := #[.val (.ref a), .val (.int (2 : Int32)), .val (.ref uA), .val (.ref lA), .unset, .unset, .unset, .unset, .unset, .unset]) rfl ?_
    refine g_aloadN X103 hx (hb hby d6_16) (pc' := 17) rfl rfl rfl ?_
    obtain ⟨T104, X104, e104, st104⟩ := getF X103 hx hZ hown (host := "") (Or.inl (hw _ (List.mem_of_getElem? (i := 52) rfl))) (Via.of (hw _ (List.mem_of_getElem? (i := 41) rfl))) e103 F_middles (g := (mkF m 17 #[.val (.ref a), .val (.int (2 : Int32)), .val (.ref uA), .val (.ref lA), .unset, .unset, .unset, .unset, .unset, .unset] [(.ref a)])) rfl rfl (hb hby d6_17)
    refine Go.movp st104 (mkF m 20 #[.val (.ref a), .val (.int (2 : Int32)), .val (.ref uA), .val (.ref lA), .unset, .unset, .unset, .unset, .unset, .unset] [(.ref mA)]) rfl ?_
    obtain ⟨T105, X105, e105, st105⟩ := castY X104 hx hZ hown (hw _ (List.mem_of_getElem? (i := 49) rfl)) e104 (Ins.self X_mA) (g := (mkF m 20 #[.val (.ref a), .val (.int (2 : Int32)), .val (.ref uA), .val (.ref lA), .unset, .unset, .unset, .unset, .unset, .unset] [(.ref mA)])) rfl rfl (hb hby d6_20)
    refine Go.movp st105 (mkF m 23 #[.val (.ref a), .val (.int (2 : Int32)), .val (.ref uA), .val (.ref lA), .unset, .unset, .unset, .unset, .unset, .unset] [(.ref mA)]) rfl ?_
    refine g_astore X105 hx (hb hby d6_23) (pc' := 25) rfl rfl (Ls' := #[.val (.ref a), .val (.int (2 : Int32)), .val (.ref uA), .val (.ref lA), .val (.ref mA), .unset, .unset, .unset, .unset, .unset]) rfl ?_
    refine g_aloadN X105 hx (hb hby d6_25) (pc' := 26) rfl rfl rfl ?_
    obtain ⟨T106, X106, e106, st106⟩ := getF X105 hx hZ hown (host := "") (Or.inl (hw _ (List.mem_of_getElem? (i := 53) rfl))) (Via.of (hw _ (List.mem_of_getElem? (i := 54) rfl))) e105 F_first (g := (mkF m 26 #[.val (.ref a), .val (.int (2 : Int32)), .val (.ref uA), .val (.ref lA), .val (.ref mA), .unset, .unset, .unset, .unset, .unset] [(.ref a)])) rfl rfl (hb hby d6_26)
    refine Go.movp st106 (mkF m 29 #[.val (.ref a), .val (.int (2 : Int32)), .val (.ref uA), .val (.ref lA), .val (.ref mA), .unset, .unset, .unset, .unset, .unset] [(.int f)]) rfl ?_
    refine g_istore X106 hx (hb hby d6_29) (pc' := 31) rfl (Ls' := #[.val (.ref a), .val (.int (2 : Int32)), .val (.ref uA), .val (.ref lA), .val (.ref mA), .val (.int f), .unset, .unset, .unset, .unset]) rfl ?_
    refine g_aloadN X106 hx (hb hby d6_31) (pc' := 32) rfl rfl rfl ?_
    obtain ⟨T107, X107, e107, st107⟩ := getF X106 hx hZ hown (host := "") (Or.inl (hw _ (List.mem_of_getElem? (i := 55) rfl))) (Via.of (hw _ (List.mem_of_getElem? (i := 56) rfl))) e106 F_last (g := (mkF m 32 #[.val (.ref a), .val (.int (2 : Int32)), .val (.ref uA), .val (.ref lA), .val (.ref mA), .val (.int f), .unset, .unset, .unset, .unset] [(.ref a)])) rfl rfl (hb hby d6_32)
    refine Go.movp st107 (mkF m 35 #[.val (.ref a), .val (.int (2 : Int32)), .val (.ref uA), .val (.ref lA), .val (.ref mA), .val (.int f), .unset, .unset, .unset, .unset] [(.int la)]) rfl ?_
    refine g_istore X107 hx (hb hby d6_35) (pc' := 37) rfl (Ls' := #[.val (.ref a), .val (.int (2 : Int32)), .val (.ref uA), .val (.ref lA), .val (.ref mA), .val (.int f), .val (.int la), .unset, .unset, .unset]) rfl ?_
    refine g_aloadN X107 hx (hb hby d6_37) (pc' := 38) rfl rfl rfl ?_
    obtain ⟨T108, X108, e108, st108⟩ := getF X107 hx hZ hown (host := "") (Or.inl (hw _ (List.mem_of_getElem? (i := 57) rfl))) (Via.of (hw _ (List.mem_of_getElem? (i := 58) rfl))) e107 F_middle (g := (mkF m 38 #[.val (.ref a), .val (.int (2 : Int32)), .val (.ref uA), .val (.ref lA), .val (.ref mA), .val (.int f), .val (.int la), .unset, .unset, .unset] [(.ref a)])) rfl rfl (hb hby d6_38)
    refine Go.movp st108 (mkF m 41 #[.val (.ref a), .val (.int (2 : Int32)), .val (.ref uA), .val (.ref lA), .val (.ref mA), .val (.int f), .val (.int la), .unset, .unset, .unset] [(.int mi)]) rfl ?_
    refine g_istore X108 hx (hb hby d6_41) (pc' := 43) rfl (Ls' := #[.val (.ref a), .val (.int (2 : Int32)), .val (.ref uA), .val (.ref lA), .val (.ref mA), .val (.int f), .val (.int la), .val (.int mi), .unset, .unset]) rfl ?_
    refine g_iconst X108 hx (hb hby d6_43) (pc' := 44) rfl (z := (0 : Int32)) rfl ?_
    refine g_istore X108 hx (hb hby d6_44) (pc' := 46) rfl (Ls' := #[.val (.ref a), .val (.int (2 : Int32)), .val (.ref uA), .val (.ref lA), .val (.ref mA), .val (.int f), .val (.int la), .val (.int mi), .val (.int (0 : Int32)), .unset]) rfl ?_
    refine g_iload X108 hx (hb hby d6_46) (pc' := 48) rfl rfl ?_
    refine g_iloadN X108 hx (hb hby d6_48) (pc' := 49) rfl rfl ?_
    refine g_icmp_ge X108 hx (hb hby d6_49) (pc1 := 52) rfl (by decide) (pc2 := 101) (by decide) (fun hc49 => absurd (by decide) hc49) (fun hc49 => ?_)
    refine g_aloadN X108 hx (hb hby d6_52) (pc' := 53) rfl rfl rfl ?_
    refine g_iload X108 hx (hb hby d6_53) (pc' := 55) rfl rfl ?_
    refine g_caload X108 hx hZ e108 V_uA (i := 0) (v := (.int u0)) (hb hby d6_55) (pc' := 56) rfl (by decide) rfl rfl ?_
    refine g_iload X108 hx (hb hby d6_56) (pc' := 58) rfl rfl ?_
    refine g_ixor X108 hx (hb hby d6_58) (pc' := 59) rfl ?_
    refine g_aloadN X108 hx (hb hby d6_59) (pc' := 60) rfl rfl rfl ?_
    refine g_iload X108 hx (hb hby d6_60) (pc' := 62) rfl rfl ?_
    refine g_caload X108 hx hZ e108 V_lA (i := 0) (v := (.int l0)) (hb hby d6_62) (pc' := 63) rfl (by decide) rfl rfl ?_
    refine g_iload X108 hx (hb hby d6_63) (pc' := 65) rfl rfl ?_
    refine g_ixor X108 hx (hb hby d6_65) (pc' := 66) rfl ?_
    refine g_ior X108 hx (hb hby d6_66) (pc' := 67) rfl ?_
    refine g_aload X108 hx (hb hby d6_67) (pc' := 69) rfl rfl rfl ?_
    refine g_iload X108 hx (hb hby d6_69) (pc' := 71) rfl rfl ?_
    refine g_caload X108 hx hZ e108 V_mA (i := 0) (v := (.int m0)) (hb hby d6_71) (pc' := 72) rfl (by decide) rfl rfl ?_
    refine g_iload X108 hx (hb hby d6_72) (pc' := 74) rfl rfl ?_
    refine g_ixor X108 hx (hb hby d6_74) (pc' := 75) rfl ?_
    refine g_ior X108 hx (hb hby d6_75) (pc' := 76) rfl ?_
    refine Go.cast (show (mkF m 76 #[.val (.ref a), .val (.int (2 : Int32)), .val (.ref uA), .val (.ref lA), .val (.ref mA), .val (.int f), .val (.int la), .val (.int mi), .val (.int (0 : Int32)), .unset] [(.int (((u0 ^^^ f) ||| (l0 ^^^ la)) ||| (m0 ^^^ mi)))]) = (mkF m 76 #[.val (.ref a), .val (.int (2 : Int32)), .val (.ref uA), .val (.ref lA), .val (.ref mA), .val (.int f), .val (.int la), .val (.int mi), .val (.int (0 : Int32)), .unset] [(.int (zV u0 l0 m0 f la mi))]) from by rw [show (((u0 ^^^ f) ||| (l0 ^^^ la)) ||| (m0 ^^^ mi)) = (zV u0 l0 m0 f la mi) from rfl]) ?_
    refine g_istore X108 hx (hb hby d6_76) (pc' := 78) rfl (Ls' := #[.val (.ref a), .val (.int (2 : Int32)), .val (.ref uA), .val (.ref lA), .val (.ref mA), .val (.int f), .val (.int la), .val (.int mi), .val (.int (0 : Int32)), .val (.int (zV u0 l0 m0 f la mi))]) rfl ?_
    refine g_aloadN X108 hx (hb hby d6_78) (pc' := 79) rfl rfl rfl ?_
    refine g_iload X108 hx (hb hby d6_79) (pc' := 81) rfl rfl ?_
    refine g_iload X108 hx (hb hby d6_81) (pc' := 83) rfl rfl ?_
    refine g_iconst X108 hx (hb hby d6_83) (pc' := 84) rfl (z := (1 : Int32)) rfl ?_
    refine g_isub X108 hx (hb hby d6_84) (pc' := 85) rfl ?_
    refine g_iload X108 hx (hb hby d6_85) (pc' := 87) rfl rfl ?_
    refine g_iconst X108 hx (hb hby d6_87) (pc' := 88) rfl (z := (-1 : Int32)) rfl ?_
    refine g_ixor X108 hx (hb hby d6_88) (pc' := 89) rfl ?_
    refine g_iand X108 hx (hb hby d6_89) (pc' := 90) rfl ?_
    refine g_ldc X108 hx hZ hown (hw _ (List.mem_of_getElem? (i := 59) rfl)) (hb hby d6_90) (pc' := 92) rfl ?_
    refine g_iand X108 hx (hb hby d6_92) (pc' := 93) rfl ?_
    refine g_i2c X108 hx (hb hby d6_93) (pc' := 94) rfl ?_
    refine Go.cast (show (mkF m 94 #[.val (.ref a), .val (.int (2 : Int32)), .val (.ref uA), .val (.ref lA), .val (.ref mA), .val (.int f), .val (.int la), .val (.int mi), .val (.int (0 : Int32)), .val (.int (zV u0 l0 m0 f la mi))] [(.int (chr ((((zV u0 l0 m0 f la mi) - (1 : Int32)) &&& ((zV u0 l0 m0 f la mi) ^^^ (-1 : Int32))) &&& (32768 : Int32)))), (.int (0 : Int32)), (.ref uA)]) = (mkF m 94 #[.val (.ref a), .val (.int (2 : Int32)), .val (.ref uA), .val (.ref lA), .val (.ref mA), .val (.int f), .val (.int la), .val (.int mi), .val (.int (0 : Int32)), .val (.int (zV u0 l0 m0 f la mi))] [(.int (mkV u0 l0 m0 f la mi)), (.int (0 : Int32)), (.ref uA)]) from by rw [show (chr ((((zV u0 l0 m0 f la mi) - (1 : Int32)) &&& ((zV u0 l0 m0 f la mi) ^^^ (-1 : Int32))) &&& (32768 : Int32))) = (mkV u0 l0 m0 f la mi) from rfl]) ?_
    obtain ⟨T109, h109, L109, X109, e109, N109, W109, V109, st109⟩ := h_castore X108 hx hZ e108 N0 V_uA G1 (j := (0 : Int32)) (i := 0) (x := (mkV u0 l0 m0 f la mi)) (hb hby d6_94) (by decide) rfl rfl #[.val (.ref a), .val (.int (2 : Int32)), .val (.ref uA), .val (.ref lA), .val (.ref mA), .val (.int f), .val (.int la), .val (.int mi), .val (.int (0 : Int32)), .val (.int (zV u0 l0 m0 f la mi))] []
    have f110 := Fld.other W109 F_units (Or.inl ne_a)
    have f111 := Fld.other W109 F_lasts (Or.inl ne_a)
    have f112 := Fld.other W109 F_middles (Or.inl ne_a)
    have f113 := Fld.other W109 F_first (Or.inl ne_a)
    have f114 := Fld.other W109 F_last (Or.inl ne_a)
    have f115 := Fld.other W109 F_middle (Or.inl ne_a)
    have f116 := Exa.wr W109 X_uA
    have f117 := V_lA.other W109 ne_lA
    have f118 := Exa.wr W109 X_lA
    have f119 := V_mA.other W109 ne_mA
    have f120 := Exa.wr W109 X_mA
    have Z121 : n0 ≤ h109.size := Nat.le_trans Z0 (Keep.of_wr W109).1
    have K122 := (Keep.refl h0 [uA]).wr W109 (Or.inl (List.mem_of_getElem? (i := 0) rfl))
    have f123 : Va Z h109 uA .char [(.int (chr (mkV u0 l0 m0 f la mi))), (.int u1)] := V109
    have f124 : Va Z h109 uA .char [(.int (mkV u0 l0 m0 f la mi)), (.int u1)] := by rw [show (chr (mkV u0 l0 m0 f la mi)) = (mkV u0 l0 m0 f la mi) from chr_chr _] at f123; exact f123
    refine Go.movp st109 (mkF m 95 #[.val (.ref a), .val (.int (2 : Int32)), .val (.ref uA), .val (.ref lA), .val (.ref mA), .val (.int f), .val (.int la), .val (.int mi), .val (.int (0 : Int32)), .val (.int (zV u0 l0 m0 f la mi))] []) rfl ?_
    refine g_iinc X109 hx (hb hby d6_95) (pc' := 98) rfl rfl (z := (1 : Int32)) rfl (Ls' := #[.val (.ref a), .val (.int (2 : Int32)), .val (.ref uA), .val (.ref lA), .val (.ref mA), .val (.int f), .val (.int la), .val (.int mi), .val (.int (1 : Int32)), .val (.int (zV u0 l0 m0 f la mi))]) rfl ?_
    refine g_goto X109 hx (hb hby d6_98) (by decide) (pc' := 46) (by decide) ?_
    refine g_iload X109 hx (hb hby d6_46) (pc' := 48) rfl rfl ?_
    refine g_iloadN X109 hx (hb hby d6_48) (pc' := 49) rfl rfl ?_
    refine g_icmp_ge X109 hx (hb hby d6_49) (pc1 := 52) rfl (by decide) (pc2 := 101) (by decide) (fun hc49_1 => absurd (by decide) hc49_1) (fun hc49_1 => ?_)
    refine g_aloadN X109 hx (hb hby d6_52) (pc' := 53) rfl rfl rfl ?_
    refine g_iload X109 hx (hb hby d6_53) (pc' := 55) rfl rfl ?_
    refine g_caload X109 hx hZ e109 f124 (i := 1) (v := (.int u1)) (hb hby d6_55) (pc' := 56) rfl (by decide) rfl rfl ?_
    refine g_iload X109 hx (hb hby d6_56) (pc' := 58) rfl rfl ?_
    refine g_ixor X109 hx (hb hby d6_58) (pc' := 59) rfl ?_
    refine g_aloadN X109 hx (hb hby d6_59) (pc' := 60) rfl rfl rfl ?_
    refine g_iload X109 hx (hb hby d6_60) (pc' := 62) rfl rfl ?_
    refine g_caload X109 hx hZ e109 f117 (i := 1) (v := (.int l1)) (hb hby d6_62) (pc' := 63) rfl (by decide) rfl rfl ?_
    refine g_iload X109 hx (hb hby d6_63) (pc' := 65) rfl rfl ?_
    refine g_ixor X109 hx (hb hby d6_65) (pc' := 66) rfl ?_
    refine g_ior X109 hx (hb hby d6_66) (pc' := 67) rfl ?_
    refine g_aload X109 hx (hb hby d6_67) (pc' := 69) rfl rfl rfl ?_
    refine g_iload X109 hx (hb hby d6_69) (pc' := 71) rfl rfl ?_
    refine g_caload X109 hx hZ e109 f119 (i := 1) (v := (.int m1)) (hb hby d6_71) (pc' := 72) rfl (by decide) rfl rfl ?_
    refine g_iload X109 hx (hb hby d6_72) (pc' := 74) rfl rfl ?_
    refine g_ixor X109 hx (hb hby d6_74) (pc' := 75) rfl ?_
    refine g_ior X109 hx (hb hby d6_75) (pc' := 76) rfl ?_
    refine Go.cast (show (mkF m 76 #[.val (.ref a), .val (.int (2 : Int32)), .val (.ref uA), .val (.ref lA), .val (.ref mA), .val (.int f), .val (.int la), .val (.int mi), .val (.int (1 : Int32)), .val (.int (zV u0 l0 m0 f la mi))] [(.int (((u1 ^^^ f) ||| (l1 ^^^ la)) ||| (m1 ^^^ mi)))]) = (mkF m 76 #[.val (.ref a), .val (.int (2 : Int32)), .val (.ref uA), .val (.ref lA), .val (.ref mA), .val (.int f), .val (.int la), .val (.int mi), .val (.int (1 : Int32)), .val (.int (zV u0 l0 m0 f la mi))] [(.int (zV u1 l1 m1 f la mi))]) from by rw [show (((u1 ^^^ f) ||| (l1 ^^^ la)) ||| (m1 ^^^ mi)) = (zV u1 l1 m1 f la mi) from rfl]) ?_
    refine g_istore X109 hx (hb hby d6_76) (pc' := 78) rfl (Ls' := #[.val (.ref a), .val (.int (2 : Int32)), .val (.ref uA), .val (.ref lA), .val (.ref mA), .val (.int f), .val (.int la), .val (.int mi), .val (.int (1 : Int32)), .val (.int (zV u1 l1 m1 f la mi))]) rfl ?_
    refine g_aloadN X109 hx (hb hby d6_78) (pc' := 79) rfl rfl rfl ?_
    refine g_iload X109 hx (hb hby d6_79) (pc' := 81) rfl rfl ?_
    refine g_iload X109 hx (hb hby d6_81) (pc' := 83) rfl rfl ?_
    refine g_iconst X109 hx (hb hby d6_83) (pc' := 84) rfl (z := (1 : Int32)) rfl ?_
    refine g_isub X109 hx (hb hby d6_84) (pc' := 85) rfl ?_
    refine g_iload X109 hx (hb hby d6_85) (pc' := 87) rfl rfl ?_
    refine g_iconst X109 hx (hb hby d6_87) (pc' := 88) rfl (z := (-1 : Int32)) rfl ?_
    refine g_ixor X109 hx (hb hby d6_88) (pc' := 89) rfl ?_
    refine g_iand X109 hx (hb hby d6_89) (pc' := 90) rfl ?_
    refine g_ldc X109 hx hZ hown (hw _ (List.mem_of_getElem? (i := 59) rfl)) (hb hby d6_90) (pc' := 92) rfl ?_
    refine g_iand X109 hx (hb hby d6_92) (pc' := 93) rfl ?_
    refine g_i2c X109 hx (hb hby d6_93) (pc' := 94) rfl ?_
    refine Go.cast (show (mkF m 94 #[.val (.ref a), .val (.int (2 : Int32)), .val (.ref uA), .val (.ref lA), .val (.ref mA), .val (.int f), .val (.int la), .val (.int mi), .val (.int (1 : Int32)), .val (.int (zV u1 l1 m1 f la mi))] [(.int (chr ((((zV u1 l1 m1 f la mi) - (1 : Int32)) &&& ((zV u1 l1 m1 f la mi) ^^^ (-1 : Int32))) &&& (32768 : Int32)))), (.int (1 : Int32)), (.ref uA)]) = (mkF m 94 #[.val (.ref a), .val (.int (2 : Int32)), .val (.ref uA), .val (.ref lA), .val (.ref mA), .val (.int f), .val (.int la), .val (.int mi), .val (.int (1 : Int32)), .val (.int (zV u1 l1 m1 f la mi))] [(.int (mkV u1 l1 m1 f la mi)), (.int (1 : Int32)), (.ref uA)]) from by rw [show (chr ((((zV u1 l1 m1 f la mi) - (1 : Int32)) &&& ((zV u1 l1 m1 f la mi) ^^^ (-1 : Int32))) &&& (32768 : Int32))) = (mkV u1 l1 m1 f la mi) from rfl]) ?_
    obtain ⟨T125, h125, L125, X125, e125, N125, W125, V125, st125⟩ := h_castore X109 hx hZ e109 N109 f124 G1 (j := (1 : Int32)) (i := 1) (x := (mkV u1 l1 m1 f la mi)) (hb hby d6_94) (by decide) rfl rfl #[.val (.ref a), .val (.int (2 : Int32)), .val (.ref uA), .val (.ref lA), .val (.ref mA), .val (.int f), .val (.int la), .val (.int mi), .val (.int (1 : Int32)), .val (.int (zV u1 l1 m1 f la mi))] []
    have f126 := Fld.other W125 f110 (Or.inl ne_a)
    have f127 := Fld.other W125 f111 (Or.inl ne_a)
    have f128 := Fld.other W125 f112 (Or.inl ne_a)
    have f129 := Fld.other W125 f113 (Or.inl ne_a)
    have f130 := Fld.other W125 f114 (Or.inl ne_a)
    have f131 := Fld.other W125 f115 (Or.inl ne_a)
    have f132 := Exa.wr W125 f116
    have f133 := f117.other W125 ne_lA
    have f134 := Exa.wr W125 f118
    have f135 := f119.other W125 ne_mA
    have f136 := Exa.wr W125 f120
    have Z137 : n0 ≤ h125.size := Nat.le_trans Z121 (Keep.of_wr W125).1
    have K138 := K122.wr W125 (Or.inl (List.mem_of_getElem? (i := 0) rfl))
    have f139 : Va Z h125 uA .char [(.int (mkV u0 l0 m0 f la mi)), (.int (chr (mkV u1 l1 m1 f la mi)))] := V125
    have f140 : Va Z h125 uA .char [(.int (mkV u0 l0 m0 f la mi)), (.int (mkV u1 l1 m1 f la mi))] := by rw [show (chr (mkV u1 l1 m1 f la mi)) = (mkV u1 l1 m1 f la mi) from chr_chr _] at f139; exact f139
    refine Go.movp st125 (mkF m 95 #[.val (.ref a), .val (.int (2 : Int32)), .val (.ref uA), .val (.ref lA), .val (.ref mA), .val (.int f), .val (.int la), .val (.int mi), .val (.int (1 : Int32)), .val (.int (zV u1 l1 m1 f la mi))] []) rfl ?_
    refine g_iinc X125 hx (hb hby d6_95) (pc' := 98) rfl rfl (z := (1 : Int32)) rfl (Ls' := #[.val (.ref a), .val (.int (2 : Int32)), .val (.ref uA), .val (.ref lA), .val (.ref mA), .val (.int f), .val (.int la), .val (.int mi), .val (.int (2 : Int32)), .val (.int (zV u1 l1 m1 f la mi))]) rfl ?_
    refine g_goto X125 hx (hb hby d6_98) (by decide) (pc' := 46) (by decide) ?_
    refine g_iload X125 hx (hb hby d6_46) (pc' := 48) rfl rfl ?_
    refine g_iloadN X125 hx (hb hby d6_48) (pc' := 49) rfl rfl ?_
    refine g_icmp_ge X125 hx (hb hby d6_49) (pc1 := 52) rfl (by decide) (pc2 := 101) (by decide) (fun hc49_2 => ?_) (fun hc49_2 => absurd hc49_2 (by decide))
    exact g_return X125 hx hret (hb hby d6_101) N125 hlk (fun v t => endF (by decide) (by decide) v) (by rw [e125]; exact ⟨rfl, K138, Va.eq f140 (by rw [hx0, hx1])⟩)
theorem ef_6_1 (x0 : Addr) (x1 : Int32) (m : MethodId) : entryFrame m #[(.ref x0), (.int x1)] 10 = mkF m 0 #[.val (.ref x0), .val (.int x1), .unset, .unset, .unset, .unset, .unset, .unset, .unset, .unset] [] := by first | (simp [entryFrame, mkF, argsToLocals, Value.category]; done) | rfl
def Q6_1 (Z : State) (a : Addr) (uA : Addr) (u0 : Int32) (u1 : Int32) (f : Int32) (la : Int32) (mi : Int32) (n : Int32) (w0 : Int32) (w1 : Int32) (h0 : Heap) (n0 : Nat) : Option Value → Heap → Prop := fun v h => v = none ∧ Keep h0 h [uA] ∧ Va Z h uA .char [(.int w0), (.int w1)]
set_option maxRecDepth 65536 in
set_option maxHeartbeats 40000000 in
theorem rm6_1 (l : Launch) (Z : State) (a0 : Array Value) (hw : ∀ d ∈ tables_1, d.before a0 Z = true) (a : Addr) (uA : Addr) (u0 : Int32) (u1 : Int32) (f : Int32) (la : Int32) (mi : Int32) (n : Int32) (w0 : Int32) (w1 : Int32) (h0 : Heap) (n0 : Nat) (Z0 : n0 ≤ h0.size) (F_units : Fld Z h0 a "com/example/needlework/needlework/PackedBlock" "units" "Ljava/lang/Object;" (.ref uA)) (F_lasts : Fld Z h0 a "com/example/needlework/needlework/PackedBlock" "lasts" "Ljava/lang/Object;" (.ref uA)) (F_middles : Fld Z h0 a "com/example/needlework/needlework/PackedBlock" "middles" "Ljava/lang/Object;" (.ref uA)) (F_first : Fld Z h0 a "com/example/needlework/needlework/PackedBlock" "first" "I" (.int f)) (F_last : Fld Z h0 a "com/example/needlework/needlework/PackedBlock" "last" "I" (.int la)) (F_middle : Fld Z h0 a "com/example/needlework/needlework/PackedBlock" "middle" "I" (.int mi)) (V_uA : Va Z h0 uA .char [(.int u0), (.int u1)]) (X_uA : Exa Z h0 uA "[C") (G1 : n0 ≤ uA) (ne_a : a ≠ uA) (hn : n = 0 ∨ n = 1 ∨ n = 2) (hw0 : w0 = (if (0 : Int32) < n then (mkV u0 u0 u0 f la mi) else u0)) (hw1 : w1 = (if (1 : Int32) < n then (mkV u1 u1 u1 f la mi) else u1)) : Ctr l Z (⟨"com/example/needlework/needlework/PackedBlock$Chars", "mark", "(I)V"⟩ : MethodName) prog_18_method_4_code 10 none ({ frames := 0, cells := 0, slots := 0, locals := 0 } : Room) #[(.ref a), (.int n)] h0 n0 (Q6_1 Z a uA u0 u1 f la mi n w0 w1 h0 n0) := by
  refine Ctr.of (plainFor_of_name pn_3) (ef_6_1 a n) ?_
  intro p e s m below meth c T0 hx hby hml hown hnm hret hlk hZ X0 e0
  have N0 := Fr.nil n0
  rcases hn with rfl | rfl | rfl
  · skip
    have hx0 := hw0.trans (if_neg (by decide))
    have hx1 := hw1.trans (if_neg (by decide))
    refine g_aloadN X0 hx (hb hby d6_0) (pc' := 1) rfl rfl rfl ?_
    obtain ⟨T141, X141, e141, st141⟩ := getF X0 hx hZ hown (host := "") (Or.inl (hw _ (List.mem_of_getElem? (i := 48) rfl))) (Via.of (hw _ (List.mem_of_getElem? (i := 35) rfl))) e0 F_units (g := (mkF m 1 #[.val (.ref a), .val (.int (0 : Int32)), .unset, .unset, .unset, .unset, .unset, .unset, .unset, .unset] [(.ref a)])) rfl rfl (hb hby d6_1)
    refine Go.movp st141 (mkF m 4 #[.val (.ref a), .val (.int (0 : Int32)), .unset, .unset, .unset, .unset, .unset, .unset, .unset, .unset] [(.ref uA)]) rfl ?_
    obtain ⟨T142, X142, e142, st142⟩ := castY X141 hx hZ hown (hw _ (List.mem_of_getElem? (i := 49) rfl)) e141 (Ins.self X_uA) (g := (mkF m 4 #[.val (.ref a), .val (.int (0 : Int32)), .unset, .unset, .unset, .unset, .unset, .unset, .unset, .unset] [(.ref uA)])) rfl rfl (hb hby d6_4)
    refine Go.movp st142 (mkF m 7 #[.val (.ref a), .val (.int (0 : Int32)), .unset, .unset, .unset, .unset, .unset, .unset, .unset, .unset] [(.ref uA)]) rfl ?_
    refine g_astoreN X142 hx (hb hby d6_7) (pc' := 8) rfl rfl (Ls' := #[.val (.ref a), .val (.int (0 : Int32)), .val (.ref uA), .unset, .unset, .unset, .unset, .unset, .unset, .unset]) rfl ?_
    refine g_aloadN X142 hx (hb hby d6_8) (pc' := 9) rfl rfl rfl ?_
    obtain ⟨T143, X143, e143, st143⟩ := getF X142 hx hZ hown (host := "") (Or.inl (hw _ (List.mem_of_getElem? (i := 51) rfl))) (Via.of (hw _ (List.mem_of_getElem? (i := 38) rfl))) e142 F_lasts (g := (mkF m 9 #[.val (.ref a), .val (.int (0 : Int32)), .val (.ref uA), .unset, .unset, .unset, .unset, .unset, .unset, .unset] [(.ref a)])) rfl rfl (hb hby d6_9)
    refine Go.movp st143 (mkF m 12 #[.val (.ref a), .val (.int (0 : Int32)), .val (.ref uA), .unset, .unset, .unset, .unset, .unset, .unset, .unset] [(.ref uA)]) rfl ?_
    obtain ⟨T144, X144, e144, st144⟩ := castY X143 hx hZ hown (hw _ (List.mem_of_getElem? (i := 49) rfl)) e143 (Ins.self X_uA) (g := (mkF m 12 #[.val (.ref a), .val (.int (0 : Int32)), .val (.ref uA), .unset, .unset, .unset, .unset, .unset, .unset, .unset] [(.ref uA)])) rfl rfl (hb hby d6_12)
    refine Go.movp st144 (mkF m 15 #[.val (.ref a), .val (.int (0 : Int32)), .val (.ref uA), .unset, .unset, .unset, .unset, .unset, .unset, .unset] [(.ref uA)]) rfl ?_
    refine g_astoreN X144 hx (hb hby d6_15) (pc' := 16) rfl rfl (Ls' := #[.val (.ref a), .val (.int (0 : Int32)), .val (.ref uA), .val (.ref uA), .unset, .unset, .unset, .unset, .unset, .unset]) rfl ?_
    refine g_aloadN X144 hx (hb hby d6_16) (pc' := 17) rfl rfl rfl ?_
    obtain ⟨T145, X145, e145, st145⟩ := getF X144 hx hZ hown (host := "") (Or.inl (hw _ (List.mem_of_getElem? (i := 52) rfl))) (Via.of (hw _ (List.mem_of_getElem? (i := 41) rfl))) e144 F_middles (g := (mkF m 17 #[.val (.ref a), .val (.int (0 : Int32)), .val (.ref uA), .val (.ref uA), .unset, .unset, .unset, .unset, .unset, .unset] [(.ref a)])) rfl rfl (hb hby d6_17)
    refine Go.movp st145 (mkF m 20 #[.val (.ref a), .val (.int (0 : Int32)), .val (.ref uA), .val (.ref uA), .unset, .unset, .unset, .unset, .unset, .unset] [(.ref uA)]) rfl ?_
    obtain ⟨T146, X146, e146, st146⟩ := castY X145 hx hZ hown (hw _ (List.mem_of_getElem? (i := 49) rfl)) e145 (Ins.self X_uA) (g := (mkF m 20 #[.val (.ref a), .val (.int (0 : Int32)), .val (.ref uA), .val (.ref uA), .unset, .unset, .unset, .unset, .unset, .unset] [(.ref uA)])) rfl rfl (hb hby d6_20)
    refine Go.movp st146 (mkF m 23 #[.val (.ref a), .val (.int (0 : Int32)), .val (.ref uA), .val (.ref uA), .unset, .unset, .unset, .unset, .unset, .unset] [(.ref uA)]) rfl ?_
    refine g_astore X146 hx (hb hby d6_23) (pc' := 25) rfl rfl (Ls' := #[.val (.ref a), .val (.int (0 : Int32)), .val (.ref uA), .val (.ref uA), .val (.ref uA), .unset, .unset, .unset, .unset, .unset]) rfl ?_
    refine g_aloadN X146 hx (hb hby d6_25) (pc' := 26) rfl rfl rfl ?_
    obtain ⟨T147, X147, e147, st147⟩ := getF X146 hx hZ hown (host := "") (Or.inl (hw _ (List.mem_of_getElem? (i := 53) rfl))) (Via.of (hw _ (List.mem_of_getElem? (i := 54) rfl))) e146 F_first (g := (mkF m 26 #[.val (.ref a), .val (.int (0 : Int32)), .val (.ref uA), .val (.ref uA), .val (.ref uA), .unset, .unset, .unset, .unset, .unset] [(.ref a)])) rfl rfl (hb hby d6_26)
    refine Go.movp st147 (mkF m 29 #[.val (.ref a), .val (.int (0 : Int32)), .val (.ref uA), .val (.ref uA), .val (.ref uA), .unset, .unset, .unset, .unset, .unset] [(.int f)]) rfl ?_
    refine g_istore X147 hx (hb hby d6_29) (pc' := 31) rfl (Ls' := #[.val (.ref a), .val (.int (0 : Int32)), .val (.ref uA), .val (.ref uA), .val (.ref uA), .val (.int f), .unset, .unset, .unset, .unset]) rfl ?_
    refine g_aloadN X147 hx (hb hby d6_31) (pc' := 32) rfl rfl rfl ?_
    obtain ⟨T148, X148, e148, st148⟩ := getF X147 hx hZ hown (host := "") (Or.inl (hw _ (List.mem_of_getElem? (i := 55) rfl))) (Via.of (hw _ (List.mem_of_getElem? (i := 56) rfl))) e147 F_last (g := (mkF m 32 #[.val (.ref a), .val (.int (0 : Int32)), .val (.ref uA), .val (.ref uA), .val (.ref uA), .val (.int f), .unset, .unset, .unset, .unset] [(.ref a)])) rfl rfl (hb hby d6_32)
    refine Go.movp st148 (mkF m 35 #[.val (.ref a), .val (.int (0 : Int32)), .val (.ref uA), .val (.ref uA), .val (.ref uA), .val (.int f), .unset, .unset, .unset, .unset] [(.int la)]) rfl ?_
    refine g_istore X148 hx (hb hby d6_35) (pc' := 37) rfl (Ls' := #[.val (.ref a), .val (.int (0 : Int32)), .val (.ref uA), .val (.ref uA), .val (.ref uA), .val (.int f), .val (.int la), .unset, .unset, .unset]) rfl ?_
    refine g_aloadN X148 hx (hb hby d6_37) (pc' := 38) rfl rfl rfl ?_
    obtain ⟨T149, X149, e149, st149⟩ := getF X148 hx hZ hown (host := "") (Or.inl (hw _ (List.mem_of_getElem? (i := 57) rfl))) (Via.of (hw _ (List.mem_of_getElem? (i := 58) rfl))) e148 F_middle (g := (mkF m 38 #[.val (.ref a), .val (.int (0 : Int32)), .val (.ref uA), .val (.ref uA), .val (.ref uA), .val (.int f), .val (.int la), .unset, .unset, .unset] [(.ref a)])) rfl rfl (hb hby d6_38)
    refine Go.movp st149 (mkF m 41 #[.val (.ref a), .val (.int (0 : Int32)), .val (.ref uA), .val (.ref uA), .val (.ref uA), .val (.int f), .val (.int la), .unset, .unset, .unset] [(.int mi)]) rfl ?_
    refine g_istore X149 hx (hb hby d6_41) (pc' := 43) rfl (Ls' := #[.val (.ref a), .val (.int (0 : Int32)), .val (.ref uA), .val (.ref uA), .val (.ref uA), .val (.int f), .val (.int la), .val (.int mi), .unset, .unset]) rfl ?_
    refine g_iconst X149 hx (hb hby d6_43) (pc' := 44) rfl (z := (0 : Int32)) rfl ?_
    refine g_istore X149 hx (hb hby d6_44) (pc' := 46) rfl (Ls' := #[.val (.ref a), .val (.int (0 : Int32)), .val (.ref uA), .val (.ref uA), .val (.ref uA), .val (.int f), .val (.int la), .val (.int mi), .val (.int (0 : Int32)), .unset]) rfl ?_
    refine g_iload X149 hx (hb hby d6_46) (pc' := 48) rfl rfl ?_
    refine g_iloadN X149 hx (hb hby d6_48) (pc' := 49) rfl rfl ?_
    refine g_icmp_ge X149 hx (hb hby d6_49) (pc1 := 52) rfl (by decide) (pc2 := 101) (by decide) (fun hc49 => ?_) (fun hc49 => absurd hc49 (by decide))
    exact g_return X149 hx hret (hb hby d6_101) N0 hlk (fun v t => endF (by decide) (by decide) v) (by rw [e149]; exact ⟨rfl, (Keep.refl h0 [uA]), Va.eq V_uA (by rw [hx0, hx1])⟩)
  · skip
    have hx0 := hw0.trans (if_pos (by decide))
    have hx1 := hw1.trans (if_neg (by decide))
    refine g_aloadN X0 hx (hb hby d6_0) (pc' := 1) rfl rfl rfl ?_
    obtain ⟨T150, X150, e150, st150⟩ := getF X0 hx hZ hown (host := "") (Or.inl (hw _ (List.mem_of_getElem? (i := 48) rfl))) (Via.of (hw _ (List.mem_of_getElem? (i := 35) rfl))) e0 F_units (g := (mkF m 1 #[.val (.ref a), .val (.int (1 : Int32)), .unset, .unset, .unset, .unset, .unset, .unset, .unset, .unset] [(.ref a)])) rfl rfl (hb hby d6_1)
    refine Go.movp st150 (mkF m 4 #[.val (.ref a), .val (.int (1 : Int32)), .unset, .unset, .unset, .unset, .unset, .unset, .unset, .unset] [(.ref uA)]) rfl ?_
    obtain ⟨T151, X151, e151, st151⟩ := castY X150 hx hZ hown (hw _ (List.mem_of_getElem? (i := 49) rfl)) e150 (Ins.self X_uA) (g := (mkF m 4 #[.val (.ref a), .val (.int (1 : Int32)), .unset, .unset, .unset, .unset, .unset, .unset, .unset, .unset] [(.ref uA)])) rfl rfl (hb hby d6_4)
    refine Go.movp st151 (mkF m 7 #[.val (.ref a), .val (.int (1 : Int32)), .unset, .unset, .unset, .unset, .unset, .unset, .unset, .unset] [(.ref uA)]) rfl ?_
    refine g_astoreN X151 hx (hb hby d6_7) (pc' := 8) rfl rfl (Ls' := #[.val (.ref a), .val (.int (1 : Int32)), .val (.ref uA), .unset, .unset, .unset, .unset, .unset, .unset, .unset]) rfl ?_
    refine g_aloadN X151 hx (hb hby d6_8) (pc' := 9) rfl rfl rfl ?_
    obtain ⟨T152, X152, e152, st152⟩ := getF X151 hx hZ hown (host := "") (Or.inl (hw _ (List.mem_of_getElem? (i := 51) rfl))) (Via.of (hw _ (List.mem_of_getElem? (i := 38) rfl))) e151 F_lasts (g := (mkF m 9 #[.val (.ref a), .val (.int (1 : Int32)), .val (.ref uA), .unset, .unset, .unset, .unset, .unset, .unset, .unset] [(.ref a)])) rfl rfl (hb hby d6_9)
    refine Go.movp st152 (mkF m 12 #[.val (.ref a), .val (.int (1 : Int32)), .val (.ref uA), .unset, .unset, .unset, .unset, .unset, .unset, .unset] [(.ref uA)]) rfl ?_
    obtain ⟨T153, X153, e153, st153⟩ := castY X152 hx hZ hown (hw _ (List.mem_of_getElem? (i := 49) rfl)) e152 (Ins.self X_uA) (g := (mkF m 12 #[.val (.ref a), .val (.int (1 : Int32)), .val (.ref uA), .unset, .unset, .unset, .unset, .unset, .unset, .unset] [(.ref uA)])) rfl rfl (hb hby d6_12)
    refine Go.movp st153 (mkF m 15 #[.val (.ref a), .val (.int (1 : Int32)), .val (.ref uA), .unset, .unset, .unset, .unset, .unset, .unset, .unset] [(.ref uA)]) rfl ?_
    refine g_astoreN X153 hx (hb hby d6_15) (pc' := 16) rfl rfl (Ls' := #[.val (.ref a), .val (.int (1 : Int32)), .val (.ref uA), .val (.ref uA), .unset, .unset, .unset, .unset, .unset, .unset]) rfl ?_
    refine g_aloadN X153 hx (hb hby d6_16) (pc' := 17) rfl rfl rfl ?_
    obtain ⟨T154, X154, e154, st154⟩ := getF X153 hx hZ hown (host := "") (Or.inl (hw _ (List.mem_of_getElem? (i := 52) rfl))) (Via.of (hw _ (List.mem_of_getElem? (i := 41) rfl))) e153 F_middles (g := (mkF m 17 #[.val (.ref a), .val (.int (1 : Int32)), .val (.ref uA), .val (.ref uA), .unset, .unset, .unset, .unset, .unset, .unset] [(.ref a)])) rfl rfl (hb hby d6_17)
    refine Go.movp st154 (mkF m 20 #[.val (.ref a), .val (.int (1 : Int32)), .val (.ref uA), .val (.ref uA), .unset, .unset, .unset, .unset, .unset, .unset] [(.ref uA)]) rfl ?_
    obtain ⟨T155, X155, e155, st155⟩ := castY X154 hx hZ hown (hw _ (List.mem_of_getElem? (i := 49) rfl)) e154 (Ins.self X_uA) (g := (mkF m 20 #[.val (.ref a), .val (.int (1 : Int32)), .val (.ref uA), .val (.ref uA), .unset, .unset, .unset, .unset, .unset, .unset] [(.ref uA)])) rfl rfl (hb hby d6_20)
    refine Go.movp st155 (mkF m 23 #[.val (.ref a), .val (.int (1 : Int32)), .val (.ref uA), .val (.ref uA), .unset, .unset, .unset, .unset, .unset, .unset] [(.ref uA)]) rfl ?_
    refine g_astore X155 hx (hb hby d6_23) (pc' := 25) rfl rfl (Ls' := #[.val (.ref a), .val (.int (1 : Int32)), .val (.ref uA), .val (.ref uA), .val (.ref uA), .unset, .unset, .unset, .unset, .unset]) rfl ?_
    refine g_aloadN X155 hx (hb hby d6_25) (pc' := 26) rfl rfl rfl ?_
    obtain ⟨T156, X156, e156, st156⟩ := getF X155 hx hZ hown (host := "") (Or.inl (hw _ (List.mem_of_getElem? (i := 53) rfl))) (Via.of (hw _ (List.mem_of_getElem? (i := 54) rfl))) e155 F_first (g := (mkF m 26 #[.val (.ref a), .val (.int (1 : Int32)), .val (.ref uA), .val (.ref uA), .val (.ref uA), .unset, .unset, .unset, .unset, .unset] [(.ref a)])) rfl rfl (hb hby d6_26)
    refine Go.movp st156 (mkF m 29 #[.val (.ref a), .val (.int (1 : Int32)), .val (.ref uA), .val (.ref uA), .val (.ref uA), .unset, .unset, .unset, .unset, .unset] [(.int f)]) rfl ?_
    refine g_istore X156 hx (hb hby d6_29) (pc' := 31) rfl (Ls' := #[.val (.ref a), .val (.int (1 : Int32)), .val (.ref uA), .val (.ref uA), .val (.ref uA), .val (.int f), .unset, .unset, .unset, .unset]) rfl ?_
    refine g_aloadN X156 hx (hb hby d6_31) (pc' := 32) rfl rfl rfl ?_
    obtain ⟨T157, X157, e157, st157⟩ := getF X156 hx hZ hown (host := "") (Or.inl (hw _ (List.mem_of_getElem? (i := 55) rfl))) (Via.of (hw _ (List.mem_of_getElem? (i := 56) rfl))) e156 F_last (g := (mkF m 32 #[.val (.ref a), .val (.int (1 : Int32)), .val (.ref uA), .val (.ref uA), .val (.ref uA), .val (.int f), .unset, .unset, .unset, .unset] [(.ref a)])) rfl rfl (hb hby d6_32)
    refine Go.movp st157 (mkF m 35 #[.val (.ref a), .val (.int (1 : Int32)), .val (.ref uA), .val (.ref uA), .val (.ref uA), .val (.int f), .unset, .unset, .unset, .unset] [(.int la)]) rfl ?_
    refine g_istore X157 hx (hb hby d6_35) (pc' := 37) rfl (Ls' := #[.val (.ref a), .val (.int (1 : Int32)), .val (.ref uA), .val (.ref uA), .val (.ref uA), .val (.int f), .val (.int la), .unset, .unset, .unset]) rfl ?_
    refine g_aloadN X157 hx (hb hby d6_37) (pc' := 38) rfl rfl rfl ?_
    obtain ⟨T158, X158, e158, st158⟩ := getF X157 hx hZ hown (host := "") (Or.inl (hw _ (List.mem_of_getElem? (i := 57) rfl))) (Via.of (hw _ (List.mem_of_getElem? (i := 58) rfl))) e157 F_middle (g := (mkF m 38 #[.val (.ref a), .val (.int (1 : Int32)), .val (.ref uA), .val (.ref uA), .val (.ref uA), .val (.int f), .val (.int la), .unset, .unset, .unset] [(.ref a)])) rfl rfl (hb hby d6_38)
    refine Go.movp st158 (mkF m 41 #[.val (.ref a), .val (.int (1 : Int32)), .val (.ref uA), .val (.ref uA), .val (.ref uA), .val (.int f), .val (.int la), .unset, .unset, .unset] [(.int mi)]) rfl ?_
    refine g_istore X158 hx (hb hby d6_41) (pc' := 43) rfl (Ls' := #[.val (.ref a), .val (.int (1 : Int32)), .val (.ref uA), .val (.ref uA), .val (.ref uA), .val (.int f), .val (.int la), .val (.int mi), .unset, .unset]) rfl ?_
    refine g_iconst X158 hx (hb hby d6_43) (pc' := 44) rfl (z := (0 : Int32)) rfl ?_
    refine g_istore X158 hx (hb hby d6_44) (pc' := 46) rfl (Ls' := #[.val (.ref a), .val (.int (1 : Int32)), .val (.ref uA), .val (.ref uA), .val (.ref uA), .val (.int f), .val (.int la), .val (.int mi), .val (.int (0 : Int32)), .unset]) rfl ?_
    refine g_iload X158 hx (hb hby d6_46) (pc' := 48) rfl rfl ?_
    refine g_iloadN X158 hx (hb hby d6_48) (pc' := 49) rfl rfl ?_
    refine g_icmp_ge X158 hx (hb hby d6_49) (pc1 := 52) rfl (by decide) (pc2 := 101) (by decide) (fun hc49 => absurd (by decide) hc49) (fun hc49 => ?_)
    refine g_aloadN X158 hx (hb hby d6_52) (pc' := 53) rfl rfl rfl ?_
    refine g_iload X158 hx (hb hby d6_53) (pc' := 55) rfl rfl ?_
    refine g_caload X158 hx hZ e158 V_uA (i := 0) (v := (.int u0)) (hb hby d6_55) (pc' := 56) rfl (by decide) rfl rfl ?_
    refine g_iload X158 hx (hb hby d6_56) (pc' := 58) rfl rfl ?_
    refine g_ixor X158 hx (hb hby d6_58) (pc' := 59) rfl ?_
    refine g_aloadN X158 hx (hb hby d6_59) (pc' := 60) rfl rfl rfl ?_
    refine g_iload X158 hx (hb hby d6_60) (pc' := 62) rfl rfl ?_
    refine g_caload X158 hx hZ e158 V_uA (i := 0) (v := (.int u0)) (hb hby d6_62) (pc' := 63) rfl (by decide) rfl rfl ?_
    refine g_iload X158 hx (hb hby d6_63) (pc' := 65) rfl rfl ?_
    refine g_ixor X158 hx (hb hby d6_65) (pc' := 66) rfl ?_
    refine g_ior X158 hx (hb hby d6_66) (pc' := 67) rfl ?_
    refine g_aload X158 hx (hb hby d6_67) (pc' := 69) rfl rfl rfl ?_
    refine g_iload X158 hx (hb hby d6_69) (pc' := 71) rfl rfl ?_
    refine g_caload X158 hx hZ e158 V_uA (i := 0) (v := (.int u0)) (hb hby d6_71) (pc' := 72) rfl (by decide) rfl rfl ?_
    refine g_iload X158 hx (hb hby d6_72) (pc' := 74) rfl rfl ?_
    refine g_ixor X158 hx (hb hby d6_74) (pc' := 75) rfl ?_
    refine g_ior X158 hx (hb hby d6_75) (pc' := 76) rfl ?_
    refine Go.cast (show (mkF m 76 #[.val (.ref a), .val (.int (1 : Int32)), .val (.ref uA), .val (.ref uA), .val (.ref uA), .val (.int f), .val (.int la), .val (.int mi), .val (.int (0 : Int32)), .unset] [(.int (((u0 ^^^ f) ||| (u0 ^^^ la)) ||| (u0 ^^^ mi)))]) = (mkF m 76 #[.val (.ref a), .val (.int (1 : Int32)), .val (.ref uA), .val (.ref uA), .val (.ref uA), .val (.int f), .val (.int la), .val (.int mi), .val (.int (0 : Int32)), .unset] [(.int (zV u0 u0 u0 f la mi))]) from by rw [show (((u0 ^^^ f) ||| (u0 ^^^ la)) ||| (u0 ^^^ mi)) = (zV u0 u0 u0 f la mi) from rfl]) ?_
    refine g_istore X158 hx (hb hby d6_76) (pc' := 78) rfl (Ls' := #[.val (.ref a), .val (.int (1 : Int32)), .val (.ref uA), .val (.ref uA), .val (.ref uA), .val (.int f), .val (.int la), .val (.int mi), .val (.int (0 : Int32)), .val (.int (zV u0 u0 u0 f la mi))]) rfl ?_
    refine g_aloadN X158 hx (hb hby d6_78) (pc' := 79) rfl rfl rfl ?_
    refine g_iload X158 hx (hb hby d6_79) (pc' := 81) rfl rfl ?_
    refine g_iload X158 hx (hb hby d6_81) (pc' := 83) rfl rfl ?_
    refine g_iconst X158 hx (hb hby d6_83) (pc' := 84) rfl (z := (1 : Int32)) rfl ?_
    refine g_isub X158 hx (hb hby d6_84) (pc' := 85) rfl ?_
    refine g_iload X158 hx (hb hby d6_85) (pc' := 87) rfl rfl ?_
    refine g_iconst X158 hx (hb hby d6_87) (pc' := 88) rfl (z := (-1 : Int32)) rfl ?_
    refine g_ixor X158 hx (hb hby d6_88) (pc' := 89) rfl ?_
    refine g_iand X158 hx (hb hby d6_89) (pc' := 90) rfl ?_
    refine g_ldc X158 hx hZ hown (hw _ (List.mem_of_getElem? (i := 59) rfl)) (hb hby d6_90) (pc' := 92) rfl ?_
    refine g_iand X158 hx (hb hby d6_92) (pc' := 93) rfl ?_
    refine g_i2c X158 hx (hb hby d6_93) (pc' := 94) rfl ?_
    refine Go.cast (show (mkF m 94 #[.val (.ref a), .val (.int (1 : Int32)), .val (.ref uA), .val (.ref uA), .val (.ref uA), .val (.int f), .val (.int la), .val (.int mi), .val (.int (0 : Int32)), .val (.int (zV u0 u0 u0 f la mi))] [(.int (chr ((((zV u0 u0 u0 f la mi) - (1 : Int32)) &&& ((zV u0 u0 u0 f la mi) ^^^ (-1 : Int32))) &&& (32768 : Int32)))), (.int (0 : Int32)), (.ref uA)]) = (mkF m 94 #[.val (.ref a), .val (.int (1 : Int32)), .val (.ref uA), .val (.ref uA), .val (.ref uA), .val (.int f), .val (.int la), .val (.int mi), .val (.int (0 : Int32)), .val (.int (zV u0 u0 u0 f la mi))] [(.int (mkV u0 u0 u0 f la mi)), (.int (0 : Int32)), (.ref uA)]) from by rw [show (chr ((((zV u0 u0 u0 f la mi) - (1 : Int32)) &&& ((zV u0 u0 u0 f la mi) ^^^ (-1 : Int32))) &&& (32768 : Int32))) = (mkV u0 u0 u0 f la mi) from rfl]) ?_
    obtain ⟨T159, h159, L159, X159, e159, N159, W159, V159, st159⟩ := h_castore X158 hx hZ e158 N0 V_uA G1 (j := (0 : Int32)) (i := 0) (x := (mkV u0 u0 u0 f la mi)) (hb hby d6_94) (by decide) rfl rfl #[.val (.ref a), .val (.int (1 : Int32)), .val (.ref uA), .val (.ref uA), .val (.ref uA), .val (.int f), .val (.int la), .val (.int mi), .val (.int (0 : Int32)), .val (.int (zV u0 u0 u0 f la mi))] []
    have f160 := Fld.other W159 F_units (Or.inl ne_a)
    have f161 := Fld.other W159 F_lasts (Or.inl ne_a)
    have f162 := Fld.other W159 F_middles (Or.inl ne_a)
    have f163 := Fld.other W159 F_first (Or.inl ne_a)
    have f164 := Fld.other W159 F_last (Or.inl ne_a)
    have f165 := Fld.other W159 F_middle (Or.inl ne_a)
    have f166 := Exa.wr W159 X_uA
    have Z167 : n0 ≤ h159.size := Nat.le_trans Z0 (Keep.of_wr W159).1
    have K168 := (Keep.refl h0 [uA]).wr W159 (Or.inl (List.mem_of_getElem? (i := 0) rfl))
    have f169 : Va Z h159 uA .char [(.int (chr (mkV u0 u0 u0 f la mi))), (.int u1)] := V159
    have f170 : Va Z h159 uA .char [(.int (mkV u0 u0 u0 f la mi)), (.int u1)] := by rw [show (chr (mkV u0 u0 u0 f la mi)) = (mkV u0 u0 u0 f la mi) from chr_chr _] at f169; exact f169
    refine Go.movp st159 (mkF m 95 #[.val (.ref a), .val (.int (1 : Int32)), .val (.ref uA), .val (.ref uA), .val (.ref uA), .val (.int f), .val (.int la), .val (.int mi), .val (.int (0 : Int32)), .val (.int (zV u0 u0 u0 f la mi))] []) rfl ?_
    refine g_iinc X159 hx (hb hby d6_95) (pc' := 98) rfl rfl (z := (1 : Int32)) rfl (Ls' := #[.val (.ref a), .val (.int (1 : Int32)), .val (.ref uA), .val (.ref uA), .val (.ref uA), .val (.int f), .val (.int la), .val (.int mi), .val (.int (1 : Int32)), .val (.int (zV u0 u0 u0 f la mi))]) rfl ?_
    refine g_goto X159 hx (hb hby d6_98) (by decide) (pc' := 46) (by decide) ?_
    refine g_iload X159 hx (hb hby d6_46) (pc' := 48) rfl rfl ?_
    refine g_iloadN X159 hx (hb hby d6_48) (pc' := 49) rfl rfl ?_
    refine g_icmp_ge X159 hx (hb hby d6_49) (pc1 := 52) rfl (by decide) (pc2 := 101) (by decide) (fun hc49_1 => ?_) (fun hc49_1 => absurd hc49_1 (by decide))
    exact g_return X159 hx hret (hb hby d6_101) N159 hlk (fun v t => endF (by decide) (by decide) v) (by rw [e159]; exact ⟨rfl, K168, Va.eq f170 (by rw [hx0, hx1])⟩)
  · skip
    have hx0 := hw0.trans (if_pos (by decide))
    have hx1 := hw1.trans (if_pos (by decide))
    refine g_aloadN X0 hx (hb hby d6_0) (pc' := 1) rfl rfl rfl ?_
    obtain ⟨T171, X171, e171, st171⟩ := getF X0 hx hZ hown (host := "") (Or.inl (hw _ (List.mem_of_getElem? (i := 48) rfl))) (Via.of (hw _ (List.mem_of_getElem? (i := 35) rfl))) e0 F_units (g := (mkF m 1 #[.val (.ref a), .val (.int (2 : Int32)), .unset, .unset, .unset, .unset, .unset, .unset, .unset, .unset] [(.ref a)])) rfl rfl (hb hby d6_1)
    refine Go.movp st171 (mkF m 4 #[.val (.ref a), .val (.int (2 : Int32)), .unset, .unset, .unset, .unset, .unset, .unset, .unset, .unset] [(.ref uA)]) rfl ?_
    obtain ⟨T172, X172, e172, st172⟩ := castY X171 hx hZ hown (hw _ (List.mem_of_getElem? (i := 49) rfl)) e171 (Ins.self X_uA) (g := (mkF m 4 #[.val (.ref a), .val (.int (2 : Int32)), .unset, .unset, .unset, .unset, .unset, .unset, .unset, .unset] [(.ref uA)])) rfl rfl (hb hby d6_4)
    refine Go.movp st172 (mkF m 7 #[.val (.ref a), .val (.int (2 : Int32)), .unset, .unset, .unset, .unset, .unset, .unset, .unset, .unset] [(.ref uA)]) rfl ?_
    refine g_astoreN X172 hx (hb hby d6_7) (pc' := 8) rfl rfl (Ls' := #[.val (.ref a), .val (.int (2 : Int32)), .val (.ref uA), .unset, .unset, .unset, .unset, .unset, .unset, .unset]) rfl ?_
    refine g_aloadN X172 hx (hb hby d6_8) (pc' := 9) rfl rfl rfl ?_
    obtain ⟨T173, X173, e173, st173⟩ := getF X172 hx hZ hown (host := "") (Or.inl (hw _ (List.mem_of_getElem? (i := 51) rfl))) (Via.of (hw _ (List.mem_of_getElem? (i := 38) rfl))) e172 F_lasts (g := (mkF m 9 #[.val (.ref a), .val (.int (2 : Int32)), .val (.ref uA), .unset, .unset, .unset, .unset, .unset, .unset, .unset] [(.ref a)])) rfl rfl (hb hby d6_9)
    refine Go.movp st173 (mkF m 12 #[.val (.ref a), .val (.int (2 : Int32)), .val (.ref uA), .unset, .unset, .unset, .unset, .unset, .unset, .unset] [(.ref uA)]) rfl ?_
    obtain ⟨T174, X174, e174, st174⟩ := castY X173 hx hZ hown (hw _ (List.mem_of_getElem? (i := 49) rfl)) e173 (Ins.self X_uA) (g := (mkF m 12 #[.val (.ref a), .val (.int (2 : Int32)), .val (.ref uA), .unset, .unset, .unset, .unset, .unset, .unset, .unset] [(.ref uA)])) rfl rfl (hb hby d6_12)
    refine Go.movp st174 (mkF m 15 #[.val (.ref a), .val (.int (2 : Int32)), .val (.ref uA), .unset, .unset, .unset, .unset, .unset, .unset, .unset] [(.ref uA)]) rfl ?_
    refine g_astoreN X174 hx (hb hby d6_15) (pc' := 16) rfl rfl (Ls' := #[.val (.ref a), .val (.int (2 : Int32)), .val (.ref uA), .val (.ref uA), .unset, .unset, .unset, .unset, .unset, .unset]) rfl ?_
    refine g_aloadN X174 hx (hb hby d6_16) (pc' := 17) rfl rfl rfl ?_
    obtain ⟨T175, X175, e175, st175⟩ := getF X174 hx hZ hown (host := "") (Or.inl (hw _ (List.mem_of_getElem? (i := 52) rfl))) (Via.of (hw _ (List.mem_of_getElem? (i := 41) rfl))) e174 F_middles (g := (mkF m 17 #[.val (.ref a), .val (.int (2 : Int32)), .val (.ref uA), .val (.ref uA), .unset, .unset, .unset, .unset, .unset, .unset] [(.ref a)])) rfl rfl (hb hby d6_17)
    refine Go.movp st175 (mkF m 20 #[.val (.ref a), .val (.int (2 : Int32)), .val (.ref uA), .val (.ref uA), .unset, .unset, .unset, .unset, .unset, .unset] [(.ref uA)]) rfl ?_
    obtain ⟨T176, X176, e176, st176⟩ := castY X175 hx hZ hown (hw _ (List.mem_of_getElem? (i := 49) rfl)) e175 (Ins.self X_uA) (g := (mkF m 20 #[.val (.ref a), .val (.int (2 : Int32)), .val (.ref uA), .val (.ref uA), .unset, .unset, .unset, .unset, .unset, .unset] [(.ref uA)])) rfl rfl (hb hby d6_20)
    refine Go.movp st176 (mkF m 23 #[.val (.ref a), .val (.int (2 : Int32)), .val (.ref uA), .val (.ref uA), .unset, .unset, .unset, .unset, .unset, .unset] [(.ref uA)]) rfl ?_
    refine g_astore X176 hx (hb hby d6_23) (pc' := 25) rfl rfl (Ls' := #[.val (.ref a), .val (.int (2 : Int32)), .val (.ref uA), .val (.ref uA), .val (.ref uA), .unset, .unset, .unset, .unset, .unset]) rfl ?_
    refine g_aloadN X176 hx (hb hby d6_25) (pc' := 26) rfl rfl rfl ?_
    obtain ⟨T177, X177, e177, st177⟩ := getF X176 hx hZ hown (host := "") (Or.inl (hw _ (List.mem_of_getElem? (i := 53) rfl))) (Via.of (hw _ (List.mem_of_getElem? (i := 54) rfl))) e176 F_first (g := (mkF m 26 #[.val (.ref a), .val (.int (2 : Int32)), .val (.ref uA), .val (.ref uA), .val (.ref uA), .unset, .unset, .unset, .unset, .unset] [(.ref a)])) rfl rfl (hb hby d6_26)
    refine Go.movp st177 (mkF m 29 #[.val (.ref a), .val (.int (2 : Int32)), .val (.ref uA), .val (.ref uA), .val (.ref uA), .unset, .unset, .unset, .unset, .unset] [(.int f)]) rfl ?_
    refine g_istore X177 hx (hb hby d6_29) (pc' := 31) rfl (Ls' := #[.val (.ref a), .val (.int (2 : Int32)), .val (.ref uA), .val (.ref uA), .val (.ref uA), .val (.int f), .unset, .unset, .unset, .unset]) rfl ?_
    refine g_aloadN X177 hx (hb hby d6_31) (pc' := 32) rfl rfl rfl ?_
    obtain ⟨T178, X178, e178, st178⟩ := getF X177 hx hZ hown (host := "") (Or.inl (hw _ (List.mem_of_getElem? (i := 55) rfl))) (Via.of (hw _ (List.mem_of_getElem? (i := 56) rfl))) e177 F_last (g := (mkF m 32 #[.val (.ref a), .val (.int (2 : Int32)), .val (.ref uA), .val (.ref uA), .val (.ref uA), .val (.int f), .unset, .unset, .unset, .unset] [(.ref a)])) rfl rfl (hb hby d6_32)
    refine Go.movp st178 (mkF m 35 #[.val (.ref a), .val (.int (2 : Int32)), .val (.ref uA), .val (.ref uA), .val (.ref uA), .val (.int f), .unset, .unset, .unset, .unset] [(.int la)]) rfl ?_
    refine g_istore X178 hx (hb hby d6_35) (pc' := 37) rfl (Ls' := #[.val (.ref a), .val (.int (2 : Int32)), .val (.ref uA), .val (.ref uA), .val (.ref uA), .val (.int f), .val (.int la), .unset, .unset, .unset]) rfl ?_
    refine g_aloadN X178 hx (hb hby d6_37) (pc' := 38) rfl rfl rfl ?_
    obtain ⟨T179, X179, e179, st179⟩ := getF X178 hx hZ hown (host := "") (Or.inl (hw _ (List.mem_of_getElem? (i := 57) rfl))) (Via.of (hw _ (List.mem_of_getElem? (i := 58) rfl))) e178 F_middle (g := (mkF m 38 #[.val (.ref a), .val (.int (2 : Int32)), .val (.ref uA), .val (.ref uA), .val (.ref uA), .val (.int f), .val (.int la), .unset, .unset, .unset] [(.ref a)])) rfl rfl (hb hby d6_38)
    refine Go.movp st179 (mkF m 41 #[.val (.ref a), .val (.int (2 : Int32)), .val (.ref uA), .val (.ref uA), .val (.ref uA), .val (.int f), .val (.int la), .unset, .unset, .unset] [(.int mi)]) rfl ?_
    refine g_istore X179 hx (hb hby d6_41) (pc' := 43) rfl (Ls' := #[.val (.ref a), .val (.int (2 : Int32)), .val (.ref uA), .val (.ref uA), .val (.ref uA), .val (.int f), .val (.int la), .val (.int mi), .unset, .unset]) rfl ?_
    refine g_iconst X179 hx (hb hby d6_43) (pc' := 44) rfl (z := (0 : Int32)) rfl ?_
    refine g_istore X179 hx (hb hby d6_44) (pc' := 46) rfl (Ls' := #[.val (.ref a), .val (.int (2 : Int32)), .val (.ref uA), .val (.ref uA), .val (.ref uA), .val (.int f), .val (.int la), .val (.int mi), .val (.int (0 : Int32)), .unset]) rfl ?_
    refine g_iload X179 hx (hb hby d6_46) (pc' := 48) rfl rfl ?_
    refine g_iloadN X179 hx (hb hby d6_48) (pc' := 49) rfl rfl ?_
    refine g_icmp_ge X179 hx (hb hby d6_49) (pc1 := 52) rfl (by decide) (pc2 := 101) (by decide) (fun hc49 => absurd (by decide) hc49) (fun hc49 => ?_)
    refine g_aloadN X179 hx (hb hby d6_52) (pc' := 53) rfl rfl rfl ?_
    refine g_iload X179 hx (hb hby d6_53) (pc' := 55) rfl rfl ?_
    refine g_caload X179 hx hZ e179 V_uA (i := 0) (v := (.int u0)) (hb hby d6_55) (pc' := 56) rfl (by decide) rfl rfl ?_
    refine g_iload X179 hx (hb hby d6_56) (pc' := 58) rfl rfl ?_
    refine g_ixor X179 hx (hb hby d6_58) (pc' := 59) rfl ?_
    refine g_aloadN X179 hx (hb hby d6_59) (pc' := 60) rfl rfl rfl ?_
    refine g_iload X179 hx (hb hby d6_60) (pc' := 62) rfl rfl ?_
    refine g_caload X179 hx hZ e179 V_uA (i := 0) (v := (.int u0)) (hb hby d6_62) (pc' := 63) rfl (by decide) rfl rfl ?_
    refine g_iload X179 hx (hb hby d6_63) (pc' := 65) rfl rfl ?_
    refine g_ixor X179 hx (hb hby d6_65) (pc' := 66) rfl ?_
    refine g_ior X179 hx (hb hby d6_66) (pc' := 67) rfl ?_
    refine g_aload X179 hx (hb hby d6_67) (pc' := 69) rfl rfl rfl ?_
    refine g_iload X179 hx (hb hby d6_69) (pc' := 71) rfl rfl ?_
    refine g_caload X179 hx hZ e179 V_uA (i := 0) (v := (.int u0)) (hb hby d6_71) (pc' := 72) rfl (by decide) rfl rfl ?_
    refine g_iload X179 hx (hb hby d6_72) (pc' := 74) rfl rfl ?_
    refine g_ixor X179 hx (hb hby d6_74) (pc' := 75) rfl ?_
    refine g_ior X179 hx (hb hby d6_75) (pc' := 76) rfl ?_
    refine Go.cast (show (mkF m 76 #[.val (.ref a), .val (.int (2 : Int32)), .val (.ref uA), .val (.ref uA), .val (.ref uA), .val (.int f), .val (.int la), .val (.int mi), .val (.int (0 : Int32)), .unset] [(.int (((u0 ^^^ f) ||| (u0 ^^^ la)) ||| (u0 ^^^ mi)))]) = (mkF m 76 #[.val (.ref a), .val (.int (2 : Int32)), .val (.ref uA), .val (.ref uA), .val (.ref uA), .val (.int f), .val (.int la), .val (.int mi), .val (.int (0 : Int32)), .unset] [(.int (zV u0 u0 u0 f la mi))]) from by rw [show (((u0 ^^^ f) ||| (u0 ^^^ la)) ||| (u0 ^^^ mi)) = (zV u0 u0 u0 f la mi) from rfl]) ?_
    refine g_istore X179 hx (hb hby d6_76) (pc' := 78) rfl (Ls' := #[.val (.ref a), .val (.int (2 : Int32)), .val (.ref uA), .val (.ref uA), .val (.ref uA), .val (.int f), .val (.int la), .val (.int mi), .val (.int (0 : Int32)), .val (.int (zV u0 u0 u0 f la mi))]) rfl ?_
    refine g_aloadN X179 hx (hb hby d6_78) (pc' := 79) rfl rfl rfl ?_
    refine g_iload X179 hx (hb hby d6_79) (pc' := 81) rfl rfl ?_
    refine g_iload X179 hx (hb hby d6_81) (pc' := 83) rfl rfl ?_
    refine g_iconst X179 hx (hb hby d6_83) (pc' := 84) rfl (z := (1 : Int32)) rfl ?_
    refine g_isub X179 hx (hb hby d6_84) (pc' := 85) rfl ?_
    refine g_iload X179 hx (hb hby d6_85) (pc' := 87) rfl rfl ?_
    refine g_iconst X179 hx (hb hby d6_87) (pc' := 88) rfl (z := (-1 : Int32)) rfl ?_
    refine g_ixor X179 hx (hb hby d6_88) (pc' := 89) rfl ?_
    refine g_iand X179 hx (hb hby d6_89) (pc' := 90) rfl ?_
    refine g_ldc X179 hx hZ hown (hw _ (List.mem_of_getElem? (i := 59) rfl)) (hb hby d6_90) (pc' := 92) rfl ?_
    refine g_iand X179 hx (hb hby d6_92) (pc' := 93) rfl ?_
    refine g_i2c X179 hx (hb hby d6_93) (pc' := 94) rfl ?_
    refine Go.cast (show (mkF m 94 #[.val (.ref a), .val (.int (2 : Int32)), .val (.ref uA), .val (.ref uA), .val (.ref uA), .val (.int f), .val (.int la), .val (.int mi), .val (.int (0 : Int32)), .val (.int (zV u0 u0 u0 f la mi))] [(.int (chr ((((zV u0 u0 u0 f la mi) - (1 : Int32)) &&& ((zV u0 u0 u0 f la mi) ^^^ (-1 : Int32))) &&& (32768 : Int32)))), (.int (0 : Int32)), (.ref uA)]) = (mkF m 94 #[.val (.ref a), .val (.int (2 : Int32)), .val (.ref uA), .val (.ref uA), .val (.ref uA), .val (.int f), .val (.int la), .val (.int mi), .val (.int (0 : Int32)), .val (.int (zV u0 u0 u0 f la mi))] [(.int (mkV u0 u0 u0 f la mi)), (.int (0 : Int32)), (.ref uA)]) from by rw [show (chr ((((zV u0 u0 u0 f la mi) - (1 : Int32)) &&& ((zV u0 u0 u0 f la mi) ^^^ (-1 : Int32))) &&& (32768 : Int32))) = (mkV u0 u0 u0 f la mi) from rfl]) ?_
    obtain ⟨T180, h180, L180, X180, e180, N180, W180, V180, st180⟩ := h_castore X179 hx hZ e179 N0 V_uA G1 (j := (0 : Int32)) (i := 0) (x := (mkV u0 u0 u0 f la mi)) (hb hby d6_94) (by decide) rfl rfl #[.val (.ref a), .val (.int (2 : Int32)), .val (.ref uA), .val (.ref uA), .val (.ref uA), .val (.int f), .val (.int la), .val (.int mi), .val (.int (0 : Int32)), .val (.int (zV u0 u0 u0 f la mi))] []
    have f181 := Fld.other W180 F_units (Or.inl ne_a)
    have f182 := Fld.other W180 F_lasts (Or.inl ne_a)
    have f183 := Fld.other W180 F_middles (Or.inl ne_a)
    have f184 := Fld.other W180 F_first (Or.inl ne_a)
    have f185 := Fld.other W180 F_last (Or.inl ne_a)
    have f186 := Fld.other W180 F_middle (Or.inl ne_a)
    have f187 := Exa.wr W180 X_uA
    have Z188 : n0 ≤ h180.size := Nat.le_trans Z0 (Keep.of_wr W180).1
    have K189 := (Keep.refl h0 [uA]).wr W180 (Or.inl (List.mem_of_getElem? (i := 0) rfl))
    have f190 : Va Z h180 uA .char [(.int (chr (mkV u0 u0 u0 f la mi))), (.int u1)] := V180
    have f191 : Va Z h180 uA .char [(.int (mkV u0 u0 u0 f la mi)), (.int u1)] := by rw [show (chr (mkV u0 u0 u0 f la mi)) = (mkV u0 u0 u0 f la mi) from chr_chr _] at f190; exact f190
    refine Go.movp st180 (mkF m 95 #[.val (.ref a), .val (.int (2 : Int32)), .val (.ref uA), .val (.ref uA), .val (.ref uA), .val (.int f), .val (.int la), .val (.int mi), .val (.int (0 : Int32)), .val (.int (zV u0 u0 u0 f la mi))] []) rfl ?_
    refine g_iinc X180 hx (hb hby d6_95) (pc' := 98) rfl rfl (z := (1 : Int32)) rfl (Ls' := #[.val (.ref a), .val (.int (2 : Int32)), .val (.ref uA), .val (.ref uA), .val (.ref uA), .val (.int f), .val (.int la), .val (.int mi), .val (.int (1 : Int32)), .val (.int (zV u0 u0 u0 f la mi))]) rfl ?_
    refine g_goto X180 hx (hb hby d6_98) (by decide) (pc' := 46) (by decide) ?_
    refine g_iload X180 hx (hb hby d6_46) (pc' := 48) rfl rfl ?_
    refine g_iloadN X180 hx (hb hby d6_48) (pc' := 49) rfl rfl ?_
    refine g_icmp_ge X180 hx (hb hby d6_49) (pc1 := 52) rfl (by decide) (pc2 := 101) (by decide) (fun hc49_1 => absurd (by decide) hc49_1) (fun hc49_1 => ?_)
    refine g_aloadN X180 hx (hb hby d6_52) (pc' := 53) rfl rfl rfl ?_
    refine g_iload X180 hx (hb hby d6_53) (pc' := 55) rfl rfl ?_
    refine g_caload X180 hx hZ e180 f191 (i := 1) (v := (.int u1)) (hb hby d6_55) (pc' := 56) rfl (by decide) rfl rfl ?_
    refine g_iload X180 hx (hb hby d6_56) (pc' := 58) rfl rfl ?_
    refine g_ixor X180 hx (hb hby d6_58) (pc' := 59) rfl ?_
    refine g_aloadN X180 hx (hb hby d6_59) (pc' := 60) rfl rfl rfl ?_
    refine g_iload X180 hx (hb hby d6_60) (pc' := 62) rfl rfl ?_
    refine g_caload X180 hx hZ e180 f191 (i := 1) (v := (.int u1)) (hb hby d6_62) (pc' := 63) rfl (by decide) rfl rfl ?_
    refine g_iload X180 hx (hb hby d6_63) (pc' := 65) rfl rfl ?_
    refine g_ixor X180 hx (hb hby d6_65) (pc' := 66) rfl ?_
    refine g_ior X180 hx (hb hby d6_66) (pc' := 67) rfl ?_
    refine g_aload X180 hx (hb hby d6_67) (pc' := 69) rfl rfl rfl ?_
    refine g_iload X180 hx (hb hby d6_69) (pc' := 71) rfl rfl ?_
    refine g_caload X180 hx hZ e180 f191 (i := 1) (v := (.int u1)) (hb hby d6_71) (pc' := 72) rfl (by decide) rfl rfl ?_
    refine g_iload X180 hx (hb hby d6_72) (pc' := 74) rfl rfl ?_
    refine g_ixor X180 hx (hb hby d6_74) (pc' := 75) rfl ?_
    refine g_ior X180 hx (hb hby d6_75) (pc' := 76) rfl ?_
    refine Go.cast (show (mkF m 76 #[.val (.ref a), .val (.int (2 : Int32)), .val (.ref uA), .val (.ref uA), .val (.ref uA), .val (.int f), .val (.int la), .val (.int mi), .val (.int (1 : Int32)), .val (.int (zV u0 u0 u0 f la mi))] [(.int (((u1 ^^^ f) ||| (u1 ^^^ la)) ||| (u1 ^^^ mi)))]) = (mkF m 76 #[.val (.ref a), .val (.int (2 : Int32)), .val (.ref uA), .val (.ref uA), .val (.ref uA), .val (.int f), .val (.int la), .val (.int mi), .val (.int (1 : Int32)), .val (.int (zV u0 u0 u0 f la mi))] [(.int (zV u1 u1 u1 f la mi))]) from by rw [show (((u1 ^^^ f) ||| (u1 ^^^ la)) ||| (u1 ^^^ mi)) = (zV u1 u1 u1 f la mi) from rfl]) ?_
    refine g_istore X180 hx (hb hby d6_76) (pc' := 78) rfl (Ls' := #[.val (.ref a), .val (.int (2 : Int32)), .val (.ref uA), .val (.ref uA), .val (.ref uA), .val (.int f), .val (.int la), .val (.int mi), .val (.int (1 : Int32)), .val (.int (zV u1 u1 u1 f la mi))]) rfl ?_
    refine g_aloadN X180 hx (hb hby d6_78) (pc' := 79) rfl rfl rfl ?_
    refine g_iload X180 hx (hb hby d6_79) (pc' := 81) rfl rfl ?_
    refine g_iload X180 hx (hb hby d6_81) (pc' := 83) rfl rfl ?_
    refine g_iconst X180 hx (hb hby d6_83) (pc' := 84) rfl (z := (1 : Int32)) rfl ?_
    refine g_isub X180 hx (hb hby d6_84) (pc' := 85) rfl ?_
    refine g_iload X180 hx (hb hby d6_85) (pc' := 87) rfl rfl ?_
    refine g_iconst X180 hx (hb hby d6_87) (pc' := 88) rfl (z := (-1 : Int32)) rfl ?_
    refine g_ixor X180 hx (hb hby d6_88) (pc' := 89) rfl ?_
    refine g_iand X180 hx (hb hby d6_89) (pc' := 90) rfl ?_
    refine g_ldc X180 hx hZ hown (hw _ (List.mem_of_getElem? (i := 59) rfl)) (hb hby d6_90) (pc' := 92) rfl ?_
    refine g_iand X180 hx (hb hby d6_92) (pc' := 93) rfl ?_
    refine g_i2c X180 hx (hb hby d6_93) (pc' := 94) rfl ?_
    refine Go.cast (show (mkF m 94 #[.val (.ref a), .val (.int (2 : Int32)), .val (.ref uA), .val (.ref uA), .val (.ref uA), .val (.int f), .val (.int la), .val (.int mi), .val (.int (1 : Int32)), .val (.int (zV u1 u1 u1 f la mi))] [(.int (chr ((((zV u1 u1 u1 f la mi) - (1 : Int32)) &&& ((zV u1 u1 u1 f la mi) ^^^ (-1 : Int32))) &&& (32768 : Int32)))), (.int (1 : Int32)), (.ref uA)]) = (mkF m 94 #[.val (.ref a), .val (.int (2 : Int32)), .val (.ref uA), .val (.ref uA), .val (.ref uA), .val (.int f), .val (.int la), .val (.int mi), .val (.int (1 : Int32)), .val (.int (zV u1 u1 u1 f la mi))] [(.int (mkV u1 u1 u1 f la mi)), (.int (1 : Int32)), (.ref uA)]) from by rw [show (chr ((((zV u1 u1 u1 f la mi) - (1 : Int32)) &&& ((zV u1 u1 u1 f la mi) ^^^ (-1 : Int32))) &&& (32768 : Int32))) = (mkV u1 u1 u1 f la mi) from rfl]) ?_
    obtain ⟨T192, h192, L192, X192, e192, N192, W192, V192, st192⟩ := h_castore X180 hx hZ e180 N180 f191 G1 (j := (1 : Int32)) (i := 1) (x := (mkV u1 u1 u1 f la mi)) (hb hby d6_94) (by decide) rfl rfl #[.val (.ref a), .val (.int (2 : Int32)), .val (.ref uA), .val (.ref uA), .val (.ref uA), .val (.int f), .val (.int la), .val (.int mi), .val (.int (1 : Int32)), .val (.int (zV u1 u1 u1 f la mi))] []
    have f193 := Fld.other W192 f181 (Or.inl ne_a)
    have f194 := Fld.other W192 f182 (Or.inl ne_a)
    have f195 := Fld.other W192 f183 (Or.inl ne_a)
    have f196 := Fld.other W192 f184 (Or.inl ne_a)
    have f197 := Fld.other W192 f185 (Or.inl ne_a)
    have f198 := Fld.other W192 f186 (Or.inl ne_a)
    have f199 := Exa.wr W192 f187
    have Z200 : n0 ≤ h192.size := Nat.le_trans Z188 (Keep.of_wr W192).1
    have K201 := K189.wr W192 (Or.inl (List.mem_of_getElem? (i := 0) rfl))
    have f202 : Va Z h192 uA .char [(.int (mkV u0 u0 u0 f la mi)), (.int (chr (mkV u1 u1 u1 f la mi)))] := V192
    have f203 : Va Z h192 uA .char [(.int (mkV u0 u0 u0 f la mi)), (.int (mkV u1 u1 u1 f la mi))] := by rw [show (chr (mkV u1 u1 u1 f la mi)) = (mkV u1 u1 u1 f la mi) from chr_chr _] at f202; exact f202
    refine Go.movp st192 (mkF m 95 #[.val (.ref a), .val (.int (2 : Int32)), .val (.ref uA), .val (.ref uA), .val (.ref uA), .val (.int f), .val (.int la), .val (.int mi), .val (.int (1 : Int32)), .val (.int (zV u1 u1 u1 f la mi))] []) rfl ?_
    refine g_iinc X192 hx (hb hby d6_95) (pc' := 98) rfl rfl (z := (1 : Int32)) rfl (Ls' := #[.val (.ref a), .val (.int (2 : Int32)), .val (.ref uA), .val (.ref uA), .val (.ref uA), .val (.int f), .val (.int la), .val (.int mi), .val (.int (2 : Int32)), .val (.int (zV u1 u1 u1 f la mi))]) rfl ?_
    refine g_goto X192 hx (hb hby d6_98) (by decide) (pc' := 46) (by decide) ?_
    refine g_iload X192 hx (hb hby d6_46) (pc' := 48) rfl rfl ?_
    refine g_iloadN X192 hx (hb hby d6_48) (pc' := 49) rfl rfl ?_
    refine g_icmp_ge X192 hx (hb hby d6_49) (pc1 := 52) rfl (by decide) (pc2 := 101) (by decide) (fun hc49_2 => ?_) (fun hc49_2 => absurd hc49_2 (by decide))
    exact g_return X192 hx hret (hb hby d6_101) N192 hlk (fun v t => endF (by decide) (by decide) v) (by rw [e192]; exact ⟨rfl, K201, Va.eq f203 (by rw [hx0, hx1])⟩)
theorem ef_6_2 (x0 : Addr) (x1 : Int32) (m : MethodId) : entryFrame m #[(.ref x0), (.int x1)] 10 = mkF m 0 #[.val (.ref x0), .val (.int x1), .unset, .unset, .unset, .unset, .unset, .unset, .unset, .unset] [] := by first | (simp [entryFrame, mkF, argsToLocals, Value.category]; done) | rfl
def Q6_2 (Z : State) (a : Addr) (uA : Addr) (lA : Addr) (u0 : Int32) (u1 : Int32) (l0 : Int32) (l1 : Int32) (f : Int32) (la : Int32) (mi : Int32) (n : Int32) (w0 : Int32) (w1 : Int32) (h0 : Heap) (n0 : Nat) : Option Value → Heap → Prop := fun v h => v = none ∧ Keep h0 h [uA] ∧ Va Z h uA .char [(.int w0), (.int w1)]
set_option maxRecDepth 65536 in
set_option maxHeartbeats 40000000 in
theorem rm6_2 (l : Launch) (Z : State) (a0 : Array Value) (hw : ∀ d ∈ tables_1, d.before a0 Z = true) (a : Addr) (uA : Addr) (lA : Addr) (u0 : Int32) (u1 : Int32) (l0 : Int32) (l1 : Int32) (f : Int32) (la : Int32) (mi : Int32) (n : Int32) (w0 : Int32) (w1 : Int32) (h0 : Heap) (n0 : Nat) (Z0 : n0 ≤ h0.size) (F_units : Fld Z h0 a "com/example/needlework/needlework/PackedBlock" "units" "Ljava/lang/Object;" (.ref uA)) (F_lasts : Fld Z h0 a "com/example/needlework/needlework/PackedBlock" "lasts" "Ljava/lang/Object;" (.ref lA)) (F_middles : Fld Z h0 a "com/example/needlework/needlework/PackedBlock" "middles" "Ljava/lang/Object;" (.ref lA)) (F_first : Fld Z h0 a "com/example/needlework/needlework/PackedBlock" "first" "I" (.int f)) (F_last : Fld Z h0 a "com/example/needlework/needlework/PackedBlock" "last" "I" (.int la)) (F_middle : Fld Z h0 a "com/example/needlework/needlework/PackedBlock" "middle" "I" (.int mi)) (V_uA : Va Z h0 uA .char [(.int u0), (.int u1)]) (V_lA : Va Z h0 lA .char [(.int l0), (.int l1)]) (X_uA : Exa Z h0 uA "[C") (X_lA : Exa Z h0 lA "[C") (G1 : n0 ≤ uA) (ne_lA : lA ≠ uA) (ne_a : a ≠ uA) (hn : n = 0 ∨ n = 1 ∨ n = 2) (hw0 : w0 = (if (0 : Int32) < n then (mkV u0 l0 l0 f la mi) else u0)) (hw1 : w1 = (if (1 : Int32) < n then (mkV u1 l1 l1 f la mi) else u1)) : Ctr l Z (⟨"com/example/needlework/needlework/PackedBlock$Chars", "mark", "(I)V"⟩ : MethodName) prog_18_method_4_code 10 none ({ frames := 0, cells := 0, slots := 0, locals := 0 } : Room) #[(.ref a), (.int n)] h0 n0 (Q6_2 Z a uA lA u0 u1 l0 l1 f la mi n w0 w1 h0 n0) := by
  refine Ctr.of (plainFor_of_name pn_3) (ef_6_2 a n) ?_
  intro p e s m below meth c T0 hx hby hml hown hnm hret hlk hZ X0 e0
  have N0 := Fr.nil n0
  rcases hn with rfl | rfl | rfl
  · skip
    have hx0 := hw0.trans (if_neg (by decide))
    have hx1 := hw1.trans (if_neg (by decide))
    refine g_aloadN X0 hx (hb hby d6_0) (pc' := 1) rfl rfl rfl ?_
    obtain ⟨T204, X204, e204, st204⟩ := getF X0 hx hZ hown (host := "") (Or.inl (hw _ (List.mem_of_getElem? (i := 48) rfl))) (Via.of (hw _ (List.mem_of_getElem? (i := 35) rfl))) e0 F_units (g := (mkF m 1 #[.val (.ref a), .val (.int (0 : Int32)), .unset, .unset, .unset, .unset, .unset, .unset, .unset, .unset] [(.ref a)])) rfl rfl (hb hby d6_1)
    refine Go.movp st204 (mkF m 4 #[.val (.ref a), .val (.int (0 : Int32)), .unset, .unset, .unset, .unset, .unset, .unset, .unset, .unset] [(.ref uA)]) rfl ?_
    obtain ⟨T205, X205, e205, st205⟩ := castY X204 hx hZ hown (hw _ (List.mem_of_getElem? (i := 49) rfl)) e204 (Ins.self X_uA) (g := (mkF m 4 #[.val (.ref a), .val (.int (0 : Int32)), .unset, .unset, .unset, .unset, .unset, .unset, .unset, .unset] [(.ref uA)])) rfl rfl (hb hby d6_4)
    refine Go.movp st205 (mkF m 7 #[.val (.ref a), .val (.int (0 : Int32)), .unset, .unset, .unset, .unset, .unset, .unset, .unset, .unset] [(.ref uA)]) rfl ?_
    refine g_astoreN X205 hx (hb hby d6_7) (pc' := 8) rfl rfl (Ls' := #[.val (.ref a), .val (.int (0 : Int32)), .val (.ref uA), .unset, .unset, .unset, .unset, .unset, .unset, .unset]) rfl ?_
    refine g_aloadN X205 hx (hb hby d6_8) (pc' := 9) rfl rfl rfl ?_
    obtain ⟨T206, X206, e206, st206⟩ := getF X205 hx hZ hown (host := "") (Or.inl (hw _ (List.mem_of_getElem? (i := 51) rfl))) (Via.of (hw _ (List.mem_of_getElem? (i := 38) rfl))) e205 F_lasts (g := (mkF m 9 #[.val (.ref a), .val (.int (0 : Int32)), .val (.ref uA), .unset, .unset, .unset, .unset, .unset, .unset, .unset] [(.ref a)])) rfl rfl (hb hby d6_9)
    refine Go.movp st206 (mkF m 12 #[.val (.ref a), .val (.int (0 : Int32)), .val (.ref uA), .unset, .unset, .unset, .unset, .unset, .unset, .unset] [(.ref lA)]) rfl ?_
    obtain ⟨T207, X207, e207, st207⟩ := castY X206 hx hZ hown (hw _ (List.mem_of_getElem? (i := 49) rfl)) e206 (Ins.self X_lA) (g := (mkF m 12 #[.val (.ref a), .val (.int (0 : Int32)), .val (.ref uA), .unset, .unset, .unset, .unset, .unset, .unset, .unset] [(.ref lA)])) rfl rfl (hb hby d6_12)
    refine Go.movp st207 (mkF m 15 #[.val (.ref a), .val (.int (0 : Int32)), .val (.ref uA), .unset, .unset, .unset, .unset, .unset, .unset, .unset] [(.ref lA)]) rfl ?_
    refine g_astoreN X207 hx (hb hby d6_15) (pc' := 16) rfl rfl (Ls' := #[.val (.ref a), .val (.int (0 : Int32)), .val (.ref uA), .val (.ref lA), .unset, .unset, .unset, .unset, .unset, .unset]) rfl ?_
    refine g_aloadN X207 hx (hb hby d6_16) (pc' := 17) rfl rfl rfl ?_
    obtain ⟨T208, X208, e208, st208⟩ := getF X207 hx hZ hown (host := "") (Or.inl (hw _ (List.mem_of_getElem? (i := 52) rfl))) (Via.of (hw _ (List.mem_of_getElem? (i := 41) rfl))) e207 F_middles (g := (mkF m 17 #[.val (.ref a), .val (.int (0 : Int32)), .val (.ref uA), .val (.ref lA), .unset, .unset, .unset, .unset, .unset, .unset] [(.ref a)])) rfl rfl (hb hby d6_17)
    refine Go.movp st208 (mkF m 20 #[.val (.ref a), .val (.int (0 : Int32)), .val (.ref uA), .val (.ref lA), .unset, .unset, .unset, .unset, .unset, .unset] [(.ref lA)]) rfl ?_
    obtain ⟨T209, X209, e209, st209⟩ := castY X208 hx hZ hown (hw _ (List.mem_of_getElem? (i := 49) rfl)) e208 (Ins.self X_lA) (g := (mkF m 20 #[.val (.ref a), .val (.int (0 : Int32)), .val (.ref uA), .val (.ref lA), .unset, .unset, .unset, .unset, .unset, .unset] [(.ref lA)])) rfl rfl (hb hby d6_20)
    refine Go.movp st209 (mkF m 23 #[.val (.ref a), .val (.int (0 : Int32)), .val (.ref uA), .val (.ref lA), .unset, .unset, .unset, .unset, .unset, .unset] [(.ref lA)]) rfl ?_
    refine g_astore X209 hx (hb hby d6_23) (pc' := 25) rfl rfl (Ls' := #[.val (.ref a), .val (.int (0 : Int32)), .val (.ref uA), .val (.ref lA), .val (.ref lA), .unset, .unset, .unset, .unset, .unset]) rfl ?_
    refine g_aloadN X209 hx (hb hby d6_25) (pc' := 26) rfl rfl rfl ?_
    obtain ⟨T210, X210, e210, st210⟩ := getF X209 hx hZ hown (host := "") (Or.inl (hw _ (List.mem_of_getElem? (i := 53) rfl))) (Via.of (hw _ (List.mem_of_getElem? (i := 54) rfl))) e209 F_first (g := (mkF m 26 #[.val (.ref a), .val (.int (0 : Int32)), .val (.ref uA), .val (.ref lA), .val (.ref lA), .unset, .unset, .unset, .unset, .unset] [(.ref a)])) rfl rfl (hb hby d6_26)
    refine Go.movp st210 (mkF m 29 #[.val (.ref a), .val (.int (0 : Int32)), .val (.ref uA), .val (.ref lA), .val (.ref lA), .unset, .unset, .unset, .unset, .unset] [(.int f)]) rfl ?_
    refine g_istore X210 hx (hb hby d6_29) (pc' := 31) rfl (Ls' := #[.val (.ref a), .val (.int (0 : Int32)), .val (.ref uA), .val (.ref lA), .val (.ref lA), .val (.int f), .unset, .unset, .unset, .unset]) rfl ?_
    refine g_aloadN X210 hx (hb hby d6_31) (pc' := 32) rfl rfl rfl ?_
    obtain ⟨T211, X211, e211, st211⟩ := getF X210 hx hZ hown (host := "") (Or.inl (hw _ (List.mem_of_getElem? (i := 55) rfl))) (Via.of (hw _ (List.mem_of_getElem? (i := 56) rfl))) e210 F_last (g := (mkF m 32 #[.val (.ref a), .val (.int (0 : Int32)), .val (.ref uA), .val (.ref lA), .val (.ref lA), .val (.int f), .unset, .unset, .unset, .unset] [(.ref a)])) rfl rfl (hb hby d6_32)
    refine Go.movp st211 (mkF m 35 #[.val (.ref a), .val (.int (0 : Int32)), .val (.ref uA), .val (.ref lA), .val (.ref lA), .val (.int f), .unset, .unset, .unset, .unset] [(.int la)]) rfl ?_
    refine g_istore X211 hx (hb hby d6_35) (pc' := 37) rfl (Ls' := #[.val (.ref a), .val (.int (0 : Int32)), .val (.ref uA), .val (.ref lA), .val (.ref lA), .val (.int f), .val (.int la), .unset, .unset, .unset]) rfl ?_
    refine g_aloadN X211 hx (hb hby d6_37) (pc' := 38) rfl rfl rfl ?_
    obtain ⟨T212, X212, e212, st212⟩ := getF X211 hx hZ hown (host := "") (Or.inl (hw _ (List.mem_of_getElem? (i := 57) rfl))) (Via.of (hw _ (List.mem_of_getElem? (i := 58) rfl))) e211 F_middle (g := (mkF m 38 #[.val (.ref a), .val (.int (0 : Int32)), .val (.ref uA), .val (.ref lA), .val (.ref lA), .val (.int f), .val (.int la), .unset, .unset, .unset] [(.ref a)])) rfl rfl (hb hby d6_38)
    refine Go.movp st212 (mkF m 41 #[.val (.ref a), .val (.int (0 : Int32)), .val (.ref uA), .val (.ref lA), .val (.ref lA), .val (.int f), .val (.int la), .unset, .unset, .unset] [(.int mi)]) rfl ?_
    refine g_istore X212 hx (hb hby d6_41) (pc' := 43) rfl (Ls' := #[.val (.ref a), .val (.int (0 : Int32)), .val (.ref uA), .val (.ref lA), .val (.ref lA), .val (.int f), .val (.int la), .val (.int mi), .unset, .unset]) rfl ?_
    refine g_iconst X212 hx (hb hby d6_43) (pc' := 44) rfl (z := (0 : Int32)) rfl ?_
    refine g_istore X212 hx (hb hby d6_44) (pc' := 46) rfl (Ls' := #[.val (.ref a), .val (.int (0 : Int32)), .val (.ref uA), .val (.ref lA), .val (.ref lA), .val (.int f), .val (.int la), .val (.int mi), .val (.int (0 : Int32)), .unset]) rfl ?_
    refine g_iload X212 hx (hb hby d6_46) (pc' := 48) rfl rfl ?_
    refine g_iloadN X212 hx (hb hby d6_48) (pc' := 49) rfl rfl ?_
    refine g_icmp_ge X212 hx (hb hby d6_49) (pc1 := 52) rfl (by decide) (pc2 := 101) (by decide) (fun hc49 => ?_) (fun hc49 => absurd hc49 (by decide))
    exact g_return X212 hx hret (hb hby d6_101) N0 hlk (fun v t => endF (by decide) (by decide) v) (by rw [e212]; exact ⟨rfl, (Keep.refl h0 [uA]), Va.eq V_uA (by rw [hx0, hx1])⟩)
  · skip
    have hx0 := hw0.trans (if_pos (by decide))
    have hx1 := hw1.trans (if_neg (by decide))
    refine g_aloadN X0 hx (hb hby d6_0) (pc' := 1) rfl rfl rfl ?_
    obtain ⟨T213, X213, e213, st213⟩ := getF X0 hx hZ hown (host := "") (Or.inl (hw _ (List.mem_of_getElem? (i := 48) rfl))) (Via.of (hw _ (List.mem_of_getElem? (i := 35) rfl))) e0 F_units (g := (mkF m 1 #[.val (.ref a), .val (.int (1 : Int32)), .unset, .unset, .unset, .unset, .unset, .unset, .unset, .unset] [(.ref a)])) rfl rfl (hb hby d6_1)
    refine Go.movp st213 (mkF m 4 #[.val (.ref a), .val (.int (1 : Int32)), .unset, .unset, .unset, .unset, .unset, .unset, .unset, .unset] [(.ref uA)]) rfl ?_
    obtain ⟨T214, X214, e214, st214⟩ := castY X213 hx hZ hown (hw _ (List.mem_of_getElem? (i := 49) rfl)) e213 (Ins.self X_uA) (g := (mkF m 4 #[.val (.ref a), .val (.int (1 : Int32)), .unset, .unset, .unset, .unset, .unset, .unset, .unset, .unset] [(.ref uA)])) rfl rfl (hb hby d6_4)
    refine Go.movp st214 (mkF m 7 #[.val (.ref a), .val (.int (1 : Int32)), .unset, .unset, .unset, .unset, .unset, .unset, .unset, .unset] [(.ref uA)]) rfl ?_
    refine g_astoreN X214 hx (hb hby d6_7) (pc' := 8) rfl rfl (Ls' := #[.val (.ref a), .val (.int (1 : Int32)), .val (.ref uA), .unset, .unset, .unset, .unset, .unset, .unset, .unset]) rfl ?_
    refine g_aloadN X214 hx (hb hby d6_8) (pc' := 9) rfl rfl rfl ?_
    obtain ⟨T215, X215, e215, st215⟩ := getF X214 hx hZ hown (host := "") (Or.inl (hw _ (List.mem_of_getElem? (i := 51) rfl))) (Via.of (hw _ (List.mem_of_getElem? (i := 38) rfl))) e214 F_lasts (g := (mkF m 9 #[.val (.ref a), .val (.int (1 : Int32)), .val (.ref uA), .unset, .unset, .unset, .unset, .unset, .unset, .unset] [(.ref a)])) rfl rfl (hb hby d6_9)
    refine Go.movp st215 (mkF m 12 #[.val (.ref a), .val (.int (1 : Int32)), .val (.ref uA), .unset, .unset, .unset, .unset, .unset, .unset, .unset] [(.ref lA)]) rfl ?_
    obtain ⟨T216, X216, e216, st216⟩ := castY X215 hx hZ hown (hw _ (List.mem_of_getElem? (i := 49) rfl)) e215 (Ins.self X_lA) (g := (mkF m 12 #[.val (.ref a), .val (.int (1 : Int32)), .val (.ref uA), .unset, .unset, .unset, .unset, .unset, .unset, .unset] [(.ref lA)])) rfl rfl (hb hby d6_12)
    refine Go.movp st216 (mkF m 15 #[.val (.ref a), .val (.int (1 : Int32)), .val (.ref uA), .unset, .unset, .unset, .unset, .unset, .unset, .unset] [(.ref lA)]) rfl ?_
    refine g_astoreN X216 hx (hb hby d6_15) (pc' := 16) rfl rfl (Ls' := #[.val (.ref a), .val (.int (1 : Int32)), .val (.ref uA), .val (.ref lA), .unset, .unset, .unset, .unset, .unset, .unset]) rfl ?_
    refine g_aloadN X216 hx (hb hby d6_16) (pc' := 17) rfl rfl rfl ?_
    obtain ⟨T217, X217, e217, st217⟩ := getF X216 hx hZ hown (host := "") (Or.inl (hw _ (List.mem_of_getElem? (i := 52) rfl))) (Via.of (hw _ (List.mem_of_getElem? (i := 41) rfl))) e216 F_middles (g := (mkF m 17 #[.val (.ref a), .val (.int (1 : Int32)), .val (.ref uA), .val (.ref lA), .unset, .unset, .unset, .unset, .unset, .unset] [(.ref a)])) rfl rfl (hb hby d6_17)
    refine Go.movp st217 (mkF m 20 #[.val (.ref a), .val (.int (1 : Int32)), .val (.ref uA), .val (.ref lA), .unset, .unset, .unset, .unset, .unset, .unset] [(.ref lA)]) rfl ?_
    obtain ⟨T218, X218, e218, st218⟩ := castY X217 hx hZ hown (hw _ (List.mem_of_getElem? (i := 49) rfl)) e217 (Ins.self X_lA) (g := (mkF m 20 #[.val (.ref a), .val (.int (1 : Int32)), .val (.ref uA), .val (.ref lA), .unset, .unset, .unset, .unset, .unset, .unset] [(.ref lA)])) rfl rfl (hb hby d6_20)
    refine Go.movp st218 (mkF m 23 #[.val (.ref a), .val (.int (1 : Int32)), .val (.ref uA), .val (.ref lA), .unset, .unset, .unset, .unset, .unset, .unset] [(.ref lA)]) rfl ?_
    refine g_astore X218 hx (hb hby d6_23) (pc' := 25) rfl rfl (Ls' := #[.val (.ref a), .val (.int (1 : Int32)), .val (.ref uA), .val (.ref lA), .val (.ref lA), .unset, .unset, .unset, .unset, .unset]) rfl ?_
    refine g_aloadN X218 hx (hb hby d6_25) (pc' := 26) rfl rfl rfl ?_
    obtain ⟨T219, X219, e219, st219⟩ := getF X218 hx hZ hown (host := "") (Or.inl (hw _ (List.mem_of_getElem? (i := 53) rfl))) (Via.of (hw _ (List.mem_of_getElem? (i := 54) rfl))) e218 F_first (g := (mkF m 26 #[.val (.ref a), .val (.int (1 : Int32)), .val (.ref uA), .val (.ref lA), .val (.ref lA), .unset, .unset, .unset, .unset, .unset] [(.ref a)])) rfl rfl (hb hby d6_26)
    refine Go.movp st219 (mkF m 29 #[.val (.ref a), .val (.int (1 : Int32)), .val (.ref uA), .val (.ref lA), .val (.ref lA), .unset, .unset, .unset, .unset, .unset] [(.int f)]) rfl ?_
    refine g_istore X219 hx (hb hby d6_29) (pc' := 31) rfl (Ls' := #[.val (.ref a), .val (.int (1 : Int32)), .val (.ref uA), .val (.ref lA), .val (.ref lA), .val (.int f), .unset, .unset, .unset, .unset]) rfl ?_
    refine g_aloadN X219 hx (hb hby d6_31) (pc' := 32) rfl rfl rfl ?_
    obtain ⟨T220, X220, e220, st220⟩ := getF X219 hx hZ hown (host := "") (Or.inl (hw _ (List.mem_of_getElem? (i := 55) rfl))) (Via.of (hw _ (List.mem_of_getElem? (i := 56) rfl))) e219 F_last (g := (mkF m 32 #[.val (.ref a), .val (.int (1 : Int32)), .val (.ref uA), .val (.ref lA), .val (.ref lA), .val (.int f), .unset, .unset, .unset, .unset] [(.ref a)])) rfl rfl (hb hby d6_32)
    refine Go.movp st220 (mkF m 35 #[.val (.ref a), .val (.int (1 : Int32)), .val (.ref uA), .val (.ref lA), .val (.ref lA), .val (.int f), .unset, .unset, .unset, .unset] [(.int la)]) rfl ?_
    refine g_istore X220 hx (hb hby d6_35) (pc' := 37) rfl (Ls' := #[.val (.ref a), .val (.int (1 : Int32)), .val (.ref uA), .val (.ref lA), .val (.ref lA), .val (.int f), .val (.int la), .unset, .unset, .unset]) rfl ?_
    refine g_aloadN X220 hx (hb hby d6_37) (pc' := 38) rfl rfl rfl ?_
    obtain ⟨T221, X221, e221, st221⟩ := getF X220 hx hZ hown (host := "") (Or.inl (hw _ (List.mem_of_getElem? (i := 57) rfl))) (Via.of (hw _ (List.mem_of_getElem? (i := 58) rfl))) e220 F_middle (g := (mkF m 38 #[.val (.ref a), .val (.int (1 : Int32)), .val (.ref uA), .val (.ref lA), .val (.ref lA), .val (.int f), .val (.int la), .unset, .unset, .unset] [(.ref a)])) rfl rfl (hb hby d6_38)
    refine Go.movp st221 (mkF m 41 #[.val (.ref a), .val (.int (1 : Int32)), .val (.ref uA), .val (.ref lA), .val (.ref lA), .val (.int f), .val (.int la), .unset, .unset, .unset] [(.int mi)]) rfl ?_
    refine g_istore X221 hx (hb hby d6_41) (pc' := 43) rfl (Ls' := #[.val (.ref a), .val (.int (1 : Int32)), .val (.ref uA), .val (.ref lA), .val (.ref lA), .val (.int f), .val (.int la), .val (.int mi), .unset, .unset]) rfl ?_
    refine g_iconst X221 hx (hb hby d6_43) (pc' := 44) rfl (z := (0 : Int32)) rfl ?_
    refine g_istore X221 hx (hb hby d6_44) (pc' := 46) rfl (Ls' := #[.val (.ref a), .val (.int (1 : Int32)), .val (.ref uA), .val (.ref lA), .val (.ref lA), .val (.int f), .val (.int la), .val (.int mi), .val (.int (0 : Int32)), .unset]) rfl ?_
    refine g_iload X221 hx (hb hby d6_46) (pc' := 48) rfl rfl ?_
    refine g_iloadN X221 hx (hb hby d6_48) (pc' := 49) rfl rfl ?_
    refine g_icmp_ge X221 hx (hb hby d6_49) (pc1 := 52) rfl (by decide) (pc2 := 101) (by decide) (fun hc49 => absurd (by decide) hc49) (fun hc49 => ?_)
    refine g_aloadN X221 hx (hb hby d6_52) (pc' := 53) rfl rfl rfl ?_
    refine g_iload X221 hx (hb hby d6_53) (pc' := 55) rfl rfl ?_
    refine g_caload X221 hx hZ e221 V_uA (i := 0) (v := (.int u0)) (hb hby d6_55) (pc' := 56) rfl (by decide) rfl rfl ?_
    refine g_iload X221 hx (hb hby d6_56) (pc' := 58) rfl rfl ?_
    refine g_ixor X221 hx (hb hby d6_58) (pc' := 59) rfl ?_
    refine g_aloadN X221 hx (hb hby d6_59) (pc' := 60) rfl rfl rfl ?_
    refine g_iload X221 hx (hb hby d6_60) (pc' := 62) rfl rfl ?_
    refine g_caload X221 hx hZ e221 V_lA (i := 0) (v := (.int l0)) (hb hby d6_62) (pc' := 63) rfl (by decide) rfl rfl ?_
    refine g_iload X221 hx (hb hby d6_63) (pc' := 65) rfl rfl ?_
    refine g_ixor X221 hx (hb hby d6_65) (pc' := 66) rfl ?_
    refine g_ior X221 hx (hb hby d6_66) (pc' := 67) rfl ?_
    refine g_aload X221 hx (hb hby d6_67) (pc' := 69) rfl rfl rfl ?_
    refine g_iload X221 hx (hb hby d6_69) (pc' := 71) rfl rfl ?_
    refine g_caload X221 hx hZ e221 V_lA (i := 0) (v := (.int l0)) (hb hby d6_71) (pc' := 72) rfl (by decide) rfl rfl ?_
    refine g_iload X221 hx (hb hby d6_72) (pc' := 74) rfl rfl ?_
    refine g_ixor X221 hx (hb hby d6_74) (pc' := 75) rfl ?_
    refine g_ior X221 hx (hb hby d6_75) (pc' := 76) rfl ?_
    refine Go.cast (show (mkF m 76 #[.val (.ref a), .val (.int (1 : Int32)), .val (.ref uA), .val (.ref lA), .val (.ref lA), .val (.int f), .val (.int la), .val (.int mi), .val (.int (0 : Int32)), .unset] [(.int (((u0 ^^^ f) ||| (l0 ^^^ la)) ||| (l0 ^^^ mi)))]) = (mkF m 76 #[.val (.ref a), .val (.int (1 : Int32)), .val (.ref uA), .val (.ref lA), .val (.ref lA), .val (.int f), .val (.int la), .val (.int mi), .val (.int (0 : Int32)), .unset] [(.int (zV u0 l0 l0 f la mi))]) from by rw [show (((u0 ^^^ f) ||| (l0 ^^^ la)) ||| (l0 ^^^ mi)) = (zV u0 l0 l0 f la mi) from rfl]) ?_
    refine g_istore X221 hx (hb hby d6_76) (pc' := 78) rfl (Ls' := #[.val (.ref a), .val (.int (1 : Int32)), .val (.ref uA), .val (.ref lA), .val (.ref lA), .val (.int f), .val (.int la), .val (.int mi), .val (.int (0 : Int32)), .val (.int (zV u0 l0 l0 f la mi))]) rfl ?_
    refine g_aloadN X221 hx (hb hby d6_78) (pc' := 79) rfl rfl rfl ?_
    refine g_iload X221 hx (hb hby d6_79) (pc' := 81) rfl rfl ?_
    refine g_iload X221 hx (hb hby d6_81) (pc' := 83) rfl rfl ?_
    refine g_iconst X221 hx (hb hby d6_83) (pc' := 84) rfl (z := (1 : Int32)) rfl ?_
    refine g_isub X221 hx (hb hby d6_84) (pc' := 85) rfl ?_
    refine g_iload X221 hx (hb hby d6_85) (pc' := 87) rfl rfl ?_
    refine g_iconst X221 hx (hb hby d6_87) (pc' := 88) rfl (z := (-1 : Int32)) rfl ?_
    refine g_ixor X221 hx (hb hby d6_88) (pc' := 89) rfl ?_
    refine g_iand X221 hx (hb hby d6_89) (pc' := 90) rfl ?_
    refine g_ldc X221 hx hZ hown (hw _ (List.mem_of_getElem? (i := 59) rfl)) (hb hby d6_90) (pc' := 92) rfl ?_
    refine g_iand X221 hx (hb hby d6_92) (pc' := 93) rfl ?_
    refine g_i2c X221 hx (hb hby d6_93) (pc' := 94) rfl ?_
    refine Go.cast (show (mkF m 94 #[.val (.ref a), .val (.int (1 : Int32)), .val (.ref uA), .val (.ref lA), .val (.ref lA), .val (.int f), .val (.int la), .val (.int mi), .val (.int (0 : Int32)), .val (.int (zV u0 l0 l0 f la mi))] [(.int (chr ((((zV u0 l0 l0 f la mi) - (1 : Int32)) &&& ((zV u0 l0 l0 f la mi) ^^^ (-1 : Int32))) &&& (32768 : Int32)))), (.int (0 : Int32)), (.ref uA)]) = (mkF m 94 #[.val (.ref a), .val (.int (1 : Int32)), .val (.ref uA), .val (.ref lA), .val (.ref lA), .val (.int f), .val (.int la), .val (.int mi), .val (.int (0 : Int32)), .val (.int (zV u0 l0 l0 f la mi))] [(.int (mkV u0 l0 l0 f la mi)), (.int (0 : Int32)), (.ref uA)]) from by rw [show (chr ((((zV u0 l0 l0 f la mi) - (1 : Int32)) &&& ((zV u0 l0 l0 f la mi) ^^^ (-1 : Int32))) &&& (32768 : Int32))) = (mkV u0 l0 l0 f la mi) from rfl]) ?_
    obtain ⟨T222, h222, L222, X222, e222, N222, W222, V222, st222⟩ := h_castore X221 hx hZ e221 N0 V_uA G1 (j := (0 : Int32)) (i := 0) (x := (mkV u0 l0 l0 f la mi)) (hb hby d6_94) (by decide) rfl rfl #[.val (.ref a), .val (.int (1 : Int32)), .val (.ref uA), .val (.ref lA), .val (.ref lA), .val (.int f), .val (.int la), .val (.int mi), .val (.int (0 : Int32)), .val (.int (zV u0 l0 l0 f la mi))] []
    have f223 := Fld.other W222 F_units (Or.inl ne_a)
    have f224 := Fld.other W222 F_lasts (Or.inl ne_a)
    have f225 := Fld.other W222 F_middles (Or.inl ne_a)
    have f226 := Fld.other W222 F_first (Or.inl ne_a)
    have f227 := Fld.other W222 F_last (Or.inl ne_a)
    have f228 := Fld.other W222 F_middle (Or.inl ne_a)
    have f229 := Exa.wr W222 X_uA
    have f230 := V_lA.other W222 ne_lA
    have f231 := Exa.wr W222 X_lA
    have Z232 : n0 ≤ h222.size := Nat.le_trans Z0 (Keep.of_wr W222).1
    have K233 := (Keep.refl h0 [uA]).wr W222 (Or.inl (List.mem_of_getElem? (i := 0) rfl))
    have f234 : Va Z h222 uA .char [(.int (chr (mkV u0 l0 l0 f la mi))), (.int u1)] := V222
    have f235 : Va Z h222 uA .char [(.int (mkV u0 l0 l0 f la mi)), (.int u1)] := by rw [show (chr (mkV u0 l0 l0 f la mi)) = (mkV u0 l0 l0 f la mi) from chr_chr _] at f234; exact f234
    refine Go.movp st222 (mkF m 95 #[.val (.ref a), .val (.int (1 : Int32)), .val (.ref uA), .val (.ref lA), .val (.ref lA), .val (.int f), .val (.int la), .val (.int mi), .val (.int (0 : Int32)), .val (.int (zV u0 l0 l0 f la mi))] []) rfl ?_
    refine g_iinc X222 hx (hb hby d6_95) (pc' := 98) rfl rfl (z := (1 : Int32)) rfl (Ls' := #[.val (.ref a), .val (.int (1 : Int32)), .val (.ref uA), .val (.ref lA), .val (.ref lA), .val (.int f), .val (.int la), .val (.int mi), .val (.int (1 : Int32)), .val (.int (zV u0 l0 l0 f la mi))]) rfl ?_
    refine g_goto X222 hx (hb hby d6_98) (by decide) (pc' := 46) (by decide) ?_
    refine g_iload X222 hx (hb hby d6_46) (pc' := 48) rfl rfl ?_
    refine g_iloadN X222 hx (hb hby d6_48) (pc' := 49) rfl rfl ?_
    refine g_icmp_ge X222 hx (hb hby d6_49) (pc1 := 52) rfl (by decide) (pc2 := 101) (by decide) (fun hc49_1 => ?_) (fun hc49_1 => absurd hc49_1 (by decide))
    exact g_return X222 hx hret (hb hby d6_101) N222 hlk (fun v t => endF (by decide) (by decide) v) (by rw [e222]; exact ⟨rfl, K233, Va.eq f235 (by rw [hx0, hx1])⟩)
  · skip
    have hx0 := hw0.trans (if_pos (by decide))
    have hx1 := hw1.trans (if_pos (by decide))
    refine g_aloadN X0 hx (hb hby d6_0) (pc' := 1) rfl rfl rfl ?_
    obtain ⟨T236, X236, e236, st236⟩ := getF X0 hx hZ hown (host := "") (Or.inl (hw _ (List.mem_of_getElem? (i := 48) rfl))) (Via.of (hw _ (List.mem_of_getElem? (i := 35) rfl))) e0 F_units (g := (mkF m 1 #[.val (.ref a), .val (.int (2 : Int32)), .unset, .unset, .unset, .unset, .unset, .unset, .unset, .unset] [(.ref a)])) rfl rfl (hb hby d6_1)
    refine Go.movp st236 (mkF m 4 #[.val (.ref a), .val (.int (2 : Int32)), .unset, .unset, .unset, .unset, .unset, .unset, .unset, .unset] [(.ref uA)]) rfl ?_
    obtain ⟨T237, X237, e237, st237⟩ := castY X236 hx hZ hown (hw _ (List.mem_of_getElem? (i := 49) rfl)) e236 (Ins.self X_uA) (g := (mkF m 4 #[.val (.ref a), .val (.int (2 : Int32)), .unset, .unset, .unset, .unset, .unset, .unset, .unset, .unset] [(.ref uA)])) rfl rfl (hb hby d6_4)
    refine Go.movp st237 (mkF m 7 #[.val (.ref a), .val (.int (2 : Int32)), .unset, .unset, .unset, .unset, .unset, .unset, .unset, .unset] [(.ref uA)]) rfl ?_
    refine g_astoreN X237 hx (hb hby d6_7) (pc' := 8) rfl rfl (Ls' := #[.val (.ref a), .val (.int (2 : Int32)), .val (.ref uA), .unset, .unset, .unset, .unset, .unset, .unset, .unset]) rfl ?_
    refine g_aloadN X237 hx (hb hby d6_8) (pc' := 9) rfl rfl rfl ?_
    obtain ⟨T238, X238, e238, st238⟩ := getF X237 hx hZ hown (host := "") (Or.inl (hw _ (List.mem_of_getElem? (i := 51) rfl))) (Via.of (hw _ (List.mem_of_getElem? (i := 38) rfl))) e237 F_lasts (g := (mkF m 9 #[.val (.ref a), .val (.int (2 : Int32)), .val (.ref uA), .unset, .unset, .unset, .unset, .unset, .unset, .unset] [(.ref a)])) rfl rfl (hb hby d6_9)
    refine Go.movp st238 (mkF m 12 #[.val (.ref a), .val (.int (2 : Int32)), .val (.ref uA), .unset, .unset, .unset, .unset, .unset, .unset, .unset] [(.ref lA)]) rfl ?_
    obtain ⟨T239, X239, e239, st239⟩ := castY X238 hx hZ hown (hw _ (List.mem_of_getElem? (i := 49) rfl)) e238 (Ins.self X_lA) (g := (mkF m 12 #[.val (.ref a), .val (.int (2 : Int32)), .val (.ref uA), .unset, .unset, .unset, .unset, .unset, .unset, .unset] [(.ref lA)])) rfl rfl (hb hby d6_12)
    refine Go.movp st239 (mkF m 15 #[.val (.ref a), .val (.int (2 : Int32)), .val (.ref uA), .unset, .unset, .unset, .unset, .unset, .unset, .unset] [(.ref lA)]) rfl ?_
    refine g_astoreN X239 hx (hb hby d6_15) (pc' := 16) rfl rfl (Ls' := #[.val (.ref a), .val (.int (2 : Int32)), .val (.ref uA), .val (.ref lA), .unset, .unset, .unset, .unset, .unset, .unset]) rfl ?_
    refine g_aloadN X239 hx (hb hby d6_16) (pc' := 17) rfl rfl rfl ?_
    obtain ⟨T240, X240, e240, st240⟩ := getF X239 hx hZ hown (host := "") (Or.inl (hw _ (List.mem_of_getElem? (i := 52) rfl))) (Via.of (hw _ (List.mem_of_getElem? (i := 41) rfl))) e239 F_middles (g := (mkF m 17 #[.val (.ref a), .val (.int (2 : Int32)), .val (.ref uA), .val (.ref lA), .unset, .unset, .unset, .unset, .unset, .unset] [(.ref a)])) rfl rfl (hb hby d6_17)
    refine Go.movp st240 (mkF m 20 #[.val (.ref a), .val (.int (2 : Int32)), .val (.ref uA), .val (.ref lA), .unset, .unset, .unset, .unset, .unset, .unset] [(.ref lA)]) rfl ?_
    obtain ⟨T241, X241, e241, st241⟩ := castY X240 hx hZ hown (hw _ (List.mem_of_getElem? (i := 49) rfl)) e240 (Ins.self X_lA) (g := (mkF m 20 #[.val (.ref a), .val (.int (2 : Int32)), .val (.ref uA), .val (.ref lA), .unset, .unset, .unset, .unset, .unset, .unset] [(.ref lA)])) rfl rfl (hb hby d6_20)
    refine Go.movp st241 (mkF m 23 #[.val (.ref a), .val (.int (2 : Int32)), .val (.ref uA), .val (.ref lA), .unset, .unset, .unset, .unset, .unset, .unset] [(.ref lA)]) rfl ?_
    refine g_astore X241 hx (hb hby d6_23) (pc' := 25) rfl rfl (Ls' := #[.val (.ref a), .val (.int (2 : Int32)), .val (.ref uA), .val (.ref lA), .val (.ref lA), .unset, .unset, .unset, .unset, .unset]) rfl ?_
    refine g_aloadN X241 hx (hb hby d6_25) (pc' := 26) rfl rfl rfl ?_
    obtain ⟨T242, X242, e242, st242⟩ := getF X241 hx hZ hown (host := "") (Or.inl (hw _ (List.mem_of_getElem? (i := 53) rfl))) (Via.of (hw _ (List.mem_of_getElem? (i := 54) rfl))) e241 F_first (g := (mkF m 26 #[.val (.ref a), .val (.int (2 : Int32)), .val (.ref uA), .val (.ref lA), .val (.ref lA), .unset, .unset, .unset, .unset, .unset] [(.ref a)])) rfl rfl (hb hby d6_26)
    refine Go.movp st242 (mkF m 29 #[.val (.ref a), .val (.int (2 : Int32)), .val (.ref uA), .val (.ref lA), .val (.ref lA), .unset, .unset, .unset, .unset, .unset] [(.int f)]) rfl ?_
    refine g_istore X242 hx (hb hby d6_29) (pc' := 31) rfl (Ls' := #[.val (.ref a), .val (.int (2 : Int32)), .val (.ref uA), .val (.ref lA), .val (.ref lA), .val (.int f), .unset, .unset, .unset, .unset]) rfl ?_
    refine g_aloadN X242 hx (hb hby d6_31) (pc' := 32) rfl rfl rfl ?_
    obtain ⟨T243, X243, e243, st243⟩ := getF X242 hx hZ hown (host := "") (Or.inl (hw _ (List.mem_of_getElem? (i := 55) rfl))) (Via.of (hw _ (List.mem_of_getElem? (i := 56) rfl))) e242 F_last (g := (mkF m 32 #[.val (.ref a), .val (.int (2 : Int32)), .val (.ref uA), .val (.ref lA), .val (.ref lA), .val (.int f), .unset, .unset, .unset, .unset] [(.ref a)])) rfl rfl (hb hby d6_32)
    refine Go.movp st243 (mkF m 35 #[.val (.ref a), .val (.int (2 : Int32)), .val (.ref uA), .val (.ref lA), .val (.ref lA), .val (.int f), .unset, .unset, .unset, .unset] [(.int la)]) rfl ?_
    refine g_istore X243 hx (hb hby d6_35) (pc' := 37) rfl (Ls' := #[.val (.ref a), .val (.int (2 : Int32)), .val (.ref uA), .val (.ref lA), .val (.ref lA), .val (.int f), .val (.int la), .unset, .unset, .unset]) rfl ?_
    refine g_aloadN X243 hx (hb hby d6_37) (pc' := 38) rfl rfl rfl ?_
    obtain ⟨T244, X244, e244, st244⟩ := getF X243 hx hZ hown (host := "") (Or.inl (hw _ (List.mem_of_getElem? (i := 57) rfl))) (Via.of (hw _ (List.mem_of_getElem? (i := 58) rfl))) e243 F_middle (g := (mkF m 38 #[.val (.ref a), .val (.int (2 : Int32)), .val (.ref uA), .val (.ref lA), .val (.ref lA), .val (.int f), .val (.int la), .unset, .unset, .unset] [(.ref a)])) rfl rfl (hb hby d6_38)
    refine Go.movp st244 (mkF m 41 #[.val (.ref a), .val (.int (2 : Int32)), .val (.ref uA), .val (.ref lA), .val (.ref lA), .val (.int f), .val (.int la), .unset, .unset, .unset] [(.int mi)]) rfl ?_
    refine g_istore X244 hx (hb hby d6_41) (pc' := 43) rfl (Ls' := #[.val (.ref a), .val (.int (2 : Int32)), .val (.ref uA), .val (.ref lA), .val (.ref lA), .val (.int f), .val (.int la), .val (.int mi), .unset, .unset]) rfl ?_
    refine g_iconst X244 hx (hb hby d6_43) (pc' := 44) rfl (z := (0 : Int32)) rfl ?_
    refine g_istore X244 hx (hb hby d6_44) (pc' := 46) rfl (Ls' := #[.val (.ref a), .val (.int (2 : Int32)), .val (.ref uA), .val (.ref lA), .val (.ref lA), .val (.int f), .val (.int la), .val (.int mi), .val (.int (0 : Int32)), .unset]) rfl ?_
    refine g_iload X244 hx (hb hby d6_46) (pc' := 48) rfl rfl ?_
    refine g_iloadN X244 hx (hb hby d6_48) (pc' := 49) rfl rfl ?_
    refine g_icmp_ge X244 hx (hb hby d6_49) (pc1 := 52) rfl (by decide) (pc2 := 101) (by decide) (fun hc49 => absurd (by decide) hc49) (fun hc49 => ?_)
    refine g_aloadN X244 hx (hb hby d6_52) (pc' := 53) rfl rfl rfl ?_
    refine g_iload X244 hx (hb hby d6_53) (pc' := 55) rfl rfl ?_
    refine g_caload X244 hx hZ e244 V_uA (i := 0) (v := (.int u0)) (hb hby d6_55) (pc' := 56) rfl (by decide) rfl rfl ?_
    refine g_iload X244 hx (hb hby d6_56) (pc' := 58) rfl rfl ?_
    refine g_ixor X244 hx (hb hby d6_58) (pc' := 59) rfl ?_
    refine g_aloadN X244 hx (hb hby d6_59) (pc' := 60) rfl rfl rfl ?_
    refine g_iload X244 hx (hb hby d6_60) (pc' := 62) rfl rfl ?_
    refine g_caload X244 hx hZ e244 V_lA (i := 0) (v := (.int l0)) (hb hby d6_62) (pc' := 63) rfl (by decide) rfl rfl ?_
    refine g_iload X244 hx (hb hby d6_63) (pc' := 65) rfl rfl ?_
    refine g_ixor X244 hx (hb hby d6_65) (pc' := 66) rfl ?_
    refine g_ior X244 hx (hb hby d6_66) (pc' := 67) rfl ?_
    refine g_aload X244 hx (hb hby d6_67) (pc' := 69) rfl rfl rfl ?_
    refine g_iload X244 hx (hb hby d6_69) (pc' := 71) rfl rfl ?_
    refine g_caload X244 hx hZ e244 V_lA (i := 0) (v := (.int l0)) (hb hby d6_71) (pc' := 72) rfl (by decide) rfl rfl ?_
    refine g_iload X244 hx (hb hby d6_72) (pc' := 74) rfl rfl ?_
    refine g_ixor X244 hx (hb hby d6_74) (pc' := 75) rfl ?_
    refine g_ior X244 hx (hb hby d6_75) (pc' := 76) rfl ?_
    refine Go.cast (show (mkF m 76 #[.val (.ref a), .val (.int (2 : Int32)), .val (.ref uA), .val (.ref lA), .val (.ref lA), .val (.int f), .val (.int la), .val (.int mi), .val (.int (0 : Int32)), .unset] [(.int (((u0 ^^^ f) ||| (l0 ^^^ la)) ||| (l0 ^^^ mi)))]) = (mkF m 76 #[.val (.ref a), .val (.int (2 : Int32)), .val (.ref uA), .val (.ref lA), .val (.ref lA), .val (.int f), .val (.int la), .val (.int mi), .val (.int (0 : Int32)), .unset] [(.int (zV u0 l0 l0 f la mi))]) from by rw [show (((u0 ^^^ f) ||| (l0 ^^^ la)) ||| (l0 ^^^ mi)) = (zV u0 l0 l0 f la mi) from rfl]) ?_
    refine g_istore X244 hx (hb hby d6_76) (pc' := 78) rfl (Ls' := #[.val (.ref a), .val (.int (2 : Int32)), .val (.ref uA), .val (.ref lA), .val (.ref lA), .val (.int f), .val (.int la), .val (.int mi), .val (.int (0 : Int32)), .val (.int (zV u0 l0 l0 f la mi))]) rfl ?_
    refine g_aloadN X244 hx (hb hby d6_78) (pc' := 79) rfl rfl rfl ?_
    refine g_iload X244 hx (hb hby d6_79) (pc' := 81) rfl rfl ?_
    refine g_iload X244 hx (hb hby d6_81) (pc' := 83) rfl rfl ?_
    refine g_iconst X244 hx (hb hby d6_83) (pc' := 84) rfl (z := (1 : Int32)) rfl ?_
    refine g_isub X244 hx (hb hby d6_84) (pc' := 85) rfl ?_
    refine g_iload X244 hx (hb hby d6_85) (pc' := 87) rfl rfl ?_
    refine g_iconst X244 hx (hb hby d6_87) (pc' := 88) rfl (z := (-1 : Int32)) rfl ?_
    refine g_ixor X244 hx (hb hby d6_88) (pc' := 89) rfl ?_
    refine g_iand X244 hx (hb hby d6_89) (pc' := 90) rfl ?_
    refine g_ldc X244 hx hZ hown (hw _ (List.mem_of_getElem? (i := 59) rfl)) (hb hby d6_90) (pc' := 92) rfl ?_
    refine g_iand X244 hx (hb hby d6_92) (pc' := 93) rfl ?_
    refine g_i2c X244 hx (hb hby d6_93) (pc' := 94) rfl ?_
    refine Go.cast (show (mkF m 94 #[.val (.ref a), .val (.int (2 : Int32)), .val (.ref uA), .val (.ref lA), .val (.ref lA), .val (.int f), .val (.int la), .val (.int mi), .val (.int (0 : Int32)), .val (.int (zV u0 l0 l0 f la mi))] [(.int (chr ((((zV u0 l0 l0 f la mi) - (1 : Int32)) &&& ((zV u0 l0 l0 f la mi) ^^^ (-1 : Int32))) &&& (32768 : Int32)))), (.int (0 : Int32)), (.ref uA)]) = (mkF m 94 #[.val (.ref a), .val (.int (2 : Int32)), .val (.ref uA), .val (.ref lA), .val (.ref lA), .val (.int f), .val (.int la), .val (.int mi), .val (.int (0 : Int32)), .val (.int (zV u0 l0 l0 f la mi))] [(.int (mkV u0 l0 l0 f la mi)), (.int (0 : Int32)), (.ref uA)]) from by rw [show (chr ((((zV u0 l0 l0 f la mi) - (1 : Int32)) &&& ((zV u0 l0 l0 f la mi) ^^^ (-1 : Int32))) &&& (32768 : Int32))) = (mkV u0 l0 l0 f la mi) from rfl]) ?_
    obtain ⟨T245, h245, L245, X245, e245, N245, W245, V245, st245⟩ := h_castore X244 hx hZ e244 N0 V_uA G1 (j := (0 : Int32)) (i := 0) (x := (mkV u0 l0 l0 f la mi)) (hb hby d6_94) (by decide) rfl rfl #[.val (.ref a), .val (.int (2 : Int32)), .val (.ref uA), .val (.ref lA), .val (.ref lA), .val (.int f), .val (.int la), .val (.int mi), .val (.int (0 : Int32)), .val (.int (zV u0 l0 l0 f la mi))] []
    have f246 := Fld.other W245 F_units (Or.inl ne_a)
    have f247 := Fld.other W245 F_lasts (Or.inl ne_a)
    have f248 := Fld.other W245 F_middles (Or.inl ne_a)
    have f249 := Fld.other W245 F_first (Or.inl ne_a)
    have f250 := Fld.other W245 F_last (Or.inl ne_a)
    have f251 := Fld.other W245 F_middle (Or.inl ne_a)
    have f252 := Exa.wr W245 X_uA
    have f253 := V_lA.other W245 ne_lA
    have f254 := Exa.wr W245 X_lA
    have Z255 : n0 ≤ h245.size := Nat.le_trans Z0 (Keep.of_wr W245).1
    have K256 := (Keep.refl h0 [uA]).wr W245 (Or.inl (List.mem_of_getElem? (i := 0) rfl))
    have f257 : Va Z h245 uA .char [(.int (chr (mkV u0 l0 l0 f la mi))), (.int u1)] := V245
    have f258 : Va Z h245 uA .char [(.int (mkV u0 l0 l0 f la mi)), (.int u1)] := by rw [show (chr (mkV u0 l0 l0 f la mi)) = (mkV u0 l0 l0 f la mi) from chr_chr _] at f257; exact f257
    refine Go.movp st245 (mkF m 95 #[.val (.ref a), .val (.int (2 : Int32)), .val (.ref uA), .val (.ref lA), .val (.ref lA), .val (.int f), .val (.int la), .val (.int mi), .val (.int (0 : Int32)), .val (.int (zV u0 l0 l0 f la mi))] []) rfl ?_
    refine g_iinc X245 hx (hb hby d6_95) (pc' := 98) rfl rfl (z := (1 : Int32)) rfl (Ls' := #[.val (.ref a), .val (.int (2 : Int32)), .val (.ref uA), .val (.ref lA), .val (.ref lA), .val (.int f), .val (.int la), .val (.int mi), .val (.int (1 : Int32)), .val (.int (zV u0 l0 l0 f la mi))]) rfl ?_
    refine g_goto X245 hx (hb hby d6_98) (by decide) (pc' := 46) (by decide) ?_
    refine g_iload X245 hx (hb hby d6_46) (pc' := 48) rfl rfl ?_
    refine g_iloadN X245 hx (hb hby d6_48) (pc' := 49) rfl rfl ?_
    refine g_icmp_ge X245 hx (hb hby d6_49) (pc1 := 52) rfl (by decide) (pc2 := 101) (by decide) (fun hc49_1 => absurd (by decide) hc49_1) (fun hc49_1 => ?_)
    refine g_aloadN X245 hx (hb hby d6_52) (pc' := 53) rfl rfl rfl ?_
    refine g_iload X245 hx (hb hby d6_53) (pc' := 55) rfl rfl ?_
    refine g_caload X245 hx hZ e245 f258 (i := 1) (v := (.int u1)) (hb hby d6_55) (pc' := 56) rfl (by decide) rfl rfl ?_
    refine g_iload X245 hx (hb hby d6_56) (pc' := 58) rfl rfl ?_
    refine g_ixor X245 hx (hb hby d6_58) (pc' := 59) rfl ?_
    refine g_aloadN X245 hx (hb hby d6_59) (pc' := 60) rfl rfl rfl ?_
    refine g_iload X245 hx (hb hby d6_60) (pc' := 62) rfl rfl ?_
    refine g_caload X245 hx hZ e245 f253 (i := 1) (v := (.int l1)) (hb hby d6_62) (pc' := 63) rfl (by decide) rfl rfl ?_
    refine g_iload X245 hx (hb hby d6_63) (pc' := 65) rfl rfl ?_
    refine g_ixor X245 hx (hb hby d6_65) (pc' := 66) rfl ?_
    refine g_ior X245 hx (hb hby d6_66) (pc' := 67) rfl ?_
    refine g_aload X245 hx (hb hby d6_67) (pc' := 69) rfl rfl rfl ?_
    refine g_iload X245 hx (hb hby d6_69) (pc' := 71) rfl rfl ?_
    refine g_caload X245 hx hZ e245 f253 (i := 1) (v := (.int l1)) (hb hby d6_71) (pc' := 72) rfl (by decide) rfl rfl ?_
    refine g_iload X245 hx (hb hby d6_72) (pc' := 74) rfl rfl ?_
    refine g_ixor X245 hx (hb hby d6_74) (pc' := 75) rfl ?_
    refine g_ior X245 hx (hb hby d6_75) (pc' := 76) rfl ?_
    refine Go.cast (show (mkF m 76 #[.val (.ref a), .val (.int (2 : Int32)), .val (.ref uA), .val (.ref lA), .val (.ref lA), .val (.int f), .val (.int la), .val (.int mi), .val (.int (1 : Int32)), .val (.int (zV u0 l0 l0 f la mi))] [(.int (((u1 ^^^ f) ||| (l1 ^^^ la)) ||| (l1 ^^^ mi)))]) = (mkF m 76 #[.val (.ref a), .val (.int (2 : Int32)), .val (.ref uA), .val (.ref lA), .val (.ref lA), .val (.int f), .val (.int la), .val (.int mi), .val (.int (1 : Int32)), .val (.int (zV u0 l0 l0 f la mi))] [(.int (zV u1 l1 l1 f la mi))]) from by rw [show (((u1 ^^^ f) ||| (l1 ^^^ la)) ||| (l1 ^^^ mi)) = (zV u1 l1 l1 f la mi) from rfl]) ?_
    refine g_istore X245 hx (hb hby d6_76) (pc' := 78) rfl (Ls' := #[.val (.ref a), .val (.int (2 : Int32)), .val (.ref uA), .val (.ref lA), .val (.ref lA), .val (.int f), .val (.int la), .val (.int mi), .val (.int (1 : Int32)), .val (.int (zV u1 l1 l1 f la mi))]) rfl ?_
    refine g_aloadN X245 hx (hb hby d6_78) (pc' := 79) rfl rfl rfl ?_
    refine g_iload X245 hx (hb hby d6_79) (pc' := 81) rfl rfl ?_
    refine g_iload X245 hx (hb hby d6_81) (pc' := 83) rfl rfl ?_
    refine g_iconst X245 hx (hb hby d6_83) (pc' := 84) rfl (z := (1 : Int32)) rfl ?_
    refine g_isub X245 hx (hb hby d6_84) (pc' := 85) rfl ?_
    refine g_iload X245 hx (hb hby d6_85) (pc' := 87) rfl rfl ?_
    refine g_iconst X245 hx (hb hby d6_87) (pc' := 88) rfl (z := (-1 : Int32)) rfl ?_
    refine g_ixor X245 hx (hb hby d6_88) (pc' := 89) rfl ?_
    refine g_iand X245 hx (hb hby d6_89) (pc' := 90) rfl ?_
    refine g_ldc X245 hx hZ hown (hw _ (List.mem_of_getElem? (i := 59) rfl)) (hb hby d6_90) (pc' := 92) rfl ?_
    refine g_iand X245 hx (hb hby d6_92) (pc' := 93) rfl ?_
    refine g_i2c X245 hx (hb hby d6_93) (pc' := 94) rfl ?_
    refine Go.cast (show (mkF m 94 #[.val (.ref a), .val (.int (2 : Int32)), .val (.ref uA), .val (.ref lA), .val (.ref lA), .val (.int f), .val (.int la), .val (.int mi), .val (.int (1 : Int32)), .val (.int (zV u1 l1 l1 f la mi))] [(.int (chr ((((zV u1 l1 l1 f la mi) - (1 : Int32)) &&& ((zV u1 l1 l1 f la mi) ^^^ (-1 : Int32))) &&& (32768 : Int32)))), (.int (1 : Int32)), (.ref uA)]) = (mkF m 94 #[.val (.ref a), .val (.int (2 : Int32)), .val (.ref uA), .val (.ref lA), .val (.ref lA), .val (.int f), .val (.int la), .val (.int mi), .val (.int (1 : Int32)), .val (.int (zV u1 l1 l1 f la mi))] [(.int (mkV u1 l1 l1 f la mi)), (.int (1 : Int32)), (.ref uA)]) from by rw [show (chr ((((zV u1 l1 l1 f la mi) - (1 : Int32)) &&& ((zV u1 l1 l1 f la mi) ^^^ (-1 : Int32))) &&& (32768 : Int32))) = (mkV u1 l1 l1 f la mi) from rfl]) ?_
    obtain ⟨T259, h259, L259, X259, e259, N259, W259, V259, st259⟩ := h_castore X245 hx hZ e245 N245 f258 G1 (j := (1 : Int32)) (i := 1) (x := (mkV u1 l1 l1 f la mi)) (hb hby d6_94) (by decide) rfl rfl #[.val (.ref a), .val (.int (2 : Int32)), .val (.ref uA), .val (.ref lA), .val (.ref lA), .val (.int f), .val (.int la), .val (.int mi), .val (.int (1 : Int32)), .val (.int (zV u1 l1 l1 f la mi))] []
    have f260 := Fld.other W259 f246 (Or.inl ne_a)
    have f261 := Fld.other W259 f247 (Or.inl ne_a)
    have f262 := Fld.other W259 f248 (Or.inl ne_a)
    have f263 := Fld.other W259 f249 (Or.inl ne_a)
    have f264 := Fld.other W259 f250 (Or.inl ne_a)
    have f265 := Fld.other W259 f251 (Or.inl ne_a)
    have f266 := Exa.wr W259 f252
    have f267 := f253.other W259 ne_lA
    have f268 := Exa.wr W259 f254
    have Z269 : n0 ≤ h259.size := Nat.le_trans Z255 (Keep.of_wr W259).1
    have K270 := K256.wr W259 (Or.inl (List.mem_of_getElem? (i := 0) rfl))
    have f271 : Va Z h259 uA .char [(.int (mkV u0 l0 l0 f la mi)), (.int (chr (mkV u1 l1 l1 f la mi)))] := V259
    have f272 : Va Z h259 uA .char [(.int (mkV u0 l0 l0 f la mi)), (.int (mkV u1 l1 l1 f la mi))] := by rw [show (chr (mkV u1 l1 l1 f la mi)) = (mkV u1 l1 l1 f la mi) from chr_chr _] at f271; exact f271
    refine Go.movp st259 (mkF m 95 #[.val (.ref a), .val (.int (2 : Int32)), .val (.ref uA), .val (.ref lA), .val (.ref lA), .val (.int f), .val (.int la), .val (.int mi), .val (.int (1 : Int32)), .val (.int (zV u1 l1 l1 f la mi))] []) rfl ?_
    refine g_iinc X259 hx (hb hby d6_95) (pc' := 98) rfl rfl (z := (1 : Int32)) rfl (Ls' := #[.val (.ref a), .val (.int (2 : Int32)), .val (.ref uA), .val (.ref lA), .val (.ref lA), .val (.int f), .val (.int la), .val (.int mi), .val (.int (2 : Int32)), .val (.int (zV u1 l1 l1 f la mi))]) rfl ?_
    refine g_goto X259 hx (hb hby d6_98) (by decide) (pc' := 46) (by decide) ?_
    refine g_iload X259 hx (hb hby d6_46) (pc' := 48) rfl rfl ?_
    refine g_iloadN X259 hx (hb hby d6_48) (pc' := 49) rfl rfl ?_
    refine g_icmp_ge X259 hx (hb hby d6_49) (pc1 := 52) rfl (by decide) (pc2 := 101) (by decide) (fun hc49_2 => ?_) (fun hc49_2 => absurd hc49_2 (by decide))
    exact g_return X259 hx hret (hb hby d6_101) N259 hlk (fun v t => endF (by decide) (by decide) v) (by rw [e259]; exact ⟨rfl, K270, Va.eq f272 (by rw [hx0, hx1])⟩)
theorem own_ok1 {i nn z w X u : Int32} {P : Prop} [Decidable P] (h : i < nn) (hw : w = (if i < nn then X else u)) (hm : X = (if P then (32768 : Int32) else 0)) (hz : z = (if P then (1 : Int32) else 0)) (q : ¬ z = 0) : w = 32768 := by
  rw [if_pos h] at hw; rw [hw, hm]; split
  · rfl
  · rename_i r; rw [if_neg r] at hz; exact absurd hz q
theorem own_ok0 {i nn z w X u : Int32} {P : Prop} [Decidable P] (h : i < nn) (hw : w = (if i < nn then X else u)) (hm : X = (if P then (32768 : Int32) else 0)) (hz : z = (if P then (1 : Int32) else 0)) (q : z = 0) : w = 0 := by
  rw [if_pos h] at hw; rw [hw, hm]; split
  · rename_i r; rw [if_pos r, q] at hz; exact absurd hz (by decide)
  · rfl
theorem pd__II_I : parseMethodDescriptor "(II)I" = some ⟨[.int, .int], some .int⟩ := by decide +kernel
theorem pd__CIII_C : parseMethodDescriptor "(CIII)C" = some ⟨[.char, .int, .int, .int], some .char⟩ := by decide +kernel
theorem pd__CCCII_V : parseMethodDescriptor "(CCCII)V" = some ⟨[.char, .char, .char, .int, .int], none⟩ := by decide +kernel
theorem pd__I_V : parseMethodDescriptor "(I)V" = some ⟨[.int], none⟩ := by decide +kernel
theorem ef_0 (x0 : Int32) (x1 : Int32) (x2 : Int32) (x3 : Int32) (x4 : Int32) (x5 : Int32) (m : MethodId) : entryFrame m #[(.int x0), (.int x1), (.int x2), (.int x3), (.int x4), (.int x5)] maxLocals = mkF m 0 #[.val (.int x0), .val (.int x1), .val (.int x2), .val (.int x3), .val (.int x4), .val (.int x5), .unset, .unset, .unset, .unset, .unset, .unset, .unset, .unset, .unset, .unset, .unset, .unset, .unset, .unset, .unset, .unset, .unset, .unset, .unset, .unset, .unset, .unset, .unset, .unset, .unset, .unset, .unset] [] := by first | (simp [entryFrame, mkF, argsToLocals, Value.category, maxLocals]; done) | rfl
def Q0 (Z : State) (p0 : Int32) (p1 : Int32) (p2 : Int32) (p3 : Int32) (p4 : Int32) (p5 : Int32) (h0 : Heap) (n0 : Nat) : Option Value → Heap → Prop := fun v h => v = some (.int 1)
set_option maxRecDepth 65536 in
set_option maxHeartbeats 40000000 in
theorem rm0 (l : Launch) (Z : State) (a0 : Array Value) (hw : ∀ d ∈ tables_1, d.before a0 Z = true) (p0 : Int32) (p1 : Int32) (p2 : Int32) (p3 : Int32) (p4 : Int32) (p5 : Int32) (h0 : Heap) (n0 : Nat) (Z0 : n0 ≤ h0.size) : Ctr l Z x code maxLocals ret room_1 #[(.int p0), (.int p1), (.int p2), (.int p3), (.int p4), (.int p5)] h0 n0 (Q0 Z p0 p1 p2 p3 p4 p5 h0 n0) := by
  refine Ctr.of (plainFor_of_name pn_2) (ef_0 p0 p1 p2 p3 p4 p5) ?_
  intro p e s m below meth c T0 hx hby hml hown hnm hret hlk hZ X0 e0
  have N0 := Fr.nil n0
  change c.maxLocals = 33 at hml
  change meth.sig.returnType = some .boolean at hret
  refine g_iloadN X0 hx (hb hby at_0) (pc' := 1) rfl rfl ?_
  refine g_i2c X0 hx (hb hby at_1) (pc' := 2) rfl ?_
  refine g_istore X0 hx (hb hby at_2) (pc' := 4) rfl (Ls' := #[.val (.int p0), .val (.int p1), .val (.int p2), .val (.int p3), .val (.int p4), .val (.int p5), .val (.int (chr p0)), .unset, .unset, .unset, .unset, .unset, .unset, .unset, .unset, .unset, .unset, .unset, .unset, .unset, .unset, .unset, .unset, .unset, .unset, .unset, .unset, .unset, .unset, .unset, .unset, .unset, .unset]) rfl ?_
  refine g_iloadN X0 hx (hb hby at_4) (pc' := 5) rfl rfl ?_
  refine g_bipush X0 hx (hb hby at_5) (pc' := 7) rfl (z := (16 : Int32)) rfl ?_
  refine g_iushr X0 hx (hb hby at_7) (pc' := 8) rfl ?_
  refine g_i2c X0 hx (hb hby at_8) (pc' := 9) rfl ?_
  refine g_istore X0 hx (hb hby at_9) (pc' := 11) rfl (Ls' := #[.val (.int p0), .val (.int p1), .val (.int p2), .val (.int p3), .val (.int p4), .val (.int p5), .val (.int (chr p0)), .val (.int (chr (ushr p0 (16 : Int32)))), .unset, .unset, .unset, .unset, .unset, .unset, .unset, .unset, .unset, .unset, .unset, .unset, .unset, .unset, .unset, .unset, .unset, .unset, .unset, .unset, .unset, .unset, .unset, .unset, .unset]) rfl ?_
  refine g_iloadN X0 hx (hb hby at_11) (pc' := 12) rfl rfl ?_
  refine g_i2c X0 hx (hb hby at_12) (pc' := 13) rfl ?_
  refine g_istore X0 hx (hb hby at_13) (pc' := 15) rfl (Ls' := #[.val (.int p0), .val (.int p1), .val (.int p2), .val (.int p3), .val (.int p4), .val (.int p5), .val (.int (chr p0)), .val (.int (chr (ushr p0 (16 : Int32)))), .val (.int (chr p1)), .unset, .unset, .unset, .unset, .unset, .unset, .unset, .unset, .unset, .unset, .unset, .unset, .unset, .unset, .unset, .unset, .unset, .unset, .unset, .unset, .unset, .unset, .unset, .unset]) rfl ?_
  obtain ⟨fi, efi⟩ : ∃ z : Int32, z = (chr p0) := ⟨_, rfl⟩
  refine Go.cast (show (mkF m 15 #[.val (.int p0), .val (.int p1), .val (.int p2), .val (.int p3), .val (.int p4), .val (.int p5), .val (.int (chr p0)), .val (.int (chr (ushr p0 (16 : Int32)))), .val (.int (chr p1)), .unset, .unset, .unset, .unset, .unset, .unset, .unset, .unset, .unset, .unset, .unset, .unset, .unset, .unset, .unset, .unset, .unset, .unset, .unset, .unset, .unset, .unset, .unset, .unset] []) = (mkF m 15 #[.val (.int p0), .val (.int p1), .val (.int p2), .val (.int p3), .val (.int p4), .val (.int p5), .val (.int fi), .val (.int (chr (ushr p0 (16 : Int32)))), .val (.int (chr p1)), .unset, .unset, .unset, .unset, .unset, .unset, .unset, .unset, .unset, .unset, .unset, .unset, .unset, .unset, .unset, .unset, .unset, .unset, .unset, .unset, .unset, .unset, .unset, .unset] []) from by rw [show (chr p0) = fi from efi.symm]) ?_
  have bfi : chr fi = fi := by rw [efi]; exact chr_chr _
  have J273 : ∀ (la : Int32) (bla : chr la = la), Go p e below (EndF s room_1.cells room_1.slots) n0 (Q0 Z p0 p1 p2 p3 p4 p5 h0 n0) T0 (mkF m 29 #[.val (.int p0), .val (.int p1), .val (.int p2), .val (.int p3), .val (.int p4), .val (.int p5), .val (.int fi), .val (.int la), .val (.int (chr p1)), .unset, .unset, .unset, .unset, .unset, .unset, .unset, .unset, .unset, .unset, .unset, .unset, .unset, .unset, .unset, .unset, .unset, .unset, .unset, .unset, .unset, .unset, .unset, .unset] []) := by
    intro  la bla
    refine g_iload X0 hx (hb hby at_29) (pc' := 31) rfl rfl ?_
    have J274 : ∀ (mi : Int32) (bmi : chr mi = mi), Go p e below (EndF s room_1.cells room_1.slots) n0 (Q0 Z p0 p1 p2 p3 p4 p5 h0 n0) T0 (mkF m 43 #[.val (.int p0), .val (.int p1), .val (.int p2), .val (.int p3), .val (.int p4), .val (.int p5), .val (.int fi), .val (.int la), .val (.int mi), .unset, .unset, .unset, .unset, .unset, .unset, .unset, .unset, .unset, .unset, .unset, .unset, .unset, .unset, .unset, .unset, .unset, .unset, .unset, .unset, .unset, .unset, .unset, .unset] []) := by
      intro  mi bmi
      refine g_iload X0 hx (hb hby at_43) (pc' := 45) rfl rfl ?_
      refine g_bipush X0 hx (hb hby at_45) (pc' := 47) rfl (z := (8 : Int32)) rfl ?_
      refine g_iushr X0 hx (hb hby at_47) (pc' := 48) rfl ?_
      refine g_iconst X0 hx (hb hby at_48) (pc' := 49) rfl (z := (3 : Int32)) rfl ?_
      refine g_iand X0 hx (hb hby at_49) (pc' := 50) rfl ?_
      obtain ⟨md, emd⟩ : ∃ z : Int32, z = ((ushr p5 (8 : Int32)) &&& (3 : Int32)) := ⟨_, rfl⟩
      refine Go.cast (show (mkF m 50 #[.val (.int p0), .val (.int p1), .val (.int p2), .val (.int p3), .val (.int p4), .val (.int p5), .val (.int fi), .val (.int la), .val (.int mi), .unset, .unset, .unset, .unset, .unset, .unset, .unset, .unset, .unset, .unset, .unset, .unset, .unset, .unset, .unset, .unset, .unset, .unset, .unset, .unset, .unset, .unset, .unset, .unset] [(.int ((ushr p5 (8 : Int32)) &&& (3 : Int32)))]) = (mkF m 50 #[.val (.int p0), .val (.int p1), .val (.int p2), .val (.int p3), .val (.int p4), .val (.int p5), .val (.int fi), .val (.int la), .val (.int mi), .unset, .unset, .unset, .unset, .unset, .unset, .unset, .unset, .unset, .unset, .unset, .unset, .unset, .unset, .unset, .unset, .unset, .unset, .unset, .unset, .unset, .unset, .unset, .unset] [(.int md)]) from by rw [emd]) ?_
      refine g_istore X0 hx (hb hby at_50) (pc' := 52) rfl (Ls' := #[.val (.int p0), .val (.int p1), .val (.int p2), .val (.int p3), .val (.int p4), .val (.int p5), .val (.int fi), .val (.int la), .val (.int mi), .val (.int md), .unset, .unset, .unset, .unset, .unset, .unset, .unset, .unset, .unset, .unset, .unset, .unset, .unset, .unset, .unset, .unset, .unset, .unset, .unset, .unset, .unset, .unset, .unset]) rfl ?_
      refine g_iload X0 hx (hb hby at_52) (pc' := 54) rfl rfl ?_
      refine g_bipush X0 hx (hb hby at_54) (pc' := 56) rfl (z := (6 : Int32)) rfl ?_
      refine g_iushr X0 hx (hb hby at_56) (pc' := 57) rfl ?_
      refine g_iconst X0 hx (hb hby at_57) (pc' := 58) rfl (z := (3 : Int32)) rfl ?_
      refine g_iand X0 hx (hb hby at_58) (pc' := 59) rfl ?_
      refine g_iconst X0 hx (hb hby at_59) (pc' := 60) rfl (z := (2 : Int32)) rfl ?_
      obtain ⟨v275, T275, h275, L275, X275, e275, N275, q275, st275⟩ := h_static X0 hx (W := 0) (Ls := #[.val (.int p0), .val (.int p1), .val (.int p2), .val (.int p3), .val (.int p4), .val (.int p5), .val (.int fi), .val (.int la), .val (.int mi), .val (.int md), .unset, .unset, .unset, .unset, .unset, .unset, .unset, .unset, .unset, .unset, .unset, .unset, .unset, .unset, .unset, .unset, .unset, .unset, .unset, .unset, .unset, .unset, .unset]) (argsL := [(.int ((ushr p5 (6 : Int32)) &&& (3 : Int32))), (.int (2 : Int32))]) (rest := []) hZ e0 N0 hml hown (rm1 l Z a0 hw ((ushr p5 (6 : Int32)) &&& (3 : Int32)) (2 : Int32) h0 n0 Z0) (hw _ (List.mem_of_getElem? (i := 0) rfl)) (hw _ (List.mem_of_getElem? (i := 1) rfl)) (hw _ (List.mem_of_getElem? (i := 2) rfl)) (hw _ (List.mem_of_getElem? (i := 3) rfl)) (by decide) pd__II_I rfl rfl (hb hby at_60) rfl (by decide) (by decide) (by decide) (by decide)
      obtain ⟨rfl, rfl⟩ := q275
      refine Go.movp st275 (mkF m 63 #[.val (.int p0), .val (.int p1), .val (.int p2), .val (.int p3), .val (.int p4), .val (.int p5), .val (.int fi), .val (.int la), .val (.int mi), .val (.int md), .unset, .unset, .unset, .unset, .unset, .unset, .unset, .unset, .unset, .unset, .unset, .unset, .unset, .unset, .unset, .unset, .unset, .unset, .unset, .unset, .unset, .unset, .unset] [(.int (minI ((ushr p5 (6 : Int32)) &&& (3 : Int32)) (2 : Int32)))]) rfl ?_
      obtain ⟨nn, enn⟩ : ∃ z : Int32, z = (minI ((ushr p5 (6 : Int32)) &&& (3 : Int32)) (2 : Int32)) := ⟨_, rfl⟩
      refine Go.cast (show (mkF m 63 #[.val (.int p0), .val (.int p1), .val (.int p2), .val (.int p3), .val (.int p4), .val (.int p5), .val (.int fi), .val (.int la), .val (.int mi), .val (.int md), .unset, .unset, .unset, .unset, .unset, .unset, .unset, .unset, .unset, .unset, .unset, .unset, .unset, .unset, .unset, .unset, .unset, .unset, .unset, .unset, .unset, .unset, .unset] [(.int (minI ((ushr p5 (6 : Int32)) &&& (3 : Int32)) (2 : Int32)))]) = (mkF m 63 #[.val (.int p0), .val (.int p1), .val (.int p2), .val (.int p3), .val (.int p4), .val (.int p5), .val (.int fi), .val (.int la), .val (.int mi), .val (.int md), .unset, .unset, .unset, .unset, .unset, .unset, .unset, .unset, .unset, .unset, .unset, .unset, .unset, .unset, .unset, .unset, .unset, .unset, .unset, .unset, .unset, .unset, .unset] [(.int nn)]) from by rw [enn]) ?_
      refine g_istore X275 hx (hb hby at_63) (pc' := 65) rfl (Ls' := #[.val (.int p0), .val (.int p1), .val (.int p2), .val (.int p3), .val (.int p4), .val (.int p5), .val (.int fi), .val (.int la), .val (.int mi), .val (.int md), .val (.int nn), .unset, .unset, .unset, .unset, .unset, .unset, .unset, .unset, .unset, .unset, .unset, .unset, .unset, .unset, .unset, .unset, .unset, .unset, .unset, .unset, .unset, .unset]) rfl ?_
      have hnn : nn = 0 ∨ nn = 1 ∨ nn = 2 := by rw [enn]; exact own_min _
      refine g_iload X275 hx (hb hby at_65) (pc' := 67) rfl rfl ?_
      refine g_iloadN X275 hx (hb hby at_67) (pc' := 68) rfl rfl ?_
      refine g_iload X275 hx (hb hby at_68) (pc' := 70) rfl rfl ?_
      refine g_iconst X275 hx (hb hby at_70) (pc' := 71) rfl (z := (0 : Int32)) rfl ?_
      obtain ⟨v276, T276, h276, L276, X276, e276, N276, q276, st276⟩ := h_static X275 hx (W := 0) (Ls := #[.val (.int p0), .val (.int p1), .val (.int p2), .val (.int p3), .val (.int p4), .val (.int p5), .val (.int fi), .val (.int la), .val (.int mi), .val (.int md), .val (.int nn), .unset, .unset, .unset, .unset, .unset, .unset, .unset, .unset, .unset, .unset, .unset, .unset, .unset, .unset, .unset, .unset, .unset, .unset, .unset, .unset, .unset, .unset]) (argsL := [(.int fi), (.int p2), (.int p5), (.int (0 : Int32))]) (rest := []) hZ e275 N275 hml hown (rm2 l Z a0 hw fi p2 p5 (0 : Int32) h0 n0 Z0 bfi) (hw _ (List.mem_of_getElem? (i := 4) rfl)) (hw _ (List.mem_of_getElem? (i := 5) rfl)) (hw _ (List.mem_of_getElem? (i := 6) rfl)) (hw _ (List.mem_of_getElem? (i := 7) rfl)) (by decide) pd__CIII_C rfl rfl (hb hby at_71) rfl (by decide) (by decide) (by decide) (by decide)
      obtain ⟨rfl, rfl⟩ := q276
      refine Go.movp st276 (mkF m 74 #[.val (.int p0), .val (.int p1), .val (.int p2), .val (.int p3), .val (.int p4), .val (.int p5), .val (.int fi), .val (.int la), .val (.int mi), .val (.int md), .val (.int nn), .unset, .unset, .unset, .unset, .unset, .unset, .unset, .unset, .unset, .unset, .unset, .unset, .unset, .unset, .unset, .unset, .unset, .unset, .unset, .unset, .unset, .unset] [(.int (cellV fi p2 p5 (0 : Int32)))]) rfl ?_
      obtain ⟨u0, eu0⟩ : ∃ z : Int32, z = (cellV fi p2 p5 (0 : Int32)) := ⟨_, rfl⟩
      refine Go.cast (show (mkF m 74 #[.val (.int p0), .val (.int p1), .val (.int p2), .val (.int p3), .val (.int p4), .val (.int p5), .val (.int fi), .val (.int la), .val (.int mi), .val (.int md), .val (.int nn), .unset, .unset, .unset, .unset, .unset, .unset, .unset, .unset, .unset, .unset, .unset, .unset, .unset, .unset, .unset, .unset, .unset, .unset, .unset, .unset, .unset, .unset] [(.int (cellV fi p2 p5 (0 : Int32)))]) = (mkF m 74 #[.val (.int p0), .val (.int p1), .val (.int p2), .val (.int p3), .val (.int p4), .val (.int p5), .val (.int fi), .val (.int la), .val (.int mi), .val (.int md), .val (.int nn), .unset, .unset, .unset, .unset, .unset, .unset, .unset, .unset, .unset, .unset, .unset, .unset, .unset, .unset, .unset, .unset, .unset, .unset, .unset, .unset, .unset, .unset] [(.int u0)]) from by rw [eu0]) ?_
      have bu0 : chr u0 = u0 := by rw [eu0]; exact cell_chr bfi _ _ _
      refine g_istore X276 hx (hb hby at_74) (pc' := 76) rfl (Ls' := #[.val (.int p0), .val (.int p1), .val (.int p2), .val (.int p3), .val (.int p4), .val (.int p5), .val (.int fi), .val (.int la), .val (.int mi), .val (.int md), .val (.int nn), .val (.int u0), .unset, .unset, .unset, .unset, .unset, .unset, .unset, .unset, .unset, .unset, .unset, .unset, .unset, .unset, .unset, .unset, .unset, .unset, .unset, .unset, .unset]) rfl ?_
      refine g_iload X276 hx (hb hby at_76) (pc' := 78) rfl rfl ?_
      refine g_iloadN X276 hx (hb hby at_78) (pc' := 79) rfl rfl ?_
      refine g_bipush X276 hx (hb hby at_79) (pc' := 81) rfl (z := (16 : Int32)) rfl ?_
      refine g_iushr X276 hx (hb hby at_81) (pc' := 82) rfl ?_
      refine g_iload X276 hx (hb hby at_82) (pc' := 84) rfl rfl ?_
      refine g_iconst X276 hx (hb hby at_84) (pc' := 85) rfl (z := (1 : Int32)) rfl ?_
      obtain ⟨v277, T277, h277, L277, X277, e277, N277, q277, st277⟩ := h_static X276 hx (W := 0) (Ls := #[.val (.int p0), .val (.int p1), .val (.int p2), .val (.int p3), .val (.int p4), .val (.int p5), .val (.int fi), .val (.int la), .val (.int mi), .val (.int md), .val (.int nn), .val (.int u0), .unset, .unset, .unset, .unset, .unset, .unset, .unset, .unset, .unset, .unset, .unset, .unset, .unset, .unset, .unset, .unset, .unset, .unset, .unset, .unset, .unset]) (argsL := [(.int fi), (.int (ushr p2 (16 : Int32))), (.int p5), (.int (1 : Int32))]) (rest := []) hZ e276 N276 hml hown (rm2 l Z a0 hw fi (ushr p2 (16 : Int32)) p5 (1 : Int32) h0 n0 Z0 bfi) (hw _ (List.mem_of_getElem? (i := 4) rfl)) (hw _ (List.mem_of_getElem? (i := 5) rfl)) (hw _ (List.mem_of_getElem? (i := 6) rfl)) (hw _ (List.mem_of_getElem? (i := 7) rfl)) (by decide) pd__CIII_C rfl rfl (hb hby at_85) rfl (by decide) (by decide) (by decide) (by decide)
      obtain ⟨rfl, rfl⟩ := q277
      refine Go.movp st277 (mkF m 88 #[.val (.int p0), .val (.int p1), .val (.int p2), .val (.int p3), .val (.int p4), .val (.int p5), .val (.int fi), .val (.int la), .val (.int mi), .val (.int md), .val (.int nn), .val (.int u0), .unset, .unset, .unset, .unset, .unset, .unset, .unset, .unset, .unset, .unset, .unset, .unset, .unset, .unset, .unset, .unset, .unset, .unset, .unset, .unset, .unset] [(.int (cellV fi (ushr p2 (16 : Int32)) p5 (1 : Int32)))]) rfl ?_
      obtain ⟨u1, eu1⟩ : ∃ z : Int32, z = (cellV fi (ushr p2 (16 : Int32)) p5 (1 : Int32)) := ⟨_, rfl⟩
      refine Go.cast (show (mkF m 88 #[.val (.int p0), .val (.int p1), .val (.int p2), .val (.int p3), .val (.int p4), .val (.int p5), .val (.int fi), .val (.int la), .val (.int mi), .val (.int md), .val (.int nn), .val (.int u0), .unset, .unset, .unset, .unset, .unset, .unset, .unset, .unset, .unset, .unset, .unset, .unset, .unset, .unset, .unset, .unset, .unset, .unset, .unset, .unset, .unset] [(.int (cellV fi (ushr p2 (16 : Int32)) p5 (1 : Int32)))]) = (mkF m 88 #[.val (.int p0), .val (.int p1), .val (.int p2), .val (.int p3), .val (.int p4), .val (.int p5), .val (.int fi), .val (.int la), .val (.int mi), .val (.int md), .val (.int nn), .val (.int u0), .unset, .unset, .unset, .unset, .unset, .unset, .unset, .unset, .unset, .unset, .unset, .unset, .unset, .unset, .unset, .unset, .unset, .unset, .unset, .unset, .unset] [(.int u1)]) from by rw [eu1]) ?_
      have bu1 : chr u1 = u1 := by rw [eu1]; exact cell_chr bfi _ _ _
      refine g_istore X277 hx (hb hby at_88) (pc' := 90) rfl (Ls' := #[.val (.int p0), .val (.int p1), .val (.int p2), .val (.int p3), .val (.int p4), .val (.int p5), .val (.int fi), .val (.int la), .val (.int mi), .val (.int md), .val (.int nn), .val (.int u0), .val (.int u1), .unset, .unset, .unset, .unset, .unset, .unset, .unset, .unset, .unset, .unset, .unset, .unset, .unset, .unset, .unset, .unset, .unset, .unset, .unset, .unset]) rfl ?_
      refine g_iload X277 hx (hb hby at_90) (pc' := 92) rfl rfl ?_
      refine g_iloadN X277 hx (hb hby at_92) (pc' := 93) rfl rfl ?_
      refine g_iload X277 hx (hb hby at_93) (pc' := 95) rfl rfl ?_
      refine g_iconst X277 hx (hb hby at_95) (pc' := 96) rfl (z := (2 : Int32)) rfl ?_
      obtain ⟨v278, T278, h278, L278, X278, e278, N278, q278, st278⟩ := h_static X277 hx (W := 0) (Ls := #[.val (.int p0), .val (.int p1), .val (.int p2), .val (.int p3), .val (.int p4), .val (.int p5), .val (.int fi), .val (.int la), .val (.int mi), .val (.int md), .val (.int nn), .val (.int u0), .val (.int u1), .unset, .unset, .unset, .unset, .unset, .unset, .unset, .unset, .unset, .unset, .unset, .unset, .unset, .unset, .unset, .unset, .unset, .unset, .unset, .unset]) (argsL := [(.int la), (.int p3), (.int p5), (.int (2 : Int32))]) (rest := []) hZ e277 N277 hml hown (rm2 l Z a0 hw la p3 p5 (2 : Int32) h0 n0 Z0 bla) (hw _ (List.mem_of_getElem? (i := 4) rfl)) (hw _ (List.mem_of_getElem? (i := 5) rfl)) (hw _ (List.mem_of_getElem? (i := 6) rfl)) (hw _ (List.mem_of_getElem? (i := 7) rfl)) (by decide) pd__CIII_C rfl rfl (hb hby at_96) rfl (by decide) (by decide) (by decide) (by decide)
      obtain ⟨rfl, rfl⟩ := q278
      refine Go.movp st278 (mkF m 99 #[.val (.int p0), .val (.int p1), .val (.int p2), .val (.int p3), .val (.int p4), .val (.int p5), .val (.int fi), .val (.int la), .val (.int mi), .val (.int md), .val (.int nn), .val (.int u0), .val (.int u1), .unset, .unset, .unset, .unset, .unset, .unset, .unset, .unset, .unset, .unset, .unset, .unset, .unset, .unset, .unset, .unset, .unset, .unset, .unset, .unset] [(.int (cellV la p3 p5 (2 : Int32)))]) rfl ?_
      obtain ⟨l0, el0⟩ : ∃ z : Int32, z = (cellV la p3 p5 (2 : Int32)) := ⟨_, rfl⟩
      refine Go.cast (show (mkF m 99 #[.val (.int p0), .val (.int p1), .val (.int p2), .val (.int p3), .val (.int p4), .val (.int p5), .val (.int fi), .val (.int la), .val (.int mi), .val (.int md), .val (.int nn), .val (.int u0), .val (.int u1), .unset, .unset, .unset, .unset, .unset, .unset, .unset, .unset, .unset, .unset, .unset, .unset, .unset, .unset, .unset, .unset, .unset, .unset, .unset, .unset] [(.int (cellV la p3 p5 (2 : Int32)))]) = (mkF m 99 #[.val (.int p0), .val (.int p1), .val (.int p2), .val (.int p3), .val (.int p4), .val (.int p5), .val (.int fi), .val (.int la), .val (.int mi), .val (.int md), .val (.int nn), .val (.int u0), .val (.int u1), .unset, .unset, .unset, .unset, .unset, .unset, .unset, .unset, .unset, .unset, .unset, .unset, .unset, .unset, .unset, .unset, .unset, .unset, .unset, .unset] [(.int l0)]) from by rw [el0]) ?_
      have bl0 : chr l0 = l0 := by rw [el0]; exact cell_chr bla _ _ _
      refine g_istore X278 hx (hb hby at_99) (pc' := 101) rfl (Ls' := #[.val (.int p0), .val (.int p1), .val (.int p2), .val (.int p3), .val (.int p4), .val (.int p5), .val (.int fi), .val (.int la), .val (.int mi), .val (.int md), .val (.int nn), .val (.int u0), .val (.int u1), .val (.int l0), .unset, .unset, .unset, .unset, .unset, .unset, .unset, .unset, .unset, .unset, .unset, .unset, .unset, .unset, .unset, .unset, .unset, .unset, .unset]) rfl ?_
      refine g_iload X278 hx (hb hby at_101) (pc' := 103) rfl rfl ?_
      refine g_iloadN X278 hx (hb hby at_103) (pc' := 104) rfl rfl ?_
      refine g_bipush X278 hx (hb hby at_104) (pc' := 106) rfl (z := (16 : Int32)) rfl ?_
      refine g_iushr X278 hx (hb hby at_106) (pc' := 107) rfl ?_
      refine g_iload X278 hx (hb hby at_107) (pc' := 109) rfl rfl ?_
      refine g_iconst X278 hx (hb hby at_109) (pc' := 110) rfl (z := (3 : Int32)) rfl ?_
      obtain ⟨v279, T279, h279, L279, X279, e279, N279, q279, st279⟩ := h_static X278 hx (W := 0) (Ls := #[.val (.int p0), .val (.int p1), .val (.int p2), .val (.int p3), .val (.int p4), .val (.int p5), .val (.int fi), .val (.int la), .val (.int mi), .val (.int md), .val (.int nn), .val (.int u0), .val (.int u1), .val (.int l0), .unset, .unset, .unset, .unset, .unset, .unset, .unset, .unset, .unset, .unset, .unset, .unset, .unset, .unset, .unset, .unset, .unset, .unset, .unset]) (argsL := [(.int la), (.int (ushr p3 (16 : Int32))), (.int p5), (.int (3 : Int32))]) (rest := []) hZ e278 N278 hml hown (rm2 l Z a0 hw la (ushr p3 (16 : Int32)) p5 (3 : Int32) h0 n0 Z0 bla) (hw _ (List.mem_of_getElem? (i := 4) rfl)) (hw _ (List.mem_of_getElem? (i := 5) rfl)) (hw _ (List.mem_of_getElem? (i := 6) rfl)) (hw _ (List.mem_of_getElem? (i := 7) rfl)) (by decide) pd__CIII_C rfl rfl (hb hby at_110) rfl (by decide) (by decide) (by decide) (by decide)
      obtain ⟨rfl, rfl⟩ := q279
      refine Go.movp st279 (mkF m 113 #[.val (.int p0), .val (.int p1), .val (.int p2), .val (.int p3), .val (.int p4), .val (.int p5), .val (.int fi), .val (.int la), .val (.int mi), .val (.int md), .val (.int nn), .val (.int u0), .val (.int u1), .val (.int l0), .unset, .unset, .unset, .unset, .unset, .unset, .unset, .unset, .unset, .unset, .unset, .unset, .unset, .unset, .unset, .unset, .unset, .unset, .unset] [(.int (cellV la (ushr p3 (16 : Int32)) p5 (3 : Int32)))]) rfl ?_
      obtain ⟨l1, el1⟩ : ∃ z : Int32, z = (cellV la (ushr p3 (16 : Int32)) p5 (3 : Int32)) := ⟨_, rfl⟩
      refine Go.cast (show (mkF m 113 #[.val (.int p0), .val (.int p1), .val (.int p2), .val (.int p3), .val (.int p4), .val (.int p5), .val (.int fi), .val (.int la), .val (.int mi), .val (.int md), .val (.int nn), .val (.int u0), .val (.int u1), .val (.int l0), .unset, .unset, .unset, .unset, .unset, .unset, .unset, .unset, .unset, .unset, .unset, .unset, .unset, .unset, .unset, .unset, .unset, .unset, .unset] [(.int (cellV la (ushr p3 (16 : Int32)) p5 (3 : Int32)))]) = (mkF m 113 #[.val (.int p0), .val (.int p1), .val (.int p2), .val (.int p3), .val (.int p4), .val (.int p5), .val (.int fi), .val (.int la), .val (.int mi), .val (.int md), .val (.int nn), .val (.int u0), .val (.int u1), .val (.int l0), .unset, .unset, .unset, .unset, .unset, .unset, .unset, .unset, .unset, .unset, .unset, .unset, .unset, .unset, .unset, .unset, .unset, .unset, .unset] [(.int l1)]) from by rw [el1]) ?_
      have bl1 : chr l1 = l1 := by rw [el1]; exact cell_chr bla _ _ _
      refine g_istore X279 hx (hb hby at_113) (pc' := 115) rfl (Ls' := #[.val (.int p0), .val (.int p1), .val (.int p2), .val (.int p3), .val (.int p4), .val (.int p5), .val (.int fi), .val (.int la), .val (.int mi), .val (.int md), .val (.int nn), .val (.int u0), .val (.int u1), .val (.int l0), .val (.int l1), .unset, .unset, .unset, .unset, .unset, .unset, .unset, .unset, .unset, .unset, .unset, .unset, .unset, .unset, .unset, .unset, .unset, .unset]) rfl ?_
      refine g_iload X279 hx (hb hby at_115) (pc' := 117) rfl rfl ?_
      refine g_iload X279 hx (hb hby at_117) (pc' := 119) rfl rfl ?_
      refine g_iload X279 hx (hb hby at_119) (pc' := 121) rfl rfl ?_
      refine g_iconst X279 hx (hb hby at_121) (pc' := 122) rfl (z := (4 : Int32)) rfl ?_
      obtain ⟨v280, T280, h280, L280, X280, e280, N280, q280, st280⟩ := h_static X279 hx (W := 0) (Ls := #[.val (.int p0), .val (.int p1), .val (.int p2), .val (.int p3), .val (.int p4), .val (.int p5), .val (.int fi), .val (.int la), .val (.int mi), .val (.int md), .val (.int nn), .val (.int u0), .val (.int u1), .val (.int l0), .val (.int l1), .unset, .unset, .unset, .unset, .unset, .unset, .unset, .unset, .unset, .unset, .unset, .unset, .unset, .unset, .unset, .unset, .unset, .unset]) (argsL := [(.int mi), (.int p4), (.int p5), (.int (4 : Int32))]) (rest := []) hZ e279 N279 hml hown (rm2 l Z a0 hw mi p4 p5 (4 : Int32) h0 n0 Z0 bmi) (hw _ (List.mem_of_getElem? (i := 4) rfl)) (hw _ (List.mem_of_getElem? (i := 5) rfl)) (hw _ (List.mem_of_getElem? (i := 6) rfl)) (hw _ (List.mem_of_getElem? (i := 7) rfl)) (by decide) pd__CIII_C rfl rfl (hb hby at_122) rfl (by decide) (by decide) (by decide) (by decide)
      obtain ⟨rfl, rfl⟩ := q280
      refine Go.movp st280 (mkF m 125 #[.val (.int p0), .val (.int p1), .val (.int p2), .val (.int p3), .val (.int p4), .val (.int p5), .val (.int fi), .val (.int la), .val (.int mi), .val (.int md), .val (.int nn), .val (.int u0), .val (.int u1), .val (.int l0), .val (.int l1), .unset, .unset, .unset, .unset, .unset, .unset, .unset, .unset, .unset, .unset, .unset, .unset, .unset, .unset, .unset, .unset, .unset, .unset] [(.int (cellV mi p4 p5 (4 : Int32)))]) rfl ?_
      obtain ⟨m0, em0⟩ : ∃ z : Int32, z = (cellV mi p4 p5 (4 : Int32)) := ⟨_, rfl⟩
      refine Go.cast (show (mkF m 125 #[.val (.int p0), .val (.int p1), .val (.int p2), .val (.int p3), .val (.int p4), .val (.int p5), .val (.int fi), .val (.int la), .val (.int mi), .val (.int md), .val (.int nn), .val (.int u0), .val (.int u1), .val (.int l0), .val (.int l1), .unset, .unset, .unset, .unset, .unset, .unset, .unset, .unset, .unset, .unset, .unset, .unset, .unset, .unset, .unset, .unset, .unset, .unset] [(.int (cellV mi p4 p5 (4 : Int32)))]) = (mkF m 125 #[.val (.int p0), .val (.int p1), .val (.int p2), .val (.int p3), .val (.int p4), .val (.int p5), .val (.int fi), .val (.int la), .val (.int mi), .val (.int md), .val (.int nn), .val (.int u0), .val (.int u1), .val (.int l0), .val (.int l1), .unset, .unset, .unset, .unset, .unset, .unset, .unset, .unset, .unset, .unset, .unset, .unset, .unset, .unset, .unset, .unset, .unset, .unset] [(.int m0)]) from by rw [em0]) ?_
      have bm0 : chr m0 = m0 := by rw [em0]; exact cell_chr bmi _ _ _
      refine g_istore X280 hx (hb hby at_125) (pc' := 127) rfl (Ls' := #[.val (.int p0), .val (.int p1), .val (.int p2), .val (.int p3), .val (.int p4), .val (.int p5), .val (.int fi), .val (.int la), .val (.int mi), .val (.int md), .val (.int nn), .val (.int u0), .val (.int u1), .val (.int l0), .val (.int l1), .val (.int m0), .unset, .unset, .unset, .unset, .unset, .unset, .unset, .unset, .unset, .unset, .unset, .unset, .unset, .unset, .unset, .unset, .unset]) rfl ?_
      refine g_iload X280 hx (hb hby at_127) (pc' := 129) rfl rfl ?_
      refine g_iload X280 hx (hb hby at_129) (pc' := 131) rfl rfl ?_
      refine g_bipush X280 hx (hb hby at_131) (pc' := 133) rfl (z := (16 : Int32)) rfl ?_
      refine g_iushr X280 hx (hb hby at_133) (pc' := 134) rfl ?_
      refine g_iload X280 hx (hb hby at_134) (pc' := 136) rfl rfl ?_
      refine g_iconst X280 hx (hb hby at_136) (pc' := 137) rfl (z := (5 : Int32)) rfl ?_
      obtain ⟨v281, T281, h281, L281, X281, e281, N281, q281, st281⟩ := h_static X280 hx (W := 0) (Ls := #[.val (.int p0), .val (.int p1), .val (.int p2), .val (.int p3), .val (.int p4), .val (.int p5), .val (.int fi), .val (.int la), .val (.int mi), .val (.int md), .val (.int nn), .val (.int u0), .val (.int u1), .val (.int l0), .val (.int l1), .val (.int m0), .unset, .unset, .unset, .unset, .unset, .unset, .unset, .unset, .unset, .unset, .unset, .unset, .unset, .unset, .unset, .unset, .unset]) (argsL := [(.int mi), (.int (ushr p4 (16 : Int32))), (.int p5), (.int (5 : Int32))]) (rest := []) hZ e280 N280 hml hown (rm2 l Z a0 hw mi (ushr p4 (16 : Int32)) p5 (5 : Int32) h0 n0 Z0 bmi) (hw _ (List.mem_of_getElem? (i := 4) rfl)) (hw _ (List.mem_of_getElem? (i := 5) rfl)) (hw _ (List.mem_of_getElem? (i := 6) rfl)) (hw _ (List.mem_of_getElem? (i := 7) rfl)) (by decide) pd__CIII_C rfl rfl (hb hby at_137) rfl (by decide) (by decide) (by decide) (by decide)
      obtain ⟨rfl, rfl⟩ := q281
      refine Go.movp st281 (mkF m 140 #[.val (.int p0), .val (.int p1), .val (.int p2), .val (.int p3), .val (.int p4), .val (.int p5), .val (.int fi), .val (.int la), .val (.int mi), .val (.int md), .val (.int nn), .val (.int u0), .val (.int u1), .val (.int l0), .val (.int l1), .val (.int m0), .unset, .unset, .unset, .unset, .unset, .unset, .unset, .unset, .unset, .unset, .unset, .unset, .unset, .unset, .unset, .unset, .unset] [(.int (cellV mi (ushr p4 (16 : Int32)) p5 (5 : Int32)))]) rfl ?_
      obtain ⟨m1, em1⟩ : ∃ z : Int32, z = (cellV mi (ushr p4 (16 : Int32)) p5 (5 : Int32)) := ⟨_, rfl⟩
      refine Go.cast (show (mkF m 140 #[.val (.int p0), .val (.int p1), .val (.int p2), .val (.int p3), .val (.int p4), .val (.int p5), .val (.int fi), .val (.int la), .val (.int mi), .val (.int md), .val (.int nn), .val (.int u0), .val (.int u1), .val (.int l0), .val (.int l1), .val (.int m0), .unset, .unset, .unset, .unset, .unset, .unset, .unset, .unset, .unset, .unset, .unset, .unset, .unset, .unset, .unset, .unset, .unset] [(.int (cellV mi (ushr p4 (16 : Int32)) p5 (5 : Int32)))]) = (mkF m 140 #[.val (.int p0), .val (.int p1), .val (.int p2), .val (.int p3), .val (.int p4), .val (.int p5), .val (.int fi), .val (.int la), .val (.int mi), .val (.int md), .val (.int nn), .val (.int u0), .val (.int u1), .val (.int l0), .val (.int l1), .val (.int m0), .unset, .unset, .unset, .unset, .unset, .unset, .unset, .unset, .unset, .unset, .unset, .unset, .unset, .unset, .unset, .unset, .unset] [(.int m1)]) from by rw [em1]) ?_
      have bm1 : chr m1 = m1 := by rw [em1]; exact cell_chr bmi _ _ _
      refine g_istore X281 hx (hb hby at_140) (pc' := 142) rfl (Ls' := #[.val (.int p0), .val (.int p1), .val (.int p2), .val (.int p3), .val (.int p4), .val (.int p5), .val (.int fi), .val (.int la), .val (.int mi), .val (.int md), .val (.int nn), .val (.int u0), .val (.int u1), .val (.int l0), .val (.int l1), .val (.int m0), .val (.int m1), .unset, .unset, .unset, .unset, .unset, .unset, .unset, .unset, .unset, .unset, .unset, .unset, .unset, .unset, .unset, .unset]) rfl ?_
      refine g_iconst X281 hx (hb hby at_142) (pc' := 143) rfl (z := (2 : Int32)) rfl ?_
      obtain ⟨T282, h282, b282, X282, e282, g282, E282, V282, A282, st282⟩ := h_newarray X281 hx hZ e281 (n := (2 : Int32)) (ty := .char) rfl (hw _ (List.mem_of_getElem? (i := 9) rfl)) (hb hby at_143) (k := 2) (cap := 2) (by decide) rfl (by decide) (by decide) (by decide) (by decide) (ad := "[C") (by decide) #[.val (.int p0), .val (.int p1), .val (.int p2), .val (.int p3), .val (.int p4), .val (.int p5), .val (.int fi), .val (.int la), .val (.int mi), .val (.int md), .val (.int nn), .val (.int u0), .val (.int u1), .val (.int l0), .val (.int l1), .val (.int m0), .val (.int m1), .unset, .unset, .unset, .unset, .unset, .unset, .unset, .unset, .unset, .unset, .unset, .unset, .unset, .unset, .unset, .unset] []
      have ge283 : n0 ≤ b282 := g282 ▸ Z0
      have Z284 : n0 ≤ h282.size := Nat.le_trans Z0 E282.1
      have f285 : Va Z h282 b282 .char [(.int (0 : Int32)), (.int (0 : Int32))] := V282
      refine Go.movp st282 (mkF m 145 #[.val (.int p0), .val (.int p1), .val (.int p2), .val (.int p3), .val (.int p4), .val (.int p5), .val (.int fi), .val (.int la), .val (.int mi), .val (.int md), .val (.int nn), .val (.int u0), .val (.int u1), .val (.int l0), .val (.int l1), .val (.int m0), .val (.int m1), .unset, .unset, .unset, .unset, .unset, .unset, .unset, .unset, .unset, .unset, .unset, .unset, .unset, .unset, .unset, .unset] [(.ref b282)]) rfl ?_
      refine g_dup X282 hx (hb hby at_145) (pc' := 146) rfl rfl ?_
      refine g_iconst X282 hx (hb hby at_146) (pc' := 147) rfl (z := (0 : Int32)) rfl ?_
      refine g_iload X282 hx (hb hby at_147) (pc' := 149) rfl rfl ?_
      obtain ⟨T286, h286, L286, X286, e286, N286, W286, V286, st286⟩ := h_castore X282 hx hZ e282 N281 f285 ge283 (j := (0 : Int32)) (i := 0) (x := u0) (hb hby at_149) (by decide) rfl rfl #[.val (.int p0), .val (.int p1), .val (.int p2), .val (.int p3), .val (.int p4), .val (.int p5), .val (.int fi), .val (.int la), .val (.int mi), .val (.int md), .val (.int nn), .val (.int u0), .val (.int u1), .val (.int l0), .val (.int l1), .val (.int m0), .val (.int m1), .unset, .unset, .unset, .unset, .unset, .unset, .unset, .unset, .unset, .unset, .unset, .unset, .unset, .unset, .unset, .unset] [(.ref b282)]
      have f287 := Exa.wr W286 A282
      have Z288 : n0 ≤ h286.size := Nat.le_trans Z284 (Keep.of_wr W286).1
      have f289 : Va Z h286 b282 .char [(.int (chr u0)), (.int (0 : Int32))] := V286
      have f290 : Va Z h286 b282 .char [(.int u0), (.int (0 : Int32))] := by rw [show (chr u0) = u0 from bu0] at f289; exact f289
      refine Go.movp st286 (mkF m 150 #[.val (.int p0), .val (.int p1), .val (.int p2), .val (.int p3), .val (.int p4), .val (.int p5), .val (.int fi), .val (.int la), .val (.int mi), .val (.int md), .val (.int nn), .val (.int u0), .val (.int u1), .val (.int l0), .val (.int l1), .val (.int m0), .val (.int m1), .unset, .unset, .unset, .unset, .unset, .unset, .unset, .unset, .unset, .unset, .unset, .unset, .unset, .unset, .unset, .unset] [(.ref b282)]) rfl ?_
      refine g_dup X286 hx (hb hby at_150) (pc' := 151) rfl rfl ?_
      refine g_iconst X286 hx (hb hby at_151) (pc' := 152) rfl (z := (1 : Int32)) rfl ?_
      refine g_iload X286 hx (hb hby at_152) (pc' := 154) rfl rfl ?_
      obtain ⟨T291, h291, L291, X291, e291, N291, W291, V291, st291⟩ := h_castore X286 hx hZ e286 N286 f290 ge283 (j := (1 : Int32)) (i := 1) (x := u1) (hb hby at_154) (by decide) rfl rfl #[.val (.int p0), .val (.int p1), .val (.int p2), .val (.int p3), .val (.int p4), .val (.int p5), .val (.int fi), .val (.int la), .val (.int mi), .val (.int md), .val (.int nn), .val (.int u0), .val (.int u1), .val (.int l0), .val (.int l1), .val (.int m0), .val (.int m1), .unset, .unset, .unset, .unset, .unset, .unset, .unset, .unset, .unset, .unset, .unset, .unset, .unset, .unset, .unset, .unset] [(.ref b282)]
      have f292 := Exa.wr W291 f287
      have Z293 : n0 ≤ h291.size := Nat.le_trans Z288 (Keep.of_wr W291).1
      have f294 : Va Z h291 b282 .char [(.int u0), (.int (chr u1))] := V291
      have f295 : Va Z h291 b282 .char [(.int u0), (.int u1)] := by rw [show (chr u1) = u1 from bu1] at f294; exact f294
      refine Go.movp st291 (mkF m 155 #[.val (.int p0), .val (.int p1), .val (.int p2), .val (.int p3), .val (.int p4), .val (.int p5), .val (.int fi), .val (.int la), .val (.int mi), .val (.int md), .val (.int nn), .val (.int u0), .val (.int u1), .val (.int l0), .val (.int l1), .val (.int m0), .val (.int m1), .unset, .unset, .unset, .unset, .unset, .unset, .unset, .unset, .unset, .unset, .unset, .unset, .unset, .unset, .unset, .unset] [(.ref b282)]) rfl ?_
      refine g_astore X291 hx (hb hby at_155) (pc' := 157) rfl rfl (Ls' := #[.val (.int p0), .val (.int p1), .val (.int p2), .val (.int p3), .val (.int p4), .val (.int p5), .val (.int fi), .val (.int la), .val (.int mi), .val (.int md), .val (.int nn), .val (.int u0), .val (.int u1), .val (.int l0), .val (.int l1), .val (.int m0), .val (.int m1), .val (.ref b282), .unset, .unset, .unset, .unset, .unset, .unset, .unset, .unset, .unset, .unset, .unset, .unset, .unset, .unset, .unset]) rfl ?_
      refine g_iload X291 hx (hb hby at_157) (pc' := 159) rfl rfl ?_
      refine g_iconst X291 hx (hb hby at_159) (pc' := 160) rfl (z := (1 : Int32)) rfl ?_
      refine g_icmp_ne X291 hx (hb hby at_160) (pc1 := 163) rfl (by decide) (pc2 := 180) (by decide) (fun hc160 => ?_) (fun hc160 => ?_)
      · skip
        refine g_iload X291 hx (hb hby at_180) (pc' := 182) rfl rfl ?_
        refine g_iconst X291 hx (hb hby at_182) (pc' := 183) rfl (z := (2 : Int32)) rfl ?_
        refine g_icmp_ne X291 hx (hb hby at_183) (pc1 := 186) rfl (by decide) (pc2 := 214) (by decide) (fun hc183 => ?_) (fun hc183 => ?_)
        · skip
          refine g_iconst X291 hx (hb hby at_214) (pc' := 215) rfl (z := (2 : Int32)) rfl ?_
          obtain ⟨T296, h296, b296, X296, e296, g296, E296, V296, A296, st296⟩ := h_newarray X291 hx hZ e291 (n := (2 : Int32)) (ty := .char) rfl (hw _ (List.mem_of_getElem? (i := 9) rfl)) (hb hby at_215) (k := 2) (cap := 2) (by decide) rfl (by decide) (by decide) (by decide) (by decide) (ad := "[C") (by decide) #[.val (.int p0), .val (.int p1), .val (.int p2), .val (.int p3), .val (.int p4), .val (.int p5), .val (.int fi), .val (.int la), .val (.int mi), .val (.int md), .val (.int nn), .val (.int u0), .val (.int u1), .val (.int l0), .val (.int l1), .val (.int m0), .val (.int m1), .val (.ref b282), .unset, .unset, .unset, .unset, .unset, .unset, .unset, .unset, .unset, .unset, .unset, .unset, .unset, .unset, .unset] []
          have ne297 : b282 ≠ b296 := Nat.ne_of_lt (g296 ▸ f292.lt)
          have ge298 : n0 ≤ b296 := g296 ▸ Z293
          have f299 := Exa.ext E296 f292
          have f300 := f295.ext E296
          have Z301 : n0 ≤ h296.size := Nat.le_trans Z293 E296.1
          have f302 : Va Z h296 b296 .char [(.int (0 : Int32)), (.int (0 : Int32))] := V296
          refine Go.movp st296 (mkF m 217 #[.val (.int p0), .val (.int p1), .val (.int p2), .val (.int p3), .val (.int p4), .val (.int p5), .val (.int fi), .val (.int la), .val (.int mi), .val (.int md), .val (.int nn), .val (.int u0), .val (.int u1), .val (.int l0), .val (.int l1), .val (.int m0), .val (.int m1), .val (.ref b282), .unset, .unset, .unset, .unset, .unset, .unset, .unset, .unset, .unset, .unset, .unset, .unset, .unset, .unset, .unset] [(.ref b296)]) rfl ?_
          refine g_dup X296 hx (hb hby at_217) (pc' := 218) rfl rfl ?_
          refine g_iconst X296 hx (hb hby at_218) (pc' := 219) rfl (z := (0 : Int32)) rfl ?_
          refine g_iload X296 hx (hb hby at_219) (pc' := 221) rfl rfl ?_
          obtain ⟨T303, h303, L303, X303, e303, N303, W303, V303, st303⟩ := h_castore X296 hx hZ e296 N291 f302 ge298 (j := (0 : Int32)) (i := 0) (x := l0) (hb hby at_221) (by decide) rfl rfl #[.val (.int p0), .val (.int p1), .val (.int p2), .val (.int p3), .val (.int p4), .val (.int p5), .val (.int fi), .val (.int la), .val (.int mi), .val (.int md), .val (.int nn), .val (.int u0), .val (.int u1), .val (.int l0), .val (.int l1), .val (.int m0), .val (.int m1), .val (.ref b282), .unset, .unset, .unset, .unset, .unset, .unset, .unset, .unset, .unset, .unset, .unset, .unset, .unset, .unset, .unset] [(.ref b296)]
          have f304 := Exa.wr W303 f299
          have f305 := f300.other W303 ne297
          have f306 := Exa.wr W303 A296
          have Z307 : n0 ≤ h303.size := Nat.le_trans Z301 (Keep.of_wr W303).1
          have f308 : Va Z h303 b296 .char [(.int (chr l0)), (.int (0 : Int32))] := V303
          have f309 : Va Z h303 b296 .char [(.int l0), (.int (0 : Int32))] := by rw [show (chr l0) = l0 from bl0] at f308; exact f308
          refine Go.movp st303 (mkF m 222 #[.val (.int p0), .val (.int p1), .val (.int p2), .val (.int p3), .val (.int p4), .val (.int p5), .val (.int fi), .val (.int la), .val (.int mi), .val (.int md), .val (.int nn), .val (.int u0), .val (.int u1), .val (.int l0), .val (.int l1), .val (.int m0), .val (.int m1), .val (.ref b282), .unset, .unset, .unset, .unset, .unset, .unset, .unset, .unset, .unset, .unset, .unset, .unset, .unset, .unset, .unset] [(.ref b296)]) rfl ?_
          refine g_dup X303 hx (hb hby at_222) (pc' := 223) rfl rfl ?_
          refine g_iconst X303 hx (hb hby at_223) (pc' := 224) rfl (z := (1 : Int32)) rfl ?_
          refine g_iload X303 hx (hb hby at_224) (pc' := 226) rfl rfl ?_
          obtain ⟨T310, h310, L310, X310, e310, N310, W310, V310, st310⟩ := h_castore X303 hx hZ e303 N303 f309 ge298 (j := (1 : Int32)) (i := 1) (x := l1) (hb hby at_226) (by decide) rfl rfl #[.val (.int p0), .val (.int p1), .val (.int p2), .val (.int p3), .val (.int p4), .val (.int p5), .val (.int fi), .val (.int la), .val (.int mi), .val (.int md), .val (.int nn), .val (.int u0), .val (.int u1), .val (.int l0), .val (.int l1), .val (.int m0), .val (.int m1), .val (.ref b282), .unset, .unset, .unset, .unset, .unset, .unset, .unset, .unset, .unset, .unset, .unset, .unset, .unset, .unset, .unset] [(.ref b296)]
          have f311 := Exa.wr W310 f304
          have f312 := f305.other W310 ne297
          have f313 := Exa.wr W310 f306
          have Z314 : n0 ≤ h310.size := Nat.le_trans Z307 (Keep.of_wr W310).1
          have f315 : Va Z h310 b296 .char [(.int l0), (.int (chr l1))] := V310
          have f316 : Va Z h310 b296 .char [(.int l0), (.int l1)] := by rw [show (chr l1) = l1 from bl1] at f315; exact f315
          refine Go.movp st310 (mkF m 227 #[.val (.int p0), .val (.int p1), .val (.int p2), .val (.int p3), .val (.int p4), .val (.int p5), .val (.int fi), .val (.int la), .val (.int mi), .val (.int md), .val (.int nn), .val (.int u0), .val (.int u1), .val (.int l0), .val (.int l1), .val (.int m0), .val (.int m1), .val (.ref b282), .unset, .unset, .unset, .unset, .unset, .unset, .unset, .unset, .unset, .unset, .unset, .unset, .unset, .unset, .unset] [(.ref b296)]) rfl ?_
          refine g_astore X310 hx (hb hby at_227) (pc' := 229) rfl rfl (Ls' := #[.val (.int p0), .val (.int p1), .val (.int p2), .val (.int p3), .val (.int p4), .val (.int p5), .val (.int fi), .val (.int la), .val (.int mi), .val (.int md), .val (.int nn), .val (.int u0), .val (.int u1), .val (.int l0), .val (.int l1), .val (.int m0), .val (.int m1), .val (.ref b282), .val (.ref b296), .unset, .unset, .unset, .unset, .unset, .unset, .unset, .unset, .unset, .unset, .unset, .unset, .unset, .unset]) rfl ?_
          refine g_iconst X310 hx (hb hby at_229) (pc' := 230) rfl (z := (2 : Int32)) rfl ?_
          obtain ⟨T317, h317, b317, X317, e317, g317, E317, V317, A317, st317⟩ := h_newarray X310 hx hZ e310 (n := (2 : Int32)) (ty := .char) rfl (hw _ (List.mem_of_getElem? (i := 9) rfl)) (hb hby at_230) (k := 2) (cap := 2) (by decide) rfl (by decide) (by decide) (by decide) (by decide) (ad := "[C") (by decide) #[.val (.int p0), .val (.int p1), .val (.int p2), .val (.int p3), .val (.int p4), .val (.int p5), .val (.int fi), .val (.int la), .val (.int mi), .val (.int md), .val (.int nn), .val (.int u0), .val (.int u1), .val (.int l0), .val (.int l1), .val (.int m0), .val (.int m1), .val (.ref b282), .val (.ref b296), .unset, .unset, .unset, .unset, .unset, .unset, .unset, .unset, .unset, .unset, .unset, .unset, .unset, .unset] []
          have ne318 : b282 ≠ b317 := Nat.ne_of_lt (g317 ▸ f311.lt)
          have ne319 : b296 ≠ b317 := Nat.ne_of_lt (g317 ▸ f313.lt)
          have ge320 : n0 ≤ b317 := g317 ▸ Z314
          have f321 := Exa.ext E317 f311
          have f322 := f312.ext E317
          have f323 := Exa.ext E317 f313
          have f324 := f316.ext E317
          have Z325 : n0 ≤ h317.size := Nat.le_trans Z314 E317.1
          have f326 : Va Z h317 b317 .char [(.int (0 : Int32)), (.int (0 : Int32))] := V317
          refine Go.movp st317 (mkF m 232 #[.val (.int p0), .val (.int p1), .val (.int p2), .val (.int p3), .val (.int p4), .val (.int p5), .val (.int fi), .val (.int la), .val (.int mi), .val (.int md), .val (.int nn), .val (.int u0), .val (.int u1), .val (.int l0), .val (.int l1), .val (.int m0), .val (.int m1), .val (.ref b282), .val (.ref b296), .unset, .unset, .unset, .unset, .unset, .unset, .unset, .unset, .unset, .unset, .unset, .unset, .unset, .unset] [(.ref b317)]) rfl ?_
          refine g_dup X317 hx (hb hby at_232) (pc' := 233) rfl rfl ?_
          refine g_iconst X317 hx (hb hby at_233) (pc' := 234) rfl (z := (0 : Int32)) rfl ?_
          refine g_iload X317 hx (hb hby at_234) (pc' := 236) rfl rfl ?_
          obtain ⟨T327, h327, L327, X327, e327, N327, W327, V327, st327⟩ := h_castore X317 hx hZ e317 N310 f326 ge320 (j := (0 : Int32)) (i := 0) (x := m0) (hb hby at_236) (by decide) rfl rfl #[.val (.int p0), .val (.int p1), .val (.int p2), .val (.int p3), .val (.int p4), .val (.int p5), .val (.int fi), .val (.int la), .val (.int mi), .val (.int md), .val (.int nn), .val (.int u0), .val (.int u1), .val (.int l0), .val (.int l1), .val (.int m0), .val (.int m1), .val (.ref b282), .val (.ref b296), .unset, .unset, .unset, .unset, .unset, .unset, .unset, .unset, .unset, .unset, .unset, .unset, .unset, .unset] [(.ref b317)]
          have f328 := Exa.wr W327 f321
          have f329 := f322.other W327 ne318
          have f330 := Exa.wr W327 f323
          have f331 := f324.other W327 ne319
          have f332 := Exa.wr W327 A317
          have Z333 : n0 ≤ h327.size := Nat.le_trans Z325 (Keep.of_wr W327).1
          have f334 : Va Z h327 b317 .char [(.int (chr m0)), (.int (0 : Int32))] := V327
          have f335 : Va Z h327 b317 .char [(.int m0), (.int (0 : Int32))] := by rw [show (chr m0) = m0 from bm0] at f334; exact f334
          refine Go.movp st327 (mkF m 237 #[.val (.int p0), .val (.int p1), .val (.int p2), .val (.int p3), .val (.int p4), .val (.int p5), .val (.int fi), .val (.int la), .val (.int mi), .val (.int md), .val (.int nn), .val (.int u0), .val (.int u1), .val (.int l0), .val (.int l1), .val (.int m0), .val (.int m1), .val (.ref b282), .val (.ref b296), .unset, .unset, .unset, .unset, .unset, .unset, .unset, .unset, .unset, .unset, .unset, .unset, .unset, .unset] [(.ref b317)]) rfl ?_
          refine g_dup X327 hx (hb hby at_237) (pc' := 238) rfl rfl ?_
          refine g_iconst X327 hx (hb hby at_238) (pc' := 239) rfl (z := (1 : Int32)) rfl ?_
          refine g_iload X327 hx (hb hby at_239) (pc' := 241) rfl rfl ?_
          obtain ⟨T336, h336, L336, X336, e336, N336, W336, V336, st336⟩ := h_castore X327 hx hZ e327 N327 f335 ge320 (j := (1 : Int32)) (i := 1) (x := m1) (hb hby at_241) (by decide) rfl rfl #[.val (.int p0), .val (.int p1), .val (.int p2), .val (.int p3), .val (.int p4), .val (.int p5), .val (.int fi), .val (.int la), .val (.int mi), .val (.int md), .val (.int nn), .val (.int u0), .val (.int u1), .val (.int l0), .val (.int l1), .val (.int m0), .val (.int m1), .val (.ref b282), .val (.ref b296), .unset, .unset, .unset, .unset, .unset, .unset, .unset, .unset, .unset, .unset, .unset, .unset, .unset, .unset] [(.ref b317)]
          have f337 := Exa.wr W336 f328
          have f338 := f329.other W336 ne318
          have f339 := Exa.wr W336 f330
          have f340 := f331.other W336 ne319
          have f341 := Exa.wr W336 f332
          have Z342 : n0 ≤ h336.size := Nat.le_trans Z333 (Keep.of_wr W336).1
          have f343 : Va Z h336 b317 .char [(.int m0), (.int (chr m1))] := V336
          have f344 : Va Z h336 b317 .char [(.int m0), (.int m1)] := by rw [show (chr m1) = m1 from bm1] at f343; exact f343
          refine Go.movp st336 (mkF m 242 #[.val (.int p0), .val (.int p1), .val (.int p2), .val (.int p3), .val (.int p4), .val (.int p5), .val (.int fi), .val (.int la), .val (.int mi), .val (.int md), .val (.int nn), .val (.int u0), .val (.int u1), .val (.int l0), .val (.int l1), .val (.int m0), .val (.int m1), .val (.ref b282), .val (.ref b296), .unset, .unset, .unset, .unset, .unset, .unset, .unset, .unset, .unset, .unset, .unset, .unset, .unset, .unset] [(.ref b317)]) rfl ?_
          refine g_astore X336 hx (hb hby at_242) (pc' := 244) rfl rfl (Ls' := #[.val (.int p0), .val (.int p1), .val (.int p2), .val (.int p3), .val (.int p4), .val (.int p5), .val (.int fi), .val (.int la), .val (.int mi), .val (.int md), .val (.int nn), .val (.int u0), .val (.int u1), .val (.int l0), .val (.int l1), .val (.int m0), .val (.int m1), .val (.ref b282), .val (.ref b296), .val (.ref b317), .unset, .unset, .unset, .unset, .unset, .unset, .unset, .unset, .unset, .unset, .unset, .unset, .unset]) rfl ?_
          refine g_iconst X336 hx (hb hby at_244) (pc' := 245) rfl (z := (2 : Int32)) rfl ?_
          refine g_istore X336 hx (hb hby at_245) (pc' := 247) rfl (Ls' := #[.val (.int p0), .val (.int p1), .val (.int p2), .val (.int p3), .val (.int p4), .val (.int p5), .val (.int fi), .val (.int la), .val (.int mi), .val (.int md), .val (.int nn), .val (.int u0), .val (.int u1), .val (.int l0), .val (.int l1), .val (.int m0), .val (.int m1), .val (.ref b282), .val (.ref b296), .val (.ref b317), .val (.int (2 : Int32)), .unset, .unset, .unset, .unset, .unset, .unset, .unset, .unset, .unset, .unset, .unset, .unset]) rfl ?_
          refine g_iconst X336 hx (hb hby at_247) (pc' := 248) rfl (z := (1 : Int32)) rfl ?_
          refine g_istore X336 hx (hb hby at_248) (pc' := 250) rfl (Ls' := #[.val (.int p0), .val (.int p1), .val (.int p2), .val (.int p3), .val (.int p4), .val (.int p5), .val (.int fi), .val (.int la), .val (.int mi), .val (.int md), .val (.int nn), .val (.int u0), .val (.int u1), .val (.int l0), .val (.int l1), .val (.int m0), .val (.int m1), .val (.ref b282), .val (.ref b296), .val (.ref b317), .val (.int (2 : Int32)), .val (.int (1 : Int32)), .unset, .unset, .unset, .unset, .unset, .unset, .unset, .unset, .unset, .unset, .unset]) rfl ?_
          have J345 : ∀ (z0 : Int32) (hz0 : z0 = (if u0 = fi ∧ l0 = la ∧ m0 = mi then (1 : Int32) else 0)), Go p e below (EndF s room_1.cells room_1.slots) n0 (Q0 Z p0 p1 p2 p3 p4 p5 h0 n0) T336 (mkF m 282 #[.val (.int p0), .val (.int p1), .val (.int p2), .val (.int p3), .val (.int p4), .val (.int p5), .val (.int fi), .val (.int la), .val (.int mi), .val (.int md), .val (.int nn), .val (.int u0), .val (.int u1), .val (.int l0), .val (.int l1), .val (.int m0), .val (.int m1), .val (.ref b282), .val (.ref b296), .val (.ref b317), .val (.int (2 : Int32)), .val (.int (1 : Int32)), .unset, .unset, .unset, .unset, .unset, .unset, .unset, .unset, .unset, .unset, .unset] [(.int z0)]) := by
            intro  z0 hz0
            refine g_istore X336 hx (hb hby at_282) (pc' := 284) rfl (Ls' := #[.val (.int p0), .val (.int p1), .val (.int p2), .val (.int p3), .val (.int p4), .val (.int p5), .val (.int fi), .val (.int la), .val (.int mi), .val (.int md), .val (.int nn), .val (.int u0), .val (.int u1), .val (.int l0), .val (.int l1), .val (.int m0), .val (.int m1), .val (.ref b282), .val (.ref b296), .val (.ref b317), .val (.int (2 : Int32)), .val (.int (1 : Int32)), .val (.int z0), .unset, .unset, .unset, .unset, .unset, .unset, .unset, .unset, .unset, .unset]) rfl ?_
            have J346 : ∀ (z1 : Int32) (hz1 : z1 = (if u1 = fi ∧ l1 = la ∧ m1 = mi then (1 : Int32) else 0)), Go p e below (EndF s room_1.cells room_1.slots) n0 (Q0 Z p0 p1 p2 p3 p4 p5 h0 n0) T336 (mkF m 316 #[.val (.int p0), .val (.int p1), .val (.int p2), .val (.int p3), .val (.int p4), .val (.int p5), .val (.int fi), .val (.int la), .val (.int mi), .val (.int md), .val (.int nn), .val (.int u0), .val (.int u1), .val (.int l0), .val (.int l1), .val (.int m0), .val (.int m1), .val (.ref b282), .val (.ref b296), .val (.ref b317), .val (.int (2 : Int32)), .val (.int (1 : Int32)), .val (.int z0), .unset, .unset, .unset, .unset, .unset, .unset, .unset, .unset, .unset, .unset] [(.int z1)]) := by
              intro  z1 hz1
              refine g_istore X336 hx (hb hby at_316) (pc' := 318) rfl (Ls' := #[.val (.int p0), .val (.int p1), .val (.int p2), .val (.int p3), .val (.int p4), .val (.int p5), .val (.int fi), .val (.int la), .val (.int mi), .val (.int md), .val (.int nn), .val (.int u0), .val (.int u1), .val (.int l0), .val (.int l1), .val (.int m0), .val (.int m1), .val (.ref b282), .val (.ref b296), .val (.ref b317), .val (.int (2 : Int32)), .val (.int (1 : Int32)), .val (.int z0), .val (.int z1), .unset, .unset, .unset, .unset, .unset, .unset, .unset, .unset, .unset]) rfl ?_
              refine g_aload X336 hx (hb hby at_318) (pc' := 320) rfl rfl rfl ?_
              refine g_iconst X336 hx (hb hby at_320) (pc' := 321) rfl (z := (0 : Int32)) rfl ?_
              refine g_caload X336 hx hZ e336 f340 (i := 0) (v := (.int l0)) (hb hby at_321) (pc' := 322) rfl (by decide) rfl rfl ?_
              refine g_istore X336 hx (hb hby at_322) (pc' := 324) rfl (Ls' := #[.val (.int p0), .val (.int p1), .val (.int p2), .val (.int p3), .val (.int p4), .val (.int p5), .val (.int fi), .val (.int la), .val (.int mi), .val (.int md), .val (.int nn), .val (.int u0), .val (.int u1), .val (.int l0), .val (.int l1), .val (.int m0), .val (.int m1), .val (.ref b282), .val (.ref b296), .val (.ref b317), .val (.int (2 : Int32)), .val (.int (1 : Int32)), .val (.int z0), .val (.int z1), .val (.int l0), .unset, .unset, .unset, .unset, .unset, .unset, .unset, .unset]) rfl ?_
              refine g_aload X336 hx (hb hby at_324) (pc' := 326) rfl rfl rfl ?_
              refine g_iconst X336 hx (hb hby at_326) (pc' := 327) rfl (z := (1 : Int32)) rfl ?_
              refine g_caload X336 hx hZ e336 f340 (i := 1) (v := (.int l1)) (hb hby at_327) (pc' := 328) rfl (by decide) rfl rfl ?_
              refine g_istore X336 hx (hb hby at_328) (pc' := 330) rfl (Ls' := #[.val (.int p0), .val (.int p1), .val (.int p2), .val (.int p3), .val (.int p4), .val (.int p5), .val (.int fi), .val (.int la), .val (.int mi), .val (.int md), .val (.int nn), .val (.int u0), .val (.int u1), .val (.int l0), .val (.int l1), .val (.int m0), .val (.int m1), .val (.ref b282), .val (.ref b296), .val (.ref b317), .val (.int (2 : Int32)), .val (.int (1 : Int32)), .val (.int z0), .val (.int z1), .val (.int l0), .val (.int l1), .unset, .unset, .unset, .unset, .unset, .unset, .unset]) rfl ?_
              refine g_aload X336 hx (hb hby at_330) (pc' := 332) rfl rfl rfl ?_
              refine g_iconst X336 hx (hb hby at_332) (pc' := 333) rfl (z := (0 : Int32)) rfl ?_
              refine g_caload X336 hx hZ e336 f344 (i := 0) (v := (.int m0)) (hb hby at_333) (pc' := 334) rfl (by decide) rfl rfl ?_
              refine g_istore X336 hx (hb hby at_334) (pc' := 336) rfl (Ls' := #[.val (.int p0), .val (.int p1), .val (.int p2), .val (.int p3), .val (.int p4), .val (.int p5), .val (.int fi), .val (.int la), .val (.int mi), .val (.int md), .val (.int nn), .val (.int u0), .val (.int u1), .val (.int l0), .val (.int l1), .val (.int m0), .val (.int m1), .val (.ref b282), .val (.ref b296), .val (.ref b317), .val (.int (2 : Int32)), .val (.int (1 : Int32)), .val (.int z0), .val (.int z1), .val (.int l0), .val (.int l1), .val (.int m0), .unset, .unset, .unset, .unset, .unset, .unset]) rfl ?_
              refine g_aload X336 hx (hb hby at_336) (pc' := 338) rfl rfl rfl ?_
              refine g_iconst X336 hx (hb hby at_338) (pc' := 339) rfl (z := (1 : Int32)) rfl ?_
              refine g_caload X336 hx hZ e336 f344 (i := 1) (v := (.int m1)) (hb hby at_339) (pc' := 340) rfl (by decide) rfl rfl ?_
              refine g_istore X336 hx (hb hby at_340) (pc' := 342) rfl (Ls' := #[.val (.int p0), .val (.int p1), .val (.int p2), .val (.int p3), .val (.int p4), .val (.int p5), .val (.int fi), .val (.int la), .val (.int mi), .val (.int md), .val (.int nn), .val (.int u0), .val (.int u1), .val (.int l0), .val (.int l1), .val (.int m0), .val (.int m1), .val (.ref b282), .val (.ref b296), .val (.ref b317), .val (.int (2 : Int32)), .val (.int (1 : Int32)), .val (.int z0), .val (.int z1), .val (.int l0), .val (.int l1), .val (.int m0), .val (.int m1), .unset, .unset, .unset, .unset, .unset]) rfl ?_
              obtain ⟨T347, h347, X347, e347, E347, A347, D347, -, st347⟩ := newO X336 hx hZ hown (hw _ (List.mem_of_getElem? (i := 10) rfl)) (hw _ (List.mem_of_getElem? (i := 11) rfl)) (hw _ (List.mem_of_getElem? (i := 12) rfl)) e336 (g := (mkF m 342 #[.val (.int p0), .val (.int p1), .val (.int p2), .val (.int p3), .val (.int p4), .val (.int p5), .val (.int fi), .val (.int la), .val (.int mi), .val (.int md), .val (.int nn), .val (.int u0), .val (.int u1), .val (.int l0), .val (.int l1), .val (.int m0), .val (.int m1), .val (.ref b282), .val (.ref b296), .val (.ref b317), .val (.int (2 : Int32)), .val (.int (1 : Int32)), .val (.int z0), .val (.int z1), .val (.int l0), .val (.int l1), .val (.int m0), .val (.int m1), .unset, .unset, .unset, .unset, .unset] [])) rfl (hb hby at_342) (by decide) (by decide)
              obtain ⟨b347, g347⟩ : ∃ z, z = h336.size := ⟨_, rfl⟩
              rw [← g347] at A347 D347 st347
              have ne348 : b282 ≠ b347 := Nat.ne_of_lt (g347 ▸ f337.lt)
              have ne349 : b296 ≠ b347 := Nat.ne_of_lt (g347 ▸ f339.lt)
              have ne350 : b317 ≠ b347 := Nat.ne_of_lt (g347 ▸ f341.lt)
              have ge351 : n0 ≤ b347 := g347 ▸ Z342
              have f352 := Exa.ext E347 f337
              have f353 := f338.ext E347
              have f354 := Exa.ext E347 f339
              have f355 := f340.ext E347
              have f356 := Exa.ext E347 f341
              have f357 := f344.ext E347
              have Z358 : n0 ≤ h347.size := Nat.le_trans Z342 E347.1
              have f359 : Fld Z h347 b347 "com/example/needlework/needlework/PackedBlock" "first" "I" (.int (0 : Int32)) := D347 (Or.inr (hw _ (List.mem_of_getElem? (i := 25) rfl))) (ty := .int) (by decide)
              have f360 : Fld Z h347 b347 "com/example/needlework/needlework/PackedBlock" "last" "I" (.int (0 : Int32)) := D347 (Or.inr (hw _ (List.mem_of_getElem? (i := 27) rfl))) (ty := .int) (by decide)
              have f361 : Fld Z h347 b347 "com/example/needlework/needlework/PackedBlock" "middle" "I" (.int (0 : Int32)) := D347 (Or.inr (hw _ (List.mem_of_getElem? (i := 29) rfl))) (ty := .int) (by decide)
              have f362 : Fld Z h347 b347 "com/example/needlework/needlework/PackedBlock" "lastOffset" "I" (.int (0 : Int32)) := D347 (Or.inr (hw _ (List.mem_of_getElem? (i := 31) rfl))) (ty := .int) (by decide)
              have f363 : Fld Z h347 b347 "com/example/needlework/needlework/PackedBlock" "middleOffset" "I" (.int (0 : Int32)) := D347 (Or.inr (hw _ (List.mem_of_getElem? (i := 33) rfl))) (ty := .int) (by decide)
              have f364 : Fld Z h347 b347 "com/example/needlework/needlework/PackedBlock" "units" "Ljava/lang/Object;" .null := D347 (Or.inl (hw _ (List.mem_of_getElem? (i := 36) rfl))) (ty := (.object "java/lang/Object")) (by decide)
              have f365 : Fld Z h347 b347 "com/example/needlework/needlework/PackedBlock" "lasts" "Ljava/lang/Object;" .null := D347 (Or.inl (hw _ (List.mem_of_getElem? (i := 39) rfl))) (ty := (.object "java/lang/Object")) (by decide)
              have f366 : Fld Z h347 b347 "com/example/needlework/needlework/PackedBlock" "middles" "Ljava/lang/Object;" .null := D347 (Or.inl (hw _ (List.mem_of_getElem? (i := 42) rfl))) (ty := (.object "java/lang/Object")) (by decide)
              refine Go.movp st347 (mkF m 345 #[.val (.int p0), .val (.int p1), .val (.int p2), .val (.int p3), .val (.int p4), .val (.int p5), .val (.int fi), .val (.int la), .val (.int mi), .val (.int md), .val (.int nn), .val (.int u0), .val (.int u1), .val (.int l0), .val (.int l1), .val (.int m0), .val (.int m1), .val (.ref b282), .val (.ref b296), .val (.ref b317), .val (.int (2 : Int32)), .val (.int (1 : Int32)), .val (.int z0), .val (.int z1), .val (.int l0), .val (.int l1), .val (.int m0), .val (.int m1), .unset, .unset, .unset, .unset, .unset] [(.ref b347)]) rfl ?_
              refine g_dup X347 hx (hb hby at_345) (pc' := 346) rfl rfl ?_
              refine g_iload X347 hx (hb hby at_346) (pc' := 348) rfl rfl ?_
              refine g_iload X347 hx (hb hby at_348) (pc' := 350) rfl rfl ?_
              refine g_iload X347 hx (hb hby at_350) (pc' := 352) rfl rfl ?_
              refine g_iload X347 hx (hb hby at_352) (pc' := 354) rfl rfl ?_
              refine g_iload X347 hx (hb hby at_354) (pc' := 356) rfl rfl ?_
              obtain ⟨v367, T367, h367, L367, X367, e367, N367, q367, st367⟩ := h_special (a := b347) X347 hx (W := 1) (Ls := #[.val (.int p0), .val (.int p1), .val (.int p2), .val (.int p3), .val (.int p4), .val (.int p5), .val (.int fi), .val (.int la), .val (.int mi), .val (.int md), .val (.int nn), .val (.int u0), .val (.int u1), .val (.int l0), .val (.int l1), .val (.int m0), .val (.int m1), .val (.ref b282), .val (.ref b296), .val (.ref b317), .val (.int (2 : Int32)), .val (.int (1 : Int32)), .val (.int z0), .val (.int z1), .val (.int l0), .val (.int l1), .val (.int m0), .val (.int m1), .unset, .unset, .unset, .unset, .unset]) (argsL := [(.int fi), (.int la), (.int mi), (.int (2 : Int32)), (.int (1 : Int32))]) (rest := [(.ref b347)]) hZ e347 N336 hml hown rfl (rm3 l Z a0 hw b347 fi la mi (2 : Int32) (1 : Int32) h347 n0 Z358 f359 f360 f361 f362 f363 f364 f365 f366 A347 ge351) (hw _ (List.mem_of_getElem? (i := 13) rfl)) (hw _ (List.mem_of_getElem? (i := 14) rfl)) (hw _ (List.mem_of_getElem? (i := 12) rfl)) (hw _ (List.mem_of_getElem? (i := 15) rfl)) (by decide) pd__CCCII_V rfl rfl (hb hby at_356) rfl (by decide) (by decide) (by decide) (by decide)
              obtain ⟨rfl, K367, A367, C0_367, C1_367, C2_367, C3_367, C4_367, C5_367, C6_367, C7_367⟩ := q367
              have f368 := f352.keep K367
              have f369 := f353.keep K367 (ninS ne348 nin0)
              have f370 := f354.keep K367
              have f371 := f355.keep K367 (ninS ne349 nin0)
              have f372 := f356.keep K367
              have f373 := f357.keep K367 (ninS ne350 nin0)
              have f374 := A347.keep K367
              have Z375 : n0 ≤ h367.size := Nat.le_trans Z358 K367.1
              refine Go.movp st367 (mkF m 359 #[.val (.int p0), .val (.int p1), .val (.int p2), .val (.int p3), .val (.int p4), .val (.int p5), .val (.int fi), .val (.int la), .val (.int mi), .val (.int md), .val (.int nn), .val (.int u0), .val (.int u1), .val (.int l0), .val (.int l1), .val (.int m0), .val (.int m1), .val (.ref b282), .val (.ref b296), .val (.ref b317), .val (.int (2 : Int32)), .val (.int (1 : Int32)), .val (.int z0), .val (.int z1), .val (.int l0), .val (.int l1), .val (.int m0), .val (.int m1), .unset, .unset, .unset, .unset, .unset] [(.ref b347)]) rfl ?_
              refine g_astore X367 hx (hb hby at_359) (pc' := 361) rfl rfl (Ls' := #[.val (.int p0), .val (.int p1), .val (.int p2), .val (.int p3), .val (.int p4), .val (.int p5), .val (.int fi), .val (.int la), .val (.int mi), .val (.int md), .val (.int nn), .val (.int u0), .val (.int u1), .val (.int l0), .val (.int l1), .val (.int m0), .val (.int m1), .val (.ref b282), .val (.ref b296), .val (.ref b317), .val (.int (2 : Int32)), .val (.int (1 : Int32)), .val (.int z0), .val (.int z1), .val (.int l0), .val (.int l1), .val (.int m0), .val (.int m1), .val (.ref b347), .unset, .unset, .unset, .unset]) rfl ?_
              refine g_aload X367 hx (hb hby at_361) (pc' := 363) rfl rfl rfl ?_
              refine g_aload X367 hx (hb hby at_363) (pc' := 365) rfl rfl rfl ?_
              obtain ⟨T376, h376, X376, e376, W376, st376⟩ := putF X367 hx hZ hown (host := "") (Or.inl (hw _ (List.mem_of_getElem? (i := 34) rfl))) (Via.of (hw _ (List.mem_of_getElem? (i := 35) rfl))) e367 C5_367 A367 (Or.inl (hw _ (List.mem_of_getElem? (i := 36) rfl))) (hw _ (List.mem_of_getElem? (i := 11) rfl)) (ty := (.object "java/lang/Object")) (by decide) rfl rfl (g := (mkF m 365 #[.val (.int p0), .val (.int p1), .val (.int p2), .val (.int p3), .val (.int p4), .val (.int p5), .val (.int fi), .val (.int la), .val (.int mi), .val (.int md), .val (.int nn), .val (.int u0), .val (.int u1), .val (.int l0), .val (.int l1), .val (.int m0), .val (.int m1), .val (.ref b282), .val (.ref b296), .val (.ref b317), .val (.int (2 : Int32)), .val (.int (1 : Int32)), .val (.int z0), .val (.int z1), .val (.int l0), .val (.int l1), .val (.int m0), .val (.int m1), .val (.ref b347), .unset, .unset, .unset, .unset] [(.ref b282), (.ref b347)])) rfl rfl (hb hby at_365)
              have f377 : Fld Z h376 b347 "com/example/needlework/needlework/PackedBlock" "units" "Ljava/lang/Object;" (.ref b282) := Fld.same W376 C5_367
              have N376 := Fr.snoc X376 N367 ge351
              have f378 := Exa.wr W376 f368
              have f379 := f369.other W376 ne348
              have f380 := Exa.wr W376 f370
              have f381 := f371.other W376 ne349
              have f382 := Exa.wr W376 f372
              have f383 := f373.other W376 ne350
              have f384 := Exa.wr W376 A367
              have f385 := Fld.other W376 C0_367 (Or.inr (slot_ne (Or.inr (hw _ (List.mem_of_getElem? (i := 25) rfl))) (Or.inl (hw _ (List.mem_of_getElem? (i := 36) rfl))) (by decide) (t := .int) (t' := (.object "java/lang/Object")) (by decide) (by decide)))
              have f386 := Fld.other W376 C1_367 (Or.inr (slot_ne (Or.inr (hw _ (List.mem_of_getElem? (i := 27) rfl))) (Or.inl (hw _ (List.mem_of_getElem? (i := 36) rfl))) (by decide) (t := .int) (t' := (.object "java/lang/Object")) (by decide) (by decide)))
              have f387 := Fld.other W376 C2_367 (Or.inr (slot_ne (Or.inr (hw _ (List.mem_of_getElem? (i := 29) rfl))) (Or.inl (hw _ (List.mem_of_getElem? (i := 36) rfl))) (by decide) (t := .int) (t' := (.object "java/lang/Object")) (by decide) (by decide)))
              have f388 := Fld.other W376 C3_367 (Or.inr (slot_ne (Or.inr (hw _ (List.mem_of_getElem? (i := 31) rfl))) (Or.inl (hw _ (List.mem_of_getElem? (i := 36) rfl))) (by decide) (t := .int) (t' := (.object "java/lang/Object")) (by decide) (by decide)))
              have f389 := Fld.other W376 C4_367 (Or.inr (slot_ne (Or.inr (hw _ (List.mem_of_getElem? (i := 33) rfl))) (Or.inl (hw _ (List.mem_of_getElem? (i := 36) rfl))) (by decide) (t := .int) (t' := (.object "java/lang/Object")) (by decide) (by decide)))
              have f390 := Fld.other W376 C6_367 (Or.inr (slot_ne (Or.inl (hw _ (List.mem_of_getElem? (i := 39) rfl))) (Or.inl (hw _ (List.mem_of_getElem? (i := 36) rfl))) (by decide) (t := (.object "java/lang/Object")) (t' := (.object "java/lang/Object")) (by decide) (by decide)))
              have f391 := Fld.other W376 C7_367 (Or.inr (slot_ne (Or.inl (hw _ (List.mem_of_getElem? (i := 42) rfl))) (Or.inl (hw _ (List.mem_of_getElem? (i := 36) rfl))) (by decide) (t := (.object "java/lang/Object")) (t' := (.object "java/lang/Object")) (by decide) (by decide)))
              have Z392 : n0 ≤ h376.size := Nat.le_trans Z375 (Keep.of_wr W376).1
              refine Go.movp st376 (mkF m 368 #[.val (.int p0), .val (.int p1), .val (.int p2), .val (.int p3), .val (.int p4), .val (.int p5), .val (.int fi), .val (.int la), .val (.int mi), .val (.int md), .val (.int nn), .val (.int u0), .val (.int u1), .val (.int l0), .val (.int l1), .val (.int m0), .val (.int m1), .val (.ref b282), .val (.ref b296), .val (.ref b317), .val (.int (2 : Int32)), .val (.int (1 : Int32)), .val (.int z0), .val (.int z1), .val (.int l0), .val (.int l1), .val (.int m0), .val (.int m1), .val (.ref b347), .unset, .unset, .unset, .unset] []) rfl ?_
              refine g_aload X376 hx (hb hby at_368) (pc' := 370) rfl rfl rfl ?_
              refine g_aload X376 hx (hb hby at_370) (pc' := 372) rfl rfl rfl ?_
              obtain ⟨T393, h393, X393, e393, W393, st393⟩ := putF X376 hx hZ hown (host := "") (Or.inl (hw _ (List.mem_of_getElem? (i := 37) rfl))) (Via.of (hw _ (List.mem_of_getElem? (i := 38) rfl))) e376 f390 f384 (Or.inl (hw _ (List.mem_of_getElem? (i := 39) rfl))) (hw _ (List.mem_of_getElem? (i := 11) rfl)) (ty := (.object "java/lang/Object")) (by decide) rfl rfl (g := (mkF m 372 #[.val (.int p0), .val (.int p1), .val (.int p2), .val (.int p3), .val (.int p4), .val (.int p5), .val (.int fi), .val (.int la), .val (.int mi), .val (.int md), .val (.int nn), .val (.int u0), .val (.int u1), .val (.int l0), .val (.int l1), .val (.int m0), .val (.int m1), .val (.ref b282), .val (.ref b296), .val (.ref b317), .val (.int (2 : Int32)), .val (.int (1 : Int32)), .val (.int z0), .val (.int z1), .val (.int l0), .val (.int l1), .val (.int m0), .val (.int m1), .val (.ref b347), .unset, .unset, .unset, .unset] [(.ref b296), (.ref b347)])) rfl rfl (hb hby at_372)
              have f394 : Fld Z h393 b347 "com/example/needlework/needlework/PackedBlock" "lasts" "Ljava/lang/Object;" (.ref b296) := Fld.same W393 f390
              have N393 := Fr.snoc X393 N376 ge351
              have f395 := Exa.wr W393 f378
              have f396 := f379.other W393 ne348
              have f397 := Exa.wr W393 f380
              have f398 := f381.other W393 ne349
              have f399 := Exa.wr W393 f382
              have f400 := f383.other W393 ne350
              have f401 := Exa.wr W393 f384
              have f402 := Fld.other W393 f385 (Or.inr (slot_ne (Or.inr (hw _ (List.mem_of_getElem? (i := 25) rfl))) (Or.inl (hw _ (List.mem_of_getElem? (i := 39) rfl))) (by decide) (t := .int) (t' := (.object "java/lang/Object")) (by decide) (by decide)))
              have f403 := Fld.other W393 f386 (Or.inr (slot_ne (Or.inr (hw _ (List.mem_of_getElem? (i := 27) rfl))) (Or.inl (hw _ (List.mem_of_getElem? (i := 39) rfl))) (by decide) (t := .int) (t' := (.object "java/lang/Object")) (by decide) (by decide)))
              have f404 := Fld.other W393 f387 (Or.inr (slot_ne (Or.inr (hw _ (List.mem_of_getElem? (i := 29) rfl))) (Or.inl (hw _ (List.mem_of_getElem? (i := 39) rfl))) (by decide) (t := .int) (t' := (.object "java/lang/Object")) (by decide) (by decide)))
              have f405 := Fld.other W393 f388 (Or.inr (slot_ne (Or.inr (hw _ (List.mem_of_getElem? (i := 31) rfl))) (Or.inl (hw _ (List.mem_of_getElem? (i := 39) rfl))) (by decide) (t := .int) (t' := (.object "java/lang/Object")) (by decide) (by decide)))
              have f406 := Fld.other W393 f389 (Or.inr (slot_ne (Or.inr (hw _ (List.mem_of_getElem? (i := 33) rfl))) (Or.inl (hw _ (List.mem_of_getElem? (i := 39) rfl))) (by decide) (t := .int) (t' := (.object "java/lang/Object")) (by decide) (by decide)))
              have f407 := Fld.other W393 f391 (Or.inr (slot_ne (Or.inl (hw _ (List.mem_of_getElem? (i := 42) rfl))) (Or.inl (hw _ (List.mem_of_getElem? (i := 39) rfl))) (by decide) (t := (.object "java/lang/Object")) (t' := (.object "java/lang/Object")) (by decide) (by decide)))
              have f408 := Fld.other W393 f377 (Or.inr (slot_ne (Or.inl (hw _ (List.mem_of_getElem? (i := 36) rfl))) (Or.inl (hw _ (List.mem_of_getElem? (i := 39) rfl))) (by decide) (t := (.object "java/lang/Object")) (t' := (.object "java/lang/Object")) (by decide) (by decide)))
              have Z409 : n0 ≤ h393.size := Nat.le_trans Z392 (Keep.of_wr W393).1
              refine Go.movp st393 (mkF m 375 #[.val (.int p0), .val (.int p1), .val (.int p2), .val (.int p3), .val (.int p4), .val (.int p5), .val (.int fi), .val (.int la), .val (.int mi), .val (.int md), .val (.int nn), .val (.int u0), .val (.int u1), .val (.int l0), .val (.int l1), .val (.int m0), .val (.int m1), .val (.ref b282), .val (.ref b296), .val (.ref b317), .val (.int (2 : Int32)), .val (.int (1 : Int32)), .val (.int z0), .val (.int z1), .val (.int l0), .val (.int l1), .val (.int m0), .val (.int m1), .val (.ref b347), .unset, .unset, .unset, .unset] []) rfl ?_
              refine g_aload X393 hx (hb hby at_375) (pc' := 377) rfl rfl rfl ?_
              refine g_aload X393 hx (hb hby at_377) (pc' := 379) rfl rfl rfl ?_
              obtain ⟨T410, h410, X410, e410, W410, st410⟩ := putF X393 hx hZ hown (host := "") (Or.inl (hw _ (List.mem_of_getElem? (i := 40) rfl))) (Via.of (hw _ (List.mem_of_getElem? (i := 41) rfl))) e393 f407 f401 (Or.inl (hw _ (List.mem_of_getElem? (i := 42) rfl))) (hw _ (List.mem_of_getElem? (i := 11) rfl)) (ty := (.object "java/lang/Object")) (by decide) rfl rfl (g := (mkF m 379 #[.val (.int p0), .val (.int p1), .val (.int p2), .val (.int p3), .val (.int p4), .val (.int p5), .val (.int fi), .val (.int la), .val (.int mi), .val (.int md), .val (.int nn), .val (.int u0), .val (.int u1), .val (.int l0), .val (.int l1), .val (.int m0), .val (.int m1), .val (.ref b282), .val (.ref b296), .val (.ref b317), .val (.int (2 : Int32)), .val (.int (1 : Int32)), .val (.int z0), .val (.int z1), .val (.int l0), .val (.int l1), .val (.int m0), .val (.int m1), .val (.ref b347), .unset, .unset, .unset, .unset] [(.ref b317), (.ref b347)])) rfl rfl (hb hby at_379)
              have f411 : Fld Z h410 b347 "com/example/needlework/needlework/PackedBlock" "middles" "Ljava/lang/Object;" (.ref b317) := Fld.same W410 f407
              have N410 := Fr.snoc X410 N393 ge351
              have f412 := Exa.wr W410 f395
              have f413 := f396.other W410 ne348
              have f414 := Exa.wr W410 f397
              have f415 := f398.other W410 ne349
              have f416 := Exa.wr W410 f399
              have f417 := f400.other W410 ne350
              have f418 := Exa.wr W410 f401
              have f419 := Fld.other W410 f402 (Or.inr (slot_ne (Or.inr (hw _ (List.mem_of_getElem? (i := 25) rfl))) (Or.inl (hw _ (List.mem_of_getElem? (i := 42) rfl))) (by decide) (t := .int) (t' := (.object "java/lang/Object")) (by decide) (by decide)))
              have f420 := Fld.other W410 f403 (Or.inr (slot_ne (Or.inr (hw _ (List.mem_of_getElem? (i := 27) rfl))) (Or.inl (hw _ (List.mem_of_getElem? (i := 42) rfl))) (by decide) (t := .int) (t' := (.object "java/lang/Object")) (by decide) (by decide)))
              have f421 := Fld.other W410 f404 (Or.inr (slot_ne (Or.inr (hw _ (List.mem_of_getElem? (i := 29) rfl))) (Or.inl (hw _ (List.mem_of_getElem? (i := 42) rfl))) (by decide) (t := .int) (t' := (.object "java/lang/Object")) (by decide) (by decide)))
              have f422 := Fld.other W410 f405 (Or.inr (slot_ne (Or.inr (hw _ (List.mem_of_getElem? (i := 31) rfl))) (Or.inl (hw _ (List.mem_of_getElem? (i := 42) rfl))) (by decide) (t := .int) (t' := (.object "java/lang/Object")) (by decide) (by decide)))
              have f423 := Fld.other W410 f406 (Or.inr (slot_ne (Or.inr (hw _ (List.mem_of_getElem? (i := 33) rfl))) (Or.inl (hw _ (List.mem_of_getElem? (i := 42) rfl))) (by decide) (t := .int) (t' := (.object "java/lang/Object")) (by decide) (by decide)))
              have f424 := Fld.other W410 f408 (Or.inr (slot_ne (Or.inl (hw _ (List.mem_of_getElem? (i := 36) rfl))) (Or.inl (hw _ (List.mem_of_getElem? (i := 42) rfl))) (by decide) (t := (.object "java/lang/Object")) (t' := (.object "java/lang/Object")) (by decide) (by decide)))
              have f425 := Fld.other W410 f394 (Or.inr (slot_ne (Or.inl (hw _ (List.mem_of_getElem? (i := 39) rfl))) (Or.inl (hw _ (List.mem_of_getElem? (i := 42) rfl))) (by decide) (t := (.object "java/lang/Object")) (t' := (.object "java/lang/Object")) (by decide) (by decide)))
              have Z426 : n0 ≤ h410.size := Nat.le_trans Z409 (Keep.of_wr W410).1
              refine Go.movp st410 (mkF m 382 #[.val (.int p0), .val (.int p1), .val (.int p2), .val (.int p3), .val (.int p4), .val (.int p5), .val (.int fi), .val (.int la), .val (.int mi), .val (.int md), .val (.int nn), .val (.int u0), .val (.int u1), .val (.int l0), .val (.int l1), .val (.int m0), .val (.int m1), .val (.ref b282), .val (.ref b296), .val (.ref b317), .val (.int (2 : Int32)), .val (.int (1 : Int32)), .val (.int z0), .val (.int z1), .val (.int l0), .val (.int l1), .val (.int m0), .val (.int m1), .val (.ref b347), .unset, .unset, .unset, .unset] []) rfl ?_
              refine g_aload X410 hx (hb hby at_382) (pc' := 384) rfl rfl rfl ?_
              refine g_iload X410 hx (hb hby at_384) (pc' := 386) rfl rfl ?_
              obtain ⟨w0, hw0⟩ : ∃ z : Int32, z = (if (0 : Int32) < nn then (mkV u0 l0 m0 fi la mi) else u0) := ⟨_, rfl⟩
              obtain ⟨w1, hw1⟩ : ∃ z : Int32, z = (if (1 : Int32) < nn then (mkV u1 l1 m1 fi la mi) else u1) := ⟨_, rfl⟩
              have hm0 := own_mk bu0 bl0 bm0 bfi bla bmi
              have hm1 := own_mk bu1 bl1 bm1 bfi bla bmi
              obtain ⟨v427, T427, h427, L427, X427, e427, N427, q427, st427⟩ := h_virtual (a := b347) (z := (⟨"com/example/needlework/needlework/PackedBlock$Chars", "mark", "(I)V"⟩ : MethodName)) X410 hx (W := 0) (Ls := #[.val (.int p0), .val (.int p1), .val (.int p2), .val (.int p3), .val (.int p4), .val (.int p5), .val (.int fi), .val (.int la), .val (.int mi), .val (.int md), .val (.int nn), .val (.int u0), .val (.int u1), .val (.int l0), .val (.int l1), .val (.int m0), .val (.int m1), .val (.ref b282), .val (.ref b296), .val (.ref b317), .val (.int (2 : Int32)), .val (.int (1 : Int32)), .val (.int z0), .val (.int z1), .val (.int l0), .val (.int l1), .val (.int m0), .val (.int m1), .val (.ref b347), .unset, .unset, .unset, .unset]) (argsL := [(.int nn)]) (rest := []) hZ e410 N410 hml hown (rm6_0 l Z a0 hw b347 b282 b296 b317 u0 u1 l0 l1 m0 m1 fi la mi nn w0 w1 h410 n0 Z426 f424 f425 f411 f419 f420 f421 f413 f415 f417 f412 f414 f416 ge283 (Ne.symm ne297) (Ne.symm ne318) (Ne.symm ne348) hnn hw0 hw1) f418 (hw _ (List.mem_of_getElem? (i := 43) rfl)) (hw _ (List.mem_of_getElem? (i := 44) rfl)) (notFace_of_selects (args := #[]) (mvT hZ (hw _ (List.mem_of_getElem? (i := 46) rfl)))) (hw _ (List.mem_of_getElem? (i := 46) rfl)) (hw _ (List.mem_of_getElem? (i := 45) rfl)) (hw _ (List.mem_of_getElem? (i := 12) rfl)) (hw _ (List.mem_of_getElem? (i := 47) rfl)) (by decide) pd__I_V rfl rfl (hb hby at_386) rfl (by decide) (by decide) (by decide) (by decide)
              obtain ⟨rfl, K427, V427⟩ := q427
              have f428 := f412.keep K427
              have f429 := f414.keep K427
              have f430 := f415.keep K427 (ninS (Ne.symm ne297) nin0)
              have f431 := f416.keep K427
              have f432 := f417.keep K427 (ninS (Ne.symm ne318) nin0)
              have f433 := f418.keep K427
              have f434 := f419.keep K427 (ninS (Ne.symm ne348) nin0)
              have f435 := f420.keep K427 (ninS (Ne.symm ne348) nin0)
              have f436 := f421.keep K427 (ninS (Ne.symm ne348) nin0)
              have f437 := f422.keep K427 (ninS (Ne.symm ne348) nin0)
              have f438 := f423.keep K427 (ninS (Ne.symm ne348) nin0)
              have f439 := f424.keep K427 (ninS (Ne.symm ne348) nin0)
              have f440 := f425.keep K427 (ninS (Ne.symm ne348) nin0)
              have f441 := f411.keep K427 (ninS (Ne.symm ne348) nin0)
              have Z442 : n0 ≤ h427.size := Nat.le_trans Z426 K427.1
              refine Go.movp st427 (mkF m 389 #[.val (.int p0), .val (.int p1), .val (.int p2), .val (.int p3), .val (.int p4), .val (.int p5), .val (.int fi), .val (.int la), .val (.int mi), .val (.int md), .val (.int nn), .val (.int u0), .val (.int u1), .val (.int l0), .val (.int l1), .val (.int m0), .val (.int m1), .val (.ref b282), .val (.ref b296), .val (.ref b317), .val (.int (2 : Int32)), .val (.int (1 : Int32)), .val (.int z0), .val (.int z1), .val (.int l0), .val (.int l1), .val (.int m0), .val (.int m1), .val (.ref b347), .unset, .unset, .unset, .unset] []) rfl ?_
              have J443 : Go p e below (EndF s room_1.cells room_1.slots) n0 (Q0 Z p0 p1 p2 p3 p4 p5 h0 n0) T427 (mkF m 434 #[.val (.int p0), .val (.int p1), .val (.int p2), .val (.int p3), .val (.int p4), .val (.int p5), .val (.int fi), .val (.int la), .val (.int mi), .val (.int md), .val (.int nn), .val (.int u0), .val (.int u1), .val (.int l0), .val (.int l1), .val (.int m0), .val (.int m1), .val (.ref b282), .val (.ref b296), .val (.ref b317), .val (.int (2 : Int32)), .val (.int (1 : Int32)), .val (.int z0), .val (.int z1), .val (.int l0), .val (.int l1), .val (.int m0), .val (.int m1), .val (.ref b347), .unset, .unset, .unset, .unset] [(.int (1 : Int32))]) := by
                refine g_istore X427 hx (hb hby at_434) (pc' := 436) rfl (Ls' := #[.val (.int p0), .val (.int p1), .val (.int p2), .val (.int p3), .val (.int p4), .val (.int p5), .val (.int fi), .val (.int la), .val (.int mi), .val (.int md), .val (.int nn), .val (.int u0), .val (.int u1), .val (.int l0), .val (.int l1), .val (.int m0), .val (.int m1), .val (.ref b282), .val (.ref b296), .val (.ref b317), .val (.int (2 : Int32)), .val (.int (1 : Int32)), .val (.int z0), .val (.int z1), .val (.int l0), .val (.int l1), .val (.int m0), .val (.int m1), .val (.ref b347), .val (.int (1 : Int32)), .unset, .unset, .unset]) rfl ?_
                have J444 : Go p e below (EndF s room_1.cells room_1.slots) n0 (Q0 Z p0 p1 p2 p3 p4 p5 h0 n0) T427 (mkF m 482 #[.val (.int p0), .val (.int p1), .val (.int p2), .val (.int p3), .val (.int p4), .val (.int p5), .val (.int fi), .val (.int la), .val (.int mi), .val (.int md), .val (.int nn), .val (.int u0), .val (.int u1), .val (.int l0), .val (.int l1), .val (.int m0), .val (.int m1), .val (.ref b282), .val (.ref b296), .val (.ref b317), .val (.int (2 : Int32)), .val (.int (1 : Int32)), .val (.int z0), .val (.int z1), .val (.int l0), .val (.int l1), .val (.int m0), .val (.int m1), .val (.ref b347), .val (.int (1 : Int32)), .unset, .unset, .unset] [(.int (1 : Int32))]) := by
                  refine g_istore X427 hx (hb hby at_482) (pc' := 484) rfl (Ls' := #[.val (.int p0), .val (.int p1), .val (.int p2), .val (.int p3), .val (.int p4), .val (.int p5), .val (.int fi), .val (.int la), .val (.int mi), .val (.int md), .val (.int nn), .val (.int u0), .val (.int u1), .val (.int l0), .val (.int l1), .val (.int m0), .val (.int m1), .val (.ref b282), .val (.ref b296), .val (.ref b317), .val (.int (2 : Int32)), .val (.int (1 : Int32)), .val (.int z0), .val (.int z1), .val (.int l0), .val (.int l1), .val (.int m0), .val (.int m1), .val (.ref b347), .val (.int (1 : Int32)), .val (.int (1 : Int32)), .unset, .unset]) rfl ?_
                  refine g_iconst X427 hx (hb hby at_484) (pc' := 485) rfl (z := (1 : Int32)) rfl ?_
                  refine g_istore X427 hx (hb hby at_485) (pc' := 487) rfl (Ls' := #[.val (.int p0), .val (.int p1), .val (.int p2), .val (.int p3), .val (.int p4), .val (.int p5), .val (.int fi), .val (.int la), .val (.int mi), .val (.int md), .val (.int nn), .val (.int u0), .val (.int u1), .val (.int l0), .val (.int l1), .val (.int m0), .val (.int m1), .val (.ref b282), .val (.ref b296), .val (.ref b317), .val (.int (2 : Int32)), .val (.int (1 : Int32)), .val (.int z0), .val (.int z1), .val (.int l0), .val (.int l1), .val (.int m0), .val (.int m1), .val (.ref b347), .val (.int (1 : Int32)), .val (.int (1 : Int32)), .val (.int (1 : Int32)), .unset]) rfl ?_
                  refine g_iload X427 hx (hb hby at_487) (pc' := 489) rfl rfl ?_
                  refine g_iconst X427 hx (hb hby at_489) (pc' := 490) rfl (z := (1 : Int32)) rfl ?_
                  refine g_icmp_eq X427 hx (hb hby at_490) (pc1 := 493) rfl (by decide) (pc2 := 518) (by decide) (fun hc490 => absurd hc490 hc160) (fun hc490 => ?_)
                  refine g_aload X427 hx (hb hby at_493) (pc' := 495) rfl rfl rfl ?_
                  refine g_iconst X427 hx (hb hby at_495) (pc' := 496) rfl (z := (0 : Int32)) rfl ?_
                  refine g_caload X427 hx hZ e427 f430 (i := 0) (v := (.int l0)) (hb hby at_496) (pc' := 497) rfl (by decide) rfl rfl ?_
                  refine g_iload X427 hx (hb hby at_497) (pc' := 499) rfl rfl ?_
                  refine g_icmp_ne X427 hx (hb hby at_499) (pc1 := 502) rfl (by decide) (pc2 := 515) (by decide) (fun hc499 => absurd rfl hc499) (fun hc499 => ?_)
                  refine g_aload X427 hx (hb hby at_502) (pc' := 504) rfl rfl rfl ?_
                  refine g_iconst X427 hx (hb hby at_504) (pc' := 505) rfl (z := (1 : Int32)) rfl ?_
                  refine g_caload X427 hx hZ e427 f430 (i := 1) (v := (.int l1)) (hb hby at_505) (pc' := 506) rfl (by decide) rfl rfl ?_
                  refine g_iload X427 hx (hb hby at_506) (pc' := 508) rfl rfl ?_
                  refine g_icmp_ne X427 hx (hb hby at_508) (pc1 := 511) rfl (by decide) (pc2 := 515) (by decide) (fun hc508 => absurd rfl hc508) (fun hc508 => ?_)
                  refine g_iconst X427 hx (hb hby at_511) (pc' := 512) rfl (z := (1 : Int32)) rfl ?_
                  refine g_goto X427 hx (hb hby at_512) (by decide) (pc' := 516) (by decide) ?_
                  refine g_istore X427 hx (hb hby at_516) (pc' := 518) rfl (Ls' := #[.val (.int p0), .val (.int p1), .val (.int p2), .val (.int p3), .val (.int p4), .val (.int p5), .val (.int fi), .val (.int la), .val (.int mi), .val (.int md), .val (.int nn), .val (.int u0), .val (.int u1), .val (.int l0), .val (.int l1), .val (.int m0), .val (.int m1), .val (.ref b282), .val (.ref b296), .val (.ref b317), .val (.int (2 : Int32)), .val (.int (1 : Int32)), .val (.int z0), .val (.int z1), .val (.int l0), .val (.int l1), .val (.int m0), .val (.int m1), .val (.ref b347), .val (.int (1 : Int32)), .val (.int (1 : Int32)), .val (.int (1 : Int32)), .unset]) rfl ?_
                  refine g_iconst X427 hx (hb hby at_518) (pc' := 519) rfl (z := (1 : Int32)) rfl ?_
                  refine g_istore X427 hx (hb hby at_519) (pc' := 521) rfl (Ls' := #[.val (.int p0), .val (.int p1), .val (.int p2), .val (.int p3), .val (.int p4), .val (.int p5), .val (.int fi), .val (.int la), .val (.int mi), .val (.int md), .val (.int nn), .val (.int u0), .val (.int u1), .val (.int l0), .val (.int l1), .val (.int m0), .val (.int m1), .val (.ref b282), .val (.ref b296), .val (.ref b317), .val (.int (2 : Int32)), .val (.int (1 : Int32)), .val (.int z0), .val (.int z1), .val (.int l0), .val (.int l1), .val (.int m0), .val (.int m1), .val (.ref b347), .val (.int (1 : Int32)), .val (.int (1 : Int32)), .val (.int (1 : Int32)), .val (.int (1 : Int32))]) rfl ?_
                  refine g_iload X427 hx (hb hby at_521) (pc' := 523) rfl rfl ?_
                  refine g_if_eq X427 hx (hb hby at_523) (pc1 := 526) rfl (by decide) (pc2 := 532) (by decide) (fun hc523 => ?_) (fun hc523 => ?_)
                  · skip
                    refine g_aload X427 hx (hb hby at_532) (pc' := 534) rfl rfl rfl ?_
                    refine g_iconst X427 hx (hb hby at_534) (pc' := 535) rfl (z := (0 : Int32)) rfl ?_
                    refine g_caload X427 hx hZ e427 f432 (i := 0) (v := (.int m0)) (hb hby at_535) (pc' := 536) rfl (by decide) rfl rfl ?_
                    refine g_iload X427 hx (hb hby at_536) (pc' := 538) rfl rfl ?_
                    refine g_icmp_ne X427 hx (hb hby at_538) (pc1 := 541) rfl (by decide) (pc2 := 554) (by decide) (fun hc538 => absurd rfl hc538) (fun hc538 => ?_)
                    refine g_aload X427 hx (hb hby at_541) (pc' := 543) rfl rfl rfl ?_
                    refine g_iconst X427 hx (hb hby at_543) (pc' := 544) rfl (z := (1 : Int32)) rfl ?_
                    refine g_caload X427 hx hZ e427 f432 (i := 1) (v := (.int m1)) (hb hby at_544) (pc' := 545) rfl (by decide) rfl rfl ?_
                    refine g_iload X427 hx (hb hby at_545) (pc' := 547) rfl rfl ?_
                    refine g_icmp_ne X427 hx (hb hby at_547) (pc1 := 550) rfl (by decide) (pc2 := 554) (by decide) (fun hc547 => absurd rfl hc547) (fun hc547 => ?_)
                    refine g_iconst X427 hx (hb hby at_550) (pc' := 551) rfl (z := (1 : Int32)) rfl ?_
                    refine g_goto X427 hx (hb hby at_551) (by decide) (pc' := 555) (by decide) ?_
                    refine g_istore X427 hx (hb hby at_555) (pc' := 557) rfl (Ls' := #[.val (.int p0), .val (.int p1), .val (.int p2), .val (.int p3), .val (.int p4), .val (.int p5), .val (.int fi), .val (.int la), .val (.int mi), .val (.int md), .val (.int nn), .val (.int u0), .val (.int u1), .val (.int l0), .val (.int l1), .val (.int m0), .val (.int m1), .val (.ref b282), .val (.ref b296), .val (.ref b317), .val (.int (2 : Int32)), .val (.int (1 : Int32)), .val (.int z0), .val (.int z1), .val (.int l0), .val (.int l1), .val (.int m0), .val (.int m1), .val (.ref b347), .val (.int (1 : Int32)), .val (.int (1 : Int32)), .val (.int (1 : Int32)), .val (.int (1 : Int32))]) rfl ?_
                    refine g_iload X427 hx (hb hby at_557) (pc' := 559) rfl rfl ?_
                    refine g_if_eq X427 hx (hb hby at_559) (pc1 := 562) rfl (by decide) (pc2 := 581) (by decide) (fun hc559 => absurd hc559 (by decide)) (fun hc559 => ?_)
                    refine g_iload X427 hx (hb hby at_562) (pc' := 564) rfl rfl ?_
                    refine g_if_eq X427 hx (hb hby at_564) (pc1 := 567) rfl (by decide) (pc2 := 581) (by decide) (fun hc564 => absurd hc564 (by decide)) (fun hc564 => ?_)
                    refine g_iload X427 hx (hb hby at_567) (pc' := 569) rfl rfl ?_
                    refine g_if_eq X427 hx (hb hby at_569) (pc1 := 572) rfl (by decide) (pc2 := 581) (by decide) (fun hc569 => absurd hc569 (by decide)) (fun hc569 => ?_)
                    refine g_iload X427 hx (hb hby at_572) (pc' := 574) rfl rfl ?_
                    refine g_if_eq X427 hx (hb hby at_574) (pc1 := 577) rfl (by decide) (pc2 := 581) (by decide) (fun hc574 => absurd hc574 (by decide)) (fun hc574 => ?_)
                    refine g_iconst X427 hx (hb hby at_577) (pc' := 578) rfl (z := (1 : Int32)) rfl ?_
                    refine g_goto X427 hx (hb hby at_578) (by decide) (pc' := 582) (by decide) ?_
                    exact g_zreturn X427 hx rfl hret (hb hby at_582) N427 hlk (fun v t => endF (by decide) (by decide) v) (by rw [e427]; exact rfl)
                  · skip
                    refine g_iload X427 hx (hb hby at_526) (pc' := 528) rfl rfl ?_
                    refine g_iconst X427 hx (hb hby at_528) (pc' := 529) rfl (z := (3 : Int32)) rfl ?_
                    refine g_icmp_ne X427 hx (hb hby at_529) (pc1 := 532) rfl (by decide) (pc2 := 557) (by decide) (fun hc529 => ?_) (fun hc529 => ?_)
                    · skip
                      refine g_iload X427 hx (hb hby at_557) (pc' := 559) rfl rfl ?_
                      refine g_if_eq X427 hx (hb hby at_559) (pc1 := 562) rfl (by decide) (pc2 := 581) (by decide) (fun hc559 => absurd hc559 (by decide)) (fun hc559 => ?_)
                      refine g_iload X427 hx (hb hby at_562) (pc' := 564) rfl rfl ?_
                      refine g_if_eq X427 hx (hb hby at_564) (pc1 := 567) rfl (by decide) (pc2 := 581) (by decide) (fun hc564 => absurd hc564 (by decide)) (fun hc564 => ?_)
                      refine g_iload X427 hx (hb hby at_567) (pc' := 569) rfl rfl ?_
                      refine g_if_eq X427 hx (hb hby at_569) (pc1 := 572) rfl (by decide) (pc2 := 581) (by decide) (fun hc569 => absurd hc569 (by decide)) (fun hc569 => ?_)
                      refine g_iload X427 hx (hb hby at_572) (pc' := 574) rfl rfl ?_
                      refine g_if_eq X427 hx (hb hby at_574) (pc1 := 577) rfl (by decide) (pc2 := 581) (by decide) (fun hc574 => absurd hc574 (by decide)) (fun hc574 => ?_)
                      refine g_iconst X427 hx (hb hby at_577) (pc' := 578) rfl (z := (1 : Int32)) rfl ?_
                      refine g_goto X427 hx (hb hby at_578) (by decide) (pc' := 582) (by decide) ?_
                      exact g_zreturn X427 hx rfl hret (hb hby at_582) N427 hlk (fun v t => endF (by decide) (by decide) v) (by rw [e427]; exact rfl)
                    · skip
                      refine g_aload X427 hx (hb hby at_532) (pc' := 534) rfl rfl rfl ?_
                      refine g_iconst X427 hx (hb hby at_534) (pc' := 535) rfl (z := (0 : Int32)) rfl ?_
                      refine g_caload X427 hx hZ e427 f432 (i := 0) (v := (.int m0)) (hb hby at_535) (pc' := 536) rfl (by decide) rfl rfl ?_
                      refine g_iload X427 hx (hb hby at_536) (pc' := 538) rfl rfl ?_
                      refine g_icmp_ne X427 hx (hb hby at_538) (pc1 := 541) rfl (by decide) (pc2 := 554) (by decide) (fun hc538 => absurd rfl hc538) (fun hc538 => ?_)
                      refine g_aload X427 hx (hb hby at_541) (pc' := 543) rfl rfl rfl ?_
                      refine g_iconst X427 hx (hb hby at_543) (pc' := 544) rfl (z := (1 : Int32)) rfl ?_
                      refine g_caload X427 hx hZ e427 f432 (i := 1) (v := (.int m1)) (hb hby at_544) (pc' := 545) rfl (by decide) rfl rfl ?_
                      refine g_iload X427 hx (hb hby at_545) (pc' := 547) rfl rfl ?_
                      refine g_icmp_ne X427 hx (hb hby at_547) (pc1 := 550) rfl (by decide) (pc2 := 554) (by decide) (fun hc547 => absurd rfl hc547) (fun hc547 => ?_)
                      refine g_iconst X427 hx (hb hby at_550) (pc' := 551) rfl (z := (1 : Int32)) rfl ?_
                      refine g_goto X427 hx (hb hby at_551) (by decide) (pc' := 555) (by decide) ?_
                      refine g_istore X427 hx (hb hby at_555) (pc' := 557) rfl (Ls' := #[.val (.int p0), .val (.int p1), .val (.int p2), .val (.int p3), .val (.int p4), .val (.int p5), .val (.int fi), .val (.int la), .val (.int mi), .val (.int md), .val (.int nn), .val (.int u0), .val (.int u1), .val (.int l0), .val (.int l1), .val (.int m0), .val (.int m1), .val (.ref b282), .val (.ref b296), .val (.ref b317), .val (.int (2 : Int32)), .val (.int (1 : Int32)), .val (.int z0), .val (.int z1), .val (.int l0), .val (.int l1), .val (.int m0), .val (.int m1), .val (.ref b347), .val (.int (1 : Int32)), .val (.int (1 : Int32)), .val (.int (1 : Int32)), .val (.int (1 : Int32))]) rfl ?_
                      refine g_iload X427 hx (hb hby at_557) (pc' := 559) rfl rfl ?_
                      refine g_if_eq X427 hx (hb hby at_559) (pc1 := 562) rfl (by decide) (pc2 := 581) (by decide) (fun hc559 => absurd hc559 (by decide)) (fun hc559 => ?_)
                      refine g_iload X427 hx (hb hby at_562) (pc' := 564) rfl rfl ?_
                      refine g_if_eq X427 hx (hb hby at_564) (pc1 := 567) rfl (by decide) (pc2 := 581) (by decide) (fun hc564 => absurd hc564 (by decide)) (fun hc564 => ?_)
                      refine g_iload X427 hx (hb hby at_567) (pc' := 569) rfl rfl ?_
                      refine g_if_eq X427 hx (hb hby at_569) (pc1 := 572) rfl (by decide) (pc2 := 581) (by decide) (fun hc569 => absurd hc569 (by decide)) (fun hc569 => ?_)
                      refine g_iload X427 hx (hb hby at_572) (pc' := 574) rfl rfl ?_
                      refine g_if_eq X427 hx (hb hby at_574) (pc1 := 577) rfl (by decide) (pc2 := 581) (by decide) (fun hc574 => absurd hc574 (by decide)) (fun hc574 => ?_)
                      refine g_iconst X427 hx (hb hby at_577) (pc' := 578) rfl (z := (1 : Int32)) rfl ?_
                      refine g_goto X427 hx (hb hby at_578) (by decide) (pc' := 582) (by decide) ?_
                      exact g_zreturn X427 hx rfl hret (hb hby at_582) N427 hlk (fun v t => endF (by decide) (by decide) v) (by rw [e427]; exact rfl)
                refine g_iload X427 hx (hb hby at_436) (pc' := 438) rfl rfl ?_
                refine g_iconst X427 hx (hb hby at_438) (pc' := 439) rfl (z := (1 : Int32)) rfl ?_
                refine g_icmp_le X427 hx (hb hby at_439) (pc1 := 442) rfl (by decide) (pc2 := 468) (by decide) (fun hc439 => ?_) (fun hc439 => ?_)
                · skip
                  refine g_aload X427 hx (hb hby at_468) (pc' := 470) rfl rfl rfl ?_
                  refine g_iconst X427 hx (hb hby at_470) (pc' := 471) rfl (z := (1 : Int32)) rfl ?_
                  refine g_caload X427 hx hZ e427 V427 (i := 1) (v := (.int w1)) (hb hby at_471) (pc' := 472) rfl (by decide) rfl rfl ?_
                  refine g_iload X427 hx (hb hby at_472) (pc' := 474) rfl rfl ?_
                  refine g_icmp_ne X427 hx (hb hby at_474) (pc1 := 477) rfl (by decide) (pc2 := 481) (by decide) (fun hc474 => absurd (hw1.trans (if_neg hc439)) hc474) (fun hc474 => ?_)
                  refine g_iconst X427 hx (hb hby at_477) (pc' := 478) rfl (z := (1 : Int32)) rfl ?_
                  refine g_goto X427 hx (hb hby at_478) (by decide) (pc' := 482) (by decide) ?_
                  exact J444  
                · skip
                  refine g_aload X427 hx (hb hby at_442) (pc' := 444) rfl rfl rfl ?_
                  refine g_iconst X427 hx (hb hby at_444) (pc' := 445) rfl (z := (1 : Int32)) rfl ?_
                  refine g_caload X427 hx hZ e427 V427 (i := 1) (v := (.int w1)) (hb hby at_445) (pc' := 446) rfl (by decide) rfl rfl ?_
                  refine g_iload X427 hx (hb hby at_446) (pc' := 448) rfl rfl ?_
                  refine g_if_eq X427 hx (hb hby at_448) (pc1 := 451) rfl (by decide) (pc2 := 456) (by decide) (fun hc448 => ?_) (fun hc448 => ?_)
                  · skip
                    refine g_iconst X427 hx (hb hby at_456) (pc' := 457) rfl (z := (0 : Int32)) rfl ?_
                    refine g_icmp_ne X427 hx (hb hby at_457) (pc1 := 460) rfl (by decide) (pc2 := 464) (by decide) (fun hc457 => absurd (own_ok0 hc439 hw1 hm1 hz1 hc448) hc457) (fun hc457 => ?_)
                    refine g_iconst X427 hx (hb hby at_460) (pc' := 461) rfl (z := (1 : Int32)) rfl ?_
                    refine g_goto X427 hx (hb hby at_461) (by decide) (pc' := 482) (by decide) ?_
                    exact J444  
                  · skip
                    refine g_ldc X427 hx hZ hown (hw _ (List.mem_of_getElem? (i := 60) rfl)) (hb hby at_451) (pc' := 453) rfl ?_
                    refine g_goto X427 hx (hb hby at_453) (by decide) (pc' := 457) (by decide) ?_
                    refine g_icmp_ne X427 hx (hb hby at_457) (pc1 := 460) rfl (by decide) (pc2 := 464) (by decide) (fun hc457 => absurd (own_ok1 hc439 hw1 hm1 hz1 hc448) hc457) (fun hc457 => ?_)
                    refine g_iconst X427 hx (hb hby at_460) (pc' := 461) rfl (z := (1 : Int32)) rfl ?_
                    refine g_goto X427 hx (hb hby at_461) (by decide) (pc' := 482) (by decide) ?_
                    exact J444  
              refine g_iload X427 hx (hb hby at_389) (pc' := 391) rfl rfl ?_
              refine g_if_le X427 hx (hb hby at_391) (pc1 := 394) rfl (by decide) (pc2 := 420) (by decide) (fun hc391 => ?_) (fun hc391 => ?_)
              · skip
                refine g_aload X427 hx (hb hby at_420) (pc' := 422) rfl rfl rfl ?_
                refine g_iconst X427 hx (hb hby at_422) (pc' := 423) rfl (z := (0 : Int32)) rfl ?_
                refine g_caload X427 hx hZ e427 V427 (i := 0) (v := (.int w0)) (hb hby at_423) (pc' := 424) rfl (by decide) rfl rfl ?_
                refine g_iload X427 hx (hb hby at_424) (pc' := 426) rfl rfl ?_
                refine g_icmp_ne X427 hx (hb hby at_426) (pc1 := 429) rfl (by decide) (pc2 := 433) (by decide) (fun hc426 => absurd (hw0.trans (if_neg hc391)) hc426) (fun hc426 => ?_)
                refine g_iconst X427 hx (hb hby at_429) (pc' := 430) rfl (z := (1 : Int32)) rfl ?_
                refine g_goto X427 hx (hb hby at_430) (by decide) (pc' := 434) (by decide) ?_
                exact J443  
              · skip
                refine g_aload X427 hx (hb hby at_394) (pc' := 396) rfl rfl rfl ?_
                refine g_iconst X427 hx (hb hby at_396) (pc' := 397) rfl (z := (0 : Int32)) rfl ?_
                refine g_caload X427 hx hZ e427 V427 (i := 0) (v := (.int w0)) (hb hby at_397) (pc' := 398) rfl (by decide) rfl rfl ?_
                refine g_iload X427 hx (hb hby at_398) (pc' := 400) rfl rfl ?_
                refine g_if_eq X427 hx (hb hby at_400) (pc1 := 403) rfl (by decide) (pc2 := 408) (by decide) (fun hc400 => ?_) (fun hc400 => ?_)
                · skip
                  refine g_iconst X427 hx (hb hby at_408) (pc' := 409) rfl (z := (0 : Int32)) rfl ?_
                  refine g_icmp_ne X427 hx (hb hby at_409) (pc1 := 412) rfl (by decide) (pc2 := 416) (by decide) (fun hc409 => absurd (own_ok0 hc391 hw0 hm0 hz0 hc400) hc409) (fun hc409 => ?_)
                  refine g_iconst X427 hx (hb hby at_412) (pc' := 413) rfl (z := (1 : Int32)) rfl ?_
                  refine g_goto X427 hx (hb hby at_413) (by decide) (pc' := 434) (by decide) ?_
                  exact J443  
                · skip
                  refine g_ldc X427 hx hZ hown (hw _ (List.mem_of_getElem? (i := 60) rfl)) (hb hby at_403) (pc' := 405) rfl ?_
                  refine g_goto X427 hx (hb hby at_405) (by decide) (pc' := 409) (by decide) ?_
                  refine g_icmp_ne X427 hx (hb hby at_409) (pc1 := 412) rfl (by decide) (pc2 := 416) (by decide) (fun hc409 => absurd (own_ok1 hc391 hw0 hm0 hz0 hc400) hc409) (fun hc409 => ?_)
                  refine g_iconst X427 hx (hb hby at_412) (pc' := 413) rfl (z := (1 : Int32)) rfl ?_
                  refine g_goto X427 hx (hb hby at_413) (by decide) (pc' := 434) (by decide) ?_
                  exact J443  
            refine g_aload X336 hx (hb hby at_284) (pc' := 286) rfl rfl rfl ?_
            refine g_iconst X336 hx (hb hby at_286) (pc' := 287) rfl (z := (1 : Int32)) rfl ?_
            refine g_caload X336 hx hZ e336 f338 (i := 1) (v := (.int u1)) (hb hby at_287) (pc' := 288) rfl (by decide) rfl rfl ?_
            refine g_iload X336 hx (hb hby at_288) (pc' := 290) rfl rfl ?_
            refine g_icmp_ne X336 hx (hb hby at_290) (pc1 := 293) rfl (by decide) (pc2 := 315) (by decide) (fun hc290 => ?_) (fun hc290 => ?_)
            · skip
              refine g_iconst X336 hx (hb hby at_315) (pc' := 316) rfl (z := (0 : Int32)) rfl ?_
              exact J346  _ (if_neg (fun q => hc290 q.1)).symm
            · skip
              refine g_aload X336 hx (hb hby at_293) (pc' := 295) rfl rfl rfl ?_
              refine g_iconst X336 hx (hb hby at_295) (pc' := 296) rfl (z := (1 : Int32)) rfl ?_
              refine g_caload X336 hx hZ e336 f340 (i := 1) (v := (.int l1)) (hb hby at_296) (pc' := 297) rfl (by decide) rfl rfl ?_
              refine g_iload X336 hx (hb hby at_297) (pc' := 299) rfl rfl ?_
              refine g_icmp_ne X336 hx (hb hby at_299) (pc1 := 302) rfl (by decide) (pc2 := 315) (by decide) (fun hc299 => ?_) (fun hc299 => ?_)
              · skip
                refine g_iconst X336 hx (hb hby at_315) (pc' := 316) rfl (z := (0 : Int32)) rfl ?_
                exact J346  _ (if_neg (fun q => hc299 q.2.1)).symm
              · skip
                refine g_aload X336 hx (hb hby at_302) (pc' := 304) rfl rfl rfl ?_
                refine g_iconst X336 hx (hb hby at_304) (pc' := 305) rfl (z := (1 : Int32)) rfl ?_
                refine g_caload X336 hx hZ e336 f344 (i := 1) (v := (.int m1)) (hb hby at_305) (pc' := 306) rfl (by decide) rfl rfl ?_
                refine g_iload X336 hx (hb hby at_306) (pc' := 308) rfl rfl ?_
                refine g_icmp_ne X336 hx (hb hby at_308) (pc1 := 311) rfl (by decide) (pc2 := 315) (by decide) (fun hc308 => ?_) (fun hc308 => ?_)
                · skip
                  refine g_iconst X336 hx (hb hby at_315) (pc' := 316) rfl (z := (0 : Int32)) rfl ?_
                  exact J346  _ (if_neg (fun q => hc308 q.2.2)).symm
                · skip
                  refine g_iconst X336 hx (hb hby at_311) (pc' := 312) rfl (z := (1 : Int32)) rfl ?_
                  refine g_goto X336 hx (hb hby at_312) (by decide) (pc' := 316) (by decide) ?_
                  exact J346  _ (if_pos ⟨hc290, hc299, hc308⟩).symm
          refine g_aload X336 hx (hb hby at_250) (pc' := 252) rfl rfl rfl ?_
          refine g_iconst X336 hx (hb hby at_252) (pc' := 253) rfl (z := (0 : Int32)) rfl ?_
          refine g_caload X336 hx hZ e336 f338 (i := 0) (v := (.int u0)) (hb hby at_253) (pc' := 254) rfl (by decide) rfl rfl ?_
          refine g_iload X336 hx (hb hby at_254) (pc' := 256) rfl rfl ?_
          refine g_icmp_ne X336 hx (hb hby at_256) (pc1 := 259) rfl (by decide) (pc2 := 281) (by decide) (fun hc256 => ?_) (fun hc256 => ?_)
          · skip
            refine g_iconst X336 hx (hb hby at_281) (pc' := 282) rfl (z := (0 : Int32)) rfl ?_
            exact J345  _ (if_neg (fun q => hc256 q.1)).symm
          · skip
            refine g_aload X336 hx (hb hby at_259) (pc' := 261) rfl rfl rfl ?_
            refine g_iconst X336 hx (hb hby at_261) (pc' := 262) rfl (z := (0 : Int32)) rfl ?_
            refine g_caload X336 hx hZ e336 f340 (i := 0) (v := (.int l0)) (hb hby at_262) (pc' := 263) rfl (by decide) rfl rfl ?_
            refine g_iload X336 hx (hb hby at_263) (pc' := 265) rfl rfl ?_
            refine g_icmp_ne X336 hx (hb hby at_265) (pc1 := 268) rfl (by decide) (pc2 := 281) (by decide) (fun hc265 => ?_) (fun hc265 => ?_)
            · skip
              refine g_iconst X336 hx (hb hby at_281) (pc' := 282) rfl (z := (0 : Int32)) rfl ?_
              exact J345  _ (if_neg (fun q => hc265 q.2.1)).symm
            · skip
              refine g_aload X336 hx (hb hby at_268) (pc' := 270) rfl rfl rfl ?_
              refine g_iconst X336 hx (hb hby at_270) (pc' := 271) rfl (z := (0 : Int32)) rfl ?_
              refine g_caload X336 hx hZ e336 f344 (i := 0) (v := (.int m0)) (hb hby at_271) (pc' := 272) rfl (by decide) rfl rfl ?_
              refine g_iload X336 hx (hb hby at_272) (pc' := 274) rfl rfl ?_
              refine g_icmp_ne X336 hx (hb hby at_274) (pc1 := 277) rfl (by decide) (pc2 := 281) (by decide) (fun hc274 => ?_) (fun hc274 => ?_)
              · skip
                refine g_iconst X336 hx (hb hby at_281) (pc' := 282) rfl (z := (0 : Int32)) rfl ?_
                exact J345  _ (if_neg (fun q => hc274 q.2.2)).symm
              · skip
                refine g_iconst X336 hx (hb hby at_277) (pc' := 278) rfl (z := (1 : Int32)) rfl ?_
                refine g_goto X336 hx (hb hby at_278) (by decide) (pc' := 282) (by decide) ?_
                exact J345  _ (if_pos ⟨hc256, hc265, hc274⟩).symm
        · skip
          refine g_iconst X291 hx (hb hby at_186) (pc' := 187) rfl (z := (2 : Int32)) rfl ?_
          obtain ⟨T445, h445, b445, X445, e445, g445, E445, V445, A445, st445⟩ := h_newarray X291 hx hZ e291 (n := (2 : Int32)) (ty := .char) rfl (hw _ (List.mem_of_getElem? (i := 9) rfl)) (hb hby at_187) (k := 2) (cap := 2) (by decide) rfl (by decide) (by decide) (by decide) (by decide) (ad := "[C") (by decide) #[.val (.int p0), .val (.int p1), .val (.int p2), .val (.int p3), .val (.int p4), .val (.int p5), .val (.int fi), .val (.int la), .val (.int mi), .val (.int md), .val (.int nn), .val (.int u0), .val (.int u1), .val (.int l0), .val (.int l1), .val (.int m0), .val (.int m1), .val (.ref b282), .unset, .unset, .unset, .unset, .unset, .unset, .unset, .unset, .unset, .unset, .unset, .unset, .unset, .unset, .unset] []
          have ne446 : b282 ≠ b445 := Nat.ne_of_lt (g445 ▸ f292.lt)
          have ge447 : n0 ≤ b445 := g445 ▸ Z293
          have f448 := Exa.ext E445 f292
          have f449 := f295.ext E445
          have Z450 : n0 ≤ h445.size := Nat.le_trans Z293 E445.1
          have f451 : Va Z h445 b445 .char [(.int (0 : Int32)), (.int (0 : Int32))] := V445
          refine Go.movp st445 (mkF m 189 #[.val (.int p0), .val (.int p1), .val (.int p2), .val (.int p3), .val (.int p4), .val (.int p5), .val (.int fi), .val (.int la), .val (.int mi), .val (.int md), .val (.int nn), .val (.int u0), .val (.int u1), .val (.int l0), .val (.int l1), .val (.int m0), .val (.int m1), .val (.ref b282), .unset, .unset, .unset, .unset, .unset, .unset, .unset, .unset, .unset, .unset, .unset, .unset, .unset, .unset, .unset] [(.ref b445)]) rfl ?_
          refine g_dup X445 hx (hb hby at_189) (pc' := 190) rfl rfl ?_
          refine g_iconst X445 hx (hb hby at_190) (pc' := 191) rfl (z := (0 : Int32)) rfl ?_
          refine g_iload X445 hx (hb hby at_191) (pc' := 193) rfl rfl ?_
          obtain ⟨T452, h452, L452, X452, e452, N452, W452, V452, st452⟩ := h_castore X445 hx hZ e445 N291 f451 ge447 (j := (0 : Int32)) (i := 0) (x := l0) (hb hby at_193) (by decide) rfl rfl #[.val (.int p0), .val (.int p1), .val (.int p2), .val (.int p3), .val (.int p4), .val (.int p5), .val (.int fi), .val (.int la), .val (.int mi), .val (.int md), .val (.int nn), .val (.int u0), .val (.int u1), .val (.int l0), .val (.int l1), .val (.int m0), .val (.int m1), .val (.ref b282), .unset, .unset, .unset, .unset, .unset, .unset, .unset, .unset, .unset, .unset, .unset, .unset, .unset, .unset, .unset] [(.ref b445)]
          have f453 := Exa.wr W452 f448
          have f454 := f449.other W452 ne446
          have f455 := Exa.wr W452 A445
          have Z456 : n0 ≤ h452.size := Nat.le_trans Z450 (Keep.of_wr W452).1
          have f457 : Va Z h452 b445 .char [(.int (chr l0)), (.int (0 : Int32))] := V452
          have f458 : Va Z h452 b445 .char [(.int l0), (.int (0 : Int32))] := by rw [show (chr l0) = l0 from bl0] at f457; exact f457
          refine Go.movp st452 (mkF m 194 #[.val (.int p0), .val (.int p1), .val (.int p2), .val (.int p3), .val (.int p4), .val (.int p5), .val (.int fi), .val (.int la), .val (.int mi), .val (.int md), .val (.int nn), .val (.int u0), .val (.int u1), .val (.int l0), .val (.int l1), .val (.int m0), .val (.int m1), .val (.ref b282), .unset, .unset, .unset, .unset, .unset, .unset, .unset, .unset, .unset, .unset, .unset, .unset, .unset, .unset, .unset] [(.ref b445)]) rfl ?_
          refine g_dup X452 hx (hb hby at_194) (pc' := 195) rfl rfl ?_
          refine g_iconst X452 hx (hb hby at_195) (pc' := 196) rfl (z := (1 : Int32)) rfl ?_
          refine g_iload X452 hx (hb hby at_196) (pc' := 198) rfl rfl ?_
          obtain ⟨T459, h459, L459, X459, e459, N459, W459, V459, st459⟩ := h_castore X452 hx hZ e452 N452 f458 ge447 (j := (1 : Int32)) (i := 1) (x := l1) (hb hby at_198) (by decide) rfl rfl #[.val (.int p0), .val (.int p1), .val (.int p2), .val (.int p3), .val (.int p4), .val (.int p5), .val (.int fi), .val (.int la), .val (.int mi), .val (.int md), .val (.int nn), .val (.int u0), .val (.int u1), .val (.int l0), .val (.int l1), .val (.int m0), .val (.int m1), .val (.ref b282), .unset, .unset, .unset, .unset, .unset, .unset, .unset, .unset, .unset, .unset, .unset, .unset, .unset, .unset, .unset] [(.ref b445)]
          have f460 := Exa.wr W459 f453
          have f461 := f454.other W459 ne446
          have f462 := Exa.wr W459 f455
          have Z463 : n0 ≤ h459.size := Nat.le_trans Z456 (Keep.of_wr W459).1
          have f464 : Va Z h459 b445 .char [(.int l0), (.int (chr l1))] := V459
          have f465 : Va Z h459 b445 .char [(.int l0), (.int l1)] := by rw [show (chr l1) = l1 from bl1] at f464; exact f464
          refine Go.movp st459 (mkF m 199 #[.val (.int p0), .val (.int p1), .val (.int p2), .val (.int p3), .val (.int p4), .val (.int p5), .val (.int fi), .val (.int la), .val (.int mi), .val (.int md), .val (.int nn), .val (.int u0), .val (.int u1), .val (.int l0), .val (.int l1), .val (.int m0), .val (.int m1), .val (.ref b282), .unset, .unset, .unset, .unset, .unset, .unset, .unset, .unset, .unset, .unset, .unset, .unset, .unset, .unset, .unset] [(.ref b445)]) rfl ?_
          refine g_astore X459 hx (hb hby at_199) (pc' := 201) rfl rfl (Ls' := #[.val (.int p0), .val (.int p1), .val (.int p2), .val (.int p3), .val (.int p4), .val (.int p5), .val (.int fi), .val (.int la), .val (.int mi), .val (.int md), .val (.int nn), .val (.int u0), .val (.int u1), .val (.int l0), .val (.int l1), .val (.int m0), .val (.int m1), .val (.ref b282), .val (.ref b445), .unset, .unset, .unset, .unset, .unset, .unset, .unset, .unset, .unset, .unset, .unset, .unset, .unset, .unset]) rfl ?_
          refine g_aload X459 hx (hb hby at_201) (pc' := 203) rfl rfl rfl ?_
          refine g_astore X459 hx (hb hby at_203) (pc' := 205) rfl rfl (Ls' := #[.val (.int p0), .val (.int p1), .val (.int p2), .val (.int p3), .val (.int p4), .val (.int p5), .val (.int fi), .val (.int la), .val (.int mi), .val (.int md), .val (.int nn), .val (.int u0), .val (.int u1), .val (.int l0), .val (.int l1), .val (.int m0), .val (.int m1), .val (.ref b282), .val (.ref b445), .val (.ref b445), .unset, .unset, .unset, .unset, .unset, .unset, .unset, .unset, .unset, .unset, .unset, .unset, .unset]) rfl ?_
          refine g_iconst X459 hx (hb hby at_205) (pc' := 206) rfl (z := (1 : Int32)) rfl ?_
          refine g_istore X459 hx (hb hby at_206) (pc' := 208) rfl (Ls' := #[.val (.int p0), .val (.int p1), .val (.int p2), .val (.int p3), .val (.int p4), .val (.int p5), .val (.int fi), .val (.int la), .val (.int mi), .val (.int md), .val (.int nn), .val (.int u0), .val (.int u1), .val (.int l0), .val (.int l1), .val (.int m0), .val (.int m1), .val (.ref b282), .val (.ref b445), .val (.ref b445), .val (.int (1 : Int32)), .unset, .unset, .unset, .unset, .unset, .unset, .unset, .unset, .unset, .unset, .unset, .unset]) rfl ?_
          refine g_iconst X459 hx (hb hby at_208) (pc' := 209) rfl (z := (1 : Int32)) rfl ?_
          refine g_istore X459 hx (hb hby at_209) (pc' := 211) rfl (Ls' := #[.val (.int p0), .val (.int p1), .val (.int p2), .val (.int p3), .val (.int p4), .val (.int p5), .val (.int fi), .val (.int la), .val (.int mi), .val (.int md), .val (.int nn), .val (.int u0), .val (.int u1), .val (.int l0), .val (.int l1), .val (.int m0), .val (.int m1), .val (.ref b282), .val (.ref b445), .val (.ref b445), .val (.int (1 : Int32)), .val (.int (1 : Int32)), .unset, .unset, .unset, .unset, .unset, .unset, .unset, .unset, .unset, .unset, .unset]) rfl ?_
          refine g_goto X459 hx (hb hby at_211) (by decide) (pc' := 250) (by decide) ?_
          have J466 : ∀ (z0 : Int32) (hz0 : z0 = (if u0 = fi ∧ l0 = la ∧ l0 = mi then (1 : Int32) else 0)), Go p e below (EndF s room_1.cells room_1.slots) n0 (Q0 Z p0 p1 p2 p3 p4 p5 h0 n0) T459 (mkF m 282 #[.val (.int p0), .val (.int p1), .val (.int p2), .val (.int p3), .val (.int p4), .val (.int p5), .val (.int fi), .val (.int la), .val (.int mi), .val (.int md), .val (.int nn), .val (.int u0), .val (.int u1), .val (.int l0), .val (.int l1), .val (.int m0), .val (.int m1), .val (.ref b282), .val (.ref b445), .val (.ref b445), .val (.int (1 : Int32)), .val (.int (1 : Int32)), .unset, .unset, .unset, .unset, .unset, .unset, .unset, .unset, .unset, .unset, .unset] [(.int z0)]) := by
            intro  z0 hz0
            refine g_istore X459 hx (hb hby at_282) (pc' := 284) rfl (Ls' := #[.val (.int p0), .val (.int p1), .val (.int p2), .val (.int p3), .val (.int p4), .val (.int p5), .val (.int fi), .val (.int la), .val (.int mi), .val (.int md), .val (.int nn), .val (.int u0), .val (.int u1), .val (.int l0), .val (.int l1), .val (.int m0), .val (.int m1), .val (.ref b282), .val (.ref b445), .val (.ref b445), .val (.int (1 : Int32)), .val (.int (1 : Int32)), .val (.int z0), .unset, .unset, .unset, .unset, .unset, .unset, .unset, .unset, .unset, .unset]) rfl ?_
            have J467 : ∀ (z1 : Int32) (hz1 : z1 = (if u1 = fi ∧ l1 = la ∧ l1 = mi then (1 : Int32) else 0)), Go p e below (EndF s room_1.cells room_1.slots) n0 (Q0 Z p0 p1 p2 p3 p4 p5 h0 n0) T459 (mkF m 316 #[.val (.int p0), .val (.int p1), .val (.int p2), .val (.int p3), .val (.int p4), .val (.int p5), .val (.int fi), .val (.int la), .val (.int mi), .val (.int md), .val (.int nn), .val (.int u0), .val (.int u1), .val (.int l0), .val (.int l1), .val (.int m0), .val (.int m1), .val (.ref b282), .val (.ref b445), .val (.ref b445), .val (.int (1 : Int32)), .val (.int (1 : Int32)), .val (.int z0), .unset, .unset, .unset, .unset, .unset, .unset, .unset, .unset, .unset, .unset] [(.int z1)]) := by
              intro  z1 hz1
              refine g_istore X459 hx (hb hby at_316) (pc' := 318) rfl (Ls' := #[.val (.int p0), .val (.int p1), .val (.int p2), .val (.int p3), .val (.int p4), .val (.int p5), .val (.int fi), .val (.int la), .val (.int mi), .val (.int md), .val (.int nn), .val (.int u0), .val (.int u1), .val (.int l0), .val (.int l1), .val (.int m0), .val (.int m1), .val (.ref b282), .val (.ref b445), .val (.ref b445), .val (.int (1 : Int32)), .val (.int (1 : Int32)), .val (.int z0), .val (.int z1), .unset, .unset, .unset, .unset, .unset, .unset, .unset, .unset, .unset]) rfl ?_
              refine g_aload X459 hx (hb hby at_318) (pc' := 320) rfl rfl rfl ?_
              refine g_iconst X459 hx (hb hby at_320) (pc' := 321) rfl (z := (0 : Int32)) rfl ?_
              refine g_caload X459 hx hZ e459 f465 (i := 0) (v := (.int l0)) (hb hby at_321) (pc' := 322) rfl (by decide) rfl rfl ?_
              refine g_istore X459 hx (hb hby at_322) (pc' := 324) rfl (Ls' := #[.val (.int p0), .val (.int p1), .val (.int p2), .val (.int p3), .val (.int p4), .val (.int p5), .val (.int fi), .val (.int la), .val (.int mi), .val (.int md), .val (.int nn), .val (.int u0), .val (.int u1), .val (.int l0), .val (.int l1), .val (.int m0), .val (.int m1), .val (.ref b282), .val (.ref b445), .val (.ref b445), .val (.int (1 : Int32)), .val (.int (1 : Int32)), .val (.int z0), .val (.int z1), .val (.int l0), .unset, .unset, .unset, .unset, .unset, .unset, .unset, .unset]) rfl ?_
              refine g_aload X459 hx (hb hby at_324) (pc' := 326) rfl rfl rfl ?_
              refine g_iconst X459 hx (hb hby at_326) (pc' := 327) rfl (z := (1 : Int32)) rfl ?_
              refine g_caload X459 hx hZ e459 f465 (i := 1) (v := (.int l1)) (hb hby at_327) (pc' := 328) rfl (by decide) rfl rfl ?_
              refine g_istore X459 hx (hb hby at_328) (pc' := 330) rfl (Ls' := #[.val (.int p0), .val (.int p1), .val (.int p2), .val (.int p3), .val (.int p4), .val (.int p5), .val (.int fi), .val (.int la), .val (.int mi), .val (.int md), .val (.int nn), .val (.int u0), .val (.int u1), .val (.int l0), .val (.int l1), .val (.int m0), .val (.int m1), .val (.ref b282), .val (.ref b445), .val (.ref b445), .val (.int (1 : Int32)), .val (.int (1 : Int32)), .val (.int z0), .val (.int z1), .val (.int l0), .val (.int l1), .unset, .unset, .unset, .unset, .unset, .unset, .unset]) rfl ?_
              refine g_aload X459 hx (hb hby at_330) (pc' := 332) rfl rfl rfl ?_
              refine g_iconst X459 hx (hb hby at_332) (pc' := 333) rfl (z := (0 : Int32)) rfl ?_
              refine g_caload X459 hx hZ e459 f465 (i := 0) (v := (.int l0)) (hb hby at_333) (pc' := 334) rfl (by decide) rfl rfl ?_
              refine g_istore X459 hx (hb hby at_334) (pc' := 336) rfl (Ls' := #[.val (.int p0), .val (.int p1), .val (.int p2), .val (.int p3), .val (.int p4), .val (.int p5), .val (.int fi), .val (.int la), .val (.int mi), .val (.int md), .val (.int nn), .val (.int u0), .val (.int u1), .val (.int l0), .val (.int l1), .val (.int m0), .val (.int m1), .val (.ref b282), .val (.ref b445), .val (.ref b445), .val (.int (1 : Int32)), .val (.int (1 : Int32)), .val (.int z0), .val (.int z1), .val (.int l0), .val (.int l1), .val (.int l0), .unset, .unset, .unset, .unset, .unset, .unset]) rfl ?_
              refine g_aload X459 hx (hb hby at_336) (pc' := 338) rfl rfl rfl ?_
              refine g_iconst X459 hx (hb hby at_338) (pc' := 339) rfl (z := (1 : Int32)) rfl ?_
              refine g_caload X459 hx hZ e459 f465 (i := 1) (v := (.int l1)) (hb hby at_339) (pc' := 340) rfl (by decide) rfl rfl ?_
              refine g_istore X459 hx (hb hby at_340) (pc' := 342) rfl (Ls' := #[.val (.int p0), .val (.int p1), .val (.int p2), .val (.int p3), .val (.int p4), .val (.int p5), .val (.int fi), .val (.int la), .val (.int mi), .val (.int md), .val (.int nn), .val (.int u0), .val (.int u1), .val (.int l0), .val (.int l1), .val (.int m0), .val (.int m1), .val (.ref b282), .val (.ref b445), .val (.ref b445), .val (.int (1 : Int32)), .val (.int (1 : Int32)), .val (.int z0), .val (.int z1), .val (.int l0), .val (.int l1), .val (.int l0), .val (.int l1), .unset, .unset, .unset, .unset, .unset]) rfl ?_
              obtain ⟨T468, h468, X468, e468, E468, A468, D468, -, st468⟩ := newO X459 hx hZ hown (hw _ (List.mem_of_getElem? (i := 10) rfl)) (hw _ (List.mem_of_getElem? (i := 11) rfl)) (hw _ (List.mem_of_getElem? (i := 12) rfl)) e459 (g := (mkF m 342 #[.val (.int p0), .val (.int p1), .val (.int p2), .val (.int p3), .val (.int p4), .val (.int p5), .val (.int fi), .val (.int la), .val (.int mi), .val (.int md), .val (.int nn), .val (.int u0), .val (.int u1), .val (.int l0), .val (.int l1), .val (.int m0), .val (.int m1), .val (.ref b282), .val (.ref b445), .val (.ref b445), .val (.int (1 : Int32)), .val (.int (1 : Int32)), .val (.int z0), .val (.int z1), .val (.int l0), .val (.int l1), .val (.int l0), .val (.int l1), .unset, .unset, .unset, .unset, .unset] [])) rfl (hb hby at_342) (by decide) (by decide)
              obtain ⟨b468, g468⟩ : ∃ z, z = h459.size := ⟨_, rfl⟩
              rw [← g468] at A468 D468 st468
              have ne469 : b282 ≠ b468 := Nat.ne_of_lt (g468 ▸ f460.lt)
              have ne470 : b445 ≠ b468 := Nat.ne_of_lt (g468 ▸ f462.lt)
              have ge471 : n0 ≤ b468 := g468 ▸ Z463
              have f472 := Exa.ext E468 f460
              have f473 := f461.ext E468
              have f474 := Exa.ext E468 f462
              have f475 := f465.ext E468
              have Z476 : n0 ≤ h468.size := Nat.le_trans Z463 E468.1
              have f477 : Fld Z h468 b468 "com/example/needlework/needlework/PackedBlock" "first" "I" (.int (0 : Int32)) := D468 (Or.inr (hw _ (List.mem_of_getElem? (i := 25) rfl))) (ty := .int) (by decide)
              have f478 : Fld Z h468 b468 "com/example/needlework/needlework/PackedBlock" "last" "I" (.int (0 : Int32)) := D468 (Or.inr (hw _ (List.mem_of_getElem? (i := 27) rfl))) (ty := .int) (by decide)
              have f479 : Fld Z h468 b468 "com/example/needlework/needlework/PackedBlock" "middle" "I" (.int (0 : Int32)) := D468 (Or.inr (hw _ (List.mem_of_getElem? (i := 29) rfl))) (ty := .int) (by decide)
              have f480 : Fld Z h468 b468 "com/example/needlework/needlework/PackedBlock" "lastOffset" "I" (.int (0 : Int32)) := D468 (Or.inr (hw _ (List.mem_of_getElem? (i := 31) rfl))) (ty := .int) (by decide)
              have f481 : Fld Z h468 b468 "com/example/needlework/needlework/PackedBlock" "middleOffset" "I" (.int (0 : Int32)) := D468 (Or.inr (hw _ (List.mem_of_getElem? (i := 33) rfl))) (ty := .int) (by decide)
              have f482 : Fld Z h468 b468 "com/example/needlework/needlework/PackedBlock" "units" "Ljava/lang/Object;" .null := D468 (Or.inl (hw _ (List.mem_of_getElem? (i := 36) rfl))) (ty := (.object "java/lang/Object")) (by decide)
              have f483 : Fld Z h468 b468 "com/example/needlework/needlework/PackedBlock" "lasts" "Ljava/lang/Object;" .null := D468 (Or.inl (hw _ (List.mem_of_getElem? (i := 39) rfl))) (ty := (.object "java/lang/Object")) (by decide)
              have f484 : Fld Z h468 b468 "com/example/needlework/needlework/PackedBlock" "middles" "Ljava/lang/Object;" .null := D468 (Or.inl (hw _ (List.mem_of_getElem? (i := 42) rfl))) (ty := (.object "java/lang/Object")) (by decide)
              refine Go.movp st468 (mkF m 345 #[.val (.int p0), .val (.int p1), .val (.int p2), .val (.int p3), .val (.int p4), .val (.int p5), .val (.int fi), .val (.int la), .val (.int mi), .val (.int md), .val (.int nn), .val (.int u0), .val (.int u1), .val (.int l0), .val (.int l1), .val (.int m0), .val (.int m1), .val (.ref b282), .val (.ref b445), .val (.ref b445), .val (.int (1 : Int32)), .val (.int (1 : Int32)), .val (.int z0), .val (.int z1), .val (.int l0), .val (.int l1), .val (.int l0), .val (.int l1), .unset, .unset, .unset, .unset, .unset] [(.ref b468)]) rfl ?_
              refine g_dup X468 hx (hb hby at_345) (pc' := 346) rfl rfl ?_
              refine g_iload X468 hx (hb hby at_346) (pc' := 348) rfl rfl ?_
              refine g_iload X468 hx (hb hby at_348) (pc' := 350) rfl rfl ?_
              refine g_iload X468 hx (hb hby at_350) (pc' := 352) rfl rfl ?_
              refine g_iload X468 hx (hb hby at_352) (pc' := 354) rfl rfl ?_
              refine g_iload X468 hx (hb hby at_354) (pc' := 356) rfl rfl ?_
              obtain ⟨v485, T485, h485, L485, X485, e485, N485, q485, st485⟩ := h_special (a := b468) X468 hx (W := 1) (Ls := #[.val (.int p0), .val (.int p1), .val (.int p2), .val (.int p3), .val (.int p4), .val (.int p5), .val (.int fi), .val (.int la), .val (.int mi), .val (.int md), .val (.int nn), .val (.int u0), .val (.int u1), .val (.int l0), .val (.int l1), .val (.int m0), .val (.int m1), .val (.ref b282), .val (.ref b445), .val (.ref b445), .val (.int (1 : Int32)), .val (.int (1 : Int32)), .val (.int z0), .val (.int z1), .val (.int l0), .val (.int l1), .val (.int l0), .val (.int l1), .unset, .unset, .unset, .unset, .unset]) (argsL := [(.int fi), (.int la), (.int mi), (.int (1 : Int32)), (.int (1 : Int32))]) (rest := [(.ref b468)]) hZ e468 N459 hml hown rfl (rm3 l Z a0 hw b468 fi la mi (1 : Int32) (1 : Int32) h468 n0 Z476 f477 f478 f479 f480 f481 f482 f483 f484 A468 ge471) (hw _ (List.mem_of_getElem? (i := 13) rfl)) (hw _ (List.mem_of_getElem? (i := 14) rfl)) (hw _ (List.mem_of_getElem? (i := 12) rfl)) (hw _ (List.mem_of_getElem? (i := 15) rfl)) (by decide) pd__CCCII_V rfl rfl (hb hby at_356) rfl (by decide) (by decide) (by decide) (by decide)
              obtain ⟨rfl, K485, A485, C0_485, C1_485, C2_485, C3_485, C4_485, C5_485, C6_485, C7_485⟩ := q485
              have f486 := f472.keep K485
              have f487 := f473.keep K485 (ninS ne469 nin0)
              have f488 := f474.keep K485
              have f489 := f475.keep K485 (ninS ne470 nin0)
              have f490 := A468.keep K485
              have Z491 : n0 ≤ h485.size := Nat.le_trans Z476 K485.1
              refine Go.movp st485 (mkF m 359 #[.val (.int p0), .val (.int p1), .val (.int p2), .val (.int p3), .val (.int p4), .val (.int p5), .val (.int fi), .val (.int la), .val (.int mi), .val (.int md), .val (.int nn), .val (.int u0), .val (.int u1), .val (.int l0), .val (.int l1), .val (.int m0), .val (.int m1), .val (.ref b282), .val (.ref b445), .val (.ref b445), .val (.int (1 : Int32)), .val (.int (1 : Int32)), .val (.int z0), .val (.int z1), .val (.int l0), .val (.int l1), .val (.int l0), .val (.int l1), .unset, .unset, .unset, .unset, .unset] [(.ref b468)]) rfl ?_
              refine g_astore X485 hx (hb hby at_359) (pc' := 361) rfl rfl (Ls' := #[.val (.int p0), .val (.int p1), .val (.int p2), .val (.int p3), .val (.int p4), .val (.int p5), .val (.int fi), .val (.int la), .val (.int mi), .val (.int md), .val (.int nn), .val (.int u0), .val (.int u1), .val (.int l0), .val (.int l1), .val (.int m0), .val (.int m1), .val (.ref b282), .val (.ref b445), .val (.ref b445), .val (.int (1 : Int32)), .val (.int (1 : Int32)), .val (.int z0), .val (.int z1), .val (.int l0), .val (.int l1), .val (.int l0), .val (.int l1), .val (.ref b468), .unset, .unset, .unset, .unset]) rfl ?_
              refine g_aload X485 hx (hb hby at_361) (pc' := 363) rfl rfl rfl ?_
              refine g_aload X485 hx (hb hby at_363) (pc' := 365) rfl rfl rfl ?_
              obtain ⟨T492, h492, X492, e492, W492, st492⟩ := putF X485 hx hZ hown (host := "") (Or.inl (hw _ (List.mem_of_getElem? (i := 34) rfl))) (Via.of (hw _ (List.mem_of_getElem? (i := 35) rfl))) e485 C5_485 A485 (Or.inl (hw _ (List.mem_of_getElem? (i := 36) rfl))) (hw _ (List.mem_of_getElem? (i := 11) rfl)) (ty := (.object "java/lang/Object")) (by decide) rfl rfl (g := (mkF m 365 #[.val (.int p0), .val (.int p1), .val (.int p2), .val (.int p3), .val (.int p4), .val (.int p5), .val (.int fi), .val (.int la), .val (.int mi), .val (.int md), .val (.int nn), .val (.int u0), .val (.int u1), .val (.int l0), .val (.int l1), .val (.int m0), .val (.int m1), .val (.ref b282), .val (.ref b445), .val (.ref b445), .val (.int (1 : Int32)), .val (.int (1 : Int32)), .val (.int z0), .val (.int z1), .val (.int l0), .val (.int l1), .val (.int l0), .val (.int l1), .val (.ref b468), .unset, .unset, .unset, .unset] [(.ref b282), (.ref b468)])) rfl rfl (hb hby at_365)
              have f493 : Fld Z h492 b468 "com/example/needlework/needlework/PackedBlock" "units" "Ljava/lang/Object;" (.ref b282) := Fld.same W492 C5_485
              have N492 := Fr.snoc X492 N485 ge471
              have f494 := Exa.wr W492 f486
              have f495 := f487.other W492 ne469
              have f496 := Exa.wr W492 f488
              have f497 := f489.other W492 ne470
              have f498 := Exa.wr W492 A485
              have f499 := Fld.other W492 C0_485 (Or.inr (slot_ne (Or.inr (hw _ (List.mem_of_getElem? (i := 25) rfl))) (Or.inl (hw _ (List.mem_of_getElem? (i := 36) rfl))) (by decide) (t := .int) (t' := (.object "java/lang/Object")) (by decide) (by decide)))
              have f500 := Fld.other W492 C1_485 (Or.inr (slot_ne (Or.inr (hw _ (List.mem_of_getElem? (i := 27) rfl))) (Or.inl (hw _ (List.mem_of_getElem? (i := 36) rfl))) (by decide) (t := .int) (t' := (.object "java/lang/Object")) (by decide) (by decide)))
              have f501 := Fld.other W492 C2_485 (Or.inr (slot_ne (Or.inr (hw _ (List.mem_of_getElem? (i := 29) rfl))) (Or.inl (hw _ (List.mem_of_getElem? (i := 36) rfl))) (by decide) (t := .int) (t' := (.object "java/lang/Object")) (by decide) (by decide)))
              have f502 := Fld.other W492 C3_485 (Or.inr (slot_ne (Or.inr (hw _ (List.mem_of_getElem? (i := 31) rfl))) (Or.inl (hw _ (List.mem_of_getElem? (i := 36) rfl))) (by decide) (t := .int) (t' := (.object "java/lang/Object")) (by decide) (by decide)))
              have f503 := Fld.other W492 C4_485 (Or.inr (slot_ne (Or.inr (hw _ (List.mem_of_getElem? (i := 33) rfl))) (Or.inl (hw _ (List.mem_of_getElem? (i := 36) rfl))) (by decide) (t := .int) (t' := (.object "java/lang/Object")) (by decide) (by decide)))
              have f504 := Fld.other W492 C6_485 (Or.inr (slot_ne (Or.inl (hw _ (List.mem_of_getElem? (i := 39) rfl))) (Or.inl (hw _ (List.mem_of_getElem? (i := 36) rfl))) (by decide) (t := (.object "java/lang/Object")) (t' := (.object "java/lang/Object")) (by decide) (by decide)))
              have f505 := Fld.other W492 C7_485 (Or.inr (slot_ne (Or.inl (hw _ (List.mem_of_getElem? (i := 42) rfl))) (Or.inl (hw _ (List.mem_of_getElem? (i := 36) rfl))) (by decide) (t := (.object "java/lang/Object")) (t' := (.object "java/lang/Object")) (by decide) (by decide)))
              have Z506 : n0 ≤ h492.size := Nat.le_trans Z491 (Keep.of_wr W492).1
              refine Go.movp st492 (mkF m 368 #[.val (.int p0), .val (.int p1), .val (.int p2), .val (.int p3), .val (.int p4), .val (.int p5), .val (.int fi), .val (.int la), .val (.int mi), .val (.int md), .val (.int nn), .val (.int u0), .val (.int u1), .val (.int l0), .val (.int l1), .val (.int m0), .val (.int m1), .val (.ref b282), .val (.ref b445), .val (.ref b445), .val (.int (1 : Int32)), .val (.int (1 : Int32)), .val (.int z0), .val (.int z1), .val (.int l0), .val (.int l1), .val (.int l0), .val (.int l1), .val (.ref b468), .unset, .unset, .unset, .unset] []) rfl ?_
              refine g_aload X492 hx (hb hby at_368) (pc' := 370) rfl rfl rfl ?_
              refine g_aload X492 hx (hb hby at_370) (pc' := 372) rfl rfl rfl ?_
              obtain ⟨T507, h507, X507, e507, W507, st507⟩ := putF X492 hx hZ hown (host := "") (Or.inl (hw _ (List.mem_of_getElem? (i := 37) rfl))) (Via.of (hw _ (List.mem_of_getElem? (i := 38) rfl))) e492 f504 f498 (Or.inl (hw _ (List.mem_of_getElem? (i := 39) rfl))) (hw _ (List.mem_of_getElem? (i := 11) rfl)) (ty := (.object "java/lang/Object")) (by decide) rfl rfl (g := (mkF m 372 #[.val (.int p0), .val (.int p1), .val (.int p2), .val (.int p3), .val (.int p4), .val (.int p5), .val (.int fi), .val (.int la), .val (.int mi), .val (.int md), .val (.int nn), .val (.int u0), .val (.int u1), .val (.int l0), .val (.int l1), .val (.int m0), .val (.int m1), .val (.ref b282), .val (.ref b445), .val (.ref b445), .val (.int (1 : Int32)), .val (.int (1 : Int32)), .val (.int z0), .val (.int z1), .val (.int l0), .val (.int l1), .val (.int l0), .val (.int l1), .val (.ref b468), .unset, .unset, .unset, .unset] [(.ref b445), (.ref b468)])) rfl rfl (hb hby at_372)
              have f508 : Fld Z h507 b468 "com/example/needlework/needlework/PackedBlock" "lasts" "Ljava/lang/Object;" (.ref b445) := Fld.same W507 f504
              have N507 := Fr.snoc X507 N492 ge471
              have f509 := Exa.wr W507 f494
              have f510 := f495.other W507 ne469
              have f511 := Exa.wr W507 f496
              have f512 := f497.other W507 ne470
              have f513 := Exa.wr W507 f498
              have f514 := Fld.other W507 f499 (Or.inr (slot_ne (Or.inr (hw _ (List.mem_of_getElem? (i := 25) rfl))) (Or.inl (hw _ (List.mem_of_getElem? (i := 39) rfl))) (by decide) (t := .int) (t' := (.object "java/lang/Object")) (by decide) (by decide)))
              have f515 := Fld.other W507 f500 (Or.inr (slot_ne (Or.inr (hw _ (List.mem_of_getElem? (i := 27) rfl))) (Or.inl (hw _ (List.mem_of_getElem? (i := 39) rfl))) (by decide) (t := .int) (t' := (.object "java/lang/Object")) (by decide) (by decide)))
              have f516 := Fld.other W507 f501 (Or.inr (slot_ne (Or.inr (hw _ (List.mem_of_getElem? (i := 29) rfl))) (Or.inl (hw _ (List.mem_of_getElem? (i := 39) rfl))) (by decide) (t := .int) (t' := (.object "java/lang/Object")) (by decide) (by decide)))
              have f517 := Fld.other W507 f502 (Or.inr (slot_ne (Or.inr (hw _ (List.mem_of_getElem? (i := 31) rfl))) (Or.inl (hw _ (List.mem_of_getElem? (i := 39) rfl))) (by decide) (t := .int) (t' := (.object "java/lang/Object")) (by decide) (by decide)))
              have f518 := Fld.other W507 f503 (Or.inr (slot_ne (Or.inr (hw _ (List.mem_of_getElem? (i := 33) rfl))) (Or.inl (hw _ (List.mem_of_getElem? (i := 39) rfl))) (by decide) (t := .int) (t' := (.object "java/lang/Object")) (by decide) (by decide)))
              have f519 := Fld.other W507 f505 (Or.inr (slot_ne (Or.inl (hw _ (List.mem_of_getElem? (i := 42) rfl))) (Or.inl (hw _ (List.mem_of_getElem? (i := 39) rfl))) (by decide) (t := (.object "java/lang/Object")) (t' := (.object "java/lang/Object")) (by decide) (by decide)))
              have f520 := Fld.other W507 f493 (Or.inr (slot_ne (Or.inl (hw _ (List.mem_of_getElem? (i := 36) rfl))) (Or.inl (hw _ (List.mem_of_getElem? (i := 39) rfl))) (by decide) (t := (.object "java/lang/Object")) (t' := (.object "java/lang/Object")) (by decide) (by decide)))
              have Z521 : n0 ≤ h507.size := Nat.le_trans Z506 (Keep.of_wr W507).1
              refine Go.movp st507 (mkF m 375 #[.val (.int p0), .val (.int p1), .val (.int p2), .val (.int p3), .val (.int p4), .val (.int p5), .val (.int fi), .val (.int la), .val (.int mi), .val (.int md), .val (.int nn), .val (.int u0), .val (.int u1), .val (.int l0), .val (.int l1), .val (.int m0), .val (.int m1), .val (.ref b282), .val (.ref b445), .val (.ref b445), .val (.int (1 : Int32)), .val (.int (1 : Int32)), .val (.int z0), .val (.int z1), .val (.int l0), .val (.int l1), .val (.int l0), .val (.int l1), .val (.ref b468), .unset, .unset, .unset, .unset] []) rfl ?_
              refine g_aload X507 hx (hb hby at_375) (pc' := 377) rfl rfl rfl ?_
              refine g_aload X507 hx (hb hby at_377) (pc' := 379) rfl rfl rfl ?_
              obtain ⟨T522, h522, X522, e522, W522, st522⟩ := putF X507 hx hZ hown (host := "") (Or.inl (hw _ (List.mem_of_getElem? (i := 40) rfl))) (Via.of (hw _ (List.mem_of_getElem? (i := 41) rfl))) e507 f519 f513 (Or.inl (hw _ (List.mem_of_getElem? (i := 42) rfl))) (hw _ (List.mem_of_getElem? (i := 11) rfl)) (ty := (.object "java/lang/Object")) (by decide) rfl rfl (g := (mkF m 379 #[.val (.int p0), .val (.int p1), .val (.int p2), .val (.int p3), .val (.int p4), .val (.int p5), .val (.int fi), .val (.int la), .val (.int mi), .val (.int md), .val (.int nn), .val (.int u0), .val (.int u1), .val (.int l0), .val (.int l1), .val (.int m0), .val (.int m1), .val (.ref b282), .val (.ref b445), .val (.ref b445), .val (.int (1 : Int32)), .val (.int (1 : Int32)), .val (.int z0), .val (.int z1), .val (.int l0), .val (.int l1), .val (.int l0), .val (.int l1), .val (.ref b468), .unset, .unset, .unset, .unset] [(.ref b445), (.ref b468)])) rfl rfl (hb hby at_379)
              have f523 : Fld Z h522 b468 "com/example/needlework/needlework/PackedBlock" "middles" "Ljava/lang/Object;" (.ref b445) := Fld.same W522 f519
              have N522 := Fr.snoc X522 N507 ge471
              have f524 := Exa.wr W522 f509
              have f525 := f510.other W522 ne469
              have f526 := Exa.wr W522 f511
              have f527 := f512.other W522 ne470
              have f528 := Exa.wr W522 f513
              have f529 := Fld.other W522 f514 (Or.inr (slot_ne (Or.inr (hw _ (List.mem_of_getElem? (i := 25) rfl))) (Or.inl (hw _ (List.mem_of_getElem? (i := 42) rfl))) (by decide) (t := .int) (t' := (.object "java/lang/Object")) (by decide) (by decide)))
              have f530 := Fld.other W522 f515 (Or.inr (slot_ne (Or.inr (hw _ (List.mem_of_getElem? (i := 27) rfl))) (Or.inl (hw _ (List.mem_of_getElem? (i := 42) rfl))) (by decide) (t := .int) (t' := (.object "java/lang/Object")) (by decide) (by decide)))
              have f531 := Fld.other W522 f516 (Or.inr (slot_ne (Or.inr (hw _ (List.mem_of_getElem? (i := 29) rfl))) (Or.inl (hw _ (List.mem_of_getElem? (i := 42) rfl))) (by decide) (t := .int) (t' := (.object "java/lang/Object")) (by decide) (by decide)))
              have f532 := Fld.other W522 f517 (Or.inr (slot_ne (Or.inr (hw _ (List.mem_of_getElem? (i := 31) rfl))) (Or.inl (hw _ (List.mem_of_getElem? (i := 42) rfl))) (by decide) (t := .int) (t' := (.object "java/lang/Object")) (by decide) (by decide)))
              have f533 := Fld.other W522 f518 (Or.inr (slot_ne (Or.inr (hw _ (List.mem_of_getElem? (i := 33) rfl))) (Or.inl (hw _ (List.mem_of_getElem? (i := 42) rfl))) (by decide) (t := .int) (t' := (.object "java/lang/Object")) (by decide) (by decide)))
              have f534 := Fld.other W522 f520 (Or.inr (slot_ne (Or.inl (hw _ (List.mem_of_getElem? (i := 36) rfl))) (Or.inl (hw _ (List.mem_of_getElem? (i := 42) rfl))) (by decide) (t := (.object "java/lang/Object")) (t' := (.object "java/lang/Object")) (by decide) (by decide)))
              have f535 := Fld.other W522 f508 (Or.inr (slot_ne (Or.inl (hw _ (List.mem_of_getElem? (i := 39) rfl))) (Or.inl (hw _ (List.mem_of_getElem? (i := 42) rfl))) (by decide) (t := (.object "java/lang/Object")) (t' := (.object "java/lang/Object")) (by decide) (by decide)))
              have Z536 : n0 ≤ h522.size := Nat.le_trans Z521 (Keep.of_wr W522).1
              refine Go.movp st522 (mkF m 382 #[.val (.int p0), .val (.int p1), .val (.int p2), .val (.int p3), .val (.int p4), .val (.int p5), .val (.int fi), .val (.int la), .val (.int mi), .val (.int md), .val (.int nn), .val (.int u0), .val (.int u1), .val (.int l0), .val (.int l1), .val (.int m0), .val (.int m1), .val (.ref b282), .val (.ref b445), .val (.ref b445), .val (.int (1 : Int32)), .val (.int (1 : Int32)), .val (.int z0), .val (.int z1), .val (.int l0), .val (.int l1), .val (.int l0), .val (.int l1), .val (.ref b468), .unset, .unset, .unset, .unset] []) rfl ?_
              refine g_aload X522 hx (hb hby at_382) (pc' := 384) rfl rfl rfl ?_
              refine g_iload X522 hx (hb hby at_384) (pc' := 386) rfl rfl ?_
              obtain ⟨w0, hw0⟩ : ∃ z : Int32, z = (if (0 : Int32) < nn then (mkV u0 l0 l0 fi la mi) else u0) := ⟨_, rfl⟩
              obtain ⟨w1, hw1⟩ : ∃ z : Int32, z = (if (1 : Int32) < nn then (mkV u1 l1 l1 fi la mi) else u1) := ⟨_, rfl⟩
              have hm0 := own_mk bu0 bl0 bl0 bfi bla bmi
              have hm1 := own_mk bu1 bl1 bl1 bfi bla bmi
              obtain ⟨v537, T537, h537, L537, X537, e537, N537, q537, st537⟩ := h_virtual (a := b468) (z := (⟨"com/example/needlework/needlework/PackedBlock$Chars", "mark", "(I)V"⟩ : MethodName)) X522 hx (W := 0) (Ls := #[.val (.int p0), .val (.int p1), .val (.int p2), .val (.int p3), .val (.int p4), .val (.int p5), .val (.int fi), .val (.int la), .val (.int mi), .val (.int md), .val (.int nn), .val (.int u0), .val (.int u1), .val (.int l0), .val (.int l1), .val (.int m0), .val (.int m1), .val (.ref b282), .val (.ref b445), .val (.ref b445), .val (.int (1 : Int32)), .val (.int (1 : Int32)), .val (.int z0), .val (.int z1), .val (.int l0), .val (.int l1), .val (.int l0), .val (.int l1), .val (.ref b468), .unset, .unset, .unset, .unset]) (argsL := [(.int nn)]) (rest := []) hZ e522 N522 hml hown (rm6_2 l Z a0 hw b468 b282 b445 u0 u1 l0 l1 fi la mi nn w0 w1 h522 n0 Z536 f534 f535 f523 f529 f530 f531 f525 f527 f524 f526 ge283 (Ne.symm ne446) (Ne.symm ne469) hnn hw0 hw1) f528 (hw _ (List.mem_of_getElem? (i := 43) rfl)) (hw _ (List.mem_of_getElem? (i := 44) rfl)) (notFace_of_selects (args := #[]) (mvT hZ (hw _ (List.mem_of_getElem? (i := 46) rfl)))) (hw _ (List.mem_of_getElem? (i := 46) rfl)) (hw _ (List.mem_of_getElem? (i := 45) rfl)) (hw _ (List.mem_of_getElem? (i := 12) rfl)) (hw _ (List.mem_of_getElem? (i := 47) rfl)) (by decide) pd__I_V rfl rfl (hb hby at_386) rfl (by decide) (by decide) (by decide) (by decide)
              obtain ⟨rfl, K537, V537⟩ := q537
              have f538 := f524.keep K537
              have f539 := f526.keep K537
              have f540 := f527.keep K537 (ninS (Ne.symm ne446) nin0)
              have f541 := f528.keep K537
              have f542 := f529.keep K537 (ninS (Ne.symm ne469) nin0)
              have f543 := f530.keep K537 (ninS (Ne.symm ne469) nin0)
              have f544 := f531.keep K537 (ninS (Ne.symm ne469) nin0)
              have f545 := f532.keep K537 (ninS (Ne.symm ne469) nin0)
              have f546 := f533.keep K537 (ninS (Ne.symm ne469) nin0)
              have f547 := f534.keep K537 (ninS (Ne.symm ne469) nin0)
              have f548 := f535.keep K537 (ninS (Ne.symm ne469) nin0)
              have f549 := f523.keep K537 (ninS (Ne.symm ne469) nin0)
              have Z550 : n0 ≤ h537.size := Nat.le_trans Z536 K537.1
              refine Go.movp st537 (mkF m 389 #[.val (.int p0), .val (.int p1), .val (.int p2), .val (.int p3), .val (.int p4), .val (.int p5), .val (.int fi), .val (.int la), .val (.int mi), .val (.int md), .val (.int nn), .val (.int u0), .val (.int u1), .val (.int l0), .val (.int l1), .val (.int m0), .val (.int m1), .val (.ref b282), .val (.ref b445), .val (.ref b445), .val (.int (1 : Int32)), .val (.int (1 : Int32)), .val (.int z0), .val (.int z1), .val (.int l0), .val (.int l1), .val (.int l0), .val (.int l1), .val (.ref b468), .unset, .unset, .unset, .unset] []) rfl ?_
              have J551 : Go p e below (EndF s room_1.cells room_1.slots) n0 (Q0 Z p0 p1 p2 p3 p4 p5 h0 n0) T537 (mkF m 434 #[.val (.int p0), .val (.int p1), .val (.int p2), .val (.int p3), .val (.int p4), .val (.int p5), .val (.int fi), .val (.int la), .val (.int mi), .val (.int md), .val (.int nn), .val (.int u0), .val (.int u1), .val (.int l0), .val (.int l1), .val (.int m0), .val (.int m1), .val (.ref b282), .val (.ref b445), .val (.ref b445), .val (.int (1 : Int32)), .val (.int (1 : Int32)), .val (.int z0), .val (.int z1), .val (.int l0), .val (.int l1), .val (.int l0), .val (.int l1), .val (.ref b468), .unset, .unset, .unset, .unset] [(.int (1 : Int32))]) := by
                refine g_istore X537 hx (hb hby at_434) (pc' := 436) rfl (Ls' := #[.val (.int p0), .val (.int p1), .val (.int p2), .val (.int p3), .val (.int p4), .val (.int p5), .val (.int fi), .val (.int la), .val (.int mi), .val (.int md), .val (.int nn), .val (.int u0), .val (.int u1), .val (.int l0), .val (.int l1), .val (.int m0), .val (.int m1), .val (.ref b282), .val (.ref b445), .val (.ref b445), .val (.int (1 : Int32)), .val (.int (1 : Int32)), .val (.int z0), .val (.int z1), .val (.int l0), .val (.int l1), .val (.int l0), .val (.int l1), .val (.ref b468), .val (.int (1 : Int32)), .unset, .unset, .unset]) rfl ?_
                have J552 : Go p e below (EndF s room_1.cells room_1.slots) n0 (Q0 Z p0 p1 p2 p3 p4 p5 h0 n0) T537 (mkF m 482 #[.val (.int p0), .val (.int p1), .val (.int p2), .val (.int p3), .val (.int p4), .val (.int p5), .val (.int fi), .val (.int la), .val (.int mi), .val (.int md), .val (.int nn), .val (.int u0), .val (.int u1), .val (.int l0), .val (.int l1), .val (.int m0), .val (.int m1), .val (.ref b282), .val (.ref b445), .val (.ref b445), .val (.int (1 : Int32)), .val (.int (1 : Int32)), .val (.int z0), .val (.int z1), .val (.int l0), .val (.int l1), .val (.int l0), .val (.int l1), .val (.ref b468), .val (.int (1 : Int32)), .unset, .unset, .unset] [(.int (1 : Int32))]) := by
                  refine g_istore X537 hx (hb hby at_482) (pc' := 484) rfl (Ls' := #[.val (.int p0), .val (.int p1), .val (.int p2), .val (.int p3), .val (.int p4), .val (.int p5), .val (.int fi), .val (.int la), .val (.int mi), .val (.int md), .val (.int nn), .val (.int u0), .val (.int u1), .val (.int l0), .val (.int l1), .val (.int m0), .val (.int m1), .val (.ref b282), .val (.ref b445), .val (.ref b445), .val (.int (1 : Int32)), .val (.int (1 : Int32)), .val (.int z0), .val (.int z1), .val (.int l0), .val (.int l1), .val (.int l0), .val (.int l1), .val (.ref b468), .val (.int (1 : Int32)), .val (.int (1 : Int32)), .unset, .unset]) rfl ?_
                  refine g_iconst X537 hx (hb hby at_484) (pc' := 485) rfl (z := (1 : Int32)) rfl ?_
                  refine g_istore X537 hx (hb hby at_485) (pc' := 487) rfl (Ls' := #[.val (.int p0), .val (.int p1), .val (.int p2), .val (.int p3), .val (.int p4), .val (.int p5), .val (.int fi), .val (.int la), .val (.int mi), .val (.int md), .val (.int nn), .val (.int u0), .val (.int u1), .val (.int l0), .val (.int l1), .val (.int m0), .val (.int m1), .val (.ref b282), .val (.ref b445), .val (.ref b445), .val (.int (1 : Int32)), .val (.int (1 : Int32)), .val (.int z0), .val (.int z1), .val (.int l0), .val (.int l1), .val (.int l0), .val (.int l1), .val (.ref b468), .val (.int (1 : Int32)), .val (.int (1 : Int32)), .val (.int (1 : Int32)), .unset]) rfl ?_
                  refine g_iload X537 hx (hb hby at_487) (pc' := 489) rfl rfl ?_
                  refine g_iconst X537 hx (hb hby at_489) (pc' := 490) rfl (z := (1 : Int32)) rfl ?_
                  refine g_icmp_eq X537 hx (hb hby at_490) (pc1 := 493) rfl (by decide) (pc2 := 518) (by decide) (fun hc490 => absurd hc490 hc160) (fun hc490 => ?_)
                  refine g_aload X537 hx (hb hby at_493) (pc' := 495) rfl rfl rfl ?_
                  refine g_iconst X537 hx (hb hby at_495) (pc' := 496) rfl (z := (0 : Int32)) rfl ?_
                  refine g_caload X537 hx hZ e537 f540 (i := 0) (v := (.int l0)) (hb hby at_496) (pc' := 497) rfl (by decide) rfl rfl ?_
                  refine g_iload X537 hx (hb hby at_497) (pc' := 499) rfl rfl ?_
                  refine g_icmp_ne X537 hx (hb hby at_499) (pc1 := 502) rfl (by decide) (pc2 := 515) (by decide) (fun hc499 => absurd rfl hc499) (fun hc499 => ?_)
                  refine g_aload X537 hx (hb hby at_502) (pc' := 504) rfl rfl rfl ?_
                  refine g_iconst X537 hx (hb hby at_504) (pc' := 505) rfl (z := (1 : Int32)) rfl ?_
                  refine g_caload X537 hx hZ e537 f540 (i := 1) (v := (.int l1)) (hb hby at_505) (pc' := 506) rfl (by decide) rfl rfl ?_
                  refine g_iload X537 hx (hb hby at_506) (pc' := 508) rfl rfl ?_
                  refine g_icmp_ne X537 hx (hb hby at_508) (pc1 := 511) rfl (by decide) (pc2 := 515) (by decide) (fun hc508 => absurd rfl hc508) (fun hc508 => ?_)
                  refine g_iconst X537 hx (hb hby at_511) (pc' := 512) rfl (z := (1 : Int32)) rfl ?_
                  refine g_goto X537 hx (hb hby at_512) (by decide) (pc' := 516) (by decide) ?_
                  refine g_istore X537 hx (hb hby at_516) (pc' := 518) rfl (Ls' := #[.val (.int p0), .val (.int p1), .val (.int p2), .val (.int p3), .val (.int p4), .val (.int p5), .val (.int fi), .val (.int la), .val (.int mi), .val (.int md), .val (.int nn), .val (.int u0), .val (.int u1), .val (.int l0), .val (.int l1), .val (.int m0), .val (.int m1), .val (.ref b282), .val (.ref b445), .val (.ref b445), .val (.int (1 : Int32)), .val (.int (1 : Int32)), .val (.int z0), .val (.int z1), .val (.int l0), .val (.int l1), .val (.int l0), .val (.int l1), .val (.ref b468), .val (.int (1 : Int32)), .val (.int (1 : Int32)), .val (.int (1 : Int32)), .unset]) rfl ?_
                  refine g_iconst X537 hx (hb hby at_518) (pc' := 519) rfl (z := (1 : Int32)) rfl ?_
                  refine g_istore X537 hx (hb hby at_519) (pc' := 521) rfl (Ls' := #[.val (.int p0), .val (.int p1), .val (.int p2), .val (.int p3), .val (.int p4), .val (.int p5), .val (.int fi), .val (.int la), .val (.int mi), .val (.int md), .val (.int nn), .val (.int u0), .val (.int u1), .val (.int l0), .val (.int l1), .val (.int m0), .val (.int m1), .val (.ref b282), .val (.ref b445), .val (.ref b445), .val (.int (1 : Int32)), .val (.int (1 : Int32)), .val (.int z0), .val (.int z1), .val (.int l0), .val (.int l1), .val (.int l0), .val (.int l1), .val (.ref b468), .val (.int (1 : Int32)), .val (.int (1 : Int32)), .val (.int (1 : Int32)), .val (.int (1 : Int32))]) rfl ?_
                  refine g_iload X537 hx (hb hby at_521) (pc' := 523) rfl rfl ?_
                  refine g_if_eq X537 hx (hb hby at_523) (pc1 := 526) rfl (by decide) (pc2 := 532) (by decide) (fun hc523 => absurd hc523 (by rw [hc183]; decide)) (fun hc523 => ?_)
                  refine g_iload X537 hx (hb hby at_526) (pc' := 528) rfl rfl ?_
                  refine g_iconst X537 hx (hb hby at_528) (pc' := 529) rfl (z := (3 : Int32)) rfl ?_
                  refine g_icmp_ne X537 hx (hb hby at_529) (pc1 := 532) rfl (by decide) (pc2 := 557) (by decide) (fun hc529 => ?_) (fun hc529 => absurd hc529 (by rw [hc183]; decide))
                  refine g_iload X537 hx (hb hby at_557) (pc' := 559) rfl rfl ?_
                  refine g_if_eq X537 hx (hb hby at_559) (pc1 := 562) rfl (by decide) (pc2 := 581) (by decide) (fun hc559 => absurd hc559 (by decide)) (fun hc559 => ?_)
                  refine g_iload X537 hx (hb hby at_562) (pc' := 564) rfl rfl ?_
                  refine g_if_eq X537 hx (hb hby at_564) (pc1 := 567) rfl (by decide) (pc2 := 581) (by decide) (fun hc564 => absurd hc564 (by decide)) (fun hc564 => ?_)
                  refine g_iload X537 hx (hb hby at_567) (pc' := 569) rfl rfl ?_
                  refine g_if_eq X537 hx (hb hby at_569) (pc1 := 572) rfl (by decide) (pc2 := 581) (by decide) (fun hc569 => absurd hc569 (by decide)) (fun hc569 => ?_)
                  refine g_iload X537 hx (hb hby at_572) (pc' := 574) rfl rfl ?_
                  refine g_if_eq X537 hx (hb hby at_574) (pc1 := 577) rfl (by decide) (pc2 := 581) (by decide) (fun hc574 => absurd hc574 (by decide)) (fun hc574 => ?_)
                  refine g_iconst X537 hx (hb hby at_577) (pc' := 578) rfl (z := (1 : Int32)) rfl ?_
                  refine g_goto X537 hx (hb hby at_578) (by decide) (pc' := 582) (by decide) ?_
                  exact g_zreturn X537 hx rfl hret (hb hby at_582) N537 hlk (fun v t => endF (by decide) (by decide) v) (by rw [e537]; exact rfl)
                refine g_iload X537 hx (hb hby at_436) (pc' := 438) rfl rfl ?_
                refine g_iconst X537 hx (hb hby at_438) (pc' := 439) rfl (z := (1 : Int32)) rfl ?_
                refine g_icmp_le X537 hx (hb hby at_439) (pc1 := 442) rfl (by decide) (pc2 := 468) (by decide) (fun hc439 => ?_) (fun hc439 => ?_)
                · skip
                  refine g_aload X537 hx (hb hby at_468) (pc' := 470) rfl rfl rfl ?_
                  refine g_iconst X537 hx (hb hby at_470) (pc' := 471) rfl (z := (1 : Int32)) rfl ?_
                  refine g_caload X537 hx hZ e537 V537 (i := 1) (v := (.int w1)) (hb hby at_471) (pc' := 472) rfl (by decide) rfl rfl ?_
                  refine g_iload X537 hx (hb hby at_472) (pc' := 474) rfl rfl ?_
                  refine g_icmp_ne X537 hx (hb hby at_474) (pc1 := 477) rfl (by decide) (pc2 := 481) (by decide) (fun hc474 => absurd (hw1.trans (if_neg hc439)) hc474) (fun hc474 => ?_)
                  refine g_iconst X537 hx (hb hby at_477) (pc' := 478) rfl (z := (1 : Int32)) rfl ?_
                  refine g_goto X537 hx (hb hby at_478) (by decide) (pc' := 482) (by decide) ?_
                  exact J552  
                · skip
                  refine g_aload X537 hx (hb hby at_442) (pc' := 444) rfl rfl rfl ?_
                  refine g_iconst X537 hx (hb hby at_444) (pc' := 445) rfl (z := (1 : Int32)) rfl ?_
                  refine g_caload X537 hx hZ e537 V537 (i := 1) (v := (.int w1)) (hb hby at_445) (pc' := 446) rfl (by decide) rfl rfl ?_
                  refine g_iload X537 hx (hb hby at_446) (pc' := 448) rfl rfl ?_
                  refine g_if_eq X537 hx (hb hby at_448) (pc1 := 451) rfl (by decide) (pc2 := 456) (by decide) (fun hc448 => ?_) (fun hc448 => ?_)
                  · skip
                    refine g_iconst X537 hx (hb hby at_456) (pc' := 457) rfl (z := (0 : Int32)) rfl ?_
                    refine g_icmp_ne X537 hx (hb hby at_457) (pc1 := 460) rfl (by decide) (pc2 := 464) (by decide) (fun hc457 => absurd (own_ok0 hc439 hw1 hm1 hz1 hc448) hc457) (fun hc457 => ?_)
                    refine g_iconst X537 hx (hb hby at_460) (pc' := 461) rfl (z := (1 : Int32)) rfl ?_
                    refine g_goto X537 hx (hb hby at_461) (by decide) (pc' := 482) (by decide) ?_
                    exact J552  
                  · skip
                    refine g_ldc X537 hx hZ hown (hw _ (List.mem_of_getElem? (i := 60) rfl)) (hb hby at_451) (pc' := 453) rfl ?_
                    refine g_goto X537 hx (hb hby at_453) (by decide) (pc' := 457) (by decide) ?_
                    refine g_icmp_ne X537 hx (hb hby at_457) (pc1 := 460) rfl (by decide) (pc2 := 464) (by decide) (fun hc457 => absurd (own_ok1 hc439 hw1 hm1 hz1 hc448) hc457) (fun hc457 => ?_)
                    refine g_iconst X537 hx (hb hby at_460) (pc' := 461) rfl (z := (1 : Int32)) rfl ?_
                    refine g_goto X537 hx (hb hby at_461) (by decide) (pc' := 482) (by decide) ?_
                    exact J552  
              refine g_iload X537 hx (hb hby at_389) (pc' := 391) rfl rfl ?_
              refine g_if_le X537 hx (hb hby at_391) (pc1 := 394) rfl (by decide) (pc2 := 420) (by decide) (fun hc391 => ?_) (fun hc391 => ?_)
              · skip
                refine g_aload X537 hx (hb hby at_420) (pc' := 422) rfl rfl rfl ?_
                refine g_iconst X537 hx (hb hby at_422) (pc' := 423) rfl (z := (0 : Int32)) rfl ?_
                refine g_caload X537 hx hZ e537 V537 (i := 0) (v := (.int w0)) (hb hby at_423) (pc' := 424) rfl (by decide) rfl rfl ?_
                refine g_iload X537 hx (hb hby at_424) (pc' := 426) rfl rfl ?_
                refine g_icmp_ne X537 hx (hb hby at_426) (pc1 := 429) rfl (by decide) (pc2 := 433) (by decide) (fun hc426 => absurd (hw0.trans (if_neg hc391)) hc426) (fun hc426 => ?_)
                refine g_iconst X537 hx (hb hby at_429) (pc' := 430) rfl (z := (1 : Int32)) rfl ?_
                refine g_goto X537 hx (hb hby at_430) (by decide) (pc' := 434) (by decide) ?_
                exact J551  
              · skip
                refine g_aload X537 hx (hb hby at_394) (pc' := 396) rfl rfl rfl ?_
                refine g_iconst X537 hx (hb hby at_396) (pc' := 397) rfl (z := (0 : Int32)) rfl ?_
                refine g_caload X537 hx hZ e537 V537 (i := 0) (v := (.int w0)) (hb hby at_397) (pc' := 398) rfl (by decide) rfl rfl ?_
                refine g_iload X537 hx (hb hby at_398) (pc' := 400) rfl rfl ?_
                refine g_if_eq X537 hx (hb hby at_400) (pc1 := 403) rfl (by decide) (pc2 := 408) (by decide) (fun hc400 => ?_) (fun hc400 => ?_)
                · skip
                  refine g_iconst X537 hx (hb hby at_408) (pc' := 409) rfl (z := (0 : Int32)) rfl ?_
                  refine g_icmp_ne X537 hx (hb hby at_409) (pc1 := 412) rfl (by decide) (pc2 := 416) (by decide) (fun hc409 => absurd (own_ok0 hc391 hw0 hm0 hz0 hc400) hc409) (fun hc409 => ?_)
                  refine g_iconst X537 hx (hb hby at_412) (pc' := 413) rfl (z := (1 : Int32)) rfl ?_
                  refine g_goto X537 hx (hb hby at_413) (by decide) (pc' := 434) (by decide) ?_
                  exact J551  
                · skip
                  refine g_ldc X537 hx hZ hown (hw _ (List.mem_of_getElem? (i := 60) rfl)) (hb hby at_403) (pc' := 405) rfl ?_
                  refine g_goto X537 hx (hb hby at_405) (by decide) (pc' := 409) (by decide) ?_
                  refine g_icmp_ne X537 hx (hb hby at_409) (pc1 := 412) rfl (by decide) (pc2 := 416) (by decide) (fun hc409 => absurd (own_ok1 hc391 hw0 hm0 hz0 hc400) hc409) (fun hc409 => ?_)
                  refine g_iconst X537 hx (hb hby at_412) (pc' := 413) rfl (z := (1 : Int32)) rfl ?_
                  refine g_goto X537 hx (hb hby at_413) (by decide) (pc' := 434) (by decide) ?_
                  exact J551  
            refine g_aload X459 hx (hb hby at_284) (pc' := 286) rfl rfl rfl ?_
            refine g_iconst X459 hx (hb hby at_286) (pc' := 287) rfl (z := (1 : Int32)) rfl ?_
            refine g_caload X459 hx hZ e459 f461 (i := 1) (v := (.int u1)) (hb hby at_287) (pc' := 288) rfl (by decide) rfl rfl ?_
            refine g_iload X459 hx (hb hby at_288) (pc' := 290) rfl rfl ?_
            refine g_icmp_ne X459 hx (hb hby at_290) (pc1 := 293) rfl (by decide) (pc2 := 315) (by decide) (fun hc290 => ?_) (fun hc290 => ?_)
            · skip
              refine g_iconst X459 hx (hb hby at_315) (pc' := 316) rfl (z := (0 : Int32)) rfl ?_
              exact J467  _ (if_neg (fun q => hc290 q.1)).symm
            · skip
              refine g_aload X459 hx (hb hby at_293) (pc' := 295) rfl rfl rfl ?_
              refine g_iconst X459 hx (hb hby at_295) (pc' := 296) rfl (z := (1 : Int32)) rfl ?_
              refine g_caload X459 hx hZ e459 f465 (i := 1) (v := (.int l1)) (hb hby at_296) (pc' := 297) rfl (by decide) rfl rfl ?_
              refine g_iload X459 hx (hb hby at_297) (pc' := 299) rfl rfl ?_
              refine g_icmp_ne X459 hx (hb hby at_299) (pc1 := 302) rfl (by decide) (pc2 := 315) (by decide) (fun hc299 => ?_) (fun hc299 => ?_)
              · skip
                refine g_iconst X459 hx (hb hby at_315) (pc' := 316) rfl (z := (0 : Int32)) rfl ?_
                exact J467  _ (if_neg (fun q => hc299 q.2.1)).symm
              · skip
                refine g_aload X459 hx (hb hby at_302) (pc' := 304) rfl rfl rfl ?_
                refine g_iconst X459 hx (hb hby at_304) (pc' := 305) rfl (z := (1 : Int32)) rfl ?_
                refine g_caload X459 hx hZ e459 f465 (i := 1) (v := (.int l1)) (hb hby at_305) (pc' := 306) rfl (by decide) rfl rfl ?_
                refine g_iload X459 hx (hb hby at_306) (pc' := 308) rfl rfl ?_
                refine g_icmp_ne X459 hx (hb hby at_308) (pc1 := 311) rfl (by decide) (pc2 := 315) (by decide) (fun hc308 => ?_) (fun hc308 => ?_)
                · skip
                  refine g_iconst X459 hx (hb hby at_315) (pc' := 316) rfl (z := (0 : Int32)) rfl ?_
                  exact J467  _ (if_neg (fun q => hc308 q.2.2)).symm
                · skip
                  refine g_iconst X459 hx (hb hby at_311) (pc' := 312) rfl (z := (1 : Int32)) rfl ?_
                  refine g_goto X459 hx (hb hby at_312) (by decide) (pc' := 316) (by decide) ?_
                  exact J467  _ (if_pos ⟨hc290, hc299, hc308⟩).symm
          refine g_aload X459 hx (hb hby at_250) (pc' := 252) rfl rfl rfl ?_
          refine g_iconst X459 hx (hb hby at_252) (pc' := 253) rfl (z := (0 : Int32)) rfl ?_
          refine g_caload X459 hx hZ e459 f461 (i := 0) (v := (.int u0)) (hb hby at_253) (pc' := 254) rfl (by decide) rfl rfl ?_
          refine g_iload X459 hx (hb hby at_254) (pc' := 256) rfl rfl ?_
          refine g_icmp_ne X459 hx (hb hby at_256) (pc1 := 259) rfl (by decide) (pc2 := 281) (by decide) (fun hc256 => ?_) (fun hc256 => ?_)
          · skip
            refine g_iconst X459 hx (hb hby at_281) (pc' := 282) rfl (z := (0 : Int32)) rfl ?_
            exact J466  _ (if_neg (fun q => hc256 q.1)).symm
          · skip
            refine g_aload X459 hx (hb hby at_259) (pc' := 261) rfl rfl rfl ?_
            refine g_iconst X459 hx (hb hby at_261) (pc' := 262) rfl (z := (0 : Int32)) rfl ?_
            refine g_caload X459 hx hZ e459 f465 (i := 0) (v := (.int l0)) (hb hby at_262) (pc' := 263) rfl (by decide) rfl rfl ?_
            refine g_iload X459 hx (hb hby at_263) (pc' := 265) rfl rfl ?_
            refine g_icmp_ne X459 hx (hb hby at_265) (pc1 := 268) rfl (by decide) (pc2 := 281) (by decide) (fun hc265 => ?_) (fun hc265 => ?_)
            · skip
              refine g_iconst X459 hx (hb hby at_281) (pc' := 282) rfl (z := (0 : Int32)) rfl ?_
              exact J466  _ (if_neg (fun q => hc265 q.2.1)).symm
            · skip
              refine g_aload X459 hx (hb hby at_268) (pc' := 270) rfl rfl rfl ?_
              refine g_iconst X459 hx (hb hby at_270) (pc' := 271) rfl (z := (0 : Int32)) rfl ?_
              refine g_caload X459 hx hZ e459 f465 (i := 0) (v := (.int l0)) (hb hby at_271) (pc' := 272) rfl (by decide) rfl rfl ?_
              refine g_iload X459 hx (hb hby at_272) (pc' := 274) rfl rfl ?_
              refine g_icmp_ne X459 hx (hb hby at_274) (pc1 := 277) rfl (by decide) (pc2 := 281) (by decide) (fun hc274 => ?_) (fun hc274 => ?_)
              · skip
                refine g_iconst X459 hx (hb hby at_281) (pc' := 282) rfl (z := (0 : Int32)) rfl ?_
                exact J466  _ (if_neg (fun q => hc274 q.2.2)).symm
              · skip
                refine g_iconst X459 hx (hb hby at_277) (pc' := 278) rfl (z := (1 : Int32)) rfl ?_
                refine g_goto X459 hx (hb hby at_278) (by decide) (pc' := 282) (by decide) ?_
                exact J466  _ (if_pos ⟨hc256, hc265, hc274⟩).symm
      · skip
        refine g_aload X291 hx (hb hby at_163) (pc' := 165) rfl rfl rfl ?_
        refine g_astore X291 hx (hb hby at_165) (pc' := 167) rfl rfl (Ls' := #[.val (.int p0), .val (.int p1), .val (.int p2), .val (.int p3), .val (.int p4), .val (.int p5), .val (.int fi), .val (.int la), .val (.int mi), .val (.int md), .val (.int nn), .val (.int u0), .val (.int u1), .val (.int l0), .val (.int l1), .val (.int m0), .val (.int m1), .val (.ref b282), .val (.ref b282), .unset, .unset, .unset, .unset, .unset, .unset, .unset, .unset, .unset, .unset, .unset, .unset, .unset, .unset]) rfl ?_
        refine g_aload X291 hx (hb hby at_167) (pc' := 169) rfl rfl rfl ?_
        refine g_astore X291 hx (hb hby at_169) (pc' := 171) rfl rfl (Ls' := #[.val (.int p0), .val (.int p1), .val (.int p2), .val (.int p3), .val (.int p4), .val (.int p5), .val (.int fi), .val (.int la), .val (.int mi), .val (.int md), .val (.int nn), .val (.int u0), .val (.int u1), .val (.int l0), .val (.int l1), .val (.int m0), .val (.int m1), .val (.ref b282), .val (.ref b282), .val (.ref b282), .unset, .unset, .unset, .unset, .unset, .unset, .unset, .unset, .unset, .unset, .unset, .unset, .unset]) rfl ?_
        refine g_iconst X291 hx (hb hby at_171) (pc' := 172) rfl (z := (0 : Int32)) rfl ?_
        refine g_istore X291 hx (hb hby at_172) (pc' := 174) rfl (Ls' := #[.val (.int p0), .val (.int p1), .val (.int p2), .val (.int p3), .val (.int p4), .val (.int p5), .val (.int fi), .val (.int la), .val (.int mi), .val (.int md), .val (.int nn), .val (.int u0), .val (.int u1), .val (.int l0), .val (.int l1), .val (.int m0), .val (.int m1), .val (.ref b282), .val (.ref b282), .val (.ref b282), .val (.int (0 : Int32)), .unset, .unset, .unset, .unset, .unset, .unset, .unset, .unset, .unset, .unset, .unset, .unset]) rfl ?_
        refine g_iconst X291 hx (hb hby at_174) (pc' := 175) rfl (z := (0 : Int32)) rfl ?_
        refine g_istore X291 hx (hb hby at_175) (pc' := 177) rfl (Ls' := #[.val (.int p0), .val (.int p1), .val (.int p2), .val (.int p3), .val (.int p4), .val (.int p5), .val (.int fi), .val (.int la), .val (.int mi), .val (.int md), .val (.int nn), .val (.int u0), .val (.int u1), .val (.int l0), .val (.int l1), .val (.int m0), .val (.int m1), .val (.ref b282), .val (.ref b282), .val (.ref b282), .val (.int (0 : Int32)), .val (.int (0 : Int32)), .unset, .unset, .unset, .unset, .unset, .unset, .unset, .unset, .unset, .unset, .unset]) rfl ?_
        refine g_goto X291 hx (hb hby at_177) (by decide) (pc' := 250) (by decide) ?_
        have J553 : ∀ (z0 : Int32) (hz0 : z0 = (if u0 = fi ∧ u0 = la ∧ u0 = mi then (1 : Int32) else 0)), Go p e below (EndF s room_1.cells room_1.slots) n0 (Q0 Z p0 p1 p2 p3 p4 p5 h0 n0) T291 (mkF m 282 #[.val (.int p0), .val (.int p1), .val (.int p2), .val (.int p3), .val (.int p4), .val (.int p5), .val (.int fi), .val (.int la), .val (.int mi), .val (.int md), .val (.int nn), .val (.int u0), .val (.int u1), .val (.int l0), .val (.int l1), .val (.int m0), .val (.int m1), .val (.ref b282), .val (.ref b282), .val (.ref b282), .val (.int (0 : Int32)), .val (.int (0 : Int32)), .unset, .unset, .unset, .unset, .unset, .unset, .unset, .unset, .unset, .unset, .unset] [(.int z0)]) := by
          intro  z0 hz0
          refine g_istore X291 hx (hb hby at_282) (pc' := 284) rfl (Ls' := #[.val (.int p0), .val (.int p1), .val (.int p2), .val (.int p3), .val (.int p4), .val (.int p5), .val (.int fi), .val (.int la), .val (.int mi), .val (.int md), .val (.int nn), .val (.int u0), .val (.int u1), .val (.int l0), .val (.int l1), .val (.int m0), .val (.int m1), .val (.ref b282), .val (.ref b282), .val (.ref b282), .val (.int (0 : Int32)), .val (.int (0 : Int32)), .val (.int z0), .unset, .unset, .unset, .unset, .unset, .unset, .unset, .unset, .unset, .unset]) rfl ?_
          have J554 : ∀ (z1 : Int32) (hz1 : z1 = (if u1 = fi ∧ u1 = la ∧ u1 = mi then (1 : Int32) else 0)), Go p e below (EndF s room_1.cells room_1.slots) n0 (Q0 Z p0 p1 p2 p3 p4 p5 h0 n0) T291 (mkF m 316 #[.val (.int p0), .val (.int p1), .val (.int p2), .val (.int p3), .val (.int p4), .val (.int p5), .val (.int fi), .val (.int la), .val (.int mi), .val (.int md), .val (.int nn), .val (.int u0), .val (.int u1), .val (.int l0), .val (.int l1), .val (.int m0), .val (.int m1), .val (.ref b282), .val (.ref b282), .val (.ref b282), .val (.int (0 : Int32)), .val (.int (0 : Int32)), .val (.int z0), .unset, .unset, .unset, .unset, .unset, .unset, .unset, .unset, .unset, .unset] [(.int z1)]) := by
            intro  z1 hz1
            refine g_istore X291 hx (hb hby at_316) (pc' := 318) rfl (Ls' := #[.val (.int p0), .val (.int p1), .val (.int p2), .val (.int p3), .val (.int p4), .val (.int p5), .val (.int fi), .val (.int la), .val (.int mi), .val (.int md), .val (.int nn), .val (.int u0), .val (.int u1), .val (.int l0), .val (.int l1), .val (.int m0), .val (.int m1), .val (.ref b282), .val (.ref b282), .val (.ref b282), .val (.int (0 : Int32)), .val (.int (0 : Int32)), .val (.int z0), .val (.int z1), .unset, .unset, .unset, .unset, .unset, .unset, .unset, .unset, .unset]) rfl ?_
            refine g_aload X291 hx (hb hby at_318) (pc' := 320) rfl rfl rfl ?_
            refine g_iconst X291 hx (hb hby at_320) (pc' := 321) rfl (z := (0 : Int32)) rfl ?_
            refine g_caload X291 hx hZ e291 f295 (i := 0) (v := (.int u0)) (hb hby at_321) (pc' := 322) rfl (by decide) rfl rfl ?_
            refine g_istore X291 hx (hb hby at_322) (pc' := 324) rfl (Ls' := #[.val (.int p0), .val (.int p1), .val (.int p2), .val (.int p3), .val (.int p4), .val (.int p5), .val (.int fi), .val (.int la), .val (.int mi), .val (.int md), .val (.int nn), .val (.int u0), .val (.int u1), .val (.int l0), .val (.int l1), .val (.int m0), .val (.int m1), .val (.ref b282), .val (.ref b282), .val (.ref b282), .val (.int (0 : Int32)), .val (.int (0 : Int32)), .val (.int z0), .val (.int z1), .val (.int u0), .unset, .unset, .unset, .unset, .unset, .unset, .unset, .unset]) rfl ?_
            refine g_aload X291 hx (hb hby at_324) (pc' := 326) rfl rfl rfl ?_
            refine g_iconst X291 hx (hb hby at_326) (pc' := 327) rfl (z := (1 : Int32)) rfl ?_
            refine g_caload X291 hx hZ e291 f295 (i := 1) (v := (.int u1)) (hb hby at_327) (pc' := 328) rfl (by decide) rfl rfl ?_
            refine g_istore X291 hx (hb hby at_328) (pc' := 330) rfl (Ls' := #[.val (.int p0), .val (.int p1), .val (.int p2), .val (.int p3), .val (.int p4), .val (.int p5), .val (.int fi), .val (.int la), .val (.int mi), .val (.int md), .val (.int nn), .val (.int u0), .val (.int u1), .val (.int l0), .val (.int l1), .val (.int m0), .val (.int m1), .val (.ref b282), .val (.ref b282), .val (.ref b282), .val (.int (0 : Int32)), .val (.int (0 : Int32)), .val (.int z0), .val (.int z1), .val (.int u0), .val (.int u1), .unset, .unset, .unset, .unset, .unset, .unset, .unset]) rfl ?_
            refine g_aload X291 hx (hb hby at_330) (pc' := 332) rfl rfl rfl ?_
            refine g_iconst X291 hx (hb hby at_332) (pc' := 333) rfl (z := (0 : Int32)) rfl ?_
            refine g_caload X291 hx hZ e291 f295 (i := 0) (v := (.int u0)) (hb hby at_333) (pc' := 334) rfl (by decide) rfl rfl ?_
            refine g_istore X291 hx (hb hby at_334) (pc' := 336) rfl (Ls' := #[.val (.int p0), .val (.int p1), .val (.int p2), .val (.int p3), .val (.int p4), .val (.int p5), .val (.int fi), .val (.int la), .val (.int mi), .val (.int md), .val (.int nn), .val (.int u0), .val (.int u1), .val (.int l0), .val (.int l1), .val (.int m0), .val (.int m1), .val (.ref b282), .val (.ref b282), .val (.ref b282), .val (.int (0 : Int32)), .val (.int (0 : Int32)), .val (.int z0), .val (.int z1), .val (.int u0), .val (.int u1), .val (.int u0), .unset, .unset, .unset, .unset, .unset, .unset]) rfl ?_
            refine g_aload X291 hx (hb hby at_336) (pc' := 338) rfl rfl rfl ?_
            refine g_iconst X291 hx (hb hby at_338) (pc' := 339) rfl (z := (1 : Int32)) rfl ?_
            refine g_caload X291 hx hZ e291 f295 (i := 1) (v := (.int u1)) (hb hby at_339) (pc' := 340) rfl (by decide) rfl rfl ?_
            refine g_istore X291 hx (hb hby at_340) (pc' := 342) rfl (Ls' := #[.val (.int p0), .val (.int p1), .val (.int p2), .val (.int p3), .val (.int p4), .val (.int p5), .val (.int fi), .val (.int la), .val (.int mi), .val (.int md), .val (.int nn), .val (.int u0), .val (.int u1), .val (.int l0), .val (.int l1), .val (.int m0), .val (.int m1), .val (.ref b282), .val (.ref b282), .val (.ref b282), .val (.int (0 : Int32)), .val (.int (0 : Int32)), .val (.int z0), .val (.int z1), .val (.int u0), .val (.int u1), .val (.int u0), .val (.int u1), .unset, .unset, .unset, .unset, .unset]) rfl ?_
            obtain ⟨T555, h555, X555, e555, E555, A555, D555, -, st555⟩ := newO X291 hx hZ hown (hw _ (List.mem_of_getElem? (i := 10) rfl)) (hw _ (List.mem_of_getElem? (i := 11) rfl)) (hw _ (List.mem_of_getElem? (i := 12) rfl)) e291 (g := (mkF m 342 #[.val (.int p0), .val (.int p1), .val (.int p2), .val (.int p3), .val (.int p4), .val (.int p5), .val (.int fi), .val (.int la), .val (.int mi), .val (.int md), .val (.int nn), .val (.int u0), .val (.int u1), .val (.int l0), .val (.int l1), .val (.int m0), .val (.int m1), .val (.ref b282), .val (.ref b282), .val (.ref b282), .val (.int (0 : Int32)), .val (.int (0 : Int32)), .val (.int z0), .val (.int z1), .val (.int u0), .val (.int u1), .val (.int u0), .val (.int u1), .unset, .unset, .unset, .unset, .unset] [])) rfl (hb hby at_342) (by decide) (by decide)
            obtain ⟨b555, g555⟩ : ∃ z, z = h291.size := ⟨_, rfl⟩
            rw [← g555] at A555 D555 st555
            have ne556 : b282 ≠ b555 := Nat.ne_of_lt (g555 ▸ f292.lt)
            have ge557 : n0 ≤ b555 := g555 ▸ Z293
            have f558 := Exa.ext E555 f292
            have f559 := f295.ext E555
            have Z560 : n0 ≤ h555.size := Nat.le_trans Z293 E555.1
            have f561 : Fld Z h555 b555 "com/example/needlework/needlework/PackedBlock" "first" "I" (.int (0 : Int32)) := D555 (Or.inr (hw _ (List.mem_of_getElem? (i := 25) rfl))) (ty := .int) (by decide)
            have f562 : Fld Z h555 b555 "com/example/needlework/needlework/PackedBlock" "last" "I" (.int (0 : Int32)) := D555 (Or.inr (hw _ (List.mem_of_getElem? (i := 27) rfl))) (ty := .int) (by decide)
            have f563 : Fld Z h555 b555 "com/example/needlework/needlework/PackedBlock" "middle" "I" (.int (0 : Int32)) := D555 (Or.inr (hw _ (List.mem_of_getElem? (i := 29) rfl))) (ty := .int) (by decide)
            have f564 : Fld Z h555 b555 "com/example/needlework/needlework/PackedBlock" "lastOffset" "I" (.int (0 : Int32)) := D555 (Or.inr (hw _ (List.mem_of_getElem? (i := 31) rfl))) (ty := .int) (by decide)
            have f565 : Fld Z h555 b555 "com/example/needlework/needlework/PackedBlock" "middleOffset" "I" (.int (0 : Int32)) := D555 (Or.inr (hw _ (List.mem_of_getElem? (i := 33) rfl))) (ty := .int) (by decide)
            have f566 : Fld Z h555 b555 "com/example/needlework/needlework/PackedBlock" "units" "Ljava/lang/Object;" .null := D555 (Or.inl (hw _ (List.mem_of_getElem? (i := 36) rfl))) (ty := (.object "java/lang/Object")) (by decide)
            have f567 : Fld Z h555 b555 "com/example/needlework/needlework/PackedBlock" "lasts" "Ljava/lang/Object;" .null := D555 (Or.inl (hw _ (List.mem_of_getElem? (i := 39) rfl))) (ty := (.object "java/lang/Object")) (by decide)
            have f568 : Fld Z h555 b555 "com/example/needlework/needlework/PackedBlock" "middles" "Ljava/lang/Object;" .null := D555 (Or.inl (hw _ (List.mem_of_getElem? (i := 42) rfl))) (ty := (.object "java/lang/Object")) (by decide)
            refine Go.movp st555 (mkF m 345 #[.val (.int p0), .val (.int p1), .val (.int p2), .val (.int p3), .val (.int p4), .val (.int p5), .val (.int fi), .val (.int la), .val (.int mi), .val (.int md), .val (.int nn), .val (.int u0), .val (.int u1), .val (.int l0), .val (.int l1), .val (.int m0), .val (.int m1), .val (.ref b282), .val (.ref b282), .val (.ref b282), .val (.int (0 : Int32)), .val (.int (0 : Int32)), .val (.int z0), .val (.int z1), .val (.int u0), .val (.int u1), .val (.int u0), .val (.int u1), .unset, .unset, .unset, .unset, .unset] [(.ref b555)]) rfl ?_
            refine g_dup X555 hx (hb hby at_345) (pc' := 346) rfl rfl ?_
            refine g_iload X555 hx (hb hby at_346) (pc' := 348) rfl rfl ?_
            refine g_iload X555 hx (hb hby at_348) (pc' := 350) rfl rfl ?_
            refine g_iload X555 hx (hb hby at_350) (pc' := 352) rfl rfl ?_
            refine g_iload X555 hx (hb hby at_352) (pc' := 354) rfl rfl ?_
            refine g_iload X555 hx (hb hby at_354) (pc' := 356) rfl rfl ?_
            obtain ⟨v569, T569, h569, L569, X569, e569, N569, q569, st569⟩ := h_special (a := b555) X555 hx (W := 1) (Ls := #[.val (.int p0), .val (.int p1), .val (.int p2), .val (.int p3), .val (.int p4), .val (.int p5), .val (.int fi), .val (.int la), .val (.int mi), .val (.int md), .val (.int nn), .val (.int u0), .val (.int u1), .val (.int l0), .val (.int l1), .val (.int m0), .val (.int m1), .val (.ref b282), .val (.ref b282), .val (.ref b282), .val (.int (0 : Int32)), .val (.int (0 : Int32)), .val (.int z0), .val (.int z1), .val (.int u0), .val (.int u1), .val (.int u0), .val (.int u1), .unset, .unset, .unset, .unset, .unset]) (argsL := [(.int fi), (.int la), (.int mi), (.int (0 : Int32)), (.int (0 : Int32))]) (rest := [(.ref b555)]) hZ e555 N291 hml hown rfl (rm3 l Z a0 hw b555 fi la mi (0 : Int32) (0 : Int32) h555 n0 Z560 f561 f562 f563 f564 f565 f566 f567 f568 A555 ge557) (hw _ (List.mem_of_getElem? (i := 13) rfl)) (hw _ (List.mem_of_getElem? (i := 14) rfl)) (hw _ (List.mem_of_getElem? (i := 12) rfl)) (hw _ (List.mem_of_getElem? (i := 15) rfl)) (by decide) pd__CCCII_V rfl rfl (hb hby at_356) rfl (by decide) (by decide) (by decide) (by decide)
            obtain ⟨rfl, K569, A569, C0_569, C1_569, C2_569, C3_569, C4_569, C5_569, C6_569, C7_569⟩ := q569
            have f570 := f558.keep K569
            have f571 := f559.keep K569 (ninS ne556 nin0)
            have f572 := A555.keep K569
            have Z573 : n0 ≤ h569.size := Nat.le_trans Z560 K569.1
            refine Go.movp st569 (mkF m 359 #[.val (.int p0), .val (.int p1), .val (.int p2), .val (.int p3), .val (.int p4), .val (.int p5), .val (.int fi), .val (.int la), .val (.int mi), .val (.int md), .val (.int nn), .val (.int u0), .val (.int u1), .val (.int l0), .val (.int l1), .val (.int m0), .val (.int m1), .val (.ref b282), .val (.ref b282), .val (.ref b282), .val (.int (0 : Int32)), .val (.int (0 : Int32)), .val (.int z0), .val (.int z1), .val (.int u0), .val (.int u1), .val (.int u0), .val (.int u1), .unset, .unset, .unset, .unset, .unset] [(.ref b555)]) rfl ?_
            refine g_astore X569 hx (hb hby at_359) (pc' := 361) rfl rfl (Ls' := #[.val (.int p0), .val (.int p1), .val (.int p2), .val (.int p3), .val (.int p4), .val (.int p5), .val (.int fi), .val (.int la), .val (.int mi), .val (.int md), .val (.int nn), .val (.int u0), .val (.int u1), .val (.int l0), .val (.int l1), .val (.int m0), .val (.int m1), .val (.ref b282), .val (.ref b282), .val (.ref b282), .val (.int (0 : Int32)), .val (.int (0 : Int32)), .val (.int z0), .val (.int z1), .val (.int u0), .val (.int u1), .val (.int u0), .val (.int u1), .val (.ref b555), .unset, .unset, .unset, .unset]) rfl ?_
            refine g_aload X569 hx (hb hby at_361) (pc' := 363) rfl rfl rfl ?_
            refine g_aload X569 hx (hb hby at_363) (pc' := 365) rfl rfl rfl ?_
            obtain ⟨T574, h574, X574, e574, W574, st574⟩ := putF X569 hx hZ hown (host := "") (Or.inl (hw _ (List.mem_of_getElem? (i := 34) rfl))) (Via.of (hw _ (List.mem_of_getElem? (i := 35) rfl))) e569 C5_569 A569 (Or.inl (hw _ (List.mem_of_getElem? (i := 36) rfl))) (hw _ (List.mem_of_getElem? (i := 11) rfl)) (ty := (.object "java/lang/Object")) (by decide) rfl rfl (g := (mkF m 365 #[.val (.int p0), .val (.int p1), .val (.int p2), .val (.int p3), .val (.int p4), .val (.int p5), .val (.int fi), .val (.int la), .val (.int mi), .val (.int md), .val (.int nn), .val (.int u0), .val (.int u1), .val (.int l0), .val (.int l1), .val (.int m0), .val (.int m1), .val (.ref b282), .val (.ref b282), .val (.ref b282), .val (.int (0 : Int32)), .val (.int (0 : Int32)), .val (.int z0), .val (.int z1), .val (.int u0), .val (.int u1), .val (.int u0), .val (.int u1), .val (.ref b555), .unset, .unset, .unset, .unset] [(.ref b282), (.ref b555)])) rfl rfl (hb hby at_365)
            have f575 : Fld Z h574 b555 "com/example/needlework/needlework/PackedBlock" "units" "Ljava/lang/Object;" (.ref b282) := Fld.same W574 C5_569
            have N574 := Fr.snoc X574 N569 ge557
            have f576 := Exa.wr W574 f570
            have f577 := f571.other W574 ne556
            have f578 := Exa.wr W574 A569
            have f579 := Fld.other W574 C0_569 (Or.inr (slot_ne (Or.inr (hw _ (List.mem_of_getElem? (i := 25) rfl))) (Or.inl (hw _ (List.mem_of_getElem? (i := 36) rfl))) (by decide) (t := .int) (t' := (.object "java/lang/Object")) (by decide) (by decide)))
            have f580 := Fld.other W574 C1_569 (Or.inr (slot_ne (Or.inr (hw _ (List.mem_of_getElem? (i := 27) rfl))) (Or.inl (hw _ (List.mem_of_getElem? (i := 36) rfl))) (by decide) (t := .int) (t' := (.object "java/lang/Object")) (by decide) (by decide)))
            have f581 := Fld.other W574 C2_569 (Or.inr (slot_ne (Or.inr (hw _ (List.mem_of_getElem? (i := 29) rfl))) (Or.inl (hw _ (List.mem_of_getElem? (i := 36) rfl))) (by decide) (t := .int) (t' := (.object "java/lang/Object")) (by decide) (by decide)))
            have f582 := Fld.other W574 C3_569 (Or.inr (slot_ne (Or.inr (hw _ (List.mem_of_getElem? (i := 31) rfl))) (Or.inl (hw _ (List.mem_of_getElem? (i := 36) rfl))) (by decide) (t := .int) (t' := (.object "java/lang/Object")) (by decide) (by decide)))
            have f583 := Fld.other W574 C4_569 (Or.inr (slot_ne (Or.inr (hw _ (List.mem_of_getElem? (i := 33) rfl))) (Or.inl (hw _ (List.mem_of_getElem? (i := 36) rfl))) (by decide) (t := .int) (t' := (.object "java/lang/Object")) (by decide) (by decide)))
            have f584 := Fld.other W574 C6_569 (Or.inr (slot_ne (Or.inl (hw _ (List.mem_of_getElem? (i := 39) rfl))) (Or.inl (hw _ (List.mem_of_getElem? (i := 36) rfl))) (by decide) (t := (.object "java/lang/Object")) (t' := (.object "java/lang/Object")) (by decide) (by decide)))
            have f585 := Fld.other W574 C7_569 (Or.inr (slot_ne (Or.inl (hw _ (List.mem_of_getElem? (i := 42) rfl))) (Or.inl (hw _ (List.mem_of_getElem? (i := 36) rfl))) (by decide) (t := (.object "java/lang/Object")) (t' := (.object "java/lang/Object")) (by decide) (by decide)))
            have Z586 : n0 ≤ h574.size := Nat.le_trans Z573 (Keep.of_wr W574).1
            refine Go.movp st574 (mkF m 368 #[.val (.int p0), .val (.int p1), .val (.int p2), .val (.int p3), .val (.int p4), .val (.int p5), .val (.int fi), .val (.int la), .val (.int mi), .val (.int md), .val (.int nn), .val (.int u0), .val (.int u1), .val (.int l0), .val (.int l1), .val (.int m0), .val (.int m1), .val (.ref b282), .val (.ref b282), .val (.ref b282), .val (.int (0 : Int32)), .val (.int (0 : Int32)), .val (.int z0), .val (.int z1), .val (.int u0), .val (.int u1), .val (.int u0), .val (.int u1), .val (.ref b555), .unset, .unset, .unset, .unset] []) rfl ?_
            refine g_aload X574 hx (hb hby at_368) (pc' := 370) rfl rfl rfl ?_
            refine g_aload X574 hx (hb hby at_370) (pc' := 372) rfl rfl rfl ?_
            obtain ⟨T587, h587, X587, e587, W587, st587⟩ := putF X574 hx hZ hown (host := "") (Or.inl (hw _ (List.mem_of_getElem? (i := 37) rfl))) (Via.of (hw _ (List.mem_of_getElem? (i := 38) rfl))) e574 f584 f578 (Or.inl (hw _ (List.mem_of_getElem? (i := 39) rfl))) (hw _ (List.mem_of_getElem? (i := 11) rfl)) (ty := (.object "java/lang/Object")) (by decide) rfl rfl (g := (mkF m 372 #[.val (.int p0), .val (.int p1), .val (.int p2), .val (.int p3), .val (.int p4), .val (.int p5), .val (.int fi), .val (.int la), .val (.int mi), .val (.int md), .val (.int nn), .val (.int u0), .val (.int u1), .val (.int l0), .val (.int l1), .val (.int m0), .val (.int m1), .val (.ref b282), .val (.ref b282), .val (.ref b282), .val (.int (0 : Int32)), .val (.int (0 : Int32)), .val (.int z0), .val (.int z1), .val (.int u0), .val (.int u1), .val (.int u0), .val (.int u1), .val (.ref b555), .unset, .unset, .unset, .unset] [(.ref b282), (.ref b555)])) rfl rfl (hb hby at_372)
            have f588 : Fld Z h587 b555 "com/example/needlework/needlework/PackedBlock" "lasts" "Ljava/lang/Object;" (.ref b282) := Fld.same W587 f584
            have N587 := Fr.snoc X587 N574 ge557
            have f589 := Exa.wr W587 f576
            have f590 := f577.other W587 ne556
            have f591 := Exa.wr W587 f578
            have f592 := Fld.other W587 f579 (Or.inr (slot_ne (Or.inr (hw _ (List.mem_of_getElem? (i := 25) rfl))) (Or.inl (hw _ (List.mem_of_getElem? (i := 39) rfl))) (by decide) (t := .int) (t' := (.object "java/lang/Object")) (by decide) (by decide)))
            have f593 := Fld.other W587 f580 (Or.inr (slot_ne (Or.inr (hw _ (List.mem_of_getElem? (i := 27) rfl))) (Or.inl (hw _ (List.mem_of_getElem? (i := 39) rfl))) (by decide) (t := .int) (t' := (.object "java/lang/Object")) (by decide) (by decide)))
            have f594 := Fld.other W587 f581 (Or.inr (slot_ne (Or.inr (hw _ (List.mem_of_getElem? (i := 29) rfl))) (Or.inl (hw _ (List.mem_of_getElem? (i := 39) rfl))) (by decide) (t := .int) (t' := (.object "java/lang/Object")) (by decide) (by decide)))
            have f595 := Fld.other W587 f582 (Or.inr (slot_ne (Or.inr (hw _ (List.mem_of_getElem? (i := 31) rfl))) (Or.inl (hw _ (List.mem_of_getElem? (i := 39) rfl))) (by decide) (t := .int) (t' := (.object "java/lang/Object")) (by decide) (by decide)))
            have f596 := Fld.other W587 f583 (Or.inr (slot_ne (Or.inr (hw _ (List.mem_of_getElem? (i := 33) rfl))) (Or.inl (hw _ (List.mem_of_getElem? (i := 39) rfl))) (by decide) (t := .int) (t' := (.object "java/lang/Object")) (by decide) (by decide)))
            have f597 := Fld.other W587 f585 (Or.inr (slot_ne (Or.inl (hw _ (List.mem_of_getElem? (i := 42) rfl))) (Or.inl (hw _ (List.mem_of_getElem? (i := 39) rfl))) (by decide) (t := (.object "java/lang/Object")) (t' := (.object "java/lang/Object")) (by decide) (by decide)))
            have f598 := Fld.other W587 f575 (Or.inr (slot_ne (Or.inl (hw _ (List.mem_of_getElem? (i := 36) rfl))) (Or.inl (hw _ (List.mem_of_getElem? (i := 39) rfl))) (by decide) (t := (.object "java/lang/Object")) (t' := (.object "java/lang/Object")) (by decide) (by decide)))
            have Z599 : n0 ≤ h587.size := Nat.le_trans Z586 (Keep.of_wr W587).1
            refine Go.movp st587 (mkF m 375 #[.val (.int p0), .val (.int p1), .val (.int p2), .val (.int p3), .val (.int p4), .val (.int p5), .val (.int fi), .val (.int la), .val (.int mi), .val (.int md), .val (.int nn), .val (.int u0), .val (.int u1), .val (.int l0), .val (.int l1), .val (.int m0), .val (.int m1), .val (.ref b282), .val (.ref b282), .val (.ref b282), .val (.int (0 : Int32)), .val (.int (0 : Int32)), .val (.int z0), .val (.int z1), .val (.int u0), .val (.int u1), .val (.int u0), .val (.int u1), .val (.ref b555), .unset, .unset, .unset, .unset] []) rfl ?_
            refine g_aload X587 hx (hb hby at_375) (pc' := 377) rfl rfl rfl ?_
            refine g_aload X587 hx (hb hby at_377) (pc' := 379) rfl rfl rfl ?_
            obtain ⟨T600, h600, X600, e600, W600, st600⟩ := putF X587 hx hZ hown (host := "") (Or.inl (hw _ (List.mem_of_getElem? (i := 40) rfl))) (Via.of (hw _ (List.mem_of_getElem? (i := 41) rfl))) e587 f597 f591 (Or.inl (hw _ (List.mem_of_getElem? (i := 42) rfl))) (hw _ (List.mem_of_getElem? (i := 11) rfl)) (ty := (.object "java/lang/Object")) (by decide) rfl rfl (g := (mkF m 379 #[.val (.int p0), .val (.int p1), .val (.int p2), .val (.int p3), .val (.int p4), .val (.int p5), .val (.int fi), .val (.int la), .val (.int mi), .val (.int md), .val (.int nn), .val (.int u0), .val (.int u1), .val (.int l0), .val (.int l1), .val (.int m0), .val (.int m1), .val (.ref b282), .val (.ref b282), .val (.ref b282), .val (.int (0 : Int32)), .val (.int (0 : Int32)), .val (.int z0), .val (.int z1), .val (.int u0), .val (.int u1), .val (.int u0), .val (.int u1), .val (.ref b555), .unset, .unset, .unset, .unset] [(.ref b282), (.ref b555)])) rfl rfl (hb hby at_379)
            have f601 : Fld Z h600 b555 "com/example/needlework/needlework/PackedBlock" "middles" "Ljava/lang/Object;" (.ref b282) := Fld.same W600 f597
            have N600 := Fr.snoc X600 N587 ge557
            have f602 := Exa.wr W600 f589
            have f603 := f590.other W600 ne556
            have f604 := Exa.wr W600 f591
            have f605 := Fld.other W600 f592 (Or.inr (slot_ne (Or.inr (hw _ (List.mem_of_getElem? (i := 25) rfl))) (Or.inl (hw _ (List.mem_of_getElem? (i := 42) rfl))) (by decide) (t := .int) (t' := (.object "java/lang/Object")) (by decide) (by decide)))
            have f606 := Fld.other W600 f593 (Or.inr (slot_ne (Or.inr (hw _ (List.mem_of_getElem? (i := 27) rfl))) (Or.inl (hw _ (List.mem_of_getElem? (i := 42) rfl))) (by decide) (t := .int) (t' := (.object "java/lang/Object")) (by decide) (by decide)))
            have f607 := Fld.other W600 f594 (Or.inr (slot_ne (Or.inr (hw _ (List.mem_of_getElem? (i := 29) rfl))) (Or.inl (hw _ (List.mem_of_getElem? (i := 42) rfl))) (by decide) (t := .int) (t' := (.object "java/lang/Object")) (by decide) (by decide)))
            have f608 := Fld.other W600 f595 (Or.inr (slot_ne (Or.inr (hw _ (List.mem_of_getElem? (i := 31) rfl))) (Or.inl (hw _ (List.mem_of_getElem? (i := 42) rfl))) (by decide) (t := .int) (t' := (.object "java/lang/Object")) (by decide) (by decide)))
            have f609 := Fld.other W600 f596 (Or.inr (slot_ne (Or.inr (hw _ (List.mem_of_getElem? (i := 33) rfl))) (Or.inl (hw _ (List.mem_of_getElem? (i := 42) rfl))) (by decide) (t := .int) (t' := (.object "java/lang/Object")) (by decide) (by decide)))
            have f610 := Fld.other W600 f598 (Or.inr (slot_ne (Or.inl (hw _ (List.mem_of_getElem? (i := 36) rfl))) (Or.inl (hw _ (List.mem_of_getElem? (i := 42) rfl))) (by decide) (t := (.object "java/lang/Object")) (t' := (.object "java/lang/Object")) (by decide) (by decide)))
            have f611 := Fld.other W600 f588 (Or.inr (slot_ne (Or.inl (hw _ (List.mem_of_getElem? (i := 39) rfl))) (Or.inl (hw _ (List.mem_of_getElem? (i := 42) rfl))) (by decide) (t := (.object "java/lang/Object")) (t' := (.object "java/lang/Object")) (by decide) (by decide)))
            have Z612 : n0 ≤ h600.size := Nat.le_trans Z599 (Keep.of_wr W600).1
            refine Go.movp st600 (mkF m 382 #[.val (.int p0), .val (.int p1), .val (.int p2), .val (.int p3), .val (.int p4), .val (.int p5), .val (.int fi), .val (.int la), .val (.int mi), .val (.int md), .val (.int nn), .val (.int u0), .val (.int u1), .val (.int l0), .val (.int l1), .val (.int m0), .val (.int m1), .val (.ref b282), .val (.ref b282), .val (.ref b282), .val (.int (0 : Int32)), .val (.int (0 : Int32)), .val (.int z0), .val (.int z1), .val (.int u0), .val (.int u1), .val (.int u0), .val (.int u1), .val (.ref b555), .unset, .unset, .unset, .unset] []) rfl ?_
            refine g_aload X600 hx (hb hby at_382) (pc' := 384) rfl rfl rfl ?_
            refine g_iload X600 hx (hb hby at_384) (pc' := 386) rfl rfl ?_
            obtain ⟨w0, hw0⟩ : ∃ z : Int32, z = (if (0 : Int32) < nn then (mkV u0 u0 u0 fi la mi) else u0) := ⟨_, rfl⟩
            obtain ⟨w1, hw1⟩ : ∃ z : Int32, z = (if (1 : Int32) < nn then (mkV u1 u1 u1 fi la mi) else u1) := ⟨_, rfl⟩
            have hm0 := own_mk bu0 bu0 bu0 bfi bla bmi
            have hm1 := own_mk bu1 bu1 bu1 bfi bla bmi
            obtain ⟨v613, T613, h613, L613, X613, e613, N613, q613, st613⟩ := h_virtual (a := b555) (z := (⟨"com/example/needlework/needlework/PackedBlock$Chars", "mark", "(I)V"⟩ : MethodName)) X600 hx (W := 0) (Ls := #[.val (.int p0), .val (.int p1), .val (.int p2), .val (.int p3), .val (.int p4), .val (.int p5), .val (.int fi), .val (.int la), .val (.int mi), .val (.int md), .val (.int nn), .val (.int u0), .val (.int u1), .val (.int l0), .val (.int l1), .val (.int m0), .val (.int m1), .val (.ref b282), .val (.ref b282), .val (.ref b282), .val (.int (0 : Int32)), .val (.int (0 : Int32)), .val (.int z0), .val (.int z1), .val (.int u0), .val (.int u1), .val (.int u0), .val (.int u1), .val (.ref b555), .unset, .unset, .unset, .unset]) (argsL := [(.int nn)]) (rest := []) hZ e600 N600 hml hown (rm6_1 l Z a0 hw b555 b282 u0 u1 fi la mi nn w0 w1 h600 n0 Z612 f610 f611 f601 f605 f606 f607 f603 f602 ge283  (Ne.symm ne556) hnn hw0 hw1) f604 (hw _ (List.mem_of_getElem? (i := 43) rfl)) (hw _ (List.mem_of_getElem? (i := 44) rfl)) (notFace_of_selects (args := #[]) (mvT hZ (hw _ (List.mem_of_getElem? (i := 46) rfl)))) (hw _ (List.mem_of_getElem? (i := 46) rfl)) (hw _ (List.mem_of_getElem? (i := 45) rfl)) (hw _ (List.mem_of_getElem? (i := 12) rfl)) (hw _ (List.mem_of_getElem? (i := 47) rfl)) (by decide) pd__I_V rfl rfl (hb hby at_386) rfl (by decide) (by decide) (by decide) (by decide)
            obtain ⟨rfl, K613, V613⟩ := q613
            have f614 := f602.keep K613
            have f615 := f604.keep K613
            have f616 := f605.keep K613 (ninS (Ne.symm ne556) nin0)
            have f617 := f606.keep K613 (ninS (Ne.symm ne556) nin0)
            have f618 := f607.keep K613 (ninS (Ne.symm ne556) nin0)
            have f619 := f608.keep K613 (ninS (Ne.symm ne556) nin0)
            have f620 := f609.keep K613 (ninS (Ne.symm ne556) nin0)
            have f621 := f610.keep K613 (ninS (Ne.symm ne556) nin0)
            have f622 := f611.keep K613 (ninS (Ne.symm ne556) nin0)
            have f623 := f601.keep K613 (ninS (Ne.symm ne556) nin0)
            have Z624 : n0 ≤ h613.size := Nat.le_trans Z612 K613.1
            refine Go.movp st613 (mkF m 389 #[.val (.int p0), .val (.int p1), .val (.int p2), .val (.int p3), .val (.int p4), .val (.int p5), .val (.int fi), .val (.int la), .val (.int mi), .val (.int md), .val (.int nn), .val (.int u0), .val (.int u1), .val (.int l0), .val (.int l1), .val (.int m0), .val (.int m1), .val (.ref b282), .val (.ref b282), .val (.ref b282), .val (.int (0 : Int32)), .val (.int (0 : Int32)), .val (.int z0), .val (.int z1), .val (.int u0), .val (.int u1), .val (.int u0), .val (.int u1), .val (.ref b555), .unset, .unset, .unset, .unset] []) rfl ?_
            have J625 : Go p e below (EndF s room_1.cells room_1.slots) n0 (Q0 Z p0 p1 p2 p3 p4 p5 h0 n0) T613 (mkF m 434 #[.val (.int p0), .val (.int p1), .val (.int p2), .val (.int p3), .val (.int p4), .val (.int p5), .val (.int fi), .val (.int la), .val (.int mi), .val (.int md), .val (.int nn), .val (.int u0), .val (.int u1), .val (.int l0), .val (.int l1), .val (.int m0), .val (.int m1), .val (.ref b282), .val (.ref b282), .val (.ref b282), .val (.int (0 : Int32)), .val (.int (0 : Int32)), .val (.int z0), .val (.int z1), .val (.int u0), .val (.int u1), .val (.int u0), .val (.int u1), .val (.ref b555), .unset, .unset, .unset, .unset] [(.int (1 : Int32))]) := by
              refine g_istore X613 hx (hb hby at_434) (pc' := 436) rfl (Ls' := #[.val (.int p0), .val (.int p1), .val (.int p2), .val (.int p3), .val (.int p4), .val (.int p5), .val (.int fi), .val (.int la), .val (.int mi), .val (.int md), .val (.int nn), .val (.int u0), .val (.int u1), .val (.int l0), .val (.int l1), .val (.int m0), .val (.int m1), .val (.ref b282), .val (.ref b282), .val (.ref b282), .val (.int (0 : Int32)), .val (.int (0 : Int32)), .val (.int z0), .val (.int z1), .val (.int u0), .val (.int u1), .val (.int u0), .val (.int u1), .val (.ref b555), .val (.int (1 : Int32)), .unset, .unset, .unset]) rfl ?_
              have J626 : Go p e below (EndF s room_1.cells room_1.slots) n0 (Q0 Z p0 p1 p2 p3 p4 p5 h0 n0) T613 (mkF m 482 #[.val (.int p0), .val (.int p1), .val (.int p2), .val (.int p3), .val (.int p4), .val (.int p5), .val (.int fi), .val (.int la), .val (.int mi), .val (.int md), .val (.int nn), .val (.int u0), .val (.int u1), .val (.int l0), .val (.int l1), .val (.int m0), .val (.int m1), .val (.ref b282), .val (.ref b282), .val (.ref b282), .val (.int (0 : Int32)), .val (.int (0 : Int32)), .val (.int z0), .val (.int z1), .val (.int u0), .val (.int u1), .val (.int u0), .val (.int u1), .val (.ref b555), .val (.int (1 : Int32)), .unset, .unset, .unset] [(.int (1 : Int32))]) := by
                refine g_istore X613 hx (hb hby at_482) (pc' := 484) rfl (Ls' := #[.val (.int p0), .val (.int p1), .val (.int p2), .val (.int p3), .val (.int p4), .val (.int p5), .val (.int fi), .val (.int la), .val (.int mi), .val (.int md), .val (.int nn), .val (.int u0), .val (.int u1), .val (.int l0), .val (.int l1), .val (.int m0), .val (.int m1), .val (.ref b282), .val (.ref b282), .val (.ref b282), .val (.int (0 : Int32)), .val (.int (0 : Int32)), .val (.int z0), .val (.int z1), .val (.int u0), .val (.int u1), .val (.int u0), .val (.int u1), .val (.ref b555), .val (.int (1 : Int32)), .val (.int (1 : Int32)), .unset, .unset]) rfl ?_
                refine g_iconst X613 hx (hb hby at_484) (pc' := 485) rfl (z := (1 : Int32)) rfl ?_
                refine g_istore X613 hx (hb hby at_485) (pc' := 487) rfl (Ls' := #[.val (.int p0), .val (.int p1), .val (.int p2), .val (.int p3), .val (.int p4), .val (.int p5), .val (.int fi), .val (.int la), .val (.int mi), .val (.int md), .val (.int nn), .val (.int u0), .val (.int u1), .val (.int l0), .val (.int l1), .val (.int m0), .val (.int m1), .val (.ref b282), .val (.ref b282), .val (.ref b282), .val (.int (0 : Int32)), .val (.int (0 : Int32)), .val (.int z0), .val (.int z1), .val (.int u0), .val (.int u1), .val (.int u0), .val (.int u1), .val (.ref b555), .val (.int (1 : Int32)), .val (.int (1 : Int32)), .val (.int (1 : Int32)), .unset]) rfl ?_
                refine g_iload X613 hx (hb hby at_487) (pc' := 489) rfl rfl ?_
                refine g_iconst X613 hx (hb hby at_489) (pc' := 490) rfl (z := (1 : Int32)) rfl ?_
                refine g_icmp_eq X613 hx (hb hby at_490) (pc1 := 493) rfl (by decide) (pc2 := 518) (by decide) (fun hc490 => ?_) (fun hc490 => absurd hc160 hc490)
                refine g_iconst X613 hx (hb hby at_518) (pc' := 519) rfl (z := (1 : Int32)) rfl ?_
                refine g_istore X613 hx (hb hby at_519) (pc' := 521) rfl (Ls' := #[.val (.int p0), .val (.int p1), .val (.int p2), .val (.int p3), .val (.int p4), .val (.int p5), .val (.int fi), .val (.int la), .val (.int mi), .val (.int md), .val (.int nn), .val (.int u0), .val (.int u1), .val (.int l0), .val (.int l1), .val (.int m0), .val (.int m1), .val (.ref b282), .val (.ref b282), .val (.ref b282), .val (.int (0 : Int32)), .val (.int (0 : Int32)), .val (.int z0), .val (.int z1), .val (.int u0), .val (.int u1), .val (.int u0), .val (.int u1), .val (.ref b555), .val (.int (1 : Int32)), .val (.int (1 : Int32)), .val (.int (1 : Int32)), .val (.int (1 : Int32))]) rfl ?_
                refine g_iload X613 hx (hb hby at_521) (pc' := 523) rfl rfl ?_
                refine g_if_eq X613 hx (hb hby at_523) (pc1 := 526) rfl (by decide) (pc2 := 532) (by decide) (fun hc523 => absurd hc523 (by rw [hc160]; decide)) (fun hc523 => ?_)
                refine g_iload X613 hx (hb hby at_526) (pc' := 528) rfl rfl ?_
                refine g_iconst X613 hx (hb hby at_528) (pc' := 529) rfl (z := (3 : Int32)) rfl ?_
                refine g_icmp_ne X613 hx (hb hby at_529) (pc1 := 532) rfl (by decide) (pc2 := 557) (by decide) (fun hc529 => ?_) (fun hc529 => absurd hc529 (by rw [hc160]; decide))
                refine g_iload X613 hx (hb hby at_557) (pc' := 559) rfl rfl ?_
                refine g_if_eq X613 hx (hb hby at_559) (pc1 := 562) rfl (by decide) (pc2 := 581) (by decide) (fun hc559 => absurd hc559 (by decide)) (fun hc559 => ?_)
                refine g_iload X613 hx (hb hby at_562) (pc' := 564) rfl rfl ?_
                refine g_if_eq X613 hx (hb hby at_564) (pc1 := 567) rfl (by decide) (pc2 := 581) (by decide) (fun hc564 => absurd hc564 (by decide)) (fun hc564 => ?_)
                refine g_iload X613 hx (hb hby at_567) (pc' := 569) rfl rfl ?_
                refine g_if_eq X613 hx (hb hby at_569) (pc1 := 572) rfl (by decide) (pc2 := 581) (by decide) (fun hc569 => absurd hc569 (by decide)) (fun hc569 => ?_)
                refine g_iload X613 hx (hb hby at_572) (pc' := 574) rfl rfl ?_
                refine g_if_eq X613 hx (hb hby at_574) (pc1 := 577) rfl (by decide) (pc2 := 581) (by decide) (fun hc574 => absurd hc574 (by decide)) (fun hc574 => ?_)
                refine g_iconst X613 hx (hb hby at_577) (pc' := 578) rfl (z := (1 : Int32)) rfl ?_
                refine g_goto X613 hx (hb hby at_578) (by decide) (pc' := 582) (by decide) ?_
                exact g_zreturn X613 hx rfl hret (hb hby at_582) N613 hlk (fun v t => endF (by decide) (by decide) v) (by rw [e613]; exact rfl)
              refine g_iload X613 hx (hb hby at_436) (pc' := 438) rfl rfl ?_
              refine g_iconst X613 hx (hb hby at_438) (pc' := 439) rfl (z := (1 : Int32)) rfl ?_
              refine g_icmp_le X613 hx (hb hby at_439) (pc1 := 442) rfl (by decide) (pc2 := 468) (by decide) (fun hc439 => ?_) (fun hc439 => ?_)
              · skip
                refine g_aload X613 hx (hb hby at_468) (pc' := 470) rfl rfl rfl ?_
                refine g_iconst X613 hx (hb hby at_470) (pc' := 471) rfl (z := (1 : Int32)) rfl ?_
                refine g_caload X613 hx hZ e613 V613 (i := 1) (v := (.int w1)) (hb hby at_471) (pc' := 472) rfl (by decide) rfl rfl ?_
                refine g_iload X613 hx (hb hby at_472) (pc' := 474) rfl rfl ?_
                refine g_icmp_ne X613 hx (hb hby at_474) (pc1 := 477) rfl (by decide) (pc2 := 481) (by decide) (fun hc474 => absurd (hw1.trans (if_neg hc439)) hc474) (fun hc474 => ?_)
                refine g_iconst X613 hx (hb hby at_477) (pc' := 478) rfl (z := (1 : Int32)) rfl ?_
                refine g_goto X613 hx (hb hby at_478) (by decide) (pc' := 482) (by decide) ?_
                exact J626  
              · skip
                refine g_aload X613 hx (hb hby at_442) (pc' := 444) rfl rfl rfl ?_
                refine g_iconst X613 hx (hb hby at_444) (pc' := 445) rfl (z := (1 : Int32)) rfl ?_
                refine g_caload X613 hx hZ e613 V613 (i := 1) (v := (.int w1)) (hb hby at_445) (pc' := 446) rfl (by decide) rfl rfl ?_
                refine g_iload X613 hx (hb hby at_446) (pc' := 448) rfl rfl ?_
                refine g_if_eq X613 hx (hb hby at_448) (pc1 := 451) rfl (by decide) (pc2 := 456) (by decide) (fun hc448 => ?_) (fun hc448 => ?_)
                · skip
                  refine g_iconst X613 hx (hb hby at_456) (pc' := 457) rfl (z := (0 : Int32)) rfl ?_
                  refine g_icmp_ne X613 hx (hb hby at_457) (pc1 := 460) rfl (by decide) (pc2 := 464) (by decide) (fun hc457 => absurd (own_ok0 hc439 hw1 hm1 hz1 hc448) hc457) (fun hc457 => ?_)
                  refine g_iconst X613 hx (hb hby at_460) (pc' := 461) rfl (z := (1 : Int32)) rfl ?_
                  refine g_goto X613 hx (hb hby at_461) (by decide) (pc' := 482) (by decide) ?_
                  exact J626  
                · skip
                  refine g_ldc X613 hx hZ hown (hw _ (List.mem_of_getElem? (i := 60) rfl)) (hb hby at_451) (pc' := 453) rfl ?_
                  refine g_goto X613 hx (hb hby at_453) (by decide) (pc' := 457) (by decide) ?_
                  refine g_icmp_ne X613 hx (hb hby at_457) (pc1 := 460) rfl (by decide) (pc2 := 464) (by decide) (fun hc457 => absurd (own_ok1 hc439 hw1 hm1 hz1 hc448) hc457) (fun hc457 => ?_)
                  refine g_iconst X613 hx (hb hby at_460) (pc' := 461) rfl (z := (1 : Int32)) rfl ?_
                  refine g_goto X613 hx (hb hby at_461) (by decide) (pc' := 482) (by decide) ?_
                  exact J626  
            refine g_iload X613 hx (hb hby at_389) (pc' := 391) rfl rfl ?_
            refine g_if_le X613 hx (hb hby at_391) (pc1 := 394) rfl (by decide) (pc2 := 420) (by decide) (fun hc391 => ?_) (fun hc391 => ?_)
            · skip
              refine g_aload X613 hx (hb hby at_420) (pc' := 422) rfl rfl rfl ?_
              refine g_iconst X613 hx (hb hby at_422) (pc' := 423) rfl (z := (0 : Int32)) rfl ?_
              refine g_caload X613 hx hZ e613 V613 (i := 0) (v := (.int w0)) (hb hby at_423) (pc' := 424) rfl (by decide) rfl rfl ?_
              refine g_iload X613 hx (hb hby at_424) (pc' := 426) rfl rfl ?_
              refine g_icmp_ne X613 hx (hb hby at_426) (pc1 := 429) rfl (by decide) (pc2 := 433) (by decide) (fun hc426 => absurd (hw0.trans (if_neg hc391)) hc426) (fun hc426 => ?_)
              refine g_iconst X613 hx (hb hby at_429) (pc' := 430) rfl (z := (1 : Int32)) rfl ?_
              refine g_goto X613 hx (hb hby at_430) (by decide) (pc' := 434) (by decide) ?_
              exact J625  
            · skip
              refine g_aload X613 hx (hb hby at_394) (pc' := 396) rfl rfl rfl ?_
              refine g_iconst X613 hx (hb hby at_396) (pc' := 397) rfl (z := (0 : Int32)) rfl ?_
              refine g_caload X613 hx hZ e613 V613 (i := 0) (v := (.int w0)) (hb hby at_397) (pc' := 398) rfl (by decide) rfl rfl ?_
              refine g_iload X613 hx (hb hby at_398) (pc' := 400) rfl rfl ?_
              refine g_if_eq X613 hx (hb hby at_400) (pc1 := 403) rfl (by decide) (pc2 := 408) (by decide) (fun hc400 => ?_) (fun hc400 => ?_)
              · skip
                refine g_iconst X613 hx (hb hby at_408) (pc' := 409) rfl (z := (0 : Int32)) rfl ?_
                refine g_icmp_ne X613 hx (hb hby at_409) (pc1 := 412) rfl (by decide) (pc2 := 416) (by decide) (fun hc409 => absurd (own_ok0 hc391 hw0 hm0 hz0 hc400) hc409) (fun hc409 => ?_)
                refine g_iconst X613 hx (hb hby at_412) (pc' := 413) rfl (z := (1 : Int32)) rfl ?_
                refine g_goto X613 hx (hb hby at_413) (by decide) (pc' := 434) (by decide) ?_
                exact J625  
              · skip
                refine g_ldc X613 hx hZ hown (hw _ (List.mem_of_getElem? (i := 60) rfl)) (hb hby at_403) (pc' := 405) rfl ?_
                refine g_goto X613 hx (hb hby at_405) (by decide) (pc' := 409) (by decide) ?_
                refine g_icmp_ne X613 hx (hb hby at_409) (pc1 := 412) rfl (by decide) (pc2 := 416) (by decide) (fun hc409 => absurd (own_ok1 hc391 hw0 hm0 hz0 hc400) hc409) (fun hc409 => ?_)
                refine g_iconst X613 hx (hb hby at_412) (pc' := 413) rfl (z := (1 : Int32)) rfl ?_
                refine g_goto X613 hx (hb hby at_413) (by decide) (pc' := 434) (by decide) ?_
                exact J625  
          refine g_aload X291 hx (hb hby at_284) (pc' := 286) rfl rfl rfl ?_
          refine g_iconst X291 hx (hb hby at_286) (pc' := 287) rfl (z := (1 : Int32)) rfl ?_
          refine g_caload X291 hx hZ e291 f295 (i := 1) (v := (.int u1)) (hb hby at_287) (pc' := 288) rfl (by decide) rfl rfl ?_
          refine g_iload X291 hx (hb hby at_288) (pc' := 290) rfl rfl ?_
          refine g_icmp_ne X291 hx (hb hby at_290) (pc1 := 293) rfl (by decide) (pc2 := 315) (by decide) (fun hc290 => ?_) (fun hc290 => ?_)
          · skip
            refine g_iconst X291 hx (hb hby at_315) (pc' := 316) rfl (z := (0 : Int32)) rfl ?_
            exact J554  _ (if_neg (fun q => hc290 q.1)).symm
          · skip
            refine g_aload X291 hx (hb hby at_293) (pc' := 295) rfl rfl rfl ?_
            refine g_iconst X291 hx (hb hby at_295) (pc' := 296) rfl (z := (1 : Int32)) rfl ?_
            refine g_caload X291 hx hZ e291 f295 (i := 1) (v := (.int u1)) (hb hby at_296) (pc' := 297) rfl (by decide) rfl rfl ?_
            refine g_iload X291 hx (hb hby at_297) (pc' := 299) rfl rfl ?_
            refine g_icmp_ne X291 hx (hb hby at_299) (pc1 := 302) rfl (by decide) (pc2 := 315) (by decide) (fun hc299 => ?_) (fun hc299 => ?_)
            · skip
              refine g_iconst X291 hx (hb hby at_315) (pc' := 316) rfl (z := (0 : Int32)) rfl ?_
              exact J554  _ (if_neg (fun q => hc299 q.2.1)).symm
            · skip
              refine g_aload X291 hx (hb hby at_302) (pc' := 304) rfl rfl rfl ?_
              refine g_iconst X291 hx (hb hby at_304) (pc' := 305) rfl (z := (1 : Int32)) rfl ?_
              refine g_caload X291 hx hZ e291 f295 (i := 1) (v := (.int u1)) (hb hby at_305) (pc' := 306) rfl (by decide) rfl rfl ?_
              refine g_iload X291 hx (hb hby at_306) (pc' := 308) rfl rfl ?_
              refine g_icmp_ne X291 hx (hb hby at_308) (pc1 := 311) rfl (by decide) (pc2 := 315) (by decide) (fun hc308 => ?_) (fun hc308 => ?_)
              · skip
                refine g_iconst X291 hx (hb hby at_315) (pc' := 316) rfl (z := (0 : Int32)) rfl ?_
                exact J554  _ (if_neg (fun q => hc308 q.2.2)).symm
              · skip
                refine g_iconst X291 hx (hb hby at_311) (pc' := 312) rfl (z := (1 : Int32)) rfl ?_
                refine g_goto X291 hx (hb hby at_312) (by decide) (pc' := 316) (by decide) ?_
                exact J554  _ (if_pos ⟨hc290, hc299, hc308⟩).symm
        refine g_aload X291 hx (hb hby at_250) (pc' := 252) rfl rfl rfl ?_
        refine g_iconst X291 hx (hb hby at_252) (pc' := 253) rfl (z := (0 : Int32)) rfl ?_
        refine g_caload X291 hx hZ e291 f295 (i := 0) (v := (.int u0)) (hb hby at_253) (pc' := 254) rfl (by decide) rfl rfl ?_
        refine g_iload X291 hx (hb hby at_254) (pc' := 256) rfl rfl ?_
        refine g_icmp_ne X291 hx (hb hby at_256) (pc1 := 259) rfl (by decide) (pc2 := 281) (by decide) (fun hc256 => ?_) (fun hc256 => ?_)
        · skip
          refine g_iconst X291 hx (hb hby at_281) (pc' := 282) rfl (z := (0 : Int32)) rfl ?_
          exact J553  _ (if_neg (fun q => hc256 q.1)).symm
        · skip
          refine g_aload X291 hx (hb hby at_259) (pc' := 261) rfl rfl rfl ?_
          refine g_iconst X291 hx (hb hby at_261) (pc' := 262) rfl (z := (0 : Int32)) rfl ?_
          refine g_caload X291 hx hZ e291 f295 (i := 0) (v := (.int u0)) (hb hby at_262) (pc' := 263) rfl (by decide) rfl rfl ?_
          refine g_iload X291 hx (hb hby at_263) (pc' := 265) rfl rfl ?_
          refine g_icmp_ne X291 hx (hb hby at_265) (pc1 := 268) rfl (by decide) (pc2 := 281) (by decide) (fun hc265 => ?_) (fun hc265 => ?_)
          · skip
            refine g_iconst X291 hx (hb hby at_281) (pc' := 282) rfl (z := (0 : Int32)) rfl ?_
            exact J553  _ (if_neg (fun q => hc265 q.2.1)).symm
          · skip
            refine g_aload X291 hx (hb hby at_268) (pc' := 270) rfl rfl rfl ?_
            refine g_iconst X291 hx (hb hby at_270) (pc' := 271) rfl (z := (0 : Int32)) rfl ?_
            refine g_caload X291 hx hZ e291 f295 (i := 0) (v := (.int u0)) (hb hby at_271) (pc' := 272) rfl (by decide) rfl rfl ?_
            refine g_iload X291 hx (hb hby at_272) (pc' := 274) rfl rfl ?_
            refine g_icmp_ne X291 hx (hb hby at_274) (pc1 := 277) rfl (by decide) (pc2 := 281) (by decide) (fun hc274 => ?_) (fun hc274 => ?_)
            · skip
              refine g_iconst X291 hx (hb hby at_281) (pc' := 282) rfl (z := (0 : Int32)) rfl ?_
              exact J553  _ (if_neg (fun q => hc274 q.2.2)).symm
            · skip
              refine g_iconst X291 hx (hb hby at_277) (pc' := 278) rfl (z := (1 : Int32)) rfl ?_
              refine g_goto X291 hx (hb hby at_278) (by decide) (pc' := 282) (by decide) ?_
              exact J553  _ (if_pos ⟨hc256, hc265, hc274⟩).symm
    refine g_bipush X0 hx (hb hby at_31) (pc' := 33) rfl (z := (11 : Int32)) rfl ?_
    refine g_iushr X0 hx (hb hby at_33) (pc' := 34) rfl ?_
    refine g_iconst X0 hx (hb hby at_34) (pc' := 35) rfl (z := (1 : Int32)) rfl ?_
    refine g_iand X0 hx (hb hby at_35) (pc' := 36) rfl ?_
    refine g_if_eq X0 hx (hb hby at_36) (pc1 := 39) rfl (by decide) (pc2 := 43) (by decide) (fun hc36 => ?_) (fun hc36 => ?_)
    · skip
      exact J274  (chr p1) (chr_chr _)
    · skip
      refine g_iload X0 hx (hb hby at_39) (pc' := 41) rfl rfl ?_
      refine g_istore X0 hx (hb hby at_41) (pc' := 43) rfl (Ls' := #[.val (.int p0), .val (.int p1), .val (.int p2), .val (.int p3), .val (.int p4), .val (.int p5), .val (.int fi), .val (.int la), .val (.int la), .unset, .unset, .unset, .unset, .unset, .unset, .unset, .unset, .unset, .unset, .unset, .unset, .unset, .unset, .unset, .unset, .unset, .unset, .unset, .unset, .unset, .unset, .unset, .unset]) rfl ?_
      exact J274  la bla
  refine g_iload X0 hx (hb hby at_15) (pc' := 17) rfl rfl ?_
  refine g_bipush X0 hx (hb hby at_17) (pc' := 19) rfl (z := (10 : Int32)) rfl ?_
  refine g_iushr X0 hx (hb hby at_19) (pc' := 20) rfl ?_
  refine g_iconst X0 hx (hb hby at_20) (pc' := 21) rfl (z := (1 : Int32)) rfl ?_
  refine g_iand X0 hx (hb hby at_21) (pc' := 22) rfl ?_
  refine g_if_eq X0 hx (hb hby at_22) (pc1 := 25) rfl (by decide) (pc2 := 29) (by decide) (fun hc22 => ?_) (fun hc22 => ?_)
  · skip
    exact J273  (chr (ushr p0 (16 : Int32))) (chr_chr _)
  · skip
    refine g_iload X0 hx (hb hby at_25) (pc' := 27) rfl rfl ?_
    refine g_istore X0 hx (hb hby at_27) (pc' := 29) rfl (Ls' := #[.val (.int p0), .val (.int p1), .val (.int p2), .val (.int p3), .val (.int p4), .val (.int p5), .val (.int fi), .val (.int fi), .val (.int (chr p1)), .unset, .unset, .unset, .unset, .unset, .unset, .unset, .unset, .unset, .unset, .unset, .unset, .unset, .unset, .unset, .unset, .unset, .unset, .unset, .unset, .unset, .unset, .unset, .unset]) rfl ?_
    exact J273  fi bfi
set_option maxRecDepth 65536 in
set_option maxHeartbeats 40000000 in
theorem comes_1 {Post : Tables → Env → Array Value → State → Outcome → State → Prop} (hpost : ∀ tb e args s v u, (limb_1_1.after args s (.returned v) u = true ∧ limb_1_2.after args s (.returned v) u = true ∧ True) → FrameEnd s (.returned v) u (Jvm.fieldLocs frame_1_writes args s ++ Jvm.arrayLocs frame_1_arrays args s ++ Jvm.staticLocs frame_1_statics s) 16 128 → Post tb e args s (.returned v) u) :
    ArmFor flags0 classFile x code maxLocals ret World_1 tables_1 room_1 Calls_1 rest_1 Pre_1 Post := by
  intro l hfl _ _ p e ha hc hk s m args below hf hA hF happ hP
  obtain ⟨hcalls, hrest, hpre⟩ := hP
  obtain ⟨-, -, -, hnamed, -, -, -, hat⟩ := (Spec.applies_iff hf).mp happ
  obtain ⟨hg, hn⟩ := and_e (Cond.before_iff.mp (show (Jvm.Cond.and given_1 narrow_1).before args s = true from hpre))
  obtain ⟨g1, g2⟩ := and_e hg
  obtain ⟨g3, g4⟩ := and_e g2
  obtain ⟨g5, g6⟩ := and_e g4
  obtain ⟨g7, g8⟩ := and_e g6
  obtain ⟨g9, g10⟩ := and_e g8
  obtain ⟨g11, g12⟩ := and_e g10
  obtain ⟨w0, w1, w2, w3, w4, w5, rfl⟩ : ∃ w0 w1 w2 w3 w4 w5 : Value, args = #[w0, w1, w2, w3, w4, w5] := by
    have hs : args.size = 6 := by simpa [Cond.value, given_1] using g1
    obtain ⟨L⟩ := args
    match L, hs with
    | [w0, w1, w2, w3, w4, w5], _ => exact ⟨w0, w1, w2, w3, w4, w5, rfl⟩
  have hw := fun d (hd : d ∈ tables_1) => atoms_spec (ws := Jvm.Cond.code x code maxLocals ret :: tables_1) hat d (List.mem_cons_of_mem _ hd)
  have hfit : Fit s := fun {y c} hc i hi => by
    obtain ⟨ha, rfl⟩ := Array.getElem?_eq_some_iff.mp hc
    have q := List.all_eq_true.mp ((Array.all_eq_true_iff_forall_mem.mp hF) _ (Array.getElem_mem ha)) i (List.mem_range.mpr hi)
    simpa [Array.getElem?_eq_getElem hi] using q
  obtain ⟨i0, ei0⟩ := is_v g3
  obtain rfl : w0 = (.int i0) := Option.some.inj ei0
  obtain ⟨i1, ei1⟩ := is_v g5
  obtain rfl : w1 = (.int i1) := Option.some.inj ei1
  obtain ⟨i2, ei2⟩ := is_v g7
  obtain rfl : w2 = (.int i2) := Option.some.inj ei2
  obtain ⟨i3, ei3⟩ := is_v g9
  obtain rfl : w3 = (.int i3) := Option.some.inj ei3
  obtain ⟨i4, ei4⟩ := is_v g11
  obtain rfl : w4 = (.int i4) := Option.some.inj ei4
  obtain ⟨i5, ei5⟩ := is_v g12
  obtain rfl : w5 = (.int i5) := Option.some.inj ei5
  obtain ⟨n, o, h1, h2, h3, _, L, rfl, ⟨rfl, N⟩, hq⟩ := rm0 l s _ hw i0 i1 i2 i3 i4 i5 s.heap s.heap.size (Nat.le_refl _) tables_1 p e ha hc hk s m _ below hf ((Spec.applies_iff_loose hf).mp happ).1 ⟨rfl, State.Warmed39.refl s, rfl⟩ trivial
  refine ⟨n, _, h1, h2, h3, hpost _ _ _ _ _ _ ⟨Cond.after_iff.mpr rfl, Cond.after_iff.mpr (eq_i res_at (Term.int_eval (1)) rfl), trivial⟩ ⟨hq.1, hq.2.1, (hq.2.2.sift fun y hy => Or.inr (N y hy)).mono (by decide) (by decide)⟩⟩
theorem main_1_1 : Claimed_1_1 := comes_1 fun _ _ _ _ _ _ h hF => ⟨h.1, hF⟩
theorem main_1_2 : Claimed_1_2 := comes_1 fun _ _ _ _ _ _ h hF => ⟨h.2.1, hF⟩
end Jvm.Pilot.@@N@@
namespace Jvm.Pilot.@@N@@
open Jvm Jvm.ClassFile Sem Op Lib Jvm.Free Jvm.Stand Jvm.Pilot.@@N@@.Jvm.D
/-! MADE BY PROGRAM (witnessworld.py) out of the Statement's table words and the real class files: 13 classes; the members and pool entries that the words name. The judged class is class 1, her method 2. -/
namespace start1
open Jvm.ClassFile
def u (s : String) : CpInfo := .utf8 (stringToUtf16 s)
/-- a pool by its gaps: so many unusable entries, then the entry; so many at the end -/
def gap : Nat → List CpInfo → List CpInfo
  | 0, r => r
  | n + 1, r => .unusable :: gap n r
def poolList (es : List (Nat × CpInfo)) (last : Nat) : List CpInfo := es.foldr (fun e r => gap e.1 (e.2 :: r)) (gap last [])
def pool (es : List (Nat × CpInfo)) (last : Nat) : Array CpInfo := ⟨poolList es last⟩
def fileOf (pool : Array CpInfo) (this : Nat) (attrs : Array Attribute := #[]) (ms : Array MethodInfo := #[]) (fl : Nat := 33) (sup : Nat := 0) (ifs : Array Nat := #[]) (fds : Array FieldInfo := #[]) : ClassFile where
  minorVersion := 0
  majorVersion := 65
  constantPool := pool
  accessFlags := fl
  thisClass := this
  superClass := sup
  interfaces := ifs
  fields := fds
  methods := ms
  attributes := attrs
def plain (name : String) (sup : Option ClassId) : Class where
  name := name
  kind := .ordinary
  loader := none
  accessFlags := 33
  super := sup
  interfaces := #[]
  cf := none
  fields := #[]
  methods := #[]
  instanceTypes := #[]
  staticTypes := #[]
  resolved := #[]
  callSites := []
  init := .initialized
  statics := none
  mirror := none

def pool0 : Array CpInfo := pool [(5, u "<init>"), (0, u "()V"), (1, .class_ 10), (1, u "java/lang/Object")] 113

def k0c0 : Code := { maxStack := 0, maxLocals := 1, code := object_method_1_code, exceptionTable := #[], attributes := #[] }
def k0m0 : Method := { name := "<init>", desc := "()V", sig := { parameters := [], returnType := none }, accessFlags := 1, code := some k0c0 }
/-- java/lang/Object -/
def k0 : Class := { plain "java/lang/Object" none with
  accessFlags := 33
  interfaces := #[]
  cf := some (fileOf pool0 8 #[] #[{ accessFlags := 1, nameIndex := 5, descriptorIndex := 6, attributes := #[] }] 33 0 #[] #[])
  fields := #[]
  methods := #[k0m0]
  instanceTypes := #[]
  staticTypes := #[]
  resolved := Array.replicate 124 none
  statics := none }

def pool1 : Array CpInfo := pool [(2, .class_ 4), (1, u "java/lang/Object"), (0, u "<init>"), (0, u "()V"), (0, .integer 65535), (0, .methodref 9 10), (0, .class_ 11), (0, .nameAndType 12 13), (0, u "java/lang/Math"), (0, u "min"), (0, u "(II)I"), (0, .methodref 15 16), (0, .class_ 17), (0, .nameAndType 18 19), (0, u "com/example/needlework/needlework/CharsMarkPinLaw"), (0, u "cell"), (0, u "(CIII)C"), (0, .class_ 21), (0, u "com/example/needlework/needlework/PackedBlock$Chars"), (0, .methodref 20 23), (0, .nameAndType 5 24), (0, u "(CCCII)V"), (0, .fieldref 20 26), (0, .nameAndType 27 28), (0, u "units"), (0, u "Ljava/lang/Object;"), (0, .fieldref 20 30), (0, .nameAndType 31 28), (0, u "lasts"), (0, .fieldref 20 33), (0, .nameAndType 34 28), (0, u "middles"), (0, .methodref 20 36), (0, .nameAndType 37 38), (0, u "mark"), (0, u "(I)V"), (0, .integer 32768), (3, u "law"), (0, u "(IIIIII)Z")] 8

def k1m0 : Method := { name := "<init>", desc := "()V", sig := { parameters := [], returnType := none }, accessFlags := 1, code := none }
def k1c1 : Code := { maxStack := 3, maxLocals := 4, code := method_2_code, exceptionTable := #[], attributes := #[] }
def k1m1 : Method := { name := "cell", desc := "(CIII)C", sig := { parameters := [.char, .int, .int, .int], returnType := some .char }, accessFlags := 10, code := some k1c1 }
def k1c2 : Code := { maxStack := 7, maxLocals := 33, code := code, exceptionTable := #[], attributes := #[] }
def k1m2 : Method := { name := "law", desc := "(IIIIII)Z", sig := { parameters := [.int, .int, .int, .int, .int, .int], returnType := some .boolean }, accessFlags := 9, code := some k1c2 }
/-- com/example/needlework/needlework/CharsMarkPinLaw -/
def k1 : Class := { plain "com/example/needlework/needlework/CharsMarkPinLaw" (some 0) with
  accessFlags := 49
  interfaces := #[]
  cf := some (fileOf pool1 15 #[] #[{ accessFlags := 1, nameIndex := 5, descriptorIndex := 6, attributes := #[] }, { accessFlags := 10, nameIndex := 18, descriptorIndex := 19, attributes := #[] }, { accessFlags := 9, nameIndex := 43, descriptorIndex := 44, attributes := #[] }] 49 2 #[] #[])
  fields := #[]
  methods := #[k1m0, k1m1, k1m2]
  instanceTypes := #[]
  staticTypes := #[]
  resolved := Array.replicate 53 none
  statics := none }

def pool2 : Array CpInfo := pool [(1, .class_ 2), (0, u "java/lang/Math"), (1, .class_ 6), (1, u "java/lang/Object"), (0, u "<init>"), (0, u "()V"), (89, .class_ 100), (1, u "java/lang/Math$RandomNumberGeneratorHolder"), (71, u "negativeZeroFloatBits"), (0, u "J"), (2, u "negativeZeroDoubleBits"), (24, u "min"), (43, u "$assertionsDisabled"), (0, u "Z"), (88, u "(II)I"), (2, u "twoToTheDoubleScaleDown"), (0, u "D"), (4, u "twoToTheDoubleScaleUp"), (9, u "E"), (3, u "PI"), (2, u "TAU"), (2, u "DEGREES_TO_RADIANS"), (0, u "RADIANS_TO_DEGREES")] 94

def k2m0 : Method := { name := "<init>", desc := "()V", sig := { parameters := [], returnType := none }, accessFlags := 2, code := none }
def k2c1 : Code := { maxStack := 2, maxLocals := 2, code := jdk_29_method_69_code, exceptionTable := #[], attributes := #[] }
def k2m1 : Method := { name := "min", desc := "(II)I", sig := { parameters := [.int, .int], returnType := some .int }, accessFlags := 9, code := some k2c1 }
/-- java/lang/Math -/
def k2 : Class := { plain "java/lang/Math" (some 0) with
  accessFlags := 49
  interfaces := #[]
  cf := some (fileOf pool2 1 #[.nestMembers #[98]] #[{ accessFlags := 2, nameIndex := 7, descriptorIndex := 8, attributes := #[] }, { accessFlags := 9, nameIndex := 201, descriptorIndex := 335, attributes := #[] }] 49 4 #[] #[{ accessFlags := 25, nameIndex := 354, descriptorIndex := 339, attributes := #[] }, { accessFlags := 25, nameIndex := 358, descriptorIndex := 339, attributes := #[] }, { accessFlags := 25, nameIndex := 361, descriptorIndex := 339, attributes := #[] }, { accessFlags := 26, nameIndex := 364, descriptorIndex := 339, attributes := #[] }, { accessFlags := 26, nameIndex := 365, descriptorIndex := 339, attributes := #[] }, { accessFlags := 26, nameIndex := 172, descriptorIndex := 173, attributes := #[] }, { accessFlags := 26, nameIndex := 176, descriptorIndex := 173, attributes := #[] }, { accessFlags := 8, nameIndex := 344, descriptorIndex := 339, attributes := #[] }, { accessFlags := 8, nameIndex := 338, descriptorIndex := 339, attributes := #[] }, { accessFlags := 4120, nameIndex := 245, descriptorIndex := 246, attributes := #[] }])
  fields := #[{ name := "E", type := .double, accessFlags := 25, slot := 0, constantValue := 0 }, { name := "PI", type := .double, accessFlags := 25, slot := 1, constantValue := 0 }, { name := "TAU", type := .double, accessFlags := 25, slot := 2, constantValue := 0 }, { name := "DEGREES_TO_RADIANS", type := .double, accessFlags := 26, slot := 3, constantValue := 0 }, { name := "RADIANS_TO_DEGREES", type := .double, accessFlags := 26, slot := 4, constantValue := 0 }, { name := "negativeZeroFloatBits", type := .long, accessFlags := 26, slot := 5, constantValue := 0 }, { name := "negativeZeroDoubleBits", type := .long, accessFlags := 26, slot := 6, constantValue := 0 }, { name := "twoToTheDoubleScaleUp", type := .double, accessFlags := 8, slot := 7, constantValue := 0 }, { name := "twoToTheDoubleScaleDown", type := .double, accessFlags := 8, slot := 8, constantValue := 0 }, { name := "$assertionsDisabled", type := .boolean, accessFlags := 4120, slot := 9, constantValue := 0 }]
  methods := #[k2m0, k2m1]
  instanceTypes := #[]
  staticTypes := #[.double, .double, .double, .double, .double, .long, .long, .double, .double, .boolean]
  resolved := Array.replicate 460 none
  statics := none }

def pool3 : Array CpInfo := pool [(1, .methodref 2 3), (0, .class_ 4), (0, .nameAndType 5 6), (0, u "java/lang/Object"), (0, u "<init>"), (0, u "()V"), (0, .fieldref 8 9), (0, .class_ 10), (0, .nameAndType 11 12), (0, u "com/example/needlework/needlework/PackedBlock"), (0, u "first"), (0, u "I"), (0, .fieldref 8 14), (0, .nameAndType 15 12), (0, u "last"), (0, .fieldref 8 17), (0, .nameAndType 18 12), (0, u "middle"), (0, .fieldref 8 20), (0, .nameAndType 21 12), (0, u "lastOffset"), (0, .fieldref 8 23), (0, .nameAndType 24 12), (0, u "middleOffset"), (2, u "capacity"), (6, u "units"), (0, u "Ljava/lang/Object;"), (2, u "lasts"), (2, u "middles"), (16, u "positions"), (9, u "ZEROS"), (4, u "(IIIII)V"), (13, .class_ 88), (0, u "com/example/needlework/needlework/PackedBlock$Chars"), (0, .class_ 90), (0, u "com/example/needlework/needlework/PackedBlock$Bytes")] 3

def k3c0 : Code := { maxStack := 2, maxLocals := 6, code := prog_16_method_1_code, exceptionTable := #[], attributes := #[] }
def k3m0 : Method := { name := "<init>", desc := "(IIIII)V", sig := { parameters := [.int, .int, .int, .int, .int], returnType := none }, accessFlags := 2, code := some k3c0 }
/-- com/example/needlework/needlework/PackedBlock -/
def k3 : Class := { plain "com/example/needlework/needlework/PackedBlock" (some 0) with
  accessFlags := 1056
  interfaces := #[]
  cf := some (fileOf pool3 8 #[.nestMembers #[87, 89]] #[{ accessFlags := 2, nameIndex := 5, descriptorIndex := 73, attributes := #[] }] 1056 2 #[] #[{ accessFlags := 26, nameIndex := 68, descriptorIndex := 12, attributes := #[] }, { accessFlags := 18, nameIndex := 21, descriptorIndex := 12, attributes := #[] }, { accessFlags := 18, nameIndex := 24, descriptorIndex := 12, attributes := #[] }, { accessFlags := 16, nameIndex := 11, descriptorIndex := 12, attributes := #[] }, { accessFlags := 16, nameIndex := 15, descriptorIndex := 12, attributes := #[] }, { accessFlags := 16, nameIndex := 18, descriptorIndex := 12, attributes := #[] }, { accessFlags := 0, nameIndex := 34, descriptorIndex := 35, attributes := #[] }, { accessFlags := 0, nameIndex := 38, descriptorIndex := 35, attributes := #[] }, { accessFlags := 0, nameIndex := 41, descriptorIndex := 35, attributes := #[] }, { accessFlags := 2, nameIndex := 27, descriptorIndex := 12, attributes := #[] }, { accessFlags := 2, nameIndex := 58, descriptorIndex := 12, attributes := #[] }])
  fields := #[{ name := "ZEROS", type := .int, accessFlags := 26, slot := 0, constantValue := 0 }, { name := "lastOffset", type := .int, accessFlags := 18, slot := 0, constantValue := 0 }, { name := "middleOffset", type := .int, accessFlags := 18, slot := 1, constantValue := 0 }, { name := "first", type := .int, accessFlags := 16, slot := 2, constantValue := 0 }, { name := "last", type := .int, accessFlags := 16, slot := 3, constantValue := 0 }, { name := "middle", type := .int, accessFlags := 16, slot := 4, constantValue := 0 }, { name := "units", type := (.object "java/lang/Object"), accessFlags := 0, slot := 5, constantValue := 0 }, { name := "lasts", type := (.object "java/lang/Object"), accessFlags := 0, slot := 6, constantValue := 0 }, { name := "middles", type := (.object "java/lang/Object"), accessFlags := 0, slot := 7, constantValue := 0 }, { name := "capacity", type := .int, accessFlags := 2, slot := 8, constantValue := 0 }, { name := "positions", type := .int, accessFlags := 2, slot := 9, constantValue := 0 }]
  methods := #[k3m0]
  instanceTypes := #[.int, .int, .int, .int, .int, (.object "java/lang/Object"), (.object "java/lang/Object"), (.object "java/lang/Object"), .int, .int]
  staticTypes := #[.int]
  resolved := Array.replicate 94 none
  statics := none }

def pool4 : Array CpInfo := pool [(1, .class_ 2), (0, u "com/example/needlework/needlework/PackedBlock"), (0, .methodref 1 4), (0, .nameAndType 5 6), (0, u "<init>"), (0, u "(IIIII)V"), (0, .fieldref 8 9), (0, .class_ 10), (0, .nameAndType 11 12), (0, u "com/example/needlework/needlework/PackedBlock$Chars"), (0, u "units"), (0, u "Ljava/lang/Object;"), (0, .class_ 14), (0, u "[C"), (35, .fieldref 8 51), (0, .nameAndType 52 12), (0, u "lasts"), (0, .fieldref 8 54), (0, .nameAndType 55 12), (0, u "middles"), (0, .fieldref 8 57), (0, .nameAndType 58 59), (0, u "first"), (0, u "I"), (0, .fieldref 8 61), (0, .nameAndType 62 59), (0, u "last"), (0, .fieldref 8 64), (0, .nameAndType 65 59), (0, u "middle"), (0, .integer 32768), (2, u "ZERO_CHARS"), (10, u "(CCCII)V"), (5, u "mark"), (0, u "(I)V")] 13

def k4c0 : Code := { maxStack := 6, maxLocals := 6, code := prog_18_method_1_code, exceptionTable := #[], attributes := #[] }
def k4m0 : Method := { name := "<init>", desc := "(CCCII)V", sig := { parameters := [.char, .char, .char, .int, .int], returnType := none }, accessFlags := 0, code := some k4c0 }
def k4c1 : Code := { maxStack := 5, maxLocals := 10, code := prog_18_method_4_code, exceptionTable := #[], attributes := #[] }
def k4m1 : Method := { name := "mark", desc := "(I)V", sig := { parameters := [.int], returnType := none }, accessFlags := 0, code := some k4c1 }
/-- com/example/needlework/needlework/PackedBlock$Chars -/
def k4 : Class := { plain "com/example/needlework/needlework/PackedBlock$Chars" (some 3) with
  accessFlags := 48
  interfaces := #[]
  cf := some (fileOf pool4 8 #[.nestHost 1] #[{ accessFlags := 0, nameIndex := 5, descriptorIndex := 80, attributes := #[] }, { accessFlags := 0, nameIndex := 86, descriptorIndex := 87, attributes := #[] }] 48 1 #[] #[{ accessFlags := 26, nameIndex := 69, descriptorIndex := 14, attributes := #[] }])
  fields := #[{ name := "ZERO_CHARS", type := (.array .char), accessFlags := 26, slot := 0, constantValue := 0 }]
  methods := #[k4m0, k4m1]
  instanceTypes := #[.int, .int, .int, .int, .int, (.object "java/lang/Object"), (.object "java/lang/Object"), (.object "java/lang/Object"), .int, .int]
  staticTypes := #[(.array .char)]
  resolved := Array.replicate 101 none
  statics := none }

def pool5 : Array CpInfo := pool [(1, u "java/lang/Cloneable"), (0, .class_ 1), (0, u "java/lang/Object"), (0, .class_ 3)] 3

/-- java/lang/Cloneable -/
def k5 : Class := { plain "java/lang/Cloneable" (some 0) with
  accessFlags := 1537
  interfaces := #[]
  cf := some (fileOf pool5 2 #[] #[] 1537 4 #[] #[])
  fields := #[]
  methods := #[]
  instanceTypes := #[]
  staticTypes := #[]
  resolved := Array.replicate 8 none
  statics := none }

def pool6 : Array CpInfo := pool [(1, u "java/io/Serializable"), (0, .class_ 1), (0, u "java/lang/Object"), (0, .class_ 3)] 3

/-- java/io/Serializable -/
def k6 : Class := { plain "java/io/Serializable" (some 0) with
  accessFlags := 1537
  interfaces := #[]
  cf := some (fileOf pool6 2 #[] #[] 1537 4 #[] #[])
  fields := #[]
  methods := #[]
  instanceTypes := #[]
  staticTypes := #[]
  resolved := Array.replicate 8 none
  statics := none }

/-- the primitive byte -/
def k7 : Class := { plain "byte" none with kind := .primitive 'B', accessFlags := 0x411 }
/-- [B -/
def k8 : Class := { plain "[B" (some 0) with kind := .array 7 .byte, interfaces := #[5, 6], accessFlags := 1041 }

/-- the primitive char -/
def k9 : Class := { plain "char" none with kind := .primitive 'C', accessFlags := 0x411 }
/-- [C -/
def k10 : Class := { plain "[C" (some 0) with kind := .array 9 .char, interfaces := #[5, 6], accessFlags := 1041 }

/-- the primitive int -/
def k11 : Class := { plain "int" none with kind := .primitive 'I', accessFlags := 0x411 }
/-- [I -/
def k12 : Class := { plain "[I" (some 0) with kind := .array 11 .int, interfaces := #[5, 6], accessFlags := 1041 }

def heap : Heap := #[]
def classes : Array Class := #[k0, k1, k2, k3, k4, k5, k6, k7, k8, k9, k10, k11, k12]
def interned : List (Array UInt16 × Addr) := []
def slotsUsed : Nat := 0
def theMethod : MethodId := ⟨1, 2⟩
def args0 : Array Value := #[.int 5, .int 6, .int 7, .int 8, .int 9, .int 10]
def aboutOver (below : List Frame) : State where
  vm := { classes := classes, interned := interned.toArray }
  heap := heap
  slotsUsed := slotsUsed
  threads := #[{ frames := .invoking theMethod args0 :: below }]
def below0 : List Frame := [.native { method := ⟨0, 0⟩, args := #[] }]
def about1 : State := aboutOver below0
def p0 : Program := .bare "" "" ""
def e0 : Env := launch0.env 0 0 0
theorem w_frames : about1.frames = Frame.invoking theMethod args0 :: below0 := rfl
set_option maxRecDepth 65536 in
theorem w_args : argsFit about1.vm theMethod args0 = true := by decide +kernel
set_option maxRecDepth 65536 in
theorem w_heap : heapFits about1 = true := by decide +kernel
set_option maxRecDepth 65536 in
theorem w_runnable : about1.curStatus? = some .runnable := by decide +kernel
set_option maxRecDepth 65536 in
theorem w_alone : about1.alone = true := by decide +kernel
set_option maxRecDepth 65536 in
theorem w_named : about1.methodNamed? x = some theMethod := by decide +kernel
set_option maxRecDepth 65536 in
theorem w_hears : about1.hears theMethod below0 = true := by decide +kernel
set_option maxRecDepth 65536 in
theorem w_ripe : about1.ripe theMethod args0 below0 = true := by decide +kernel
theorem w_running : about1.status = .running := rfl
set_option maxRecDepth 65536 in
theorem w_room : about1.hasRoom e0.platform room_1 = true :=
  launch0.hasRoom_least _ room_1 (by decide +kernel) (by decide +kernel) (by decide +kernel) (by decide +kernel) (by decide +kernel) (by decide +kernel)
theorem allAtoms_all (ts : List Jvm.Cond) (a : Array Jvm.Value) (st : Jvm.State) : (allAtoms ts).before a st = ts.all (fun c => c.before a st) := by
  induction ts with
  | nil => rfl
  | cons c t ih =>
    show (Jvm.Cond.and c (allAtoms t)).before a st = _
    rw [Jvm.Cond.before_and, ih, List.all_cons]
def words1 : List Jvm.Cond := Jvm.Cond.code x code maxLocals ret :: tables_1
/-- a 'code' word, met by the world's own term for the bytes: nothing is compared byte by byte -/
theorem code_word {y : MethodName} {bytes : ByteArray} {mx : Nat} {rt : Option FieldType} {a : Array Value} {s : State} {m : MethodId} {meth : Method} {c : Code} (h1 : s.methodNamed? y = some m) (h2 : s.vm.method? m = some meth) (h3 : meth.code = some c) (h4 : c.code = bytes)
    (h5 : (c.maxLocals == mx && c.exceptionTable.isEmpty && decide (c.maxStack ≤ mostOperands) && decide (meth.sig.returnType = rt) && !meth.locks && decide (parseMethodDescriptor y.desc = some meth.sig)) = true) : (Jvm.Cond.code y bytes mx rt).before a s = true := by
  simp only [Bool.and_eq_true, beq_iff_eq, Bool.not_eq_true', decide_eq_true_eq] at h5
  obtain ⟨⟨⟨⟨⟨g1, g2⟩, g3⟩, g4⟩, g5⟩, g6⟩ := h5
  simp [Cond.before, Cond.holds, Cond.value, h1, h2, h3, h4, g1, g2, g3, g4, g5, g6]
def isCode : Jvm.Cond → Bool
  | .code _ _ _ _ => true
  | _ => false
theorem all_split {L : List Jvm.Cond} {P : Jvm.Cond → Bool} (h1 : L.all (fun c => isCode c || P c) = true) (h2 : ∀ c ∈ L.filter isCode, P c = true) : L.all P = true := by
  refine List.all_eq_true.mpr fun c hc => ?_
  have h := List.all_eq_true.mp h1 c hc
  rcases Bool.eq_false_or_eq_true (isCode c) with hi | hi
  · exact h2 c (List.mem_filter.mpr ⟨hc, hi⟩)
  · simpa [hi] using h
set_option maxRecDepth 65536 in
theorem w_c0 : (Jvm.Cond.code x code maxLocals ret).before args0 about1 = true := code_word (m := ⟨1, 2⟩) (meth := k1m2) (c := k1c2) (by decide +kernel) rfl rfl rfl (by decide +kernel)
set_option maxRecDepth 65536 in
theorem w_c1 : (Jvm.Cond.code ({ cls := "java/lang/Math", name := "min", desc := "(II)I" } : Jvm.MethodName) jdk_29_method_69_code (2 : Nat) (Option.some Jvm.ClassFile.FieldType.int)).before args0 about1 = true := code_word (m := ⟨2, 1⟩) (meth := k2m1) (c := k2c1) (by decide +kernel) rfl rfl rfl (by decide +kernel)
set_option maxRecDepth 65536 in
theorem w_c2 : (Jvm.Cond.code ({ cls := "com/example/needlework/needlework/CharsMarkPinLaw", name := "cell", desc := "(CIII)C" } : Jvm.MethodName) method_2_code (4 : Nat) (Option.some Jvm.ClassFile.FieldType.char)).before args0 about1 = true := code_word (m := ⟨1, 1⟩) (meth := k1m1) (c := k1c1) (by decide +kernel) rfl rfl rfl (by decide +kernel)
set_option maxRecDepth 65536 in
theorem w_c3 : (Jvm.Cond.code ({ cls := "com/example/needlework/needlework/PackedBlock$Chars", name := "<init>", desc := "(CCCII)V" } : Jvm.MethodName) prog_18_method_1_code (6 : Nat) (Option.none : Option Jvm.ClassFile.FieldType)).before args0 about1 = true := code_word (m := ⟨4, 0⟩) (meth := k4m0) (c := k4c0) (by decide +kernel) rfl rfl rfl (by decide +kernel)
set_option maxRecDepth 65536 in
theorem w_c4 : (Jvm.Cond.code ({ cls := "com/example/needlework/needlework/PackedBlock", name := "<init>", desc := "(IIIII)V" } : Jvm.MethodName) prog_16_method_1_code (6 : Nat) (Option.none : Option Jvm.ClassFile.FieldType)).before args0 about1 = true := code_word (m := ⟨3, 0⟩) (meth := k3m0) (c := k3c0) (by decide +kernel) rfl rfl rfl (by decide +kernel)
set_option maxRecDepth 65536 in
theorem w_c5 : (Jvm.Cond.code ({ cls := "java/lang/Object", name := "<init>", desc := "()V" } : Jvm.MethodName) object_method_1_code (1 : Nat) (Option.none : Option Jvm.ClassFile.FieldType)).before args0 about1 = true := code_word (m := ⟨0, 0⟩) (meth := k0m0) (c := k0c0) (by decide +kernel) rfl rfl rfl (by decide +kernel)
set_option maxRecDepth 65536 in
theorem w_c6 : (Jvm.Cond.code ({ cls := "com/example/needlework/needlework/PackedBlock$Chars", name := "mark", desc := "(I)V" } : Jvm.MethodName) prog_18_method_4_code (10 : Nat) (Option.none : Option Jvm.ClassFile.FieldType)).before args0 about1 = true := code_word (m := ⟨4, 1⟩) (meth := k4m1) (c := k4c1) (by decide +kernel) rfl rfl rfl (by decide +kernel)
def codes1 : List Jvm.Cond := [Jvm.Cond.code x code maxLocals ret, Jvm.Cond.code ({ cls := "java/lang/Math", name := "min", desc := "(II)I" } : Jvm.MethodName) jdk_29_method_69_code (2 : Nat) (Option.some Jvm.ClassFile.FieldType.int), Jvm.Cond.code ({ cls := "com/example/needlework/needlework/CharsMarkPinLaw", name := "cell", desc := "(CIII)C" } : Jvm.MethodName) method_2_code (4 : Nat) (Option.some Jvm.ClassFile.FieldType.char), Jvm.Cond.code ({ cls := "com/example/needlework/needlework/PackedBlock$Chars", name := "<init>", desc := "(CCCII)V" } : Jvm.MethodName) prog_18_method_1_code (6 : Nat) (Option.none : Option Jvm.ClassFile.FieldType), Jvm.Cond.code ({ cls := "com/example/needlework/needlework/PackedBlock", name := "<init>", desc := "(IIIII)V" } : Jvm.MethodName) prog_16_method_1_code (6 : Nat) (Option.none : Option Jvm.ClassFile.FieldType), Jvm.Cond.code ({ cls := "java/lang/Object", name := "<init>", desc := "()V" } : Jvm.MethodName) object_method_1_code (1 : Nat) (Option.none : Option Jvm.ClassFile.FieldType), Jvm.Cond.code ({ cls := "com/example/needlework/needlework/PackedBlock$Chars", name := "mark", desc := "(I)V" } : Jvm.MethodName) prog_18_method_4_code (10 : Nat) (Option.none : Option Jvm.ClassFile.FieldType)]
set_option maxRecDepth 65536 in
theorem codes_eq : words1.filter isCode = codes1 := rfl
theorem w_codes : ∀ c ∈ words1.filter isCode, c.before args0 about1 = true := by
  rw [codes_eq]
  intro c hc
  simp only [codes1, List.mem_cons, List.not_mem_nil, or_false] at hc
  rcases hc with rfl | rfl | rfl | rfl | rfl | rfl | rfl
  · exact w_c0
  · exact w_c1
  · exact w_c2
  · exact w_c3
  · exact w_c4
  · exact w_c5
  · exact w_c6
set_option maxRecDepth 65536 in
theorem w_t1 : (words1.take 24).all (fun c => isCode c || c.before args0 about1) = true := by decide +kernel
set_option maxRecDepth 65536 in
theorem w_t2 : ((words1.drop 24).take 24).all (fun c => isCode c || c.before args0 about1) = true := by decide +kernel
set_option maxRecDepth 65536 in
theorem w_t3 : ((words1.drop 24).drop 24).all (fun c => isCode c || c.before args0 about1) = true := by decide +kernel
theorem w_tables : (allAtoms (Jvm.Cond.code x code maxLocals ret :: tables_1)).before args0 about1 = true := by
  rw [allAtoms_all]
  show words1.all (fun c => c.before args0 about1) = true
  refine all_split ?_ w_codes
  rw [← List.take_append_drop 24 words1, List.all_append, w_t1, ← List.take_append_drop 24 (words1.drop 24), List.all_append, w_t2, w_t3]
  rfl
set_option maxRecDepth 65536 in
theorem w_case : (Jvm.Cond.and given_1 narrow_1).before args0 about1 = true := by decide +kernel
theorem w_applies : (headSpec (Jvm.Cond.code x code maxLocals ret :: tables_1) room_1).applies x e0.platform about1 = true :=
  (Spec.applies_iff w_frames).mpr ⟨w_running, w_runnable, w_alone, w_named, w_hears, w_ripe, w_room, w_tables⟩
theorem atStart : AtStart classFile x code maxLocals ret World_1 tables_1 room_1 Calls_1 rest_1 Pre_1 launch0 p0 e0 about1 theMethod args0 below0 :=
  ⟨lists_1, trivial, launch0.admits_env _ _ _, launch0.least_env, fairChoices_fair.cas, fairChoices_fair.clock, w_frames, w_args, w_heap, w_applies, trivial, trivial, w_case⟩
end start1
theorem witness_1 : WitnessClaimed_1 := ⟨start1.p0, start1.e0, start1.about1, start1.theMethod, start1.args0, start1.below0, start1.atStart⟩
end Jvm.Pilot.@@N@@
