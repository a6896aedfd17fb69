import JvmDerived
import JvmDerived.Pilot.@@N@@Statement
import JvmDerived.Pilot.@@N@@Code
set_option linter.unusedVariables false
set_option linter.unusedSimpArgs false
namespace Jvm.OwnKit
open Sem ClassFile Op Lib Jvm.Stand Jvm.Free Jvm.LawKit Jvm.RoadKit
/-! int and long operations, named -/
def ushr (x y : Int32) : Int32 := (x.toUInt32 >>> (y &&& 31).toUInt32).toInt32
def shl (x y : Int32) : Int32 := x <<< (y &&& 31)
def shr (x y : Int32) : Int32 := x >>> (y &&& 31)
def chr (x : Int32) : Int32 := x.toUInt32.toUInt16.toUInt32.toInt32
def byt (x : Int32) : Int32 := x.toInt8.toInt32
theorem chr_chr (x : Int32) : chr (chr x) = chr x := by unfold chr; simp only [UInt32.toUInt32_toInt32, UInt16.toUInt16_toUInt32]
theorem byt_byt (x : Int32) : byt (byt x) = byt x := by simp [byt]
theorem narrow_chr (x : Int32) : narrow .char (.int (chr x)) = .int (chr x) := congrArg Value.int (chr_chr x)
/-- what a contract says at the end -/
def CQ (Q : Option Value → Heap → Prop) (n0 : Nat) (v : Option Value) (h : Heap) (L : List Loc) : Prop := Q v h ∧ Fr n0 L
/-- from this frame on the run ends as asked -/
def Go (p : Program) (e : Env) (below : List Frame) (En : Option Value → State → List Loc → Prop) (n0 : Nat) (Q : Option Value → Heap → Prop) (T : State) (g : JFrame) : Prop :=
  ∃ s₂ o, Steps p.tables e below (T.setTop g) s₂ ∧ s₂.status = .running ∧ Ended s₂ below o ∧ ∃ v L, o = .returned v ∧ CQ Q n0 v s₂.heap L ∧ En v s₂ L
/-- the plain end: nothing interned -/
def EndF (s : State) (C S : Nat) (v : Option Value) (t : State) (L : List Loc) : Prop := FrameEnd s (.returned v) t L C S
theorem endF {s : State} {C S cells slots : Nat} {t : State} {L : List Loc} {h : Heap} (hc : cells ≤ C) (hs : slots ≤ S) (v : Option Value) (_ : t.heap = h) (hW : s.WarmedH t.vm) (hsm : s.sameButNew ({ t with vm := s.vm } : State) L cells slots) : EndF s C S v t L := ⟨⟨_, rfl⟩, hW, hsm.mono hc hs⟩
/-- a method's contract -/
def Ctr (l : Launch) (Z : State) (y : MethodName) (bytes : ByteArray) (maxL : Nat) (ret : Option FieldType) (rm : Room) (as' : Array Value) (h0 : Heap) (n0 : Nat) (Q : Option Value → Heap → Prop) : Prop :=
  ∀ ws : List Jvm.Cond, MetFree l y (head1 (Jvm.Cond.code y bytes maxL ret :: ws) rm) (fun a U => a = as' ∧ Z.Warmed39 U.vm ∧ U.heap = h0) (fun _ _ _ _ _ => True) (fun _ U o U' => ∃ v L, o = .returned v ∧ CQ Q n0 v U'.heap L ∧ FrameEnd U o U' L rm.cells rm.slots)
theorem Ctr.of {l : Launch} {Z : State} {y : MethodName} {bytes : ByteArray} {maxL : Nat} {ret : Option FieldType} {rm : Room} {as' : Array Value} {h0 : Heap} {n0 : Nat} {Q : Option Value → Heap → Prop} {Ls : Array Slot}
    (hpl : plainFor y = true) (hef : ∀ m, entryFrame m as' maxL = mkF m 0 Ls [])
    (body : ∀ (p : Program) (e : Env) (s : State) (m : MethodId) (below : List Frame) (meth : Method) (c : Code) (T : State), p.tables.exec = Jvm.exec → c.code = bytes → c.maxLocals = maxL → s.vm.findClass y.cls = some m.cls → meth.name = y.name → meth.sig.returnType = ret → meth.locks = false → Z.Warmed39 s.vm →
      Stand p l e rm s m as' below meth c T [] 0 0 → T.heap = h0 → Go p e below (EndF s rm.cells rm.slots) n0 Q T (mkF m 0 Ls [])) : Ctr l Z y bytes maxL ret rm as' h0 n0 Q := by
  intro ws
  refine MetFree.of_bodySF hpl hisR ?_
  intro p e s m args below meth c s₁ Bd hml0 hP hK
  obtain ⟨rfl, hZ, hh⟩ := hP
  have hown : s.vm.findClass y.cls = some m.cls := findClass_of_methodNamed Bd.named
  have hnm := (name_of_methodNamed Bd.named Bd.method).1
  have e0 : s₁.heap = h0 := by rw [← hh, Bd.state]; rfl
  rw [hef]
  obtain ⟨s₂, o, h1, h2, h3, v, L, rfl, h5, h6⟩ := body p e s m below meth c s₁ Bd.exec Bd.bytes hml0 hown hnm Bd.returns Bd.notSynchronized hZ (Stand.of_body Bd) e0
  exact ⟨s₂, _, h1, h2, h3, v, L, rfl, h5, h6⟩
section Go
variable {p : Program} {l : Launch} {e : Env} {R : Room} {s : State} {m : MethodId} {args : Array Value} {below : List Frame} {meth : Method} {c : Code} {T : State} {locs : List Loc} {cells slots : Nat} {Z : State} {a0 : Array Value} {h h' : Heap} {n0 : Nat} {En : Option Value → State → List Loc → Prop} {Q : Option Value → Heap → Prop}
variable {pc pc' pc1 pc2 : Nat} {Ls Ls' : Array Slot} {st : List Value}
theorem Go.mov {T' : State} {g g' : JFrame} (k : ∀ target, Steps p.tables e below (T'.setTop g') target → Steps p.tables e below (T.setTop g) target) (G : Go p e below En n0 Q T' g') : Go p e below En n0 Q T g := by
  obtain ⟨s₂, o, h1, r⟩ := G
  exact ⟨s₂, o, k _ h1, r⟩
theorem Go.movp {T' : State} {g g' : JFrame} (k : ∀ target, Steps p.tables e below (T'.setTop g') target → Steps p.tables e below (T.setTop g) target) (g'' : JFrame) (q : g' = g'') (G : Go p e below En n0 Q T' g'') : Go p e below En n0 Q T g := Go.mov k (q ▸ G)
theorem Go.cast {g g' : JFrame} (q : g = g') (G : Go p e below En n0 Q T g') : Go p e below En n0 Q T g := q ▸ G
theorem Go.imp {Q' : Option Value → Heap → Prop} {g : JFrame} (q : ∀ v h, Q v h → Q' v h) (G : Go p e below En n0 Q T g) : Go p e below En n0 Q' T g := by
  obtain ⟨s₂, o, h1, h2, h3, v, L, h4, ⟨h5, h6⟩, h7⟩ := G
  exact ⟨s₂, o, h1, h2, h3, v, L, h4, ⟨q _ _ h5, h6⟩, h7⟩
theorem g_iload (X : Stand p l e R s m args below meth c T locs cells slots) (hx : p.tables.exec = Jvm.exec) {k : Nat} {v : Int32} (hd : decode c.code pc = .ok (.iload k, 2)) (hp : pc + 2 = pc') (hl : Ls[k]? = some (.val (.int v))) (G : Go p e below En n0 Q T (mkF m pc' Ls (.int v :: st))) : Go p e below En n0 Q T (mkF m pc Ls (st)) := by
  subst hp
  exact Go.mov (fun _ k => XS.iload X.here hx rfl hd hl k) G
theorem g_iloadN (X : Stand p l e R s m args below meth c T locs cells slots) (hx : p.tables.exec = Jvm.exec) {k : Fin 4} {v : Int32} (hd : decode c.code pc = .ok (.iload_n k, 1)) (hp : pc + 1 = pc') (hl : Ls[k.val]? = some (.val (.int v))) (G : Go p e below En n0 Q T (mkF m pc' Ls (.int v :: st))) : Go p e below En n0 Q T (mkF m pc Ls (st)) := by
  subst hp
  exact Go.mov (fun _ k => XS.iloadN X.here hx rfl hd hl k) G
theorem g_aload (X : Stand p l e R s m args below meth c T locs cells slots) (hx : p.tables.exec = Jvm.exec) {k : Nat} {v : Value} (hd : decode c.code pc = .ok (.aload k, 2)) (hp : pc + 2 = pc') (hl : Ls[k]? = some (.val v)) (hv : v.isRef = true) (G : Go p e below En n0 Q T (mkF m pc' Ls (v :: st))) : Go p e below En n0 Q T (mkF m pc Ls (st)) := by
  subst hp
  exact Go.mov (fun _ k => XS.aload X.here hx rfl hd hl hv k) G
theorem g_aloadN (X : Stand p l e R s m args below meth c T locs cells slots) (hx : p.tables.exec = Jvm.exec) {k : Fin 4} {v : Value} (hd : decode c.code pc = .ok (.aload_n k, 1)) (hp : pc + 1 = pc') (hl : Ls[k.val]? = some (.val v)) (hv : v.isRef = true) (G : Go p e below En n0 Q T (mkF m pc' Ls (v :: st))) : Go p e below En n0 Q T (mkF m pc Ls (st)) := by
  subst hp
  exact Go.mov (fun _ k => XS.aloadN X.here hx rfl hd hl hv k) G
theorem g_istore (X : Stand p l e R s m args below meth c T locs cells slots) (hx : p.tables.exec = Jvm.exec) {k : Nat} {v : Int32} (hd : decode c.code pc = .ok (.istore k, 2)) (hp : pc + 2 = pc') (hl : storeLocals Ls k (.int v) = some Ls') (G : Go p e below En n0 Q T (mkF m pc' Ls' (st))) : Go p e below En n0 Q T (mkF m pc Ls (.int v :: st)) := by
  subst hp
  exact Go.mov (fun _ k => XS.istore X.here hx rfl hd rfl hl k) G
theorem g_istoreN (X : Stand p l e R s m args below meth c T locs cells slots) (hx : p.tables.exec = Jvm.exec) {k : Fin 4} {v : Int32} (hd : decode c.code pc = .ok (.istore_n k, 1)) (hp : pc + 1 = pc') (hl : storeLocals Ls k.val (.int v) = some Ls') (G : Go p e below En n0 Q T (mkF m pc' Ls' (st))) : Go p e below En n0 Q T (mkF m pc Ls (.int v :: st)) := by
  subst hp
  exact Go.mov (fun _ k => XS.istoreN X.here hx rfl hd rfl hl k) G
theorem g_astore (X : Stand p l e R s m args below meth c T locs cells slots) (hx : p.tables.exec = Jvm.exec) {k : Nat} {v : Value} (hd : decode c.code pc = .ok (.astore k, 2)) (hp : pc + 2 = pc') (hv : v.isRef = true) (hl : storeLocals Ls k v = some Ls') (G : Go p e below En n0 Q T (mkF m pc' Ls' (st))) : Go p e below En n0 Q T (mkF m pc Ls (v :: st)) := by
  subst hp
  exact Go.mov (fun _ k => XS.astore X.here hx rfl hd rfl hv hl k) G
theorem g_astoreN (X : Stand p l e R s m args below meth c T locs cells slots) (hx : p.tables.exec = Jvm.exec) {k : Fin 4} {v : Value} (hd : decode c.code pc = .ok (.astore_n k, 1)) (hp : pc + 1 = pc') (hv : v.isRef = true) (hl : storeLocals Ls k.val v = some Ls') (G : Go p e below En n0 Q T (mkF m pc' Ls' (st))) : Go p e below En n0 Q T (mkF m pc Ls (v :: st)) := by
  subst hp
  exact Go.mov (fun _ k => XS.astoreN X.here hx rfl hd rfl hv hl k) G
theorem g_iconst (X : Stand p l e R s m args below meth c T locs cells slots) (hx : p.tables.exec = Jvm.exec) {i : Int} {z : Int32} (hd : decode c.code pc = .ok (.iconst i, 1)) (hp : pc + 1 = pc') (hz : Int32.ofInt i = z) (G : Go p e below En n0 Q T (mkF m pc' Ls (.int z :: st))) : Go p e below En n0 Q T (mkF m pc Ls st) := by
  subst hp hz
  exact Go.mov (fun _ k => XS.iconst X.here hx rfl hd k) G
theorem g_bipush (X : Stand p l e R s m args below meth c T locs cells slots) (hx : p.tables.exec = Jvm.exec) {i : Int} {z : Int32} (hd : decode c.code pc = .ok (.bipush i, 2)) (hp : pc + 2 = pc') (hz : (Int8.ofInt i).toInt32 = z) (G : Go p e below En n0 Q T (mkF m pc' Ls (.int z :: st))) : Go p e below En n0 Q T (mkF m pc Ls st) := by
  subst hp hz
  exact Go.mov (fun _ k => XS.bipush X.here hx rfl hd k) G
theorem g_sipush (X : Stand p l e R s m args below meth c T locs cells slots) (hx : p.tables.exec = Jvm.exec) {i : Int} {z : Int32} (hd : decode c.code pc = .ok (.sipush i, 3)) (hp : pc + 3 = pc') (hz : (Int16.ofInt i).toInt32 = z) (G : Go p e below En n0 Q T (mkF m pc' Ls (.int z :: st))) : Go p e below En n0 Q T (mkF m pc Ls st) := by
  subst hp hz
  exact Go.mov (fun _ k => XS.sipush X.here hx rfl hd k) G
theorem g_aconst_null (X : Stand p l e R s m args below meth c T locs cells slots) (hx : p.tables.exec = Jvm.exec)  (hd : decode c.code pc = .ok (.aconst_null, 1)) (hp : pc + 1 = pc') (G : Go p e below En n0 Q T (mkF m pc' Ls (.null :: st))) : Go p e below En n0 Q T (mkF m pc Ls (st)) := by
  subst hp
  exact Go.mov (fun _ k => XS.aconstNull X.here hx rfl hd k) G
theorem g_isub (X : Stand p l e R s m args below meth c T locs cells slots) (hx : p.tables.exec = Jvm.exec) {x y : Int32} (hd : decode c.code pc = .ok (.isub, 1)) (hp : pc + 1 = pc') (G : Go p e below En n0 Q T (mkF m pc' Ls (.int (x - y) :: st))) : Go p e below En n0 Q T (mkF m pc Ls (.int y :: .int x :: st)) := by
  subst hp
  exact Go.mov (fun _ k => XS.isub X.here hx rfl hd rfl k) G
theorem g_iand (X : Stand p l e R s m args below meth c T locs cells slots) (hx : p.tables.exec = Jvm.exec) {x y : Int32} (hd : decode c.code pc = .ok (.iand, 1)) (hp : pc + 1 = pc') (G : Go p e below En n0 Q T (mkF m pc' Ls (.int (x &&& y) :: st))) : Go p e below En n0 Q T (mkF m pc Ls (.int y :: .int x :: st)) := by
  subst hp
  exact Go.mov (fun _ k => XS.iand X.here hx rfl hd rfl k) G
theorem g_ior (X : Stand p l e R s m args below meth c T locs cells slots) (hx : p.tables.exec = Jvm.exec) {x y : Int32} (hd : decode c.code pc = .ok (.ior, 1)) (hp : pc + 1 = pc') (G : Go p e below En n0 Q T (mkF m pc' Ls (.int (x ||| y) :: st))) : Go p e below En n0 Q T (mkF m pc Ls (.int y :: .int x :: st)) := by
  subst hp
  exact Go.mov (fun _ k => XS.ior X.here hx rfl hd rfl k) G
theorem g_ishl (X : Stand p l e R s m args below meth c T locs cells slots) (hx : p.tables.exec = Jvm.exec) {x y : Int32} (hd : decode c.code pc = .ok (.ishl, 1)) (hp : pc + 1 = pc') (G : Go p e below En n0 Q T (mkF m pc' Ls (.int (shl x y) :: st))) : Go p e below En n0 Q T (mkF m pc Ls (.int y :: .int x :: st)) := by
  subst hp
  exact Go.mov (fun _ k => XS.ishl X.here hx rfl hd rfl k) G
theorem g_ishr (X : Stand p l e R s m args below meth c T locs cells slots) (hx : p.tables.exec = Jvm.exec) {x y : Int32} (hd : decode c.code pc = .ok (.ishr, 1)) (hp : pc + 1 = pc') (G : Go p e below En n0 Q T (mkF m pc' Ls (.int (shr x y) :: st))) : Go p e below En n0 Q T (mkF m pc Ls (.int y :: .int x :: st)) := by
  subst hp
  exact Go.mov (fun _ k => XS.ishr X.here hx rfl hd rfl k) G
theorem g_iushr (X : Stand p l e R s m args below meth c T locs cells slots) (hx : p.tables.exec = Jvm.exec) {x y : Int32} (hd : decode c.code pc = .ok (.iushr, 1)) (hp : pc + 1 = pc') (G : Go p e below En n0 Q T (mkF m pc' Ls (.int (ushr x y) :: st))) : Go p e below En n0 Q T (mkF m pc Ls (.int y :: .int x :: st)) := by
  subst hp
  exact Go.mov (fun _ k => XS.iushr X.here hx rfl hd rfl k) G
theorem g_i2b (X : Stand p l e R s m args below meth c T locs cells slots) (hx : p.tables.exec = Jvm.exec) {x : Int32} (hd : decode c.code pc = .ok (.i2b, 1)) (hp : pc + 1 = pc') (G : Go p e below En n0 Q T (mkF m pc' Ls (.int (byt x) :: st))) : Go p e below En n0 Q T (mkF m pc Ls (.int x :: st)) := by
  subst hp
  exact Go.mov (fun _ k => XS.i2b X.here hx rfl hd rfl k) G
theorem g_i2c (X : Stand p l e R s m args below meth c T locs cells slots) (hx : p.tables.exec = Jvm.exec) {x : Int32} (hd : decode c.code pc = .ok (.i2c, 1)) (hp : pc + 1 = pc') (G : Go p e below En n0 Q T (mkF m pc' Ls (.int (chr x) :: st))) : Go p e below En n0 Q T (mkF m pc Ls (.int x :: st)) := by
  subst hp
  exact Go.mov (fun _ k => XS.i2c X.here hx rfl hd rfl k) G
theorem g_irem (X : Stand p l e R s m args below meth c T locs cells slots) (hx : p.tables.exec = Jvm.exec) {x y : Int32} (hd : decode c.code pc = .ok (.irem, 1)) (hp : pc + 1 = pc') (hy : y ≠ 0) (G : Go p e below En n0 Q T (mkF m pc' Ls (.int (x % y) :: st))) : Go p e below En n0 Q T (mkF m pc Ls (.int y :: .int x :: st)) := by
  subst hp
  exact Go.mov (fun _ k => iremM X hx rfl hd rfl hy k) G
theorem g_dup (X : Stand p l e R s m args below meth c T locs cells slots) (hx : p.tables.exec = Jvm.exec) {x : Value} (hd : decode c.code pc = .ok (.dup, 1)) (hp : pc + 1 = pc') (hc : x.category = 1) (G : Go p e below En n0 Q T (mkF m pc' Ls (x :: x :: st))) : Go p e below En n0 Q T (mkF m pc Ls (x :: st)) := by
  subst hp
  exact Go.mov (fun _ k => XS.dup X.here hx rfl hd rfl hc k) G
theorem g_pop (X : Stand p l e R s m args below meth c T locs cells slots) (hx : p.tables.exec = Jvm.exec) {x : Value} (hd : decode c.code pc = .ok (.pop, 1)) (hp : pc + 1 = pc') (hc : x.category = 1) (G : Go p e below En n0 Q T (mkF m pc' Ls (st))) : Go p e below En n0 Q T (mkF m pc Ls (x :: st)) := by
  subst hp
  exact Go.mov (fun _ k => XS.pop X.here hx rfl hd rfl hc k) G
theorem g_iinc (X : Stand p l e R s m args below meth c T locs cells slots) (hx : p.tables.exec = Jvm.exec) {k : Nat} {cst : Int} {v z : Int32} (hd : decode c.code pc = .ok (.iinc k cst, 3)) (hp : pc + 3 = pc') (hl : Ls[k]? = some (.val (.int v))) (hz : Int32.ofInt cst = z) (hl' : storeLocals Ls k (.int (v + z)) = some Ls') (G : Go p e below En n0 Q T (mkF m pc' Ls' st)) : Go p e below En n0 Q T (mkF m pc Ls st) := by
  subst hp hz
  exact Go.mov (fun _ k => XS.iinc X.here hx rfl hd hl hl' k) G
theorem g_goto (X : Stand p l e R s m args below meth c T locs cells slots) (hx : p.tables.exec = Jvm.exec) {o : Int} (hd : decode c.code pc = .ok (.goto o, 3)) (ho : 0 ≤ (pc : Int) + o) (hp : ((pc : Int) + o).toNat = pc') (G : Go p e below En n0 Q T (mkF m pc' Ls st)) : Go p e below En n0 Q T (mkF m pc Ls st) :=
  Go.mov (fun _ k => XS.goto X.here hx rfl rfl hd ho hp k) G
theorem g_icmp_lt (X : Stand p l e R s m args below meth c T locs cells slots) (hx : p.tables.exec = Jvm.exec) {x y : Int32} {o : Int} (hd : decode c.code pc = .ok (.if_icmp .lt o, 3)) (hp1 : pc1 = pc + 3) (ho : 0 ≤ (pc : Int) + o) (hp2 : ((pc : Int) + o).toNat = pc2) (G2 : (x < y) → Go p e below En n0 Q T (mkF m pc2 Ls st)) (G1 : (¬ x < y) → Go p e below En n0 Q T (mkF m pc1 Ls st)) : Go p e below En n0 Q T (mkF m pc Ls (.int y :: .int x :: st)) := by
  by_cases q : x < y
  · exact Go.mov (fun _ k => XS.icmpYes X.here hx rfl rfl hd rfl (tlt q).1 ho hp2 k) (G2 q)
  · exact Go.mov (fun _ k => XS.icmpNo X.here hx rfl hd rfl (flt q).1 (hp1 ▸ k)) (G1 q)
theorem g_if_lt (X : Stand p l e R s m args below meth c T locs cells slots) (hx : p.tables.exec = Jvm.exec) {x : Int32} {o : Int} (hd : decode c.code pc = .ok (.ifCond .lt o, 3)) (hp1 : pc1 = pc + 3) (ho : 0 ≤ (pc : Int) + o) (hp2 : ((pc : Int) + o).toNat = pc2) (G2 : (x < (0 : Int32)) → Go p e below En n0 Q T (mkF m pc2 Ls st)) (G1 : (¬ x < (0 : Int32)) → Go p e below En n0 Q T (mkF m pc1 Ls st)) : Go p e below En n0 Q T (mkF m pc Ls (.int x :: st)) := by
  by_cases q : x < (0 : Int32)
  · exact Go.mov (fun _ k => XS.ifYes X.here hx rfl rfl hd rfl ((if0 _ _).trans (tlt q).1) ho hp2 k) (G2 q)
  · exact Go.mov (fun _ k => XS.ifNo X.here hx rfl hd rfl ((if0 _ _).trans (flt q).1) (hp1 ▸ k)) (G1 q)
theorem g_icmp_ge (X : Stand p l e R s m args below meth c T locs cells slots) (hx : p.tables.exec = Jvm.exec) {x y : Int32} {o : Int} (hd : decode c.code pc = .ok (.if_icmp .ge o, 3)) (hp1 : pc1 = pc + 3) (ho : 0 ≤ (pc : Int) + o) (hp2 : ((pc : Int) + o).toNat = pc2) (G2 : (¬ x < y) → Go p e below En n0 Q T (mkF m pc2 Ls st)) (G1 : (x < y) → Go p e below En n0 Q T (mkF m pc1 Ls st)) : Go p e below En n0 Q T (mkF m pc Ls (.int y :: .int x :: st)) := by
  by_cases q : x < y
  · exact Go.mov (fun _ k => XS.icmpNo X.here hx rfl hd rfl (tlt q).2.1 (hp1 ▸ k)) (G1 q)
  · exact Go.mov (fun _ k => XS.icmpYes X.here hx rfl rfl hd rfl (flt q).2.1 ho hp2 k) (G2 q)
theorem g_if_ge (X : Stand p l e R s m args below meth c T locs cells slots) (hx : p.tables.exec = Jvm.exec) {x : Int32} {o : Int} (hd : decode c.code pc = .ok (.ifCond .ge o, 3)) (hp1 : pc1 = pc + 3) (ho : 0 ≤ (pc : Int) + o) (hp2 : ((pc : Int) + o).toNat = pc2) (G2 : (¬ x < (0 : Int32)) → Go p e below En n0 Q T (mkF m pc2 Ls st)) (G1 : (x < (0 : Int32)) → Go p e below En n0 Q T (mkF m pc1 Ls st)) : Go p e below En n0 Q T (mkF m pc Ls (.int x :: st)) := by
  by_cases q : x < (0 : Int32)
  · exact Go.mov (fun _ k => XS.ifNo X.here hx rfl hd rfl ((if0 _ _).trans (tlt q).2.1) (hp1 ▸ k)) (G1 q)
  · exact Go.mov (fun _ k => XS.ifYes X.here hx rfl rfl hd rfl ((if0 _ _).trans (flt q).2.1) ho hp2 k) (G2 q)
theorem g_icmp_gt (X : Stand p l e R s m args below meth c T locs cells slots) (hx : p.tables.exec = Jvm.exec) {x y : Int32} {o : Int} (hd : decode c.code pc = .ok (.if_icmp .gt o, 3)) (hp1 : pc1 = pc + 3) (ho : 0 ≤ (pc : Int) + o) (hp2 : ((pc : Int) + o).toNat = pc2) (G2 : (y < x) → Go p e below En n0 Q T (mkF m pc2 Ls st)) (G1 : (¬ y < x) → Go p e below En n0 Q T (mkF m pc1 Ls st)) : Go p e below En n0 Q T (mkF m pc Ls (.int y :: .int x :: st)) := by
  by_cases q : y < x
  · exact Go.mov (fun _ k => XS.icmpYes X.here hx rfl rfl hd rfl (tlt q).2.2.1 ho hp2 k) (G2 q)
  · exact Go.mov (fun _ k => XS.icmpNo X.here hx rfl hd rfl (flt q).2.2.1 (hp1 ▸ k)) (G1 q)
theorem g_icmp_le (X : Stand p l e R s m args below meth c T locs cells slots) (hx : p.tables.exec = Jvm.exec) {x y : Int32} {o : Int} (hd : decode c.code pc = .ok (.if_icmp .le o, 3)) (hp1 : pc1 = pc + 3) (ho : 0 ≤ (pc : Int) + o) (hp2 : ((pc : Int) + o).toNat = pc2) (G2 : (¬ y < x) → Go p e below En n0 Q T (mkF m pc2 Ls st)) (G1 : (y < x) → Go p e below En n0 Q T (mkF m pc1 Ls st)) : Go p e below En n0 Q T (mkF m pc Ls (.int y :: .int x :: st)) := by
  by_cases q : y < x
  · exact Go.mov (fun _ k => XS.icmpNo X.here hx rfl hd rfl (tlt q).2.2.2 (hp1 ▸ k)) (G1 q)
  · exact Go.mov (fun _ k => XS.icmpYes X.here hx rfl rfl hd rfl (flt q).2.2.2 ho hp2 k) (G2 q)
theorem g_if_le (X : Stand p l e R s m args below meth c T locs cells slots) (hx : p.tables.exec = Jvm.exec) {x : Int32} {o : Int} (hd : decode c.code pc = .ok (.ifCond .le o, 3)) (hp1 : pc1 = pc + 3) (ho : 0 ≤ (pc : Int) + o) (hp2 : ((pc : Int) + o).toNat = pc2) (G2 : (¬ (0 : Int32) < x) → Go p e below En n0 Q T (mkF m pc2 Ls st)) (G1 : ((0 : Int32) < x) → Go p e below En n0 Q T (mkF m pc1 Ls st)) : Go p e below En n0 Q T (mkF m pc Ls (.int x :: st)) := by
  by_cases q : (0 : Int32) < x
  · exact Go.mov (fun _ k => XS.ifNo X.here hx rfl hd rfl ((if0 _ _).trans (tlt q).2.2.2) (hp1 ▸ k)) (G1 q)
  · exact Go.mov (fun _ k => XS.ifYes X.here hx rfl rfl hd rfl ((if0 _ _).trans (flt q).2.2.2) ho hp2 k) (G2 q)
theorem g_icmp_eq (X : Stand p l e R s m args below meth c T locs cells slots) (hx : p.tables.exec = Jvm.exec) {x y : Int32} {o : Int} (hd : decode c.code pc = .ok (.if_icmp .eq o, 3)) (hp1 : pc1 = pc + 3) (ho : 0 ≤ (pc : Int) + o) (hp2 : ((pc : Int) + o).toNat = pc2) (G2 : (x = y) → Go p e below En n0 Q T (mkF m pc2 Ls st)) (G1 : (¬ x = y) → Go p e below En n0 Q T (mkF m pc1 Ls st)) : Go p e below En n0 Q T (mkF m pc Ls (.int y :: .int x :: st)) := by
  by_cases q : x = y
  · exact Go.mov (fun _ k => XS.icmpYes X.here hx rfl rfl hd rfl (teq q).1 ho hp2 k) (G2 q)
  · exact Go.mov (fun _ k => XS.icmpNo X.here hx rfl hd rfl (feq q).1 (hp1 ▸ k)) (G1 q)
theorem g_if_eq (X : Stand p l e R s m args below meth c T locs cells slots) (hx : p.tables.exec = Jvm.exec) {x : Int32} {o : Int} (hd : decode c.code pc = .ok (.ifCond .eq o, 3)) (hp1 : pc1 = pc + 3) (ho : 0 ≤ (pc : Int) + o) (hp2 : ((pc : Int) + o).toNat = pc2) (G2 : (x = (0 : Int32)) → Go p e below En n0 Q T (mkF m pc2 Ls st)) (G1 : (¬ x = (0 : Int32)) → Go p e below En n0 Q T (mkF m pc1 Ls st)) : Go p e below En n0 Q T (mkF m pc Ls (.int x :: st)) := by
  by_cases q : x = (0 : Int32)
  · exact Go.mov (fun _ k => XS.ifYes X.here hx rfl rfl hd rfl ((if0 _ _).trans (teq q).1) ho hp2 k) (G2 q)
  · exact Go.mov (fun _ k => XS.ifNo X.here hx rfl hd rfl ((if0 _ _).trans (feq q).1) (hp1 ▸ k)) (G1 q)
theorem g_icmp_ne (X : Stand p l e R s m args below meth c T locs cells slots) (hx : p.tables.exec = Jvm.exec) {x y : Int32} {o : Int} (hd : decode c.code pc = .ok (.if_icmp .ne o, 3)) (hp1 : pc1 = pc + 3) (ho : 0 ≤ (pc : Int) + o) (hp2 : ((pc : Int) + o).toNat = pc2) (G2 : (¬ x = y) → Go p e below En n0 Q T (mkF m pc2 Ls st)) (G1 : (x = y) → Go p e below En n0 Q T (mkF m pc1 Ls st)) : Go p e below En n0 Q T (mkF m pc Ls (.int y :: .int x :: st)) := by
  by_cases q : x = y
  · exact Go.mov (fun _ k => XS.icmpNo X.here hx rfl hd rfl (teq q).2 (hp1 ▸ k)) (G1 q)
  · exact Go.mov (fun _ k => XS.icmpYes X.here hx rfl rfl hd rfl (feq q).2 ho hp2 k) (G2 q)
theorem g_if_ne (X : Stand p l e R s m args below meth c T locs cells slots) (hx : p.tables.exec = Jvm.exec) {x : Int32} {o : Int} (hd : decode c.code pc = .ok (.ifCond .ne o, 3)) (hp1 : pc1 = pc + 3) (ho : 0 ≤ (pc : Int) + o) (hp2 : ((pc : Int) + o).toNat = pc2) (G2 : (¬ x = (0 : Int32)) → Go p e below En n0 Q T (mkF m pc2 Ls st)) (G1 : (x = (0 : Int32)) → Go p e below En n0 Q T (mkF m pc1 Ls st)) : Go p e below En n0 Q T (mkF m pc Ls (.int x :: st)) := by
  by_cases q : x = (0 : Int32)
  · exact Go.mov (fun _ k => XS.ifNo X.here hx rfl hd rfl ((if0 _ _).trans (teq q).2) (hp1 ▸ k)) (G1 q)
  · exact Go.mov (fun _ k => XS.ifYes X.here hx rfl rfl hd rfl ((if0 _ _).trans (feq q).2) ho hp2 k) (G2 q)
theorem g_ifnonnull_y (X : Stand p l e R s m args below meth c T locs cells slots) (hx : p.tables.exec = Jvm.exec) {b : Addr} {o : Int} (hd : decode c.code pc = .ok (.ifnonnull o, 3)) (ho : 0 ≤ (pc : Int) + o) (hp : ((pc : Int) + o).toNat = pc') (G : Go p e below En n0 Q T (mkF m pc' Ls st)) : Go p e below En n0 Q T (mkF m pc Ls (.ref b :: st)) :=
  Go.mov (fun _ k => XS.ifnonnullYes X.here hx rfl rfl hd rfl ho hp k) G
theorem g_ifnonnull_n (X : Stand p l e R s m args below meth c T locs cells slots) (hx : p.tables.exec = Jvm.exec) {o : Int} (hd : decode c.code pc = .ok (.ifnonnull o, 3)) (hp : pc + 3 = pc') (G : Go p e below En n0 Q T (mkF m pc' Ls st)) : Go p e below En n0 Q T (mkF m pc Ls (.null :: st)) := by
  subst hp
  exact Go.mov (fun _ k => XS.ifnonnullNo X.here hx rfl hd rfl k) G
theorem g_ldc (X : Stand p l e R s m args below meth c T locs cells slots) (hx : p.tables.exec = Jvm.exec) (hZ : Z.Warmed39 s.vm) {own : String} {i : Nat} {v : Int32} (hown : s.vm.findClass own = some m.cls) (w : (Jvm.Cond.constant own i v).before a0 Z = true) (hd : decode c.code pc = .ok (.ldc i, 2)) (hp : pc + 2 = pc') (G : Go p e below En n0 Q T (mkF m pc' Ls (.int v :: st))) : Go p e below En n0 Q T (mkF m pc Ls st) := by
  subst hp
  exact Go.mov (X.ldcInt hx hown (mvT hZ w) rfl hd) G
theorem g_return (X : Stand p l e R s m args below meth c T locs cells slots) (hx : p.tables.exec = Jvm.exec) (hr : meth.sig.returnType = none) (hd : decode c.code pc = .ok (.return_, 1)) (N : Fr n0 locs) (hlk : meth.locks = false) (hE : ∀ v t, t.heap = T.heap → s.WarmedH t.vm → s.sameButNew ({ t with vm := s.vm } : State) locs cells slots → En v t locs) (hQ : Q none T.heap) : Go p e below En n0 Q T (mkF m pc Ls []) := by
  obtain ⟨fs, hr1, hrun, hended, hW, hsame⟩ := X.leave (v := none) (fun _ => rfl) hlk
  exact ⟨_, _, X.returnOut hx hr hd hr1, hrun, hended, _, _, rfl, ⟨hQ, N⟩, hE _ _ rfl hW hsame⟩
theorem g_ireturn (X : Stand p l e R s m args below meth c T locs cells slots) (hx : p.tables.exec = Jvm.exec) {z : Int32} (hr : meth.sig.returnType = some .int) (hd : decode c.code pc = .ok (.ireturn, 1)) (N : Fr n0 locs) (hlk : meth.locks = false) (hE : ∀ v t, t.heap = T.heap → s.WarmedH t.vm → s.sameButNew ({ t with vm := s.vm } : State) locs cells slots → En v t locs) (hQ : Q (some (.int z)) T.heap) : Go p e below En n0 Q T (mkF m pc Ls (.int z :: st)) := by
  obtain ⟨fs, hr1, hrun, hended, hW, hsame⟩ := X.leave (v := some (.int z)) (fun h => by rw [hr] at h; cases h) hlk
  exact ⟨_, _, retOut X hx hr rfl (Or.inl ⟨rfl, Or.inl rfl, z, rfl⟩) hd hr1, hrun, hended, _, _, rfl, ⟨hQ, N⟩, hE _ _ rfl hW hsame⟩
theorem g_areturn (X : Stand p l e R s m args below meth c T locs cells slots) (hx : p.tables.exec = Jvm.exec) {v : Value} {t : FieldType} (ht : t.isReference = true) (hv : v.isRef = true) (hr : meth.sig.returnType = some t) (hd : decode c.code pc = .ok (.areturn, 1)) (N : Fr n0 locs) (hlk : meth.locks = false) (hE : ∀ v t, t.heap = T.heap → s.WarmedH t.vm → s.sameButNew ({ t with vm := s.vm } : State) locs cells slots → En v t locs) (hQ : Q (some (v)) T.heap) : Go p e below En n0 Q T (mkF m pc Ls (v :: st)) := by
  obtain ⟨fs, hr1, hrun, hended, hW, hsame⟩ := X.leave (v := some (v)) (fun h => by rw [hr] at h; cases h) hlk
  exact ⟨_, _, retOut X hx hr (by cases t <;> first | rfl | (cases ht; done)) (Or.inr (Or.inr (Or.inr (Or.inr ⟨rfl, ht, hv⟩)))) hd hr1, hrun, hended, _, _, rfl, ⟨hQ, N⟩, hE _ _ rfl hW hsame⟩
theorem g_zreturn (X : Stand p l e R s m args below meth c T locs cells slots) (hx : p.tables.exec = Jvm.exec) {z : Int32} (hn : narrow .boolean (.int z) = .int z) (hr : meth.sig.returnType = some .boolean) (hd : decode c.code pc = .ok (.ireturn, 1)) (N : Fr n0 locs) (hlk : meth.locks = false) (hE : ∀ v t, t.heap = T.heap → s.WarmedH t.vm → s.sameButNew ({ t with vm := s.vm } : State) locs cells slots → En v t locs) (hQ : Q (some (.int z)) T.heap) : Go p e below En n0 Q T (mkF m pc Ls (.int z :: st)) := by
  obtain ⟨fs, hr1, hrun, hended, hW, hsame⟩ := X.leave (v := some (.int z)) (fun h => by rw [hr] at h; cases h) hlk
  exact ⟨_, _, retOut X hx hr hn (Or.inl ⟨rfl, by simp, z, rfl⟩) hd hr1, hrun, hended, _, _, rfl, ⟨hQ, N⟩, hE _ _ rfl hW hsame⟩
theorem g_breturn (X : Stand p l e R s m args below meth c T locs cells slots) (hx : p.tables.exec = Jvm.exec) {z : Int32} (hn : narrow .byte (.int z) = .int z) (hr : meth.sig.returnType = some .byte) (hd : decode c.code pc = .ok (.ireturn, 1)) (N : Fr n0 locs) (hlk : meth.locks = false) (hE : ∀ v t, t.heap = T.heap → s.WarmedH t.vm → s.sameButNew ({ t with vm := s.vm } : State) locs cells slots → En v t locs) (hQ : Q (some (.int z)) T.heap) : Go p e below En n0 Q T (mkF m pc Ls (.int z :: st)) := by
  obtain ⟨fs, hr1, hrun, hended, hW, hsame⟩ := X.leave (v := some (.int z)) (fun h => by rw [hr] at h; cases h) hlk
  exact ⟨_, _, retOut X hx hr hn (Or.inl ⟨rfl, by simp, z, rfl⟩) hd hr1, hrun, hended, _, _, rfl, ⟨hQ, N⟩, hE _ _ rfl hW hsame⟩
theorem g_creturn (X : Stand p l e R s m args below meth c T locs cells slots) (hx : p.tables.exec = Jvm.exec) {z : Int32} (hn : narrow .char (.int z) = .int z) (hr : meth.sig.returnType = some .char) (hd : decode c.code pc = .ok (.ireturn, 1)) (N : Fr n0 locs) (hlk : meth.locks = false) (hE : ∀ v t, t.heap = T.heap → s.WarmedH t.vm → s.sameButNew ({ t with vm := s.vm } : State) locs cells slots → En v t locs) (hQ : Q (some (.int z)) T.heap) : Go p e below En n0 Q T (mkF m pc Ls (.int z :: st)) := by
  obtain ⟨fs, hr1, hrun, hended, hW, hsame⟩ := X.leave (v := some (.int z)) (fun h => by rw [hr] at h; cases h) hlk
  exact ⟨_, _, retOut X hx hr hn (Or.inl ⟨rfl, by simp, z, rfl⟩) hd hr1, hrun, hended, _, _, rfl, ⟨hQ, N⟩, hE _ _ rfl hW hsame⟩
end Go
/-! arrays: every component is known -/
def Va (Z : State) (h : Heap) (a : Addr) (ty : FieldType) (vs : List Value) : Prop := ∃ c : Cell, Arr Z h a c ty ∧ c.slots.toList = vs
section Arrays
variable {p : Program} {l : Launch} {e : Env} {R : Room} {s : State} {m : MethodId} {args : Array Value} {below : List Frame} {meth : Method} {c : Code} {T : State} {locs : List Loc} {cells slots : Nat} {Z : State} {a0 : Array Value} {h h' : Heap} {n0 : Nat} {En : Option Value → State → List Loc → Prop} {Q : Option Value → Heap → Prop}
variable {pc pc' : Nat} {Ls : Array Slot} {st : List Value} {a b : Addr} {ty : FieldType} {vs : List Value} {v w : Value} {sl : Nat} {ws : List Addr}
theorem Va.lt (F : Va Z h a ty vs) : a < h.size := by obtain ⟨c, A, -⟩ := F; exact A.lt
theorem Va.ext (F : Va Z h a ty vs) (E : Ext h h') : Va Z h' a ty vs := by obtain ⟨c, A, r⟩ := F; exact ⟨c, A.ext E, r⟩
theorem Va.other (F : Va Z h b ty vs) (W : Wr h h' a sl v) (q : b ≠ a) : Va Z h' b ty vs := by obtain ⟨c, A, r⟩ := F; exact ⟨c, A.other W q, r⟩
theorem Va.keep (F : Va Z h a ty vs) (K : Keep h h' ws) (q : a ∉ ws) : Va Z h' a ty vs := by obtain ⟨c, A, r⟩ := F; exact ⟨c, ⟨K.2.1 a c A.1 q, A.2⟩, r⟩
theorem Va.same (F : Va Z h a ty vs) (W : Wr h h' a sl v) : Va Z h' a ty (vs.set sl v) := by
  obtain ⟨c, A, rfl⟩ := F
  exact ⟨_, A.same W, by simp [Cell.setSlot]⟩
theorem Va.eq (F : Va Z h a ty vs) {vs' : List Value} (q : vs = vs') : Va Z h a ty vs' := q ▸ F
theorem Va.len (F : Va Z h a ty vs) : ∃ c : Cell, Arr Z h a c ty ∧ c.slots.size = vs.length ∧ ∀ i : Nat, c.slots[i]? = vs[i]? := by
  obtain ⟨c, A, rfl⟩ := F
  exact ⟨c, A, by simp, fun i => by simp⟩
theorem Va.new {cA : ClassId} {n : Int32} {k : Nat} (A : Arr Z h a (newA cA ty n) ty) (hk : n.toNatClampNeg = k) : Va Z h a ty (List.replicate k (defaultValue ty)) := ⟨_, A, by simp [newA, hk]⟩
theorem inV {c : Cell} {j : Int32} {i : Nat} (hs : c.slots.size = vs.length) (hj : ¬ j < 0) (hi : j.toNatClampNeg = i) (hv : vs[i]? = some v) : ¬ (j < 0 ∨ c.slots.size ≤ j.toNatClampNeg) := by
  rintro (q | q)
  · exact hj q
  · rw [hs, hi] at q
    rw [List.getElem?_eq_none q] at hv
    cases hv
theorem g_baload (X : Stand p l e R s m args below meth c T locs cells slots) (hx : p.tables.exec = Jvm.exec) (hZ : Z.Warmed39 s.vm) (eT : T.heap = h) (F : Va Z h a .byte vs) {j : Int32} {i : Nat} (hd : decode c.code pc = .ok (.baload, 1)) (hp : pc + 1 = pc') (hj : ¬ j < 0) (hi : j.toNatClampNeg = i) (hv : vs[i]? = some v) (G : Go p e below En n0 Q T (mkF m pc' Ls (v :: st))) : Go p e below En n0 Q T (mkF m pc Ls (.int j :: .ref a :: st)) := by
  subst hp eT
  obtain ⟨cl, A, hs, hat⟩ := F.len
  have hv' : cl.slots[j.toNatClampNeg]? = some v := by rw [hat, hi]; exact hv
  exact Go.mov (fun t k => X.baloadBytes hx (j := j) (v := v) A.1 (State.isArrayOf_alike hZ.alike A.2.1) A.2.2 (inV hs hj hi hv) hv' (g := mkF m pc Ls (.int j :: .ref a :: st)) rfl rfl hd t k) G
theorem g_caload (X : Stand p l e R s m args below meth c T locs cells slots) (hx : p.tables.exec = Jvm.exec) (hZ : Z.Warmed39 s.vm) (eT : T.heap = h) (F : Va Z h a .char vs) {j : Int32} {i : Nat} (hd : decode c.code pc = .ok (.caload, 1)) (hp : pc + 1 = pc') (hj : ¬ j < 0) (hi : j.toNatClampNeg = i) (hv : vs[i]? = some v) (G : Go p e below En n0 Q T (mkF m pc' Ls (v :: st))) : Go p e below En n0 Q T (mkF m pc Ls (.int j :: .ref a :: st)) := by
  subst hp eT
  obtain ⟨cl, A, hs, hat⟩ := F.len
  have hv' : cl.slots[j.toNatClampNeg]? = some v := by rw [hat, hi]; exact hv
  exact Go.mov (fun t k => X.caload hx (j := j) (v := v) A.1 (State.isArrayOf_alike hZ.alike A.2.1) A.2.2 (inV hs hj hi hv) hv' (g := mkF m pc Ls (.int j :: .ref a :: st)) rfl rfl hd t k) G
theorem g_iaload (X : Stand p l e R s m args below meth c T locs cells slots) (hx : p.tables.exec = Jvm.exec) (hZ : Z.Warmed39 s.vm) (eT : T.heap = h) (F : Va Z h a .int vs) {j : Int32} {i : Nat} (hd : decode c.code pc = .ok (.iaload, 1)) (hp : pc + 1 = pc') (hj : ¬ j < 0) (hi : j.toNatClampNeg = i) (hv : vs[i]? = some v) (G : Go p e below En n0 Q T (mkF m pc' Ls (v :: st))) : Go p e below En n0 Q T (mkF m pc Ls (.int j :: .ref a :: st)) := by
  subst hp eT
  obtain ⟨cl, A, hs, hat⟩ := F.len
  have hv' : cl.slots[j.toNatClampNeg]? = some v := by rw [hat, hi]; exact hv
  exact Go.mov (fun t k => X.iaload hx (j := j) (v := v) A.1 (State.isArrayOf_alike hZ.alike A.2.1) A.2.2 (inV hs hj hi hv) hv' (g := mkF m pc Ls (.int j :: .ref a :: st)) rfl rfl hd t k) G
theorem g_arraylength (X : Stand p l e R s m args below meth c T locs cells slots) (hx : p.tables.exec = Jvm.exec) (hZ : Z.Warmed39 s.vm) (eT : T.heap = h) (F : Va Z h a ty vs) {z : Int32} (hd : decode c.code pc = .ok (.arraylength, 1)) (hp : pc + 1 = pc') (hz : vs.length.toInt32 = z) (G : Go p e below En n0 Q T (mkF m pc' Ls (.int z :: st))) : Go p e below En n0 Q T (mkF m pc Ls (.ref a :: st)) := by
  subst hp eT
  obtain ⟨cl, A, hs, hat⟩ := F.len
  subst hz
  rw [← hs] at G
  exact Go.mov (fun t k => X.arraylength hx A.1 (State.isArrayOf_alike hZ.alike A.2.1) (g := mkF m pc Ls (.ref a :: st)) rfl rfl hd t k) G
theorem h_bastore (X : Stand p l e R s m args below meth c T locs cells slots) (hx : p.tables.exec = Jvm.exec) (hZ : Z.Warmed39 s.vm) (eT : T.heap = h) (N : Fr n0 locs) (F : Va Z h a .byte vs) (hn : n0 ≤ a) {j : Int32} {i : Nat} {x : Int32} {v : Value} (hd : decode c.code pc = .ok (.bastore, 1)) (hj : ¬ j < 0) (hi : j.toNatClampNeg = i) (hv : vs[i]? = some v) (Ls : Array Slot) (st : List Value) :
    ∃ T' h' L, Stand p l e R s m args below meth c T' L cells slots ∧ T'.heap = h' ∧ Fr n0 L ∧ Wr h h' a i (.int (byt x)) ∧ Va Z h' a .byte (vs.set i (.int (byt x))) ∧ ∀ target, Steps p.tables e below (T'.setTop (mkF m (pc + 1) Ls st)) target → Steps p.tables e below (T.setTop (mkF m pc Ls (.int x :: .int j :: .ref a :: st))) target := by
  obtain ⟨cl, A, hs, hat⟩ := F.len
  obtain ⟨T', h', X', e', W, k⟩ := stB X hx hZ eT A (j := j) (inV hs hj hi hv) (g := mkF m pc Ls (.int x :: .int j :: .ref a :: st)) rfl rfl hd
  subst hi
  exact ⟨T', h', _, X', e', Fr.snoc X' N hn, W, F.same W, k⟩
theorem h_castore (X : Stand p l e R s m args below meth c T locs cells slots) (hx : p.tables.exec = Jvm.exec) (hZ : Z.Warmed39 s.vm) (eT : T.heap = h) (N : Fr n0 locs) (F : Va Z h a .char vs) (hn : n0 ≤ a) {j : Int32} {i : Nat} {x : Int32} {v : Value} (hd : decode c.code pc = .ok (.castore, 1)) (hj : ¬ j < 0) (hi : j.toNatClampNeg = i) (hv : vs[i]? = some v) (Ls : Array Slot) (st : List Value) :
    ∃ T' h' L, Stand p l e R s m args below meth c T' L cells slots ∧ T'.heap = h' ∧ Fr n0 L ∧ Wr h h' a i (.int (chr x)) ∧ Va Z h' a .char (vs.set i (.int (chr x))) ∧ ∀ target, Steps p.tables e below (T'.setTop (mkF m (pc + 1) Ls st)) target → Steps p.tables e below (T.setTop (mkF m pc Ls (.int x :: .int j :: .ref a :: st))) target := by
  obtain ⟨cl, A, hs, hat⟩ := F.len
  obtain ⟨T', h', X', e', W, k⟩ := stC X hx hZ eT A (j := j) (inV hs hj hi hv) (g := mkF m pc Ls (.int x :: .int j :: .ref a :: st)) rfl rfl hd
  subst hi
  exact ⟨T', h', _, X', e', Fr.snoc X' N hn, W, F.same W, k⟩
theorem h_iastore (X : Stand p l e R s m args below meth c T locs cells slots) (hx : p.tables.exec = Jvm.exec) (hZ : Z.Warmed39 s.vm) (eT : T.heap = h) (N : Fr n0 locs) (F : Va Z h a .int vs) (hn : n0 ≤ a) {j : Int32} {i : Nat} {x : Int32} {v : Value} (hd : decode c.code pc = .ok (.iastore, 1)) (hj : ¬ j < 0) (hi : j.toNatClampNeg = i) (hv : vs[i]? = some v) (Ls : Array Slot) (st : List Value) :
    ∃ T' h' L, Stand p l e R s m args below meth c T' L cells slots ∧ T'.heap = h' ∧ Fr n0 L ∧ Wr h h' a i (.int x) ∧ Va Z h' a .int (vs.set i (.int x)) ∧ ∀ target, Steps p.tables e below (T'.setTop (mkF m (pc + 1) Ls st)) target → Steps p.tables e below (T.setTop (mkF m pc Ls (.int x :: .int j :: .ref a :: st))) target := by
  obtain ⟨cl, A, hs, hat⟩ := F.len
  obtain ⟨T', h', X', e', W, k⟩ := stI X hx hZ eT A (j := j) (inV hs hj hi hv) (g := mkF m pc Ls (.int x :: .int j :: .ref a :: st)) rfl rfl hd
  subst hi
  exact ⟨T', h', _, X', e', Fr.snoc X' N hn, W, F.same W, k⟩
theorem h_newarray (X : Stand p l e R s m args below meth c T locs cells slots) (hx : p.tables.exec = Jvm.exec) (hZ : Z.Warmed39 s.vm) (eT : T.heap = h) {aty : ArrayType} {ty : FieldType} (hty : newarray.typeOf aty = ty) (w : (Jvm.Cond.arrayClass ty).before a0 Z = true) {n : Int32} {k cap : Nat} (hd : decode c.code pc = .ok (.newarray aty, 2)) (hn : ¬ n < 0) (hk : n.toNatClampNeg = k) (hcap : k ≤ cap) (hb : cap * 8 ≤ 536870912) (hc : cells + 1 ≤ R.cells) (hl : slots + cap ≤ R.slots) {ad : String} (had : "[" ++ ty.toString = ad) (Ls : Array Slot) (st : List Value) :
    ∃ T' h' a, Stand p l e R s m args below meth c T' locs (cells + 1) (slots + cap) ∧ T'.heap = h' ∧ a = h.size ∧ Ext h h' ∧ Va Z h' a ty (List.replicate k (defaultValue ty)) ∧ Exa Z h' a ad ∧ ∀ target, Steps p.tables e below (T'.setTop (mkF m (pc + 2) Ls (.ref a :: st))) target → Steps p.tables e below (T.setTop (mkF m pc Ls (.int n :: st))) target := by
  subst hty
  obtain ⟨T', h', cA, X', e', E, A, Ex, st'⟩ := newPE X hx hZ w eT (g := mkF m pc Ls (.int n :: st)) rfl hd rfl hn (cap := cap) (by rw [hk]; exact hcap) hb hc hl had
  exact ⟨T', h', _, X', e', rfl, E, Va.new A hk, Ex, st'⟩
theorem g_aaload (X : Stand p l e R s m args below meth c T locs cells slots) (hx : p.tables.exec = Jvm.exec) (hZ : Z.Warmed39 s.vm) (eT : T.heap = h) {cl : Cell} (A : Arr Z h a cl ty) (hty : ty.isReference = true) {j : Int32} {i : Nat} (hd : decode c.code pc = .ok (.aaload, 1)) (hp : pc + 1 = pc') (hj : ¬ j < 0) (hi : j.toNatClampNeg = i) (hlt : i < cl.slots.size) (hv : cl.slots[i]? = some v) (G : Go p e below En n0 Q T (mkF m pc' Ls (v :: st))) : Go p e below En n0 Q T (mkF m pc Ls (.int j :: .ref a :: st)) := by
  subst hp eT hi
  exact Go.mov (fun t k => X.aaload hx A.1 (State.isArrayOf_alike hZ.alike A.2.1) hty A.2.2 (by rintro (q | q); exact hj q; omega) hv (g := mkF m pc Ls (.int j :: .ref a :: st)) rfl rfl hd t k) G
theorem h_aastore (X : Stand p l e R s m args below meth c T locs cells slots) (hx : p.tables.exec = Jvm.exec) (hZ : Z.Warmed39 s.vm) (eT : T.heap = h) (N : Fr n0 locs) {cl : Cell} (A : Arr Z h a cl ty) (hn : n0 ≤ a) (hty : ty.isReference = true) {j : Int32} {i : Nat} (hd : decode c.code pc = .ok (.aastore, 1)) (hj : ¬ j < 0) (hi : j.toNatClampNeg = i) (hlt : i < cl.slots.size) (F : Sto Z h a v) (Ls : Array Slot) (st : List Value) :
    ∃ T' h' L, Stand p l e R s m args below meth c T' L cells slots ∧ T'.heap = h' ∧ Fr n0 L ∧ Wr h h' a i v ∧ ∀ target, Steps p.tables e below (T'.setTop (mkF m (pc + 1) Ls st)) target → Steps p.tables e below (T.setTop (mkF m pc Ls (v :: .int j :: .ref a :: st))) target := by
  subst hi
  obtain ⟨T', h', X', e', W, k⟩ := stR X hx hZ eT A (j := j) (by rintro (q | q); exact hj q; omega) hty F (g := mkF m pc Ls (v :: .int j :: .ref a :: st)) rfl rfl hd
  exact ⟨T', h', _, X', e', Fr.snoc X' N hn, W, k⟩
end Arrays
/-! calls by a contract -/
section Calls
variable {p : Program} {l : Launch} {e : Env} {R : Room} {s : State} {m : MethodId} {args : Array Value} {below : List Frame} {meth : Method} {c : Code} {T : State} {locs : List Loc} {cells slots : Nat} {Z : State} {a0 : Array Value} {h h' : Heap} {n0 : Nat} {Q : Option Value → Heap → Prop}
variable {pc : Nat} {own : String} {i maxL : Nat} {y z : MethodName} {bytes : ByteArray} {ret : Option FieldType} {rm : Room} {as' : Array Value} {ps : List FieldType} {rt : Option FieldType}
theorem h_static (X : Stand p l e R s m args below meth c T locs cells slots) (hx : p.tables.exec = Jvm.exec) {Ls : Array Slot} {W : Nat} {argsL rest : List Value} (hZ : Z.Warmed39 s.vm) (eT : T.heap = h) (N : Fr n0 locs) (hml : c.maxLocals = Ls.size) (hown : s.vm.findClass own = some m.cls) (hK : Ctr l Z y bytes maxL ret rm as' h n0 Q) (w1 : (Jvm.Cond.methodLink own i y).before a0 Z = true) (w2 : (Jvm.Cond.static y).before a0 Z = true) (w3 : (Jvm.Cond.initialized y.cls).before a0 Z = true) (w4 : (Jvm.Cond.code y bytes maxL ret).before a0 Z = true) (hy : y.cls ≠ "java/lang/invoke/MethodHandle" ∧ y.cls ≠ "java/lang/invoke/VarHandle") (pd : parseMethodDescriptor y.desc = some ⟨ps, rt⟩) (hlen : argsL.length = ps.length) (has : as' = argsL.toArray) (hd : decode c.code pc = .ok (.invokestatic i, 3)) (hW : (rest.map fun v => v.category).sum = W) (hf : rm.frames + 1 ≤ R.frames) (hlo : W + (maxL + 11) + rm.locals ≤ R.locals) (hcc : cells + rm.cells ≤ R.cells) (hss : slots + rm.slots ≤ R.slots) :
    ∃ v T' h' L, Stand p l e R s m args below meth c T' L (cells + rm.cells) (slots + rm.slots) ∧ T'.heap = h' ∧ Fr n0 L ∧ Q v h' ∧ ∀ target, Steps p.tables e below (T'.setTop (mkF m (pc + 3) Ls (v.toList ++ rest))) target → Steps p.tables e below (T.setTop (mkF m pc Ls (argsL.reverse ++ rest))) target := by
  obtain ⟨v, _, ⟨T', L', k', n'⟩, -, X', ⟨Lc, hQ, h1, h2, h3⟩, st⟩ := Jvm.LawKit.callS X hx (y := y) hown (mvT hZ w1) (mvT hZ w2) (mvT hZ w3) (mvT hZ w4) hy (backOf (W := W) (hK []) hZ w4 w3 hf hlo) (g := mkF m pc Ls (argsL.reverse ++ rest)) rfl hml.symm (argsL := argsL) (rest := rest) (lenOf pd hlen) rfl (by show 2 * 0 + _ ≤ _; omega) hd (fun _ _ => ⟨has.symm, eT, hcc, hss⟩)
  dsimp only [Pt.U, Pt.locs, Pt.cells, Pt.slots] at X' h1 h2 h3 st hQ
  subst h1 h2 h3
  exact ⟨v, T', _, _, X', rfl, N.app hQ.2, hQ.1, st⟩
theorem h_special (X : Stand p l e R s m args below meth c T locs cells slots) (hx : p.tables.exec = Jvm.exec) {Ls : Array Slot} {W : Nat} {a : Addr} {argsL rest : List Value} (hZ : Z.Warmed39 s.vm) (eT : T.heap = h) (N : Fr n0 locs) (hml : c.maxLocals = Ls.size) (hown : s.vm.findClass own = some m.cls) (hy1 : y.name = "<init>") (hK : Ctr l Z y bytes maxL none rm as' h n0 Q) (w1 : (Jvm.Cond.methodLink own i y).before a0 Z = true) (w2 : (Jvm.Cond.instanceMethod y).before a0 Z = true) (w3 : (Jvm.Cond.initialized y.cls).before a0 Z = true) (w4 : (Jvm.Cond.code y bytes maxL none).before a0 Z = true) (hy : y.cls ≠ "java/lang/invoke/MethodHandle" ∧ y.cls ≠ "java/lang/invoke/VarHandle") (pd : parseMethodDescriptor y.desc = some ⟨ps, rt⟩) (hlen : argsL.length = ps.length) (has : as' = (.ref a :: argsL).toArray) (hd : decode c.code pc = .ok (.invokespecial i, 3)) (hW : (rest.map fun v => v.category).sum = W) (hf : rm.frames + 1 ≤ R.frames) (hlo : W + (maxL + 11) + rm.locals ≤ R.locals) (hcc : cells + rm.cells ≤ R.cells) (hss : slots + rm.slots ≤ R.slots) :
    ∃ v T' h' L, Stand p l e R s m args below meth c T' L (cells + rm.cells) (slots + rm.slots) ∧ T'.heap = h' ∧ Fr n0 L ∧ Q v h' ∧ ∀ target, Steps p.tables e below (T'.setTop (mkF m (pc + 3) Ls (v.toList ++ rest))) target → Steps p.tables e below (T.setTop (mkF m pc Ls (argsL.reverse ++ .ref a :: rest))) target := by
  obtain ⟨v, _, ⟨T', L', k', n'⟩, -, X', ⟨Lc, hQ, h1, h2, h3⟩, st⟩ := X.specialBack hx (y := y) hy1 hown (mvT hZ w1) (mvT hZ w2) (mvT hZ w4) hy (backOf (W := W) (hK []) hZ w4 w3 hf hlo) (g := mkF m pc Ls (argsL.reverse ++ .ref a :: rest)) rfl hml.symm (Steps.refl _) (a := a) (argsL := argsL) (rest := rest) (lenOf pd hlen) rfl (by show 2 * 0 + _ ≤ _; omega) hd (fun _ _ => ⟨has.symm, eT, hcc, hss⟩)
  dsimp only [Pt.U, Pt.locs, Pt.cells, Pt.slots] at X' h1 h2 h3 st hQ
  subst h1 h2 h3
  exact ⟨v, T', _, _, X', rfl, N.app hQ.2, hQ.1, fun t k => st.trans k⟩
theorem h_virtual (X : Stand p l e R s m args below meth c T locs cells slots) (hx : p.tables.exec = Jvm.exec) {Ls : Array Slot} {W : Nat} {a : Addr} {cls : String} {argsL rest : List Value} (hZ : Z.Warmed39 s.vm) (eT : T.heap = h) (N : Fr n0 locs) (hml : c.maxLocals = Ls.size) (hown : s.vm.findClass own = some m.cls) (hK : Ctr l Z z bytes maxL ret rm as' h n0 Q) (E : Exa Z h a cls) (w1 : (Jvm.Cond.methodLink own i y).before a0 Z = true) (w2 : (Jvm.Cond.declares y).before a0 Z = true) (nf : NotFace s y) (w5 : (Jvm.Cond.selects cls y z).before a0 Z = true) (w6 : (Jvm.Cond.instanceMethod z).before a0 Z = true) (w3 : (Jvm.Cond.initialized z.cls).before a0 Z = true) (w4 : (Jvm.Cond.code z bytes maxL ret).before a0 Z = true) (hy : y.cls ≠ "java/lang/invoke/MethodHandle" ∧ y.cls ≠ "java/lang/invoke/VarHandle") (pd : parseMethodDescriptor y.desc = some ⟨ps, rt⟩) (hlen : argsL.length = ps.length) (has : as' = (.ref a :: argsL).toArray) (hd : decode c.code pc = .ok (.invokevirtual i, 3)) (hW : (rest.map fun v => v.category).sum = W) (hf : rm.frames + 1 ≤ R.frames) (hlo : W + (maxL + 11) + rm.locals ≤ R.locals) (hcc : cells + rm.cells ≤ R.cells) (hss : slots + rm.slots ≤ R.slots) :
    ∃ v T' h' L, Stand p l e R s m args below meth c T' L (cells + rm.cells) (slots + rm.slots) ∧ T'.heap = h' ∧ Fr n0 L ∧ Q v h' ∧ ∀ target, Steps p.tables e below (T'.setTop (mkF m (pc + 3) Ls (v.toList ++ rest))) target → Steps p.tables e below (T.setTop (mkF m pc Ls (argsL.reverse ++ .ref a :: rest))) target := by
  obtain ⟨cq, kq, qa, qb, qc⟩ := isOf hZ eT E
  obtain ⟨v, _, ⟨T', L', k', n'⟩, -, X', ⟨Lc, hQ, h1, h2, h3⟩, st⟩ := X.virtualBack hx (y := y) (z := z) hown (mvT hZ w1) (mvT hZ w2) nf (mvT hZ w5) (mvT hZ w6) hy (backOf (W := W) (hK []) hZ w4 w3 hf hlo) qa qc (g := mkF m pc Ls (argsL.reverse ++ .ref a :: rest)) rfl hml.symm (Steps.refl _) (argsL := argsL) (rest := rest) (lenOf pd hlen) rfl (by show 2 * 0 + _ ≤ _; omega) hd (fun _ _ => ⟨has.symm, eT, hcc, hss⟩)
  dsimp only [Pt.U, Pt.locs, Pt.cells, Pt.slots] at X' h1 h2 h3 st hQ
  subst h1 h2 h3
  exact ⟨v, T', _, _, X', rfl, N.app hQ.2, hQ.1, fun t k => st.trans k⟩
/-! where a String constant may be interned: the wide end -/
def EndW (s : State) (C S : Nat) (v : Option Value) (t : State) (L : List Loc) : Prop := ReturnedEndW s (.returned v) t L C S
theorem endW {s : State} {vm0 : Vm} {n C S cells slots : Nat} {t : State} {L : List Loc} {h : Heap} (hS : s.Since vm0 n) (hn : n ≤ h.size) (hc : cells ≤ C) (hs : slots ≤ S) (v : Option Value) (ht : t.heap = h) (hW : (s.setVm vm0).WarmedH t.vm) (hsm : (s.setVm vm0).sameButNew ({ t with vm := (s.setVm vm0).vm } : State) L cells slots) : EndW s C S v t L := by
  obtain ⟨a, b, c⟩ := hS.ended hW (by rw [ht]; exact hn) hsm
  exact ⟨⟨_, rfl⟩, a, b, c.mono hc hs⟩
def CtrW (l : Launch) (Z : State) (y : MethodName) (bytes : ByteArray) (maxL : Nat) (ret : Option FieldType) (rm : Room) (as' : Array Value) (h0 : Heap) (n0 : Nat) (Q : Option Value → Heap → Prop) : Prop :=
  ∀ ws : List Jvm.Cond, MetFree l y (head1 (Jvm.Cond.code y bytes maxL ret :: ws) rm) (fun a U => a = as' ∧ Z.Warmed39 U.vm ∧ U.heap = h0) (fun _ _ _ _ _ => True) (fun _ U o U' => ∃ v L, o = .returned v ∧ CQ Q n0 v U'.heap L ∧ ReturnedEndW U o U' L rm.cells rm.slots)
theorem CtrW.of {l : Launch} {Z : State} {y : MethodName} {bytes : ByteArray} {maxL : Nat} {ret : Option FieldType} {rm : Room} {as' : Array Value} {h0 : Heap} {n0 : Nat} {Q : Option Value → Heap → Prop} {Ls : Array Slot}
    (hpl : plainFor y = true) (hef : ∀ m, entryFrame m as' maxL = mkF m 0 Ls [])
    (body : ∀ (p : Program) (e : Env) (s : State) (m : MethodId) (below : List Frame) (meth : Method) (c : Code) (T : State), p.tables.exec = Jvm.exec → c.code = bytes → c.maxLocals = maxL → s.vm.findClass y.cls = some m.cls → meth.name = y.name → meth.sig.returnType = ret → meth.locks = false → Z.Warmed39 s.vm →
      Stand p l e rm s m as' below meth c T [] 0 0 → T.heap = h0 → Go p e below (EndW s rm.cells rm.slots) n0 Q T (mkF m 0 Ls [])) : CtrW l Z y bytes maxL ret rm as' h0 n0 Q := by
  intro ws
  refine MetFree.of_bodySF hpl hisR ?_
  intro p e s m args below meth c s₁ Bd hml0 hP hK
  obtain ⟨rfl, hZ, hh⟩ := hP
  have hown : s.vm.findClass y.cls = some m.cls := findClass_of_methodNamed Bd.named
  have hnm := (name_of_methodNamed Bd.named Bd.method).1
  have e0 : s₁.heap = h0 := by rw [← hh, Bd.state]; rfl
  rw [hef]
  obtain ⟨s₂, o, h1, h2, h3, v, L, rfl, h5, h6⟩ := body p e s m below meth c s₁ Bd.exec Bd.bytes hml0 hown hnm Bd.returns Bd.notSynchronized hZ (Stand.of_body Bd) e0
  exact ⟨s₂, _, h1, h2, h3, v, L, rfl, h5, h6⟩
theorem h_interface (X : Stand p l e R s m args below meth c T locs cells slots) (hx : p.tables.exec = Jvm.exec) {Ls : Array Slot} {W cnt : Nat} {a : Addr} {cls : String} {argsL rest : List Value} (hZ : Z.Warmed39 s.vm) (eT : T.heap = h) (N : Fr n0 locs) (hml : c.maxLocals = Ls.size) (hown : s.vm.findClass own = some m.cls) (hK : Ctr l Z z bytes maxL ret rm as' h n0 Q) (E : Exa Z h a cls) (w1 : (Jvm.Cond.methodLink own i y).before a0 Z = true) (w2 : (Jvm.Cond.declares y).before a0 Z = true) (wf : (Jvm.Cond.interfaceMethod y.cls y.cls y.name y.desc).before args s = true) (w5 : (Jvm.Cond.selects cls y z).before a0 Z = true) (w6 : (Jvm.Cond.instanceMethod z).before a0 Z = true) (w7 : (Jvm.Cond.publicMethod z).before a0 Z = true) (w8 : (Jvm.Cond.unhidden cls y.name y.desc).before a0 Z = true) (w9 : (Jvm.Cond.castable cls y.cls).before a0 Z = true) (w3 : (Jvm.Cond.initialized z.cls).before a0 Z = true) (w4 : (Jvm.Cond.code z bytes maxL ret).before a0 Z = true) (hy : y.cls ≠ "java/lang/invoke/MethodHandle" ∧ y.cls ≠ "java/lang/invoke/VarHandle") (pd : parseMethodDescriptor y.desc = some ⟨ps, rt⟩) (hlen : argsL.length = ps.length) (has : as' = (.ref a :: argsL).toArray) (hd : decode c.code pc = .ok (.invokeinterface i cnt, 5)) (hW : (rest.map fun v => v.category).sum = W) (hf : rm.frames + 1 ≤ R.frames) (hlo : W + (maxL + 11) + rm.locals ≤ R.locals) (hcc : cells + rm.cells ≤ R.cells) (hss : slots + rm.slots ≤ R.slots) :
    ∃ v T' h' L, Stand p l e R s m args below meth c T' L (cells + rm.cells) (slots + rm.slots) ∧ T'.heap = h' ∧ Fr n0 L ∧ Q v h' ∧ ∀ target, Steps p.tables e below (T'.setTop (mkF m (pc + 5) Ls (v.toList ++ rest))) target → Steps p.tables e below (T.setTop (mkF m pc Ls (argsL.reverse ++ .ref a :: rest))) target := by
  obtain ⟨cq, kq, qa, qb, qc⟩ := isOf hZ eT E
  obtain ⟨v, _, ⟨T', L', k', n'⟩, -, X', ⟨Lc, hQ, h1, h2, h3⟩, st⟩ := X.interfaceBack hx (xi := y) (y := z) hown (mvT hZ w1) (mvT hZ w2) wf (mvT hZ w5) (mvT hZ w6) (mvT hZ w7) (mvT hZ w8) (mvT hZ w9) hy (backOf (W := W) (hK []) hZ w4 w3 hf hlo) qa qb qc (g := mkF m pc Ls (argsL.reverse ++ .ref a :: rest)) rfl hml.symm (Steps.refl _) (argsL := argsL) (rest := rest) (lenOf pd hlen) rfl (by show 2 * 0 + _ ≤ _; omega) hd (fun _ _ => ⟨has.symm, eT, hcc, hss⟩)
  dsimp only [Pt.U, Pt.locs, Pt.cells, Pt.slots] at X' h1 h2 h3 st hQ
  subst h1 h2 h3
  exact ⟨v, T', _, _, X', rfl, N.app hQ.2, hQ.1, fun t k => st.trans k⟩
/-! a String constant's text is read: nothing was interned before -/
def CtrI (l : Launch) (Z : State) (y : MethodName) (bytes : ByteArray) (maxL : Nat) (ret : Option FieldType) (rm : Room) (as' : Array Value) (h0 : Heap) (n0 : Nat) (Q : Option Value → Heap → Prop) : Prop :=
  ∀ ws : List Jvm.Cond, MetFree l y (head1 (Jvm.Cond.code y bytes maxL ret :: ws) rm) (fun a U => a = as' ∧ Z.Warmed39 U.vm ∧ U.heap = h0 ∧ U.vm.interned = Z.vm.interned) (fun _ _ _ _ _ => True) (fun _ U o U' => ∃ v L, o = .returned v ∧ CQ Q n0 v U'.heap L ∧ ReturnedEndW U o U' L rm.cells rm.slots)
theorem CtrI.of {l : Launch} {Z : State} {y : MethodName} {bytes : ByteArray} {maxL : Nat} {ret : Option FieldType} {rm : Room} {as' : Array Value} {h0 : Heap} {n0 : Nat} {Q : Option Value → Heap → Prop} {Ls : Array Slot}
    (hpl : plainFor y = true) (hef : ∀ m, entryFrame m as' maxL = mkF m 0 Ls [])
    (body : ∀ (p : Program) (e : Env) (s : State) (m : MethodId) (below : List Frame) (meth : Method) (c : Code) (T : State), p.tables.exec = Jvm.exec → c.code = bytes → c.maxLocals = maxL → s.vm.findClass y.cls = some m.cls → meth.name = y.name → meth.sig.returnType = ret → meth.locks = false → Z.Warmed39 s.vm →
      Stand p l e rm s m as' below meth c T [] 0 0 → T.heap = h0 → s.heap = h0 → s.vm.interned = Z.vm.interned → Go p e below (EndW s rm.cells rm.slots) n0 Q T (mkF m 0 Ls [])) : CtrI l Z y bytes maxL ret rm as' h0 n0 Q := by
  intro ws
  refine MetFree.of_bodySF hpl hisR ?_
  intro p e s m args below meth c s₁ Bd hml0 hP hK
  obtain ⟨rfl, hZ, hh, hI⟩ := hP
  have hown : s.vm.findClass y.cls = some m.cls := findClass_of_methodNamed Bd.named
  have hnm := (name_of_methodNamed Bd.named Bd.method).1
  have e0 : s₁.heap = h0 := by rw [← hh, Bd.state]; rfl
  rw [hef]
  obtain ⟨s₂, o, h1, h2, h3, v, L, rfl, h5, h6⟩ := body p e s m below meth c s₁ Bd.exec Bd.bytes hml0 hown hnm Bd.returns Bd.notSynchronized hZ (Stand.of_body Bd) e0 hh hI
  exact ⟨s₂, _, h1, h2, h3, v, L, rfl, h5, h6⟩
theorem backOfI {l : Launch} {R : Room} {p : Program} {e : Env} {below : List Frame} {s Z : State} {args a0 : Array Value} {h : Heap} {y : MethodName} {bytes : ByteArray} {maxL : Nat} {ret : Option FieldType} {rm : Room} {len W : Nat} {as' : Array Value} {Q : Option Value → Heap → List Loc → Prop}
    (hM : MetFree l y (head1 [Jvm.Cond.code y bytes maxL ret] rm) (fun a U => a = as' ∧ Z.Warmed39 U.vm ∧ U.heap = h ∧ U.vm.interned = Z.vm.interned) (fun _ _ _ _ _ => True) (fun _ U o U' => ∃ v L, o = .returned v ∧ Q v U'.heap L ∧ ReturnedEndW U o U' L rm.cells rm.slots))
    (hZ : Z.Warmed39 s.vm) (hI : s.vm.interned = Z.vm.interned) (wc : (Jvm.Cond.code y bytes maxL ret).before a0 Z = true) (wz : (Jvm.Cond.initialized y.cls).before a0 Z = true) (hf : rm.frames + 1 ≤ R.frames) (hl : W + (maxL + 11) + rm.locals ≤ R.locals) :
    BackS l R p e below s args y len W (fun A a => a = as' ∧ A.U.heap = h ∧ A.cells + rm.cells ≤ R.cells ∧ A.slots + rm.slots ≤ R.slots)
      (fun A _ v B => ∃ L, Q v B.U.heap L ∧ B.locs = A.locs ++ L ∧ B.cells = A.cells + rm.cells ∧ B.slots = A.slots + rm.slots) := by
  refine BackS.of_freeW (bytes := bytes) (maxL := maxL) (ret := ret) (E := fun _ _ o t L k n => k = rm.cells ∧ n = rm.slots ∧ ∃ v, o = .returned v ∧ Q v t.heap L) hM hf hl ?_ ?_ (fun _ _ _ _ _ _ _ _ _ => trivial) ?_ ?_
  · intro m meth c A a Y hp
    have hU : Z.Warmed39 A.U.vm := wtrans hZ Y.warmed
    exact ⟨by show (Jvm.Cond.and _ .tt).before a A.U = true; rw [Cond.before_and, mvT hU wc]; rfl, mvT hU wc, mvT hU wz, hp.2.2.1, hp.2.2.2⟩
  · intro m meth c A a g mk Y hp
    exact ⟨hp.1, wtrans hZ Y.warmed, hp.2.1, Y.warmed.interned_eq.trans hI⟩
  · rintro _ _ _ _ ⟨v, L, h1, h2, h3⟩
    exact ⟨L, _, _, h3, rfl, rfl, v, h1, h2⟩
  · rintro m meth c A a g mk v t L k n Y hp _ _ ⟨e1, e2, v', e3, e4⟩
    cases e3; subst e1 e2; exact ⟨L, e4, rfl, rfl, rfl⟩
theorem h_specialI (X : Stand p l e R s m args below meth c T locs cells slots) (hx : p.tables.exec = Jvm.exec) {Ls : Array Slot} {W : Nat} {a : Addr} {argsL rest : List Value} (hZ : Z.Warmed39 s.vm) (eT : T.heap = h) (N : Fr n0 locs) (hml : c.maxLocals = Ls.size) (hown : s.vm.findClass own = some m.cls) (hI : s.vm.interned = Z.vm.interned) (hy1 : y.name = "<init>") (hK : CtrI l Z y bytes maxL none rm as' h n0 Q) (w1 : (Jvm.Cond.methodLink own i y).before a0 Z = true) (w2 : (Jvm.Cond.instanceMethod y).before a0 Z = true) (w3 : (Jvm.Cond.initialized y.cls).before a0 Z = true) (w4 : (Jvm.Cond.code y bytes maxL none).before a0 Z = true) (hy : y.cls ≠ "java/lang/invoke/MethodHandle" ∧ y.cls ≠ "java/lang/invoke/VarHandle") (pd : parseMethodDescriptor y.desc = some ⟨ps, rt⟩) (hlen : argsL.length = ps.length) (has : as' = (.ref a :: argsL).toArray) (hd : decode c.code pc = .ok (.invokespecial i, 3)) (hW : (rest.map fun v => v.category).sum = W) (hf : rm.frames + 1 ≤ R.frames) (hlo : W + (maxL + 11) + rm.locals ≤ R.locals) (hcc : cells + rm.cells ≤ R.cells) (hss : slots + rm.slots ≤ R.slots) :
    ∃ v T' h' L, Stand p l e R (s.setVm T'.vm) m args below meth c T' L (cells + rm.cells) (slots + rm.slots) ∧ T'.heap = h' ∧ Fr n0 L ∧ Q v h' ∧ s.Since T'.vm h'.size ∧ Z.Warmed39 (s.setVm T'.vm).vm ∧ (s.setVm T'.vm).vm.findClass own = some m.cls ∧ ∀ target, Steps p.tables e below (T'.setTop (mkF m (pc + 3) Ls (v.toList ++ rest))) target → Steps p.tables e below (T.setTop (mkF m pc Ls (argsL.reverse ++ .ref a :: rest))) target := by
  obtain ⟨v, _, ⟨T', L', k', n'⟩, -, X', hS, hgr, ⟨Lc, hQ, h1, h2, h3⟩, st⟩ := X.specialBackS hx (y := y) hy1 hown (mvT hZ w1) (mvT hZ w2) (mvT hZ w4) hy (backOfI (W := W) (hK []) hZ hI w4 w3 hf hlo) (g := mkF m pc Ls (argsL.reverse ++ .ref a :: rest)) rfl hml.symm (Steps.refl _) (a := a) (argsL := argsL) (rest := rest) (lenOf pd hlen) rfl (by show 2 * 0 + _ ≤ _; omega) hd (fun _ _ => ⟨has.symm, eT, hcc, hss⟩)
  dsimp only [Pt.U, Pt.locs, Pt.cells, Pt.slots] at X' h1 h2 h3 st hQ hS
  subst h1 h2 h3
  exact ⟨v, T', _, _, X', rfl, N.app hQ.2, hQ.1, hS, State.Warmed39.trans (t := s) hZ hS.1, by rw [show (s.setVm T'.vm).vm = T'.vm from rfl, hS.1.alike.findClass]; exact hown, fun t k => st.trans k⟩
end Calls
/-! an enum's constant, where the law begins -/
end Jvm.OwnKit

namespace Jvm.OwnKit
open Sem ClassFile Op Lib Jvm.Stand Jvm.Free Jvm.LawKit Jvm.RoadKit
/-! chars in Strings: both codings -/
theorem chr_bv' (x : Int32) : (chr x).toBitVec = (x.toBitVec.setWidth 16).setWidth 32 := by simp [chr]; rfl
theorem byt_bv (x : Int32) : (byt x).toBitVec = (x.toBitVec.signExtend 8).signExtend 32 := rfl
theorem byt_255 (x : Int32) : byt x &&& 255 = x &&& 255 := by
  apply Int32.toBitVec_inj.mp
  rw [Int32.toBitVec_and, Int32.toBitVec_and, byt_bv]
  show _ &&& 255#32 = _ &&& 255#32
  apply BitVec.eq_of_getLsbD_eq
  intro i hi
  rw [BitVec.getLsbD_and, BitVec.getLsbD_and]
  by_cases q : i < 8
  · rw [BitVec.getLsbD_signExtend, BitVec.getLsbD_signExtend]; simp [q, hi]
  · have : (255#32).getLsbD i = false := by
      rw [BitVec.getLsbD_ofNat, show 255 = 2 ^ 8 - 1 from rfl, Nat.testBit_two_pow_sub_one]; simp [q]
    rw [this]; simp
theorem chr_rng {c : Int32} (h : chr c = c) : 0 ≤ c.toInt ∧ c.toInt < 65536 := by
  have := c_i2c c
  have e : c.toUInt32.toUInt16.toUInt32.toInt32 = c := h
  rw [e] at this; exact this.2
theorem own_lat {c : Int32} (h : chr c = c) (k : ¬ 255 < c) : chr (byt c &&& 255) = c := by
  have r := chr_rng h
  have m := c_mask c 255 8 (by decide) (by decide)
  rw [Int32.lt_iff_toInt_lt] at k
  have e : (255 : Int32).toInt = 255 := rfl
  have q : c &&& 255 = c := Int32.toInt_inj.mp (by omega)
  rw [byt_255, q, h]
theorem shl0 (x : Int32) : shl x 0 = x := by simp [shl]
theorem shr0 (x : Int32) : shr x 0 = x := by simp [shr]
theorem shl8_bv (x : Int32) : (shl x 8).toBitVec = x.toBitVec <<< 8 := rfl
theorem shr8_bv (x : Int32) : (shr x 8).toBitVec = x.toBitVec.sshiftRight 8 := rfl
theorem own_utf {c : Int32} (h : chr c = c) : chr (shl (byt (shr c 0) &&& 255) 0 ||| shl (byt (shr c 8) &&& 255) 8) = c := by
  rw [byt_255, byt_255, shl0, shr0]
  have e := congrArg Int32.toBitVec h
  rw [chr_bv'] at e
  apply Int32.toBitVec_inj.mp
  rw [chr_bv']
  refine Eq.trans ?_ e
  congr 1
  apply BitVec.eq_of_getLsbD_eq
  intro i hi
  rw [BitVec.getLsbD_setWidth, BitVec.getLsbD_setWidth, Int32.toBitVec_or, shl8_bv, Int32.toBitVec_and, Int32.toBitVec_and, shr8_bv]
  have m : ∀ j, (Int32.toBitVec 255).getLsbD j = decide (j < 8) := fun j => by
    show (255#32).getLsbD j = _
    rw [BitVec.getLsbD_ofNat, show 255 = 2 ^ 8 - 1 from rfl, Nat.testBit_two_pow_sub_one]
    by_cases q : j < 8
    · have : j < 32 := by omega
      simp [q, this]
    · simp [q]
  rw [BitVec.getLsbD_or, BitVec.getLsbD_and, BitVec.getLsbD_shiftLeft, BitVec.getLsbD_and, m, m, BitVec.getLsbD_sshiftRight]
  by_cases q : i < 8
  · simp [q, hi]
  · have h1 : i - 8 < 8 := by omega
    have h2 : i < 32 := by omega
    have h3 : 8 + (i - 8) = i := by omega
    have h4 : ¬ 32 ≤ i - 8 := by omega
    simp [q, hi, h1, h2, h3, h4]
/-- a char's number -/
def cn (c : Int32) : Nat := c.toNatClampNeg
theorem cn_int {c : Int32} (h : chr c = c) : (cn c : Int) = c.toInt := by have r := chr_rng h; simp only [cn, Int32.toNatClampNeg]; omega
theorem cn_inj {c d : Int32} (h : chr c = c) (k : chr d = d) (q : cn c = cn d) : c = d := by
  have a := cn_int h; have b := cn_int k; exact Int32.toInt_inj.mp (by omega)
theorem cn_lt {c : Int32} (h : chr c = c) : cn c < 65536 := by have a := cn_int h; have r := chr_rng h; omega
theorem own_hi {c : Int32} (h : chr c = c) : ¬ ushr c 8 < 0 ∧ (ushr c 8).toNatClampNeg = cn c / 256 ∧ cn c / 256 < 256 := by
  have r := chr_rng h
  have a := cn_int h
  have q := c_iushr c 8 8 (by decide) (by decide)
  have q' : (ushr c 8).toInt = (c.toInt % 4294967296) / (2 ^ 8 : Nat) := q
  have e0 : (0 : Int32).toInt = 0 := rfl
  rw [Int32.lt_iff_toInt_lt]
  refine ⟨by omega, ?_, by omega⟩
  simp only [Int32.toNatClampNeg]; omega
theorem own_lo {c : Int32} (h : chr c = c) : ¬ c &&& 255 < 0 ∧ (c &&& 255).toNatClampNeg = cn c % 256 := by
  have r := chr_rng h
  have a := cn_int h
  have q := c_mask c 255 8 (by decide) (by decide)
  have e0 : (0 : Int32).toInt = 0 := rfl
  rw [Int32.lt_iff_toInt_lt]
  refine ⟨by omega, ?_⟩
  simp only [Int32.toNatClampNeg]; omega
def updM (m : Nat → Int32) (k : Nat) (v : Int32) : Nat → Int32 := fun x => if x = k then v else m x
theorem updM_yes {m : Nat → Int32} {c d v : Int32} (q : c = d) : updM m (cn c) v (cn d) = v := by subst q; simp [updM]
theorem updM_no {m : Nat → Int32} {c d v : Int32} (h : chr c = c) (k : chr d = d) (q : ¬ c = d) : updM m (cn c) v (cn d) = m (cn d) := by
  simp only [updM]; rw [if_neg]; intro r; exact q (cn_inj h k r.symm)

/-! pages of 256 ints: what the table holds -/
def PG (Z : State) (h : Heap) (lo hi : Nat) (pa : Addr) (cell : Cell) (M : Nat → Int32) : Prop :=
  Arr Z h pa cell (.array .int) ∧ OvrA Z cell.cls .int "[I" ∧ cell.slots.size = 256 ∧ ∀ j, j < 256 → (cell.slots[j]? = some .null ∧ ∀ k, k < 256 → M (256 * j + k) = -1) ∨
    ∃ (r : Addr) (vs : List Value), cell.slots[j]? = some (.ref r) ∧ lo ≤ r ∧ r < hi ∧ r ≠ pa ∧ (∀ j', j' < 256 → cell.slots[j']? = some (.ref r) → j' = j) ∧ Va Z h r .int vs ∧ vs.length = 256 ∧ ∀ k, k < 256 → vs[k]? = some (.int (M (256 * j + k)))
section PG
variable {Z : State} {h h' : Heap} {lo hi hi' : Nat} {pa : Addr} {cell : Cell} {M : Nat → Int32}
theorem PG.new {cA : ClassId} (A : Arr Z h pa (newA cA (.array .int) 256) (.array .int)) (O : OvrA Z cA .int "[I") : PG Z h lo hi pa (newA cA (.array .int) 256) (fun _ => -1) := by
  refine ⟨A, O, by simp [newA], fun j hj => Or.inl ⟨?_, fun _ _ => rfl⟩⟩
  have e : (256 : Int32).toNatClampNeg = 256 := rfl
  simp [newA, e, hj, defaultValue]
theorem PG.mono (P : PG Z h lo hi pa cell M) (q : hi ≤ hi') : PG Z h lo hi' pa cell M := by
  obtain ⟨A, O, s, f⟩ := P
  refine ⟨A, O, s, fun j hj => (f j hj).imp id ?_⟩
  rintro ⟨r, vs, a, b, c, d⟩
  exact ⟨r, vs, a, b, Nat.lt_of_lt_of_le c q, d⟩
theorem PG.keep (P : PG Z h lo hi pa cell M) (K : Keep h h' []) : PG Z h' lo hi pa cell M := by
  obtain ⟨A, O, s, f⟩ := P
  refine ⟨⟨K.2.1 _ _ A.1 (by simp), A.2⟩, O, s, fun j hj => (f j hj).imp id ?_⟩
  rintro ⟨r, vs, a, b, c, d, e, g, i⟩
  exact ⟨r, vs, a, b, c, d, e, g.keep K (by simp), i⟩
theorem PG.put (P : PG Z h lo hi pa cell M) {j : Nat} {b : Addr} (hj : j < 256) (hn : cell.slots[j]? = some .null) (W : Wr h h' pa j (.ref b)) (V : Va Z h b .int (List.replicate 256 (.int (-1)))) (h1 : lo ≤ b) (h2 : hi ≤ b) (h3 : b ≠ pa) :
    ∃ cell', PG Z h' lo (b + 1) pa cell' M ∧ cell'.slots[j]? = some (.ref b) := by
  obtain ⟨A, O, s, f⟩ := P
  refine ⟨cell.setSlot j (.ref b), ⟨A.same W, O, by simp [Cell.setSlot, s], fun i hi' => ?_⟩, by simp [Cell.setSlot, s, hj]⟩
  by_cases q : i = j
  · subst q
    rcases f i hi' with ⟨-, m⟩ | ⟨r, vs, a, -⟩
    · refine Or.inr ⟨b, _, by simp [Cell.setSlot, s, hj], h1, Nat.lt_succ_self _, h3, fun j' hj' hq => ?_, V.other W h3, List.length_replicate, fun k hk => ?_⟩
      · by_cases r : j' = i
        · exact r
        · have hq' : cell.slots[j']? = some (.ref b) := by simpa [Cell.setSlot, Array.getElem?_setIfInBounds_ne (Ne.symm r)] using hq
          rcases f j' hj' with ⟨n, -⟩ | ⟨r', vs', a', -, lt, -⟩
          · rw [n] at hq'; cases hq'
          · rw [a'] at hq'; cases hq'; exact absurd lt (Nat.not_lt.mpr h2)
      · rw [m k hk, List.getElem?_replicate, if_pos hk]
    · rw [hn] at a; cases a
  · have nj : (cell.setSlot j (.ref b)).slots[i]? = cell.slots[i]? := by simp [Cell.setSlot, Array.getElem?_setIfInBounds_ne (Ne.symm q)]
    rw [nj]
    rcases f i hi' with g | ⟨r, vs, a, b1, c, d, e, g, i1⟩
    · exact Or.inl g
    · refine Or.inr ⟨r, vs, a, b1, Nat.lt_succ_of_lt (Nat.lt_of_lt_of_le c h2), d, fun j' hj' hq => ?_, g.other W d, i1⟩
      by_cases t : j' = j
      · subst t
        have : (Value.ref b) = .ref r := by simpa [Cell.setSlot, s, hj] using hq
        cases this; exact absurd c (Nat.not_lt.mpr h2)
      · exact e j' hj' (by simpa [Cell.setSlot, Array.getElem?_setIfInBounds_ne (Ne.symm t)] using hq)
theorem PG.set (P : PG Z h lo hi pa cell M) {j k : Nat} {r : Addr} {i : Int32} (hj : j < 256) (hk : k < 256) (hr : cell.slots[j]? = some (.ref r)) (W : Wr h h' r k (.int i)) : PG Z h' lo hi pa cell (updM M (256 * j + k) i) := by
  obtain ⟨A, O, s, f⟩ := P
  have hp : r ≠ pa := by
    rcases f j hj with ⟨n, -⟩ | ⟨r', vs, a, b1, c, d, e, g, i1⟩
    · rw [n] at hr; cases hr
    · rw [a] at hr; cases hr; exact d
  refine ⟨A.other W hp.symm, O, s, fun j' hj' => ?_⟩
  rcases f j' hj' with ⟨n, m⟩ | ⟨r', vs, a, b1, c, d, e, g, l1, l2⟩
  · refine Or.inl ⟨n, fun k' hk' => ?_⟩
    have : j' ≠ j := fun q => by subst q; rw [n] at hr; cases hr
    simp only [updM]; rw [if_neg (by omega)]; exact m k' hk'
  · by_cases q : j' = j
    · subst q
      rw [a] at hr; cases hr
      refine Or.inr ⟨r, vs.set k (.int i), a, b1, c, d, e, g.same W, by simp [l1], fun k' hk' => ?_⟩
      by_cases t : k' = k
      · subst t; simp [updM, l1, hk]
      · have : 256 * j' + k' ≠ 256 * j' + k := by omega
        simp only [updM]; rw [if_neg this, List.getElem?_set_ne (Ne.symm t)]; exact l2 k' hk'
    · have hne : r' ≠ r := fun t => by subst t; exact q (e j hj hr).symm
      refine Or.inr ⟨r', vs, a, b1, c, d, e, g.other W hne, l1, fun k' hk' => ?_⟩
      have : 256 * j' + k' ≠ 256 * j + k := by omega
      simp only [updM]; rw [if_neg this]; exact l2 k' hk'
theorem PG.at (P : PG Z h lo hi pa cell M) {c : Int32} (hc : chr c = c) : (cell.slots[cn c / 256]? = some .null ∧ M (cn c) = -1) ∨ ∃ (r : Addr) (vs : List Value), cell.slots[cn c / 256]? = some (.ref r) ∧ lo ≤ r ∧ r ≠ pa ∧ Va Z h r .int vs ∧ vs.length = 256 ∧ vs[cn c % 256]? = some (.int (M (cn c))) := by
  obtain ⟨A, O, s, f⟩ := P
  have e : 256 * (cn c / 256) + cn c % 256 = cn c := by omega
  have l := cn_lt hc
  rcases f (cn c / 256) (by omega) with ⟨n, m⟩ | ⟨r, vs, a, b1, c1, d, e1, g, l1, l2⟩
  · exact Or.inl ⟨n, by have := m (cn c % 256) (by omega); rwa [e] at this⟩
  · exact Or.inr ⟨r, vs, a, b1, d, g, l1, by have := l2 (cn c % 256) (by omega); rwa [e] at this⟩
end PG
/-- an instance is no array -/
theorem own_ne {Z : State} {h : Heap} {a0 : Array Value} {a b : Addr} {C : String} {n : Nat} {ty : FieldType} {vs : List Value} (E : Exa Z h a C) (wi : (Jvm.Cond.instantiable C n).before a0 Z = true) (F : Va Z h b ty vs) : b ≠ a := fun q => by
  subst q
  obtain ⟨c, A, -⟩ := F
  obtain ⟨cell, k, h1, h2, h3, -⟩ := E
  obtain ⟨cI, kI, hfI, hkI, hkindI, -⟩ := Jvm.Cond.instantiable_spec wi
  cases A.1.symm.trans h1
  cases h2.symm.trans hfI
  obtain ⟨-, k', hk', comp, hkind⟩ := A.2.1
  cases hkI.symm.trans hk'
  rw [hkindI] at hkind; cases hkind
theorem own_va0 {Z : State} {h : Heap} {b : Addr} {k : ClassId} {dv : Value} (A : Arv Z h b k .byte 0 [] dv) : Va Z h b .byte [] := by
  obtain ⟨cl, A, -, s, -⟩ := A
  refine ⟨cl, A, ?_⟩
  have : cl.slots.size = 0 := s
  exact List.eq_nil_of_length_eq_zero (by simpa using this)
theorem own_ib {Z : State} {vm : Vm} (q : vm.interned = Z.vm.interned) : IB Z vm [] := ⟨#[], by simp [q], fun q hq => by simp at hq⟩
/-- a String of known chars, in either coding -/
def StL (Z : State) (h : Heap) (a b : Addr) (cs : List Int32) : Prop := Fld Z h a "java/lang/String" "coder" "B" (.int (0 : Int32)) ∧ Fld Z h a "java/lang/String" "value" "[B" (.ref b) ∧ Exa Z h a "java/lang/String" ∧ Va Z h b .byte (cs.map fun c => .int (byt c)) ∧ ∀ c ∈ cs, ¬ 255 < c
def StU (Z : State) (h : Heap) (a b : Addr) (cs : List Int32) : Prop := Fld Z h a "java/lang/String" "coder" "B" (.int (1 : Int32)) ∧ Fld Z h a "java/lang/String" "value" "[B" (.ref b) ∧ Exa Z h a "java/lang/String" ∧ Va Z h b .byte (cs.flatMap fun c => [.int (byt (shr c 0)), .int (byt (shr c 8))])
def Str (Z : State) (h : Heap) (a b : Addr) (cs : List Int32) : Prop := StL Z h a b cs ∨ StU Z h a b cs
section Str
variable {Z : State} {h h' : Heap} {a b : Addr} {cs : List Int32} {ws : List Addr}
theorem Str.exa (S : Str Z h a b cs) : Exa Z h a "java/lang/String" := S.elim (fun q => q.2.2.1) (fun q => q.2.2.1)
theorem Str.lt (S : Str Z h a b cs) : a < h.size := S.exa.lt
theorem Str.ltb (S : Str Z h a b cs) : b < h.size := S.elim (fun q => q.2.2.2.1.lt) (fun q => q.2.2.2.lt)
theorem Str.keep (S : Str Z h a b cs) (K : Keep h h' ws) (q : a ∉ ws) (r : b ∉ ws) : Str Z h' a b cs := S.imp (fun ⟨f1, f2, e, v, z⟩ => ⟨f1.keep K q, f2.keep K q, e.keep K, v.keep K r, z⟩) (fun ⟨f1, f2, e, v⟩ => ⟨f1.keep K q, f2.keep K q, e.keep K, v.keep K r⟩)
theorem Str.ext (S : Str Z h a b cs) (E : Ext h h') : Str Z h' a b cs := S.keep ((Keep.refl h []).ext E) (by simp) (by simp)
theorem Str.wr {x : Addr} {sl : Nat} {v : Value} (S : Str Z h a b cs) (W : Wr h h' x sl v) (q : a ≠ x) (r : b ≠ x) : Str Z h' a b cs := S.keep (Keep.of_wr W) (by simpa using q) (by simpa using r)
def Lw (h : Heap) (b : Addr) : Prop := b < h.size
theorem Lw.lt (q : Lw h b) : b < h.size := q
theorem Str.lb (S : Str Z h a b cs) : Lw h b := S.ltb
end Str
theorem PG.other {Z : State} {h h' : Heap} {lo hi : Nat} {pa : Addr} {cell : Cell} {M : Nat → Int32} {x : Addr} {sl : Nat} {v : Value} (P : PG Z h lo hi pa cell M) (W : Wr h h' x sl v) (q : x ≠ pa) (r : x < lo) : PG Z h' lo hi pa cell M := by
  obtain ⟨A, O, s, f⟩ := P
  refine ⟨A.other W q.symm, O, s, fun j hj => (f j hj).imp id ?_⟩
  rintro ⟨r', vs, a, b, c, d, e, g, i⟩
  exact ⟨r', vs, a, b, c, d, e, g.other W (Ne.symm (Nat.ne_of_lt (Nat.lt_of_lt_of_le r b))), i⟩
theorem PG.setc {Z : State} {h h' : Heap} {lo hi : Nat} {pa : Addr} {cell : Cell} {M : Nat → Int32} {c : Int32} {r : Addr} {i : Int32} (P : PG Z h lo hi pa cell M) (hc : chr c = c) (hr : cell.slots[cn c / 256]? = some (.ref r)) (W : Wr h h' r (cn c % 256) (.int i)) : PG Z h' lo hi pa cell (updM M (cn c) i) := by
  have q := P.set (own_hi hc).2.2 (Nat.mod_lt _ (by decide)) hr W
  have e : 256 * (cn c / 256) + cn c % 256 = cn c := by omega
  rwa [e] at q
theorem own_rep {x : Value} {k : Nat} (h : k < 256) : (List.replicate 256 x)[k]? = some x := by rw [List.getElem?_replicate, if_pos h]
theorem t32_toInt' {n : Nat} (h : n < 2 ^ 31) : n.toInt32.toInt = n := len_toInt h
theorem t32_nn' {n : Nat} (h : n < 2 ^ 31) : ¬ n.toInt32 < 0 := by rw [Int32.lt_iff_toInt_lt, t32_toInt' h]; show ¬ (n : Int) < 0; omega
theorem t32_nat' {n : Nat} (h : n < 2 ^ 31) : n.toInt32.toNatClampNeg = n := by simp only [Int32.toNatClampNeg, t32_toInt' h]; rfl
theorem t32_succ' {n : Nat} (h : n < 256) : n.toInt32 + 1 = (n + 1).toInt32 := by
  apply Int32.toInt_inj.mp
  have e := c_iadd n.toInt32 1
  have r := rng32 (n.toInt32 + 1)
  have e1 : (1 : Int32).toInt = 1 := rfl
  rw [t32_toInt' (n := n + 1) (by omega)]
  rw [t32_toInt' (n := n) (by omega), e1] at e
  omega
theorem t32_lt' {n : Nat} (h : n < 256) : n.toInt32 < 256 := by rw [Int32.lt_iff_toInt_lt, t32_toInt' (by omega)]; show (n : Int) < 256; omega
theorem own_fill {x y : Value} {k f : Nat} : (List.replicate k x ++ List.replicate (f + 1) y).set k x = List.replicate (k + 1) x ++ List.replicate f y := by
  rw [List.set_append_right _ _ (by simp)]
  rw [show List.replicate (k + 1) x = List.replicate k x ++ [x] from List.replicate_succ', List.append_assoc]
  simp [List.replicate_succ]
theorem own_fillat {x y : Value} {k f : Nat} : (List.replicate k x ++ List.replicate (f + 1) y)[k]? = some y := by
  rw [List.getElem?_append_right (by simp)]; simp
theorem own_and3 (x : Int32) : x &&& 3 = 0 ∨ x &&& 3 = 1 ∨ x &&& 3 = 2 ∨ x &&& 3 = 3 := by
  have h := c_mask x 3 2 (by decide) (by decide)
  have : (x &&& 3).toInt = 0 ∨ (x &&& 3).toInt = 1 ∨ (x &&& 3).toInt = 2 ∨ (x &&& 3).toInt = 3 := by omega
  rcases this with q | q | q | q
  · exact Or.inl (Int32.toInt_inj.mp q)
  · exact Or.inr (Or.inl (Int32.toInt_inj.mp q))
  · exact Or.inr (Or.inr (Or.inl (Int32.toInt_inj.mp q)))
  · exact Or.inr (Or.inr (Or.inr (Int32.toInt_inj.mp q)))
theorem own_len (x : Int32) : (x &&& 7) % 5 = 0 ∨ (x &&& 7) % 5 = 1 ∨ (x &&& 7) % 5 = 2 ∨ (x &&& 7) % 5 = 3 ∨ (x &&& 7) % 5 = 4 := by
  have h := c_mask x 7 3 (by decide) (by decide)
  have r := (c_iremV (x &&& 7) 5).1 (by omega) (by decide)
  have e : (5 : Int32).toInt = 5 := rfl
  rw [e] at r
  generalize (x &&& 7) % 5 = y at r ⊢
  have : y.toInt = 0 ∨ y.toInt = 1 ∨ y.toInt = 2 ∨ y.toInt = 3 ∨ y.toInt = 4 := by omega
  rcases this with q | q | q | q | q
  · exact Or.inl (Int32.toInt_inj.mp q)
  · exact Or.inr (Or.inl (Int32.toInt_inj.mp q))
  · exact Or.inr (Or.inr (Or.inl (Int32.toInt_inj.mp q)))
  · exact Or.inr (Or.inr (Or.inr (Or.inl (Int32.toInt_inj.mp q))))
  · exact Or.inr (Or.inr (Or.inr (Or.inr (Int32.toInt_inj.mp q))))
/-- the JDK's own statics, as the law finds them -/
def Sts (Z : State) (cs : Int32) (fv : Value) : Prop := Sta Z Z.heap "java/lang/String" "COMPACT_STRINGS" "Z" (.int cs) ∧ ¬ cs = 0 ∧ Sta Z Z.heap "java/lang/StringUTF16" "$assertionsDisabled" "Z" (.int (1 : Int32)) ∧ Sta Z Z.heap "java/lang/StringUTF16" "HI_BYTE_SHIFT" "I" (.int (0 : Int32)) ∧ Sta Z Z.heap "java/lang/StringUTF16" "LO_BYTE_SHIFT" "I" (.int (8 : Int32)) ∧ Sta Z Z.heap "jdk/internal/util/Preconditions" "SIOOBE_FORMATTER" "Ljava/util/function/BiFunction;" fv ∧ (fv = .null ∨ ∃ r, fv = .ref r)
end Jvm.OwnKit

namespace Jvm.Pilot.@@N@@
open Jvm Jvm.ClassFile Sem Op Lib Jvm.Free Jvm.Stand Jvm.LawKit Jvm.RoadKit Jvm.OwnKit Bundle Jvm.Pilot.@@N@@.Jvm.D
set_option maxRecDepth 65536
set_option maxHeartbeats 40000000
abbrev vI (x : Int32) : Slot := .val (.int x)
abbrev vR (x : Addr) : Slot := .val (.ref x)
abbrev HW (Z : State) (a0 : Array Value) : Prop := ∀ d ∈ tables_1, d.before a0 Z = true
theorem wd {Z : State} {a0 : Array Value} (hw : ∀ d ∈ tables_1, d.before a0 Z = true) (i : Nat) {d : Jvm.Cond} (h : tables_1[i]? = some d) : d.before a0 Z = true := hw d (List.mem_of_getElem? h)
theorem strAtoms {Z : State} {a0 : Array Value} (hw : HW Z a0) : ∀ d ∈ Bundle.stringAtoms, d.before a0 Z = true := fun d hd => by
 simp only [Bundle.stringAtoms, List.mem_cons, List.not_mem_nil, or_false] at hd
 rcases hd with rfl | rfl | rfl | rfl | rfl | rfl | rfl
 · exact (wd hw 2 rfl)
 · exact (wd hw 1 rfl)
 · exact (wd hw 19 rfl)
 · exact (wd hw 29 rfl)
 · exact (wd hw 27 rfl)
 · exact (wd hw 93 rfl)
 · exact (wd hw 94 rfl)
theorem d24_0 : decode jdk_52_method_6_code 0 = .ok (.aload_n 0, 1) := by decide +kernel
theorem d24_1 : decode jdk_52_method_6_code 1 = .ok (.arraylength, 1) := by decide +kernel
theorem d24_2 : decode jdk_52_method_6_code 2 = .ok (.iconst 1, 1) := by decide +kernel
theorem d24_3 : decode jdk_52_method_6_code 3 = .ok (.ishr, 1) := by decide +kernel
theorem d24_4 : decode jdk_52_method_6_code 4 = .ok (.ireturn, 1) := by decide +kernel
theorem pn_24 : plainName "java/lang/StringUTF16" = true := by first | (simp [plainName, overriddenIn]; done) | decide +kernel
theorem ef_24_0 (x0 : Addr) (m : MethodId) : entryFrame m #[(.ref x0)] 1 = mkF m 0 #[.val (.ref x0)] [] := by first | (simp [entryFrame, mkF, argsToLocals, Value.category]; done) | rfl
def Q24_0 (Z : State) (b : Addr) (h0 : Heap) (n0 : Nat) : Option Value → Heap → Prop := fun v h => v = some (.int 0) ∧ h0 = h
theorem rm24_0 (l : Launch) (Z : State) (a0 : Array Value) (hw : HW Z a0) (b : Addr) (h0 : Heap) (n0 : Nat) (Z0 : n0 ≤ h0.size) (V1 : Va Z h0 b .byte []) : Ctr l Z (⟨"java/lang/StringUTF16", "length", "([B)I"⟩ : MethodName) jdk_52_method_6_code 1 (some .int) ({ frames := 0, cells := 0, slots := 0, locals := 0 } : Room) #[(.ref b)] h0 n0 (Q24_0 Z b h0 n0) := by
 refine Ctr.of (plainFor_of_name pn_24) (ef_24_0 b) ?_
 intro p e s m below meth c T0 hx hby hml hown hnm hret hlk hZ X0 e0
 have N0 := Fr.nil n0
 refine g_aloadN X0 hx (hb hby d24_0) (pc' := 1) rfl rfl rfl ?_
 refine g_arraylength X0 hx hZ e0 V1 (z := 0) (hb hby d24_1) (pc' := 2) rfl rfl ?_
 refine g_iconst X0 hx (hb hby d24_2) (pc' := 3) rfl (z := 1) rfl ?_
 refine g_ishr X0 hx (hb hby d24_3) (pc' := 4) rfl ?_
 refine Go.cast (show (mkF m 4 #[vR b] [(.int (shr (0 : Int32) (1 : Int32)))]) = (mkF m 4 #[vR b] [(.int 0)]) from by rw [show (shr (0 : Int32) (1 : Int32)) = (0 : Int32) from (by decide)]) ?_
 exact g_ireturn X0 hx hret (hb hby d24_4) N0 hlk (fun v t => endF (by decide) (by decide) v) (by rw [e0]; exact ⟨rfl, rfl⟩)
theorem ef_24_1 (x0 : Addr) (m : MethodId) : entryFrame m #[(.ref x0)] 1 = mkF m 0 #[.val (.ref x0)] [] := by first | (simp [entryFrame, mkF, argsToLocals, Value.category]; done) | rfl
def Q24_1 (Z : State) (b : Addr) (x0 : Int32) (x1 : Int32) (h0 : Heap) (n0 : Nat) : Option Value → Heap → Prop := fun v h => v = some (.int 1) ∧ h0 = h
theorem rm24_1 (l : Launch) (Z : State) (a0 : Array Value) (hw : HW Z a0) (b : Addr) (x0 : Int32) (x1 : Int32) (h0 : Heap) (n0 : Nat) (Z0 : n0 ≤ h0.size) (V1 : Va Z h0 b .byte [(.int x0), (.int x1)]) : Ctr l Z (⟨"java/lang/StringUTF16", "length", "([B)I"⟩ : MethodName) jdk_52_method_6_code 1 (some .int) ({ frames := 0, cells := 0, slots := 0, locals := 0 } : Room) #[(.ref b)] h0 n0 (Q24_1 Z b x0 x1 h0 n0) := by
 refine Ctr.of (plainFor_of_name pn_24) (ef_24_1 b) ?_
 intro p e s m below meth c T0 hx hby hml hown hnm hret hlk hZ X0 e0
 have N0 := Fr.nil n0
 refine g_aloadN X0 hx (hb hby d24_0) (pc' := 1) rfl rfl rfl ?_
 refine g_arraylength X0 hx hZ e0 V1 (z := 2) (hb hby d24_1) (pc' := 2) rfl rfl ?_
 refine g_iconst X0 hx (hb hby d24_2) (pc' := 3) rfl (z := 1) rfl ?_
 refine g_ishr X0 hx (hb hby d24_3) (pc' := 4) rfl ?_
 refine Go.cast (show (mkF m 4 #[vR b] [(.int (shr (2 : Int32) (1 : Int32)))]) = (mkF m 4 #[vR b] [(.int 1)]) from by rw [show (shr (2 : Int32) (1 : Int32)) = (1 : Int32) from (by decide)]) ?_
 exact g_ireturn X0 hx hret (hb hby d24_4) N0 hlk (fun v t => endF (by decide) (by decide) v) (by rw [e0]; exact ⟨rfl, rfl⟩)
theorem ef_24_2 (x0 : Addr) (m : MethodId) : entryFrame m #[(.ref x0)] 1 = mkF m 0 #[.val (.ref x0)] [] := by first | (simp [entryFrame, mkF, argsToLocals, Value.category]; done) | rfl
def Q24_2 (Z : State) (b : Addr) (x0 : Int32) (x1 : Int32) (x2 : Int32) (x3 : Int32) (h0 : Heap) (n0 : Nat) : Option Value → Heap → Prop := fun v h => v = some (.int 2) ∧ h0 = h
theorem rm24_2 (l : Launch) (Z : State) (a0 : Array Value) (hw : HW Z a0) (b : Addr) (x0 : Int32) (x1 : Int32) (x2 : Int32) (x3 : Int32) (h0 : Heap) (n0 : Nat) (Z0 : n0 ≤ h0.size) (V1 : Va Z h0 b .byte [(.int x0), (.int x1), (.int x2), (.int x3)]) : Ctr l Z (⟨"java/lang/StringUTF16", "length", "([B)I"⟩ : MethodName) jdk_52_method_6_code 1 (some .int) ({ frames := 0, cells := 0, slots := 0, locals := 0 } : Room) #[(.ref b)] h0 n0 (Q24_2 Z b x0 x1 x2 x3 h0 n0) := by
 refine Ctr.of (plainFor_of_name pn_24) (ef_24_2 b) ?_
 intro p e s m below meth c T0 hx hby hml hown hnm hret hlk hZ X0 e0
 have N0 := Fr.nil n0
 refine g_aloadN X0 hx (hb hby d24_0) (pc' := 1) rfl rfl rfl ?_
 refine g_arraylength X0 hx hZ e0 V1 (z := 4) (hb hby d24_1) (pc' := 2) rfl rfl ?_
 refine g_iconst X0 hx (hb hby d24_2) (pc' := 3) rfl (z := 1) rfl ?_
 refine g_ishr X0 hx (hb hby d24_3) (pc' := 4) rfl ?_
 refine Go.cast (show (mkF m 4 #[vR b] [(.int (shr (4 : Int32) (1 : Int32)))]) = (mkF m 4 #[vR b] [(.int 2)]) from by rw [show (shr (4 : Int32) (1 : Int32)) = (2 : Int32) from (by decide)]) ?_
 exact g_ireturn X0 hx hret (hb hby d24_4) N0 hlk (fun v t => endF (by decide) (by decide) v) (by rw [e0]; exact ⟨rfl, rfl⟩)
theorem ef_24_3 (x0 : Addr) (m : MethodId) : entryFrame m #[(.ref x0)] 1 = mkF m 0 #[.val (.ref x0)] [] := by first | (simp [entryFrame, mkF, argsToLocals, Value.category]; done) | rfl
def Q24_3 (Z : State) (b : Addr) (x0 : Int32) (x1 : Int32) (x2 : Int32) (x3 : Int32) (x4 : Int32) (x5 : Int32) (h0 : Heap) (n0 : Nat) : Option Value → Heap → Prop := fun v h => v = some (.int 3) ∧ h0 = h
theorem rm24_3 (l : Launch) (Z : State) (a0 : Array Value) (hw : HW Z a0) (b : Addr) (x0 : Int32) (x1 : Int32) (x2 : Int32) (x3 : Int32) (x4 : Int32) (x5 : Int32) (h0 : Heap) (n0 : Nat) (Z0 : n0 ≤ h0.size) (V1 : Va Z h0 b .byte [(.int x0), (.int x1), (.int x2), (.int x3), (.int x4), (.int x5)]) : Ctr l Z (⟨"java/lang/StringUTF16", "length", "([B)I"⟩ : MethodName) jdk_52_method_6_code 1 (some .int) ({ frames := 0, cells := 0, slots := 0, locals := 0 } : Room) #[(.ref b)] h0 n0 (Q24_3 Z b x0 x1 x2 x3 x4 x5 h0 n0) := by
 refine Ctr.of (plainFor_of_name pn_24) (ef_24_3 b) ?_
 intro p e s m below meth c T0 hx hby hml hown hnm hret hlk hZ X0 e0
 have N0 := Fr.nil n0
 refine g_aloadN X0 hx (hb hby d24_0) (pc' := 1) rfl rfl rfl ?_
 refine g_arraylength X0 hx hZ e0 V1 (z := 6) (hb hby d24_1) (pc' := 2) rfl rfl ?_
 refine g_iconst X0 hx (hb hby d24_2) (pc' := 3) rfl (z := 1) rfl ?_
 refine g_ishr X0 hx (hb hby d24_3) (pc' := 4) rfl ?_
 refine Go.cast (show (mkF m 4 #[vR b] [(.int (shr (6 : Int32) (1 : Int32)))]) = (mkF m 4 #[vR b] [(.int 3)]) from by rw [show (shr (6 : Int32) (1 : Int32)) = (3 : Int32) from (by decide)]) ?_
 exact g_ireturn X0 hx hret (hb hby d24_4) N0 hlk (fun v t => endF (by decide) (by decide) v) (by rw [e0]; exact ⟨rfl, rfl⟩)
theorem ef_24_4 (x0 : Addr) (m : MethodId) : entryFrame m #[(.ref x0)] 1 = mkF m 0 #[.val (.ref x0)] [] := by first | (simp [entryFrame, mkF, argsToLocals, Value.category]; done) | rfl
def Q24_4 (Z : State) (b : Addr) (x0 : Int32) (x1 : Int32) (x2 : Int32) (x3 : Int32) (x4 : Int32) (x5 : Int32) (x6 : Int32) (x7 : Int32) (h0 : Heap) (n0 : Nat) : Option Value → Heap → Prop := fun v h => v = some (.int 4) ∧ h0 = h
theorem rm24_4 (l : Launch) (Z : State) (a0 : Array Value) (hw : HW Z a0) (b : Addr) (x0 : Int32) (x1 : Int32) (x2 : Int32) (x3 : Int32) (x4 : Int32) (x5 : Int32) (x6 : Int32) (x7 : Int32) (h0 : Heap) (n0 : Nat) (Z0 : n0 ≤ h0.size) (V1 : Va Z h0 b .byte [(.int x0), (.int x1), (.int x2), (.int x3), (.int x4), (.int x5), (.int x6), (.int x7)]) : Ctr l Z (⟨"java/lang/StringUTF16", "length", "([B)I"⟩ : MethodName) jdk_52_method_6_code 1 (some .int) ({ frames := 0, cells := 0, slots := 0, locals := 0 } : Room) #[(.ref b)] h0 n0 (Q24_4 Z b x0 x1 x2 x3 x4 x5 x6 x7 h0 n0) := by
 refine Ctr.of (plainFor_of_name pn_24) (ef_24_4 b) ?_
 intro p e s m below meth c T0 hx hby hml hown hnm hret hlk hZ X0 e0
 have N0 := Fr.nil n0
 refine g_aloadN X0 hx (hb hby d24_0) (pc' := 1) rfl rfl rfl ?_
 refine g_arraylength X0 hx hZ e0 V1 (z := 8) (hb hby d24_1) (pc' := 2) rfl rfl ?_
 refine g_iconst X0 hx (hb hby d24_2) (pc' := 3) rfl (z := 1) rfl ?_
 refine g_ishr X0 hx (hb hby d24_3) (pc' := 4) rfl ?_
 refine Go.cast (show (mkF m 4 #[vR b] [(.int (shr (8 : Int32) (1 : Int32)))]) = (mkF m 4 #[vR b] [(.int 4)]) from by rw [show (shr (8 : Int32) (1 : Int32)) = (4 : Int32) from (by decide)]) ?_
 exact g_ireturn X0 hx hret (hb hby d24_4) N0 hlk (fun v t => endF (by decide) (by decide) v) (by rw [e0]; exact ⟨rfl, rfl⟩)
theorem d14_0 : decode jdk_41_method_11_code 0 = .ok (.iload_n 0, 1) := by decide +kernel
theorem d14_1 : decode jdk_41_method_11_code 1 = .ok (.ifCond .lt 8, 3) := by decide +kernel
theorem d14_4 : decode jdk_41_method_11_code 4 = .ok (.iload_n 0, 1) := by decide +kernel
theorem d14_5 : decode jdk_41_method_11_code 5 = .ok (.iload_n 1, 1) := by decide +kernel
theorem d14_6 : decode jdk_41_method_11_code 6 = .ok (.if_icmp .lt 10, 3) := by decide +kernel
theorem d14_16 : decode jdk_41_method_11_code 16 = .ok (.iload_n 0, 1) := by decide +kernel
theorem d14_17 : decode jdk_41_method_11_code 17 = .ok (.ireturn, 1) := by decide +kernel
theorem pn_14 : plainName "jdk/internal/util/Preconditions" = true := by first | (simp [plainName, overriddenIn]; done) | decide +kernel
theorem ef_14N (x0 : Int32) (x1 : Int32) (m : MethodId) : entryFrame m #[(.int x0), (.int x1), .null] 3 = mkF m 0 #[.val (.int x0), .val (.int x1), .val .null] [] := by first | (simp [entryFrame, mkF, argsToLocals, Value.category]; done) | rfl
def Q14N (Z : State) (i : Int32) (n : Int32) (h0 : Heap) (n0 : Nat) : Option Value → Heap → Prop := fun v h => v = some (.int i) ∧ h0 = h
theorem rm14N (l : Launch) (Z : State) (a0 : Array Value) (hw : HW Z a0) (i : Int32) (n : Int32) (h0 : Heap) (n0 : Nat) (Z0 : n0 ≤ h0.size) (k1 : ¬ i < 0) (k2 : i < n) : Ctr l Z (⟨"jdk/internal/util/Preconditions", "checkIndex", "(IILjava/util/function/BiFunction;)I"⟩ : MethodName) jdk_41_method_11_code 3 (some .int) ({ frames := 0, cells := 0, slots := 0, locals := 0 } : Room) #[(.int i), (.int n), .null] h0 n0 (Q14N Z i n h0 n0) := by
 refine Ctr.of (plainFor_of_name pn_14) (ef_14N i n) ?_
 intro p e s m below meth c T0 hx hby hml hown hnm hret hlk hZ X0 e0
 have N0 := Fr.nil n0
 refine g_iloadN X0 hx (hb hby d14_0) (pc' := 1) rfl rfl ?_
 refine g_if_lt X0 hx (hb hby d14_1) (pc1 := 4) rfl (by decide) (pc2 := 9) (by decide) (fun hc1 => absurd hc1 k1) (fun hc1 => ?_)
 refine g_iloadN X0 hx (hb hby d14_4) (pc' := 5) rfl rfl ?_
 refine g_iloadN X0 hx (hb hby d14_5) (pc' := 6) rfl rfl ?_
 refine g_icmp_lt X0 hx (hb hby d14_6) (pc1 := 9) rfl (by decide) (pc2 := 16) (by decide) (fun hc6 => ?_) (fun hc6 => absurd k2 hc6)
 refine g_iloadN X0 hx (hb hby d14_16) (pc' := 17) rfl rfl ?_
 exact g_ireturn X0 hx hret (hb hby d14_17) N0 hlk (fun v t => endF (by decide) (by decide) v) (by rw [e0]; exact ⟨rfl, rfl⟩)
theorem ef_14R (x0 : Int32) (x1 : Int32) (x2 : Addr) (m : MethodId) : entryFrame m #[(.int x0), (.int x1), (.ref x2)] 3 = mkF m 0 #[.val (.int x0), .val (.int x1), .val (.ref x2)] [] := by first | (simp [entryFrame, mkF, argsToLocals, Value.category]; done) | rfl
def Q14R (Z : State) (i : Int32) (n : Int32) (fr : Addr) (h0 : Heap) (n0 : Nat) : Option Value → Heap → Prop := fun v h => v = some (.int i) ∧ h0 = h
theorem rm14R (l : Launch) (Z : State) (a0 : Array Value) (hw : HW Z a0) (i : Int32) (n : Int32) (fr : Addr) (h0 : Heap) (n0 : Nat) (Z0 : n0 ≤ h0.size) (k1 : ¬ i < 0) (k2 : i < n) : Ctr l Z (⟨"jdk/internal/util/Preconditions", "checkIndex", "(IILjava/util/function/BiFunction;)I"⟩ : MethodName) jdk_41_method_11_code 3 (some .int) ({ frames := 0, cells := 0, slots := 0, locals := 0 } : Room) #[(.int i), (.int n), (.ref fr)] h0 n0 (Q14R Z i n fr h0 n0) := by
 refine Ctr.of (plainFor_of_name pn_14) (ef_14R i n fr) ?_
 intro p e s m below meth c T0 hx hby hml hown hnm hret hlk hZ X0 e0
 have N0 := Fr.nil n0
 refine g_iloadN X0 hx (hb hby d14_0) (pc' := 1) rfl rfl ?_
 refine g_if_lt X0 hx (hb hby d14_1) (pc1 := 4) rfl (by decide) (pc2 := 9) (by decide) (fun hc1 => absurd hc1 k1) (fun hc1 => ?_)
 refine g_iloadN X0 hx (hb hby d14_4) (pc' := 5) rfl rfl ?_
 refine g_iloadN X0 hx (hb hby d14_5) (pc' := 6) rfl rfl ?_
 refine g_icmp_lt X0 hx (hb hby d14_6) (pc1 := 9) rfl (by decide) (pc2 := 16) (by decide) (fun hc6 => ?_) (fun hc6 => absurd k2 hc6)
 refine g_iloadN X0 hx (hb hby d14_16) (pc' := 17) rfl rfl ?_
 exact g_ireturn X0 hx hret (hb hby d14_17) N0 hlk (fun v t => endF (by decide) (by decide) v) (by rw [e0]; exact ⟨rfl, rfl⟩)
theorem pd__IILjava_util_function_BiFunction__I : parseMethodDescriptor "(IILjava/util/function/BiFunction;)I" = some ⟨[.int, .int, (.object "java/util/function/BiFunction")], some .int⟩ := by decide +kernel
theorem d13_0 : decode jdk_42_method_155_code 0 = .ok (.iload_n 0, 1) := by decide +kernel
theorem d13_1 : decode jdk_42_method_155_code 1 = .ok (.iload_n 1, 1) := by decide +kernel
theorem d13_2 : decode jdk_42_method_155_code 2 = .ok (.getstatic 1053, 3) := by decide +kernel
theorem d13_5 : decode jdk_42_method_155_code 5 = .ok (.invokestatic 1059, 3) := by decide +kernel
theorem d13_8 : decode jdk_42_method_155_code 8 = .ok (.pop, 1) := by decide +kernel
theorem d13_9 : decode jdk_42_method_155_code 9 = .ok (.return_, 1) := by decide +kernel
theorem pn_13 : plainName "java/lang/String" = true := by first | (simp [plainName, overriddenIn]; done) | decide +kernel
theorem ef_13 (x0 : Int32) (x1 : Int32) (m : MethodId) : entryFrame m #[(.int x0), (.int x1)] 2 = mkF m 0 #[.val (.int x0), .val (.int x1)] [] := by first | (simp [entryFrame, mkF, argsToLocals, Value.category]; done) | rfl
def Q13 (Z : State) (i : Int32) (n : Int32) (cs : Int32) (fv : Value) (h0 : Heap) (n0 : Nat) : Option Value → Heap → Prop := fun v h => v = none ∧ h0 = h
theorem rm13 (l : Launch) (Z : State) (a0 : Array Value) (hw : HW Z a0) (i : Int32) (n : Int32) (cs : Int32) (fv : Value) (h0 : Heap) (n0 : Nat) (Z0 : n0 ≤ h0.size) (B : Sts Z cs fv) (O : Old Z n0 h0) (k1 : ¬ i < 0) (k2 : i < n) : Ctr l Z (⟨"java/lang/String", "checkIndex", "(II)V"⟩ : MethodName) jdk_42_method_155_code 2 none ({ frames := 1, cells := 0, slots := 0, locals := 14 } : Room) #[(.int i), (.int n)] h0 n0 (Q13 Z i n cs fv h0 n0) := by
 refine Ctr.of (plainFor_of_name pn_13) (ef_13 i n) ?_
 intro p e s m below meth c T0 hx hby hml hown hnm hret hlk hZ X0 e0
 have N0 := Fr.nil n0
 rcases B.2.2.2.2.2.2 with rfl | ⟨fr, rfl⟩
 ·
  refine g_iloadN X0 hx (hb hby d13_0) (pc' := 1) rfl rfl ?_
  refine g_iloadN X0 hx (hb hby d13_1) (pc' := 2) rfl rfl ?_
  obtain ⟨T1, X1, e1, st1⟩ := getS2 X0 hx hZ hown (host := "") (Or.inl (wd hw 75 rfl)) Via.refl e0 (Sta.ext O.2 B.2.2.2.2.2.1) (g := (mkF m 2 #[vI i, vI n] [(.int n), (.int i)])) rfl (hb hby d13_2)
  refine Go.movp st1 (mkF m 5 #[vI i, vI n] [.null, (.int n), (.int i)]) rfl ?_
  obtain ⟨v2, T2, h2, L2, X2, e2, N2, q2, st2⟩ := h_static X1 hx (W := 0) (Ls := #[vI i, vI n]) (argsL := [(.int i), (.int n), .null]) (rest := []) hZ e1 N0 hml hown (rm14N l Z a0 hw i n h0 n0 Z0 k1 k2) (wd hw 77 rfl) (wd hw 78 rfl) (wd hw 76 rfl) (wd hw 79 rfl) (by decide) pd__IILjava_util_function_BiFunction__I rfl rfl (hb hby d13_5) rfl (by decide) (by decide) (by decide) (by decide)
  obtain ⟨rfl, rfl⟩ := q2
  refine Go.movp st2 (mkF m 8 #[vI i, vI n] [(.int i)]) rfl ?_
  refine g_pop X2 hx (hb hby d13_8) (pc' := 9) rfl rfl ?_
  exact g_return X2 hx hret (hb hby d13_9) N2 hlk (fun v t => endF (by decide) (by decide) v) (by rw [e2]; exact ⟨rfl, rfl⟩)
 ·
  refine g_iloadN X0 hx (hb hby d13_0) (pc' := 1) rfl rfl ?_
  refine g_iloadN X0 hx (hb hby d13_1) (pc' := 2) rfl rfl ?_
  obtain ⟨T3, X3, e3, st3⟩ := getS2 X0 hx hZ hown (host := "") (Or.inl (wd hw 75 rfl)) Via.refl e0 (Sta.ext O.2 B.2.2.2.2.2.1) (g := (mkF m 2 #[vI i, vI n] [(.int n), (.int i)])) rfl (hb hby d13_2)
  refine Go.movp st3 (mkF m 5 #[vI i, vI n] [(.ref fr), (.int n), (.int i)]) rfl ?_
  obtain ⟨v4, T4, h4, L4, X4, e4, N4, q4, st4⟩ := h_static X3 hx (W := 0) (Ls := #[vI i, vI n]) (argsL := [(.int i), (.int n), (.ref fr)]) (rest := []) hZ e3 N0 hml hown (rm14R l Z a0 hw i n fr h0 n0 Z0 k1 k2) (wd hw 77 rfl) (wd hw 78 rfl) (wd hw 76 rfl) (wd hw 79 rfl) (by decide) pd__IILjava_util_function_BiFunction__I rfl rfl (hb hby d13_5) rfl (by decide) (by decide) (by decide) (by decide)
  obtain ⟨rfl, rfl⟩ := q4
  refine Go.movp st4 (mkF m 8 #[vI i, vI n] [(.int i)]) rfl ?_
  refine g_pop X4 hx (hb hby d13_8) (pc' := 9) rfl rfl ?_
  exact g_return X4 hx hret (hb hby d13_9) N4 hlk (fun v t => endF (by decide) (by decide) v) (by rw [e4]; exact ⟨rfl, rfl⟩)
theorem pd___B_I : parseMethodDescriptor "([B)I" = some ⟨[(.array .byte)], some .int⟩ := by decide +kernel
theorem pd__II_V : parseMethodDescriptor "(II)V" = some ⟨[.int, .int], none⟩ := by decide +kernel
theorem d23_0 : decode jdk_52_method_91_code 0 = .ok (.iload_n 0, 1) := by decide +kernel
theorem d23_1 : decode jdk_52_method_91_code 1 = .ok (.aload_n 1, 1) := by decide +kernel
theorem d23_2 : decode jdk_52_method_91_code 2 = .ok (.invokestatic 48, 3) := by decide +kernel
theorem d23_5 : decode jdk_52_method_91_code 5 = .ok (.invokestatic 414, 3) := by decide +kernel
theorem d23_8 : decode jdk_52_method_91_code 8 = .ok (.return_, 1) := by decide +kernel
theorem ef_23_1 (x0 : Int32) (x1 : Addr) (m : MethodId) : entryFrame m #[(.int x0), (.ref x1)] 2 = mkF m 0 #[.val (.int x0), .val (.ref x1)] [] := by first | (simp [entryFrame, mkF, argsToLocals, Value.category]; done) | rfl
def Q23_1 (Z : State) (b : Addr) (i : Int32) (x0 : Int32) (x1 : Int32) (cs : Int32) (fv : Value) (h0 : Heap) (n0 : Nat) : Option Value → Heap → Prop := fun v h => v = none ∧ h0 = h
theorem rm23_1 (l : Launch) (Z : State) (a0 : Array Value) (hw : HW Z a0) (b : Addr) (i : Int32) (x0 : Int32) (x1 : Int32) (cs : Int32) (fv : Value) (h0 : Heap) (n0 : Nat) (Z0 : n0 ≤ h0.size) (V1 : Va Z h0 b .byte [(.int x0), (.int x1)]) (B : Sts Z cs fv) (O : Old Z n0 h0) (k1 : ¬ i < 0) (k2 : i < (1 : Int32)) : Ctr l Z (⟨"java/lang/StringUTF16", "checkIndex", "(I[B)V"⟩ : MethodName) jdk_52_method_91_code 2 none ({ frames := 2, cells := 0, slots := 0, locals := 27 } : Room) #[(.int i), (.ref b)] h0 n0 (Q23_1 Z b i x0 x1 cs fv h0 n0) := by
 refine Ctr.of (plainFor_of_name pn_24) (ef_23_1 i b) ?_
 intro p e s m below meth c T0 hx hby hml hown hnm hret hlk hZ X0 e0
 have N0 := Fr.nil n0
 refine g_iloadN X0 hx (hb hby d23_0) (pc' := 1) rfl rfl ?_
 refine g_aloadN X0 hx (hb hby d23_1) (pc' := 2) rfl rfl rfl ?_
 obtain ⟨v5, T5, h5, L5, X5, e5, N5, q5, st5⟩ := h_static X0 hx (W := 1) (Ls := #[vI i, vR b]) (argsL := [(.ref b)]) (rest := [(.int i)]) hZ e0 N0 hml hown (rm24_1 l Z a0 hw b x0 x1 h0 n0 Z0 V1) (wd hw 120 rfl) (wd hw 121 rfl) (wd hw 17 rfl) (wd hw 122 rfl) (by decide) pd___B_I rfl rfl (hb hby d23_2) rfl (by decide) (by decide) (by decide) (by decide)
 obtain ⟨rfl, rfl⟩ := q5
 refine Go.movp st5 (mkF m 5 #[vI i, vR b] [(.int 1), (.int i)]) rfl ?_
 obtain ⟨v6, T6, h6, L6, X6, e6, N6, q6, st6⟩ := h_static X5 hx (W := 0) (Ls := #[vI i, vR b]) (argsL := [(.int i), (.int 1)]) (rest := []) hZ e5 N5 hml hown (rm13 l Z a0 hw i (1 : Int32) cs fv h0 n0 Z0 B O k1 k2) (wd hw 123 rfl) (wd hw 73 rfl) (wd hw 2 rfl) (wd hw 74 rfl) (by decide) pd__II_V rfl rfl (hb hby d23_5) rfl (by decide) (by decide) (by decide) (by decide)
 obtain ⟨rfl, rfl⟩ := q6
 refine Go.movp st6 (mkF m 8 #[vI i, vR b] []) rfl ?_
 exact g_return X6 hx hret (hb hby d23_8) N6 hlk (fun v t => endF (by decide) (by decide) v) (by rw [e6]; exact ⟨rfl, rfl⟩)
theorem d21_0 : decode jdk_52_method_5_code 0 = .ok (.getstatic 44, 3) := by decide +kernel
theorem d21_3 : decode jdk_52_method_5_code 3 = .ok (.ifCond .ne 25, 3) := by decide +kernel
theorem d21_28 : decode jdk_52_method_5_code 28 = .ok (.iload_n 1, 1) := by decide +kernel
theorem d21_29 : decode jdk_52_method_5_code 29 = .ok (.iconst 1, 1) := by decide +kernel
theorem d21_30 : decode jdk_52_method_5_code 30 = .ok (.ishl, 1) := by decide +kernel
theorem d21_31 : decode jdk_52_method_5_code 31 = .ok (.istore_n 1, 1) := by decide +kernel
theorem d21_32 : decode jdk_52_method_5_code 32 = .ok (.aload_n 0, 1) := by decide +kernel
theorem d21_33 : decode jdk_52_method_5_code 33 = .ok (.iload_n 1, 1) := by decide +kernel
theorem d21_34 : decode jdk_52_method_5_code 34 = .ok (.iinc 1 1, 3) := by decide +kernel
theorem d21_37 : decode jdk_52_method_5_code 37 = .ok (.baload, 1) := by decide +kernel
theorem d21_38 : decode jdk_52_method_5_code 38 = .ok (.sipush 255, 3) := by decide +kernel
theorem d21_41 : decode jdk_52_method_5_code 41 = .ok (.iand, 1) := by decide +kernel
theorem d21_42 : decode jdk_52_method_5_code 42 = .ok (.getstatic 59, 3) := by decide +kernel
theorem d21_45 : decode jdk_52_method_5_code 45 = .ok (.ishl, 1) := by decide +kernel
theorem d21_46 : decode jdk_52_method_5_code 46 = .ok (.aload_n 0, 1) := by decide +kernel
theorem d21_47 : decode jdk_52_method_5_code 47 = .ok (.iload_n 1, 1) := by decide +kernel
theorem d21_48 : decode jdk_52_method_5_code 48 = .ok (.baload, 1) := by decide +kernel
theorem d21_49 : decode jdk_52_method_5_code 49 = .ok (.sipush 255, 3) := by decide +kernel
theorem d21_52 : decode jdk_52_method_5_code 52 = .ok (.iand, 1) := by decide +kernel
theorem d21_53 : decode jdk_52_method_5_code 53 = .ok (.getstatic 63, 3) := by decide +kernel
theorem d21_56 : decode jdk_52_method_5_code 56 = .ok (.ishl, 1) := by decide +kernel
theorem d21_57 : decode jdk_52_method_5_code 57 = .ok (.ior, 1) := by decide +kernel
theorem d21_58 : decode jdk_52_method_5_code 58 = .ok (.i2c, 1) := by decide +kernel
theorem d21_59 : decode jdk_52_method_5_code 59 = .ok (.ireturn, 1) := by decide +kernel
theorem ef_21_1_0 (x0 : Addr) (x1 : Int32) (m : MethodId) : entryFrame m #[(.ref x0), (.int x1)] 2 = mkF m 0 #[.val (.ref x0), .val (.int x1)] [] := by first | (simp [entryFrame, mkF, argsToLocals, Value.category]; done) | rfl
def Q21_1_0 (Z : State) (b : Addr) (c0 : Int32) (cs : Int32) (fv : Value) (h0 : Heap) (n0 : Nat) : Option Value → Heap → Prop := fun v h => v = some (.int c0) ∧ h0 = h
theorem rm21_1_0 (l : Launch) (Z : State) (a0 : Array Value) (hw : HW Z a0) (b : Addr) (c0 : Int32) (cs : Int32) (fv : Value) (h0 : Heap) (n0 : Nat) (Z0 : n0 ≤ h0.size) (V1 : Va Z h0 b .byte [(.int (byt (shr c0 (0 : Int32)))), (.int (byt (shr c0 (8 : Int32))))]) (B : Sts Z cs fv) (O : Old Z n0 h0) (hc : chr c0 = c0) : Ctr l Z (⟨"java/lang/StringUTF16", "getChar", "([BI)C"⟩ : MethodName) jdk_52_method_5_code 2 (some .char) ({ frames := 0, cells := 0, slots := 0, locals := 0 } : Room) #[(.ref b), (.int 0)] h0 n0 (Q21_1_0 Z b c0 cs fv h0 n0) := by
 refine Ctr.of (plainFor_of_name pn_24) (ef_21_1_0 b (0 : Int32)) ?_
 intro p e s m below meth c T0 hx hby hml hown hnm hret hlk hZ X0 e0
 have N0 := Fr.nil n0
 obtain ⟨T7, X7, e7, st7⟩ := getS2 X0 hx hZ hown (host := "") (Or.inl (wd hw 108 rfl)) Via.refl e0 (Sta.ext O.2 B.2.2.1) (g := (mkF m 0 #[vR b, vI 0] [])) rfl (hb hby d21_0)
 refine Go.movp st7 (mkF m 3 #[vR b, vI 0] [(.int 1)]) rfl ?_
 refine g_if_ne X7 hx (hb hby d21_3) (pc1 := 6) rfl (by decide) (pc2 := 28) (by decide) (fun hc3 => ?_) (fun hc3 => absurd hc3 (by decide))
 refine g_iloadN X7 hx (hb hby d21_28) (pc' := 29) rfl rfl ?_
 refine g_iconst X7 hx (hb hby d21_29) (pc' := 30) rfl (z := 1) rfl ?_
 refine g_ishl X7 hx (hb hby d21_30) (pc' := 31) rfl ?_
 refine Go.cast (show (mkF m 31 #[vR b, vI 0] [(.int (shl (0 : Int32) (1 : Int32)))]) = (mkF m 31 #[vR b, vI 0] [(.int 0)]) from by rw [show (shl (0 : Int32) (1 : Int32)) = (0 : Int32) from (by decide)]) ?_
 refine g_istoreN X7 hx (hb hby d21_31) (pc' := 32) rfl (Ls' := #[vR b, vI 0]) rfl ?_
 refine g_aloadN X7 hx (hb hby d21_32) (pc' := 33) rfl rfl rfl ?_
 refine g_iloadN X7 hx (hb hby d21_33) (pc' := 34) rfl rfl ?_
 refine g_iinc X7 hx (hb hby d21_34) (pc' := 37) rfl rfl (z := 1) rfl (Ls' := #[vR b, vI 1]) rfl ?_
 refine g_baload X7 hx hZ e7 V1 (i := 0) (v := (.int (byt (shr c0 (0 : Int32))))) (hb hby d21_37) (pc' := 38) rfl (by decide) rfl rfl ?_
 refine g_sipush X7 hx (hb hby d21_38) (pc' := 41) rfl (z := 255) rfl ?_
 refine g_iand X7 hx (hb hby d21_41) (pc' := 42) rfl ?_
 obtain ⟨T8, X8, e8, st8⟩ := getS2 X7 hx hZ hown (host := "") (Or.inl (wd hw 109 rfl)) Via.refl e7 (Sta.ext O.2 B.2.2.2.1) (g := (mkF m 42 #[vR b, vI 1] [(.int ((byt (shr c0 (0 : Int32))) &&& (255 : Int32)))])) rfl (hb hby d21_42)
 refine Go.movp st8 (mkF m 45 #[vR b, vI 1] [(.int 0), (.int ((byt (shr c0 (0 : Int32))) &&& (255 : Int32)))]) rfl ?_
 refine g_ishl X8 hx (hb hby d21_45) (pc' := 46) rfl ?_
 refine g_aloadN X8 hx (hb hby d21_46) (pc' := 47) rfl rfl rfl ?_
 refine g_iloadN X8 hx (hb hby d21_47) (pc' := 48) rfl rfl ?_
 refine g_baload X8 hx hZ e8 V1 (i := 1) (v := (.int (byt (shr c0 (8 : Int32))))) (hb hby d21_48) (pc' := 49) rfl (by decide) rfl rfl ?_
 refine g_sipush X8 hx (hb hby d21_49) (pc' := 52) rfl (z := 255) rfl ?_
 refine g_iand X8 hx (hb hby d21_52) (pc' := 53) rfl ?_
 obtain ⟨T9, X9, e9, st9⟩ := getS2 X8 hx hZ hown (host := "") (Or.inl (wd hw 110 rfl)) Via.refl e8 (Sta.ext O.2 B.2.2.2.2.1) (g := (mkF m 53 #[vR b, vI 1] [(.int ((byt (shr c0 (8 : Int32))) &&& (255 : Int32))), (.int (shl ((byt (shr c0 (0 : Int32))) &&& (255 : Int32)) (0 : Int32)))])) rfl (hb hby d21_53)
 refine Go.movp st9 (mkF m 56 #[vR b, vI 1] [(.int 8), (.int ((byt (shr c0 (8 : Int32))) &&& (255 : Int32))), (.int (shl ((byt (shr c0 (0 : Int32))) &&& (255 : Int32)) (0 : Int32)))]) rfl ?_
 refine g_ishl X9 hx (hb hby d21_56) (pc' := 57) rfl ?_
 refine g_ior X9 hx (hb hby d21_57) (pc' := 58) rfl ?_
 refine g_i2c X9 hx (hb hby d21_58) (pc' := 59) rfl ?_
 exact g_creturn X9 hx (narrow_chr _) hret (hb hby d21_59) N0 hlk (fun v t => endF (by decide) (by decide) v) (by rw [e9]; exact ⟨by rw [own_utf hc], rfl⟩)
theorem pd__I_B_V : parseMethodDescriptor "(I[B)V" = some ⟨[.int, (.array .byte)], none⟩ := by decide +kernel
theorem pd___BI_C : parseMethodDescriptor "([BI)C" = some ⟨[(.array .byte), .int], some .char⟩ := by decide +kernel
theorem d22_0 : decode jdk_52_method_83_code 0 = .ok (.iload_n 1, 1) := by decide +kernel
theorem d22_1 : decode jdk_52_method_83_code 1 = .ok (.aload_n 0, 1) := by decide +kernel
theorem d22_2 : decode jdk_52_method_83_code 2 = .ok (.invokestatic 67, 3) := by decide +kernel
theorem d22_5 : decode jdk_52_method_83_code 5 = .ok (.aload_n 0, 1) := by decide +kernel
theorem d22_6 : decode jdk_52_method_83_code 6 = .ok (.iload_n 1, 1) := by decide +kernel
theorem d22_7 : decode jdk_52_method_83_code 7 = .ok (.invokestatic 71, 3) := by decide +kernel
theorem d22_10 : decode jdk_52_method_83_code 10 = .ok (.ireturn, 1) := by decide +kernel
theorem ef_22_1_0 (x0 : Addr) (x1 : Int32) (m : MethodId) : entryFrame m #[(.ref x0), (.int x1)] 2 = mkF m 0 #[.val (.ref x0), .val (.int x1)] [] := by first | (simp [entryFrame, mkF, argsToLocals, Value.category]; done) | rfl
def Q22_1_0 (Z : State) (b : Addr) (c0 : Int32) (cs : Int32) (fv : Value) (h0 : Heap) (n0 : Nat) : Option Value → Heap → Prop := fun v h => v = some (.int c0) ∧ h0 = h
theorem rm22_1_0 (l : Launch) (Z : State) (a0 : Array Value) (hw : HW Z a0) (b : Addr) (c0 : Int32) (cs : Int32) (fv : Value) (h0 : Heap) (n0 : Nat) (Z0 : n0 ≤ h0.size) (V1 : Va Z h0 b .byte [(.int (byt (shr c0 (0 : Int32)))), (.int (byt (shr c0 (8 : Int32))))]) (B : Sts Z cs fv) (O : Old Z n0 h0) (hc : chr c0 = c0) : Ctr l Z (⟨"java/lang/StringUTF16", "charAt", "([BI)C"⟩ : MethodName) jdk_52_method_83_code 2 (some .char) ({ frames := 3, cells := 0, slots := 0, locals := 40 } : Room) #[(.ref b), (.int 0)] h0 n0 (Q22_1_0 Z b c0 cs fv h0 n0) := by
 refine Ctr.of (plainFor_of_name pn_24) (ef_22_1_0 b (0 : Int32)) ?_
 intro p e s m below meth c T0 hx hby hml hown hnm hret hlk hZ X0 e0
 have N0 := Fr.nil n0
 refine g_iloadN X0 hx (hb hby d22_0) (pc' := 1) rfl rfl ?_
 refine g_aloadN X0 hx (hb hby d22_1) (pc' := 2) rfl rfl rfl ?_
 obtain ⟨v10, T10, h10, L10, X10, e10, N10, q10, st10⟩ := h_static X0 hx (W := 0) (Ls := #[vR b, vI 0]) (argsL := [(.int 0), (.ref b)]) (rest := []) hZ e0 N0 hml hown (rm23_1 l Z a0 hw b (0 : Int32) (byt (shr c0 (0 : Int32))) (byt (shr c0 (8 : Int32))) cs fv h0 n0 Z0 V1 B O (by decide) (by decide)) (wd hw 117 rfl) (wd hw 118 rfl) (wd hw 17 rfl) (wd hw 119 rfl) (by decide) pd__I_B_V rfl rfl (hb hby d22_2) rfl (by decide) (by decide) (by decide) (by decide)
 obtain ⟨rfl, rfl⟩ := q10
 refine Go.movp st10 (mkF m 5 #[vR b, vI 0] []) rfl ?_
 refine g_aloadN X10 hx (hb hby d22_5) (pc' := 6) rfl rfl rfl ?_
 refine g_iloadN X10 hx (hb hby d22_6) (pc' := 7) rfl rfl ?_
 obtain ⟨v11, T11, h11, L11, X11, e11, N11, q11, st11⟩ := h_static X10 hx (W := 0) (Ls := #[vR b, vI 0]) (argsL := [(.ref b), (.int 0)]) (rest := []) hZ e10 N10 hml hown (rm21_1_0 l Z a0 hw b c0 cs fv h0 n0 Z0 V1 B O hc) (wd hw 111 rfl) (wd hw 112 rfl) (wd hw 17 rfl) (wd hw 113 rfl) (by decide) pd___BI_C rfl rfl (hb hby d22_7) rfl (by decide) (by decide) (by decide) (by decide)
 obtain ⟨rfl, rfl⟩ := q11
 refine Go.movp st11 (mkF m 10 #[vR b, vI 0] [(.int c0)]) rfl ?_
 exact g_creturn X11 hx (by rw [← hc]; exact narrow_chr _) hret (hb hby d22_10) N11 hlk (fun v t => endF (by decide) (by decide) v) (by rw [e11]; exact ⟨rfl, rfl⟩)
theorem d12_0 : decode jdk_43_method_2_code 0 = .ok (.iload_n 1, 1) := by decide +kernel
theorem d12_1 : decode jdk_43_method_2_code 1 = .ok (.aload_n 0, 1) := by decide +kernel
theorem d12_2 : decode jdk_43_method_2_code 2 = .ok (.arraylength, 1) := by decide +kernel
theorem d12_3 : decode jdk_43_method_2_code 3 = .ok (.invokestatic 9, 3) := by decide +kernel
theorem d12_6 : decode jdk_43_method_2_code 6 = .ok (.aload_n 0, 1) := by decide +kernel
theorem d12_7 : decode jdk_43_method_2_code 7 = .ok (.iload_n 1, 1) := by decide +kernel
theorem d12_8 : decode jdk_43_method_2_code 8 = .ok (.baload, 1) := by decide +kernel
theorem d12_9 : decode jdk_43_method_2_code 9 = .ok (.sipush 255, 3) := by decide +kernel
theorem d12_12 : decode jdk_43_method_2_code 12 = .ok (.iand, 1) := by decide +kernel
theorem d12_13 : decode jdk_43_method_2_code 13 = .ok (.i2c, 1) := by decide +kernel
theorem d12_14 : decode jdk_43_method_2_code 14 = .ok (.ireturn, 1) := by decide +kernel
theorem pn_12 : plainName "java/lang/StringLatin1" = true := by first | (simp [plainName, overriddenIn]; done) | decide +kernel
theorem ef_12_1_0 (x0 : Addr) (x1 : Int32) (m : MethodId) : entryFrame m #[(.ref x0), (.int x1)] 2 = mkF m 0 #[.val (.ref x0), .val (.int x1)] [] := by first | (simp [entryFrame, mkF, argsToLocals, Value.category]; done) | rfl
def Q12_1_0 (Z : State) (b : Addr) (c0 : Int32) (cs : Int32) (fv : Value) (h0 : Heap) (n0 : Nat) : Option Value → Heap → Prop := fun v h => v = some (.int c0) ∧ h0 = h
theorem rm12_1_0 (l : Launch) (Z : State) (a0 : Array Value) (hw : HW Z a0) (b : Addr) (c0 : Int32) (cs : Int32) (fv : Value) (h0 : Heap) (n0 : Nat) (Z0 : n0 ≤ h0.size) (V1 : Va Z h0 b .byte [(.int (byt c0))]) (B : Sts Z cs fv) (O : Old Z n0 h0) (hc : chr c0 = c0) (kc : ¬ 255 < c0) : Ctr l Z (⟨"java/lang/StringLatin1", "charAt", "([BI)C"⟩ : MethodName) jdk_43_method_2_code 2 (some .char) ({ frames := 2, cells := 0, slots := 0, locals := 27 } : Room) #[(.ref b), (.int 0)] h0 n0 (Q12_1_0 Z b c0 cs fv h0 n0) := by
 refine Ctr.of (plainFor_of_name pn_12) (ef_12_1_0 b (0 : Int32)) ?_
 intro p e s m below meth c T0 hx hby hml hown hnm hret hlk hZ X0 e0
 have N0 := Fr.nil n0
 refine g_iloadN X0 hx (hb hby d12_0) (pc' := 1) rfl rfl ?_
 refine g_aloadN X0 hx (hb hby d12_1) (pc' := 2) rfl rfl rfl ?_
 refine g_arraylength X0 hx hZ e0 V1 (z := 1) (hb hby d12_2) (pc' := 3) rfl rfl ?_
 obtain ⟨v12, T12, h12, L12, X12, e12, N12, q12, st12⟩ := h_static X0 hx (W := 0) (Ls := #[vR b, vI 0]) (argsL := [(.int 0), (.int 1)]) (rest := []) hZ e0 N0 hml hown (rm13 l Z a0 hw (0 : Int32) (1 : Int32) cs fv h0 n0 Z0 B O (by decide) (by decide)) (wd hw 72 rfl) (wd hw 73 rfl) (wd hw 2 rfl) (wd hw 74 rfl) (by decide) pd__II_V rfl rfl (hb hby d12_3) rfl (by decide) (by decide) (by decide) (by decide)
 obtain ⟨rfl, rfl⟩ := q12
 refine Go.movp st12 (mkF m 6 #[vR b, vI 0] []) rfl ?_
 refine g_aloadN X12 hx (hb hby d12_6) (pc' := 7) rfl rfl rfl ?_
 refine g_iloadN X12 hx (hb hby d12_7) (pc' := 8) rfl rfl ?_
 refine g_baload X12 hx hZ e12 V1 (i := 0) (v := (.int (byt c0))) (hb hby d12_8) (pc' := 9) rfl (by decide) rfl rfl ?_
 refine g_sipush X12 hx (hb hby d12_9) (pc' := 12) rfl (z := 255) rfl ?_
 refine g_iand X12 hx (hb hby d12_12) (pc' := 13) rfl ?_
 refine g_i2c X12 hx (hb hby d12_13) (pc' := 14) rfl ?_
 exact g_creturn X12 hx (narrow_chr _) hret (hb hby d12_14) N12 hlk (fun v t => endF (by decide) (by decide) v) (by rw [e12]; exact ⟨by rw [own_lat hc kc], rfl⟩)
theorem ef_23_2 (x0 : Int32) (x1 : Addr) (m : MethodId) : entryFrame m #[(.int x0), (.ref x1)] 2 = mkF m 0 #[.val (.int x0), .val (.ref x1)] [] := by first | (simp [entryFrame, mkF, argsToLocals, Value.category]; done) | rfl
def Q23_2 (Z : State) (b : Addr) (i : Int32) (x0 : Int32) (x1 : Int32) (x2 : Int32) (x3 : Int32) (cs : Int32) (fv : Value) (h0 : Heap) (n0 : Nat) : Option Value → Heap → Prop := fun v h => v = none ∧ h0 = h
theorem rm23_2 (l : Launch) (Z : State) (a0 : Array Value) (hw : HW Z a0) (b : Addr) (i : Int32) (x0 : Int32) (x1 : Int32) (x2 : Int32) (x3 : Int32) (cs : Int32) (fv : Value) (h0 : Heap) (n0 : Nat) (Z0 : n0 ≤ h0.size) (V1 : Va Z h0 b .byte [(.int x0), (.int x1), (.int x2), (.int x3)]) (B : Sts Z cs fv) (O : Old Z n0 h0) (k1 : ¬ i < 0) (k2 : i < (2 : Int32)) : Ctr l Z (⟨"java/lang/StringUTF16", "checkIndex", "(I[B)V"⟩ : MethodName) jdk_52_method_91_code 2 none ({ frames := 2, cells := 0, slots := 0, locals := 27 } : Room) #[(.int i), (.ref b)] h0 n0 (Q23_2 Z b i x0 x1 x2 x3 cs fv h0 n0) := by
 refine Ctr.of (plainFor_of_name pn_24) (ef_23_2 i b) ?_
 intro p e s m below meth c T0 hx hby hml hown hnm hret hlk hZ X0 e0
 have N0 := Fr.nil n0
 refine g_iloadN X0 hx (hb hby d23_0) (pc' := 1) rfl rfl ?_
 refine g_aloadN X0 hx (hb hby d23_1) (pc' := 2) rfl rfl rfl ?_
 obtain ⟨v13, T13, h13, L13, X13, e13, N13, q13, st13⟩ := h_static X0 hx (W := 1) (Ls := #[vI i, vR b]) (argsL := [(.ref b)]) (rest := [(.int i)]) hZ e0 N0 hml hown (rm24_2 l Z a0 hw b x0 x1 x2 x3 h0 n0 Z0 V1) (wd hw 120 rfl) (wd hw 121 rfl) (wd hw 17 rfl) (wd hw 122 rfl) (by decide) pd___B_I rfl rfl (hb hby d23_2) rfl (by decide) (by decide) (by decide) (by decide)
 obtain ⟨rfl, rfl⟩ := q13
 refine Go.movp st13 (mkF m 5 #[vI i, vR b] [(.int 2), (.int i)]) rfl ?_
 obtain ⟨v14, T14, h14, L14, X14, e14, N14, q14, st14⟩ := h_static X13 hx (W := 0) (Ls := #[vI i, vR b]) (argsL := [(.int i), (.int 2)]) (rest := []) hZ e13 N13 hml hown (rm13 l Z a0 hw i (2 : Int32) cs fv h0 n0 Z0 B O k1 k2) (wd hw 123 rfl) (wd hw 73 rfl) (wd hw 2 rfl) (wd hw 74 rfl) (by decide) pd__II_V rfl rfl (hb hby d23_5) rfl (by decide) (by decide) (by decide) (by decide)
 obtain ⟨rfl, rfl⟩ := q14
 refine Go.movp st14 (mkF m 8 #[vI i, vR b] []) rfl ?_
 exact g_return X14 hx hret (hb hby d23_8) N14 hlk (fun v t => endF (by decide) (by decide) v) (by rw [e14]; exact ⟨rfl, rfl⟩)
theorem ef_21_2_0 (x0 : Addr) (x1 : Int32) (m : MethodId) : entryFrame m #[(.ref x0), (.int x1)] 2 = mkF m 0 #[.val (.ref x0), .val (.int x1)] [] := by first | (simp [entryFrame, mkF, argsToLocals, Value.category]; done) | rfl
def Q21_2_0 (Z : State) (b : Addr) (c0 : Int32) (c1 : Int32) (cs : Int32) (fv : Value) (h0 : Heap) (n0 : Nat) : Option Value → Heap → Prop := fun v h => v = some (.int c0) ∧ h0 = h
theorem rm21_2_0 (l : Launch) (Z : State) (a0 : Array Value) (hw : HW Z a0) (b : Addr) (c0 : Int32) (c1 : Int32) (cs : Int32) (fv : Value) (h0 : Heap) (n0 : Nat) (Z0 : n0 ≤ h0.size) (V1 : Va Z h0 b .byte [(.int (byt (shr c0 (0 : Int32)))), (.int (byt (shr c0 (8 : Int32)))), (.int (byt (shr c1 (0 : Int32)))), (.int (byt (shr c1 (8 : Int32))))]) (B : Sts Z cs fv) (O : Old Z n0 h0) (hc : chr c0 = c0) : Ctr l Z (⟨"java/lang/StringUTF16", "getChar", "([BI)C"⟩ : MethodName) jdk_52_method_5_code 2 (some .char) ({ frames := 0, cells := 0, slots := 0, locals := 0 } : Room) #[(.ref b), (.int 0)] h0 n0 (Q21_2_0 Z b c0 c1 cs fv h0 n0) := by
 refine Ctr.of (plainFor_of_name pn_24) (ef_21_2_0 b (0 : Int32)) ?_
 intro p e s m below meth c T0 hx hby hml hown hnm hret hlk hZ X0 e0
 have N0 := Fr.nil n0
 obtain ⟨T15, X15, e15, st15⟩ := getS2 X0 hx hZ hown (host := "") (Or.inl (wd hw 108 rfl)) Via.refl e0 (Sta.ext O.2 B.2.2.1) (g := (mkF m 0 #[vR b, vI 0] [])) rfl (hb hby d21_0)
 refine Go.movp st15 (mkF m 3 #[vR b, vI 0] [(.int 1)]) rfl ?_
 refine g_if_ne X15 hx (hb hby d21_3) (pc1 := 6) rfl (by decide) (pc2 := 28) (by decide) (fun hc3 => ?_) (fun hc3 => absurd hc3 (by decide))
 refine g_iloadN X15 hx (hb hby d21_28) (pc' := 29) rfl rfl ?_
 refine g_iconst X15 hx (hb hby d21_29) (pc' := 30) rfl (z := 1) rfl ?_
 refine g_ishl X15 hx (hb hby d21_30) (pc' := 31) rfl ?_
 refine Go.cast (show (mkF m 31 #[vR b, vI 0] [(.int (shl (0 : Int32) (1 : Int32)))]) = (mkF m 31 #[vR b, vI 0] [(.int 0)]) from by rw [show (shl (0 : Int32) (1 : Int32)) = (0 : Int32) from (by decide)]) ?_
 refine g_istoreN X15 hx (hb hby d21_31) (pc' := 32) rfl (Ls' := #[vR b, vI 0]) rfl ?_
 refine g_aloadN X15 hx (hb hby d21_32) (pc' := 33) rfl rfl rfl ?_
 refine g_iloadN X15 hx (hb hby d21_33) (pc' := 34) rfl rfl ?_
 refine g_iinc X15 hx (hb hby d21_34) (pc' := 37) rfl rfl (z := 1) rfl (Ls' := #[vR b, vI 1]) rfl ?_
 refine g_baload X15 hx hZ e15 V1 (i := 0) (v := (.int (byt (shr c0 (0 : Int32))))) (hb hby d21_37) (pc' := 38) rfl (by decide) rfl rfl ?_
 refine g_sipush X15 hx (hb hby d21_38) (pc' := 41) rfl (z := 255) rfl ?_
 refine g_iand X15 hx (hb hby d21_41) (pc' := 42) rfl ?_
 obtain ⟨T16, X16, e16, st16⟩ := getS2 X15 hx hZ hown (host := "") (Or.inl (wd hw 109 rfl)) Via.refl e15 (Sta.ext O.2 B.2.2.2.1) (g := (mkF m 42 #[vR b, vI 1] [(.int ((byt (shr c0 (0 : Int32))) &&& (255 : Int32)))])) rfl (hb hby d21_42)
 refine Go.movp st16 (mkF m 45 #[vR b, vI 1] [(.int 0), (.int ((byt (shr c0 (0 : Int32))) &&& (255 : Int32)))]) rfl ?_
 refine g_ishl X16 hx (hb hby d21_45) (pc' := 46) rfl ?_
 refine g_aloadN X16 hx (hb hby d21_46) (pc' := 47) rfl rfl rfl ?_
 refine g_iloadN X16 hx (hb hby d21_47) (pc' := 48) rfl rfl ?_
 refine g_baload X16 hx hZ e16 V1 (i := 1) (v := (.int (byt (shr c0 (8 : Int32))))) (hb hby d21_48) (pc' := 49) rfl (by decide) rfl rfl ?_
 refine g_sipush X16 hx (hb hby d21_49) (pc' := 52) rfl (z := 255) rfl ?_
 refine g_iand X16 hx (hb hby d21_52) (pc' := 53) rfl ?_
 obtain ⟨T17, X17, e17, st17⟩ := getS2 X16 hx hZ hown (host := "") (Or.inl (wd hw 110 rfl)) Via.refl e16 (Sta.ext O.2 B.2.2.2.2.1) (g := (mkF m 53 #[vR b, vI 1] [(.int ((byt (shr c0 (8 : Int32))) &&& (255 : Int32))), (.int (shl ((byt (shr c0 (0 : Int32))) &&& (255 : Int32)) (0 : Int32)))])) rfl (hb hby d21_53)
 refine Go.movp st17 (mkF m 56 #[vR b, vI 1] [(.int 8), (.int ((byt (shr c0 (8 : Int32))) &&& (255 : Int32))), (.int (shl ((byt (shr c0 (0 : Int32))) &&& (255 : Int32)) (0 : Int32)))]) rfl ?_
 refine g_ishl X17 hx (hb hby d21_56) (pc' := 57) rfl ?_
 refine g_ior X17 hx (hb hby d21_57) (pc' := 58) rfl ?_
 refine g_i2c X17 hx (hb hby d21_58) (pc' := 59) rfl ?_
 exact g_creturn X17 hx (narrow_chr _) hret (hb hby d21_59) N0 hlk (fun v t => endF (by decide) (by decide) v) (by rw [e17]; exact ⟨by rw [own_utf hc], rfl⟩)
theorem ef_22_2_0 (x0 : Addr) (x1 : Int32) (m : MethodId) : entryFrame m #[(.ref x0), (.int x1)] 2 = mkF m 0 #[.val (.ref x0), .val (.int x1)] [] := by first | (simp [entryFrame, mkF, argsToLocals, Value.category]; done) | rfl
def Q22_2_0 (Z : State) (b : Addr) (c0 : Int32) (c1 : Int32) (cs : Int32) (fv : Value) (h0 : Heap) (n0 : Nat) : Option Value → Heap → Prop := fun v h => v = some (.int c0) ∧ h0 = h
theorem rm22_2_0 (l : Launch) (Z : State) (a0 : Array Value) (hw : HW Z a0) (b : Addr) (c0 : Int32) (c1 : Int32) (cs : Int32) (fv : Value) (h0 : Heap) (n0 : Nat) (Z0 : n0 ≤ h0.size) (V1 : Va Z h0 b .byte [(.int (byt (shr c0 (0 : Int32)))), (.int (byt (shr c0 (8 : Int32)))), (.int (byt (shr c1 (0 : Int32)))), (.int (byt (shr c1 (8 : Int32))))]) (B : Sts Z cs fv) (O : Old Z n0 h0) (hc : chr c0 = c0) : Ctr l Z (⟨"java/lang/StringUTF16", "charAt", "([BI)C"⟩ : MethodName) jdk_52_method_83_code 2 (some .char) ({ frames := 3, cells := 0, slots := 0, locals := 40 } : Room) #[(.ref b), (.int 0)] h0 n0 (Q22_2_0 Z b c0 c1 cs fv h0 n0) := by
 refine Ctr.of (plainFor_of_name pn_24) (ef_22_2_0 b (0 : Int32)) ?_
 intro p e s m below meth c T0 hx hby hml hown hnm hret hlk hZ X0 e0
 have N0 := Fr.nil n0
 refine g_iloadN X0 hx (hb hby d22_0) (pc' := 1) rfl rfl ?_
 refine g_aloadN X0 hx (hb hby d22_1) (pc' := 2) rfl rfl rfl ?_
 obtain ⟨v18, T18, h18, L18, X18, e18, N18, q18, st18⟩ := h_static X0 hx (W := 0) (Ls := #[vR b, vI 0]) (argsL := [(.int 0), (.ref b)]) (rest := []) hZ e0 N0 hml hown (rm23_2 l Z a0 hw b (0 : Int32) (byt (shr c0 (0 : Int32))) (byt (shr c0 (8 : Int32))) (byt (shr c1 (0 : Int32))) (byt (shr c1 (8 : Int32))) cs fv h0 n0 Z0 V1 B O (by decide) (by decide)) (wd hw 117 rfl) (wd hw 118 rfl) (wd hw 17 rfl) (wd hw 119 rfl) (by decide) pd__I_B_V rfl rfl (hb hby d22_2) rfl (by decide) (by decide) (by decide) (by decide)
 obtain ⟨rfl, rfl⟩ := q18
 refine Go.movp st18 (mkF m 5 #[vR b, vI 0] []) rfl ?_
 refine g_aloadN X18 hx (hb hby d22_5) (pc' := 6) rfl rfl rfl ?_
 refine g_iloadN X18 hx (hb hby d22_6) (pc' := 7) rfl rfl ?_
 obtain ⟨v19, T19, h19, L19, X19, e19, N19, q19, st19⟩ := h_static X18 hx (W := 0) (Ls := #[vR b, vI 0]) (argsL := [(.ref b), (.int 0)]) (rest := []) hZ e18 N18 hml hown (rm21_2_0 l Z a0 hw b c0 c1 cs fv h0 n0 Z0 V1 B O hc) (wd hw 111 rfl) (wd hw 112 rfl) (wd hw 17 rfl) (wd hw 113 rfl) (by decide) pd___BI_C rfl rfl (hb hby d22_7) rfl (by decide) (by decide) (by decide) (by decide)
 obtain ⟨rfl, rfl⟩ := q19
 refine Go.movp st19 (mkF m 10 #[vR b, vI 0] [(.int c0)]) rfl ?_
 exact g_creturn X19 hx (by rw [← hc]; exact narrow_chr _) hret (hb hby d22_10) N19 hlk (fun v t => endF (by decide) (by decide) v) (by rw [e19]; exact ⟨rfl, rfl⟩)
theorem ef_12_2_0 (x0 : Addr) (x1 : Int32) (m : MethodId) : entryFrame m #[(.ref x0), (.int x1)] 2 = mkF m 0 #[.val (.ref x0), .val (.int x1)] [] := by first | (simp [entryFrame, mkF, argsToLocals, Value.category]; done) | rfl
def Q12_2_0 (Z : State) (b : Addr) (c0 : Int32) (c1 : Int32) (cs : Int32) (fv : Value) (h0 : Heap) (n0 : Nat) : Option Value → Heap → Prop := fun v h => v = some (.int c0) ∧ h0 = h
theorem rm12_2_0 (l : Launch) (Z : State) (a0 : Array Value) (hw : HW Z a0) (b : Addr) (c0 : Int32) (c1 : Int32) (cs : Int32) (fv : Value) (h0 : Heap) (n0 : Nat) (Z0 : n0 ≤ h0.size) (V1 : Va Z h0 b .byte [(.int (byt c0)), (.int (byt c1))]) (B : Sts Z cs fv) (O : Old Z n0 h0) (hc : chr c0 = c0) (kc : ¬ 255 < c0) : Ctr l Z (⟨"java/lang/StringLatin1", "charAt", "([BI)C"⟩ : MethodName) jdk_43_method_2_code 2 (some .char) ({ frames := 2, cells := 0, slots := 0, locals := 27 } : Room) #[(.ref b), (.int 0)] h0 n0 (Q12_2_0 Z b c0 c1 cs fv h0 n0) := by
 refine Ctr.of (plainFor_of_name pn_12) (ef_12_2_0 b (0 : Int32)) ?_
 intro p e s m below meth c T0 hx hby hml hown hnm hret hlk hZ X0 e0
 have N0 := Fr.nil n0
 refine g_iloadN X0 hx (hb hby d12_0) (pc' := 1) rfl rfl ?_
 refine g_aloadN X0 hx (hb hby d12_1) (pc' := 2) rfl rfl rfl ?_
 refine g_arraylength X0 hx hZ e0 V1 (z := 2) (hb hby d12_2) (pc' := 3) rfl rfl ?_
 obtain ⟨v20, T20, h20, L20, X20, e20, N20, q20, st20⟩ := h_static X0 hx (W := 0) (Ls := #[vR b, vI 0]) (argsL := [(.int 0), (.int 2)]) (rest := []) hZ e0 N0 hml hown (rm13 l Z a0 hw (0 : Int32) (2 : Int32) cs fv h0 n0 Z0 B O (by decide) (by decide)) (wd hw 72 rfl) (wd hw 73 rfl) (wd hw 2 rfl) (wd hw 74 rfl) (by decide) pd__II_V rfl rfl (hb hby d12_3) rfl (by decide) (by decide) (by decide) (by decide)
 obtain ⟨rfl, rfl⟩ := q20
 refine Go.movp st20 (mkF m 6 #[vR b, vI 0] []) rfl ?_
 refine g_aloadN X20 hx (hb hby d12_6) (pc' := 7) rfl rfl rfl ?_
 refine g_iloadN X20 hx (hb hby d12_7) (pc' := 8) rfl rfl ?_
 refine g_baload X20 hx hZ e20 V1 (i := 0) (v := (.int (byt c0))) (hb hby d12_8) (pc' := 9) rfl (by decide) rfl rfl ?_
 refine g_sipush X20 hx (hb hby d12_9) (pc' := 12) rfl (z := 255) rfl ?_
 refine g_iand X20 hx (hb hby d12_12) (pc' := 13) rfl ?_
 refine g_i2c X20 hx (hb hby d12_13) (pc' := 14) rfl ?_
 exact g_creturn X20 hx (narrow_chr _) hret (hb hby d12_14) N20 hlk (fun v t => endF (by decide) (by decide) v) (by rw [e20]; exact ⟨by rw [own_lat hc kc], rfl⟩)
theorem ef_21_2_1 (x0 : Addr) (x1 : Int32) (m : MethodId) : entryFrame m #[(.ref x0), (.int x1)] 2 = mkF m 0 #[.val (.ref x0), .val (.int x1)] [] := by first | (simp [entryFrame, mkF, argsToLocals, Value.category]; done) | rfl
def Q21_2_1 (Z : State) (b : Addr) (c0 : Int32) (c1 : Int32) (cs : Int32) (fv : Value) (h0 : Heap) (n0 : Nat) : Option Value → Heap → Prop := fun v h => v = some (.int c1) ∧ h0 = h
theorem rm21_2_1 (l : Launch) (Z : State) (a0 : Array Value) (hw : HW Z a0) (b : Addr) (c0 : Int32) (c1 : Int32) (cs : Int32) (fv : Value) (h0 : Heap) (n0 : Nat) (Z0 : n0 ≤ h0.size) (V1 : Va Z h0 b .byte [(.int (byt (shr c0 (0 : Int32)))), (.int (byt (shr c0 (8 : Int32)))), (.int (byt (shr c1 (0 : Int32)))), (.int (byt (shr c1 (8 : Int32))))]) (B : Sts Z cs fv) (O : Old Z n0 h0) (hc : chr c1 = c1) : Ctr l Z (⟨"java/lang/StringUTF16", "getChar", "([BI)C"⟩ : MethodName) jdk_52_method_5_code 2 (some .char) ({ frames := 0, cells := 0, slots := 0, locals := 0 } : Room) #[(.ref b), (.int 1)] h0 n0 (Q21_2_1 Z b c0 c1 cs fv h0 n0) := by
 refine Ctr.of (plainFor_of_name pn_24) (ef_21_2_1 b (1 : Int32)) ?_
 intro p e s m below meth c T0 hx hby hml hown hnm hret hlk hZ X0 e0
 have N0 := Fr.nil n0
 obtain ⟨T21, X21, e21, st21⟩ := getS2 X0 hx hZ hown (host := "") (Or.inl (wd hw 108 rfl)) Via.refl e0 (Sta.ext O.2 B.2.2.1) (g := (mkF m 0 #[vR b, vI 1] [])) rfl (hb hby d21_0)
 refine Go.movp st21 (mkF m 3 #[vR b, vI 1] [(.int 1)]) rfl ?_
 refine g_if_ne X21 hx (hb hby d21_3) (pc1 := 6) rfl (by decide) (pc2 := 28) (by decide) (fun hc3 => ?_) (fun hc3 => absurd hc3 (by decide))
 refine g_iloadN X21 hx (hb hby d21_28) (pc' := 29) rfl rfl ?_
 refine g_iconst X21 hx (hb hby d21_29) (pc' := 30) rfl (z := 1) rfl ?_
 refine g_ishl X21 hx (hb hby d21_30) (pc' := 31) rfl ?_
 refine Go.cast (show (mkF m 31 #[vR b, vI 1] [(.int (shl (1 : Int32) (1 : Int32)))]) = (mkF m 31 #[vR b, vI 1] [(.int 2)]) from by rw [show (shl (1 : Int32) (1 : Int32)) = (2 : Int32) from (by decide)]) ?_
 refine g_istoreN X21 hx (hb hby d21_31) (pc' := 32) rfl (Ls' := #[vR b, vI 2]) rfl ?_
 refine g_aloadN X21 hx (hb hby d21_32) (pc' := 33) rfl rfl rfl ?_
 refine g_iloadN X21 hx (hb hby d21_33) (pc' := 34) rfl rfl ?_
 refine g_iinc X21 hx (hb hby d21_34) (pc' := 37) rfl rfl (z := 1) rfl (Ls' := #[vR b, vI 3]) rfl ?_
 refine g_baload X21 hx hZ e21 V1 (i := 2) (v := (.int (byt (shr c1 (0 : Int32))))) (hb hby d21_37) (pc' := 38) rfl (by decide) rfl rfl ?_
 refine g_sipush X21 hx (hb hby d21_38) (pc' := 41) rfl (z := 255) rfl ?_
 refine g_iand X21 hx (hb hby d21_41) (pc' := 42) rfl ?_
 obtain ⟨T22, X22, e22, st22⟩ := getS2 X21 hx hZ hown (host := "") (Or.inl (wd hw 109 rfl)) Via.refl e21 (Sta.ext O.2 B.2.2.2.1) (g := (mkF m 42 #[vR b, vI 3] [(.int ((byt (shr c1 (0 : Int32))) &&& (255 : Int32)))])) rfl (hb hby d21_42)
 refine Go.movp st22 (mkF m 45 #[vR b, vI 3] [(.int 0), (.int ((byt (shr c1 (0 : Int32))) &&& (255 : Int32)))]) rfl ?_
 refine g_ishl X22 hx (hb hby d21_45) (pc' := 46) rfl ?_
 refine g_aloadN X22 hx (hb hby d21_46) (pc' := 47) rfl rfl rfl ?_
 refine g_iloadN X22 hx (hb hby d21_47) (pc' := 48) rfl rfl ?_
 refine g_baload X22 hx hZ e22 V1 (i := 3) (v := (.int (byt (shr c1 (8 : Int32))))) (hb hby d21_48) (pc' := 49) rfl (by decide) rfl rfl ?_
 refine g_sipush X22 hx (hb hby d21_49) (pc' := 52) rfl (z := 255) rfl ?_
 refine g_iand X22 hx (hb hby d21_52) (pc' := 53) rfl ?_
 obtain ⟨T23, X23, e23, st23⟩ := getS2 X22 hx hZ hown (host := "") (Or.inl (wd hw 110 rfl)) Via.refl e22 (Sta.ext O.2 B.2.2.2.2.1) (g := (mkF m 53 #[vR b, vI 3] [(.int ((byt (shr c1 (8 : Int32))) &&& (255 : Int32))), (.int (shl ((byt (shr c1 (0 : Int32))) &&& (255 : Int32)) (0 : Int32)))])) rfl (hb hby d21_53)
 refine Go.movp st23 (mkF m 56 #[vR b, vI 3] [(.int 8), (.int ((byt (shr c1 (8 : Int32))) &&& (255 : Int32))), (.int (shl ((byt (shr c1 (0 : Int32))) &&& (255 : Int32)) (0 : Int32)))]) rfl ?_
 refine g_ishl X23 hx (hb hby d21_56) (pc' := 57) rfl ?_
 refine g_ior X23 hx (hb hby d21_57) (pc' := 58) rfl ?_
 refine g_i2c X23 hx (hb hby d21_58) (pc' := 59) rfl ?_
 exact g_creturn X23 hx (narrow_chr _) hret (hb hby d21_59) N0 hlk (fun v t => endF (by decide) (by decide) v) (by rw [e23]; exact ⟨by rw [own_utf hc], rfl⟩)
theorem ef_22_2_1 (x0 : Addr) (x1 : Int32) (m : MethodId) : entryFrame m #[(.ref x0), (.int x1)] 2 = mkF m 0 #[.val (.ref x0), .val (.int x1)] [] := by first | (simp [entryFrame, mkF, argsToLocals, Value.category]; done) | rfl
def Q22_2_1 (Z : State) (b : Addr) (c0 : Int32) (c1 : Int32) (cs : Int32) (fv : Value) (h0 : Heap) (n0 : Nat) : Option Value → Heap → Prop := fun v h => v = some (.int c1) ∧ h0 = h
theorem rm22_2_1 (l : Launch) (Z : State) (a0 : Array Value) (hw : HW Z a0) (b : Addr) (c0 : Int32) (c1 : Int32) (cs : Int32) (fv : Value) (h0 : Heap) (n0 : Nat) (Z0 : n0 ≤ h0.size) (V1 : Va Z h0 b .byte [(.int (byt (shr c0 (0 : Int32)))), (.int (byt (shr c0 (8 : Int32)))), (.int (byt (shr c1 (0 : Int32)))), (.int (byt (shr c1 (8 : Int32))))]) (B : Sts Z cs fv) (O : Old Z n0 h0) (hc : chr c1 = c1) : Ctr l Z (⟨"java/lang/StringUTF16", "charAt", "([BI)C"⟩ : MethodName) jdk_52_method_83_code 2 (some .char) ({ frames := 3, cells := 0, slots := 0, locals := 40 } : Room) #[(.ref b), (.int 1)] h0 n0 (Q22_2_1 Z b c0 c1 cs fv h0 n0) := by
 refine Ctr.of (plainFor_of_name pn_24) (ef_22_2_1 b (1 : Int32)) ?_
 intro p e s m below meth c T0 hx hby hml hown hnm hret hlk hZ X0 e0
 have N0 := Fr.nil n0
 refine g_iloadN X0 hx (hb hby d22_0) (pc' := 1) rfl rfl ?_
 refine g_aloadN X0 hx (hb hby d22_1) (pc' := 2) rfl rfl rfl ?_
 obtain ⟨v24, T24, h24, L24, X24, e24, N24, q24, st24⟩ := h_static X0 hx (W := 0) (Ls := #[vR b, vI 1]) (argsL := [(.int 1), (.ref b)]) (rest := []) hZ e0 N0 hml hown (rm23_2 l Z a0 hw b (1 : Int32) (byt (shr c0 (0 : Int32))) (byt (shr c0 (8 : Int32))) (byt (shr c1 (0 : Int32))) (byt (shr c1 (8 : Int32))) cs fv h0 n0 Z0 V1 B O (by decide) (by decide)) (wd hw 117 rfl) (wd hw 118 rfl) (wd hw 17 rfl) (wd hw 119 rfl) (by decide) pd__I_B_V rfl rfl (hb hby d22_2) rfl (by decide) (by decide) (by decide) (by decide)
 obtain ⟨rfl, rfl⟩ := q24
 refine Go.movp st24 (mkF m 5 #[vR b, vI 1] []) rfl ?_
 refine g_aloadN X24 hx (hb hby d22_5) (pc' := 6) rfl rfl rfl ?_
 refine g_iloadN X24 hx (hb hby d22_6) (pc' := 7) rfl rfl ?_
 obtain ⟨v25, T25, h25, L25, X25, e25, N25, q25, st25⟩ := h_static X24 hx (W := 0) (Ls := #[vR b, vI 1]) (argsL := [(.ref b), (.int 1)]) (rest := []) hZ e24 N24 hml hown (rm21_2_1 l Z a0 hw b c0 c1 cs fv h0 n0 Z0 V1 B O hc) (wd hw 111 rfl) (wd hw 112 rfl) (wd hw 17 rfl) (wd hw 113 rfl) (by decide) pd___BI_C rfl rfl (hb hby d22_7) rfl (by decide) (by decide) (by decide) (by decide)
 obtain ⟨rfl, rfl⟩ := q25
 refine Go.movp st25 (mkF m 10 #[vR b, vI 1] [(.int c1)]) rfl ?_
 exact g_creturn X25 hx (by rw [← hc]; exact narrow_chr _) hret (hb hby d22_10) N25 hlk (fun v t => endF (by decide) (by decide) v) (by rw [e25]; exact ⟨rfl, rfl⟩)
theorem ef_12_2_1 (x0 : Addr) (x1 : Int32) (m : MethodId) : entryFrame m #[(.ref x0), (.int x1)] 2 = mkF m 0 #[.val (.ref x0), .val (.int x1)] [] := by first | (simp [entryFrame, mkF, argsToLocals, Value.category]; done) | rfl
def Q12_2_1 (Z : State) (b : Addr) (c0 : Int32) (c1 : Int32) (cs : Int32) (fv : Value) (h0 : Heap) (n0 : Nat) : Option Value → Heap → Prop := fun v h => v = some (.int c1) ∧ h0 = h
theorem rm12_2_1 (l : Launch) (Z : State) (a0 : Array Value) (hw : HW Z a0) (b : Addr) (c0 : Int32) (c1 : Int32) (cs : Int32) (fv : Value) (h0 : Heap) (n0 : Nat) (Z0 : n0 ≤ h0.size) (V1 : Va Z h0 b .byte [(.int (byt c0)), (.int (byt c1))]) (B : Sts Z cs fv) (O : Old Z n0 h0) (hc : chr c1 = c1) (kc : ¬ 255 < c1) : Ctr l Z (⟨"java/lang/StringLatin1", "charAt", "([BI)C"⟩ : MethodName) jdk_43_method_2_code 2 (some .char) ({ frames := 2, cells := 0, slots := 0, locals := 27 } : Room) #[(.ref b), (.int 1)] h0 n0 (Q12_2_1 Z b c0 c1 cs fv h0 n0) := by
 refine Ctr.of (plainFor_of_name pn_12) (ef_12_2_1 b (1 : Int32)) ?_
 intro p e s m below meth c T0 hx hby hml hown hnm hret hlk hZ X0 e0
 have N0 := Fr.nil n0
 refine g_iloadN X0 hx (hb hby d12_0) (pc' := 1) rfl rfl ?_
 refine g_aloadN X0 hx (hb hby d12_1) (pc' := 2) rfl rfl rfl ?_
 refine g_arraylength X0 hx hZ e0 V1 (z := 2) (hb hby d12_2) (pc' := 3) rfl rfl ?_
 obtain ⟨v26, T26, h26, L26, X26, e26, N26, q26, st26⟩ := h_static X0 hx (W := 0) (Ls := #[vR b, vI 1]) (argsL := [(.int 1), (.int 2)]) (rest := []) hZ e0 N0 hml hown (rm13 l Z a0 hw (1 : Int32) (2 : Int32) cs fv h0 n0 Z0 B O (by decide) (by decide)) (wd hw 72 rfl) (wd hw 73 rfl) (wd hw 2 rfl) (wd hw 74 rfl) (by decide) pd__II_V rfl rfl (hb hby d12_3) rfl (by decide) (by decide) (by decide) (by decide)
 obtain ⟨rfl, rfl⟩ := q26
 refine Go.movp st26 (mkF m 6 #[vR b, vI 1] []) rfl ?_
 refine g_aloadN X26 hx (hb hby d12_6) (pc' := 7) rfl rfl rfl ?_
 refine g_iloadN X26 hx (hb hby d12_7) (pc' := 8) rfl rfl ?_
 refine g_baload X26 hx hZ e26 V1 (i := 1) (v := (.int (byt c1))) (hb hby d12_8) (pc' := 9) rfl (by decide) rfl rfl ?_
 refine g_sipush X26 hx (hb hby d12_9) (pc' := 12) rfl (z := 255) rfl ?_
 refine g_iand X26 hx (hb hby d12_12) (pc' := 13) rfl ?_
 refine g_i2c X26 hx (hb hby d12_13) (pc' := 14) rfl ?_
 exact g_creturn X26 hx (narrow_chr _) hret (hb hby d12_14) N26 hlk (fun v t => endF (by decide) (by decide) v) (by rw [e26]; exact ⟨by rw [own_lat hc kc], rfl⟩)
theorem ef_23_3 (x0 : Int32) (x1 : Addr) (m : MethodId) : entryFrame m #[(.int x0), (.ref x1)] 2 = mkF m 0 #[.val (.int x0), .val (.ref x1)] [] := by first | (simp [entryFrame, mkF, argsToLocals, Value.category]; done) | rfl
def Q23_3 (Z : State) (b : Addr) (i : Int32) (x0 : Int32) (x1 : Int32) (x2 : Int32) (x3 : Int32) (x4 : Int32) (x5 : Int32) (cs : Int32) (fv : Value) (h0 : Heap) (n0 : Nat) : Option Value → Heap → Prop := fun v h => v = none ∧ h0 = h
theorem rm23_3 (l : Launch) (Z : State) (a0 : Array Value) (hw : HW Z a0) (b : Addr) (i : Int32) (x0 : Int32) (x1 : Int32) (x2 : Int32) (x3 : Int32) (x4 : Int32) (x5 : Int32) (cs : Int32) (fv : Value) (h0 : Heap) (n0 : Nat) (Z0 : n0 ≤ h0.size) (V1 : Va Z h0 b .byte [(.int x0), (.int x1), (.int x2), (.int x3), (.int x4), (.int x5)]) (B : Sts Z cs fv) (O : Old Z n0 h0) (k1 : ¬ i < 0) (k2 : i < (3 : Int32)) : Ctr l Z (⟨"java/lang/StringUTF16", "checkIndex", "(I[B)V"⟩ : MethodName) jdk_52_method_91_code 2 none ({ frames := 2, cells := 0, slots := 0, locals := 27 } : Room) #[(.int i), (.ref b)] h0 n0 (Q23_3 Z b i x0 x1 x2 x3 x4 x5 cs fv h0 n0) := by
 refine Ctr.of (plainFor_of_name pn_24) (ef_23_3 i b) ?_
 intro p e s m below meth c T0 hx hby hml hown hnm hret hlk hZ X0 e0
 have N0 := Fr.nil n0
 refine g_iloadN X0 hx (hb hby d23_0) (pc' := 1) rfl rfl ?_
 refine g_aloadN X0 hx (hb hby d23_1) (pc' := 2) rfl rfl rfl ?_
 obtain ⟨v27, T27, h27, L27, X27, e27, N27, q27, st27⟩ := h_static X0 hx (W := 1) (Ls := #[vI i, vR b]) (argsL := [(.ref b)]) (rest := [(.int i)]) hZ e0 N0 hml hown (rm24_3 l Z a0 hw b x0 x1 x2 x3 x4 x5 h0 n0 Z0 V1) (wd hw 120 rfl) (wd hw 121 rfl) (wd hw 17 rfl) (wd hw 122 rfl) (by decide) pd___B_I rfl rfl (hb hby d23_2) rfl (by decide) (by decide) (by decide) (by decide)
 obtain ⟨rfl, rfl⟩ := q27
 refine Go.movp st27 (mkF m 5 #[vI i, vR b] [(.int 3), (.int i)]) rfl ?_
 obtain ⟨v28, T28, h28, L28, X28, e28, N28, q28, st28⟩ := h_static X27 hx (W := 0) (Ls := #[vI i, vR b]) (argsL := [(.int i), (.int 3)]) (rest := []) hZ e27 N27 hml hown (rm13 l Z a0 hw i (3 : Int32) cs fv h0 n0 Z0 B O k1 k2) (wd hw 123 rfl) (wd hw 73 rfl) (wd hw 2 rfl) (wd hw 74 rfl) (by decide) pd__II_V rfl rfl (hb hby d23_5) rfl (by decide) (by decide) (by decide) (by decide)
 obtain ⟨rfl, rfl⟩ := q28
 refine Go.movp st28 (mkF m 8 #[vI i, vR b] []) rfl ?_
 exact g_return X28 hx hret (hb hby d23_8) N28 hlk (fun v t => endF (by decide) (by decide) v) (by rw [e28]; exact ⟨rfl, rfl⟩)
theorem ef_21_3_0 (x0 : Addr) (x1 : Int32) (m : MethodId) : entryFrame m #[(.ref x0), (.int x1)] 2 = mkF m 0 #[.val (.ref x0), .val (.int x1)] [] := by first | (simp [entryFrame, mkF, argsToLocals, Value.category]; done) | rfl
def Q21_3_0 (Z : State) (b : Addr) (c0 : Int32) (c1 : Int32) (c2 : Int32) (cs : Int32) (fv : Value) (h0 : Heap) (n0 : Nat) : Option Value → Heap → Prop := fun v h => v = some (.int c0) ∧ h0 = h
theorem rm21_3_0 (l : Launch) (Z : State) (a0 : Array Value) (hw : HW Z a0) (b : Addr) (c0 : Int32) (c1 : Int32) (c2 : Int32) (cs : Int32) (fv : Value) (h0 : Heap) (n0 : Nat) (Z0 : n0 ≤ h0.size) (V1 : Va Z h0 b .byte [(.int (byt (shr c0 (0 : Int32)))), (.int (byt (shr c0 (8 : Int32)))), (.int (byt (shr c1 (0 : Int32)))), (.int (byt (shr c1 (8 : Int32)))), (.int (byt (shr c2 (0 : Int32)))), (.int (byt (shr c2 (8 : Int32))))]) (B : Sts Z cs fv) (O : Old Z n0 h0) (hc : chr c0 = c0) : Ctr l Z (⟨"java/lang/StringUTF16", "getChar", "([BI)C"⟩ : MethodName) jdk_52_method_5_code 2 (some .char) ({ frames := 0, cells := 0, slots := 0, locals := 0 } : Room) #[(.ref b), (.int 0)] h0 n0 (Q21_3_0 Z b c0 c1 c2 cs fv h0 n0) := by
 refine Ctr.of (plainFor_of_name pn_24) (ef_21_3_0 b (0 : Int32)) ?_
 intro p e s m below meth c T0 hx hby hml hown hnm hret hlk hZ X0 e0
 have N0 := Fr.nil n0
 obtain ⟨T29, X29, e29, st29⟩ := getS2 X0 hx hZ hown (host := "") (Or.inl (wd hw 108 rfl)) Via.refl e0 (Sta.ext O.2 B.2.2.1) (g := (mkF m 0 #[vR b, vI 0] [])) rfl (hb hby d21_0)
 refine Go.movp st29 (mkF m 3 #[vR b, vI 0] [(.int 1)]) rfl ?_
 refine g_if_ne X29 hx (hb hby d21_3) (pc1 := 6) rfl (by decide) (pc2 := 28) (by decide) (fun hc3 => ?_) (fun hc3 => absurd hc3 (by decide))
 refine g_iloadN X29 hx (hb hby d21_28) (pc' := 29) rfl rfl ?_
 refine g_iconst X29 hx (hb hby d21_29) (pc' := 30) rfl (z := 1) rfl ?_
 refine g_ishl X29 hx (hb hby d21_30) (pc' := 31) rfl ?_
 refine Go.cast (show (mkF m 31 #[vR b, vI 0] [(.int (shl (0 : Int32) (1 : Int32)))]) = (mkF m 31 #[vR b, vI 0] [(.int 0)]) from by rw [show (shl (0 : Int32) (1 : Int32)) = (0 : Int32) from (by decide)]) ?_
 refine g_istoreN X29 hx (hb hby d21_31) (pc' := 32) rfl (Ls' := #[vR b, vI 0]) rfl ?_
 refine g_aloadN X29 hx (hb hby d21_32) (pc' := 33) rfl rfl rfl ?_
 refine g_iloadN X29 hx (hb hby d21_33) (pc' := 34) rfl rfl ?_
 refine g_iinc X29 hx (hb hby d21_34) (pc' := 37) rfl rfl (z := 1) rfl (Ls' := #[vR b, vI 1]) rfl ?_
 refine g_baload X29 hx hZ e29 V1 (i := 0) (v := (.int (byt (shr c0 (0 : Int32))))) (hb hby d21_37) (pc' := 38) rfl (by decide) rfl rfl ?_
 refine g_sipush X29 hx (hb hby d21_38) (pc' := 41) rfl (z := 255) rfl ?_
 refine g_iand X29 hx (hb hby d21_41) (pc' := 42) rfl ?_
 obtain ⟨T30, X30, e30, st30⟩ := getS2 X29 hx hZ hown (host := "") (Or.inl (wd hw 109 rfl)) Via.refl e29 (Sta.ext O.2 B.2.2.2.1) (g := (mkF m 42 #[vR b, vI 1] [(.int ((byt (shr c0 (0 : Int32))) &&& (255 : Int32)))])) rfl (hb hby d21_42)
 refine Go.movp st30 (mkF m 45 #[vR b, vI 1] [(.int 0), (.int ((byt (shr c0 (0 : Int32))) &&& (255 : Int32)))]) rfl ?_
 refine g_ishl X30 hx (hb hby d21_45) (pc' := 46) rfl ?_
 refine g_aloadN X30 hx (hb hby d21_46) (pc' := 47) rfl rfl rfl ?_
 refine g_iloadN X30 hx (hb hby d21_47) (pc' := 48) rfl rfl ?_
 refine g_baload X30 hx hZ e30 V1 (i := 1) (v := (.int (byt (shr c0 (8 : Int32))))) (hb hby d21_48) (pc' := 49) rfl (by decide) rfl rfl ?_
 refine g_sipush X30 hx (hb hby d21_49) (pc' := 52) rfl (z := 255) rfl ?_
 refine g_iand X30 hx (hb hby d21_52) (pc' := 53) rfl ?_
 obtain ⟨T31, X31, e31, st31⟩ := getS2 X30 hx hZ hown (host := "") (Or.inl (wd hw 110 rfl)) Via.refl e30 (Sta.ext O.2 B.2.2.2.2.1) (g := (mkF m 53 #[vR b, vI 1] [(.int ((byt (shr c0 (8 : Int32))) &&& (255 : Int32))), (.int (shl ((byt (shr c0 (0 : Int32))) &&& (255 : Int32)) (0 : Int32)))])) rfl (hb hby d21_53)
 refine Go.movp st31 (mkF m 56 #[vR b, vI 1] [(.int 8), (.int ((byt (shr c0 (8 : Int32))) &&& (255 : Int32))), (.int (shl ((byt (shr c0 (0 : Int32))) &&& (255 : Int32)) (0 : Int32)))]) rfl ?_
 refine g_ishl X31 hx (hb hby d21_56) (pc' := 57) rfl ?_
 refine g_ior X31 hx (hb hby d21_57) (pc' := 58) rfl ?_
 refine g_i2c X31 hx (hb hby d21_58) (pc' := 59) rfl ?_
 exact g_creturn X31 hx (narrow_chr _) hret (hb hby d21_59) N0 hlk (fun v t => endF (by decide) (by decide) v) (by rw [e31]; exact ⟨by rw [own_utf hc], rfl⟩)
theorem ef_22_3_0 (x0 : Addr) (x1 : Int32) (m : MethodId) : entryFrame m #[(.ref x0), (.int x1)] 2 = mkF m 0 #[.val (.ref x0), .val (.int x1)] [] := by first | (simp [entryFrame, mkF, argsToLocals, Value.category]; done) | rfl
def Q22_3_0 (Z : State) (b : Addr) (c0 : Int32) (c1 : Int32) (c2 : Int32) (cs : Int32) (fv : Value) (h0 : Heap) (n0 : Nat) : Option Value → Heap → Prop := fun v h => v = some (.int c0) ∧ h0 = h
theorem rm22_3_0 (l : Launch) (Z : State) (a0 : Array Value) (hw : HW Z a0) (b : Addr) (c0 : Int32) (c1 : Int32) (c2 : Int32) (cs : Int32) (fv : Value) (h0 : Heap) (n0 : Nat) (Z0 : n0 ≤ h0.size) (V1 : Va Z h0 b .byte [(.int (byt (shr c0 (0 : Int32)))), (.int (byt (shr c0 (8 : Int32)))), (.int (byt (shr c1 (0 : Int32)))), (.int (byt (shr c1 (8 : Int32)))), (.int (byt (shr c2 (0 : Int32)))), (.int (byt (shr c2 (8 : Int32))))]) (B : Sts Z cs fv) (O : Old Z n0 h0) (hc : chr c0 = c0) : Ctr l Z (⟨"java/lang/StringUTF16", "charAt", "([BI)C"⟩ : MethodName) jdk_52_method_83_code 2 (some .char) ({ frames := 3, cells := 0, slots := 0, locals := 40 } : Room) #[(.ref b), (.int 0)] h0 n0 (Q22_3_0 Z b c0 c1 c2 cs fv h0 n0) := by
 refine Ctr.of (plainFor_of_name pn_24) (ef_22_3_0 b (0 : Int32)) ?_
 intro p e s m below meth c T0 hx hby hml hown hnm hret hlk hZ X0 e0
 have N0 := Fr.nil n0
 refine g_iloadN X0 hx (hb hby d22_0) (pc' := 1) rfl rfl ?_
 refine g_aloadN X0 hx (hb hby d22_1) (pc' := 2) rfl rfl rfl ?_
 obtain ⟨v32, T32, h32, L32, X32, e32, N32, q32, st32⟩ := h_static X0 hx (W := 0) (Ls := #[vR b, vI 0]) (argsL := [(.int 0), (.ref b)]) (rest := []) hZ e0 N0 hml hown (rm23_3 l Z a0 hw b (0 : Int32) (byt (shr c0 (0 : Int32))) (byt (shr c0 (8 : Int32))) (byt (shr c1 (0 : Int32))) (byt (shr c1 (8 : Int32))) (byt (shr c2 (0 : Int32))) (byt (shr c2 (8 : Int32))) cs fv h0 n0 Z0 V1 B O (by decide) (by decide)) (wd hw 117 rfl) (wd hw 118 rfl) (wd hw 17 rfl) (wd hw 119 rfl) (by decide) pd__I_B_V rfl rfl (hb hby d22_2) rfl (by decide) (by decide) (by decide) (by decide)
 obtain ⟨rfl, rfl⟩ := q32
 refine Go.movp st32 (mkF m 5 #[vR b, vI 0] []) rfl ?_
 refine g_aloadN X32 hx (hb hby d22_5) (pc' := 6) rfl rfl rfl ?_
 refine g_iloadN X32 hx (hb hby d22_6) (pc' := 7) rfl rfl ?_
 obtain ⟨v33, T33, h33, L33, X33, e33, N33, q33, st33⟩ := h_static X32 hx (W := 0) (Ls := #[vR b, vI 0]) (argsL := [(.ref b), (.int 0)]) (rest := []) hZ e32 N32 hml hown (rm21_3_0 l Z a0 hw b c0 c1 c2 cs fv h0 n0 Z0 V1 B O hc) (wd hw 111 rfl) (wd hw 112 rfl) (wd hw 17 rfl) (wd hw 113 rfl) (by decide) pd___BI_C rfl rfl (hb hby d22_7) rfl (by decide) (by decide) (by decide) (by decide)
 obtain ⟨rfl, rfl⟩ := q33
 refine Go.movp st33 (mkF m 10 #[vR b, vI 0] [(.int c0)]) rfl ?_
 exact g_creturn X33 hx (by rw [← hc]; exact narrow_chr _) hret (hb hby d22_10) N33 hlk (fun v t => endF (by decide) (by decide) v) (by rw [e33]; exact ⟨rfl, rfl⟩)
theorem ef_12_3_0 (x0 : Addr) (x1 : Int32) (m : MethodId) : entryFrame m #[(.ref x0), (.int x1)] 2 = mkF m 0 #[.val (.ref x0), .val (.int x1)] [] := by first | (simp [entryFrame, mkF, argsToLocals, Value.category]; done) | rfl
def Q12_3_0 (Z : State) (b : Addr) (c0 : Int32) (c1 : Int32) (c2 : Int32) (cs : Int32) (fv : Value) (h0 : Heap) (n0 : Nat) : Option Value → Heap → Prop := fun v h => v = some (.int c0) ∧ h0 = h
theorem rm12_3_0 (l : Launch) (Z : State) (a0 : Array Value) (hw : HW Z a0) (b : Addr) (c0 : Int32) (c1 : Int32) (c2 : Int32) (cs : Int32) (fv : Value) (h0 : Heap) (n0 : Nat) (Z0 : n0 ≤ h0.size) (V1 : Va Z h0 b .byte [(.int (byt c0)), (.int (byt c1)), (.int (byt c2))]) (B : Sts Z cs fv) (O : Old Z n0 h0) (hc : chr c0 = c0) (kc : ¬ 255 < c0) : Ctr l Z (⟨"java/lang/StringLatin1", "charAt", "([BI)C"⟩ : MethodName) jdk_43_method_2_code 2 (some .char) ({ frames := 2, cells := 0, slots := 0, locals := 27 } : Room) #[(.ref b), (.int 0)] h0 n0 (Q12_3_0 Z b c0 c1 c2 cs fv h0 n0) := by
 refine Ctr.of (plainFor_of_name pn_12) (ef_12_3_0 b (0 : Int32)) ?_
 intro p e s m below meth c T0 hx hby hml hown hnm hret hlk hZ X0 e0
 have N0 := Fr.nil n0
 refine g_iloadN X0 hx (hb hby d12_0) (pc' := 1) rfl rfl ?_
 refine g_aloadN X0 hx (hb hby d12_1) (pc' := 2) rfl rfl rfl ?_
 refine g_arraylength X0 hx hZ e0 V1 (z := 3) (hb hby d12_2) (pc' := 3) rfl rfl ?_
 obtain ⟨v34, T34, h34, L34, X34, e34, N34, q34, st34⟩ := h_static X0 hx (W := 0) (Ls := #[vR b, vI 0]) (argsL := [(.int 0), (.int 3)]) (rest := []) hZ e0 N0 hml hown (rm13 l Z a0 hw (0 : Int32) (3 : Int32) cs fv h0 n0 Z0 B O (by decide) (by decide)) (wd hw 72 rfl) (wd hw 73 rfl) (wd hw 2 rfl) (wd hw 74 rfl) (by decide) pd__II_V rfl rfl (hb hby d12_3) rfl (by decide) (by decide) (by decide) (by decide)
 obtain ⟨rfl, rfl⟩ := q34
 refine Go.movp st34 (mkF m 6 #[vR b, vI 0] []) rfl ?_
 refine g_aloadN X34 hx (hb hby d12_6) (pc' := 7) rfl rfl rfl ?_
 refine g_iloadN X34 hx (hb hby d12_7) (pc' := 8) rfl rfl ?_
 refine g_baload X34 hx hZ e34 V1 (i := 0) (v := (.int (byt c0))) (hb hby d12_8) (pc' := 9) rfl (by decide) rfl rfl ?_
 refine g_sipush X34 hx (hb hby d12_9) (pc' := 12) rfl (z := 255) rfl ?_
 refine g_iand X34 hx (hb hby d12_12) (pc' := 13) rfl ?_
 refine g_i2c X34 hx (hb hby d12_13) (pc' := 14) rfl ?_
 exact g_creturn X34 hx (narrow_chr _) hret (hb hby d12_14) N34 hlk (fun v t => endF (by decide) (by decide) v) (by rw [e34]; exact ⟨by rw [own_lat hc kc], rfl⟩)
theorem ef_21_3_1 (x0 : Addr) (x1 : Int32) (m : MethodId) : entryFrame m #[(.ref x0), (.int x1)] 2 = mkF m 0 #[.val (.ref x0), .val (.int x1)] [] := by first | (simp [entryFrame, mkF, argsToLocals, Value.category]; done) | rfl
def Q21_3_1 (Z : State) (b : Addr) (c0 : Int32) (c1 : Int32) (c2 : Int32) (cs : Int32) (fv : Value) (h0 : Heap) (n0 : Nat) : Option Value → Heap → Prop := fun v h => v = some (.int c1) ∧ h0 = h
theorem rm21_3_1 (l : Launch) (Z : State) (a0 : Array Value) (hw : HW Z a0) (b : Addr) (c0 : Int32) (c1 : Int32) (c2 : Int32) (cs : Int32) (fv : Value) (h0 : Heap) (n0 : Nat) (Z0 : n0 ≤ h0.size) (V1 : Va Z h0 b .byte [(.int (byt (shr c0 (0 : Int32)))), (.int (byt (shr c0 (8 : Int32)))), (.int (byt (shr c1 (0 : Int32)))), (.int (byt (shr c1 (8 : Int32)))), (.int (byt (shr c2 (0 : Int32)))), (.int (byt (shr c2 (8 : Int32))))]) (B : Sts Z cs fv) (O : Old Z n0 h0) (hc : chr c1 = c1) : Ctr l Z (⟨"java/lang/StringUTF16", "getChar", "([BI)C"⟩ : MethodName) jdk_52_method_5_code 2 (some .char) ({ frames := 0, cells := 0, slots := 0, locals := 0 } : Room) #[(.ref b), (.int 1)] h0 n0 (Q21_3_1 Z b c0 c1 c2 cs fv h0 n0) := by
 refine Ctr.of (plainFor_of_name pn_24) (ef_21_3_1 b (1 : Int32)) ?_
 intro p e s m below meth c T0 hx hby hml hown hnm hret hlk hZ X0 e0
 have N0 := Fr.nil n0
 obtain ⟨T35, X35, e35, st35⟩ := getS2 X0 hx hZ hown (host := "") (Or.inl (wd hw 108 rfl)) Via.refl e0 (Sta.ext O.2 B.2.2.1) (g := (mkF m 0 #[vR b, vI 1] [])) rfl (hb hby d21_0)
 refine Go.movp st35 (mkF m 3 #[vR b, vI 1] [(.int 1)]) rfl ?_
 refine g_if_ne X35 hx (hb hby d21_3) (pc1 := 6) rfl (by decide) (pc2 := 28) (by decide) (fun hc3 => ?_) (fun hc3 => absurd hc3 (by decide))
 refine g_iloadN X35 hx (hb hby d21_28) (pc' := 29) rfl rfl ?_
 refine g_iconst X35 hx (hb hby d21_29) (pc' := 30) rfl (z := 1) rfl ?_
 refine g_ishl X35 hx (hb hby d21_30) (pc' := 31) rfl ?_
 refine Go.cast (show (mkF m 31 #[vR b, vI 1] [(.int (shl (1 : Int32) (1 : Int32)))]) = (mkF m 31 #[vR b, vI 1] [(.int 2)]) from by rw [show (shl (1 : Int32) (1 : Int32)) = (2 : Int32) from (by decide)]) ?_
 refine g_istoreN X35 hx (hb hby d21_31) (pc' := 32) rfl (Ls' := #[vR b, vI 2]) rfl ?_
 refine g_aloadN X35 hx (hb hby d21_32) (pc' := 33) rfl rfl rfl ?_
 refine g_iloadN X35 hx (hb hby d21_33) (pc' := 34) rfl rfl ?_
 refine g_iinc X35 hx (hb hby d21_34) (pc' := 37) rfl rfl (z := 1) rfl (Ls' := #[vR b, vI 3]) rfl ?_
 refine g_baload X35 hx hZ e35 V1 (i := 2) (v := (.int (byt (shr c1 (0 : Int32))))) (hb hby d21_37) (pc' := 38) rfl (by decide) rfl rfl ?_
 refine g_sipush X35 hx (hb hby d21_38) (pc' := 41) rfl (z := 255) rfl ?_
 refine g_iand X35 hx (hb hby d21_41) (pc' := 42) rfl ?_
 obtain ⟨T36, X36, e36, st36⟩ := getS2 X35 hx hZ hown (host := "") (Or.inl (wd hw 109 rfl)) Via.refl e35 (Sta.ext O.2 B.2.2.2.1) (g := (mkF m 42 #[vR b, vI 3] [(.int ((byt (shr c1 (0 : Int32))) &&& (255 : Int32)))])) rfl (hb hby d21_42)
 refine Go.movp st36 (mkF m 45 #[vR b, vI 3] [(.int 0), (.int ((byt (shr c1 (0 : Int32))) &&& (255 : Int32)))]) rfl ?_
 refine g_ishl X36 hx (hb hby d21_45) (pc' := 46) rfl ?_
 refine g_aloadN X36 hx (hb hby d21_46) (pc' := 47) rfl rfl rfl ?_
 refine g_iloadN X36 hx (hb hby d21_47) (pc' := 48) rfl rfl ?_
 refine g_baload X36 hx hZ e36 V1 (i := 3) (v := (.int (byt (shr c1 (8 : Int32))))) (hb hby d21_48) (pc' := 49) rfl (by decide) rfl rfl ?_
 refine g_sipush X36 hx (hb hby d21_49) (pc' := 52) rfl (z := 255) rfl ?_
 refine g_iand X36 hx (hb hby d21_52) (pc' := 53) rfl ?_
 obtain ⟨T37, X37, e37, st37⟩ := getS2 X36 hx hZ hown (host := "") (Or.inl (wd hw 110 rfl)) Via.refl e36 (Sta.ext O.2 B.2.2.2.2.1) (g := (mkF m 53 #[vR b, vI 3] [(.int ((byt (shr c1 (8 : Int32))) &&& (255 : Int32))), (.int (shl ((byt (shr c1 (0 : Int32))) &&& (255 : Int32)) (0 : Int32)))])) rfl (hb hby d21_53)
 refine Go.movp st37 (mkF m 56 #[vR b, vI 3] [(.int 8), (.int ((byt (shr c1 (8 : Int32))) &&& (255 : Int32))), (.int (shl ((byt (shr c1 (0 : Int32))) &&& (255 : Int32)) (0 : Int32)))]) rfl ?_
 refine g_ishl X37 hx (hb hby d21_56) (pc' := 57) rfl ?_
 refine g_ior X37 hx (hb hby d21_57) (pc' := 58) rfl ?_
 refine g_i2c X37 hx (hb hby d21_58) (pc' := 59) rfl ?_
 exact g_creturn X37 hx (narrow_chr _) hret (hb hby d21_59) N0 hlk (fun v t => endF (by decide) (by decide) v) (by rw [e37]; exact ⟨by rw [own_utf hc], rfl⟩)
theorem ef_22_3_1 (x0 : Addr) (x1 : Int32) (m : MethodId) : entryFrame m #[(.ref x0), (.int x1)] 2 = mkF m 0 #[.val (.ref x0), .val (.int x1)] [] := by first | (simp [entryFrame, mkF, argsToLocals, Value.category]; done) | rfl
def Q22_3_1 (Z : State) (b : Addr) (c0 : Int32) (c1 : Int32) (c2 : Int32) (cs : Int32) (fv : Value) (h0 : Heap) (n0 : Nat) : Option Value → Heap → Prop := fun v h => v = some (.int c1) ∧ h0 = h
theorem rm22_3_1 (l : Launch) (Z : State) (a0 : Array Value) (hw : HW Z a0) (b : Addr) (c0 : Int32) (c1 : Int32) (c2 : Int32) (cs : Int32) (fv : Value) (h0 : Heap) (n0 : Nat) (Z0 : n0 ≤ h0.size) (V1 : Va Z h0 b .byte [(.int (byt (shr c0 (0 : Int32)))), (.int (byt (shr c0 (8 : Int32)))), (.int (byt (shr c1 (0 : Int32)))), (.int (byt (shr c1 (8 : Int32)))), (.int (byt (shr c2 (0 : Int32)))), (.int (byt (shr c2 (8 : Int32))))]) (B : Sts Z cs fv) (O : Old Z n0 h0) (hc : chr c1 = c1) : Ctr l Z (⟨"java/lang/StringUTF16", "charAt", "([BI)C"⟩ : MethodName) jdk_52_method_83_code 2 (some .char) ({ frames := 3, cells := 0, slots := 0, locals := 40 } : Room) #[(.ref b), (.int 1)] h0 n0 (Q22_3_1 Z b c0 c1 c2 cs fv h0 n0) := by
 refine Ctr.of (plainFor_of_name pn_24) (ef_22_3_1 b (1 : Int32)) ?_
 intro p e s m below meth c T0 hx hby hml hown hnm hret hlk hZ X0 e0
 have N0 := Fr.nil n0
 refine g_iloadN X0 hx (hb hby d22_0) (pc' := 1) rfl rfl ?_
 refine g_aloadN X0 hx (hb hby d22_1) (pc' := 2) rfl rfl rfl ?_
 obtain ⟨v38, T38, h38, L38, X38, e38, N38, q38, st38⟩ := h_static X0 hx (W := 0) (Ls := #[vR b, vI 1]) (argsL := [(.int 1), (.ref b)]) (rest := []) hZ e0 N0 hml hown (rm23_3 l Z a0 hw b (1 : Int32) (byt (shr c0 (0 : Int32))) (byt (shr c0 (8 : Int32))) (byt (shr c1 (0 : Int32))) (byt (shr c1 (8 : Int32))) (byt (shr c2 (0 : Int32))) (byt (shr c2 (8 : Int32))) cs fv h0 n0 Z0 V1 B O (by decide) (by decide)) (wd hw 117 rfl) (wd hw 118 rfl) (wd hw 17 rfl) (wd hw 119 rfl) (by decide) pd__I_B_V rfl rfl (hb hby d22_2) rfl (by decide) (by decide) (by decide) (by decide)
 obtain ⟨rfl, rfl⟩ := q38
 refine Go.movp st38 (mkF m 5 #[vR b, vI 1] []) rfl ?_
 refine g_aloadN X38 hx (hb hby d22_5) (pc' := 6) rfl rfl rfl ?_
 refine g_iloadN X38 hx (hb hby d22_6) (pc' := 7) rfl rfl ?_
 obtain ⟨v39, T39, h39, L39, X39, e39, N39, q39, st39⟩ := h_static X38 hx (W := 0) (Ls := #[vR b, vI 1]) (argsL := [(.ref b), (.int 1)]) (rest := []) hZ e38 N38 hml hown (rm21_3_1 l Z a0 hw b c0 c1 c2 cs fv h0 n0 Z0 V1 B O hc) (wd hw 111 rfl) (wd hw 112 rfl) (wd hw 17 rfl) (wd hw 113 rfl) (by decide) pd___BI_C rfl rfl (hb hby d22_7) rfl (by decide) (by decide) (by decide) (by decide)
 obtain ⟨rfl, rfl⟩ := q39
 refine Go.movp st39 (mkF m 10 #[vR b, vI 1] [(.int c1)]) rfl ?_
 exact g_creturn X39 hx (by rw [← hc]; exact narrow_chr _) hret (hb hby d22_10) N39 hlk (fun v t => endF (by decide) (by decide) v) (by rw [e39]; exact ⟨rfl, rfl⟩)
theorem ef_12_3_1 (x0 : Addr) (x1 : Int32) (m : MethodId) : entryFrame m #[(.ref x0), (.int x1)] 2 = mkF m 0 #[.val (.ref x0), .val (.int x1)] [] := by first | (simp [entryFrame, mkF, argsToLocals, Value.category]; done) | rfl
def Q12_3_1 (Z : State) (b : Addr) (c0 : Int32) (c1 : Int32) (c2 : Int32) (cs : Int32) (fv : Value) (h0 : Heap) (n0 : Nat) : Option Value → Heap → Prop := fun v h => v = some (.int c1) ∧ h0 = h
theorem rm12_3_1 (l : Launch) (Z : State) (a0 : Array Value) (hw : HW Z a0) (b : Addr) (c0 : Int32) (c1 : Int32) (c2 : Int32) (cs : Int32) (fv : Value) (h0 : Heap) (n0 : Nat) (Z0 : n0 ≤ h0.size) (V1 : Va Z h0 b .byte [(.int (byt c0)), (.int (byt c1)), (.int (byt c2))]) (B : Sts Z cs fv) (O : Old Z n0 h0) (hc : chr c1 = c1) (kc : ¬ 255 < c1) : Ctr l Z (⟨"java/lang/StringLatin1", "charAt", "([BI)C"⟩ : MethodName) jdk_43_method_2_code 2 (some .char) ({ frames := 2, cells := 0, slots := 0, locals := 27 } : Room) #[(.ref b), (.int 1)] h0 n0 (Q12_3_1 Z b c0 c1 c2 cs fv h0 n0) := by
 refine Ctr.of (plainFor_of_name pn_12) (ef_12_3_1 b (1 : Int32)) ?_
 intro p e s m below meth c T0 hx hby hml hown hnm hret hlk hZ X0 e0
 have N0 := Fr.nil n0
 refine g_iloadN X0 hx (hb hby d12_0) (pc' := 1) rfl rfl ?_
 refine g_aloadN X0 hx (hb hby d12_1) (pc' := 2) rfl rfl rfl ?_
 refine g_arraylength X0 hx hZ e0 V1 (z := 3) (hb hby d12_2) (pc' := 3) rfl rfl ?_
 obtain ⟨v40, T40, h40, L40, X40, e40, N40, q40, st40⟩ := h_static X0 hx (W := 0) (Ls := #[vR b, vI 1]) (argsL := [(.int 1), (.int 3)]) (rest := []) hZ e0 N0 hml hown (rm13 l Z a0 hw (1 : Int32) (3 : Int32) cs fv h0 n0 Z0 B O (by decide) (by decide)) (wd hw 72 rfl) (wd hw 73 rfl) (wd hw 2 rfl) (wd hw 74 rfl) (by decide) pd__II_V rfl rfl (hb hby d12_3) rfl (by decide) (by decide) (by decide) (by decide)
 obtain ⟨rfl, rfl⟩ := q40
 refine Go.movp st40 (mkF m 6 #[vR b, vI 1] []) rfl ?_
 refine g_aloadN X40 hx (hb hby d12_6) (pc' := 7) rfl rfl rfl ?_
 refine g_iloadN X40 hx (hb hby d12_7) (pc' := 8) rfl rfl ?_
 refine g_baload X40 hx hZ e40 V1 (i := 1) (v := (.int (byt c1))) (hb hby d12_8) (pc' := 9) rfl (by decide) rfl rfl ?_
 refine g_sipush X40 hx (hb hby d12_9) (pc' := 12) rfl (z := 255) rfl ?_
 refine g_iand X40 hx (hb hby d12_12) (pc' := 13) rfl ?_
 refine g_i2c X40 hx (hb hby d12_13) (pc' := 14) rfl ?_
 exact g_creturn X40 hx (narrow_chr _) hret (hb hby d12_14) N40 hlk (fun v t => endF (by decide) (by decide) v) (by rw [e40]; exact ⟨by rw [own_lat hc kc], rfl⟩)
theorem ef_21_3_2 (x0 : Addr) (x1 : Int32) (m : MethodId) : entryFrame m #[(.ref x0), (.int x1)] 2 = mkF m 0 #[.val (.ref x0), .val (.int x1)] [] := by first | (simp [entryFrame, mkF, argsToLocals, Value.category]; done) | rfl
def Q21_3_2 (Z : State) (b : Addr) (c0 : Int32) (c1 : Int32) (c2 : Int32) (cs : Int32) (fv : Value) (h0 : Heap) (n0 : Nat) : Option Value → Heap → Prop := fun v h => v = some (.int c2) ∧ h0 = h
theorem rm21_3_2 (l : Launch) (Z : State) (a0 : Array Value) (hw : HW Z a0) (b : Addr) (c0 : Int32) (c1 : Int32) (c2 : Int32) (cs : Int32) (fv : Value) (h0 : Heap) (n0 : Nat) (Z0 : n0 ≤ h0.size) (V1 : Va Z h0 b .byte [(.int (byt (shr c0 (0 : Int32)))), (.int (byt (shr c0 (8 : Int32)))), (.int (byt (shr c1 (0 : Int32)))), (.int (byt (shr c1 (8 : Int32)))), (.int (byt (shr c2 (0 : Int32)))), (.int (byt (shr c2 (8 : Int32))))]) (B : Sts Z cs fv) (O : Old Z n0 h0) (hc : chr c2 = c2) : Ctr l Z (⟨"java/lang/StringUTF16", "getChar", "([BI)C"⟩ : MethodName) jdk_52_method_5_code 2 (some .char) ({ frames := 0, cells := 0, slots := 0, locals := 0 } : Room) #[(.ref b), (.int 2)] h0 n0 (Q21_3_2 Z b c0 c1 c2 cs fv h0 n0) := by
 refine Ctr.of (plainFor_of_name pn_24) (ef_21_3_2 b (2 : Int32)) ?_
 intro p e s m below meth c T0 hx hby hml hown hnm hret hlk hZ X0 e0
 have N0 := Fr.nil n0
 obtain ⟨T41, X41, e41, st41⟩ := getS2 X0 hx hZ hown (host := "") (Or.inl (wd hw 108 rfl)) Via.refl e0 (Sta.ext O.2 B.2.2.1) (g := (mkF m 0 #[vR b, vI 2] [])) rfl (hb hby d21_0)
 refine Go.movp st41 (mkF m 3 #[vR b, vI 2] [(.int 1)]) rfl ?_
 refine g_if_ne X41 hx (hb hby d21_3) (pc1 := 6) rfl (by decide) (pc2 := 28) (by decide) (fun hc3 => ?_) (fun hc3 => absurd hc3 (by decide))
 refine g_iloadN X41 hx (hb hby d21_28) (pc' := 29) rfl rfl ?_
 refine g_iconst X41 hx (hb hby d21_29) (pc' := 30) rfl (z := 1) rfl ?_
 refine g_ishl X41 hx (hb hby d21_30) (pc' := 31) rfl ?_
 refine Go.cast (show (mkF m 31 #[vR b, vI 2] [(.int (shl (2 : Int32) (1 : Int32)))]) = (mkF m 31 #[vR b, vI 2] [(.int 4)]) from by rw [show (shl (2 : Int32) (1 : Int32)) = (4 : Int32) from (by decide)]) ?_
 refine g_istoreN X41 hx (hb hby d21_31) (pc' := 32) rfl (Ls' := #[vR b, vI 4]) rfl ?_
 refine g_aloadN X41 hx (hb hby d21_32) (pc' := 33) rfl rfl rfl ?_
 refine g_iloadN X41 hx (hb hby d21_33) (pc' := 34) rfl rfl ?_
 refine g_iinc X41 hx (hb hby d21_34) (pc' := 37) rfl rfl (z := 1) rfl (Ls' := #[vR b, vI 5]) rfl ?_
 refine g_baload X41 hx hZ e41 V1 (i := 4) (v := (.int (byt (shr c2 (0 : Int32))))) (hb hby d21_37) (pc' := 38) rfl (by decide) rfl rfl ?_
 refine g_sipush X41 hx (hb hby d21_38) (pc' := 41) rfl (z := 255) rfl ?_
 refine g_iand X41 hx (hb hby d21_41) (pc' := 42) rfl ?_
 obtain ⟨T42, X42, e42, st42⟩ := getS2 X41 hx hZ hown (host := "") (Or.inl (wd hw 109 rfl)) Via.refl e41 (Sta.ext O.2 B.2.2.2.1) (g := (mkF m 42 #[vR b, vI 5] [(.int ((byt (shr c2 (0 : Int32))) &&& (255 : Int32)))])) rfl (hb hby d21_42)
 refine Go.movp st42 (mkF m 45 #[vR b, vI 5] [(.int 0), (.int ((byt (shr c2 (0 : Int32))) &&& (255 : Int32)))]) rfl ?_
 refine g_ishl X42 hx (hb hby d21_45) (pc' := 46) rfl ?_
 refine g_aloadN X42 hx (hb hby d21_46) (pc' := 47) rfl rfl rfl ?_
 refine g_iloadN X42 hx (hb hby d21_47) (pc' := 48) rfl rfl ?_
 refine g_baload X42 hx hZ e42 V1 (i := 5) (v := (.int (byt (shr c2 (8 : Int32))))) (hb hby d21_48) (pc' := 49) rfl (by decide) rfl rfl ?_
 refine g_sipush X42 hx (hb hby d21_49) (pc' := 52) rfl (z := 255) rfl ?_
 refine g_iand X42 hx (hb hby d21_52) (pc' := 53) rfl ?_
 obtain ⟨T43, X43, e43, st43⟩ := getS2 X42 hx hZ hown (host := "") (Or.inl (wd hw 110 rfl)) Via.refl e42 (Sta.ext O.2 B.2.2.2.2.1) (g := (mkF m 53 #[vR b, vI 5] [(.int ((byt (shr c2 (8 : Int32))) &&& (255 : Int32))), (.int (shl ((byt (shr c2 (0 : Int32))) &&& (255 : Int32)) (0 : Int32)))])) rfl (hb hby d21_53)
 refine Go.movp st43 (mkF m 56 #[vR b, vI 5] [(.int 8), (.int ((byt (shr c2 (8 : Int32))) &&& (255 : Int32))), (.int (shl ((byt (shr c2 (0 : Int32))) &&& (255 : Int32)) (0 : Int32)))]) rfl ?_
 refine g_ishl X43 hx (hb hby d21_56) (pc' := 57) rfl ?_
 refine g_ior X43 hx (hb hby d21_57) (pc' := 58) rfl ?_
 refine g_i2c X43 hx (hb hby d21_58) (pc' := 59) rfl ?_
 exact g_creturn X43 hx (narrow_chr _) hret (hb hby d21_59) N0 hlk (fun v t => endF (by decide) (by decide) v) (by rw [e43]; exact ⟨by rw [own_utf hc], rfl⟩)
theorem ef_22_3_2 (x0 : Addr) (x1 : Int32) (m : MethodId) : entryFrame m #[(.ref x0), (.int x1)] 2 = mkF m 0 #[.val (.ref x0), .val (.int x1)] [] := by first | (simp [entryFrame, mkF, argsToLocals, Value.category]; done) | rfl
def Q22_3_2 (Z : State) (b : Addr) (c0 : Int32) (c1 : Int32) (c2 : Int32) (cs : Int32) (fv : Value) (h0 : Heap) (n0 : Nat) : Option Value → Heap → Prop := fun v h => v = some (.int c2) ∧ h0 = h
theorem rm22_3_2 (l : Launch) (Z : State) (a0 : Array Value) (hw : HW Z a0) (b : Addr) (c0 : Int32) (c1 : Int32) (c2 : Int32) (cs : Int32) (fv : Value) (h0 : Heap) (n0 : Nat) (Z0 : n0 ≤ h0.size) (V1 : Va Z h0 b .byte [(.int (byt (shr c0 (0 : Int32)))), (.int (byt (shr c0 (8 : Int32)))), (.int (byt (shr c1 (0 : Int32)))), (.int (byt (shr c1 (8 : Int32)))), (.int (byt (shr c2 (0 : Int32)))), (.int (byt (shr c2 (8 : Int32))))]) (B : Sts Z cs fv) (O : Old Z n0 h0) (hc : chr c2 = c2) : Ctr l Z (⟨"java/lang/StringUTF16", "charAt", "([BI)C"⟩ : MethodName) jdk_52_method_83_code 2 (some .char) ({ frames := 3, cells := 0, slots := 0, locals := 40 } : Room) #[(.ref b), (.int 2)] h0 n0 (Q22_3_2 Z b c0 c1 c2 cs fv h0 n0) := by
 refine Ctr.of (plainFor_of_name pn_24) (ef_22_3_2 b (2 : Int32)) ?_
 intro p e s m below meth c T0 hx hby hml hown hnm hret hlk hZ X0 e0
 have N0 := Fr.nil n0
 refine g_iloadN X0 hx (hb hby d22_0) (pc' := 1) rfl rfl ?_
 refine g_aloadN X0 hx (hb hby d22_1) (pc' := 2) rfl rfl rfl ?_
 obtain ⟨v44, T44, h44, L44, X44, e44, N44, q44, st44⟩ := h_static X0 hx (W := 0) (Ls := #[vR b, vI 2]) (argsL := [(.int 2), (.ref b)]) (rest := []) hZ e0 N0 hml hown (rm23_3 l Z a0 hw b (2 : Int32) (byt (shr c0 (0 : Int32))) (byt (shr c0 (8 : Int32))) (byt (shr c1 (0 : Int32))) (byt (shr c1 (8 : Int32))) (byt (shr c2 (0 : Int32))) (byt (shr c2 (8 : Int32))) cs fv h0 n0 Z0 V1 B O (by decide) (by decide)) (wd hw 117 rfl) (wd hw 118 rfl) (wd hw 17 rfl) (wd hw 119 rfl) (by decide) pd__I_B_V rfl rfl (hb hby d22_2) rfl (by decide) (by decide) (by decide) (by decide)
 obtain ⟨rfl, rfl⟩ := q44
 refine Go.movp st44 (mkF m 5 #[vR b, vI 2] []) rfl ?_
 refine g_aloadN X44 hx (hb hby d22_5) (pc' := 6) rfl rfl rfl ?_
 refine g_iloadN X44 hx (hb hby d22_6) (pc' := 7) rfl rfl ?_
 obtain ⟨v45, T45, h45, L45, X45, e45, N45, q45, st45⟩ := h_static X44 hx (W := 0) (Ls := #[vR b, vI 2]) (argsL := [(.ref b), (.int 2)]) (rest := []) hZ e44 N44 hml hown (rm21_3_2 l Z a0 hw b c0 c1 c2 cs fv h0 n0 Z0 V1 B O hc) (wd hw 111 rfl) (wd hw 112 rfl) (wd hw 17 rfl) (wd hw 113 rfl) (by decide) pd___BI_C rfl rfl (hb hby d22_7) rfl (by decide) (by decide) (by decide) (by decide)
 obtain ⟨rfl, rfl⟩ := q45
 refine Go.movp st45 (mkF m 10 #[vR b, vI 2] [(.int c2)]) rfl ?_
 exact g_creturn X45 hx (by rw [← hc]; exact narrow_chr _) hret (hb hby d22_10) N45 hlk (fun v t => endF (by decide) (by decide) v) (by rw [e45]; exact ⟨rfl, rfl⟩)
theorem ef_12_3_2 (x0 : Addr) (x1 : Int32) (m : MethodId) : entryFrame m #[(.ref x0), (.int x1)] 2 = mkF m 0 #[.val (.ref x0), .val (.int x1)] [] := by first | (simp [entryFrame, mkF, argsToLocals, Value.category]; done) | rfl
def Q12_3_2 (Z : State) (b : Addr) (c0 : Int32) (c1 : Int32) (c2 : Int32) (cs : Int32) (fv : Value) (h0 : Heap) (n0 : Nat) : Option Value → Heap → Prop := fun v h => v = some (.int c2) ∧ h0 = h
theorem rm12_3_2 (l : Launch) (Z : State) (a0 : Array Value) (hw : HW Z a0) (b : Addr) (c0 : Int32) (c1 : Int32) (c2 : Int32) (cs : Int32) (fv : Value) (h0 : Heap) (n0 : Nat) (Z0 : n0 ≤ h0.size) (V1 : Va Z h0 b .byte [(.int (byt c0)), (.int (byt c1)), (.int (byt c2))]) (B : Sts Z cs fv) (O : Old Z n0 h0) (hc : chr c2 = c2) (kc : ¬ 255 < c2) : Ctr l Z (⟨"java/lang/StringLatin1", "charAt", "([BI)C"⟩ : MethodName) jdk_43_method_2_code 2 (some .char) ({ frames := 2, cells := 0, slots := 0, locals := 27 } : Room) #[(.ref b), (.int 2)] h0 n0 (Q12_3_2 Z b c0 c1 c2 cs fv h0 n0) := by
 refine Ctr.of (plainFor_of_name pn_12) (ef_12_3_2 b (2 : Int32)) ?_
 intro p e s m below meth c T0 hx hby hml hown hnm hret hlk hZ X0 e0
 have N0 := Fr.nil n0
 refine g_iloadN X0 hx (hb hby d12_0) (pc' := 1) rfl rfl ?_
 refine g_aloadN X0 hx (hb hby d12_1) (pc' := 2) rfl rfl rfl ?_
 refine g_arraylength X0 hx hZ e0 V1 (z := 3) (hb hby d12_2) (pc' := 3) rfl rfl ?_
 obtain ⟨v46, T46, h46, L46, X46, e46, N46, q46, st46⟩ := h_static X0 hx (W := 0) (Ls := #[vR b, vI 2]) (argsL := [(.int 2), (.int 3)]) (rest := []) hZ e0 N0 hml hown (rm13 l Z a0 hw (2 : Int32) (3 : Int32) cs fv h0 n0 Z0 B O (by decide) (by decide)) (wd hw 72 rfl) (wd hw 73 rfl) (wd hw 2 rfl) (wd hw 74 rfl) (by decide) pd__II_V rfl rfl (hb hby d12_3) rfl (by decide) (by decide) (by decide) (by decide)
 obtain ⟨rfl, rfl⟩ := q46
 refine Go.movp st46 (mkF m 6 #[vR b, vI 2] []) rfl ?_
 refine g_aloadN X46 hx (hb hby d12_6) (pc' := 7) rfl rfl rfl ?_
 refine g_iloadN X46 hx (hb hby d12_7) (pc' := 8) rfl rfl ?_
 refine g_baload X46 hx hZ e46 V1 (i := 2) (v := (.int (byt c2))) (hb hby d12_8) (pc' := 9) rfl (by decide) rfl rfl ?_
 refine g_sipush X46 hx (hb hby d12_9) (pc' := 12) rfl (z := 255) rfl ?_
 refine g_iand X46 hx (hb hby d12_12) (pc' := 13) rfl ?_
 refine g_i2c X46 hx (hb hby d12_13) (pc' := 14) rfl ?_
 exact g_creturn X46 hx (narrow_chr _) hret (hb hby d12_14) N46 hlk (fun v t => endF (by decide) (by decide) v) (by rw [e46]; exact ⟨by rw [own_lat hc kc], rfl⟩)
theorem ef_23_4 (x0 : Int32) (x1 : Addr) (m : MethodId) : entryFrame m #[(.int x0), (.ref x1)] 2 = mkF m 0 #[.val (.int x0), .val (.ref x1)] [] := by first | (simp [entryFrame, mkF, argsToLocals, Value.category]; done) | rfl
def Q23_4 (Z : State) (b : Addr) (i : Int32) (x0 : Int32) (x1 : Int32) (x2 : Int32) (x3 : Int32) (x4 : Int32) (x5 : Int32) (x6 : Int32) (x7 : Int32) (cs : Int32) (fv : Value) (h0 : Heap) (n0 : Nat) : Option Value → Heap → Prop := fun v h => v = none ∧ h0 = h
theorem rm23_4 (l : Launch) (Z : State) (a0 : Array Value) (hw : HW Z a0) (b : Addr) (i : Int32) (x0 : Int32) (x1 : Int32) (x2 : Int32) (x3 : Int32) (x4 : Int32) (x5 : Int32) (x6 : Int32) (x7 : Int32) (cs : Int32) (fv : Value) (h0 : Heap) (n0 : Nat) (Z0 : n0 ≤ h0.size) (V1 : Va Z h0 b .byte [(.int x0), (.int x1), (.int x2), (.int x3), (.int x4), (.int x5), (.int x6), (.int x7)]) (B : Sts Z cs fv) (O : Old Z n0 h0) (k1 : ¬ i < 0) (k2 : i < (4 : Int32)) : Ctr l Z (⟨"java/lang/StringUTF16", "checkIndex", "(I[B)V"⟩ : MethodName) jdk_52_method_91_code 2 none ({ frames := 2, cells := 0, slots := 0, locals := 27 } : Room) #[(.int i), (.ref b)] h0 n0 (Q23_4 Z b i x0 x1 x2 x3 x4 x5 x6 x7 cs fv h0 n0) := by
 refine Ctr.of (plainFor_of_name pn_24) (ef_23_4 i b) ?_
 intro p e s m below meth c T0 hx hby hml hown hnm hret hlk hZ X0 e0
 have N0 := Fr.nil n0
 refine g_iloadN X0 hx (hb hby d23_0) (pc' := 1) rfl rfl ?_
 refine g_aloadN X0 hx (hb hby d23_1) (pc' := 2) rfl rfl rfl ?_
 obtain ⟨v47, T47, h47, L47, X47, e47, N47, q47, st47⟩ := h_static X0 hx (W := 1) (Ls := #[vI i, vR b]) (argsL := [(.ref b)]) (rest := [(.int i)]) hZ e0 N0 hml hown (rm24_4 l Z a0 hw b x0 x1 x2 x3 x4 x5 x6 x7 h0 n0 Z0 V1) (wd hw 120 rfl) (wd hw 121 rfl) (wd hw 17 rfl) (wd hw 122 rfl) (by decide) pd___B_I rfl rfl (hb hby d23_2) rfl (by decide) (by decide) (by decide) (by decide)
 obtain ⟨rfl, rfl⟩ := q47
 refine Go.movp st47 (mkF m 5 #[vI i, vR b] [(.int 4), (.int i)]) rfl ?_
 obtain ⟨v48, T48, h48, L48, X48, e48, N48, q48, st48⟩ := h_static X47 hx (W := 0) (Ls := #[vI i, vR b]) (argsL := [(.int i), (.int 4)]) (rest := []) hZ e47 N47 hml hown (rm13 l Z a0 hw i (4 : Int32) cs fv h0 n0 Z0 B O k1 k2) (wd hw 123 rfl) (wd hw 73 rfl) (wd hw 2 rfl) (wd hw 74 rfl) (by decide) pd__II_V rfl rfl (hb hby d23_5) rfl (by decide) (by decide) (by decide) (by decide)
 obtain ⟨rfl, rfl⟩ := q48
 refine Go.movp st48 (mkF m 8 #[vI i, vR b] []) rfl ?_
 exact g_return X48 hx hret (hb hby d23_8) N48 hlk (fun v t => endF (by decide) (by decide) v) (by rw [e48]; exact ⟨rfl, rfl⟩)
theorem ef_21_4_0 (x0 : Addr) (x1 : Int32) (m : MethodId) : entryFrame m #[(.ref x0), (.int x1)] 2 = mkF m 0 #[.val (.ref x0), .val (.int x1)] [] := by first | (simp [entryFrame, mkF, argsToLocals, Value.category]; done) | rfl
def Q21_4_0 (Z : State) (b : Addr) (c0 : Int32) (c1 : Int32) (c2 : Int32) (c3 : Int32) (cs : Int32) (fv : Value) (h0 : Heap) (n0 : Nat) : Option Value → Heap → Prop := fun v h => v = some (.int c0) ∧ h0 = h
theorem rm21_4_0 (l : Launch) (Z : State) (a0 : Array Value) (hw : HW Z a0) (b : Addr) (c0 : Int32) (c1 : Int32) (c2 : Int32) (c3 : Int32) (cs : Int32) (fv : Value) (h0 : Heap) (n0 : Nat) (Z0 : n0 ≤ h0.size) (V1 : Va Z h0 b .byte [(.int (byt (shr c0 (0 : Int32)))), (.int (byt (shr c0 (8 : Int32)))), (.int (byt (shr c1 (0 : Int32)))), (.int (byt (shr c1 (8 : Int32)))), (.int (byt (shr c2 (0 : Int32)))), (.int (byt (shr c2 (8 : Int32)))), (.int (byt (shr c3 (0 : Int32)))), (.int (byt (shr c3 (8 : Int32))))]) (B : Sts Z cs fv) (O : Old Z n0 h0) (hc : chr c0 = c0) : Ctr l Z (⟨"java/lang/StringUTF16", "getChar", "([BI)C"⟩ : MethodName) jdk_52_method_5_code 2 (some .char) ({ frames := 0, cells := 0, slots := 0, locals := 0 } : Room) #[(.ref b), (.int 0)] h0 n0 (Q21_4_0 Z b c0 c1 c2 c3 cs fv h0 n0) := by
 refine Ctr.of (plainFor_of_name pn_24) (ef_21_4_0 b (0 : Int32)) ?_
 intro p e s m below meth c T0 hx hby hml hown hnm hret hlk hZ X0 e0
 have N0 := Fr.nil n0
 obtain ⟨T49, X49, e49, st49⟩ := getS2 X0 hx hZ hown (host := "") (Or.inl (wd hw 108 rfl)) Via.refl e0 (Sta.ext O.2 B.2.2.1) (g := (mkF m 0 #[vR b, vI 0] [])) rfl (hb hby d21_0)
 refine Go.movp st49 (mkF m 3 #[vR b, vI 0] [(.int 1)]) rfl ?_
 refine g_if_ne X49 hx (hb hby d21_3) (pc1 := 6) rfl (by decide) (pc2 := 28) (by decide) (fun hc3 => ?_) (fun hc3 => absurd hc3 (by decide))
 refine g_iloadN X49 hx (hb hby d21_28) (pc' := 29) rfl rfl ?_
 refine g_iconst X49 hx (hb hby d21_29) (pc' := 30) rfl (z := 1) rfl ?_
 refine g_ishl X49 hx (hb hby d21_30) (pc' := 31) rfl ?_
 refine Go.cast (show (mkF m 31 #[vR b, vI 0] [(.int (shl (0 : Int32) (1 : Int32)))]) = (mkF m 31 #[vR b, vI 0] [(.int 0)]) from by rw [show (shl (0 : Int32) (1 : Int32)) = (0 : Int32) from (by decide)]) ?_
 refine g_istoreN X49 hx (hb hby d21_31) (pc' := 32) rfl (Ls' := #[vR b, vI 0]) rfl ?_
 refine g_aloadN X49 hx (hb hby d21_32) (pc' := 33) rfl rfl rfl ?_
 refine g_iloadN X49 hx (hb hby d21_33) (pc' := 34) rfl rfl ?_
 refine g_iinc X49 hx (hb hby d21_34) (pc' := 37) rfl rfl (z := 1) rfl (Ls' := #[vR b, vI 1]) rfl ?_
 refine g_baload X49 hx hZ e49 V1 (i := 0) (v := (.int (byt (shr c0 (0 : Int32))))) (hb hby d21_37) (pc' := 38) rfl (by decide) rfl rfl ?_
 refine g_sipush X49 hx (hb hby d21_38) (pc' := 41) rfl (z := 255) rfl ?_
 refine g_iand X49 hx (hb hby d21_41) (pc' := 42) rfl ?_
 obtain ⟨T50, X50, e50, st50⟩ := getS2 X49 hx hZ hown (host := "") (Or.inl (wd hw 109 rfl)) Via.refl e49 (Sta.ext O.2 B.2.2.2.1) (g := (mkF m 42 #[vR b, vI 1] [(.int ((byt (shr c0 (0 : Int32))) &&& (255 : Int32)))])) rfl (hb hby d21_42)
 refine Go.movp st50 (mkF m 45 #[vR b, vI 1] [(.int 0), (.int ((byt (shr c0 (0 : Int32))) &&& (255 : Int32)))]) rfl ?_
 refine g_ishl X50 hx (hb hby d21_45) (pc' := 46) rfl ?_
 refine g_aloadN X50 hx (hb hby d21_46) (pc' := 47) rfl rfl rfl ?_
 refine g_iloadN X50 hx (hb hby d21_47) (pc' := 48) rfl rfl ?_
 refine g_baload X50 hx hZ e50 V1 (i := 1) (v := (.int (byt (shr c0 (8 : Int32))))) (hb hby d21_48) (pc' := 49) rfl (by decide) rfl rfl ?_
 refine g_sipush X50 hx (hb hby d21_49) (pc' := 52) rfl (z := 255) rfl ?_
 refine g_iand X50 hx (hb hby d21_52) (pc' := 53) rfl ?_
 obtain ⟨T51, X51, e51, st51⟩ := getS2 X50 hx hZ hown (host := "") (Or.inl (wd hw 110 rfl)) Via.refl e50 (Sta.ext O.2 B.2.2.2.2.1) (g := (mkF m 53 #[vR b, vI 1] [(.int ((byt (shr c0 (8 : Int32))) &&& (255 : Int32))), (.int (shl ((byt (shr c0 (0 : Int32))) &&& (255 : Int32)) (0 : Int32)))])) rfl (hb hby d21_53)
 refine Go.movp st51 (mkF m 56 #[vR b, vI 1] [(.int 8), (.int ((byt (shr c0 (8 : Int32))) &&& (255 : Int32))), (.int (shl ((byt (shr c0 (0 : Int32))) &&& (255 : Int32)) (0 : Int32)))]) rfl ?_
 refine g_ishl X51 hx (hb hby d21_56) (pc' := 57) rfl ?_
 refine g_ior X51 hx (hb hby d21_57) (pc' := 58) rfl ?_
 refine g_i2c X51 hx (hb hby d21_58) (pc' := 59) rfl ?_
 exact g_creturn X51 hx (narrow_chr _) hret (hb hby d21_59) N0 hlk (fun v t => endF (by decide) (by decide) v) (by rw [e51]; exact ⟨by rw [own_utf hc], rfl⟩)
theorem ef_22_4_0 (x0 : Addr) (x1 : Int32) (m : MethodId) : entryFrame m #[(.ref x0), (.int x1)] 2 = mkF m 0 #[.val (.ref x0), .val (.int x1)] [] := by first | (simp [entryFrame, mkF, argsToLocals, Value.category]; done) | rfl
def Q22_4_0 (Z : State) (b : Addr) (c0 : Int32) (c1 : Int32) (c2 : Int32) (c3 : Int32) (cs : Int32) (fv : Value) (h0 : Heap) (n0 : Nat) : Option Value → Heap → Prop := fun v h => v = some (.int c0) ∧ h0 = h
theorem rm22_4_0 (l : Launch) (Z : State) (a0 : Array Value) (hw : HW Z a0) (b : Addr) (c0 : Int32) (c1 : Int32) (c2 : Int32) (c3 : Int32) (cs : Int32) (fv : Value) (h0 : Heap) (n0 : Nat) (Z0 : n0 ≤ h0.size) (V1 : Va Z h0 b .byte [(.int (byt (shr c0 (0 : Int32)))), (.int (byt (shr c0 (8 : Int32)))), (.int (byt (shr c1 (0 : Int32)))), (.int (byt (shr c1 (8 : Int32)))), (.int (byt (shr c2 (0 : Int32)))), (.int (byt (shr c2 (8 : Int32)))), (.int (byt (shr c3 (0 : Int32)))), (.int (byt (shr c3 (8 : Int32))))]) (B : Sts Z cs fv) (O : Old Z n0 h0) (hc : chr c0 = c0) : Ctr l Z (⟨"java/lang/StringUTF16", "charAt", "([BI)C"⟩ : MethodName) jdk_52_method_83_code 2 (some .char) ({ frames := 3, cells := 0, slots := 0, locals := 40 } : Room) #[(.ref b), (.int 0)] h0 n0 (Q22_4_0 Z b c0 c1 c2 c3 cs fv h0 n0) := by
 refine Ctr.of (plainFor_of_name pn_24) (ef_22_4_0 b (0 : Int32)) ?_
 intro p e s m below meth c T0 hx hby hml hown hnm hret hlk hZ X0 e0
 have N0 := Fr.nil n0
 refine g_iloadN X0 hx (hb hby d22_0) (pc' := 1) rfl rfl ?_
 refine g_aloadN X0 hx (hb hby d22_1) (pc' := 2) rfl rfl rfl ?_
 obtain ⟨v52, T52, h52, L52, X52, e52, N52, q52, st52⟩ := h_static X0 hx (W := 0) (Ls := #[vR b, vI 0]) (argsL := [(.int 0), (.ref b)]) (rest := []) hZ e0 N0 hml hown (rm23_4 l Z a0 hw b (0 : Int32) (byt (shr c0 (0 : Int32))) (byt (shr c0 (8 : Int32))) (byt (shr c1 (0 : Int32))) (byt (shr c1 (8 : Int32))) (byt (shr c2 (0 : Int32))) (byt (shr c2 (8 : Int32))) (byt (shr c3 (0 : Int32))) (byt (shr c3 (8 : Int32))) cs fv h0 n0 Z0 V1 B O (by decide) (by decide)) (wd hw 117 rfl) (wd hw 118 rfl) (wd hw 17 rfl) (wd hw 119 rfl) (by decide) pd__I_B_V rfl rfl (hb hby d22_2) rfl (by decide) (by decide) (by decide) (by decide)
 obtain ⟨rfl, rfl⟩ := q52
 refine Go.movp st52 (mkF m 5 #[vR b, vI 0] []) rfl ?_
 refine g_aloadN X52 hx (hb hby d22_5) (pc' := 6) rfl rfl rfl ?_
 refine g_iloadN X52 hx (hb hby d22_6) (pc' := 7) rfl rfl ?_
 obtain ⟨v53, T53, h53, L53, X53, e53, N53, q53, st53⟩ := h_static X52 hx (W := 0) (Ls := #[vR b, vI 0]) (argsL := [(.ref b), (.int 0)]) (rest := []) hZ e52 N52 hml hown (rm21_4_0 l Z a0 hw b c0 c1 c2 c3 cs fv h0 n0 Z0 V1 B O hc) (wd hw 111 rfl) (wd hw 112 rfl) (wd hw 17 rfl) (wd hw 113 rfl) (by decide) pd___BI_C rfl rfl (hb hby d22_7) rfl (by decide) (by decide) (by decide) (by decide)
 obtain ⟨rfl, rfl⟩ := q53
 refine Go.movp st53 (mkF m 10 #[vR b, vI 0] [(.int c0)]) rfl ?_
 exact g_creturn X53 hx (by rw [← hc]; exact narrow_chr _) hret (hb hby d22_10) N53 hlk (fun v t => endF (by decide) (by decide) v) (by rw [e53]; exact ⟨rfl, rfl⟩)
theorem ef_12_4_0 (x0 : Addr) (x1 : Int32) (m : MethodId) : entryFrame m #[(.ref x0), (.int x1)] 2 = mkF m 0 #[.val (.ref x0), .val (.int x1)] [] := by first | (simp [entryFrame, mkF, argsToLocals, Value.category]; done) | rfl
def Q12_4_0 (Z : State) (b : Addr) (c0 : Int32) (c1 : Int32) (c2 : Int32) (c3 : Int32) (cs : Int32) (fv : Value) (h0 : Heap) (n0 : Nat) : Option Value → Heap → Prop := fun v h => v = some (.int c0) ∧ h0 = h
theorem rm12_4_0 (l : Launch) (Z : State) (a0 : Array Value) (hw : HW Z a0) (b : Addr) (c0 : Int32) (c1 : Int32) (c2 : Int32) (c3 : Int32) (cs : Int32) (fv : Value) (h0 : Heap) (n0 : Nat) (Z0 : n0 ≤ h0.size) (V1 : Va Z h0 b .byte [(.int (byt c0)), (.int (byt c1)), (.int (byt c2)), (.int (byt c3))]) (B : Sts Z cs fv) (O : Old Z n0 h0) (hc : chr c0 = c0) (kc : ¬ 255 < c0) : Ctr l Z (⟨"java/lang/StringLatin1", "charAt", "([BI)C"⟩ : MethodName) jdk_43_method_2_code 2 (some .char) ({ frames := 2, cells := 0, slots := 0, locals := 27 } : Room) #[(.ref b), (.int 0)] h0 n0 (Q12_4_0 Z b c0 c1 c2 c3 cs fv h0 n0) := by
 refine Ctr.of (plainFor_of_name pn_12) (ef_12_4_0 b (0 : Int32)) ?_
 intro p e s m below meth c T0 hx hby hml hown hnm hret hlk hZ X0 e0
 have N0 := Fr.nil n0
 refine g_iloadN X0 hx (hb hby d12_0) (pc' := 1) rfl rfl ?_
 refine g_aloadN X0 hx (hb hby d12_1) (pc' := 2) rfl rfl rfl ?_
 refine g_arraylength X0 hx hZ e0 V1 (z := 4) (hb hby d12_2) (pc' := 3) rfl rfl ?_
 obtain ⟨v54, T54, h54, L54, X54, e54, N54, q54, st54⟩ := h_static X0 hx (W := 0) (Ls := #[vR b, vI 0]) (argsL := [(.int 0), (.int 4)]) (rest := []) hZ e0 N0 hml hown (rm13 l Z a0 hw (0 : Int32) (4 : Int32) cs fv h0 n0 Z0 B O (by decide) (by decide)) (wd hw 72 rfl) (wd hw 73 rfl) (wd hw 2 rfl) (wd hw 74 rfl) (by decide) pd__II_V rfl rfl (hb hby d12_3) rfl (by decide) (by decide) (by decide) (by decide)
 obtain ⟨rfl, rfl⟩ := q54
 refine Go.movp st54 (mkF m 6 #[vR b, vI 0] []) rfl ?_
 refine g_aloadN X54 hx (hb hby d12_6) (pc' := 7) rfl rfl rfl ?_
 refine g_iloadN X54 hx (hb hby d12_7) (pc' := 8) rfl rfl ?_
 refine g_baload X54 hx hZ e54 V1 (i := 0) (v := (.int (byt c0))) (hb hby d12_8) (pc' := 9) rfl (by decide) rfl rfl ?_
 refine g_sipush X54 hx (hb hby d12_9) (pc' := 12) rfl (z := 255) rfl ?_
 refine g_iand X54 hx (hb hby d12_12) (pc' := 13) rfl ?_
 refine g_i2c X54 hx (hb hby d12_13) (pc' := 14) rfl ?_
 exact g_creturn X54 hx (narrow_chr _) hret (hb hby d12_14) N54 hlk (fun v t => endF (by decide) (by decide) v) (by rw [e54]; exact ⟨by rw [own_lat hc kc], rfl⟩)
theorem ef_21_4_1 (x0 : Addr) (x1 : Int32) (m : MethodId) : entryFrame m #[(.ref x0), (.int x1)] 2 = mkF m 0 #[.val (.ref x0), .val (.int x1)] [] := by first | (simp [entryFrame, mkF, argsToLocals, Value.category]; done) | rfl
def Q21_4_1 (Z : State) (b : Addr) (c0 : Int32) (c1 : Int32) (c2 : Int32) (c3 : Int32) (cs : Int32) (fv : Value) (h0 : Heap) (n0 : Nat) : Option Value → Heap → Prop := fun v h => v = some (.int c1) ∧ h0 = h
theorem rm21_4_1 (l : Launch) (Z : State) (a0 : Array Value) (hw : HW Z a0) (b : Addr) (c0 : Int32) (c1 : Int32) (c2 : Int32) (c3 : Int32) (cs : Int32) (fv : Value) (h0 : Heap) (n0 : Nat) (Z0 : n0 ≤ h0.size) (V1 : Va Z h0 b .byte [(.int (byt (shr c0 (0 : Int32)))), (.int (byt (shr c0 (8 : Int32)))), (.int (byt (shr c1 (0 : Int32)))), (.int (byt (shr c1 (8 : Int32)))), (.int (byt (shr c2 (0 : Int32)))), (.int (byt (shr c2 (8 : Int32)))), (.int (byt (shr c3 (0 : Int32)))), (.int (byt (shr c3 (8 : Int32))))]) (B : Sts Z cs fv) (O : Old Z n0 h0) (hc : chr c1 = c1) : Ctr l Z (⟨"java/lang/StringUTF16", "getChar", "([BI)C"⟩ : MethodName) jdk_52_method_5_code 2 (some .char) ({ frames := 0, cells := 0, slots := 0, locals := 0 } : Room) #[(.ref b), (.int 1)] h0 n0 (Q21_4_1 Z b c0 c1 c2 c3 cs fv h0 n0) := by
 refine Ctr.of (plainFor_of_name pn_24) (ef_21_4_1 b (1 : Int32)) ?_
 intro p e s m below meth c T0 hx hby hml hown hnm hret hlk hZ X0 e0
 have N0 := Fr.nil n0
 obtain ⟨T55, X55, e55, st55⟩ := getS2 X0 hx hZ hown (host := "") (Or.inl (wd hw 108 rfl)) Via.refl e0 (Sta.ext O.2 B.2.2.1) (g := (mkF m 0 #[vR b, vI 1] [])) rfl (hb hby d21_0)
 refine Go.movp st55 (mkF m 3 #[vR b, vI 1] [(.int 1)]) rfl ?_
 refine g_if_ne X55 hx (hb hby d21_3) (pc1 := 6) rfl (by decide) (pc2 := 28) (by decide) (fun hc3 => ?_) (fun hc3 => absurd hc3 (by decide))
 refine g_iloadN X55 hx (hb hby d21_28) (pc' := 29) rfl rfl ?_
 refine g_iconst X55 hx (hb hby d21_29) (pc' := 30) rfl (z := 1) rfl ?_
 refine g_ishl X55 hx (hb hby d21_30) (pc' := 31) rfl ?_
 refine Go.cast (show (mkF m 31 #[vR b, vI 1] [(.int (shl (1 : Int32) (1 : Int32)))]) = (mkF m 31 #[vR b, vI 1] [(.int 2)]) from by rw [show (shl (1 : Int32) (1 : Int32)) = (2 : Int32) from (by decide)]) ?_
 refine g_istoreN X55 hx (hb hby d21_31) (pc' := 32) rfl (Ls' := #[vR b, vI 2]) rfl ?_
 refine g_aloadN X55 hx (hb hby d21_32) (pc' := 33) rfl rfl rfl ?_
 refine g_iloadN X55 hx (hb hby d21_33) (pc' := 34) rfl rfl ?_
 refine g_iinc X55 hx (hb hby d21_34) (pc' := 37) rfl rfl (z := 1) rfl (Ls' := #[vR b, vI 3]) rfl ?_
 refine g_baload X55 hx hZ e55 V1 (i := 2) (v := (.int (byt (shr c1 (0 : Int32))))) (hb hby d21_37) (pc' := 38) rfl (by decide) rfl rfl ?_
 refine g_sipush X55 hx (hb hby d21_38) (pc' := 41) rfl (z := 255) rfl ?_
 refine g_iand X55 hx (hb hby d21_41) (pc' := 42) rfl ?_
 obtain ⟨T56, X56, e56, st56⟩ := getS2 X55 hx hZ hown (host := "") (Or.inl (wd hw 109 rfl)) Via.refl e55 (Sta.ext O.2 B.2.2.2.1) (g := (mkF m 42 #[vR b, vI 3] [(.int ((byt (shr c1 (0 : Int32))) &&& (255 : Int32)))])) rfl (hb hby d21_42)
 refine Go.movp st56 (mkF m 45 #[vR b, vI 3] [(.int 0), (.int ((byt (shr c1 (0 : Int32))) &&& (255 : Int32)))]) rfl ?_
 refine g_ishl X56 hx (hb hby d21_45) (pc' := 46) rfl ?_
 refine g_aloadN X56 hx (hb hby d21_46) (pc' := 47) rfl rfl rfl ?_
 refine g_iloadN X56 hx (hb hby d21_47) (pc' := 48) rfl rfl ?_
 refine g_baload X56 hx hZ e56 V1 (i := 3) (v := (.int (byt (shr c1 (8 : Int32))))) (hb hby d21_48) (pc' := 49) rfl (by decide) rfl rfl ?_
 refine g_sipush X56 hx (hb hby d21_49) (pc' := 52) rfl (z := 255) rfl ?_
 refine g_iand X56 hx (hb hby d21_52) (pc' := 53) rfl ?_
 obtain ⟨T57, X57, e57, st57⟩ := getS2 X56 hx hZ hown (host := "") (Or.inl (wd hw 110 rfl)) Via.refl e56 (Sta.ext O.2 B.2.2.2.2.1) (g := (mkF m 53 #[vR b, vI 3] [(.int ((byt (shr c1 (8 : Int32))) &&& (255 : Int32))), (.int (shl ((byt (shr c1 (0 : Int32))) &&& (255 : Int32)) (0 : Int32)))])) rfl (hb hby d21_53)
 refine Go.movp st57 (mkF m 56 #[vR b, vI 3] [(.int 8), (.int ((byt (shr c1 (8 : Int32))) &&& (255 : Int32))), (.int (shl ((byt (shr c1 (0 : Int32))) &&& (255 : Int32)) (0 : Int32)))]) rfl ?_
 refine g_ishl X57 hx (hb hby d21_56) (pc' := 57) rfl ?_
 refine g_ior X57 hx (hb hby d21_57) (pc' := 58) rfl ?_
 refine g_i2c X57 hx (hb hby d21_58) (pc' := 59) rfl ?_
 exact g_creturn X57 hx (narrow_chr _) hret (hb hby d21_59) N0 hlk (fun v t => endF (by decide) (by decide) v) (by rw [e57]; exact ⟨by rw [own_utf hc], rfl⟩)
theorem ef_22_4_1 (x0 : Addr) (x1 : Int32) (m : MethodId) : entryFrame m #[(.ref x0), (.int x1)] 2 = mkF m 0 #[.val (.ref x0), .val (.int x1)] [] := by first | (simp [entryFrame, mkF, argsToLocals, Value.category]; done) | rfl
def Q22_4_1 (Z : State) (b : Addr) (c0 : Int32) (c1 : Int32) (c2 : Int32) (c3 : Int32) (cs : Int32) (fv : Value) (h0 : Heap) (n0 : Nat) : Option Value → Heap → Prop := fun v h => v = some (.int c1) ∧ h0 = h
theorem rm22_4_1 (l : Launch) (Z : State) (a0 : Array Value) (hw : HW Z a0) (b : Addr) (c0 : Int32) (c1 : Int32) (c2 : Int32) (c3 : Int32) (cs : Int32) (fv : Value) (h0 : Heap) (n0 : Nat) (Z0 : n0 ≤ h0.size) (V1 : Va Z h0 b .byte [(.int (byt (shr c0 (0 : Int32)))), (.int (byt (shr c0 (8 : Int32)))), (.int (byt (shr c1 (0 : Int32)))), (.int (byt (shr c1 (8 : Int32)))), (.int (byt (shr c2 (0 : Int32)))), (.int (byt (shr c2 (8 : Int32)))), (.int (byt (shr c3 (0 : Int32)))), (.int (byt (shr c3 (8 : Int32))))]) (B : Sts Z cs fv) (O : Old Z n0 h0) (hc : chr c1 = c1) : Ctr l Z (⟨"java/lang/StringUTF16", "charAt", "([BI)C"⟩ : MethodName) jdk_52_method_83_code 2 (some .char) ({ frames := 3, cells := 0, slots := 0, locals := 40 } : Room) #[(.ref b), (.int 1)] h0 n0 (Q22_4_1 Z b c0 c1 c2 c3 cs fv h0 n0) := by
 refine Ctr.of (plainFor_of_name pn_24) (ef_22_4_1 b (1 : Int32)) ?_
 intro p e s m below meth c T0 hx hby hml hown hnm hret hlk hZ X0 e0
 have N0 := Fr.nil n0
 refine g_iloadN X0 hx (hb hby d22_0) (pc' := 1) rfl rfl ?_
 refine g_aloadN X0 hx (hb hby d22_1) (pc' := 2) rfl rfl rfl ?_
 obtain ⟨v58, T58, h58, L58, X58, e58, N58, q58, st58⟩ := h_static X0 hx (W := 0) (Ls := #[vR b, vI 1]) (argsL := [(.int 1), (.ref b)]) (rest := []) hZ e0 N0 hml hown (rm23_4 l Z a0 hw b (1 : Int32) (byt (shr c0 (0 : Int32))) (byt (shr c0 (8 : Int32))) (byt (shr c1 (0 : Int32))) (byt (shr c1 (8 : Int32))) (byt (shr c2 (0 : Int32))) (byt (shr c2 (8 : Int32))) (byt (shr c3 (0 : Int32))) (byt (shr c3 (8 : Int32))) cs fv h0 n0 Z0 V1 B O (by decide) (by decide)) (wd hw 117 rfl) (wd hw 118 rfl) (wd hw 17 rfl) (wd hw 119 rfl) (by decide) pd__I_B_V rfl rfl (hb hby d22_2) rfl (by decide) (by decide) (by decide) (by decide)
 obtain ⟨rfl, rfl⟩ := q58
 refine Go.movp st58 (mkF m 5 #[vR b, vI 1] []) rfl ?_
 refine g_aloadN X58 hx (hb hby d22_5) (pc' := 6) rfl rfl rfl ?_
 refine g_iloadN X58 hx (hb hby d22_6) (pc' := 7) rfl rfl ?_
 obtain ⟨v59, T59, h59, L59, X59, e59, N59, q59, st59⟩ := h_static X58 hx (W := 0) (Ls := #[vR b, vI 1]) (argsL := [(.ref b), (.int 1)]) (rest := []) hZ e58 N58 hml hown (rm21_4_1 l Z a0 hw b c0 c1 c2 c3 cs fv h0 n0 Z0 V1 B O hc) (wd hw 111 rfl) (wd hw 112 rfl) (wd hw 17 rfl) (wd hw 113 rfl) (by decide) pd___BI_C rfl rfl (hb hby d22_7) rfl (by decide) (by decide) (by decide) (by decide)
 obtain ⟨rfl, rfl⟩ := q59
 refine Go.movp st59 (mkF m 10 #[vR b, vI 1] [(.int c1)]) rfl ?_
 exact g_creturn X59 hx (by rw [← hc]; exact narrow_chr _) hret (hb hby d22_10) N59 hlk (fun v t => endF (by decide) (by decide) v) (by rw [e59]; exact ⟨rfl, rfl⟩)
theorem ef_12_4_1 (x0 : Addr) (x1 : Int32) (m : MethodId) : entryFrame m #[(.ref x0), (.int x1)] 2 = mkF m 0 #[.val (.ref x0), .val (.int x1)] [] := by first | (simp [entryFrame, mkF, argsToLocals, Value.category]; done) | rfl
def Q12_4_1 (Z : State) (b : Addr) (c0 : Int32) (c1 : Int32) (c2 : Int32) (c3 : Int32) (cs : Int32) (fv : Value) (h0 : Heap) (n0 : Nat) : Option Value → Heap → Prop := fun v h => v = some (.int c1) ∧ h0 = h
theorem rm12_4_1 (l : Launch) (Z : State) (a0 : Array Value) (hw : HW Z a0) (b : Addr) (c0 : Int32) (c1 : Int32) (c2 : Int32) (c3 : Int32) (cs : Int32) (fv : Value) (h0 : Heap) (n0 : Nat) (Z0 : n0 ≤ h0.size) (V1 : Va Z h0 b .byte [(.int (byt c0)), (.int (byt c1)), (.int (byt c2)), (.int (byt c3))]) (B : Sts Z cs fv) (O : Old Z n0 h0) (hc : chr c1 = c1) (kc : ¬ 255 < c1) : Ctr l Z (⟨"java/lang/StringLatin1", "charAt", "([BI)C"⟩ : MethodName) jdk_43_method_2_code 2 (some .char) ({ frames := 2, cells := 0, slots := 0, locals := 27 } : Room) #[(.ref b), (.int 1)] h0 n0 (Q12_4_1 Z b c0 c1 c2 c3 cs fv h0 n0) := by
 refine Ctr.of (plainFor_of_name pn_12) (ef_12_4_1 b (1 : Int32)) ?_
 intro p e s m below meth c T0 hx hby hml hown hnm hret hlk hZ X0 e0
 have N0 := Fr.nil n0
 refine g_iloadN X0 hx (hb hby d12_0) (pc' := 1) rfl rfl ?_
 refine g_aloadN X0 hx (hb hby d12_1) (pc' := 2) rfl rfl rfl ?_
 refine g_arraylength X0 hx hZ e0 V1 (z := 4) (hb hby d12_2) (pc' := 3) rfl rfl ?_
 obtain ⟨v60, T60, h60, L60, X60, e60, N60, q60, st60⟩ := h_static X0 hx (W := 0) (Ls := #[vR b, vI 1]) (argsL := [(.int 1), (.int 4)]) (rest := []) hZ e0 N0 hml hown (rm13 l Z a0 hw (1 : Int32) (4 : Int32) cs fv h0 n0 Z0 B O (by decide) (by decide)) (wd hw 72 rfl) (wd hw 73 rfl) (wd hw 2 rfl) (wd hw 74 rfl) (by decide) pd__II_V rfl rfl (hb hby d12_3) rfl (by decide) (by decide) (by decide) (by decide)
 obtain ⟨rfl, rfl⟩ := q60
 refine Go.movp st60 (mkF m 6 #[vR b, vI 1] []) rfl ?_
 refine g_aloadN X60 hx (hb hby d12_6) (pc' := 7) rfl rfl rfl ?_
 refine g_iloadN X60 hx (hb hby d12_7) (pc' := 8) rfl rfl ?_
 refine g_baload X60 hx hZ e60 V1 (i := 1) (v := (.int (byt c1))) (hb hby d12_8) (pc' := 9) rfl (by decide) rfl rfl ?_
 refine g_sipush X60 hx (hb hby d12_9) (pc' := 12) rfl (z := 255) rfl ?_
 refine g_iand X60 hx (hb hby d12_12) (pc' := 13) rfl ?_
 refine g_i2c X60 hx (hb hby d12_13) (pc' := 14) rfl ?_
 exact g_creturn X60 hx (narrow_chr _) hret (hb hby d12_14) N60 hlk (fun v t => endF (by decide) (by decide) v) (by rw [e60]; exact ⟨by rw [own_lat hc kc], rfl⟩)
theorem ef_21_4_2 (x0 : Addr) (x1 : Int32) (m : MethodId) : entryFrame m #[(.ref x0), (.int x1)] 2 = mkF m 0 #[.val (.ref x0), .val (.int x1)] [] := by first | (simp [entryFrame, mkF, argsToLocals, Value.category]; done) | rfl
def Q21_4_2 (Z : State) (b : Addr) (c0 : Int32) (c1 : Int32) (c2 : Int32) (c3 : Int32) (cs : Int32) (fv : Value) (h0 : Heap) (n0 : Nat) : Option Value → Heap → Prop := fun v h => v = some (.int c2) ∧ h0 = h
theorem rm21_4_2 (l : Launch) (Z : State) (a0 : Array Value) (hw : HW Z a0) (b : Addr) (c0 : Int32) (c1 : Int32) (c2 : Int32) (c3 : Int32) (cs : Int32) (fv : Value) (h0 : Heap) (n0 : Nat) (Z0 : n0 ≤ h0.size) (V1 : Va Z h0 b .byte [(.int (byt (shr c0 (0 : Int32)))), (.int (byt (shr c0 (8 : Int32)))), (.int (byt (shr c1 (0 : Int32)))), (.int (byt (shr c1 (8 : Int32)))), (.int (byt (shr c2 (0 : Int32)))), (.int (byt (shr c2 (8 : Int32)))), (.int (byt (shr c3 (0 : Int32)))), (.int (byt (shr c3 (8 : Int32))))]) (B : Sts Z cs fv) (O : Old Z n0 h0) (hc : chr c2 = c2) : Ctr l Z (⟨"java/lang/StringUTF16", "getChar", "([BI)C"⟩ : MethodName) jdk_52_method_5_code 2 (some .char) ({ frames := 0, cells := 0, slots := 0, locals := 0 } : Room) #[(.ref b), (.int 2)] h0 n0 (Q21_4_2 Z b c0 c1 c2 c3 cs fv h0 n0) := by
 refine Ctr.of (plainFor_of_name pn_24) (ef_21_4_2 b (2 : Int32)) ?_
 intro p e s m below meth c T0 hx hby hml hown hnm hret hlk hZ X0 e0
 have N0 := Fr.nil n0
 obtain ⟨T61, X61, e61, st61⟩ := getS2 X0 hx hZ hown (host := "") (Or.inl (wd hw 108 rfl)) Via.refl e0 (Sta.ext O.2 B.2.2.1) (g := (mkF m 0 #[vR b, vI 2] [])) rfl (hb hby d21_0)
 refine Go.movp st61 (mkF m 3 #[vR b, vI 2] [(.int 1)]) rfl ?_
 refine g_if_ne X61 hx (hb hby d21_3) (pc1 := 6) rfl (by decide) (pc2 := 28) (by decide) (fun hc3 => ?_) (fun hc3 => absurd hc3 (by decide))
 refine g_iloadN X61 hx (hb hby d21_28) (pc' := 29) rfl rfl ?_
 refine g_iconst X61 hx (hb hby d21_29) (pc' := 30) rfl (z := 1) rfl ?_
 refine g_ishl X61 hx (hb hby d21_30) (pc' := 31) rfl ?_
 refine Go.cast (show (mkF m 31 #[vR b, vI 2] [(.int (shl (2 : Int32) (1 : Int32)))]) = (mkF m 31 #[vR b, vI 2] [(.int 4)]) from by rw [show (shl (2 : Int32) (1 : Int32)) = (4 : Int32) from (by decide)]) ?_
 refine g_istoreN X61 hx (hb hby d21_31) (pc' := 32) rfl (Ls' := #[vR b, vI 4]) rfl ?_
 refine g_aloadN X61 hx (hb hby d21_32) (pc' := 33) rfl rfl rfl ?_
 refine g_iloadN X61 hx (hb hby d21_33) (pc' := 34) rfl rfl ?_
 refine g_iinc X61 hx (hb hby d21_34) (pc' := 37) rfl rfl (z := 1) rfl (Ls' := #[vR b, vI 5]) rfl ?_
 refine g_baload X61 hx hZ e61 V1 (i := 4) (v := (.int (byt (shr c2 (0 : Int32))))) (hb hby d21_37) (pc' := 38) rfl (by decide) rfl rfl ?_
 refine g_sipush X61 hx (hb hby d21_38) (pc' := 41) rfl (z := 255) rfl ?_
 refine g_iand X61 hx (hb hby d21_41) (pc' := 42) rfl ?_
 obtain ⟨T62, X62, e62, st62⟩ := getS2 X61 hx hZ hown (host := "") (Or.inl (wd hw 109 rfl)) Via.refl e61 (Sta.ext O.2 B.2.2.2.1) (g := (mkF m 42 #[vR b, vI 5] [(.int ((byt (shr c2 (0 : Int32))) &&& (255 : Int32)))])) rfl (hb hby d21_42)
 refine Go.movp st62 (mkF m 45 #[vR b, vI 5] [(.int 0), (.int ((byt (shr c2 (0 : Int32))) &&& (255 : Int32)))]) rfl ?_
 refine g_ishl X62 hx (hb hby d21_45) (pc' := 46) rfl ?_
 refine g_aloadN X62 hx (hb hby d21_46) (pc' := 47) rfl rfl rfl ?_
 refine g_iloadN X62 hx (hb hby d21_47) (pc' := 48) rfl rfl ?_
 refine g_baload X62 hx hZ e62 V1 (i := 5) (v := (.int (byt (shr c2 (8 : Int32))))) (hb hby d21_48) (pc' := 49) rfl (by decide) rfl rfl ?_
 refine g_sipush X62 hx (hb hby d21_49) (pc' := 52) rfl (z := 255) rfl ?_
 refine g_iand X62 hx (hb hby d21_52) (pc' := 53) rfl ?_
 obtain ⟨T63, X63, e63, st63⟩ := getS2 X62 hx hZ hown (host := "") (Or.inl (wd hw 110 rfl)) Via.refl e62 (Sta.ext O.2 B.2.2.2.2.1) (g := (mkF m 53 #[vR b, vI 5] [(.int ((byt (shr c2 (8 : Int32))) &&& (255 : Int32))), (.int (shl ((byt (shr c2 (0 : Int32))) &&& (255 : Int32)) (0 : Int32)))])) rfl (hb hby d21_53)
 refine Go.movp st63 (mkF m 56 #[vR b, vI 5] [(.int 8), (.int ((byt (shr c2 (8 : Int32))) &&& (255 : Int32))), (.int (shl ((byt (shr c2 (0 : Int32))) &&& (255 : Int32)) (0 : Int32)))]) rfl ?_
 refine g_ishl X63 hx (hb hby d21_56) (pc' := 57) rfl ?_
 refine g_ior X63 hx (hb hby d21_57) (pc' := 58) rfl ?_
 refine g_i2c X63 hx (hb hby d21_58) (pc' := 59) rfl ?_
 exact g_creturn X63 hx (narrow_chr _) hret (hb hby d21_59) N0 hlk (fun v t => endF (by decide) (by decide) v) (by rw [e63]; exact ⟨by rw [own_utf hc], rfl⟩)
theorem ef_22_4_2 (x0 : Addr) (x1 : Int32) (m : MethodId) : entryFrame m #[(.ref x0), (.int x1)] 2 = mkF m 0 #[.val (.ref x0), .val (.int x1)] [] := by first | (simp [entryFrame, mkF, argsToLocals, Value.category]; done) | rfl
def Q22_4_2 (Z : State) (b : Addr) (c0 : Int32) (c1 : Int32) (c2 : Int32) (c3 : Int32) (cs : Int32) (fv : Value) (h0 : Heap) (n0 : Nat) : Option Value → Heap → Prop := fun v h => v = some (.int c2) ∧ h0 = h
theorem rm22_4_2 (l : Launch) (Z : State) (a0 : Array Value) (hw : HW Z a0) (b : Addr) (c0 : Int32) (c1 : Int32) (c2 : Int32) (c3 : Int32) (cs : Int32) (fv : Value) (h0 : Heap) (n0 : Nat) (Z0 : n0 ≤ h0.size) (V1 : Va Z h0 b .byte [(.int (byt (shr c0 (0 : Int32)))), (.int (byt (shr c0 (8 : Int32)))), (.int (byt (shr c1 (0 : Int32)))), (.int (byt (shr c1 (8 : Int32)))), (.int (byt (shr c2 (0 : Int32)))), (.int (byt (shr c2 (8 : Int32)))), (.int (byt (shr c3 (0 : Int32)))), (.int (byt (shr c3 (8 : Int32))))]) (B : Sts Z cs fv) (O : Old Z n0 h0) (hc : chr c2 = c2) : Ctr l Z (⟨"java/lang/StringUTF16", "charAt", "([BI)C"⟩ : MethodName) jdk_52_method_83_code 2 (some .char) ({ frames := 3, cells := 0, slots := 0, locals := 40 } : Room) #[(.ref b), (.int 2)] h0 n0 (Q22_4_2 Z b c0 c1 c2 c3 cs fv h0 n0) := by
 refine Ctr.of (plainFor_of_name pn_24) (ef_22_4_2 b (2 : Int32)) ?_
 intro p e s m below meth c T0 hx hby hml hown hnm hret hlk hZ X0 e0
 have N0 := Fr.nil n0
 refine g_iloadN X0 hx (hb hby d22_0) (pc' := 1) rfl rfl ?_
 refine g_aloadN X0 hx (hb hby d22_1) (pc' := 2) rfl rfl rfl ?_
 obtain ⟨v64, T64, h64, L64, X64, e64, N64, q64, st64⟩ := h_static X0 hx (W := 0) (Ls := #[vR b, vI 2]) (argsL := [(.int 2), (.ref b)]) (rest := []) hZ e0 N0 hml hown (rm23_4 l Z a0 hw b (2 : Int32) (byt (shr c0 (0 : Int32))) (byt (shr c0 (8 : Int32))) (byt (shr c1 (0 : Int32))) (byt (shr c1 (8 : Int32))) (byt (shr c2 (0 : Int32))) (byt (shr c2 (8 : Int32))) (byt (shr c3 (0 : Int32))) (byt (shr c3 (8 : Int32))) cs fv h0 n0 Z0 V1 B O (by decide) (by decide)) (wd hw 117 rfl) (wd hw 118 rfl) (wd hw 17 rfl) (wd hw 119 rfl) (by decide) pd__I_B_V rfl rfl (hb hby d22_2) rfl (by decide) (by decide) (by decide) (by decide)
 obtain ⟨rfl, rfl⟩ := q64
 refine Go.movp st64 (mkF m 5 #[vR b, vI 2] []) rfl ?_
 refine g_aloadN X64 hx (hb hby d22_5) (pc' := 6) rfl rfl rfl ?_
 refine g_iloadN X64 hx (hb hby d22_6) (pc' := 7) rfl rfl ?_
 obtain ⟨v65, T65, h65, L65, X65, e65, N65, q65, st65⟩ := h_static X64 hx (W := 0) (Ls := #[vR b, vI 2]) (argsL := [(.ref b), (.int 2)]) (rest := []) hZ e64 N64 hml hown (rm21_4_2 l Z a0 hw b c0 c1 c2 c3 cs fv h0 n0 Z0 V1 B O hc) (wd hw 111 rfl) (wd hw 112 rfl) (wd hw 17 rfl) (wd hw 113 rfl) (by decide) pd___BI_C rfl rfl (hb hby d22_7) rfl (by decide) (by decide) (by decide) (by decide)
 obtain ⟨rfl, rfl⟩ := q65
 refine Go.movp st65 (mkF m 10 #[vR b, vI 2] [(.int c2)]) rfl ?_
 exact g_creturn X65 hx (by rw [← hc]; exact narrow_chr _) hret (hb hby d22_10) N65 hlk (fun v t => endF (by decide) (by decide) v) (by rw [e65]; exact ⟨rfl, rfl⟩)
theorem ef_12_4_2 (x0 : Addr) (x1 : Int32) (m : MethodId) : entryFrame m #[(.ref x0), (.int x1)] 2 = mkF m 0 #[.val (.ref x0), .val (.int x1)] [] := by first | (simp [entryFrame, mkF, argsToLocals, Value.category]; done) | rfl
def Q12_4_2 (Z : State) (b : Addr) (c0 : Int32) (c1 : Int32) (c2 : Int32) (c3 : Int32) (cs : Int32) (fv : Value) (h0 : Heap) (n0 : Nat) : Option Value → Heap → Prop := fun v h => v = some (.int c2) ∧ h0 = h
theorem rm12_4_2 (l : Launch) (Z : State) (a0 : Array Value) (hw : HW Z a0) (b : Addr) (c0 : Int32) (c1 : Int32) (c2 : Int32) (c3 : Int32) (cs : Int32) (fv : Value) (h0 : Heap) (n0 : Nat) (Z0 : n0 ≤ h0.size) (V1 : Va Z h0 b .byte [(.int (byt c0)), (.int (byt c1)), (.int (byt c2)), (.int (byt c3))]) (B : Sts Z cs fv) (O : Old Z n0 h0) (hc : chr c2 = c2) (kc : ¬ 255 < c2) : Ctr l Z (⟨"java/lang/StringLatin1", "charAt", "([BI)C"⟩ : MethodName) jdk_43_method_2_code 2 (some .char) ({ frames := 2, cells := 0, slots := 0, locals := 27 } : Room) #[(.ref b), (.int 2)] h0 n0 (Q12_4_2 Z b c0 c1 c2 c3 cs fv h0 n0) := by
 refine Ctr.of (plainFor_of_name pn_12) (ef_12_4_2 b (2 : Int32)) ?_
 intro p e s m below meth c T0 hx hby hml hown hnm hret hlk hZ X0 e0
 have N0 := Fr.nil n0
 refine g_iloadN X0 hx (hb hby d12_0) (pc' := 1) rfl rfl ?_
 refine g_aloadN X0 hx (hb hby d12_1) (pc' := 2) rfl rfl rfl ?_
 refine g_arraylength X0 hx hZ e0 V1 (z := 4) (hb hby d12_2) (pc' := 3) rfl rfl ?_
 obtain ⟨v66, T66, h66, L66, X66, e66, N66, q66, st66⟩ := h_static X0 hx (W := 0) (Ls := #[vR b, vI 2]) (argsL := [(.int 2), (.int 4)]) (rest := []) hZ e0 N0 hml hown (rm13 l Z a0 hw (2 : Int32) (4 : Int32) cs fv h0 n0 Z0 B O (by decide) (by decide)) (wd hw 72 rfl) (wd hw 73 rfl) (wd hw 2 rfl) (wd hw 74 rfl) (by decide) pd__II_V rfl rfl (hb hby d12_3) rfl (by decide) (by decide) (by decide) (by decide)
 obtain ⟨rfl, rfl⟩ := q66
 refine Go.movp st66 (mkF m 6 #[vR b, vI 2] []) rfl ?_
 refine g_aloadN X66 hx (hb hby d12_6) (pc' := 7) rfl rfl rfl ?_
 refine g_iloadN X66 hx (hb hby d12_7) (pc' := 8) rfl rfl ?_
 refine g_baload X66 hx hZ e66 V1 (i := 2) (v := (.int (byt c2))) (hb hby d12_8) (pc' := 9) rfl (by decide) rfl rfl ?_
 refine g_sipush X66 hx (hb hby d12_9) (pc' := 12) rfl (z := 255) rfl ?_
 refine g_iand X66 hx (hb hby d12_12) (pc' := 13) rfl ?_
 refine g_i2c X66 hx (hb hby d12_13) (pc' := 14) rfl ?_
 exact g_creturn X66 hx (narrow_chr _) hret (hb hby d12_14) N66 hlk (fun v t => endF (by decide) (by decide) v) (by rw [e66]; exact ⟨by rw [own_lat hc kc], rfl⟩)
theorem ef_21_4_3 (x0 : Addr) (x1 : Int32) (m : MethodId) : entryFrame m #[(.ref x0), (.int x1)] 2 = mkF m 0 #[.val (.ref x0), .val (.int x1)] [] := by first | (simp [entryFrame, mkF, argsToLocals, Value.category]; done) | rfl
def Q21_4_3 (Z : State) (b : Addr) (c0 : Int32) (c1 : Int32) (c2 : Int32) (c3 : Int32) (cs : Int32) (fv : Value) (h0 : Heap) (n0 : Nat) : Option Value → Heap → Prop := fun v h => v = some (.int c3) ∧ h0 = h
theorem rm21_4_3 (l : Launch) (Z : State) (a0 : Array Value) (hw : HW Z a0) (b : Addr) (c0 : Int32) (c1 : Int32) (c2 : Int32) (c3 : Int32) (cs : Int32) (fv : Value) (h0 : Heap) (n0 : Nat) (Z0 : n0 ≤ h0.size) (V1 : Va Z h0 b .byte [(.int (byt (shr c0 (0 : Int32)))), (.int (byt (shr c0 (8 : Int32)))), (.int (byt (shr c1 (0 : Int32)))), (.int (byt (shr c1 (8 : Int32)))), (.int (byt (shr c2 (0 : Int32)))), (.int (byt (shr c2 (8 : Int32)))), (.int (byt (shr c3 (0 : Int32)))), (.int (byt (shr c3 (8 : Int32))))]) (B : Sts Z cs fv) (O : Old Z n0 h0) (hc : chr c3 = c3) : Ctr l Z (⟨"java/lang/StringUTF16", "getChar", "([BI)C"⟩ : MethodName) jdk_52_method_5_code 2 (some .char) ({ frames := 0, cells := 0, slots := 0, locals := 0 } : Room) #[(.ref b), (.int 3)] h0 n0 (Q21_4_3 Z b c0 c1 c2 c3 cs fv h0 n0) := by
 refine Ctr.of (plainFor_of_name pn_24) (ef_21_4_3 b (3 : Int32)) ?_
 intro p e s m below meth c T0 hx hby hml hown hnm hret hlk hZ X0 e0
 have N0 := Fr.nil n0
 obtain ⟨T67, X67, e67, st67⟩ := getS2 X0 hx hZ hown (host := "") (Or.inl (wd hw 108 rfl)) Via.refl e0 (Sta.ext O.2 B.2.2.1) (g := (mkF m 0 #[vR b, vI 3] [])) rfl (hb hby d21_0)
 refine Go.movp st67 (mkF m 3 #[vR b, vI 3] [(.int 1)]) rfl ?_
 refine g_if_ne X67 hx (hb hby d21_3) (pc1 := 6) rfl (by decide) (pc2 := 28) (by decide) (fun hc3 => ?_) (fun hc3 => absurd hc3 (by decide))
 refine g_iloadN X67 hx (hb hby d21_28) (pc' := 29) rfl rfl ?_
 refine g_iconst X67 hx (hb hby d21_29) (pc' := 30) rfl (z := 1) rfl ?_
 refine g_ishl X67 hx (hb hby d21_30) (pc' := 31) rfl ?_
 refine Go.cast (show (mkF m 31 #[vR b, vI 3] [(.int (shl (3 : Int32) (1 : Int32)))]) = (mkF m 31 #[vR b, vI 3] [(.int 6)]) from by rw [show (shl (3 : Int32) (1 : Int32)) = (6 : Int32) from (by decide)]) ?_
 refine g_istoreN X67 hx (hb hby d21_31) (pc' := 32) rfl (Ls' := #[vR b, vI 6]) rfl ?_
 refine g_aloadN X67 hx (hb hby d21_32) (pc' := 33) rfl rfl rfl ?_
 refine g_iloadN X67 hx (hb hby d21_33) (pc' := 34) rfl rfl ?_
 refine g_iinc X67 hx (hb hby d21_34) (pc' := 37) rfl rfl (z := 1) rfl (Ls' := #[vR b, vI 7]) rfl ?_
 refine g_baload X67 hx hZ e67 V1 (i := 6) (v := (.int (byt (shr c3 (0 : Int32))))) (hb hby d21_37) (pc' := 38) rfl (by decide) rfl rfl ?_
 refine g_sipush X67 hx (hb hby d21_38) (pc' := 41) rfl (z := 255) rfl ?_
 refine g_iand X67 hx (hb hby d21_41) (pc' := 42) rfl ?_
 obtain ⟨T68, X68, e68, st68⟩ := getS2 X67 hx hZ hown (host := "") (Or.inl (wd hw 109 rfl)) Via.refl e67 (Sta.ext O.2 B.2.2.2.1) (g := (mkF m 42 #[vR b, vI 7] [(.int ((byt (shr c3 (0 : Int32))) &&& (255 : Int32)))])) rfl (hb hby d21_42)
 refine Go.movp st68 (mkF m 45 #[vR b, vI 7] [(.int 0), (.int ((byt (shr c3 (0 : Int32))) &&& (255 : Int32)))]) rfl ?_
 refine g_ishl X68 hx (hb hby d21_45) (pc' := 46) rfl ?_
 refine g_aloadN X68 hx (hb hby d21_46) (pc' := 47) rfl rfl rfl ?_
 refine g_iloadN X68 hx (hb hby d21_47) (pc' := 48) rfl rfl ?_
 refine g_baload X68 hx hZ e68 V1 (i := 7) (v := (.int (byt (shr c3 (8 : Int32))))) (hb hby d21_48) (pc' := 49) rfl (by decide) rfl rfl ?_
 refine g_sipush X68 hx (hb hby d21_49) (pc' := 52) rfl (z := 255) rfl ?_
 refine g_iand X68 hx (hb hby d21_52) (pc' := 53) rfl ?_
 obtain ⟨T69, X69, e69, st69⟩ := getS2 X68 hx hZ hown (host := "") (Or.inl (wd hw 110 rfl)) Via.refl e68 (Sta.ext O.2 B.2.2.2.2.1) (g := (mkF m 53 #[vR b, vI 7] [(.int ((byt (shr c3 (8 : Int32))) &&& (255 : Int32))), (.int (shl ((byt (shr c3 (0 : Int32))) &&& (255 : Int32)) (0 : Int32)))])) rfl (hb hby d21_53)
 refine Go.movp st69 (mkF m 56 #[vR b, vI 7] [(.int 8), (.int ((byt (shr c3 (8 : Int32))) &&& (255 : Int32))), (.int (shl ((byt (shr c3 (0 : Int32))) &&& (255 : Int32)) (0 : Int32)))]) rfl ?_
 refine g_ishl X69 hx (hb hby d21_56) (pc' := 57) rfl ?_
 refine g_ior X69 hx (hb hby d21_57) (pc' := 58) rfl ?_
 refine g_i2c X69 hx (hb hby d21_58) (pc' := 59) rfl ?_
 exact g_creturn X69 hx (narrow_chr _) hret (hb hby d21_59) N0 hlk (fun v t => endF (by decide) (by decide) v) (by rw [e69]; exact ⟨by rw [own_utf hc], rfl⟩)
theorem ef_22_4_3 (x0 : Addr) (x1 : Int32) (m : MethodId) : entryFrame m #[(.ref x0), (.int x1)] 2 = mkF m 0 #[.val (.ref x0), .val (.int x1)] [] := by first | (simp [entryFrame, mkF, argsToLocals, Value.category]; done) | rfl
def Q22_4_3 (Z : State) (b : Addr) (c0 : Int32) (c1 : Int32) (c2 : Int32) (c3 : Int32) (cs : Int32) (fv : Value) (h0 : Heap) (n0 : Nat) : Option Value → Heap → Prop := fun v h => v = some (.int c3) ∧ h0 = h
theorem rm22_4_3 (l : Launch) (Z : State) (a0 : Array Value) (hw : HW Z a0) (b : Addr) (c0 : Int32) (c1 : Int32) (c2 : Int32) (c3 : Int32) (cs : Int32) (fv : Value) (h0 : Heap) (n0 : Nat) (Z0 : n0 ≤ h0.size) (V1 : Va Z h0 b .byte [(.int (byt (shr c0 (0 : Int32)))), (.int (byt (shr c0 (8 : Int32)))), (.int (byt (shr c1 (0 : Int32)))), (.int (byt (shr c1 (8 : Int32)))), (.int (byt (shr c2 (0 : Int32)))), (.int (byt (shr c2 (8 : Int32)))), (.int (byt (shr c3 (0 : Int32)))), (.int (byt (shr c3 (8 : Int32))))]) (B : Sts Z cs fv) (O : Old Z n0 h0) (hc : chr c3 = c3) : Ctr l Z (⟨"java/lang/StringUTF16", "charAt", "([BI)C"⟩ : MethodName) jdk_52_method_83_code 2 (some .char) ({ frames := 3, cells := 0, slots := 0, locals := 40 } : Room) #[(.ref b), (.int 3)] h0 n0 (Q22_4_3 Z b c0 c1 c2 c3 cs fv h0 n0) := by
 refine Ctr.of (plainFor_of_name pn_24) (ef_22_4_3 b (3 : Int32)) ?_
 intro p e s m below meth c T0 hx hby hml hown hnm hret hlk hZ X0 e0
 have N0 := Fr.nil n0
 refine g_iloadN X0 hx (hb hby d22_0) (pc' := 1) rfl rfl ?_
 refine g_aloadN X0 hx (hb hby d22_1) (pc' := 2) rfl rfl rfl ?_
 obtain ⟨v70, T70, h70, L70, X70, e70, N70, q70, st70⟩ := h_static X0 hx (W := 0) (Ls := #[vR b, vI 3]) (argsL := [(.int 3), (.ref b)]) (rest := []) hZ e0 N0 hml hown (rm23_4 l Z a0 hw b (3 : Int32) (byt (shr c0 (0 : Int32))) (byt (shr c0 (8 : Int32))) (byt (shr c1 (0 : Int32))) (byt (shr c1 (8 : Int32))) (byt (shr c2 (0 : Int32))) (byt (shr c2 (8 : Int32))) (byt (shr c3 (0 : Int32))) (byt (shr c3 (8 : Int32))) cs fv h0 n0 Z0 V1 B O (by decide) (by decide)) (wd hw 117 rfl) (wd hw 118 rfl) (wd hw 17 rfl) (wd hw 119 rfl) (by decide) pd__I_B_V rfl rfl (hb hby d22_2) rfl (by decide) (by decide) (by decide) (by decide)
 obtain ⟨rfl, rfl⟩ := q70
 refine Go.movp st70 (mkF m 5 #[vR b, vI 3] []) rfl ?_
 refine g_aloadN X70 hx (hb hby d22_5) (pc' := 6) rfl rfl rfl ?_
 refine g_iloadN X70 hx (hb hby d22_6) (pc' := 7) rfl rfl ?_
 obtain ⟨v71, T71, h71, L71, X71, e71, N71, q71, st71⟩ := h_static X70 hx (W := 0) (Ls := #[vR b, vI 3]) (argsL := [(.ref b), (.int 3)]) (rest := []) hZ e70 N70 hml hown (rm21_4_3 l Z a0 hw b c0 c1 c2 c3 cs fv h0 n0 Z0 V1 B O hc) (wd hw 111 rfl) (wd hw 112 rfl) (wd hw 17 rfl) (wd hw 113 rfl) (by decide) pd___BI_C rfl rfl (hb hby d22_7) rfl (by decide) (by decide) (by decide) (by decide)
 obtain ⟨rfl, rfl⟩ := q71
 refine Go.movp st71 (mkF m 10 #[vR b, vI 3] [(.int c3)]) rfl ?_
 exact g_creturn X71 hx (by rw [← hc]; exact narrow_chr _) hret (hb hby d22_10) N71 hlk (fun v t => endF (by decide) (by decide) v) (by rw [e71]; exact ⟨rfl, rfl⟩)
theorem ef_12_4_3 (x0 : Addr) (x1 : Int32) (m : MethodId) : entryFrame m #[(.ref x0), (.int x1)] 2 = mkF m 0 #[.val (.ref x0), .val (.int x1)] [] := by first | (simp [entryFrame, mkF, argsToLocals, Value.category]; done) | rfl
def Q12_4_3 (Z : State) (b : Addr) (c0 : Int32) (c1 : Int32) (c2 : Int32) (c3 : Int32) (cs : Int32) (fv : Value) (h0 : Heap) (n0 : Nat) : Option Value → Heap → Prop := fun v h => v = some (.int c3) ∧ h0 = h
theorem rm12_4_3 (l : Launch) (Z : State) (a0 : Array Value) (hw : HW Z a0) (b : Addr) (c0 : Int32) (c1 : Int32) (c2 : Int32) (c3 : Int32) (cs : Int32) (fv : Value) (h0 : Heap) (n0 : Nat) (Z0 : n0 ≤ h0.size) (V1 : Va Z h0 b .byte [(.int (byt c0)), (.int (byt c1)), (.int (byt c2)), (.int (byt c3))]) (B : Sts Z cs fv) (O : Old Z n0 h0) (hc : chr c3 = c3) (kc : ¬ 255 < c3) : Ctr l Z (⟨"java/lang/StringLatin1", "charAt", "([BI)C"⟩ : MethodName) jdk_43_method_2_code 2 (some .char) ({ frames := 2, cells := 0, slots := 0, locals := 27 } : Room) #[(.ref b), (.int 3)] h0 n0 (Q12_4_3 Z b c0 c1 c2 c3 cs fv h0 n0) := by
 refine Ctr.of (plainFor_of_name pn_12) (ef_12_4_3 b (3 : Int32)) ?_
 intro p e s m below meth c T0 hx hby hml hown hnm hret hlk hZ X0 e0
 have N0 := Fr.nil n0
 refine g_iloadN X0 hx (hb hby d12_0) (pc' := 1) rfl rfl ?_
 refine g_aloadN X0 hx (hb hby d12_1) (pc' := 2) rfl rfl rfl ?_
 refine g_arraylength X0 hx hZ e0 V1 (z := 4) (hb hby d12_2) (pc' := 3) rfl rfl ?_
 obtain ⟨v72, T72, h72, L72, X72, e72, N72, q72, st72⟩ := h_static X0 hx (W := 0) (Ls := #[vR b, vI 3]) (argsL := [(.int 3), (.int 4)]) (rest := []) hZ e0 N0 hml hown (rm13 l Z a0 hw (3 : Int32) (4 : Int32) cs fv h0 n0 Z0 B O (by decide) (by decide)) (wd hw 72 rfl) (wd hw 73 rfl) (wd hw 2 rfl) (wd hw 74 rfl) (by decide) pd__II_V rfl rfl (hb hby d12_3) rfl (by decide) (by decide) (by decide) (by decide)
 obtain ⟨rfl, rfl⟩ := q72
 refine Go.movp st72 (mkF m 6 #[vR b, vI 3] []) rfl ?_
 refine g_aloadN X72 hx (hb hby d12_6) (pc' := 7) rfl rfl rfl ?_
 refine g_iloadN X72 hx (hb hby d12_7) (pc' := 8) rfl rfl ?_
 refine g_baload X72 hx hZ e72 V1 (i := 3) (v := (.int (byt c3))) (hb hby d12_8) (pc' := 9) rfl (by decide) rfl rfl ?_
 refine g_sipush X72 hx (hb hby d12_9) (pc' := 12) rfl (z := 255) rfl ?_
 refine g_iand X72 hx (hb hby d12_12) (pc' := 13) rfl ?_
 refine g_i2c X72 hx (hb hby d12_13) (pc' := 14) rfl ?_
 exact g_creturn X72 hx (narrow_chr _) hret (hb hby d12_14) N72 hlk (fun v t => endF (by decide) (by decide) v) (by rw [e72]; exact ⟨by rw [own_lat hc kc], rfl⟩)
theorem d11_0 : decode jdk_42_method_154_code 0 = .ok (.getstatic 38, 3) := by decide +kernel
theorem d11_3 : decode jdk_42_method_154_code 3 = .ok (.ifCond .eq 14, 3) := by decide +kernel
theorem d11_6 : decode jdk_42_method_154_code 6 = .ok (.aload_n 0, 1) := by decide +kernel
theorem d11_7 : decode jdk_42_method_154_code 7 = .ok (.getfield 15, 3) := by decide +kernel
theorem d11_10 : decode jdk_42_method_154_code 10 = .ok (.ifCond .ne 7, 3) := by decide +kernel
theorem d11_13 : decode jdk_42_method_154_code 13 = .ok (.iconst 1, 1) := by decide +kernel
theorem d11_14 : decode jdk_42_method_154_code 14 = .ok (.goto 4, 3) := by decide +kernel
theorem d11_18 : decode jdk_42_method_154_code 18 = .ok (.ireturn, 1) := by decide +kernel
theorem ef_11_0 (x0 : Addr) (m : MethodId) : entryFrame m #[(.ref x0)] 1 = mkF m 0 #[.val (.ref x0)] [] := by first | (simp [entryFrame, mkF, argsToLocals, Value.category]; done) | rfl
def Q11_0 (Z : State) (a : Addr) (cs : Int32) (fv : Value) (h0 : Heap) (n0 : Nat) : Option Value → Heap → Prop := fun v h => v = some (.int 1) ∧ h0 = h
theorem rm11_0 (l : Launch) (Z : State) (a0 : Array Value) (hw : HW Z a0) (a : Addr) (cs : Int32) (fv : Value) (h0 : Heap) (n0 : Nat) (Z0 : n0 ≤ h0.size) (F1 : Fld Z h0 a "java/lang/String" "coder" "B" (.int 0)) (B : Sts Z cs fv) (O : Old Z n0 h0) : Ctr l Z (⟨"java/lang/String", "isLatin1", "()Z"⟩ : MethodName) jdk_42_method_154_code 1 (some .boolean) ({ frames := 0, cells := 0, slots := 0, locals := 0 } : Room) #[(.ref a)] h0 n0 (Q11_0 Z a cs fv h0 n0) := by
 refine Ctr.of (plainFor_of_name pn_13) (ef_11_0 a) ?_
 intro p e s m below meth c T0 hx hby hml hown hnm hret hlk hZ X0 e0
 have N0 := Fr.nil n0
 obtain ⟨T73, X73, e73, st73⟩ := getS2 X0 hx hZ hown (host := "") (Or.inl (wd hw 14 rfl)) Via.refl e0 (Sta.ext O.2 B.1) (g := (mkF m 0 #[vR a] [])) rfl (hb hby d11_0)
 refine Go.movp st73 (mkF m 3 #[vR a] [(.int cs)]) rfl ?_
 refine g_if_eq X73 hx (hb hby d11_3) (pc1 := 6) rfl (by decide) (pc2 := 17) (by decide) (fun hc3 => absurd hc3 B.2.1) (fun hc3 => ?_)
 refine g_aloadN X73 hx (hb hby d11_6) (pc' := 7) rfl rfl rfl ?_
 obtain ⟨T74, X74, e74, st74⟩ := getF X73 hx hZ hown (host := "") (Or.inl (wd hw 26 rfl)) Via.refl e73 F1 (g := (mkF m 7 #[vR a] [(.ref a)])) rfl rfl (hb hby d11_7)
 refine Go.movp st74 (mkF m 10 #[vR a] [(.int 0)]) rfl ?_
 refine g_if_ne X74 hx (hb hby d11_10) (pc1 := 13) rfl (by decide) (pc2 := 17) (by decide) (fun hc10 => absurd (by decide) hc10) (fun hc10 => ?_)
 refine g_iconst X74 hx (hb hby d11_13) (pc' := 14) rfl (z := 1) rfl ?_
 refine g_goto X74 hx (hb hby d11_14) (by decide) (pc' := 18) (by decide) ?_
 exact g_zreturn X74 hx rfl hret (hb hby d11_18) N0 hlk (fun v t => endF (by decide) (by decide) v) (by rw [e74]; exact ⟨rfl, rfl⟩)
theorem d9_0 : decode jdk_42_method_152_code 0 = .ok (.getstatic 38, 3) := by decide +kernel
theorem d9_3 : decode jdk_42_method_152_code 3 = .ok (.ifCond .eq 10, 3) := by decide +kernel
theorem d9_6 : decode jdk_42_method_152_code 6 = .ok (.aload_n 0, 1) := by decide +kernel
theorem d9_7 : decode jdk_42_method_152_code 7 = .ok (.getfield 15, 3) := by decide +kernel
theorem d9_10 : decode jdk_42_method_152_code 10 = .ok (.goto 4, 3) := by decide +kernel
theorem d9_14 : decode jdk_42_method_152_code 14 = .ok (.ireturn, 1) := by decide +kernel
theorem ef_9_0 (x0 : Addr) (m : MethodId) : entryFrame m #[(.ref x0)] 1 = mkF m 0 #[.val (.ref x0)] [] := by first | (simp [entryFrame, mkF, argsToLocals, Value.category]; done) | rfl
def Q9_0 (Z : State) (a : Addr) (cs : Int32) (fv : Value) (h0 : Heap) (n0 : Nat) : Option Value → Heap → Prop := fun v h => v = some (.int 0) ∧ h0 = h
theorem rm9_0 (l : Launch) (Z : State) (a0 : Array Value) (hw : HW Z a0) (a : Addr) (cs : Int32) (fv : Value) (h0 : Heap) (n0 : Nat) (Z0 : n0 ≤ h0.size) (F1 : Fld Z h0 a "java/lang/String" "coder" "B" (.int 0)) (B : Sts Z cs fv) (O : Old Z n0 h0) : Ctr l Z (⟨"java/lang/String", "coder", "()B"⟩ : MethodName) jdk_42_method_152_code 1 (some .byte) ({ frames := 0, cells := 0, slots := 0, locals := 0 } : Room) #[(.ref a)] h0 n0 (Q9_0 Z a cs fv h0 n0) := by
 refine Ctr.of (plainFor_of_name pn_13) (ef_9_0 a) ?_
 intro p e s m below meth c T0 hx hby hml hown hnm hret hlk hZ X0 e0
 have N0 := Fr.nil n0
 obtain ⟨T75, X75, e75, st75⟩ := getS2 X0 hx hZ hown (host := "") (Or.inl (wd hw 14 rfl)) Via.refl e0 (Sta.ext O.2 B.1) (g := (mkF m 0 #[vR a] [])) rfl (hb hby d9_0)
 refine Go.movp st75 (mkF m 3 #[vR a] [(.int cs)]) rfl ?_
 refine g_if_eq X75 hx (hb hby d9_3) (pc1 := 6) rfl (by decide) (pc2 := 13) (by decide) (fun hc3 => absurd hc3 B.2.1) (fun hc3 => ?_)
 refine g_aloadN X75 hx (hb hby d9_6) (pc' := 7) rfl rfl rfl ?_
 obtain ⟨T76, X76, e76, st76⟩ := getF X75 hx hZ hown (host := "") (Or.inl (wd hw 26 rfl)) Via.refl e75 F1 (g := (mkF m 7 #[vR a] [(.ref a)])) rfl rfl (hb hby d9_7)
 refine Go.movp st76 (mkF m 10 #[vR a] [(.int 0)]) rfl ?_
 refine g_goto X76 hx (hb hby d9_10) (by decide) (pc' := 14) (by decide) ?_
 exact g_breturn X76 hx rfl hret (hb hby d9_14) N0 hlk (fun v t => endF (by decide) (by decide) v) (by rw [e76]; exact ⟨rfl, rfl⟩)
theorem d11_17 : decode jdk_42_method_154_code 17 = .ok (.iconst 0, 1) := by decide +kernel
theorem ef_11_1 (x0 : Addr) (m : MethodId) : entryFrame m #[(.ref x0)] 1 = mkF m 0 #[.val (.ref x0)] [] := by first | (simp [entryFrame, mkF, argsToLocals, Value.category]; done) | rfl
def Q11_1 (Z : State) (a : Addr) (cs : Int32) (fv : Value) (h0 : Heap) (n0 : Nat) : Option Value → Heap → Prop := fun v h => v = some (.int 0) ∧ h0 = h
theorem rm11_1 (l : Launch) (Z : State) (a0 : Array Value) (hw : HW Z a0) (a : Addr) (cs : Int32) (fv : Value) (h0 : Heap) (n0 : Nat) (Z0 : n0 ≤ h0.size) (F1 : Fld Z h0 a "java/lang/String" "coder" "B" (.int 1)) (B : Sts Z cs fv) (O : Old Z n0 h0) : Ctr l Z (⟨"java/lang/String", "isLatin1", "()Z"⟩ : MethodName) jdk_42_method_154_code 1 (some .boolean) ({ frames := 0, cells := 0, slots := 0, locals := 0 } : Room) #[(.ref a)] h0 n0 (Q11_1 Z a cs fv h0 n0) := by
 refine Ctr.of (plainFor_of_name pn_13) (ef_11_1 a) ?_
 intro p e s m below meth c T0 hx hby hml hown hnm hret hlk hZ X0 e0
 have N0 := Fr.nil n0
 obtain ⟨T77, X77, e77, st77⟩ := getS2 X0 hx hZ hown (host := "") (Or.inl (wd hw 14 rfl)) Via.refl e0 (Sta.ext O.2 B.1) (g := (mkF m 0 #[vR a] [])) rfl (hb hby d11_0)
 refine Go.movp st77 (mkF m 3 #[vR a] [(.int cs)]) rfl ?_
 refine g_if_eq X77 hx (hb hby d11_3) (pc1 := 6) rfl (by decide) (pc2 := 17) (by decide) (fun hc3 => absurd hc3 B.2.1) (fun hc3 => ?_)
 refine g_aloadN X77 hx (hb hby d11_6) (pc' := 7) rfl rfl rfl ?_
 obtain ⟨T78, X78, e78, st78⟩ := getF X77 hx hZ hown (host := "") (Or.inl (wd hw 26 rfl)) Via.refl e77 F1 (g := (mkF m 7 #[vR a] [(.ref a)])) rfl rfl (hb hby d11_7)
 refine Go.movp st78 (mkF m 10 #[vR a] [(.int 1)]) rfl ?_
 refine g_if_ne X78 hx (hb hby d11_10) (pc1 := 13) rfl (by decide) (pc2 := 17) (by decide) (fun hc10 => ?_) (fun hc10 => absurd hc10 (by decide))
 refine g_iconst X78 hx (hb hby d11_17) (pc' := 18) rfl (z := 0) rfl ?_
 exact g_zreturn X78 hx rfl hret (hb hby d11_18) N0 hlk (fun v t => endF (by decide) (by decide) v) (by rw [e78]; exact ⟨rfl, rfl⟩)
theorem ef_9_1 (x0 : Addr) (m : MethodId) : entryFrame m #[(.ref x0)] 1 = mkF m 0 #[.val (.ref x0)] [] := by first | (simp [entryFrame, mkF, argsToLocals, Value.category]; done) | rfl
def Q9_1 (Z : State) (a : Addr) (cs : Int32) (fv : Value) (h0 : Heap) (n0 : Nat) : Option Value → Heap → Prop := fun v h => v = some (.int 1) ∧ h0 = h
theorem rm9_1 (l : Launch) (Z : State) (a0 : Array Value) (hw : HW Z a0) (a : Addr) (cs : Int32) (fv : Value) (h0 : Heap) (n0 : Nat) (Z0 : n0 ≤ h0.size) (F1 : Fld Z h0 a "java/lang/String" "coder" "B" (.int 1)) (B : Sts Z cs fv) (O : Old Z n0 h0) : Ctr l Z (⟨"java/lang/String", "coder", "()B"⟩ : MethodName) jdk_42_method_152_code 1 (some .byte) ({ frames := 0, cells := 0, slots := 0, locals := 0 } : Room) #[(.ref a)] h0 n0 (Q9_1 Z a cs fv h0 n0) := by
 refine Ctr.of (plainFor_of_name pn_13) (ef_9_1 a) ?_
 intro p e s m below meth c T0 hx hby hml hown hnm hret hlk hZ X0 e0
 have N0 := Fr.nil n0
 obtain ⟨T79, X79, e79, st79⟩ := getS2 X0 hx hZ hown (host := "") (Or.inl (wd hw 14 rfl)) Via.refl e0 (Sta.ext O.2 B.1) (g := (mkF m 0 #[vR a] [])) rfl (hb hby d9_0)
 refine Go.movp st79 (mkF m 3 #[vR a] [(.int cs)]) rfl ?_
 refine g_if_eq X79 hx (hb hby d9_3) (pc1 := 6) rfl (by decide) (pc2 := 13) (by decide) (fun hc3 => absurd hc3 B.2.1) (fun hc3 => ?_)
 refine g_aloadN X79 hx (hb hby d9_6) (pc' := 7) rfl rfl rfl ?_
 obtain ⟨T80, X80, e80, st80⟩ := getF X79 hx hZ hown (host := "") (Or.inl (wd hw 26 rfl)) Via.refl e79 F1 (g := (mkF m 7 #[vR a] [(.ref a)])) rfl rfl (hb hby d9_7)
 refine Go.movp st80 (mkF m 10 #[vR a] [(.int 1)]) rfl ?_
 refine g_goto X80 hx (hb hby d9_10) (by decide) (pc' := 14) (by decide) ?_
 exact g_breturn X80 hx rfl hret (hb hby d9_14) N0 hlk (fun v t => endF (by decide) (by decide) v) (by rw [e80]; exact ⟨rfl, rfl⟩)
theorem pd___B : parseMethodDescriptor "()B" = some ⟨[], some .byte⟩ := by decide +kernel
theorem d8_0 : decode jdk_42_method_54_code 0 = .ok (.aload_n 0, 1) := by decide +kernel
theorem d8_1 : decode jdk_42_method_54_code 1 = .ok (.getfield 9, 3) := by decide +kernel
theorem d8_4 : decode jdk_42_method_54_code 4 = .ok (.arraylength, 1) := by decide +kernel
theorem d8_5 : decode jdk_42_method_54_code 5 = .ok (.aload_n 0, 1) := by decide +kernel
theorem d8_6 : decode jdk_42_method_54_code 6 = .ok (.invokevirtual 335, 3) := by decide +kernel
theorem d8_9 : decode jdk_42_method_54_code 9 = .ok (.ishr, 1) := by decide +kernel
theorem d8_10 : decode jdk_42_method_54_code 10 = .ok (.ireturn, 1) := by decide +kernel
theorem ef_8_0 (x0 : Addr) (m : MethodId) : entryFrame m #[(.ref x0)] 1 = mkF m 0 #[.val (.ref x0)] [] := by first | (simp [entryFrame, mkF, argsToLocals, Value.category]; done) | rfl
def Q8_0 (Z : State) (a : Addr) (b : Addr) (cs : Int32) (fv : Value) (h0 : Heap) (n0 : Nat) : Option Value → Heap → Prop := fun v h => v = some (.int 0) ∧ h0 = h
theorem rm8_0 (l : Launch) (Z : State) (a0 : Array Value) (hw : HW Z a0) (a : Addr) (b : Addr) (cs : Int32) (fv : Value) (h0 : Heap) (n0 : Nat) (Z0 : n0 ≤ h0.size) (HS : Str Z h0 a b []) (B : Sts Z cs fv) (O : Old Z n0 h0) : Ctr l Z (⟨"java/lang/String", "length", "()I"⟩ : MethodName) jdk_42_method_54_code 1 (some .int) ({ frames := 1, cells := 0, slots := 0, locals := 13 } : Room) #[(.ref a)] h0 n0 (Q8_0 Z a b cs fv h0 n0) := by
 refine Ctr.of (plainFor_of_name pn_13) (ef_8_0 a) ?_
 intro p e s m below meth c T0 hx hby hml hown hnm hret hlk hZ X0 e0
 have N0 := Fr.nil n0
 rcases HS with ⟨F1, F2, E1, V1, C1⟩ | ⟨F1, F2, E1, V1⟩
 ·
  have V2 : Va Z h0 b .byte [] := V1
  refine g_aloadN X0 hx (hb hby d8_0) (pc' := 1) rfl rfl rfl ?_
  obtain ⟨T81, X81, e81, st81⟩ := getF X0 hx hZ hown (host := "") (Or.inl (wd hw 28 rfl)) Via.refl e0 F2 (g := (mkF m 1 #[vR a] [(.ref a)])) rfl rfl (hb hby d8_1)
  refine Go.movp st81 (mkF m 4 #[vR a] [(.ref b)]) rfl ?_
  refine g_arraylength X81 hx hZ e81 V2 (z := 0) (hb hby d8_4) (pc' := 5) rfl rfl ?_
  refine g_aloadN X81 hx (hb hby d8_5) (pc' := 6) rfl rfl rfl ?_
  obtain ⟨v82, T82, h82, L82, X82, e82, N82, q82, st82⟩ := h_virtual (a := a) (z := (⟨"java/lang/String", "coder", "()B"⟩ : MethodName)) X81 hx (W := 1) (Ls := #[vR a]) (argsL := []) (rest := [(.int 0)]) hZ e81 N0 hml hown (rm9_0 l Z a0 hw a cs fv h0 n0 Z0 F1 B O) E1 (wd hw 50 rfl) (wd hw 51 rfl) (notFace_of_selects (args := #[]) (mvT hZ (wd hw 53 rfl))) (wd hw 53 rfl) (wd hw 52 rfl) (wd hw 2 rfl) (wd hw 54 rfl) (by decide) pd___B rfl rfl (hb hby d8_6) rfl (by decide) (by decide) (by decide) (by decide)
  obtain ⟨rfl, rfl⟩ := q82
  refine Go.movp st82 (mkF m 9 #[vR a] [(.int 0), (.int 0)]) rfl ?_
  refine g_ishr X82 hx (hb hby d8_9) (pc' := 10) rfl ?_
  refine Go.cast (show (mkF m 10 #[vR a] [(.int (shr (0 : Int32) (0 : Int32)))]) = (mkF m 10 #[vR a] [(.int 0)]) from by rw [show (shr (0 : Int32) (0 : Int32)) = (0 : Int32) from (by decide)]) ?_
  exact g_ireturn X82 hx hret (hb hby d8_10) N82 hlk (fun v t => endF (by decide) (by decide) v) (by rw [e82]; exact ⟨rfl, rfl⟩)
 ·
  have V2 : Va Z h0 b .byte [] := V1
  refine g_aloadN X0 hx (hb hby d8_0) (pc' := 1) rfl rfl rfl ?_
  obtain ⟨T83, X83, e83, st83⟩ := getF X0 hx hZ hown (host := "") (Or.inl (wd hw 28 rfl)) Via.refl e0 F2 (g := (mkF m 1 #[vR a] [(.ref a)])) rfl rfl (hb hby d8_1)
  refine Go.movp st83 (mkF m 4 #[vR a] [(.ref b)]) rfl ?_
  refine g_arraylength X83 hx hZ e83 V2 (z := 0) (hb hby d8_4) (pc' := 5) rfl rfl ?_
  refine g_aloadN X83 hx (hb hby d8_5) (pc' := 6) rfl rfl rfl ?_
  obtain ⟨v84, T84, h84, L84, X84, e84, N84, q84, st84⟩ := h_virtual (a := a) (z := (⟨"java/lang/String", "coder", "()B"⟩ : MethodName)) X83 hx (W := 1) (Ls := #[vR a]) (argsL := []) (rest := [(.int 0)]) hZ e83 N0 hml hown (rm9_1 l Z a0 hw a cs fv h0 n0 Z0 F1 B O) E1 (wd hw 50 rfl) (wd hw 51 rfl) (notFace_of_selects (args := #[]) (mvT hZ (wd hw 53 rfl))) (wd hw 53 rfl) (wd hw 52 rfl) (wd hw 2 rfl) (wd hw 54 rfl) (by decide) pd___B rfl rfl (hb hby d8_6) rfl (by decide) (by decide) (by decide) (by decide)
  obtain ⟨rfl, rfl⟩ := q84
  refine Go.movp st84 (mkF m 9 #[vR a] [(.int 1), (.int 0)]) rfl ?_
  refine g_ishr X84 hx (hb hby d8_9) (pc' := 10) rfl ?_
  refine Go.cast (show (mkF m 10 #[vR a] [(.int (shr (0 : Int32) (1 : Int32)))]) = (mkF m 10 #[vR a] [(.int 0)]) from by rw [show (shr (0 : Int32) (1 : Int32)) = (0 : Int32) from (by decide)]) ?_
  exact g_ireturn X84 hx hret (hb hby d8_10) N84 hlk (fun v t => endF (by decide) (by decide) v) (by rw [e84]; exact ⟨rfl, rfl⟩)
theorem ef_8_1 (x0 : Addr) (m : MethodId) : entryFrame m #[(.ref x0)] 1 = mkF m 0 #[.val (.ref x0)] [] := by first | (simp [entryFrame, mkF, argsToLocals, Value.category]; done) | rfl
def Q8_1 (Z : State) (a : Addr) (b : Addr) (c0 : Int32) (cs : Int32) (fv : Value) (h0 : Heap) (n0 : Nat) : Option Value → Heap → Prop := fun v h => v = some (.int 1) ∧ h0 = h
theorem rm8_1 (l : Launch) (Z : State) (a0 : Array Value) (hw : HW Z a0) (a : Addr) (b : Addr) (c0 : Int32) (cs : Int32) (fv : Value) (h0 : Heap) (n0 : Nat) (Z0 : n0 ≤ h0.size) (HS : Str Z h0 a b [c0]) (B : Sts Z cs fv) (O : Old Z n0 h0) : Ctr l Z (⟨"java/lang/String", "length", "()I"⟩ : MethodName) jdk_42_method_54_code 1 (some .int) ({ frames := 1, cells := 0, slots := 0, locals := 13 } : Room) #[(.ref a)] h0 n0 (Q8_1 Z a b c0 cs fv h0 n0) := by
 refine Ctr.of (plainFor_of_name pn_13) (ef_8_1 a) ?_
 intro p e s m below meth c T0 hx hby hml hown hnm hret hlk hZ X0 e0
 have N0 := Fr.nil n0
 rcases HS with ⟨F1, F2, E1, V1, C1⟩ | ⟨F1, F2, E1, V1⟩
 ·
  have V2 : Va Z h0 b .byte [(.int (byt c0))] := V1
  refine g_aloadN X0 hx (hb hby d8_0) (pc' := 1) rfl rfl rfl ?_
  obtain ⟨T85, X85, e85, st85⟩ := getF X0 hx hZ hown (host := "") (Or.inl (wd hw 28 rfl)) Via.refl e0 F2 (g := (mkF m 1 #[vR a] [(.ref a)])) rfl rfl (hb hby d8_1)
  refine Go.movp st85 (mkF m 4 #[vR a] [(.ref b)]) rfl ?_
  refine g_arraylength X85 hx hZ e85 V2 (z := 1) (hb hby d8_4) (pc' := 5) rfl rfl ?_
  refine g_aloadN X85 hx (hb hby d8_5) (pc' := 6) rfl rfl rfl ?_
  obtain ⟨v86, T86, h86, L86, X86, e86, N86, q86, st86⟩ := h_virtual (a := a) (z := (⟨"java/lang/String", "coder", "()B"⟩ : MethodName)) X85 hx (W := 1) (Ls := #[vR a]) (argsL := []) (rest := [(.int 1)]) hZ e85 N0 hml hown (rm9_0 l Z a0 hw a cs fv h0 n0 Z0 F1 B O) E1 (wd hw 50 rfl) (wd hw 51 rfl) (notFace_of_selects (args := #[]) (mvT hZ (wd hw 53 rfl))) (wd hw 53 rfl) (wd hw 52 rfl) (wd hw 2 rfl) (wd hw 54 rfl) (by decide) pd___B rfl rfl (hb hby d8_6) rfl (by decide) (by decide) (by decide) (by decide)
  obtain ⟨rfl, rfl⟩ := q86
  refine Go.movp st86 (mkF m 9 #[vR a] [(.int 0), (.int 1)]) rfl ?_
  refine g_ishr X86 hx (hb hby d8_9) (pc' := 10) rfl ?_
  refine Go.cast (show (mkF m 10 #[vR a] [(.int (shr (1 : Int32) (0 : Int32)))]) = (mkF m 10 #[vR a] [(.int 1)]) from by rw [show (shr (1 : Int32) (0 : Int32)) = (1 : Int32) from (by decide)]) ?_
  exact g_ireturn X86 hx hret (hb hby d8_10) N86 hlk (fun v t => endF (by decide) (by decide) v) (by rw [e86]; exact ⟨rfl, rfl⟩)
 ·
  have V2 : Va Z h0 b .byte [(.int (byt (shr c0 (0 : Int32)))), (.int (byt (shr c0 (8 : Int32))))] := V1
  refine g_aloadN X0 hx (hb hby d8_0) (pc' := 1) rfl rfl rfl ?_
  obtain ⟨T87, X87, e87, st87⟩ := getF X0 hx hZ hown (host := "") (Or.inl (wd hw 28 rfl)) Via.refl e0 F2 (g := (mkF m 1 #[vR a] [(.ref a)])) rfl rfl (hb hby d8_1)
  refine Go.movp st87 (mkF m 4 #[vR a] [(.ref b)]) rfl ?_
  refine g_arraylength X87 hx hZ e87 V2 (z := 2) (hb hby d8_4) (pc' := 5) rfl rfl ?_
  refine g_aloadN X87 hx (hb hby d8_5) (pc' := 6) rfl rfl rfl ?_
  obtain ⟨v88, T88, h88, L88, X88, e88, N88, q88, st88⟩ := h_virtual (a := a) (z := (⟨"java/lang/String", "coder", "()B"⟩ : MethodName)) X87 hx (W := 1) (Ls := #[vR a]) (argsL := []) (rest := [(.int 2)]) hZ e87 N0 hml hown (rm9_1 l Z a0 hw a cs fv h0 n0 Z0 F1 B O) E1 (wd hw 50 rfl) (wd hw 51 rfl) (notFace_of_selects (args := #[]) (mvT hZ (wd hw 53 rfl))) (wd hw 53 rfl) (wd hw 52 rfl) (wd hw 2 rfl) (wd hw 54 rfl) (by decide) pd___B rfl rfl (hb hby d8_6) rfl (by decide) (by decide) (by decide) (by decide)
  obtain ⟨rfl, rfl⟩ := q88
  refine Go.movp st88 (mkF m 9 #[vR a] [(.int 1), (.int 2)]) rfl ?_
  refine g_ishr X88 hx (hb hby d8_9) (pc' := 10) rfl ?_
  refine Go.cast (show (mkF m 10 #[vR a] [(.int (shr (2 : Int32) (1 : Int32)))]) = (mkF m 10 #[vR a] [(.int 1)]) from by rw [show (shr (2 : Int32) (1 : Int32)) = (1 : Int32) from (by decide)]) ?_
  exact g_ireturn X88 hx hret (hb hby d8_10) N88 hlk (fun v t => endF (by decide) (by decide) v) (by rw [e88]; exact ⟨rfl, rfl⟩)
theorem pd___Z : parseMethodDescriptor "()Z" = some ⟨[], some .boolean⟩ := by decide +kernel
theorem d10_0 : decode jdk_42_method_56_code 0 = .ok (.aload_n 0, 1) := by decide +kernel
theorem d10_1 : decode jdk_42_method_56_code 1 = .ok (.invokevirtual 492, 3) := by decide +kernel
theorem d10_4 : decode jdk_42_method_56_code 4 = .ok (.ifCond .eq 12, 3) := by decide +kernel
theorem d10_7 : decode jdk_42_method_56_code 7 = .ok (.aload_n 0, 1) := by decide +kernel
theorem d10_8 : decode jdk_42_method_56_code 8 = .ok (.getfield 9, 3) := by decide +kernel
theorem d10_11 : decode jdk_42_method_56_code 11 = .ok (.iload_n 1, 1) := by decide +kernel
theorem d10_12 : decode jdk_42_method_56_code 12 = .ok (.invokestatic 495, 3) := by decide +kernel
theorem d10_15 : decode jdk_42_method_56_code 15 = .ok (.ireturn, 1) := by decide +kernel
theorem d10_16 : decode jdk_42_method_56_code 16 = .ok (.aload_n 0, 1) := by decide +kernel
theorem d10_17 : decode jdk_42_method_56_code 17 = .ok (.getfield 9, 3) := by decide +kernel
theorem d10_20 : decode jdk_42_method_56_code 20 = .ok (.iload_n 1, 1) := by decide +kernel
theorem d10_21 : decode jdk_42_method_56_code 21 = .ok (.invokestatic 498, 3) := by decide +kernel
theorem d10_24 : decode jdk_42_method_56_code 24 = .ok (.ireturn, 1) := by decide +kernel
theorem ef_10_1_0 (x0 : Addr) (x1 : Int32) (m : MethodId) : entryFrame m #[(.ref x0), (.int x1)] 2 = mkF m 0 #[.val (.ref x0), .val (.int x1)] [] := by first | (simp [entryFrame, mkF, argsToLocals, Value.category]; done) | rfl
def Q10_1_0 (Z : State) (a : Addr) (b : Addr) (c0 : Int32) (cs : Int32) (fv : Value) (h0 : Heap) (n0 : Nat) : Option Value → Heap → Prop := fun v h => v = some (.int c0) ∧ h0 = h
theorem rm10_1_0 (l : Launch) (Z : State) (a0 : Array Value) (hw : HW Z a0) (a : Addr) (b : Addr) (c0 : Int32) (cs : Int32) (fv : Value) (h0 : Heap) (n0 : Nat) (Z0 : n0 ≤ h0.size) (HS : Str Z h0 a b [c0]) (B : Sts Z cs fv) (O : Old Z n0 h0) (hc : chr c0 = c0) : Ctr l Z (⟨"java/lang/String", "charAt", "(I)C"⟩ : MethodName) jdk_42_method_56_code 2 (some .char) ({ frames := 4, cells := 0, slots := 0, locals := 53 } : Room) #[(.ref a), (.int 0)] h0 n0 (Q10_1_0 Z a b c0 cs fv h0 n0) := by
 refine Ctr.of (plainFor_of_name pn_13) (ef_10_1_0 a (0 : Int32)) ?_
 intro p e s m below meth c T0 hx hby hml hown hnm hret hlk hZ X0 e0
 have N0 := Fr.nil n0
 rcases HS with ⟨F1, F2, E1, V1, C1⟩ | ⟨F1, F2, E1, V1⟩
 ·
  have V2 : Va Z h0 b .byte [(.int (byt c0))] := V1
  refine g_aloadN X0 hx (hb hby d10_0) (pc' := 1) rfl rfl rfl ?_
  obtain ⟨v89, T89, h89, L89, X89, e89, N89, q89, st89⟩ := h_virtual (a := a) (z := (⟨"java/lang/String", "isLatin1", "()Z"⟩ : MethodName)) X0 hx (W := 0) (Ls := #[vR a, vI 0]) (argsL := []) (rest := []) hZ e0 N0 hml hown (rm11_0 l Z a0 hw a cs fv h0 n0 Z0 F1 B O) E1 (wd hw 63 rfl) (wd hw 64 rfl) (notFace_of_selects (args := #[]) (mvT hZ (wd hw 66 rfl))) (wd hw 66 rfl) (wd hw 65 rfl) (wd hw 2 rfl) (wd hw 67 rfl) (by decide) pd___Z rfl rfl (hb hby d10_1) rfl (by decide) (by decide) (by decide) (by decide)
  obtain ⟨rfl, rfl⟩ := q89
  refine Go.movp st89 (mkF m 4 #[vR a, vI 0] [(.int 1)]) rfl ?_
  refine g_if_eq X89 hx (hb hby d10_4) (pc1 := 7) rfl (by decide) (pc2 := 16) (by decide) (fun hc4 => absurd hc4 (by decide)) (fun hc4 => ?_)
  refine g_aloadN X89 hx (hb hby d10_7) (pc' := 8) rfl rfl rfl ?_
  obtain ⟨T90, X90, e90, st90⟩ := getF X89 hx hZ hown (host := "") (Or.inl (wd hw 28 rfl)) Via.refl e89 F2 (g := (mkF m 8 #[vR a, vI 0] [(.ref a)])) rfl rfl (hb hby d10_8)
  refine Go.movp st90 (mkF m 11 #[vR a, vI 0] [(.ref b)]) rfl ?_
  refine g_iloadN X90 hx (hb hby d10_11) (pc' := 12) rfl rfl ?_
  obtain ⟨v91, T91, h91, L91, X91, e91, N91, q91, st91⟩ := h_static X90 hx (W := 0) (Ls := #[vR a, vI 0]) (argsL := [(.ref b), (.int 0)]) (rest := []) hZ e90 N89 hml hown (rm12_1_0 l Z a0 hw b c0 cs fv h0 n0 Z0 V2 B O hc (C1 _ (List.mem_of_getElem? (i := 0) rfl))) (wd hw 68 rfl) (wd hw 69 rfl) (wd hw 70 rfl) (wd hw 71 rfl) (by decide) pd___BI_C rfl rfl (hb hby d10_12) rfl (by decide) (by decide) (by decide) (by decide)
  obtain ⟨rfl, rfl⟩ := q91
  refine Go.movp st91 (mkF m 15 #[vR a, vI 0] [(.int c0)]) rfl ?_
  exact g_creturn X91 hx (by rw [← hc]; exact narrow_chr _) hret (hb hby d10_15) N91 hlk (fun v t => endF (by decide) (by decide) v) (by rw [e91]; exact ⟨rfl, rfl⟩)
 ·
  have V2 : Va Z h0 b .byte [(.int (byt (shr c0 (0 : Int32)))), (.int (byt (shr c0 (8 : Int32))))] := V1
  refine g_aloadN X0 hx (hb hby d10_0) (pc' := 1) rfl rfl rfl ?_
  obtain ⟨v92, T92, h92, L92, X92, e92, N92, q92, st92⟩ := h_virtual (a := a) (z := (⟨"java/lang/String", "isLatin1", "()Z"⟩ : MethodName)) X0 hx (W := 0) (Ls := #[vR a, vI 0]) (argsL := []) (rest := []) hZ e0 N0 hml hown (rm11_1 l Z a0 hw a cs fv h0 n0 Z0 F1 B O) E1 (wd hw 63 rfl) (wd hw 64 rfl) (notFace_of_selects (args := #[]) (mvT hZ (wd hw 66 rfl))) (wd hw 66 rfl) (wd hw 65 rfl) (wd hw 2 rfl) (wd hw 67 rfl) (by decide) pd___Z rfl rfl (hb hby d10_1) rfl (by decide) (by decide) (by decide) (by decide)
  obtain ⟨rfl, rfl⟩ := q92
  refine Go.movp st92 (mkF m 4 #[vR a, vI 0] [(.int 0)]) rfl ?_
  refine g_if_eq X92 hx (hb hby d10_4) (pc1 := 7) rfl (by decide) (pc2 := 16) (by decide) (fun hc4 => ?_) (fun hc4 => absurd (by decide) hc4)
  refine g_aloadN X92 hx (hb hby d10_16) (pc' := 17) rfl rfl rfl ?_
  obtain ⟨T93, X93, e93, st93⟩ := getF X92 hx hZ hown (host := "") (Or.inl (wd hw 28 rfl)) Via.refl e92 F2 (g := (mkF m 17 #[vR a, vI 0] [(.ref a)])) rfl rfl (hb hby d10_17)
  refine Go.movp st93 (mkF m 20 #[vR a, vI 0] [(.ref b)]) rfl ?_
  refine g_iloadN X93 hx (hb hby d10_20) (pc' := 21) rfl rfl ?_
  obtain ⟨v94, T94, h94, L94, X94, e94, N94, q94, st94⟩ := h_static X93 hx (W := 0) (Ls := #[vR a, vI 0]) (argsL := [(.ref b), (.int 0)]) (rest := []) hZ e93 N92 hml hown (rm22_1_0 l Z a0 hw b c0 cs fv h0 n0 Z0 V2 B O hc) (wd hw 114 rfl) (wd hw 115 rfl) (wd hw 17 rfl) (wd hw 116 rfl) (by decide) pd___BI_C rfl rfl (hb hby d10_21) rfl (by decide) (by decide) (by decide) (by decide)
  obtain ⟨rfl, rfl⟩ := q94
  refine Go.movp st94 (mkF m 24 #[vR a, vI 0] [(.int c0)]) rfl ?_
  exact g_creturn X94 hx (by rw [← hc]; exact narrow_chr _) hret (hb hby d10_24) N94 hlk (fun v t => endF (by decide) (by decide) v) (by rw [e94]; exact ⟨rfl, rfl⟩)
theorem ef_8_2 (x0 : Addr) (m : MethodId) : entryFrame m #[(.ref x0)] 1 = mkF m 0 #[.val (.ref x0)] [] := by first | (simp [entryFrame, mkF, argsToLocals, Value.category]; done) | rfl
def Q8_2 (Z : State) (a : Addr) (b : Addr) (c0 : Int32) (c1 : Int32) (cs : Int32) (fv : Value) (h0 : Heap) (n0 : Nat) : Option Value → Heap → Prop := fun v h => v = some (.int 2) ∧ h0 = h
theorem rm8_2 (l : Launch) (Z : State) (a0 : Array Value) (hw : HW Z a0) (a : Addr) (b : Addr) (c0 : Int32) (c1 : Int32) (cs : Int32) (fv : Value) (h0 : Heap) (n0 : Nat) (Z0 : n0 ≤ h0.size) (HS : Str Z h0 a b [c0, c1]) (B : Sts Z cs fv) (O : Old Z n0 h0) : Ctr l Z (⟨"java/lang/String", "length", "()I"⟩ : MethodName) jdk_42_method_54_code 1 (some .int) ({ frames := 1, cells := 0, slots := 0, locals := 13 } : Room) #[(.ref a)] h0 n0 (Q8_2 Z a b c0 c1 cs fv h0 n0) := by
 refine Ctr.of (plainFor_of_name pn_13) (ef_8_2 a) ?_
 intro p e s m below meth c T0 hx hby hml hown hnm hret hlk hZ X0 e0
 have N0 := Fr.nil n0
 rcases HS with ⟨F1, F2, E1, V1, C1⟩ | ⟨F1, F2, E1, V1⟩
 ·
  have V2 : Va Z h0 b .byte [(.int (byt c0)), (.int (byt c1))] := V1
  refine g_aloadN X0 hx (hb hby d8_0) (pc' := 1) rfl rfl rfl ?_
  obtain ⟨T95, X95, e95, st95⟩ := getF X0 hx hZ hown (host := "") (Or.inl (wd hw 28 rfl)) Via.refl e0 F2 (g := (mkF m 1 #[vR a] [(.ref a)])) rfl rfl (hb hby d8_1)
  refine Go.movp st95 (mkF m 4 #[vR a] [(.ref b)]) rfl ?_
  refine g_arraylength X95 hx hZ e95 V2 (z := 2) (hb hby d8_4) (pc' := 5) rfl rfl ?_
  refine g_aloadN X95 hx (hb hby d8_5) (pc' := 6) rfl rfl rfl ?_
  obtain ⟨v96, T96, h96, L96, X96, e96, N96, q96, st96⟩ := h_virtual (a := a) (z := (⟨"java/lang/String", "coder", "()B"⟩ : MethodName)) X95 hx (W := 1) (Ls := #[vR a]) (argsL := []) (rest := [(.int 2)]) hZ e95 N0 hml hown (rm9_0 l Z a0 hw a cs fv h0 n0 Z0 F1 B O) E1 (wd hw 50 rfl) (wd hw 51 rfl) (notFace_of_selects (args := #[]) (mvT hZ (wd hw 53 rfl))) (wd hw 53 rfl) (wd hw 52 rfl) (wd hw 2 rfl) (wd hw 54 rfl) (by decide) pd___B rfl rfl (hb hby d8_6) rfl (by decide) (by decide) (by decide) (by decide)
  obtain ⟨rfl, rfl⟩ := q96
  refine Go.movp st96 (mkF m 9 #[vR a] [(.int 0), (.int 2)]) rfl ?_
  refine g_ishr X96 hx (hb hby d8_9) (pc' := 10) rfl ?_
  refine Go.cast (show (mkF m 10 #[vR a] [(.int (shr (2 : Int32) (0 : Int32)))]) = (mkF m 10 #[vR a] [(.int 2)]) from by rw [show (shr (2 : Int32) (0 : Int32)) = (2 : Int32) from (by decide)]) ?_
  exact g_ireturn X96 hx hret (hb hby d8_10) N96 hlk (fun v t => endF (by decide) (by decide) v) (by rw [e96]; exact ⟨rfl, rfl⟩)
 ·
  have V2 : Va Z h0 b .byte [(.int (byt (shr c0 (0 : Int32)))), (.int (byt (shr c0 (8 : Int32)))), (.int (byt (shr c1 (0 : Int32)))), (.int (byt (shr c1 (8 : Int32))))] := V1
  refine g_aloadN X0 hx (hb hby d8_0) (pc' := 1) rfl rfl rfl ?_
  obtain ⟨T97, X97, e97, st97⟩ := getF X0 hx hZ hown (host := "") (Or.inl (wd hw 28 rfl)) Via.refl e0 F2 (g := (mkF m 1 #[vR a] [(.ref a)])) rfl rfl (hb hby d8_1)
  refine Go.movp st97 (mkF m 4 #[vR a] [(.ref b)]) rfl ?_
  refine g_arraylength X97 hx hZ e97 V2 (z := 4) (hb hby d8_4) (pc' := 5) rfl rfl ?_
  refine g_aloadN X97 hx (hb hby d8_5) (pc' := 6) rfl rfl rfl ?_
  obtain ⟨v98, T98, h98, L98, X98, e98, N98, q98, st98⟩ := h_virtual (a := a) (z := (⟨"java/lang/String", "coder", "()B"⟩ : MethodName)) X97 hx (W := 1) (Ls := #[vR a]) (argsL := []) (rest := [(.int 4)]) hZ e97 N0 hml hown (rm9_1 l Z a0 hw a cs fv h0 n0 Z0 F1 B O) E1 (wd hw 50 rfl) (wd hw 51 rfl) (notFace_of_selects (args := #[]) (mvT hZ (wd hw 53 rfl))) (wd hw 53 rfl) (wd hw 52 rfl) (wd hw 2 rfl) (wd hw 54 rfl) (by decide) pd___B rfl rfl (hb hby d8_6) rfl (by decide) (by decide) (by decide) (by decide)
  obtain ⟨rfl, rfl⟩ := q98
  refine Go.movp st98 (mkF m 9 #[vR a] [(.int 1), (.int 4)]) rfl ?_
  refine g_ishr X98 hx (hb hby d8_9) (pc' := 10) rfl ?_
  refine Go.cast (show (mkF m 10 #[vR a] [(.int (shr (4 : Int32) (1 : Int32)))]) = (mkF m 10 #[vR a] [(.int 2)]) from by rw [show (shr (4 : Int32) (1 : Int32)) = (2 : Int32) from (by decide)]) ?_
  exact g_ireturn X98 hx hret (hb hby d8_10) N98 hlk (fun v t => endF (by decide) (by decide) v) (by rw [e98]; exact ⟨rfl, rfl⟩)
theorem ef_10_2_0 (x0 : Addr) (x1 : Int32) (m : MethodId) : entryFrame m #[(.ref x0), (.int x1)] 2 = mkF m 0 #[.val (.ref x0), .val (.int x1)] [] := by first | (simp [entryFrame, mkF, argsToLocals, Value.category]; done) | rfl
def Q10_2_0 (Z : State) (a : Addr) (b : Addr) (c0 : Int32) (c1 : Int32) (cs : Int32) (fv : Value) (h0 : Heap) (n0 : Nat) : Option Value → Heap → Prop := fun v h => v = some (.int c0) ∧ h0 = h
theorem rm10_2_0 (l : Launch) (Z : State) (a0 : Array Value) (hw : HW Z a0) (a : Addr) (b : Addr) (c0 : Int32) (c1 : Int32) (cs : Int32) (fv : Value) (h0 : Heap) (n0 : Nat) (Z0 : n0 ≤ h0.size) (HS : Str Z h0 a b [c0, c1]) (B : Sts Z cs fv) (O : Old Z n0 h0) (hc : chr c0 = c0) : Ctr l Z (⟨"java/lang/String", "charAt", "(I)C"⟩ : MethodName) jdk_42_method_56_code 2 (some .char) ({ frames := 4, cells := 0, slots := 0, locals := 53 } : Room) #[(.ref a), (.int 0)] h0 n0 (Q10_2_0 Z a b c0 c1 cs fv h0 n0) := by
 refine Ctr.of (plainFor_of_name pn_13) (ef_10_2_0 a (0 : Int32)) ?_
 intro p e s m below meth c T0 hx hby hml hown hnm hret hlk hZ X0 e0
 have N0 := Fr.nil n0
 rcases HS with ⟨F1, F2, E1, V1, C1⟩ | ⟨F1, F2, E1, V1⟩
 ·
  have V2 : Va Z h0 b .byte [(.int (byt c0)), (.int (byt c1))] := V1
  refine g_aloadN X0 hx (hb hby d10_0) (pc' := 1) rfl rfl rfl ?_
  obtain ⟨v99, T99, h99, L99, X99, e99, N99, q99, st99⟩ := h_virtual (a := a) (z := (⟨"java/lang/String", "isLatin1", "()Z"⟩ : MethodName)) X0 hx (W := 0) (Ls := #[vR a, vI 0]) (argsL := []) (rest := []) hZ e0 N0 hml hown (rm11_0 l Z a0 hw a cs fv h0 n0 Z0 F1 B O) E1 (wd hw 63 rfl) (wd hw 64 rfl) (notFace_of_selects (args := #[]) (mvT hZ (wd hw 66 rfl))) (wd hw 66 rfl) (wd hw 65 rfl) (wd hw 2 rfl) (wd hw 67 rfl) (by decide) pd___Z rfl rfl (hb hby d10_1) rfl (by decide) (by decide) (by decide) (by decide)
  obtain ⟨rfl, rfl⟩ := q99
  refine Go.movp st99 (mkF m 4 #[vR a, vI 0] [(.int 1)]) rfl ?_
  refine g_if_eq X99 hx (hb hby d10_4) (pc1 := 7) rfl (by decide) (pc2 := 16) (by decide) (fun hc4 => absurd hc4 (by decide)) (fun hc4 => ?_)
  refine g_aloadN X99 hx (hb hby d10_7) (pc' := 8) rfl rfl rfl ?_
  obtain ⟨T100, X100, e100, st100⟩ := getF X99 hx hZ hown (host := "") (Or.inl (wd hw 28 rfl)) Via.refl e99 F2 (g := (mkF m 8 #[vR a, vI 0] [(.ref a)])) rfl rfl (hb hby d10_8)
  refine Go.movp st100 (mkF m 11 #[vR a, vI 0] [(.ref b)]) rfl ?_
  refine g_iloadN X100 hx (hb hby d10_11) (pc' := 12) rfl rfl ?_
  obtain ⟨v101, T101, h101, L101, X101, e101, N101, q101, st101⟩ := h_static X100 hx (W := 0) (Ls := #[vR a, vI 0]) (argsL := [(.ref b), (.int 0)]) (rest := []) hZ e100 N99 hml hown (rm12_2_0 l Z a0 hw b c0 c1 cs fv h0 n0 Z0 V2 B O hc (C1 _ (List.mem_of_getElem? (i := 0) rfl))) (wd hw 68 rfl) (wd hw 69 rfl) (wd hw 70 rfl) (wd hw 71 rfl) (by decide) pd___BI_C rfl rfl (hb hby d10_12) rfl (by decide) (by decide) (by decide) (by decide)
  obtain ⟨rfl, rfl⟩ := q101
  refine Go.movp st101 (mkF m 15 #[vR a, vI 0] [(.int c0)]) rfl ?_
  exact g_creturn X101 hx (by rw [← hc]; exact narrow_chr _) hret (hb hby d10_15) N101 hlk (fun v t => endF (by decide) (by decide) v) (by rw [e101]; exact ⟨rfl, rfl⟩)
 ·
  have V2 : Va Z h0 b .byte [(.int (byt (shr c0 (0 : Int32)))), (.int (byt (shr c0 (8 : Int32)))), (.int (byt (shr c1 (0 : Int32)))), (.int (byt (shr c1 (8 : Int32))))] := V1
  refine g_aloadN X0 hx (hb hby d10_0) (pc' := 1) rfl rfl rfl ?_
  obtain ⟨v102, T102, h102, L102, X102, e102, N102, q102, st102⟩ := h_virtual (a := a) (z := (⟨"java/lang/String", "isLatin1", "()Z"⟩ : MethodName)) X0 hx (W := 0) (Ls := #[vR a, vI 0]) (argsL := []) (rest := []) hZ e0 N0 hml hown (rm11_1 l Z a0 hw a cs fv h0 n0 Z0 F1 B O) E1 (wd hw 63 rfl) (wd hw 64 rfl) (notFace_of_selects (args := #[]) (mvT hZ (wd hw 66 rfl))) (wd hw 66 rfl) (wd hw 65 rfl) (wd hw 2 rfl) (wd hw 67 rfl) (by decide) pd___Z rfl rfl (hb hby d10_1) rfl (by decide) (by decide) (by decide) (by decide)
  obtain ⟨rfl, rfl⟩ := q102
  refine Go.movp st102 (mkF m 4 #[vR a, vI 0] [(.int 0)]) rfl ?_
  refine g_if_eq X102 hx (hb hby d10_4) (pc1 := 7) rfl (by decide) (pc2 := 16) (by decide) (fun hc4 => ?_) (fun hc4 => absurd (by decide) hc4)
  refine g_aloadN X102 hx (hb hby d10_16) (pc' := 17) rfl rfl rfl ?_
  obtain ⟨T103, X103, e103, st103⟩ := getF X102 hx hZ hown (host := "") (Or.inl (wd hw 28 rfl)) Via.refl e102 F2 (g := (mkF m 17 #[vR a, vI 0] [(.ref a)])) rfl rfl (hb hby d10_17)
  refine Go.movp st103 (mkF m 20 #[vR a, vI 0] [(.ref b)]) rfl ?_
  refine g_iloadN X103 hx (hb hby d10_20) (pc' := 21) rfl rfl ?_
  obtain ⟨v104, T104, h104, L104, X104, e104, N104, q104, st104⟩ := h_static X103 hx (W := 0) (Ls := #[vR a, vI 0]) (argsL := [(.ref b), (.int 0)]) (rest := []) hZ e103 N102 hml hown (rm22_2_0 l Z a0 hw b c0 c1 cs fv h0 n0 Z0 V2 B O hc) (wd hw 114 rfl) (wd hw 115 rfl) (wd hw 17 rfl) (wd hw 116 rfl) (by decide) pd___BI_C rfl rfl (hb hby d10_21) rfl (by decide) (by decide) (by decide) (by decide)
  obtain ⟨rfl, rfl⟩ := q104
  refine Go.movp st104 (mkF m 24 #[vR a, vI 0] [(.int c0)]) rfl ?_
  exact g_creturn X104 hx (by rw [← hc]; exact narrow_chr _) hret (hb hby d10_24) N104 hlk (fun v t => endF (by decide) (by decide) v) (by rw [e104]; exact ⟨rfl, rfl⟩)
theorem ef_10_2_1 (x0 : Addr) (x1 : Int32) (m : MethodId) : entryFrame m #[(.ref x0), (.int x1)] 2 = mkF m 0 #[.val (.ref x0), .val (.int x1)] [] := by first | (simp [entryFrame, mkF, argsToLocals, Value.category]; done) | rfl
def Q10_2_1 (Z : State) (a : Addr) (b : Addr) (c0 : Int32) (c1 : Int32) (cs : Int32) (fv : Value) (h0 : Heap) (n0 : Nat) : Option Value → Heap → Prop := fun v h => v = some (.int c1) ∧ h0 = h
theorem rm10_2_1 (l : Launch) (Z : State) (a0 : Array Value) (hw : HW Z a0) (a : Addr) (b : Addr) (c0 : Int32) (c1 : Int32) (cs : Int32) (fv : Value) (h0 : Heap) (n0 : Nat) (Z0 : n0 ≤ h0.size) (HS : Str Z h0 a b [c0, c1]) (B : Sts Z cs fv) (O : Old Z n0 h0) (hc : chr c1 = c1) : Ctr l Z (⟨"java/lang/String", "charAt", "(I)C"⟩ : MethodName) jdk_42_method_56_code 2 (some .char) ({ frames := 4, cells := 0, slots := 0, locals := 53 } : Room) #[(.ref a), (.int 1)] h0 n0 (Q10_2_1 Z a b c0 c1 cs fv h0 n0) := by
 refine Ctr.of (plainFor_of_name pn_13) (ef_10_2_1 a (1 : Int32)) ?_
 intro p e s m below meth c T0 hx hby hml hown hnm hret hlk hZ X0 e0
 have N0 := Fr.nil n0
 rcases HS with ⟨F1, F2, E1, V1, C1⟩ | ⟨F1, F2, E1, V1⟩
 ·
  have V2 : Va Z h0 b .byte [(.int (byt c0)), (.int (byt c1))] := V1
  refine g_aloadN X0 hx (hb hby d10_0) (pc' := 1) rfl rfl rfl ?_
  obtain ⟨v105, T105, h105, L105, X105, e105, N105, q105, st105⟩ := h_virtual (a := a) (z := (⟨"java/lang/String", "isLatin1", "()Z"⟩ : MethodName)) X0 hx (W := 0) (Ls := #[vR a, vI 1]) (argsL := []) (rest := []) hZ e0 N0 hml hown (rm11_0 l Z a0 hw a cs fv h0 n0 Z0 F1 B O) E1 (wd hw 63 rfl) (wd hw 64 rfl) (notFace_of_selects (args := #[]) (mvT hZ (wd hw 66 rfl))) (wd hw 66 rfl) (wd hw 65 rfl) (wd hw 2 rfl) (wd hw 67 rfl) (by decide) pd___Z rfl rfl (hb hby d10_1) rfl (by decide) (by decide) (by decide) (by decide)
  obtain ⟨rfl, rfl⟩ := q105
  refine Go.movp st105 (mkF m 4 #[vR a, vI 1] [(.int 1)]) rfl ?_
  refine g_if_eq X105 hx (hb hby d10_4) (pc1 := 7) rfl (by decide) (pc2 := 16) (by decide) (fun hc4 => absurd hc4 (by decide)) (fun hc4 => ?_)
  refine g_aloadN X105 hx (hb hby d10_7) (pc' := 8) rfl rfl rfl ?_
  obtain ⟨T106, X106, e106, st106⟩ := getF X105 hx hZ hown (host := "") (Or.inl (wd hw 28 rfl)) Via.refl e105 F2 (g := (mkF m 8 #[vR a, vI 1] [(.ref a)])) rfl rfl (hb hby d10_8)
  refine Go.movp st106 (mkF m 11 #[vR a, vI 1] [(.ref b)]) rfl ?_
  refine g_iloadN X106 hx (hb hby d10_11) (pc' := 12) rfl rfl ?_
  obtain ⟨v107, T107, h107, L107, X107, e107, N107, q107, st107⟩ := h_static X106 hx (W := 0) (Ls := #[vR a, vI 1]) (argsL := [(.ref b), (.int 1)]) (rest := []) hZ e106 N105 hml hown (rm12_2_1 l Z a0 hw b c0 c1 cs fv h0 n0 Z0 V2 B O hc (C1 _ (List.mem_of_getElem? (i := 1) rfl))) (wd hw 68 rfl) (wd hw 69 rfl) (wd hw 70 rfl) (wd hw 71 rfl) (by decide) pd___BI_C rfl rfl (hb hby d10_12) rfl (by decide) (by decide) (by decide) (by decide)
  obtain ⟨rfl, rfl⟩ := q107
  refine Go.movp st107 (mkF m 15 #[vR a, vI 1] [(.int c1)]) rfl ?_
  exact g_creturn X107 hx (by rw [← hc]; exact narrow_chr _) hret (hb hby d10_15) N107 hlk (fun v t => endF (by decide) (by decide) v) (by rw [e107]; exact ⟨rfl, rfl⟩)
 ·
  have V2 : Va Z h0 b .byte [(.int (byt (shr c0 (0 : Int32)))), (.int (byt (shr c0 (8 : Int32)))), (.int (byt (shr c1 (0 : Int32)))), (.int (byt (shr c1 (8 : Int32))))] := V1
  refine g_aloadN X0 hx (hb hby d10_0) (pc' := 1) rfl rfl rfl ?_
  obtain ⟨v108, T108, h108, L108, X108, e108, N108, q108, st108⟩ := h_virtual (a := a) (z := (⟨"java/lang/String", "isLatin1", "()Z"⟩ : MethodName)) X0 hx (W := 0) (Ls := #[vR a, vI 1]) (argsL := []) (rest := []) hZ e0 N0 hml hown (rm11_1 l Z a0 hw a cs fv h0 n0 Z0 F1 B O) E1 (wd hw 63 rfl) (wd hw 64 rfl) (notFace_of_selects (args := #[]) (mvT hZ (wd hw 66 rfl))) (wd hw 66 rfl) (wd hw 65 rfl) (wd hw 2 rfl) (wd hw 67 rfl) (by decide) pd___Z rfl rfl (hb hby d10_1) rfl (by decide) (by decide) (by decide) (by decide)
  obtain ⟨rfl, rfl⟩ := q108
  refine Go.movp st108 (mkF m 4 #[vR a, vI 1] [(.int 0)]) rfl ?_
  refine g_if_eq X108 hx (hb hby d10_4) (pc1 := 7) rfl (by decide) (pc2 := 16) (by decide) (fun hc4 => ?_) (fun hc4 => absurd (by decide) hc4)
  refine g_aloadN X108 hx (hb hby d10_16) (pc' := 17) rfl rfl rfl ?_
  obtain ⟨T109, X109, e109, st109⟩ := getF X108 hx hZ hown (host := "") (Or.inl (wd hw 28 rfl)) Via.refl e108 F2 (g := (mkF m 17 #[vR a, vI 1] [(.ref a)])) rfl rfl (hb hby d10_17)
  refine Go.movp st109 (mkF m 20 #[vR a, vI 1] [(.ref b)]) rfl ?_
  refine g_iloadN X109 hx (hb hby d10_20) (pc' := 21) rfl rfl ?_
  obtain ⟨v110, T110, h110, L110, X110, e110, N110, q110, st110⟩ := h_static X109 hx (W := 0) (Ls := #[vR a, vI 1]) (argsL := [(.ref b), (.int 1)]) (rest := []) hZ e109 N108 hml hown (rm22_2_1 l Z a0 hw b c0 c1 cs fv h0 n0 Z0 V2 B O hc) (wd hw 114 rfl) (wd hw 115 rfl) (wd hw 17 rfl) (wd hw 116 rfl) (by decide) pd___BI_C rfl rfl (hb hby d10_21) rfl (by decide) (by decide) (by decide) (by decide)
  obtain ⟨rfl, rfl⟩ := q110
  refine Go.movp st110 (mkF m 24 #[vR a, vI 1] [(.int c1)]) rfl ?_
  exact g_creturn X110 hx (by rw [← hc]; exact narrow_chr _) hret (hb hby d10_24) N110 hlk (fun v t => endF (by decide) (by decide) v) (by rw [e110]; exact ⟨rfl, rfl⟩)
theorem ef_8_3 (x0 : Addr) (m : MethodId) : entryFrame m #[(.ref x0)] 1 = mkF m 0 #[.val (.ref x0)] [] := by first | (simp [entryFrame, mkF, argsToLocals, Value.category]; done) | rfl
def Q8_3 (Z : State) (a : Addr) (b : Addr) (c0 : Int32) (c1 : Int32) (c2 : Int32) (cs : Int32) (fv : Value) (h0 : Heap) (n0 : Nat) : Option Value → Heap → Prop := fun v h => v = some (.int 3) ∧ h0 = h
theorem rm8_3 (l : Launch) (Z : State) (a0 : Array Value) (hw : HW Z a0) (a : Addr) (b : Addr) (c0 : Int32) (c1 : Int32) (c2 : Int32) (cs : Int32) (fv : Value) (h0 : Heap) (n0 : Nat) (Z0 : n0 ≤ h0.size) (HS : Str Z h0 a b [c0, c1, c2]) (B : Sts Z cs fv) (O : Old Z n0 h0) : Ctr l Z (⟨"java/lang/String", "length", "()I"⟩ : MethodName) jdk_42_method_54_code 1 (some .int) ({ frames := 1, cells := 0, slots := 0, locals := 13 } : Room) #[(.ref a)] h0 n0 (Q8_3 Z a b c0 c1 c2 cs fv h0 n0) := by
 refine Ctr.of (plainFor_of_name pn_13) (ef_8_3 a) ?_
 intro p e s m below meth c T0 hx hby hml hown hnm hret hlk hZ X0 e0
 have N0 := Fr.nil n0
 rcases HS with ⟨F1, F2, E1, V1, C1⟩ | ⟨F1, F2, E1, V1⟩
 ·
  have V2 : Va Z h0 b .byte [(.int (byt c0)), (.int (byt c1)), (.int (byt c2))] := V1
  refine g_aloadN X0 hx (hb hby d8_0) (pc' := 1) rfl rfl rfl ?_
  obtain ⟨T111, X111, e111, st111⟩ := getF X0 hx hZ hown (host := "") (Or.inl (wd hw 28 rfl)) Via.refl e0 F2 (g := (mkF m 1 #[vR a] [(.ref a)])) rfl rfl (hb hby d8_1)
  refine Go.movp st111 (mkF m 4 #[vR a] [(.ref b)]) rfl ?_
  refine g_arraylength X111 hx hZ e111 V2 (z := 3) (hb hby d8_4) (pc' := 5) rfl rfl ?_
  refine g_aloadN X111 hx (hb hby d8_5) (pc' := 6) rfl rfl rfl ?_
  obtain ⟨v112, T112, h112, L112, X112, e112, N112, q112, st112⟩ := h_virtual (a := a) (z := (⟨"java/lang/String", "coder", "()B"⟩ : MethodName)) X111 hx (W := 1) (Ls := #[vR a]) (argsL := []) (rest := [(.int 3)]) hZ e111 N0 hml hown (rm9_0 l Z a0 hw a cs fv h0 n0 Z0 F1 B O) E1 (wd hw 50 rfl) (wd hw 51 rfl) (notFace_of_selects (args := #[]) (mvT hZ (wd hw 53 rfl))) (wd hw 53 rfl) (wd hw 52 rfl) (wd hw 2 rfl) (wd hw 54 rfl) (by decide) pd___B rfl rfl (hb hby d8_6) rfl (by decide) (by decide) (by decide) (by decide)
  obtain ⟨rfl, rfl⟩ := q112
  refine Go.movp st112 (mkF m 9 #[vR a] [(.int 0), (.int 3)]) rfl ?_
  refine g_ishr X112 hx (hb hby d8_9) (pc' := 10) rfl ?_
  refine Go.cast (show (mkF m 10 #[vR a] [(.int (shr (3 : Int32) (0 : Int32)))]) = (mkF m 10 #[vR a] [(.int 3)]) from by rw [show (shr (3 : Int32) (0 : Int32)) = (3 : Int32) from (by decide)]) ?_
  exact g_ireturn X112 hx hret (hb hby d8_10) N112 hlk (fun v t => endF (by decide) (by decide) v) (by rw [e112]; exact ⟨rfl, rfl⟩)
 ·
  have V2 : Va Z h0 b .byte [(.int (byt (shr c0 (0 : Int32)))), (.int (byt (shr c0 (8 : Int32)))), (.int (byt (shr c1 (0 : Int32)))), (.int (byt (shr c1 (8 : Int32)))), (.int (byt (shr c2 (0 : Int32)))), (.int (byt (shr c2 (8 : Int32))))] := V1
  refine g_aloadN X0 hx (hb hby d8_0) (pc' := 1) rfl rfl rfl ?_
  obtain ⟨T113, X113, e113, st113⟩ := getF X0 hx hZ hown (host := "") (Or.inl (wd hw 28 rfl)) Via.refl e0 F2 (g := (mkF m 1 #[vR a] [(.ref a)])) rfl rfl (hb hby d8_1)
  refine Go.movp st113 (mkF m 4 #[vR a] [(.ref b)]) rfl ?_
  refine g_arraylength X113 hx hZ e113 V2 (z := 6) (hb hby d8_4) (pc' := 5) rfl rfl ?_
  refine g_aloadN X113 hx (hb hby d8_5) (pc' := 6) rfl rfl rfl ?_
  obtain ⟨v114, T114, h114, L114, X114, e114, N114, q114, st114⟩ := h_virtual (a := a) (z := (⟨"java/lang/String", "coder", "()B"⟩ : MethodName)) X113 hx (W := 1) (Ls := #[vR a]) (argsL := []) (rest := [(.int 6)]) hZ e113 N0 hml hown (rm9_1 l Z a0 hw a cs fv h0 n0 Z0 F1 B O) E1 (wd hw 50 rfl) (wd hw 51 rfl) (notFace_of_selects (args := #[]) (mvT hZ (wd hw 53 rfl))) (wd hw 53 rfl) (wd hw 52 rfl) (wd hw 2 rfl) (wd hw 54 rfl) (by decide) pd___B rfl rfl (hb hby d8_6) rfl (by decide) (by decide) (by decide) (by decide)
  obtain ⟨rfl, rfl⟩ := q114
  refine Go.movp st114 (mkF m 9 #[vR a] [(.int 1), (.int 6)]) rfl ?_
  refine g_ishr X114 hx (hb hby d8_9) (pc' := 10) rfl ?_
  refine Go.cast (show (mkF m 10 #[vR a] [(.int (shr (6 : Int32) (1 : Int32)))]) = (mkF m 10 #[vR a] [(.int 3)]) from by rw [show (shr (6 : Int32) (1 : Int32)) = (3 : Int32) from (by decide)]) ?_
  exact g_ireturn X114 hx hret (hb hby d8_10) N114 hlk (fun v t => endF (by decide) (by decide) v) (by rw [e114]; exact ⟨rfl, rfl⟩)
theorem ef_10_3_0 (x0 : Addr) (x1 : Int32) (m : MethodId) : entryFrame m #[(.ref x0), (.int x1)] 2 = mkF m 0 #[.val (.ref x0), .val (.int x1)] [] := by first | (simp [entryFrame, mkF, argsToLocals, Value.category]; done) | rfl
def Q10_3_0 (Z : State) (a : Addr) (b : Addr) (c0 : Int32) (c1 : Int32) (c2 : Int32) (cs : Int32) (fv : Value) (h0 : Heap) (n0 : Nat) : Option Value → Heap → Prop := fun v h => v = some (.int c0) ∧ h0 = h
theorem rm10_3_0 (l : Launch) (Z : State) (a0 : Array Value) (hw : HW Z a0) (a : Addr) (b : Addr) (c0 : Int32) (c1 : Int32) (c2 : Int32) (cs : Int32) (fv : Value) (h0 : Heap) (n0 : Nat) (Z0 : n0 ≤ h0.size) (HS : Str Z h0 a b [c0, c1, c2]) (B : Sts Z cs fv) (O : Old Z n0 h0) (hc : chr c0 = c0) : Ctr l Z (⟨"java/lang/String", "charAt", "(I)C"⟩ : MethodName) jdk_42_method_56_code 2 (some .char) ({ frames := 4, cells := 0, slots := 0, locals := 53 } : Room) #[(.ref a), (.int 0)] h0 n0 (Q10_3_0 Z a b c0 c1 c2 cs fv h0 n0) := by
 refine Ctr.of (plainFor_of_name pn_13) (ef_10_3_0 a (0 : Int32)) ?_
 intro p e s m below meth c T0 hx hby hml hown hnm hret hlk hZ X0 e0
 have N0 := Fr.nil n0
 rcases HS with ⟨F1, F2, E1, V1, C1⟩ | ⟨F1, F2, E1, V1⟩
 ·
  have V2 : Va Z h0 b .byte [(.int (byt c0)), (.int (byt c1)), (.int (byt c2))] := V1
  refine g_aloadN X0 hx (hb hby d10_0) (pc' := 1) rfl rfl rfl ?_
  obtain ⟨v115, T115, h115, L115, X115, e115, N115, q115, st115⟩ := h_virtual (a := a) (z := (⟨"java/lang/String", "isLatin1", "()Z"⟩ : MethodName)) X0 hx (W := 0) (Ls := #[vR a, vI 0]) (argsL := []) (rest := []) hZ e0 N0 hml hown (rm11_0 l Z a0 hw a cs fv h0 n0 Z0 F1 B O) E1 (wd hw 63 rfl) (wd hw 64 rfl) (notFace_of_selects (args := #[]) (mvT hZ (wd hw 66 rfl))) (wd hw 66 rfl) (wd hw 65 rfl) (wd hw 2 rfl) (wd hw 67 rfl) (by decide) pd___Z rfl rfl (hb hby d10_1) rfl (by decide) (by decide) (by decide) (by decide)
  obtain ⟨rfl, rfl⟩ := q115
  refine Go.movp st115 (mkF m 4 #[vR a, vI 0] [(.int 1)]) rfl ?_
  refine g_if_eq X115 hx (hb hby d10_4) (pc1 := 7) rfl (by decide) (pc2 := 16) (by decide) (fun hc4 => absurd hc4 (by decide)) (fun hc4 => ?_)
  refine g_aloadN X115 hx (hb hby d10_7) (pc' := 8) rfl rfl rfl ?_
  obtain ⟨T116, X116, e116, st116⟩ := getF X115 hx hZ hown (host := "") (Or.inl (wd hw 28 rfl)) Via.refl e115 F2 (g := (mkF m 8 #[vR a, vI 0] [(.ref a)])) rfl rfl (hb hby d10_8)
  refine Go.movp st116 (mkF m 11 #[vR a, vI 0] [(.ref b)]) rfl ?_
  refine g_iloadN X116 hx (hb hby d10_11) (pc' := 12) rfl rfl ?_
  obtain ⟨v117, T117, h117, L117, X117, e117, N117, q117, st117⟩ := h_static X116 hx (W := 0) (Ls := #[vR a, vI 0]) (argsL := [(.ref b), (.int 0)]) (rest := []) hZ e116 N115 hml hown (rm12_3_0 l Z a0 hw b c0 c1 c2 cs fv h0 n0 Z0 V2 B O hc (C1 _ (List.mem_of_getElem? (i := 0) rfl))) (wd hw 68 rfl) (wd hw 69 rfl) (wd hw 70 rfl) (wd hw 71 rfl) (by decide) pd___BI_C rfl rfl (hb hby d10_12) rfl (by decide) (by decide) (by decide) (by decide)
  obtain ⟨rfl, rfl⟩ := q117
  refine Go.movp st117 (mkF m 15 #[vR a, vI 0] [(.int c0)]) rfl ?_
  exact g_creturn X117 hx (by rw [← hc]; exact narrow_chr _) hret (hb hby d10_15) N117 hlk (fun v t => endF (by decide) (by decide) v) (by rw [e117]; exact ⟨rfl, rfl⟩)
 ·
  have V2 : Va Z h0 b .byte [(.int (byt (shr c0 (0 : Int32)))), (.int (byt (shr c0 (8 : Int32)))), (.int (byt (shr c1 (0 : Int32)))), (.int (byt (shr c1 (8 : Int32)))), (.int (byt (shr c2 (0 : Int32)))), (.int (byt (shr c2 (8 : Int32))))] := V1
  refine g_aloadN X0 hx (hb hby d10_0) (pc' := 1) rfl rfl rfl ?_
  obtain ⟨v118, T118, h118, L118, X118, e118, N118, q118, st118⟩ := h_virtual (a := a) (z := (⟨"java/lang/String", "isLatin1", "()Z"⟩ : MethodName)) X0 hx (W := 0) (Ls := #[vR a, vI 0]) (argsL := []) (rest := []) hZ e0 N0 hml hown (rm11_1 l Z a0 hw a cs fv h0 n0 Z0 F1 B O) E1 (wd hw 63 rfl) (wd hw 64 rfl) (notFace_of_selects (args := #[]) (mvT hZ (wd hw 66 rfl))) (wd hw 66 rfl) (wd hw 65 rfl) (wd hw 2 rfl) (wd hw 67 rfl) (by decide) pd___Z rfl rfl (hb hby d10_1) rfl (by decide) (by decide) (by decide) (by decide)
  obtain ⟨rfl, rfl⟩ := q118
  refine Go.movp st118 (mkF m 4 #[vR a, vI 0] [(.int 0)]) rfl ?_
  refine g_if_eq X118 hx (hb hby d10_4) (pc1 := 7) rfl (by decide) (pc2 := 16) (by decide) (fun hc4 => ?_) (fun hc4 => absurd (by decide) hc4)
  refine g_aloadN X118 hx (hb hby d10_16) (pc' := 17) rfl rfl rfl ?_
  obtain ⟨T119, X119, e119, st119⟩ := getF X118 hx hZ hown (host := "") (Or.inl (wd hw 28 rfl)) Via.refl e118 F2 (g := (mkF m 17 #[vR a, vI 0] [(.ref a)])) rfl rfl (hb hby d10_17)
  refine Go.movp st119 (mkF m 20 #[vR a, vI 0] [(.ref b)]) rfl ?_
  refine g_iloadN X119 hx (hb hby d10_20) (pc' := 21) rfl rfl ?_
  obtain ⟨v120, T120, h120, L120, X120, e120, N120, q120, st120⟩ := h_static X119 hx (W := 0) (Ls := #[vR a, vI 0]) (argsL := [(.ref b), (.int 0)]) (rest := []) hZ e119 N118 hml hown (rm22_3_0 l Z a0 hw b c0 c1 c2 cs fv h0 n0 Z0 V2 B O hc) (wd hw 114 rfl) (wd hw 115 rfl) (wd hw 17 rfl) (wd hw 116 rfl) (by decide) pd___BI_C rfl rfl (hb hby d10_21) rfl (by decide) (by decide) (by decide) (by decide)
  obtain ⟨rfl, rfl⟩ := q120
  refine Go.movp st120 (mkF m 24 #[vR a, vI 0] [(.int c0)]) rfl ?_
  exact g_creturn X120 hx (by rw [← hc]; exact narrow_chr _) hret (hb hby d10_24) N120 hlk (fun v t => endF (by decide) (by decide) v) (by rw [e120]; exact ⟨rfl, rfl⟩)
theorem ef_10_3_1 (x0 : Addr) (x1 : Int32) (m : MethodId) : entryFrame m #[(.ref x0), (.int x1)] 2 = mkF m 0 #[.val (.ref x0), .val (.int x1)] [] := by first | (simp [entryFrame, mkF, argsToLocals, Value.category]; done) | rfl
def Q10_3_1 (Z : State) (a : Addr) (b : Addr) (c0 : Int32) (c1 : Int32) (c2 : Int32) (cs : Int32) (fv : Value) (h0 : Heap) (n0 : Nat) : Option Value → Heap → Prop := fun v h => v = some (.int c1) ∧ h0 = h
theorem rm10_3_1 (l : Launch) (Z : State) (a0 : Array Value) (hw : HW Z a0) (a : Addr) (b : Addr) (c0 : Int32) (c1 : Int32) (c2 : Int32) (cs : Int32) (fv : Value) (h0 : Heap) (n0 : Nat) (Z0 : n0 ≤ h0.size) (HS : Str Z h0 a b [c0, c1, c2]) (B : Sts Z cs fv) (O : Old Z n0 h0) (hc : chr c1 = c1) : Ctr l Z (⟨"java/lang/String", "charAt", "(I)C"⟩ : MethodName) jdk_42_method_56_code 2 (some .char) ({ frames := 4, cells := 0, slots := 0, locals := 53 } : Room) #[(.ref a), (.int 1)] h0 n0 (Q10_3_1 Z a b c0 c1 c2 cs fv h0 n0) := by
 refine Ctr.of (plainFor_of_name pn_13) (ef_10_3_1 a (1 : Int32)) ?_
 intro p e s m below meth c T0 hx hby hml hown hnm hret hlk hZ X0 e0
 have N0 := Fr.nil n0
 rcases HS with ⟨F1, F2, E1, V1, C1⟩ | ⟨F1, F2, E1, V1⟩
 ·
  have V2 : Va Z h0 b .byte [(.int (byt c0)), (.int (byt c1)), (.int (byt c2))] := V1
  refine g_aloadN X0 hx (hb hby d10_0) (pc' := 1) rfl rfl rfl ?_
  obtain ⟨v121, T121, h121, L121, X121, e121, N121, q121, st121⟩ := h_virtual (a := a) (z := (⟨"java/lang/String", "isLatin1", "()Z"⟩ : MethodName)) X0 hx (W := 0) (Ls := #[vR a, vI 1]) (argsL := []) (rest := []) hZ e0 N0 hml hown (rm11_0 l Z a0 hw a cs fv h0 n0 Z0 F1 B O) E1 (wd hw 63 rfl) (wd hw 64 rfl) (notFace_of_selects (args := #[]) (mvT hZ (wd hw 66 rfl))) (wd hw 66 rfl) (wd hw 65 rfl) (wd hw 2 rfl) (wd hw 67 rfl) (by decide) pd___Z rfl rfl (hb hby d10_1) rfl (by decide) (by decide) (by decide) (by decide)
  obtain ⟨rfl, rfl⟩ := q121
  refine Go.movp st121 (mkF m 4 #[vR a, vI 1] [(.int 1)]) rfl ?_
  refine g_if_eq X121 hx (hb hby d10_4) (pc1 := 7) rfl (by decide) (pc2 := 16) (by decide) (fun hc4 => absurd hc4 (by decide)) (fun hc4 => ?_)
  refine g_aloadN X121 hx (hb hby d10_7) (pc' := 8) rfl rfl rfl ?_
  obtain ⟨T122, X122, e122, st122⟩ := getF X121 hx hZ hown (host := "") (Or.inl (wd hw 28 rfl)) Via.refl e121 F2 (g := (mkF m 8 #[vR a, vI 1] [(.ref a)])) rfl rfl (hb hby d10_8)
  refine Go.movp st122 (mkF m 11 #[vR a, vI 1] [(.ref b)]) rfl ?_
  refine g_iloadN X122 hx (hb hby d10_11) (pc' := 12) rfl rfl ?_
  obtain ⟨v123, T123, h123, L123, X123, e123, N123, q123, st123⟩ := h_static X122 hx (W := 0) (Ls := #[vR a, vI 1]) (argsL := [(.ref b), (.int 1)]) (rest := []) hZ e122 N121 hml hown (rm12_3_1 l Z a0 hw b c0 c1 c2 cs fv h0 n0 Z0 V2 B O hc (C1 _ (List.mem_of_getElem? (i := 1) rfl))) (wd hw 68 rfl) (wd hw 69 rfl) (wd hw 70 rfl) (wd hw 71 rfl) (by decide) pd___BI_C rfl rfl (hb hby d10_12) rfl (by decide) (by decide) (by decide) (by decide)
  obtain ⟨rfl, rfl⟩ := q123
  refine Go.movp st123 (mkF m 15 #[vR a, vI 1] [(.int c1)]) rfl ?_
  exact g_creturn X123 hx (by rw [← hc]; exact narrow_chr _) hret (hb hby d10_15) N123 hlk (fun v t => endF (by decide) (by decide) v) (by rw [e123]; exact ⟨rfl, rfl⟩)
 ·
  have V2 : Va Z h0 b .byte [(.int (byt (shr c0 (0 : Int32)))), (.int (byt (shr c0 (8 : Int32)))), (.int (byt (shr c1 (0 : Int32)))), (.int (byt (shr c1 (8 : Int32)))), (.int (byt (shr c2 (0 : Int32)))), (.int (byt (shr c2 (8 : Int32))))] := V1
  refine g_aloadN X0 hx (hb hby d10_0) (pc' := 1) rfl rfl rfl ?_
  obtain ⟨v124, T124, h124, L124, X124, e124, N124, q124, st124⟩ := h_virtual (a := a) (z := (⟨"java/lang/String", "isLatin1", "()Z"⟩ : MethodName)) X0 hx (W := 0) (Ls := #[vR a, vI 1]) (argsL := []) (rest := []) hZ e0 N0 hml hown (rm11_1 l Z a0 hw a cs fv h0 n0 Z0 F1 B O) E1 (wd hw 63 rfl) (wd hw 64 rfl) (notFace_of_selects (args := #[]) (mvT hZ (wd hw 66 rfl))) (wd hw 66 rfl) (wd hw 65 rfl) (wd hw 2 rfl) (wd hw 67 rfl) (by decide) pd___Z rfl rfl (hb hby d10_1) rfl (by decide) (by decide) (by decide) (by decide)
  obtain ⟨rfl, rfl⟩ := q124
  refine Go.movp st124 (mkF m 4 #[vR a, vI 1] [(.int 0)]) rfl ?_
  refine g_if_eq X124 hx (hb hby d10_4) (pc1 := 7) rfl (by decide) (pc2 := 16) (by decide) (fun hc4 => ?_) (fun hc4 => absurd (by decide) hc4)
  refine g_aloadN X124 hx (hb hby d10_16) (pc' := 17) rfl rfl rfl ?_
  obtain ⟨T125, X125, e125, st125⟩ := getF X124 hx hZ hown (host := "") (Or.inl (wd hw 28 rfl)) Via.refl e124 F2 (g := (mkF m 17 #[vR a, vI 1] [(.ref a)])) rfl rfl (hb hby d10_17)
  refine Go.movp st125 (mkF m 20 #[vR a, vI 1] [(.ref b)]) rfl ?_
  refine g_iloadN X125 hx (hb hby d10_20) (pc' := 21) rfl rfl ?_
  obtain ⟨v126, T126, h126, L126, X126, e126, N126, q126, st126⟩ := h_static X125 hx (W := 0) (Ls := #[vR a, vI 1]) (argsL := [(.ref b), (.int 1)]) (rest := []) hZ e125 N124 hml hown (rm22_3_1 l Z a0 hw b c0 c1 c2 cs fv h0 n0 Z0 V2 B O hc) (wd hw 114 rfl) (wd hw 115 rfl) (wd hw 17 rfl) (wd hw 116 rfl) (by decide) pd___BI_C rfl rfl (hb hby d10_21) rfl (by decide) (by decide) (by decide) (by decide)
  obtain ⟨rfl, rfl⟩ := q126
  refine Go.movp st126 (mkF m 24 #[vR a, vI 1] [(.int c1)]) rfl ?_
  exact g_creturn X126 hx (by rw [← hc]; exact narrow_chr _) hret (hb hby d10_24) N126 hlk (fun v t => endF (by decide) (by decide) v) (by rw [e126]; exact ⟨rfl, rfl⟩)
theorem ef_10_3_2 (x0 : Addr) (x1 : Int32) (m : MethodId) : entryFrame m #[(.ref x0), (.int x1)] 2 = mkF m 0 #[.val (.ref x0), .val (.int x1)] [] := by first | (simp [entryFrame, mkF, argsToLocals, Value.category]; done) | rfl
def Q10_3_2 (Z : State) (a : Addr) (b : Addr) (c0 : Int32) (c1 : Int32) (c2 : Int32) (cs : Int32) (fv : Value) (h0 : Heap) (n0 : Nat) : Option Value → Heap → Prop := fun v h => v = some (.int c2) ∧ h0 = h
theorem rm10_3_2 (l : Launch) (Z : State) (a0 : Array Value) (hw : HW Z a0) (a : Addr) (b : Addr) (c0 : Int32) (c1 : Int32) (c2 : Int32) (cs : Int32) (fv : Value) (h0 : Heap) (n0 : Nat) (Z0 : n0 ≤ h0.size) (HS : Str Z h0 a b [c0, c1, c2]) (B : Sts Z cs fv) (O : Old Z n0 h0) (hc : chr c2 = c2) : Ctr l Z (⟨"java/lang/String", "charAt", "(I)C"⟩ : MethodName) jdk_42_method_56_code 2 (some .char) ({ frames := 4, cells := 0, slots := 0, locals := 53 } : Room) #[(.ref a), (.int 2)] h0 n0 (Q10_3_2 Z a b c0 c1 c2 cs fv h0 n0) := by
 refine Ctr.of (plainFor_of_name pn_13) (ef_10_3_2 a (2 : Int32)) ?_
 intro p e s m below meth c T0 hx hby hml hown hnm hret hlk hZ X0 e0
 have N0 := Fr.nil n0
 rcases HS with ⟨F1, F2, E1, V1, C1⟩ | ⟨F1, F2, E1, V1⟩
 ·
  have V2 : Va Z h0 b .byte [(.int (byt c0)), (.int (byt c1)), (.int (byt c2))] := V1
  refine g_aloadN X0 hx (hb hby d10_0) (pc' := 1) rfl rfl rfl ?_
  obtain ⟨v127, T127, h127, L127, X127, e127, N127, q127, st127⟩ := h_virtual (a := a) (z := (⟨"java/lang/String", "isLatin1", "()Z"⟩ : MethodName)) X0 hx (W := 0) (Ls := #[vR a, vI 2]) (argsL := []) (rest := []) hZ e0 N0 hml hown (rm11_0 l Z a0 hw a cs fv h0 n0 Z0 F1 B O) E1 (wd hw 63 rfl) (wd hw 64 rfl) (notFace_of_selects (args := #[]) (mvT hZ (wd hw 66 rfl))) (wd hw 66 rfl) (wd hw 65 rfl) (wd hw 2 rfl) (wd hw 67 rfl) (by decide) pd___Z rfl rfl (hb hby d10_1) rfl (by decide) (by decide) (by decide) (by decide)
  obtain ⟨rfl, rfl⟩ := q127
  refine Go.movp st127 (mkF m 4 #[vR a, vI 2] [(.int 1)]) rfl ?_
  refine g_if_eq X127 hx (hb hby d10_4) (pc1 := 7) rfl (by decide) (pc2 := 16) (by decide) (fun hc4 => absurd hc4 (by decide)) (fun hc4 => ?_)
  refine g_aloadN X127 hx (hb hby d10_7) (pc' := 8) rfl rfl rfl ?_
  obtain ⟨T128, X128, e128, st128⟩ := getF X127 hx hZ hown (host := "") (Or.inl (wd hw 28 rfl)) Via.refl e127 F2 (g := (mkF m 8 #[vR a, vI 2] [(.ref a)])) rfl rfl (hb hby d10_8)
  refine Go.movp st128 (mkF m 11 #[vR a, vI 2] [(.ref b)]) rfl ?_
  refine g_iloadN X128 hx (hb hby d10_11) (pc' := 12) rfl rfl ?_
  obtain ⟨v129, T129, h129, L129, X129, e129, N129, q129, st129⟩ := h_static X128 hx (W := 0) (Ls := #[vR a, vI 2]) (argsL := [(.ref b), (.int 2)]) (rest := []) hZ e128 N127 hml hown (rm12_3_2 l Z a0 hw b c0 c1 c2 cs fv h0 n0 Z0 V2 B O hc (C1 _ (List.mem_of_getElem? (i := 2) rfl))) (wd hw 68 rfl) (wd hw 69 rfl) (wd hw 70 rfl) (wd hw 71 rfl) (by decide) pd___BI_C rfl rfl (hb hby d10_12) rfl (by decide) (by decide) (by decide) (by decide)
  obtain ⟨rfl, rfl⟩ := q129
  refine Go.movp st129 (mkF m 15 #[vR a, vI 2] [(.int c2)]) rfl ?_
  exact g_creturn X129 hx (by rw [← hc]; exact narrow_chr _) hret (hb hby d10_15) N129 hlk (fun v t => endF (by decide) (by decide) v) (by rw [e129]; exact ⟨rfl, rfl⟩)
 ·
  have V2 : Va Z h0 b .byte [(.int (byt (shr c0 (0 : Int32)))), (.int (byt (shr c0 (8 : Int32)))), (.int (byt (shr c1 (0 : Int32)))), (.int (byt (shr c1 (8 : Int32)))), (.int (byt (shr c2 (0 : Int32)))), (.int (byt (shr c2 (8 : Int32))))] := V1
  refine g_aloadN X0 hx (hb hby d10_0) (pc' := 1) rfl rfl rfl ?_
  obtain ⟨v130, T130, h130, L130, X130, e130, N130, q130, st130⟩ := h_virtual (a := a) (z := (⟨"java/lang/String", "isLatin1", "()Z"⟩ : MethodName)) X0 hx (W := 0) (Ls := #[vR a, vI 2]) (argsL := []) (rest := []) hZ e0 N0 hml hown (rm11_1 l Z a0 hw a cs fv h0 n0 Z0 F1 B O) E1 (wd hw 63 rfl) (wd hw 64 rfl) (notFace_of_selects (args := #[]) (mvT hZ (wd hw 66 rfl))) (wd hw 66 rfl) (wd hw 65 rfl) (wd hw 2 rfl) (wd hw 67 rfl) (by decide) pd___Z rfl rfl (hb hby d10_1) rfl (by decide) (by decide) (by decide) (by decide)
  obtain ⟨rfl, rfl⟩ := q130
  refine Go.movp st130 (mkF m 4 #[vR a, vI 2] [(.int 0)]) rfl ?_
  refine g_if_eq X130 hx (hb hby d10_4) (pc1 := 7) rfl (by decide) (pc2 := 16) (by decide) (fun hc4 => ?_) (fun hc4 => absurd (by decide) hc4)
  refine g_aloadN X130 hx (hb hby d10_16) (pc' := 17) rfl rfl rfl ?_
  obtain ⟨T131, X131, e131, st131⟩ := getF X130 hx hZ hown (host := "") (Or.inl (wd hw 28 rfl)) Via.refl e130 F2 (g := (mkF m 17 #[vR a, vI 2] [(.ref a)])) rfl rfl (hb hby d10_17)
  refine Go.movp st131 (mkF m 20 #[vR a, vI 2] [(.ref b)]) rfl ?_
  refine g_iloadN X131 hx (hb hby d10_20) (pc' := 21) rfl rfl ?_
  obtain ⟨v132, T132, h132, L132, X132, e132, N132, q132, st132⟩ := h_static X131 hx (W := 0) (Ls := #[vR a, vI 2]) (argsL := [(.ref b), (.int 2)]) (rest := []) hZ e131 N130 hml hown (rm22_3_2 l Z a0 hw b c0 c1 c2 cs fv h0 n0 Z0 V2 B O hc) (wd hw 114 rfl) (wd hw 115 rfl) (wd hw 17 rfl) (wd hw 116 rfl) (by decide) pd___BI_C rfl rfl (hb hby d10_21) rfl (by decide) (by decide) (by decide) (by decide)
  obtain ⟨rfl, rfl⟩ := q132
  refine Go.movp st132 (mkF m 24 #[vR a, vI 2] [(.int c2)]) rfl ?_
  exact g_creturn X132 hx (by rw [← hc]; exact narrow_chr _) hret (hb hby d10_24) N132 hlk (fun v t => endF (by decide) (by decide) v) (by rw [e132]; exact ⟨rfl, rfl⟩)
theorem ef_8_4 (x0 : Addr) (m : MethodId) : entryFrame m #[(.ref x0)] 1 = mkF m 0 #[.val (.ref x0)] [] := by first | (simp [entryFrame, mkF, argsToLocals, Value.category]; done) | rfl
def Q8_4 (Z : State) (a : Addr) (b : Addr) (c0 : Int32) (c1 : Int32) (c2 : Int32) (c3 : Int32) (cs : Int32) (fv : Value) (h0 : Heap) (n0 : Nat) : Option Value → Heap → Prop := fun v h => v = some (.int 4) ∧ h0 = h
theorem rm8_4 (l : Launch) (Z : State) (a0 : Array Value) (hw : HW Z a0) (a : Addr) (b : Addr) (c0 : Int32) (c1 : Int32) (c2 : Int32) (c3 : Int32) (cs : Int32) (fv : Value) (h0 : Heap) (n0 : Nat) (Z0 : n0 ≤ h0.size) (HS : Str Z h0 a b [c0, c1, c2, c3]) (B : Sts Z cs fv) (O : Old Z n0 h0) : Ctr l Z (⟨"java/lang/String", "length", "()I"⟩ : MethodName) jdk_42_method_54_code 1 (some .int) ({ frames := 1, cells := 0, slots := 0, locals := 13 } : Room) #[(.ref a)] h0 n0 (Q8_4 Z a b c0 c1 c2 c3 cs fv h0 n0) := by
 refine Ctr.of (plainFor_of_name pn_13) (ef_8_4 a) ?_
 intro p e s m below meth c T0 hx hby hml hown hnm hret hlk hZ X0 e0
 have N0 := Fr.nil n0
 rcases HS with ⟨F1, F2, E1, V1, C1⟩ | ⟨F1, F2, E1, V1⟩
 ·
  have V2 : Va Z h0 b .byte [(.int (byt c0)), (.int (byt c1)), (.int (byt c2)), (.int (byt c3))] := V1
  refine g_aloadN X0 hx (hb hby d8_0) (pc' := 1) rfl rfl rfl ?_
  obtain ⟨T133, X133, e133, st133⟩ := getF X0 hx hZ hown (host := "") (Or.inl (wd hw 28 rfl)) Via.refl e0 F2 (g := (mkF m 1 #[vR a] [(.ref a)])) rfl rfl (hb hby d8_1)
  refine Go.movp st133 (mkF m 4 #[vR a] [(.ref b)]) rfl ?_
  refine g_arraylength X133 hx hZ e133 V2 (z := 4) (hb hby d8_4) (pc' := 5) rfl rfl ?_
  refine g_aloadN X133 hx (hb hby d8_5) (pc' := 6) rfl rfl rfl ?_
  obtain ⟨v134, T134, h134, L134, X134, e134, N134, q134, st134⟩ := h_virtual (a := a) (z := (⟨"java/lang/String", "coder", "()B"⟩ : MethodName)) X133 hx (W := 1) (Ls := #[vR a]) (argsL := []) (rest := [(.int 4)]) hZ e133 N0 hml hown (rm9_0 l Z a0 hw a cs fv h0 n0 Z0 F1 B O) E1 (wd hw 50 rfl) (wd hw 51 rfl) (notFace_of_selects (args := #[]) (mvT hZ (wd hw 53 rfl))) (wd hw 53 rfl) (wd hw 52 rfl) (wd hw 2 rfl) (wd hw 54 rfl) (by decide) pd___B rfl rfl (hb hby d8_6) rfl (by decide) (by decide) (by decide) (by decide)
  obtain ⟨rfl, rfl⟩ := q134
  refine Go.movp st134 (mkF m 9 #[vR a] [(.int 0), (.int 4)]) rfl ?_
  refine g_ishr X134 hx (hb hby d8_9) (pc' := 10) rfl ?_
  refine Go.cast (show (mkF m 10 #[vR a] [(.int (shr (4 : Int32) (0 : Int32)))]) = (mkF m 10 #[vR a] [(.int 4)]) from by rw [show (shr (4 : Int32) (0 : Int32)) = (4 : Int32) from (by decide)]) ?_
  exact g_ireturn X134 hx hret (hb hby d8_10) N134 hlk (fun v t => endF (by decide) (by decide) v) (by rw [e134]; exact ⟨rfl, rfl⟩)
 ·
  have V2 : Va Z h0 b .byte [(.int (byt (shr c0 (0 : Int32)))), (.int (byt (shr c0 (8 : Int32)))), (.int (byt (shr c1 (0 : Int32)))), (.int (byt (shr c1 (8 : Int32)))), (.int (byt (shr c2 (0 : Int32)))), (.int (byt (shr c2 (8 : Int32)))), (.int (byt (shr c3 (0 : Int32)))), (.int (byt (shr c3 (8 : Int32))))] := V1
  refine g_aloadN X0 hx (hb hby d8_0) (pc' := 1) rfl rfl rfl ?_
  obtain ⟨T135, X135, e135, st135⟩ := getF X0 hx hZ hown (host := "") (Or.inl (wd hw 28 rfl)) Via.refl e0 F2 (g := (mkF m 1 #[vR a] [(.ref a)])) rfl rfl (hb hby d8_1)
  refine Go.movp st135 (mkF m 4 #[vR a] [(.ref b)]) rfl ?_
  refine g_arraylength X135 hx hZ e135 V2 (z := 8) (hb hby d8_4) (pc' := 5) rfl rfl ?_
  refine g_aloadN X135 hx (hb hby d8_5) (pc' := 6) rfl rfl rfl ?_
  obtain ⟨v136, T136, h136, L136, X136, e136, N136, q136, st136⟩ := h_virtual (a := a) (z := (⟨"java/lang/String", "coder", "()B"⟩ : MethodName)) X135 hx (W := 1) (Ls := #[vR a]) (argsL := []) (rest := [(.int 8)]) hZ e135 N0 hml hown (rm9_1 l Z a0 hw a cs fv h0 n0 Z0 F1 B O) E1 (wd hw 50 rfl) (wd hw 51 rfl) (notFace_of_selects (args := #[]) (mvT hZ (wd hw 53 rfl))) (wd hw 53 rfl) (wd hw 52 rfl) (wd hw 2 rfl) (wd hw 54 rfl) (by decide) pd___B rfl rfl (hb hby d8_6) rfl (by decide) (by decide) (by decide) (by decide)
  obtain ⟨rfl, rfl⟩ := q136
  refine Go.movp st136 (mkF m 9 #[vR a] [(.int 1), (.int 8)]) rfl ?_
  refine g_ishr X136 hx (hb hby d8_9) (pc' := 10) rfl ?_
  refine Go.cast (show (mkF m 10 #[vR a] [(.int (shr (8 : Int32) (1 : Int32)))]) = (mkF m 10 #[vR a] [(.int 4)]) from by rw [show (shr (8 : Int32) (1 : Int32)) = (4 : Int32) from (by decide)]) ?_
  exact g_ireturn X136 hx hret (hb hby d8_10) N136 hlk (fun v t => endF (by decide) (by decide) v) (by rw [e136]; exact ⟨rfl, rfl⟩)
theorem ef_10_4_0 (x0 : Addr) (x1 : Int32) (m : MethodId) : entryFrame m #[(.ref x0), (.int x1)] 2 = mkF m 0 #[.val (.ref x0), .val (.int x1)] [] := by first | (simp [entryFrame, mkF, argsToLocals, Value.category]; done) | rfl
def Q10_4_0 (Z : State) (a : Addr) (b : Addr) (c0 : Int32) (c1 : Int32) (c2 : Int32) (c3 : Int32) (cs : Int32) (fv : Value) (h0 : Heap) (n0 : Nat) : Option Value → Heap → Prop := fun v h => v = some (.int c0) ∧ h0 = h
theorem rm10_4_0 (l : Launch) (Z : State) (a0 : Array Value) (hw : HW Z a0) (a : Addr) (b : Addr) (c0 : Int32) (c1 : Int32) (c2 : Int32) (c3 : Int32) (cs : Int32) (fv : Value) (h0 : Heap) (n0 : Nat) (Z0 : n0 ≤ h0.size) (HS : Str Z h0 a b [c0, c1, c2, c3]) (B : Sts Z cs fv) (O : Old Z n0 h0) (hc : chr c0 = c0) : Ctr l Z (⟨"java/lang/String", "charAt", "(I)C"⟩ : MethodName) jdk_42_method_56_code 2 (some .char) ({ frames := 4, cells := 0, slots := 0, locals := 53 } : Room) #[(.ref a), (.int 0)] h0 n0 (Q10_4_0 Z a b c0 c1 c2 c3 cs fv h0 n0) := by
 refine Ctr.of (plainFor_of_name pn_13) (ef_10_4_0 a (0 : Int32)) ?_
 intro p e s m below meth c T0 hx hby hml hown hnm hret hlk hZ X0 e0
 have N0 := Fr.nil n0
 rcases HS with ⟨F1, F2, E1, V1, C1⟩ | ⟨F1, F2, E1, V1⟩
 ·
  have V2 : Va Z h0 b .byte [(.int (byt c0)), (.int (byt c1)), (.int (byt c2)), (.int (byt c3))] := V1
  refine g_aloadN X0 hx (hb hby d10_0) (pc' := 1) rfl rfl rfl ?_
  obtain ⟨v137, T137, h137, L137, X137, e137, N137, q137, st137⟩ := h_virtual (a := a) (z := (⟨"java/lang/String", "isLatin1", "()Z"⟩ : MethodName)) X0 hx (W := 0) (Ls := #[vR a, vI 0]) (argsL := []) (rest := []) hZ e0 N0 hml hown (rm11_0 l Z a0 hw a cs fv h0 n0 Z0 F1 B O) E1 (wd hw 63 rfl) (wd hw 64 rfl) (notFace_of_selects (args := #[]) (mvT hZ (wd hw 66 rfl))) (wd hw 66 rfl) (wd hw 65 rfl) (wd hw 2 rfl) (wd hw 67 rfl) (by decide) pd___Z rfl rfl (hb hby d10_1) rfl (by decide) (by decide) (by decide) (by decide)
  obtain ⟨rfl, rfl⟩ := q137
  refine Go.movp st137 (mkF m 4 #[vR a, vI 0] [(.int 1)]) rfl ?_
  refine g_if_eq X137 hx (hb hby d10_4) (pc1 := 7) rfl (by decide) (pc2 := 16) (by decide) (fun hc4 => absurd hc4 (by decide)) (fun hc4 => ?_)
  refine g_aloadN X137 hx (hb hby d10_7) (pc' := 8) rfl rfl rfl ?_
  obtain ⟨T138, X138, e138, st138⟩ := getF X137 hx hZ hown (host := "") (Or.inl (wd hw 28 rfl)) Via.refl e137 F2 (g := (mkF m 8 #[vR a, vI 0] [(.ref a)])) rfl rfl (hb hby d10_8)
  refine Go.movp st138 (mkF m 11 #[vR a, vI 0] [(.ref b)]) rfl ?_
  refine g_iloadN X138 hx (hb hby d10_11) (pc' := 12) rfl rfl ?_
  obtain ⟨v139, T139, h139, L139, X139, e139, N139, q139, st139⟩ := h_static X138 hx (W := 0) (Ls := #[vR a, vI 0]) (argsL := [(.ref b), (.int 0)]) (rest := []) hZ e138 N137 hml hown (rm12_4_0 l Z a0 hw b c0 c1 c2 c3 cs fv h0 n0 Z0 V2 B O hc (C1 _ (List.mem_of_getElem? (i := 0) rfl))) (wd hw 68 rfl) (wd hw 69 rfl) (wd hw 70 rfl) (wd hw 71 rfl) (by decide) pd___BI_C rfl rfl (hb hby d10_12) rfl (by decide) (by decide) (by decide) (by decide)
  obtain ⟨rfl, rfl⟩ := q139
  refine Go.movp st139 (mkF m 15 #[vR a, vI 0] [(.int c0)]) rfl ?_
  exact g_creturn X139 hx (by rw [← hc]; exact narrow_chr _) hret (hb hby d10_15) N139 hlk (fun v t => endF (by decide) (by decide) v) (by rw [e139]; exact ⟨rfl, rfl⟩)
 ·
  have V2 : Va Z h0 b .byte [(.int (byt (shr c0 (0 : Int32)))), (.int (byt (shr c0 (8 : Int32)))), (.int (byt (shr c1 (0 : Int32)))), (.int (byt (shr c1 (8 : Int32)))), (.int (byt (shr c2 (0 : Int32)))), (.int (byt (shr c2 (8 : Int32)))), (.int (byt (shr c3 (0 : Int32)))), (.int (byt (shr c3 (8 : Int32))))] := V1
  refine g_aloadN X0 hx (hb hby d10_0) (pc' := 1) rfl rfl rfl ?_
  obtain ⟨v140, T140, h140, L140, X140, e140, N140, q140, st140⟩ := h_virtual (a := a) (z := (⟨"java/lang/String", "isLatin1", "()Z"⟩ : MethodName)) X0 hx (W := 0) (Ls := #[vR a, vI 0]) (argsL := []) (rest := []) hZ e0 N0 hml hown (rm11_1 l Z a0 hw a cs fv h0 n0 Z0 F1 B O) E1 (wd hw 63 rfl) (wd hw 64 rfl) (notFace_of_selects (args := #[]) (mvT hZ (wd hw 66 rfl))) (wd hw 66 rfl) (wd hw 65 rfl) (wd hw 2 rfl) (wd hw 67 rfl) (by decide) pd___Z rfl rfl (hb hby d10_1) rfl (by decide) (by decide) (by decide) (by decide)
  obtain ⟨rfl, rfl⟩ := q140
  refine Go.movp st140 (mkF m 4 #[vR a, vI 0] [(.int 0)]) rfl ?_
  refine g_if_eq X140 hx (hb hby d10_4) (pc1 := 7) rfl (by decide) (pc2 := 16) (by decide) (fun hc4 => ?_) (fun hc4 => absurd (by decide) hc4)
  refine g_aloadN X140 hx (hb hby d10_16) (pc' := 17) rfl rfl rfl ?_
  obtain ⟨T141, X141, e141, st141⟩ := getF X140 hx hZ hown (host := "") (Or.inl (wd hw 28 rfl)) Via.refl e140 F2 (g := (mkF m 17 #[vR a, vI 0] [(.ref a)])) rfl rfl (hb hby d10_17)
  refine Go.movp st141 (mkF m 20 #[vR a, vI 0] [(.ref b)]) rfl ?_
  refine g_iloadN X141 hx (hb hby d10_20) (pc' := 21) rfl rfl ?_
  obtain ⟨v142, T142, h142, L142, X142, e142, N142, q142, st142⟩ := h_static X141 hx (W := 0) (Ls := #[vR a, vI 0]) (argsL := [(.ref b), (.int 0)]) (rest := []) hZ e141 N140 hml hown (rm22_4_0 l Z a0 hw b c0 c1 c2 c3 cs fv h0 n0 Z0 V2 B O hc) (wd hw 114 rfl) (wd hw 115 rfl) (wd hw 17 rfl) (wd hw 116 rfl) (by decide) pd___BI_C rfl rfl (hb hby d10_21) rfl (by decide) (by decide) (by decide) (by decide)
  obtain ⟨rfl, rfl⟩ := q142
  refine Go.movp st142 (mkF m 24 #[vR a, vI 0] [(.int c0)]) rfl ?_
  exact g_creturn X142 hx (by rw [← hc]; exact narrow_chr _) hret (hb hby d10_24) N142 hlk (fun v t => endF (by decide) (by decide) v) (by rw [e142]; exact ⟨rfl, rfl⟩)
theorem ef_10_4_1 (x0 : Addr) (x1 : Int32) (m : MethodId) : entryFrame m #[(.ref x0), (.int x1)] 2 = mkF m 0 #[.val (.ref x0), .val (.int x1)] [] := by first | (simp [entryFrame, mkF, argsToLocals, Value.category]; done) | rfl
def Q10_4_1 (Z : State) (a : Addr) (b : Addr) (c0 : Int32) (c1 : Int32) (c2 : Int32) (c3 : Int32) (cs : Int32) (fv : Value) (h0 : Heap) (n0 : Nat) : Option Value → Heap → Prop := fun v h => v = some (.int c1) ∧ h0 = h
theorem rm10_4_1 (l : Launch) (Z : State) (a0 : Array Value) (hw : HW Z a0) (a : Addr) (b : Addr) (c0 : Int32) (c1 : Int32) (c2 : Int32) (c3 : Int32) (cs : Int32) (fv : Value) (h0 : Heap) (n0 : Nat) (Z0 : n0 ≤ h0.size) (HS : Str Z h0 a b [c0, c1, c2, c3]) (B : Sts Z cs fv) (O : Old Z n0 h0) (hc : chr c1 = c1) : Ctr l Z (⟨"java/lang/String", "charAt", "(I)C"⟩ : MethodName) jdk_42_method_56_code 2 (some .char) ({ frames := 4, cells := 0, slots := 0, locals := 53 } : Room) #[(.ref a), (.int 1)] h0 n0 (Q10_4_1 Z a b c0 c1 c2 c3 cs fv h0 n0) := by
 refine Ctr.of (plainFor_of_name pn_13) (ef_10_4_1 a (1 : Int32)) ?_
 intro p e s m below meth c T0 hx hby hml hown hnm hret hlk hZ X0 e0
 have N0 := Fr.nil n0
 rcases HS with ⟨F1, F2, E1, V1, C1⟩ | ⟨F1, F2, E1, V1⟩
 ·
  have V2 : Va Z h0 b .byte [(.int (byt c0)), (.int (byt c1)), (.int (byt c2)), (.int (byt c3))] := V1
  refine g_aloadN X0 hx (hb hby d10_0) (pc' := 1) rfl rfl rfl ?_
  obtain ⟨v143, T143, h143, L143, X143, e143, N143, q143, st143⟩ := h_virtual (a := a) (z := (⟨"java/lang/String", "isLatin1", "()Z"⟩ : MethodName)) X0 hx (W := 0) (Ls := #[vR a, vI 1]) (argsL := []) (rest := []) hZ e0 N0 hml hown (rm11_0 l Z a0 hw a cs fv h0 n0 Z0 F1 B O) E1 (wd hw 63 rfl) (wd hw 64 rfl) (notFace_of_selects (args := #[]) (mvT hZ (wd hw 66 rfl))) (wd hw 66 rfl) (wd hw 65 rfl) (wd hw 2 rfl) (wd hw 67 rfl) (by decide) pd___Z rfl rfl (hb hby d10_1) rfl (by decide) (by decide) (by decide) (by decide)
  obtain ⟨rfl, rfl⟩ := q143
  refine Go.movp st143 (mkF m 4 #[vR a, vI 1] [(.int 1)]) rfl ?_
  refine g_if_eq X143 hx (hb hby d10_4) (pc1 := 7) rfl (by decide) (pc2 := 16) (by decide) (fun hc4 => absurd hc4 (by decide)) (fun hc4 => ?_)
  refine g_aloadN X143 hx (hb hby d10_7) (pc' := 8) rfl rfl rfl ?_
  obtain ⟨T144, X144, e144, st144⟩ := getF X143 hx hZ hown (host := "") (Or.inl (wd hw 28 rfl)) Via.refl e143 F2 (g := (mkF m 8 #[vR a, vI 1] [(.ref a)])) rfl rfl (hb hby d10_8)
  refine Go.movp st144 (mkF m 11 #[vR a, vI 1] [(.ref b)]) rfl ?_
  refine g_iloadN X144 hx (hb hby d10_11) (pc' := 12) rfl rfl ?_
  obtain ⟨v145, T145, h145, L145, X145, e145, N145, q145, st145⟩ := h_static X144 hx (W := 0) (Ls := #[vR a, vI 1]) (argsL := [(.ref b), (.int 1)]) (rest := []) hZ e144 N143 hml hown (rm12_4_1 l Z a0 hw b c0 c1 c2 c3 cs fv h0 n0 Z0 V2 B O hc (C1 _ (List.mem_of_getElem? (i := 1) rfl))) (wd hw 68 rfl) (wd hw 69 rfl) (wd hw 70 rfl) (wd hw 71 rfl) (by decide) pd___BI_C rfl rfl (hb hby d10_12) rfl (by decide) (by decide) (by decide) (by decide)
  obtain ⟨rfl, rfl⟩ := q145
  refine Go.movp st145 (mkF m 15 #[vR a, vI 1] [(.int c1)]) rfl ?_
  exact g_creturn X145 hx (by rw [← hc]; exact narrow_chr _) hret (hb hby d10_15) N145 hlk (fun v t => endF (by decide) (by decide) v) (by rw [e145]; exact ⟨rfl, rfl⟩)
 ·
  have V2 : Va Z h0 b .byte [(.int (byt (shr c0 (0 : Int32)))), (.int (byt (shr c0 (8 : Int32)))), (.int (byt (shr c1 (0 : Int32)))), (.int (byt (shr c1 (8 : Int32)))), (.int (byt (shr c2 (0 : Int32)))), (.int (byt (shr c2 (8 : Int32)))), (.int (byt (shr c3 (0 : Int32)))), (.int (byt (shr c3 (8 : Int32))))] := V1
  refine g_aloadN X0 hx (hb hby d10_0) (pc' := 1) rfl rfl rfl ?_
  obtain ⟨v146, T146, h146, L146, X146, e146, N146, q146, st146⟩ := h_virtual (a := a) (z := (⟨"java/lang/String", "isLatin1", "()Z"⟩ : MethodName)) X0 hx (W := 0) (Ls := #[vR a, vI 1]) (argsL := []) (rest := []) hZ e0 N0 hml hown (rm11_1 l Z a0 hw a cs fv h0 n0 Z0 F1 B O) E1 (wd hw 63 rfl) (wd hw 64 rfl) (notFace_of_selects (args := #[]) (mvT hZ (wd hw 66 rfl))) (wd hw 66 rfl) (wd hw 65 rfl) (wd hw 2 rfl) (wd hw 67 rfl) (by decide) pd___Z rfl rfl (hb hby d10_1) rfl (by decide) (by decide) (by decide) (by decide)
  obtain ⟨rfl, rfl⟩ := q146
  refine Go.movp st146 (mkF m 4 #[vR a, vI 1] [(.int 0)]) rfl ?_
  refine g_if_eq X146 hx (hb hby d10_4) (pc1 := 7) rfl (by decide) (pc2 := 16) (by decide) (fun hc4 => ?_) (fun hc4 => absurd (by decide) hc4)
  refine g_aloadN X146 hx (hb hby d10_16) (pc' := 17) rfl rfl rfl ?_
  obtain ⟨T147, X147, e147, st147⟩ := getF X146 hx hZ hown (host := "") (Or.inl (wd hw 28 rfl)) Via.refl e146 F2 (g := (mkF m 17 #[vR a, vI 1] [(.ref a)])) rfl rfl (hb hby d10_17)
  refine Go.movp st147 (mkF m 20 #[vR a, vI 1] [(.ref b)]) rfl ?_
  refine g_iloadN X147 hx (hb hby d10_20) (pc' := 21) rfl rfl ?_
  obtain ⟨v148, T148, h148, L148, X148, e148, N148, q148, st148⟩ := h_static X147 hx (W := 0) (Ls := #[vR a, vI 1]) (argsL := [(.ref b), (.int 1)]) (rest := []) hZ e147 N146 hml hown (rm22_4_1 l Z a0 hw b c0 c1 c2 c3 cs fv h0 n0 Z0 V2 B O hc) (wd hw 114 rfl) (wd hw 115 rfl) (wd hw 17 rfl) (wd hw 116 rfl) (by decide) pd___BI_C rfl rfl (hb hby d10_21) rfl (by decide) (by decide) (by decide) (by decide)
  obtain ⟨rfl, rfl⟩ := q148
  refine Go.movp st148 (mkF m 24 #[vR a, vI 1] [(.int c1)]) rfl ?_
  exact g_creturn X148 hx (by rw [← hc]; exact narrow_chr _) hret (hb hby d10_24) N148 hlk (fun v t => endF (by decide) (by decide) v) (by rw [e148]; exact ⟨rfl, rfl⟩)
theorem ef_10_4_2 (x0 : Addr) (x1 : Int32) (m : MethodId) : entryFrame m #[(.ref x0), (.int x1)] 2 = mkF m 0 #[.val (.ref x0), .val (.int x1)] [] := by first | (simp [entryFrame, mkF, argsToLocals, Value.category]; done) | rfl
def Q10_4_2 (Z : State) (a : Addr) (b : Addr) (c0 : Int32) (c1 : Int32) (c2 : Int32) (c3 : Int32) (cs : Int32) (fv : Value) (h0 : Heap) (n0 : Nat) : Option Value → Heap → Prop := fun v h => v = some (.int c2) ∧ h0 = h
theorem rm10_4_2 (l : Launch) (Z : State) (a0 : Array Value) (hw : HW Z a0) (a : Addr) (b : Addr) (c0 : Int32) (c1 : Int32) (c2 : Int32) (c3 : Int32) (cs : Int32) (fv : Value) (h0 : Heap) (n0 : Nat) (Z0 : n0 ≤ h0.size) (HS : Str Z h0 a b [c0, c1, c2, c3]) (B : Sts Z cs fv) (O : Old Z n0 h0) (hc : chr c2 = c2) : Ctr l Z (⟨"java/lang/String", "charAt", "(I)C"⟩ : MethodName) jdk_42_method_56_code 2 (some .char) ({ frames := 4, cells := 0, slots := 0, locals := 53 } : Room) #[(.ref a), (.int 2)] h0 n0 (Q10_4_2 Z a b c0 c1 c2 c3 cs fv h0 n0) := by
 refine Ctr.of (plainFor_of_name pn_13) (ef_10_4_2 a (2 : Int32)) ?_
 intro p e s m below meth c T0 hx hby hml hown hnm hret hlk hZ X0 e0
 have N0 := Fr.nil n0
 rcases HS with ⟨F1, F2, E1, V1, C1⟩ | ⟨F1, F2, E1, V1⟩
 ·
  have V2 : Va Z h0 b .byte [(.int (byt c0)), (.int (byt c1)), (.int (byt c2)), (.int (byt c3))] := V1
  refine g_aloadN X0 hx (hb hby d10_0) (pc' := 1) rfl rfl rfl ?_
  obtain ⟨v149, T149, h149, L149, X149, e149, N149, q149, st149⟩ := h_virtual (a := a) (z := (⟨"java/lang/String", "isLatin1", "()Z"⟩ : MethodName)) X0 hx (W := 0) (Ls := #[vR a, vI 2]) (argsL := []) (rest := []) hZ e0 N0 hml hown (rm11_0 l Z a0 hw a cs fv h0 n0 Z0 F1 B O) E1 (wd hw 63 rfl) (wd hw 64 rfl) (notFace_of_selects (args := #[]) (mvT hZ (wd hw 66 rfl))) (wd hw 66 rfl) (wd hw 65 rfl) (wd hw 2 rfl) (wd hw 67 rfl) (by decide) pd___Z rfl rfl (hb hby d10_1) rfl (by decide) (by decide) (by decide) (by decide)
  obtain ⟨rfl, rfl⟩ := q149
  refine Go.movp st149 (mkF m 4 #[vR a, vI 2] [(.int 1)]) rfl ?_
  refine g_if_eq X149 hx (hb hby d10_4) (pc1 := 7) rfl (by decide) (pc2 := 16) (by decide) (fun hc4 => absurd hc4 (by decide)) (fun hc4 => ?_)
  refine g_aloadN X149 hx (hb hby d10_7) (pc' := 8) rfl rfl rfl ?_
  obtain ⟨T150, X150, e150, st150⟩ := getF X149 hx hZ hown (host := "") (Or.inl (wd hw 28 rfl)) Via.refl e149 F2 (g := (mkF m 8 #[vR a, vI 2] [(.ref a)])) rfl rfl (hb hby d10_8)
  refine Go.movp st150 (mkF m 11 #[vR a, vI 2] [(.ref b)]) rfl ?_
  refine g_iloadN X150 hx (hb hby d10_11) (pc' := 12) rfl rfl ?_
  obtain ⟨v151, T151, h151, L151, X151, e151, N151, q151, st151⟩ := h_static X150 hx (W := 0) (Ls := #[vR a, vI 2]) (argsL := [(.ref b), (.int 2)]) (rest := []) hZ e150 N149 hml hown (rm12_4_2 l Z a0 hw b c0 c1 c2 c3 cs fv h0 n0 Z0 V2 B O hc (C1 _ (List.mem_of_getElem? (i := 2) rfl))) (wd hw 68 rfl) (wd hw 69 rfl) (wd hw 70 rfl) (wd hw 71 rfl) (by decide) pd___BI_C rfl rfl (hb hby d10_12) rfl (by decide) (by decide) (by decide) (by decide)
  obtain ⟨rfl, rfl⟩ := q151
  refine Go.movp st151 (mkF m 15 #[vR a, vI 2] [(.int c2)]) rfl ?_
  exact g_creturn X151 hx (by rw [← hc]; exact narrow_chr _) hret (hb hby d10_15) N151 hlk (fun v t => endF (by decide) (by decide) v) (by rw [e151]; exact ⟨rfl, rfl⟩)
 ·
  have V2 : Va Z h0 b .byte [(.int (byt (shr c0 (0 : Int32)))), (.int (byt (shr c0 (8 : Int32)))), (.int (byt (shr c1 (0 : Int32)))), (.int (byt (shr c1 (8 : Int32)))), (.int (byt (shr c2 (0 : Int32)))), (.int (byt (shr c2 (8 : Int32)))), (.int (byt (shr c3 (0 : Int32)))), (.int (byt (shr c3 (8 : Int32))))] := V1
  refine g_aloadN X0 hx (hb hby d10_0) (pc' := 1) rfl rfl rfl ?_
  obtain ⟨v152, T152, h152, L152, X152, e152, N152, q152, st152⟩ := h_virtual (a := a) (z := (⟨"java/lang/String", "isLatin1", "()Z"⟩ : MethodName)) X0 hx (W := 0) (Ls := #[vR a, vI 2]) (argsL := []) (rest := []) hZ e0 N0 hml hown (rm11_1 l Z a0 hw a cs fv h0 n0 Z0 F1 B O) E1 (wd hw 63 rfl) (wd hw 64 rfl) (notFace_of_selects (args := #[]) (mvT hZ (wd hw 66 rfl))) (wd hw 66 rfl) (wd hw 65 rfl) (wd hw 2 rfl) (wd hw 67 rfl) (by decide) pd___Z rfl rfl (hb hby d10_1) rfl (by decide) (by decide) (by decide) (by decide)
  obtain ⟨rfl, rfl⟩ := q152
  refine Go.movp st152 (mkF m 4 #[vR a, vI 2] [(.int 0)]) rfl ?_
  refine g_if_eq X152 hx (hb hby d10_4) (pc1 := 7) rfl (by decide) (pc2 := 16) (by decide) (fun hc4 => ?_) (fun hc4 => absurd (by decide) hc4)
  refine g_aloadN X152 hx (hb hby d10_16) (pc' := 17) rfl rfl rfl ?_
  obtain ⟨T153, X153, e153, st153⟩ := getF X152 hx hZ hown (host := "") (Or.inl (wd hw 28 rfl)) Via.refl e152 F2 (g := (mkF m 17 #[vR a, vI 2] [(.ref a)])) rfl rfl (hb hby d10_17)
  refine Go.movp st153 (mkF m 20 #[vR a, vI 2] [(.ref b)]) rfl ?_
  refine g_iloadN X153 hx (hb hby d10_20) (pc' := 21) rfl rfl ?_
  obtain ⟨v154, T154, h154, L154, X154, e154, N154, q154, st154⟩ := h_static X153 hx (W := 0) (Ls := #[vR a, vI 2]) (argsL := [(.ref b), (.int 2)]) (rest := []) hZ e153 N152 hml hown (rm22_4_2 l Z a0 hw b c0 c1 c2 c3 cs fv h0 n0 Z0 V2 B O hc) (wd hw 114 rfl) (wd hw 115 rfl) (wd hw 17 rfl) (wd hw 116 rfl) (by decide) pd___BI_C rfl rfl (hb hby d10_21) rfl (by decide) (by decide) (by decide) (by decide)
  obtain ⟨rfl, rfl⟩ := q154
  refine Go.movp st154 (mkF m 24 #[vR a, vI 2] [(.int c2)]) rfl ?_
  exact g_creturn X154 hx (by rw [← hc]; exact narrow_chr _) hret (hb hby d10_24) N154 hlk (fun v t => endF (by decide) (by decide) v) (by rw [e154]; exact ⟨rfl, rfl⟩)
theorem ef_10_4_3 (x0 : Addr) (x1 : Int32) (m : MethodId) : entryFrame m #[(.ref x0), (.int x1)] 2 = mkF m 0 #[.val (.ref x0), .val (.int x1)] [] := by first | (simp [entryFrame, mkF, argsToLocals, Value.category]; done) | rfl
def Q10_4_3 (Z : State) (a : Addr) (b : Addr) (c0 : Int32) (c1 : Int32) (c2 : Int32) (c3 : Int32) (cs : Int32) (fv : Value) (h0 : Heap) (n0 : Nat) : Option Value → Heap → Prop := fun v h => v = some (.int c3) ∧ h0 = h
theorem rm10_4_3 (l : Launch) (Z : State) (a0 : Array Value) (hw : HW Z a0) (a : Addr) (b : Addr) (c0 : Int32) (c1 : Int32) (c2 : Int32) (c3 : Int32) (cs : Int32) (fv : Value) (h0 : Heap) (n0 : Nat) (Z0 : n0 ≤ h0.size) (HS : Str Z h0 a b [c0, c1, c2, c3]) (B : Sts Z cs fv) (O : Old Z n0 h0) (hc : chr c3 = c3) : Ctr l Z (⟨"java/lang/String", "charAt", "(I)C"⟩ : MethodName) jdk_42_method_56_code 2 (some .char) ({ frames := 4, cells := 0, slots := 0, locals := 53 } : Room) #[(.ref a), (.int 3)] h0 n0 (Q10_4_3 Z a b c0 c1 c2 c3 cs fv h0 n0) := by
 refine Ctr.of (plainFor_of_name pn_13) (ef_10_4_3 a (3 : Int32)) ?_
 intro p e s m below meth c T0 hx hby hml hown hnm hret hlk hZ X0 e0
 have N0 := Fr.nil n0
 rcases HS with ⟨F1, F2, E1, V1, C1⟩ | ⟨F1, F2, E1, V1⟩
 ·
  have V2 : Va Z h0 b .byte [(.int (byt c0)), (.int (byt c1)), (.int (byt c2)), (.int (byt c3))] := V1
  refine g_aloadN X0 hx (hb hby d10_0) (pc' := 1) rfl rfl rfl ?_
  obtain ⟨v155, T155, h155, L155, X155, e155, N155, q155, st155⟩ := h_virtual (a := a) (z := (⟨"java/lang/String", "isLatin1", "()Z"⟩ : MethodName)) X0 hx (W := 0) (Ls := #[vR a, vI 3]) (argsL := []) (rest := []) hZ e0 N0 hml hown (rm11_0 l Z a0 hw a cs fv h0 n0 Z0 F1 B O) E1 (wd hw 63 rfl) (wd hw 64 rfl) (notFace_of_selects (args := #[]) (mvT hZ (wd hw 66 rfl))) (wd hw 66 rfl) (wd hw 65 rfl) (wd hw 2 rfl) (wd hw 67 rfl) (by decide) pd___Z rfl rfl (hb hby d10_1) rfl (by decide) (by decide) (by decide) (by decide)
  obtain ⟨rfl, rfl⟩ := q155
  refine Go.movp st155 (mkF m 4 #[vR a, vI 3] [(.int 1)]) rfl ?_
  refine g_if_eq X155 hx (hb hby d10_4) (pc1 := 7) rfl (by decide) (pc2 := 16) (by decide) (fun hc4 => absurd hc4 (by decide)) (fun hc4 => ?_)
  refine g_aloadN X155 hx (hb hby d10_7) (pc' := 8) rfl rfl rfl ?_
  obtain ⟨T156, X156, e156, st156⟩ := getF X155 hx hZ hown (host := "") (Or.inl (wd hw 28 rfl)) Via.refl e155 F2 (g := (mkF m 8 #[vR a, vI 3] [(.ref a)])) rfl rfl (hb hby d10_8)
  refine Go.movp st156 (mkF m 11 #[vR a, vI 3] [(.ref b)]) rfl ?_
  refine g_iloadN X156 hx (hb hby d10_11) (pc' := 12) rfl rfl ?_
  obtain ⟨v157, T157, h157, L157, X157, e157, N157, q157, st157⟩ := h_static X156 hx (W := 0) (Ls := #[vR a, vI 3]) (argsL := [(.ref b), (.int 3)]) (rest := []) hZ e156 N155 hml hown (rm12_4_3 l Z a0 hw b c0 c1 c2 c3 cs fv h0 n0 Z0 V2 B O hc (C1 _ (List.mem_of_getElem? (i := 3) rfl))) (wd hw 68 rfl) (wd hw 69 rfl) (wd hw 70 rfl) (wd hw 71 rfl) (by decide) pd___BI_C rfl rfl (hb hby d10_12) rfl (by decide) (by decide) (by decide) (by decide)
  obtain ⟨rfl, rfl⟩ := q157
  refine Go.movp st157 (mkF m 15 #[vR a, vI 3] [(.int c3)]) rfl ?_
  exact g_creturn X157 hx (by rw [← hc]; exact narrow_chr _) hret (hb hby d10_15) N157 hlk (fun v t => endF (by decide) (by decide) v) (by rw [e157]; exact ⟨rfl, rfl⟩)
 ·
  have V2 : Va Z h0 b .byte [(.int (byt (shr c0 (0 : Int32)))), (.int (byt (shr c0 (8 : Int32)))), (.int (byt (shr c1 (0 : Int32)))), (.int (byt (shr c1 (8 : Int32)))), (.int (byt (shr c2 (0 : Int32)))), (.int (byt (shr c2 (8 : Int32)))), (.int (byt (shr c3 (0 : Int32)))), (.int (byt (shr c3 (8 : Int32))))] := V1
  refine g_aloadN X0 hx (hb hby d10_0) (pc' := 1) rfl rfl rfl ?_
  obtain ⟨v158, T158, h158, L158, X158, e158, N158, q158, st158⟩ := h_virtual (a := a) (z := (⟨"java/lang/String", "isLatin1", "()Z"⟩ : MethodName)) X0 hx (W := 0) (Ls := #[vR a, vI 3]) (argsL := []) (rest := []) hZ e0 N0 hml hown (rm11_1 l Z a0 hw a cs fv h0 n0 Z0 F1 B O) E1 (wd hw 63 rfl) (wd hw 64 rfl) (notFace_of_selects (args := #[]) (mvT hZ (wd hw 66 rfl))) (wd hw 66 rfl) (wd hw 65 rfl) (wd hw 2 rfl) (wd hw 67 rfl) (by decide) pd___Z rfl rfl (hb hby d10_1) rfl (by decide) (by decide) (by decide) (by decide)
  obtain ⟨rfl, rfl⟩ := q158
  refine Go.movp st158 (mkF m 4 #[vR a, vI 3] [(.int 0)]) rfl ?_
  refine g_if_eq X158 hx (hb hby d10_4) (pc1 := 7) rfl (by decide) (pc2 := 16) (by decide) (fun hc4 => ?_) (fun hc4 => absurd (by decide) hc4)
  refine g_aloadN X158 hx (hb hby d10_16) (pc' := 17) rfl rfl rfl ?_
  obtain ⟨T159, X159, e159, st159⟩ := getF X158 hx hZ hown (host := "") (Or.inl (wd hw 28 rfl)) Via.refl e158 F2 (g := (mkF m 17 #[vR a, vI 3] [(.ref a)])) rfl rfl (hb hby d10_17)
  refine Go.movp st159 (mkF m 20 #[vR a, vI 3] [(.ref b)]) rfl ?_
  refine g_iloadN X159 hx (hb hby d10_20) (pc' := 21) rfl rfl ?_
  obtain ⟨v160, T160, h160, L160, X160, e160, N160, q160, st160⟩ := h_static X159 hx (W := 0) (Ls := #[vR a, vI 3]) (argsL := [(.ref b), (.int 3)]) (rest := []) hZ e159 N158 hml hown (rm22_4_3 l Z a0 hw b c0 c1 c2 c3 cs fv h0 n0 Z0 V2 B O hc) (wd hw 114 rfl) (wd hw 115 rfl) (wd hw 17 rfl) (wd hw 116 rfl) (by decide) pd___BI_C rfl rfl (hb hby d10_21) rfl (by decide) (by decide) (by decide) (by decide)
  obtain ⟨rfl, rfl⟩ := q160
  refine Go.movp st160 (mkF m 24 #[vR a, vI 3] [(.int c3)]) rfl ?_
  exact g_creturn X160 hx (by rw [← hc]; exact narrow_chr _) hret (hb hby d10_24) N160 hlk (fun v t => endF (by decide) (by decide) v) (by rw [e160]; exact ⟨rfl, rfl⟩)
theorem d19_0 : decode jdk_52_method_3_code 0 = .ok (.iload_n 0, 1) := by decide +kernel
theorem d19_1 : decode jdk_52_method_3_code 1 = .ok (.ifCond .ge 11, 3) := by decide +kernel
theorem d19_12 : decode jdk_52_method_3_code 12 = .ok (.iload_n 0, 1) := by decide +kernel
theorem d19_13 : decode jdk_52_method_3_code 13 = .ok (.ldc 20, 2) := by decide +kernel
theorem d19_15 : decode jdk_52_method_3_code 15 = .ok (.if_icmp .lt 40, 3) := by decide +kernel
theorem d19_55 : decode jdk_52_method_3_code 55 = .ok (.iload_n 0, 1) := by decide +kernel
theorem d19_56 : decode jdk_52_method_3_code 56 = .ok (.iconst 1, 1) := by decide +kernel
theorem d19_57 : decode jdk_52_method_3_code 57 = .ok (.ishl, 1) := by decide +kernel
theorem d19_58 : decode jdk_52_method_3_code 58 = .ok (.ireturn, 1) := by decide +kernel
theorem ef_19_1 (x0 : Int32) (m : MethodId) : entryFrame m #[(.int x0)] 1 = mkF m 0 #[.val (.int x0)] [] := by first | (simp [entryFrame, mkF, argsToLocals, Value.category]; done) | rfl
def Q19_1 (Z : State)  (h0 : Heap) (n0 : Nat) : Option Value → Heap → Prop := fun v h => v = some (.int 2) ∧ h0 = h
theorem rm19_1 (l : Launch) (Z : State) (a0 : Array Value) (hw : HW Z a0)  (h0 : Heap) (n0 : Nat) (Z0 : n0 ≤ h0.size) : Ctr l Z (⟨"java/lang/StringUTF16", "newBytesLength", "(I)I"⟩ : MethodName) jdk_52_method_3_code 1 (some .int) ({ frames := 0, cells := 0, slots := 0, locals := 0 } : Room) #[(.int 1)] h0 n0 (Q19_1 Z  h0 n0) := by
 refine Ctr.of (plainFor_of_name pn_24) (ef_19_1 (1 : Int32)) ?_
 intro p e s m below meth c T0 hx hby hml hown hnm hret hlk hZ X0 e0
 have N0 := Fr.nil n0
 refine g_iloadN X0 hx (hb hby d19_0) (pc' := 1) rfl rfl ?_
 refine g_if_ge X0 hx (hb hby d19_1) (pc1 := 4) rfl (by decide) (pc2 := 12) (by decide) (fun hc1 => ?_) (fun hc1 => absurd hc1 (by decide))
 refine g_iloadN X0 hx (hb hby d19_12) (pc' := 13) rfl rfl ?_
 refine g_ldc X0 hx hZ hown (wd hw 104 rfl) (hb hby d19_13) (pc' := 15) rfl ?_
 refine g_icmp_lt X0 hx (hb hby d19_15) (pc1 := 18) rfl (by decide) (pc2 := 55) (by decide) (fun hc15 => ?_) (fun hc15 => absurd (by decide) hc15)
 refine g_iloadN X0 hx (hb hby d19_55) (pc' := 56) rfl rfl ?_
 refine g_iconst X0 hx (hb hby d19_56) (pc' := 57) rfl (z := 1) rfl ?_
 refine g_ishl X0 hx (hb hby d19_57) (pc' := 58) rfl ?_
 refine Go.cast (show (mkF m 58 #[vI 1] [(.int (shl (1 : Int32) (1 : Int32)))]) = (mkF m 58 #[vI 1] [(.int 2)]) from by rw [show (shl (1 : Int32) (1 : Int32)) = (2 : Int32) from (by decide)]) ?_
 exact g_ireturn X0 hx hret (hb hby d19_58) N0 hlk (fun v t => endF (by decide) (by decide) v) (by rw [e0]; exact ⟨rfl, rfl⟩)
theorem pd__I_I : parseMethodDescriptor "(I)I" = some ⟨[.int], some .int⟩ := by decide +kernel
theorem d18_0 : decode jdk_52_method_2_code 0 = .ok (.iload_n 0, 1) := by decide +kernel
theorem d18_1 : decode jdk_52_method_2_code 1 = .ok (.invokestatic 11, 3) := by decide +kernel
theorem d18_4 : decode jdk_52_method_2_code 4 = .ok (.newarray .byte, 2) := by decide +kernel
theorem d18_6 : decode jdk_52_method_2_code 6 = .ok (.areturn, 1) := by decide +kernel
theorem ef_18_1 (x0 : Int32) (m : MethodId) : entryFrame m #[(.int x0)] 1 = mkF m 0 #[.val (.int x0)] [] := by first | (simp [entryFrame, mkF, argsToLocals, Value.category]; done) | rfl
def Q18_1 (Z : State)  (h0 : Heap) (n0 : Nat) : Option Value → Heap → Prop := fun v h => ∃ r, v = some (.ref r) ∧ n0 ≤ r ∧ h0.size ≤ r ∧ Keep h0 h [] ∧ Va Z h r .byte [(.int 0), (.int 0)] ∧ Exa Z h r "[B"
theorem rm18_1 (l : Launch) (Z : State) (a0 : Array Value) (hw : HW Z a0)  (h0 : Heap) (n0 : Nat) (Z0 : n0 ≤ h0.size) : Ctr l Z (⟨"java/lang/StringUTF16", "newBytesFor", "(I)[B"⟩ : MethodName) jdk_52_method_2_code 1 (some (.array .byte)) ({ frames := 1, cells := 1, slots := 2, locals := 12 } : Room) #[(.int 1)] h0 n0 (Q18_1 Z  h0 n0) := by
 refine Ctr.of (plainFor_of_name pn_24) (ef_18_1 (1 : Int32)) ?_
 intro p e s m below meth c T0 hx hby hml hown hnm hret hlk hZ X0 e0
 have N0 := Fr.nil n0
 refine g_iloadN X0 hx (hb hby d18_0) (pc' := 1) rfl rfl ?_
 obtain ⟨v161, T161, h161, L161, X161, e161, N161, q161, st161⟩ := h_static X0 hx (W := 0) (Ls := #[vI 1]) (argsL := [(.int 1)]) (rest := []) hZ e0 N0 hml hown (rm19_1 l Z a0 hw h0 n0 Z0) (wd hw 101 rfl) (wd hw 102 rfl) (wd hw 17 rfl) (wd hw 103 rfl) (by decide) pd__I_I rfl rfl (hb hby d18_1) rfl (by decide) (by decide) (by decide) (by decide)
 obtain ⟨rfl, rfl⟩ := q161
 refine Go.movp st161 (mkF m 4 #[vI 1] [(.int 2)]) rfl ?_
 obtain ⟨T162, h162, b162, X162, e162, g162, E162, V162, A162, st162⟩ := h_newarray X161 hx hZ e161 (n := (2 : Int32)) (ty := .byte) rfl (wd hw 19 rfl) (hb hby d18_4) (k := 2) (cap := 2) (by decide) rfl (by decide) (by decide) (by decide) (by decide) (ad := "[B") (by decide) #[vI 1] []
 have ge163 : n0 ≤ b162 := g162 ▸ Z0
 have sz164 : h0.size ≤ b162 := g162 ▸ (Keep.refl h0 []).1
 have Z165 : n0 ≤ h162.size := Nat.le_trans Z0 E162.1
 have K166 := (Keep.refl h0 []).ext E162
 have f167 : Va Z h162 b162 .byte [(.int 0), (.int 0)] := V162
 refine Go.movp st162 (mkF m 6 #[vI 1] [(.ref b162)]) rfl ?_
 exact g_areturn X162 hx rfl rfl hret (hb hby d18_6) N161 hlk (fun v t => endF (by decide) (by decide) v) (by rw [e162]; exact ⟨_, rfl, ge163, sz164, K166, f167, A162⟩)
theorem d20_0 : decode jdk_52_method_4_code 0 = .ok (.getstatic 44, 3) := by decide +kernel
theorem d20_3 : decode jdk_52_method_4_code 3 = .ok (.ifCond .ne 25, 3) := by decide +kernel
theorem d20_28 : decode jdk_52_method_4_code 28 = .ok (.iload_n 1, 1) := by decide +kernel
theorem d20_29 : decode jdk_52_method_4_code 29 = .ok (.iconst 1, 1) := by decide +kernel
theorem d20_30 : decode jdk_52_method_4_code 30 = .ok (.ishl, 1) := by decide +kernel
theorem d20_31 : decode jdk_52_method_4_code 31 = .ok (.istore_n 1, 1) := by decide +kernel
theorem d20_32 : decode jdk_52_method_4_code 32 = .ok (.aload_n 0, 1) := by decide +kernel
theorem d20_33 : decode jdk_52_method_4_code 33 = .ok (.iload_n 1, 1) := by decide +kernel
theorem d20_34 : decode jdk_52_method_4_code 34 = .ok (.iinc 1 1, 3) := by decide +kernel
theorem d20_37 : decode jdk_52_method_4_code 37 = .ok (.iload_n 2, 1) := by decide +kernel
theorem d20_38 : decode jdk_52_method_4_code 38 = .ok (.getstatic 59, 3) := by decide +kernel
theorem d20_41 : decode jdk_52_method_4_code 41 = .ok (.ishr, 1) := by decide +kernel
theorem d20_42 : decode jdk_52_method_4_code 42 = .ok (.i2b, 1) := by decide +kernel
theorem d20_43 : decode jdk_52_method_4_code 43 = .ok (.bastore, 1) := by decide +kernel
theorem d20_44 : decode jdk_52_method_4_code 44 = .ok (.aload_n 0, 1) := by decide +kernel
theorem d20_45 : decode jdk_52_method_4_code 45 = .ok (.iload_n 1, 1) := by decide +kernel
theorem d20_46 : decode jdk_52_method_4_code 46 = .ok (.iload_n 2, 1) := by decide +kernel
theorem d20_47 : decode jdk_52_method_4_code 47 = .ok (.getstatic 63, 3) := by decide +kernel
theorem d20_50 : decode jdk_52_method_4_code 50 = .ok (.ishr, 1) := by decide +kernel
theorem d20_51 : decode jdk_52_method_4_code 51 = .ok (.i2b, 1) := by decide +kernel
theorem d20_52 : decode jdk_52_method_4_code 52 = .ok (.bastore, 1) := by decide +kernel
theorem d20_53 : decode jdk_52_method_4_code 53 = .ok (.return_, 1) := by decide +kernel
theorem ef_20_1_0 (x0 : Addr) (x1 : Int32) (x2 : Int32) (m : MethodId) : entryFrame m #[(.ref x0), (.int x1), (.int x2)] 3 = mkF m 0 #[.val (.ref x0), .val (.int x1), .val (.int x2)] [] := by first | (simp [entryFrame, mkF, argsToLocals, Value.category]; done) | rfl
def Q20_1_0 (Z : State) (a : Addr) (x0 : Int32) (x1 : Int32) (cx : Int32) (cs : Int32) (fv : Value) (h0 : Heap) (n0 : Nat) : Option Value → Heap → Prop := fun v h => v = none ∧ Keep h0 h [a] ∧ Va Z h a .byte [(.int (byt (shr cx (0 : Int32)))), (.int (byt (shr cx (8 : Int32))))]
theorem rm20_1_0 (l : Launch) (Z : State) (a0 : Array Value) (hw : HW Z a0) (a : Addr) (x0 : Int32) (x1 : Int32) (cx : Int32) (cs : Int32) (fv : Value) (h0 : Heap) (n0 : Nat) (Z0 : n0 ≤ h0.size) (V1 : Va Z h0 a .byte [(.int x0), (.int x1)]) (G1 : n0 ≤ a) (B : Sts Z cs fv) (O : Old Z n0 h0) : Ctr l Z (⟨"java/lang/StringUTF16", "putChar", "([BII)V"⟩ : MethodName) jdk_52_method_4_code 3 none ({ frames := 0, cells := 0, slots := 0, locals := 0 } : Room) #[(.ref a), (.int 0), (.int cx)] h0 n0 (Q20_1_0 Z a x0 x1 cx cs fv h0 n0) := by
 refine Ctr.of (plainFor_of_name pn_24) (ef_20_1_0 a (0 : Int32) cx) ?_
 intro p e s m below meth c T0 hx hby hml hown hnm hret hlk hZ X0 e0
 have N0 := Fr.nil n0
 obtain ⟨T168, X168, e168, st168⟩ := getS2 X0 hx hZ hown (host := "") (Or.inl (wd hw 108 rfl)) Via.refl e0 (Sta.ext O.2 B.2.2.1) (g := (mkF m 0 #[vR a, vI 0, vI cx] [])) rfl (hb hby d20_0)
 refine Go.movp st168 (mkF m 3 #[vR a, vI 0, vI cx] [(.int 1)]) rfl ?_
 refine g_if_ne X168 hx (hb hby d20_3) (pc1 := 6) rfl (by decide) (pc2 := 28) (by decide) (fun hc3 => ?_) (fun hc3 => absurd hc3 (by decide))
 refine g_iloadN X168 hx (hb hby d20_28) (pc' := 29) rfl rfl ?_
 refine g_iconst X168 hx (hb hby d20_29) (pc' := 30) rfl (z := 1) rfl ?_
 refine g_ishl X168 hx (hb hby d20_30) (pc' := 31) rfl ?_
 refine Go.cast (show (mkF m 31 #[vR a, vI 0, vI cx] [(.int (shl (0 : Int32) (1 : Int32)))]) = (mkF m 31 #[vR a, vI 0, vI cx] [(.int 0)]) from by rw [show (shl (0 : Int32) (1 : Int32)) = (0 : Int32) from (by decide)]) ?_
 refine g_istoreN X168 hx (hb hby d20_31) (pc' := 32) rfl (Ls' := #[vR a, vI 0, vI cx]) rfl ?_
 refine g_aloadN X168 hx (hb hby d20_32) (pc' := 33) rfl rfl rfl ?_
 refine g_iloadN X168 hx (hb hby d20_33) (pc' := 34) rfl rfl ?_
 refine g_iinc X168 hx (hb hby d20_34) (pc' := 37) rfl rfl (z := 1) rfl (Ls' := #[vR a, vI 1, vI cx]) rfl ?_
 refine g_iloadN X168 hx (hb hby d20_37) (pc' := 38) rfl rfl ?_
 obtain ⟨T169, X169, e169, st169⟩ := getS2 X168 hx hZ hown (host := "") (Or.inl (wd hw 109 rfl)) Via.refl e168 (Sta.ext O.2 B.2.2.2.1) (g := (mkF m 38 #[vR a, vI 1, vI cx] [(.int cx), (.int 0), (.ref a)])) rfl (hb hby d20_38)
 refine Go.movp st169 (mkF m 41 #[vR a, vI 1, vI cx] [(.int 0), (.int cx), (.int 0), (.ref a)]) rfl ?_
 refine g_ishr X169 hx (hb hby d20_41) (pc' := 42) rfl ?_
 refine g_i2b X169 hx (hb hby d20_42) (pc' := 43) rfl ?_
 obtain ⟨T170, h170, L170, X170, e170, N170, W170, V170, st170⟩ := h_bastore X169 hx hZ e169 N0 V1 G1 (j := (0 : Int32)) (i := 0) (x := (byt (shr cx (0 : Int32)))) (hb hby d20_43) (by decide) rfl rfl #[vR a, vI 1, vI cx] []
 have f171 := O.wr W170 G1
 have Z172 : n0 ≤ h170.size := Nat.le_trans Z0 (Keep.of_wr W170).1
 have K173 := (Keep.refl h0 [a]).wr W170 (Or.inl (List.mem_of_getElem? (i := 0) rfl))
 have f174 : Va Z h170 a .byte [(.int (byt (byt (shr cx (0 : Int32))))), (.int x1)] := V170
 have f175 : Va Z h170 a .byte [(.int (byt (shr cx (0 : Int32)))), (.int x1)] := by rw [show (byt (byt (shr cx (0 : Int32)))) = (byt (shr cx (0 : Int32))) from byt_byt _] at f174; exact f174
 refine Go.movp st170 (mkF m 44 #[vR a, vI 1, vI cx] []) rfl ?_
 refine g_aloadN X170 hx (hb hby d20_44) (pc' := 45) rfl rfl rfl ?_
 refine g_iloadN X170 hx (hb hby d20_45) (pc' := 46) rfl rfl ?_
 refine g_iloadN X170 hx (hb hby d20_46) (pc' := 47) rfl rfl ?_
 obtain ⟨T176, X176, e176, st176⟩ := getS2 X170 hx hZ hown (host := "") (Or.inl (wd hw 110 rfl)) Via.refl e170 (Sta.ext f171.2 B.2.2.2.2.1) (g := (mkF m 47 #[vR a, vI 1, vI cx] [(.int cx), (.int 1), (.ref a)])) rfl (hb hby d20_47)
 refine Go.movp st176 (mkF m 50 #[vR a, vI 1, vI cx] [(.int 8), (.int cx), (.int 1), (.ref a)]) rfl ?_
 refine g_ishr X176 hx (hb hby d20_50) (pc' := 51) rfl ?_
 refine g_i2b X176 hx (hb hby d20_51) (pc' := 52) rfl ?_
 obtain ⟨T177, h177, L177, X177, e177, N177, W177, V177, st177⟩ := h_bastore X176 hx hZ e176 N170 f175 G1 (j := (1 : Int32)) (i := 1) (x := (byt (shr cx (8 : Int32)))) (hb hby d20_52) (by decide) rfl rfl #[vR a, vI 1, vI cx] []
 have f178 := f171.wr W177 G1
 have Z179 : n0 ≤ h177.size := Nat.le_trans Z172 (Keep.of_wr W177).1
 have K180 := K173.wr W177 (Or.inl (List.mem_of_getElem? (i := 0) rfl))
 have f181 : Va Z h177 a .byte [(.int (byt (shr cx (0 : Int32)))), (.int (byt (byt (shr cx (8 : Int32)))))] := V177
 have f182 : Va Z h177 a .byte [(.int (byt (shr cx (0 : Int32)))), (.int (byt (shr cx (8 : Int32))))] := by rw [show (byt (byt (shr cx (8 : Int32)))) = (byt (shr cx (8 : Int32))) from byt_byt _] at f181; exact f181
 refine Go.movp st177 (mkF m 53 #[vR a, vI 1, vI cx] []) rfl ?_
 exact g_return X177 hx hret (hb hby d20_53) N177 hlk (fun v t => endF (by decide) (by decide) v) (by rw [e177]; exact ⟨rfl, K180, f182⟩)
theorem pd__I__B : parseMethodDescriptor "(I)[B" = some ⟨[.int], some (.array .byte)⟩ := by decide +kernel
theorem pd___BII_V : parseMethodDescriptor "([BII)V" = some ⟨[(.array .byte), .int, .int], none⟩ := by decide +kernel
theorem d17_0 : decode jdk_52_method_14_code 0 = .ok (.iload_n 2, 1) := by decide +kernel
theorem d17_1 : decode jdk_52_method_14_code 1 = .ok (.invokestatic 107, 3) := by decide +kernel
theorem d17_4 : decode jdk_52_method_14_code 4 = .ok (.astore_n 3, 1) := by decide +kernel
theorem d17_5 : decode jdk_52_method_14_code 5 = .ok (.iconst 0, 1) := by decide +kernel
theorem d17_6 : decode jdk_52_method_14_code 6 = .ok (.istore 4, 2) := by decide +kernel
theorem d17_8 : decode jdk_52_method_14_code 8 = .ok (.iload 4, 2) := by decide +kernel
theorem d17_10 : decode jdk_52_method_14_code 10 = .ok (.iload_n 2, 1) := by decide +kernel
theorem d17_11 : decode jdk_52_method_14_code 11 = .ok (.if_icmp .ge 21, 3) := by decide +kernel
theorem d17_14 : decode jdk_52_method_14_code 14 = .ok (.aload_n 3, 1) := by decide +kernel
theorem d17_15 : decode jdk_52_method_14_code 15 = .ok (.iload 4, 2) := by decide +kernel
theorem d17_17 : decode jdk_52_method_14_code 17 = .ok (.aload_n 0, 1) := by decide +kernel
theorem d17_18 : decode jdk_52_method_14_code 18 = .ok (.iload_n 1, 1) := by decide +kernel
theorem d17_19 : decode jdk_52_method_14_code 19 = .ok (.caload, 1) := by decide +kernel
theorem d17_20 : decode jdk_52_method_14_code 20 = .ok (.invokestatic 111, 3) := by decide +kernel
theorem d17_23 : decode jdk_52_method_14_code 23 = .ok (.iinc 1 1, 3) := by decide +kernel
theorem d17_26 : decode jdk_52_method_14_code 26 = .ok (.iinc 4 1, 3) := by decide +kernel
theorem d17_29 : decode jdk_52_method_14_code 29 = .ok (.goto (-21), 3) := by decide +kernel
theorem d17_32 : decode jdk_52_method_14_code 32 = .ok (.aload_n 3, 1) := by decide +kernel
theorem d17_33 : decode jdk_52_method_14_code 33 = .ok (.areturn, 1) := by decide +kernel
theorem ef_17_1 (x0 : Addr) (x1 : Int32) (x2 : Int32) (m : MethodId) : entryFrame m #[(.ref x0), (.int x1), (.int x2)] 5 = mkF m 0 #[.val (.ref x0), .val (.int x1), .val (.int x2), .unset, .unset] [] := by first | (simp [entryFrame, mkF, argsToLocals, Value.category]; done) | rfl
def Q17_1 (Z : State) (a : Addr) (c0 : Int32) (cs : Int32) (fv : Value) (h0 : Heap) (n0 : Nat) : Option Value → Heap → Prop := fun v h => ∃ r, v = some (.ref r) ∧ n0 ≤ r ∧ h0.size ≤ r ∧ Keep h0 h [] ∧ Va Z h r .byte [(.int (byt (shr c0 (0 : Int32)))), (.int (byt (shr c0 (8 : Int32))))] ∧ Exa Z h r "[B"
theorem rm17_1 (l : Launch) (Z : State) (a0 : Array Value) (hw : HW Z a0) (a : Addr) (c0 : Int32) (cs : Int32) (fv : Value) (h0 : Heap) (n0 : Nat) (Z0 : n0 ≤ h0.size) (V1 : Va Z h0 a .char [(.int c0)]) (B : Sts Z cs fv) (O : Old Z n0 h0) : Ctr l Z (⟨"java/lang/StringUTF16", "toBytes", "([CII)[B"⟩ : MethodName) jdk_52_method_14_code 5 (some (.array .byte)) ({ frames := 2, cells := 1, slots := 2, locals := 24 } : Room) #[(.ref a), (.int 0), (.int 1)] h0 n0 (Q17_1 Z a c0 cs fv h0 n0) := by
 refine Ctr.of (plainFor_of_name pn_24) (ef_17_1 a (0 : Int32) (1 : Int32)) ?_
 intro p e s m below meth c T0 hx hby hml hown hnm hret hlk hZ X0 e0
 have N0 := Fr.nil n0
 refine g_iloadN X0 hx (hb hby d17_0) (pc' := 1) rfl rfl ?_
 obtain ⟨v183, T183, h183, L183, X183, e183, N183, q183, st183⟩ := h_static X0 hx (W := 0) (Ls := #[vR a, vI 0, vI 1, .unset, .unset]) (argsL := [(.int 1)]) (rest := []) hZ e0 N0 hml hown (rm18_1 l Z a0 hw h0 n0 Z0) (wd hw 98 rfl) (wd hw 99 rfl) (wd hw 17 rfl) (wd hw 100 rfl) (by decide) pd__I__B rfl rfl (hb hby d17_1) rfl (by decide) (by decide) (by decide) (by decide)
 obtain ⟨r183, rfl, ge183, sz183, K183, V183, A183⟩ := q183
 have f184 := O.keep K183 all0
 have f185 := V1.keep K183 nin0
 have Z186 : n0 ≤ h183.size := Nat.le_trans Z0 K183.1
 have K187 := (Keep.refl h0 []).trans K183 all0
 have ne188 : a ≠ r183 := Nat.ne_of_lt (Nat.lt_of_lt_of_le V1.lt sz183)
 have sz189 : h0.size ≤ r183 := Nat.le_trans (Keep.refl h0 []).1 sz183
 refine Go.movp st183 (mkF m 4 #[vR a, vI 0, vI 1, .unset, .unset] [(.ref r183)]) rfl ?_
 refine g_astoreN X183 hx (hb hby d17_4) (pc' := 5) rfl rfl (Ls' := #[vR a, vI 0, vI 1, vR r183, .unset]) rfl ?_
 refine g_iconst X183 hx (hb hby d17_5) (pc' := 6) rfl (z := 0) rfl ?_
 refine g_istore X183 hx (hb hby d17_6) (pc' := 8) rfl (Ls' := #[vR a, vI 0, vI 1, vR r183, vI 0]) rfl ?_
 refine g_iload X183 hx (hb hby d17_8) (pc' := 10) rfl rfl ?_
 refine g_iloadN X183 hx (hb hby d17_10) (pc' := 11) rfl rfl ?_
 refine g_icmp_ge X183 hx (hb hby d17_11) (pc1 := 14) rfl (by decide) (pc2 := 32) (by decide) (fun hc11 => absurd (by decide) hc11) (fun hc11 => ?_)
 refine g_aloadN X183 hx (hb hby d17_14) (pc' := 15) rfl rfl rfl ?_
 refine g_iload X183 hx (hb hby d17_15) (pc' := 17) rfl rfl ?_
 refine g_aloadN X183 hx (hb hby d17_17) (pc' := 18) rfl rfl rfl ?_
 refine g_iloadN X183 hx (hb hby d17_18) (pc' := 19) rfl rfl ?_
 refine g_caload X183 hx hZ e183 f185 (i := 0) (v := (.int c0)) (hb hby d17_19) (pc' := 20) rfl (by decide) rfl rfl ?_
 obtain ⟨v190, T190, h190, L190, X190, e190, N190, q190, st190⟩ := h_static X183 hx (W := 0) (Ls := #[vR a, vI 0, vI 1, vR r183, vI 0]) (argsL := [(.ref r183), (.int 0), (.int c0)]) (rest := []) hZ e183 N183 hml hown (rm20_1_0 l Z a0 hw r183 (0 : Int32) (0 : Int32) c0 cs fv h183 n0 Z186 V183 ge183 B f184) (wd hw 105 rfl) (wd hw 106 rfl) (wd hw 17 rfl) (wd hw 107 rfl) (by decide) pd___BII_V rfl rfl (hb hby d17_20) rfl (by decide) (by decide) (by decide) (by decide)
 obtain ⟨rfl, K190, V190⟩ := q190
 have f191 := f184.keep K190 (allS ge183 all0)
 have f192 := f185.keep K190 (ninS ne188 nin0)
 have f193 := A183.keep K190
 have Z194 : n0 ≤ h190.size := Nat.le_trans Z186 K190.1
 have K195 := K187.trans K190 (allS (Or.inr sz189) all0)
 refine Go.movp st190 (mkF m 23 #[vR a, vI 0, vI 1, vR r183, vI 0] []) rfl ?_
 refine g_iinc X190 hx (hb hby d17_23) (pc' := 26) rfl rfl (z := 1) rfl (Ls' := #[vR a, vI 1, vI 1, vR r183, vI 0]) rfl ?_
 refine g_iinc X190 hx (hb hby d17_26) (pc' := 29) rfl rfl (z := 1) rfl (Ls' := #[vR a, vI 1, vI 1, vR r183, vI 1]) rfl ?_
 refine g_goto X190 hx (hb hby d17_29) (by decide) (pc' := 8) (by decide) ?_
 refine g_iload X190 hx (hb hby d17_8) (pc' := 10) rfl rfl ?_
 refine g_iloadN X190 hx (hb hby d17_10) (pc' := 11) rfl rfl ?_
 refine g_icmp_ge X190 hx (hb hby d17_11) (pc1 := 14) rfl (by decide) (pc2 := 32) (by decide) (fun hc11_1 => ?_) (fun hc11_1 => absurd hc11_1 (by decide))
 refine g_aloadN X190 hx (hb hby d17_32) (pc' := 33) rfl rfl rfl ?_
 exact g_areturn X190 hx rfl rfl hret (hb hby d17_33) N190 hlk (fun v t => endF (by decide) (by decide) v) (by rw [e190]; exact ⟨_, rfl, ge183, sz189, K195, V190, f193⟩)
theorem d5_0 : decode jdk_52_method_21_code 0 = .ok (.iconst 0, 1) := by decide +kernel
theorem d5_1 : decode jdk_52_method_21_code 1 = .ok (.istore 5, 2) := by decide +kernel
theorem d5_3 : decode jdk_52_method_21_code 3 = .ok (.iload 5, 2) := by decide +kernel
theorem d5_5 : decode jdk_52_method_21_code 5 = .ok (.iload 4, 2) := by decide +kernel
theorem d5_7 : decode jdk_52_method_21_code 7 = .ok (.if_icmp .ge 37, 3) := by decide +kernel
theorem d5_10 : decode jdk_52_method_21_code 10 = .ok (.aload_n 0, 1) := by decide +kernel
theorem d5_11 : decode jdk_52_method_21_code 11 = .ok (.iload_n 1, 1) := by decide +kernel
theorem d5_12 : decode jdk_52_method_21_code 12 = .ok (.caload, 1) := by decide +kernel
theorem d5_13 : decode jdk_52_method_21_code 13 = .ok (.istore 6, 2) := by decide +kernel
theorem d5_15 : decode jdk_52_method_21_code 15 = .ok (.iload 6, 2) := by decide +kernel
theorem d5_17 : decode jdk_52_method_21_code 17 = .ok (.sipush 255, 3) := by decide +kernel
theorem d5_20 : decode jdk_52_method_21_code 20 = .ok (.if_icmp .le 6, 3) := by decide +kernel
theorem d5_23 : decode jdk_52_method_21_code 23 = .ok (.iload 5, 2) := by decide +kernel
theorem d5_25 : decode jdk_52_method_21_code 25 = .ok (.ireturn, 1) := by decide +kernel
theorem d5_26 : decode jdk_52_method_21_code 26 = .ok (.aload_n 2, 1) := by decide +kernel
theorem d5_27 : decode jdk_52_method_21_code 27 = .ok (.iload_n 3, 1) := by decide +kernel
theorem d5_28 : decode jdk_52_method_21_code 28 = .ok (.iload 6, 2) := by decide +kernel
theorem d5_30 : decode jdk_52_method_21_code 30 = .ok (.i2b, 1) := by decide +kernel
theorem d5_31 : decode jdk_52_method_21_code 31 = .ok (.bastore, 1) := by decide +kernel
theorem d5_32 : decode jdk_52_method_21_code 32 = .ok (.iinc 1 1, 3) := by decide +kernel
theorem d5_35 : decode jdk_52_method_21_code 35 = .ok (.iinc 3 1, 3) := by decide +kernel
theorem d5_38 : decode jdk_52_method_21_code 38 = .ok (.iinc 5 1, 3) := by decide +kernel
theorem d5_41 : decode jdk_52_method_21_code 41 = .ok (.goto (-38), 3) := by decide +kernel
theorem d5_44 : decode jdk_52_method_21_code 44 = .ok (.iload 4, 2) := by decide +kernel
theorem d5_46 : decode jdk_52_method_21_code 46 = .ok (.ireturn, 1) := by decide +kernel
theorem ef_5_1 (x0 : Addr) (x1 : Int32) (x2 : Addr) (x3 : Int32) (x4 : Int32) (m : MethodId) : entryFrame m #[(.ref x0), (.int x1), (.ref x2), (.int x3), (.int x4)] 7 = mkF m 0 #[.val (.ref x0), .val (.int x1), .val (.ref x2), .val (.int x3), .val (.int x4), .unset, .unset] [] := by first | (simp [entryFrame, mkF, argsToLocals, Value.category]; done) | rfl
def Q5_1 (Z : State) (a : Addr) (b : Addr) (c0 : Int32) (h0 : Heap) (n0 : Nat) : Option Value → Heap → Prop := fun v h => ∃ k : Int32, v = some (.int k) ∧ Keep h0 h [b] ∧ ((k = (0 : Int32) ∧ 255 < c0) ∨ (k = (1 : Int32) ∧ (∀ c ∈ [c0], ¬ 255 < c) ∧ Va Z h b .byte [(.int (byt c0))]))
theorem rm5_1 (l : Launch) (Z : State) (a0 : Array Value) (hw : HW Z a0) (a : Addr) (b : Addr) (c0 : Int32) (h0 : Heap) (n0 : Nat) (Z0 : n0 ≤ h0.size) (V1 : Va Z h0 a .char [(.int c0)]) (V2 : Va Z h0 b .byte [(.int 0)]) (G2 : n0 ≤ b) (ne1 : a ≠ b) : Ctr l Z (⟨"java/lang/StringUTF16", "compress", "([CI[BII)I"⟩ : MethodName) jdk_52_method_21_code 7 (some .int) ({ frames := 0, cells := 0, slots := 0, locals := 0 } : Room) #[(.ref a), (.int 0), (.ref b), (.int 0), (.int 1)] h0 n0 (Q5_1 Z a b c0 h0 n0) := by
 refine Ctr.of (plainFor_of_name pn_24) (ef_5_1 a (0 : Int32) b (0 : Int32) (1 : Int32)) ?_
 intro p e s m below meth c T0 hx hby hml hown hnm hret hlk hZ X0 e0
 have N0 := Fr.nil n0
 refine g_iconst X0 hx (hb hby d5_0) (pc' := 1) rfl (z := 0) rfl ?_
 refine g_istore X0 hx (hb hby d5_1) (pc' := 3) rfl (Ls' := #[vR a, vI 0, vR b, vI 0, vI 1, vI 0, .unset]) rfl ?_
 refine g_iload X0 hx (hb hby d5_3) (pc' := 5) rfl rfl ?_
 refine g_iload X0 hx (hb hby d5_5) (pc' := 7) rfl rfl ?_
 refine g_icmp_ge X0 hx (hb hby d5_7) (pc1 := 10) rfl (by decide) (pc2 := 44) (by decide) (fun hc7 => absurd (by decide) hc7) (fun hc7 => ?_)
 refine g_aloadN X0 hx (hb hby d5_10) (pc' := 11) rfl rfl rfl ?_
 refine g_iloadN X0 hx (hb hby d5_11) (pc' := 12) rfl rfl ?_
 refine g_caload X0 hx hZ e0 V1 (i := 0) (v := (.int c0)) (hb hby d5_12) (pc' := 13) rfl (by decide) rfl rfl ?_
 refine g_istore X0 hx (hb hby d5_13) (pc' := 15) rfl (Ls' := #[vR a, vI 0, vR b, vI 0, vI 1, vI 0, vI c0]) rfl ?_
 refine g_iload X0 hx (hb hby d5_15) (pc' := 17) rfl rfl ?_
 refine g_sipush X0 hx (hb hby d5_17) (pc' := 20) rfl (z := 255) rfl ?_
 refine g_icmp_le X0 hx (hb hby d5_20) (pc1 := 23) rfl (by decide) (pc2 := 26) (by decide) (fun hc20 => ?_) (fun hc20 => ?_)
 ·
  refine g_aloadN X0 hx (hb hby d5_26) (pc' := 27) rfl rfl rfl ?_
  refine g_iloadN X0 hx (hb hby d5_27) (pc' := 28) rfl rfl ?_
  refine g_iload X0 hx (hb hby d5_28) (pc' := 30) rfl rfl ?_
  refine g_i2b X0 hx (hb hby d5_30) (pc' := 31) rfl ?_
  obtain ⟨T196, h196, L196, X196, e196, N196, W196, V196, st196⟩ := h_bastore X0 hx hZ e0 N0 V2 G2 (j := (0 : Int32)) (i := 0) (x := (byt c0)) (hb hby d5_31) (by decide) rfl rfl #[vR a, vI 0, vR b, vI 0, vI 1, vI 0, vI c0] []
  have f197 := V1.other W196 ne1
  have Z198 : n0 ≤ h196.size := Nat.le_trans Z0 (Keep.of_wr W196).1
  have K199 := (Keep.refl h0 [b]).wr W196 (Or.inl (List.mem_of_getElem? (i := 0) rfl))
  have f200 : Va Z h196 b .byte [(.int (byt (byt c0)))] := V196
  have f201 : Va Z h196 b .byte [(.int (byt c0))] := by rw [show (byt (byt c0)) = (byt c0) from byt_byt _] at f200; exact f200
  refine Go.movp st196 (mkF m 32 #[vR a, vI 0, vR b, vI 0, vI 1, vI 0, vI c0] []) rfl ?_
  refine g_iinc X196 hx (hb hby d5_32) (pc' := 35) rfl rfl (z := 1) rfl (Ls' := #[vR a, vI 1, vR b, vI 0, vI 1, vI 0, vI c0]) rfl ?_
  refine g_iinc X196 hx (hb hby d5_35) (pc' := 38) rfl rfl (z := 1) rfl (Ls' := #[vR a, vI 1, vR b, vI 1, vI 1, vI 0, vI c0]) rfl ?_
  refine g_iinc X196 hx (hb hby d5_38) (pc' := 41) rfl rfl (z := 1) rfl (Ls' := #[vR a, vI 1, vR b, vI 1, vI 1, vI 1, vI c0]) rfl ?_
  refine g_goto X196 hx (hb hby d5_41) (by decide) (pc' := 3) (by decide) ?_
  refine g_iload X196 hx (hb hby d5_3) (pc' := 5) rfl rfl ?_
  refine g_iload X196 hx (hb hby d5_5) (pc' := 7) rfl rfl ?_
  refine g_icmp_ge X196 hx (hb hby d5_7) (pc1 := 10) rfl (by decide) (pc2 := 44) (by decide) (fun hc7_1 => ?_) (fun hc7_1 => absurd hc7_1 (by decide))
  refine g_iload X196 hx (hb hby d5_44) (pc' := 46) rfl rfl ?_
  exact g_ireturn X196 hx hret (hb hby d5_46) N196 hlk (fun v t => endF (by decide) (by decide) v) (by rw [e196]; exact ⟨_, rfl, K199, Or.inr (⟨rfl, (List.forall_mem_cons.mpr ⟨hc20, (fun _ q => nomatch q)⟩), f201⟩)⟩)
 ·
  refine g_iload X0 hx (hb hby d5_23) (pc' := 25) rfl rfl ?_
  exact g_ireturn X0 hx hret (hb hby d5_25) N0 hlk (fun v t => endF (by decide) (by decide) v) (by rw [e0]; exact ⟨_, rfl, (Keep.refl h0 [b]), Or.inl ⟨rfl, hc20⟩⟩)
theorem pd___CI_BII_I : parseMethodDescriptor "([CI[BII)I" = some ⟨[(.array .char), .int, (.array .byte), .int, .int], some .int⟩ := by decide +kernel
theorem pd___CII__B : parseMethodDescriptor "([CII)[B" = some ⟨[(.array .char), .int, .int], some (.array .byte)⟩ := by decide +kernel
theorem d4_0 : decode jdk_52_method_16_code 0 = .ok (.iload_n 2, 1) := by decide +kernel
theorem d4_1 : decode jdk_52_method_16_code 1 = .ok (.newarray .byte, 2) := by decide +kernel
theorem d4_3 : decode jdk_52_method_16_code 3 = .ok (.astore_n 3, 1) := by decide +kernel
theorem d4_4 : decode jdk_52_method_16_code 4 = .ok (.aload_n 0, 1) := by decide +kernel
theorem d4_5 : decode jdk_52_method_16_code 5 = .ok (.iload_n 1, 1) := by decide +kernel
theorem d4_6 : decode jdk_52_method_16_code 6 = .ok (.aload_n 3, 1) := by decide +kernel
theorem d4_7 : decode jdk_52_method_16_code 7 = .ok (.iconst 0, 1) := by decide +kernel
theorem d4_8 : decode jdk_52_method_16_code 8 = .ok (.iload_n 2, 1) := by decide +kernel
theorem d4_9 : decode jdk_52_method_16_code 9 = .ok (.invokestatic 115, 3) := by decide +kernel
theorem d4_12 : decode jdk_52_method_16_code 12 = .ok (.istore 4, 2) := by decide +kernel
theorem d4_14 : decode jdk_52_method_16_code 14 = .ok (.iload 4, 2) := by decide +kernel
theorem d4_16 : decode jdk_52_method_16_code 16 = .ok (.iload_n 2, 1) := by decide +kernel
theorem d4_17 : decode jdk_52_method_16_code 17 = .ok (.if_icmp .eq 40, 3) := by decide +kernel
theorem d4_20 : decode jdk_52_method_16_code 20 = .ok (.aload_n 0, 1) := by decide +kernel
theorem d4_21 : decode jdk_52_method_16_code 21 = .ok (.iload_n 1, 1) := by decide +kernel
theorem d4_22 : decode jdk_52_method_16_code 22 = .ok (.iload_n 2, 1) := by decide +kernel
theorem d4_23 : decode jdk_52_method_16_code 23 = .ok (.invokestatic 119, 3) := by decide +kernel
theorem d4_26 : decode jdk_52_method_16_code 26 = .ok (.astore 5, 2) := by decide +kernel
theorem d4_28 : decode jdk_52_method_16_code 28 = .ok (.aload 5, 2) := by decide +kernel
theorem d4_30 : decode jdk_52_method_16_code 30 = .ok (.iload 4, 2) := by decide +kernel
theorem d4_32 : decode jdk_52_method_16_code 32 = .ok (.invokestatic 71, 3) := by decide +kernel
theorem d4_35 : decode jdk_52_method_16_code 35 = .ok (.sipush 255, 3) := by decide +kernel
theorem d4_38 : decode jdk_52_method_16_code 38 = .ok (.if_icmp .gt 16, 3) := by decide +kernel
theorem d4_54 : decode jdk_52_method_16_code 54 = .ok (.aload 5, 2) := by decide +kernel
theorem d4_56 : decode jdk_52_method_16_code 56 = .ok (.areturn, 1) := by decide +kernel
theorem d4_57 : decode jdk_52_method_16_code 57 = .ok (.aload_n 3, 1) := by decide +kernel
theorem d4_58 : decode jdk_52_method_16_code 58 = .ok (.areturn, 1) := by decide +kernel
theorem ef_4_1 (x0 : Addr) (x1 : Int32) (x2 : Int32) (m : MethodId) : entryFrame m #[(.ref x0), (.int x1), (.int x2)] 6 = mkF m 0 #[.val (.ref x0), .val (.int x1), .val (.int x2), .unset, .unset, .unset] [] := by first | (simp [entryFrame, mkF, argsToLocals, Value.category]; done) | rfl
def Q4_1 (Z : State) (a : Addr) (c0 : Int32) (cs : Int32) (fv : Value) (h0 : Heap) (n0 : Nat) : Option Value → Heap → Prop := fun v h => ∃ r, v = some (.ref r) ∧ n0 ≤ r ∧ h0.size ≤ r ∧ Keep h0 h [] ∧ Exa Z h r "[B" ∧ ((Va Z h r .byte [(.int (byt c0))] ∧ ∀ c ∈ [c0], ¬ 255 < c) ∨ Va Z h r .byte [(.int (byt (shr c0 (0 : Int32)))), (.int (byt (shr c0 (8 : Int32))))])
theorem rm4_1 (l : Launch) (Z : State) (a0 : Array Value) (hw : HW Z a0) (a : Addr) (c0 : Int32) (cs : Int32) (fv : Value) (h0 : Heap) (n0 : Nat) (Z0 : n0 ≤ h0.size) (V1 : Va Z h0 a .char [(.int c0)]) (B : Sts Z cs fv) (O : Old Z n0 h0) (hc0 : chr c0 = c0) : Ctr l Z (⟨"java/lang/StringUTF16", "compress", "([CII)[B"⟩ : MethodName) jdk_52_method_16_code 6 (some (.array .byte)) ({ frames := 3, cells := 2, slots := 3, locals := 40 } : Room) #[(.ref a), (.int 0), (.int 1)] h0 n0 (Q4_1 Z a c0 cs fv h0 n0) := by
 refine Ctr.of (plainFor_of_name pn_24) (ef_4_1 a (0 : Int32) (1 : Int32)) ?_
 intro p e s m below meth c T0 hx hby hml hown hnm hret hlk hZ X0 e0
 have N0 := Fr.nil n0
 refine g_iloadN X0 hx (hb hby d4_0) (pc' := 1) rfl rfl ?_
 obtain ⟨T202, h202, b202, X202, e202, g202, E202, V202, A202, st202⟩ := h_newarray X0 hx hZ e0 (n := (1 : Int32)) (ty := .byte) rfl (wd hw 19 rfl) (hb hby d4_1) (k := 1) (cap := 1) (by decide) rfl (by decide) (by decide) (by decide) (by decide) (ad := "[B") (by decide) #[vR a, vI 0, vI 1, .unset, .unset, .unset] []
 have ne203 : a ≠ b202 := Nat.ne_of_lt (g202 ▸ V1.lt)
 have ge204 : n0 ≤ b202 := g202 ▸ Z0
 have sz205 : h0.size ≤ b202 := g202 ▸ (Keep.refl h0 []).1
 have f206 := O.ext E202
 have f207 := V1.ext E202
 have Z208 : n0 ≤ h202.size := Nat.le_trans Z0 E202.1
 have K209 := (Keep.refl h0 []).ext E202
 have f210 : Va Z h202 b202 .byte [(.int 0)] := V202
 refine Go.movp st202 (mkF m 3 #[vR a, vI 0, vI 1, .unset, .unset, .unset] [(.ref b202)]) rfl ?_
 refine g_astoreN X202 hx (hb hby d4_3) (pc' := 4) rfl rfl (Ls' := #[vR a, vI 0, vI 1, vR b202, .unset, .unset]) rfl ?_
 refine g_aloadN X202 hx (hb hby d4_4) (pc' := 5) rfl rfl rfl ?_
 refine g_iloadN X202 hx (hb hby d4_5) (pc' := 6) rfl rfl ?_
 refine g_aloadN X202 hx (hb hby d4_6) (pc' := 7) rfl rfl rfl ?_
 refine g_iconst X202 hx (hb hby d4_7) (pc' := 8) rfl (z := 0) rfl ?_
 refine g_iloadN X202 hx (hb hby d4_8) (pc' := 9) rfl rfl ?_
 obtain ⟨v211, T211, h211, L211, X211, e211, N211, q211, st211⟩ := h_static X202 hx (W := 0) (Ls := #[vR a, vI 0, vI 1, vR b202, .unset, .unset]) (argsL := [(.ref a), (.int 0), (.ref b202), (.int 0), (.int 1)]) (rest := []) hZ e202 N0 hml hown (rm5_1 l Z a0 hw a b202 c0 h202 n0 Z208 f207 f210 ge204 ne203) (wd hw 20 rfl) (wd hw 21 rfl) (wd hw 17 rfl) (wd hw 22 rfl) (by decide) pd___CI_BII_I rfl rfl (hb hby d4_9) rfl (by decide) (by decide) (by decide) (by decide)
 obtain ⟨k211, rfl, K211, D211⟩ := q211
 have f212 := f206.keep K211 (allS ge204 all0)
 have f213 := f207.keep K211 (ninS ne203 nin0)
 have f214 := A202.keep K211
 have Z215 : n0 ≤ h211.size := Nat.le_trans Z208 K211.1
 have K216 := K209.trans K211 (allS (Or.inr sz205) all0)
 refine Go.movp st211 (mkF m 12 #[vR a, vI 0, vI 1, vR b202, .unset, .unset] [(.int k211)]) rfl ?_
 refine g_istore X211 hx (hb hby d4_12) (pc' := 14) rfl (Ls' := #[vR a, vI 0, vI 1, vR b202, vI k211, .unset]) rfl ?_
 rcases D211 with ⟨rfl, g211⟩ | ⟨rfl, C211, V211⟩
 ·
  refine g_iload X211 hx (hb hby d4_14) (pc' := 16) rfl rfl ?_
  refine g_iloadN X211 hx (hb hby d4_16) (pc' := 17) rfl rfl ?_
  refine g_icmp_eq X211 hx (hb hby d4_17) (pc1 := 20) rfl (by decide) (pc2 := 57) (by decide) (fun hc17 => absurd hc17 (by decide)) (fun hc17 => ?_)
  refine g_aloadN X211 hx (hb hby d4_20) (pc' := 21) rfl rfl rfl ?_
  refine g_iloadN X211 hx (hb hby d4_21) (pc' := 22) rfl rfl ?_
  refine g_iloadN X211 hx (hb hby d4_22) (pc' := 23) rfl rfl ?_
  obtain ⟨v217, T217, h217, L217, X217, e217, N217, q217, st217⟩ := h_static X211 hx (W := 0) (Ls := #[vR a, vI 0, vI 1, vR b202, vI 0, .unset]) (argsL := [(.ref a), (.int 0), (.int 1)]) (rest := []) hZ e211 N211 hml hown (rm17_1 l Z a0 hw a c0 cs fv h211 n0 Z215 f213 B f212) (wd hw 95 rfl) (wd hw 96 rfl) (wd hw 17 rfl) (wd hw 97 rfl) (by decide) pd___CII__B rfl rfl (hb hby d4_23) rfl (by decide) (by decide) (by decide) (by decide)
  obtain ⟨r217, rfl, ge217, sz217, K217, V217, A217⟩ := q217
  have f218 := f212.keep K217 all0
  have f219 := f213.keep K217 nin0
  have f220 := f214.keep K217
  have Z221 : n0 ≤ h217.size := Nat.le_trans Z215 K217.1
  have K222 := K216.trans K217 all0
  have ne223 : a ≠ r217 := Nat.ne_of_lt (Nat.lt_of_lt_of_le f213.lt sz217)
  have ne224 : b202 ≠ r217 := Nat.ne_of_lt (Nat.lt_of_lt_of_le f214.lt sz217)
  have sz225 : h0.size ≤ r217 := Nat.le_trans K216.1 sz217
  refine Go.movp st217 (mkF m 26 #[vR a, vI 0, vI 1, vR b202, vI 0, .unset] [(.ref r217)]) rfl ?_
  refine g_astore X217 hx (hb hby d4_26) (pc' := 28) rfl rfl (Ls' := #[vR a, vI 0, vI 1, vR b202, vI 0, vR r217]) rfl ?_
  refine g_aload X217 hx (hb hby d4_28) (pc' := 30) rfl rfl rfl ?_
  refine g_iload X217 hx (hb hby d4_30) (pc' := 32) rfl rfl ?_
  obtain ⟨v226, T226, h226, L226, X226, e226, N226, q226, st226⟩ := h_static X217 hx (W := 0) (Ls := #[vR a, vI 0, vI 1, vR b202, vI 0, vR r217]) (argsL := [(.ref r217), (.int 0)]) (rest := []) hZ e217 N217 hml hown (rm21_1_0 l Z a0 hw r217 c0 cs fv h217 n0 Z221 V217 B f218 hc0) (wd hw 111 rfl) (wd hw 112 rfl) (wd hw 17 rfl) (wd hw 113 rfl) (by decide) pd___BI_C rfl rfl (hb hby d4_32) rfl (by decide) (by decide) (by decide) (by decide)
  obtain ⟨rfl, rfl⟩ := q226
  refine Go.movp st226 (mkF m 35 #[vR a, vI 0, vI 1, vR b202, vI 0, vR r217] [(.int c0)]) rfl ?_
  refine g_sipush X226 hx (hb hby d4_35) (pc' := 38) rfl (z := 255) rfl ?_
  refine g_icmp_gt X226 hx (hb hby d4_38) (pc1 := 41) rfl (by decide) (pc2 := 54) (by decide) (fun hc38 => ?_) (fun hc38 => absurd g211 hc38)
  refine g_aload X226 hx (hb hby d4_54) (pc' := 56) rfl rfl rfl ?_
  exact g_areturn X226 hx rfl rfl hret (hb hby d4_56) N226 hlk (fun v t => endF (by decide) (by decide) v) (by rw [e226]; exact ⟨_, rfl, ge217, sz225, K222, A217, Or.inr V217⟩)
 ·
  refine g_iload X211 hx (hb hby d4_14) (pc' := 16) rfl rfl ?_
  refine g_iloadN X211 hx (hb hby d4_16) (pc' := 17) rfl rfl ?_
  refine g_icmp_eq X211 hx (hb hby d4_17) (pc1 := 20) rfl (by decide) (pc2 := 57) (by decide) (fun hc17 => ?_) (fun hc17 => absurd (by decide) hc17)
  refine g_aloadN X211 hx (hb hby d4_57) (pc' := 58) rfl rfl rfl ?_
  exact g_areturn X211 hx rfl rfl hret (hb hby d4_58) N211 hlk (fun v t => endF (by decide) (by decide) v) (by rw [e211]; exact ⟨_, rfl, ge204, sz205, K216, f214, Or.inl ⟨V211, C211⟩⟩)
theorem d6_0 : decode jdk_52_method_15_code 0 = .ok (.iload_n 1, 1) := by decide +kernel
theorem d6_1 : decode jdk_52_method_15_code 1 = .ok (.aload_n 0, 1) := by decide +kernel
theorem d6_2 : decode jdk_52_method_15_code 2 = .ok (.arraylength, 1) := by decide +kernel
theorem d6_3 : decode jdk_52_method_15_code 3 = .ok (.isub, 1) := by decide +kernel
theorem d6_4 : decode jdk_52_method_15_code 4 = .ok (.bipush 31, 2) := by decide +kernel
theorem d6_6 : decode jdk_52_method_15_code 6 = .ok (.iushr, 1) := by decide +kernel
theorem d6_7 : decode jdk_52_method_15_code 7 = .ok (.i2b, 1) := by decide +kernel
theorem d6_8 : decode jdk_52_method_15_code 8 = .ok (.ireturn, 1) := by decide +kernel
theorem ef_6_1L (x0 : Addr) (x1 : Int32) (m : MethodId) : entryFrame m #[(.ref x0), (.int x1)] 2 = mkF m 0 #[.val (.ref x0), .val (.int x1)] [] := by first | (simp [entryFrame, mkF, argsToLocals, Value.category]; done) | rfl
def Q6_1L (Z : State) (b : Addr) (x0 : Int32) (h0 : Heap) (n0 : Nat) : Option Value → Heap → Prop := fun v h => v = some (.int 0) ∧ h0 = h
theorem rm6_1L (l : Launch) (Z : State) (a0 : Array Value) (hw : HW Z a0) (b : Addr) (x0 : Int32) (h0 : Heap) (n0 : Nat) (Z0 : n0 ≤ h0.size) (V1 : Va Z h0 b .byte [(.int x0)]) : Ctr l Z (⟨"java/lang/StringUTF16", "coderFromArrayLen", "([BI)B"⟩ : MethodName) jdk_52_method_15_code 2 (some .byte) ({ frames := 0, cells := 0, slots := 0, locals := 0 } : Room) #[(.ref b), (.int 1)] h0 n0 (Q6_1L Z b x0 h0 n0) := by
 refine Ctr.of (plainFor_of_name pn_24) (ef_6_1L b (1 : Int32)) ?_
 intro p e s m below meth c T0 hx hby hml hown hnm hret hlk hZ X0 e0
 have N0 := Fr.nil n0
 refine g_iloadN X0 hx (hb hby d6_0) (pc' := 1) rfl rfl ?_
 refine g_aloadN X0 hx (hb hby d6_1) (pc' := 2) rfl rfl rfl ?_
 refine g_arraylength X0 hx hZ e0 V1 (z := 1) (hb hby d6_2) (pc' := 3) rfl rfl ?_
 refine g_isub X0 hx (hb hby d6_3) (pc' := 4) rfl ?_
 refine Go.cast (show (mkF m 4 #[vR b, vI 1] [(.int ((1 : Int32) - (1 : Int32)))]) = (mkF m 4 #[vR b, vI 1] [(.int 0)]) from by rw [show ((1 : Int32) - (1 : Int32)) = (0 : Int32) from (by decide)]) ?_
 refine g_bipush X0 hx (hb hby d6_4) (pc' := 6) rfl (z := 31) rfl ?_
 refine g_iushr X0 hx (hb hby d6_6) (pc' := 7) rfl ?_
 refine Go.cast (show (mkF m 7 #[vR b, vI 1] [(.int (ushr (0 : Int32) (31 : Int32)))]) = (mkF m 7 #[vR b, vI 1] [(.int 0)]) from by rw [show (ushr (0 : Int32) (31 : Int32)) = (0 : Int32) from (by decide)]) ?_
 refine g_i2b X0 hx (hb hby d6_7) (pc' := 8) rfl ?_
 refine Go.cast (show (mkF m 8 #[vR b, vI 1] [(.int (byt (0 : Int32)))]) = (mkF m 8 #[vR b, vI 1] [(.int 0)]) from by rw [show (byt (0 : Int32)) = (0 : Int32) from (by decide)]) ?_
 exact g_breturn X0 hx rfl hret (hb hby d6_8) N0 hlk (fun v t => endF (by decide) (by decide) v) (by rw [e0]; exact ⟨rfl, rfl⟩)
theorem ef_6_1U (x0 : Addr) (x1 : Int32) (m : MethodId) : entryFrame m #[(.ref x0), (.int x1)] 2 = mkF m 0 #[.val (.ref x0), .val (.int x1)] [] := by first | (simp [entryFrame, mkF, argsToLocals, Value.category]; done) | rfl
def Q6_1U (Z : State) (b : Addr) (x0 : Int32) (x1 : Int32) (h0 : Heap) (n0 : Nat) : Option Value → Heap → Prop := fun v h => v = some (.int 1) ∧ h0 = h
theorem rm6_1U (l : Launch) (Z : State) (a0 : Array Value) (hw : HW Z a0) (b : Addr) (x0 : Int32) (x1 : Int32) (h0 : Heap) (n0 : Nat) (Z0 : n0 ≤ h0.size) (V1 : Va Z h0 b .byte [(.int x0), (.int x1)]) : Ctr l Z (⟨"java/lang/StringUTF16", "coderFromArrayLen", "([BI)B"⟩ : MethodName) jdk_52_method_15_code 2 (some .byte) ({ frames := 0, cells := 0, slots := 0, locals := 0 } : Room) #[(.ref b), (.int 1)] h0 n0 (Q6_1U Z b x0 x1 h0 n0) := by
 refine Ctr.of (plainFor_of_name pn_24) (ef_6_1U b (1 : Int32)) ?_
 intro p e s m below meth c T0 hx hby hml hown hnm hret hlk hZ X0 e0
 have N0 := Fr.nil n0
 refine g_iloadN X0 hx (hb hby d6_0) (pc' := 1) rfl rfl ?_
 refine g_aloadN X0 hx (hb hby d6_1) (pc' := 2) rfl rfl rfl ?_
 refine g_arraylength X0 hx hZ e0 V1 (z := 2) (hb hby d6_2) (pc' := 3) rfl rfl ?_
 refine g_isub X0 hx (hb hby d6_3) (pc' := 4) rfl ?_
 refine Go.cast (show (mkF m 4 #[vR b, vI 1] [(.int ((1 : Int32) - (2 : Int32)))]) = (mkF m 4 #[vR b, vI 1] [(.int (-1 : Int32))]) from by rw [show ((1 : Int32) - (2 : Int32)) = (-1 : Int32) from (by decide)]) ?_
 refine g_bipush X0 hx (hb hby d6_4) (pc' := 6) rfl (z := 31) rfl ?_
 refine g_iushr X0 hx (hb hby d6_6) (pc' := 7) rfl ?_
 refine Go.cast (show (mkF m 7 #[vR b, vI 1] [(.int (ushr (-1 : Int32) (31 : Int32)))]) = (mkF m 7 #[vR b, vI 1] [(.int 1)]) from by rw [show (ushr (-1 : Int32) (31 : Int32)) = (1 : Int32) from (by decide)]) ?_
 refine g_i2b X0 hx (hb hby d6_7) (pc' := 8) rfl ?_
 refine Go.cast (show (mkF m 8 #[vR b, vI 1] [(.int (byt (1 : Int32)))]) = (mkF m 8 #[vR b, vI 1] [(.int 1)]) from by rw [show (byt (1 : Int32)) = (1 : Int32) from (by decide)]) ?_
 exact g_breturn X0 hx rfl hret (hb hby d6_8) N0 hlk (fun v t => endF (by decide) (by decide) v) (by rw [e0]; exact ⟨rfl, rfl⟩)
theorem pd___BI_B : parseMethodDescriptor "([BI)B" = some ⟨[(.array .byte), .int], some .byte⟩ := by decide +kernel
theorem d2_0 : decode jdk_42_method_149_code 0 = .ok (.aload_n 0, 1) := by decide +kernel
theorem d2_1 : decode jdk_42_method_149_code 1 = .ok (.invokespecial 1, 3) := by decide +kernel
theorem d2_4 : decode jdk_42_method_149_code 4 = .ok (.iload_n 3, 1) := by decide +kernel
theorem d2_5 : decode jdk_42_method_149_code 5 = .ok (.ifCond .ne 22, 3) := by decide +kernel
theorem d2_27 : decode jdk_42_method_149_code 27 = .ok (.getstatic 38, 3) := by decide +kernel
theorem d2_30 : decode jdk_42_method_149_code 30 = .ok (.ifCond .eq 28, 3) := by decide +kernel
theorem d2_33 : decode jdk_42_method_149_code 33 = .ok (.aload_n 1, 1) := by decide +kernel
theorem d2_34 : decode jdk_42_method_149_code 34 = .ok (.iload_n 2, 1) := by decide +kernel
theorem d2_35 : decode jdk_42_method_149_code 35 = .ok (.iload_n 3, 1) := by decide +kernel
theorem d2_36 : decode jdk_42_method_149_code 36 = .ok (.invokestatic 177, 3) := by decide +kernel
theorem d2_39 : decode jdk_42_method_149_code 39 = .ok (.astore 5, 2) := by decide +kernel
theorem d2_41 : decode jdk_42_method_149_code 41 = .ok (.aload_n 0, 1) := by decide +kernel
theorem d2_42 : decode jdk_42_method_149_code 42 = .ok (.aload 5, 2) := by decide +kernel
theorem d2_44 : decode jdk_42_method_149_code 44 = .ok (.iload_n 3, 1) := by decide +kernel
theorem d2_45 : decode jdk_42_method_149_code 45 = .ok (.invokestatic 47, 3) := by decide +kernel
theorem d2_48 : decode jdk_42_method_149_code 48 = .ok (.putfield 15, 3) := by decide +kernel
theorem d2_51 : decode jdk_42_method_149_code 51 = .ok (.aload_n 0, 1) := by decide +kernel
theorem d2_52 : decode jdk_42_method_149_code 52 = .ok (.aload 5, 2) := by decide +kernel
theorem d2_54 : decode jdk_42_method_149_code 54 = .ok (.putfield 9, 3) := by decide +kernel
theorem d2_57 : decode jdk_42_method_149_code 57 = .ok (.return_, 1) := by decide +kernel
theorem ef_2_1 (x0 : Addr) (x1 : Addr) (x2 : Int32) (x3 : Int32) (m : MethodId) : entryFrame m #[(.ref x0), (.ref x1), (.int x2), (.int x3), .null] 6 = mkF m 0 #[.val (.ref x0), .val (.ref x1), .val (.int x2), .val (.int x3), .val .null, .unset] [] := by first | (simp [entryFrame, mkF, argsToLocals, Value.category]; done) | rfl
def Q2_1 (Z : State) (a : Addr) (b : Addr) (c0 : Int32) (cs : Int32) (fv : Value) (h0 : Heap) (n0 : Nat) : Option Value → Heap → Prop := fun v h => v = none ∧ Keep h0 h [a] ∧ ∃ r, h0.size ≤ r ∧ Str Z h a r [c0]
theorem rm2_1 (l : Launch) (Z : State) (a0 : Array Value) (hw : HW Z a0) (a : Addr) (b : Addr) (c0 : Int32) (cs : Int32) (fv : Value) (h0 : Heap) (n0 : Nat) (Z0 : n0 ≤ h0.size) (F1 : Fld Z h0 a "java/lang/String" "value" "[B" .null) (F2 : Fld Z h0 a "java/lang/String" "coder" "B" (.int 0)) (E1 : Exa Z h0 a "java/lang/String") (G1 : n0 ≤ a) (V1 : Va Z h0 b .char [(.int c0)]) (ne1 : b ≠ a) (B : Sts Z cs fv) (O : Old Z n0 h0) (hc0 : chr c0 = c0) : Ctr l Z (⟨"java/lang/String", "<init>", "([CIILjava/lang/Void;)V"⟩ : MethodName) jdk_42_method_149_code 6 none ({ frames := 4, cells := 2, slots := 3, locals := 57 } : Room) #[(.ref a), (.ref b), (.int 0), (.int 1), .null] h0 n0 (Q2_1 Z a b c0 cs fv h0 n0) := by
 refine Ctr.of (plainFor_of_name pn_13) (ef_2_1 a b (0 : Int32) (1 : Int32)) ?_
 intro p e s m below meth c T0 hx hby hml hown hnm hret hlk hZ X0 e0
 have N0 := Fr.nil n0
 refine g_aloadN X0 hx (hb hby d2_0) (pc' := 1) rfl rfl rfl ?_
 obtain ⟨T227, X227, e227, st227⟩ := initO X0 hx hZ hown (wd hw 11 rfl) (wd hw 12 rfl) (wd hw 13 rfl) e0 (g := (mkF m 1 #[vR a, vR b, vI 0, vI 1, .val .null, .unset] [(.ref a)])) rfl (by rw [hml]; rfl) rfl (hb hby d2_1) (by decide) (W := 0) (by show 2 * 0 + _ ≤ _; exact Nat.le_of_eq rfl) (by decide)
 refine Go.movp st227 (mkF m 4 #[vR a, vR b, vI 0, vI 1, .val .null, .unset] []) rfl ?_
 refine g_iloadN X227 hx (hb hby d2_4) (pc' := 5) rfl rfl ?_
 refine g_if_ne X227 hx (hb hby d2_5) (pc1 := 8) rfl (by decide) (pc2 := 27) (by decide) (fun hc5 => ?_) (fun hc5 => absurd hc5 (by decide))
 obtain ⟨T228, X228, e228, st228⟩ := getS2 X227 hx hZ hown (host := "") (Or.inl (wd hw 14 rfl)) Via.refl e227 (Sta.ext O.2 B.1) (g := (mkF m 27 #[vR a, vR b, vI 0, vI 1, .val .null, .unset] [])) rfl (hb hby d2_27)
 refine Go.movp st228 (mkF m 30 #[vR a, vR b, vI 0, vI 1, .val .null, .unset] [(.int cs)]) rfl ?_
 refine g_if_eq X228 hx (hb hby d2_30) (pc1 := 33) rfl (by decide) (pc2 := 58) (by decide) (fun hc30 => absurd hc30 B.2.1) (fun hc30 => ?_)
 refine g_aloadN X228 hx (hb hby d2_33) (pc' := 34) rfl rfl rfl ?_
 refine g_iloadN X228 hx (hb hby d2_34) (pc' := 35) rfl rfl ?_
 refine g_iloadN X228 hx (hb hby d2_35) (pc' := 36) rfl rfl ?_
 obtain ⟨v229, T229, h229, L229, X229, e229, N229, q229, st229⟩ := h_static X228 hx (W := 0) (Ls := #[vR a, vR b, vI 0, vI 1, .val .null, .unset]) (argsL := [(.ref b), (.int 0), (.int 1)]) (rest := []) hZ e228 N0 hml hown (rm4_1 l Z a0 hw b c0 cs fv h0 n0 Z0 V1 B O hc0) (wd hw 15 rfl) (wd hw 16 rfl) (wd hw 17 rfl) (wd hw 18 rfl) (by decide) pd___CII__B rfl rfl (hb hby d2_36) rfl (by decide) (by decide) (by decide) (by decide)
 obtain ⟨r229, rfl, ge229, sz229, K229, A229, D229⟩ := q229
 have f230 := F1.keep K229 nin0
 have f231 := F2.keep K229 nin0
 have f232 := E1.keep K229
 have f233 := V1.keep K229 nin0
 have f234 := O.keep K229 all0
 have Z235 : n0 ≤ h229.size := Nat.le_trans Z0 K229.1
 have K236 := (Keep.refl h0 [a]).trans K229 all0
 have ne237 : a ≠ r229 := Nat.ne_of_lt (Nat.lt_of_lt_of_le F1.lt sz229)
 have ne238 : b ≠ r229 := Nat.ne_of_lt (Nat.lt_of_lt_of_le V1.lt sz229)
 have sz239 : h0.size ≤ r229 := Nat.le_trans (Keep.refl h0 [a]).1 sz229
 refine Go.movp st229 (mkF m 39 #[vR a, vR b, vI 0, vI 1, .val .null, .unset] [(.ref r229)]) rfl ?_
 rcases D229 with ⟨V229, C229⟩ | V229
 ·
  refine g_astore X229 hx (hb hby d2_39) (pc' := 41) rfl rfl (Ls' := #[vR a, vR b, vI 0, vI 1, .val .null, vR r229]) rfl ?_
  refine g_aloadN X229 hx (hb hby d2_41) (pc' := 42) rfl rfl rfl ?_
  refine g_aload X229 hx (hb hby d2_42) (pc' := 44) rfl rfl rfl ?_
  refine g_iloadN X229 hx (hb hby d2_44) (pc' := 45) rfl rfl ?_
  obtain ⟨v240, T240, h240, L240, X240, e240, N240, q240, st240⟩ := h_static X229 hx (W := 1) (Ls := #[vR a, vR b, vI 0, vI 1, .val .null, vR r229]) (argsL := [(.ref r229), (.int 1)]) (rest := [(.ref a)]) hZ e229 N229 hml hown (rm6_1L l Z a0 hw r229 (byt c0) h229 n0 Z235 V229) (wd hw 23 rfl) (wd hw 24 rfl) (wd hw 17 rfl) (wd hw 25 rfl) (by decide) pd___BI_B rfl rfl (hb hby d2_45) rfl (by decide) (by decide) (by decide) (by decide)
  obtain ⟨rfl, rfl⟩ := q240
  refine Go.movp st240 (mkF m 48 #[vR a, vR b, vI 0, vI 1, .val .null, vR r229] [(.int 0), (.ref a)]) rfl ?_
  obtain ⟨T241, h241, X241, e241, W241, st241⟩ := putFN X240 hx hZ hown (wd hw 26 rfl) Via.refl e240 f231 f232 (Or.inr ⟨(wd hw 27 rfl), rfl, hnm⟩) (wd hw 1 rfl) (ty := .byte) (v' := .int (nar .byte (0 : Int32))) (by decide) rfl (fits_nar_byte _) (g := (mkF m 48 #[vR a, vR b, vI 0, vI 1, .val .null, vR r229] [(.int 0), (.ref a)])) rfl rfl (hb hby d2_48)
  have f242 : Fld Z h241 a "java/lang/String" "coder" "B" (.int (byt (0 : Int32))) := Fld.same W241 f231
  have N241 := Fr.snoc X241 N240 G1
  have f243 := Fld.other W241 f230 (Or.inr (slot_ne (Or.inr (wd hw 29 rfl)) (Or.inr (wd hw 27 rfl)) (by decide) (t := (.array .byte)) (t' := .byte) (by decide) (by decide)))
  have f244 := Exa.wr W241 f232
  have f245 := f233.other W241 ne1
  have f246 := f234.wr W241 G1
  have f247 := Exa.wr W241 A229
  have f248 := V229.other W241 (Ne.symm ne237)
  have Z249 : n0 ≤ h241.size := Nat.le_trans Z235 (Keep.of_wr W241).1
  have K250 := K236.wr W241 (Or.inl (List.mem_of_getElem? (i := 0) rfl))
  refine Go.movp st241 (mkF m 51 #[vR a, vR b, vI 0, vI 1, .val .null, vR r229] []) rfl ?_
  refine g_aloadN X241 hx (hb hby d2_51) (pc' := 52) rfl rfl rfl ?_
  refine g_aload X241 hx (hb hby d2_52) (pc' := 54) rfl rfl rfl ?_
  obtain ⟨T251, h251, X251, e251, W251, st251⟩ := putF X241 hx hZ hown (host := "") (Or.inl (wd hw 28 rfl)) Via.refl e241 f243 f244 (Or.inr ⟨(wd hw 29 rfl), rfl, hnm⟩) (wd hw 1 rfl) (ty := (.array .byte)) (by decide) rfl rfl (g := (mkF m 54 #[vR a, vR b, vI 0, vI 1, .val .null, vR r229] [(.ref r229), (.ref a)])) rfl rfl (hb hby d2_54)
  have f252 : Fld Z h251 a "java/lang/String" "value" "[B" (.ref r229) := Fld.same W251 f243
  have N251 := Fr.snoc X251 N241 G1
  have f253 := Exa.wr W251 f244
  have f254 := f245.other W251 ne1
  have f255 := f246.wr W251 G1
  have f256 := Exa.wr W251 f247
  have f257 := f248.other W251 (Ne.symm ne237)
  have f258 := Fld.other W251 f242 (Or.inr (slot_ne (Or.inr (wd hw 27 rfl)) (Or.inr (wd hw 29 rfl)) (by decide) (t := .byte) (t' := (.array .byte)) (by decide) (by decide)))
  have Z259 : n0 ≤ h251.size := Nat.le_trans Z249 (Keep.of_wr W251).1
  have K260 := K250.wr W251 (Or.inl (List.mem_of_getElem? (i := 0) rfl))
  refine Go.movp st251 (mkF m 57 #[vR a, vR b, vI 0, vI 1, .val .null, vR r229] []) rfl ?_
  exact g_return X251 hx hret (hb hby d2_57) N251 hlk (fun v t => endF (by decide) (by decide) v) (by rw [e251]; exact ⟨rfl, K260, r229, sz239, Or.inl ⟨(by have q := f258; rw [show byt (0 : Int32) = 0 from by decide] at q; exact q), f252, f253, f257, C229⟩⟩)
 ·
  refine g_astore X229 hx (hb hby d2_39) (pc' := 41) rfl rfl (Ls' := #[vR a, vR b, vI 0, vI 1, .val .null, vR r229]) rfl ?_
  refine g_aloadN X229 hx (hb hby d2_41) (pc' := 42) rfl rfl rfl ?_
  refine g_aload X229 hx (hb hby d2_42) (pc' := 44) rfl rfl rfl ?_
  refine g_iloadN X229 hx (hb hby d2_44) (pc' := 45) rfl rfl ?_
  obtain ⟨v261, T261, h261, L261, X261, e261, N261, q261, st261⟩ := h_static X229 hx (W := 1) (Ls := #[vR a, vR b, vI 0, vI 1, .val .null, vR r229]) (argsL := [(.ref r229), (.int 1)]) (rest := [(.ref a)]) hZ e229 N229 hml hown (rm6_1U l Z a0 hw r229 (byt (shr c0 (0 : Int32))) (byt (shr c0 (8 : Int32))) h229 n0 Z235 V229) (wd hw 23 rfl) (wd hw 24 rfl) (wd hw 17 rfl) (wd hw 25 rfl) (by decide) pd___BI_B rfl rfl (hb hby d2_45) rfl (by decide) (by decide) (by decide) (by decide)
  obtain ⟨rfl, rfl⟩ := q261
  refine Go.movp st261 (mkF m 48 #[vR a, vR b, vI 0, vI 1, .val .null, vR r229] [(.int 1), (.ref a)]) rfl ?_
  obtain ⟨T262, h262, X262, e262, W262, st262⟩ := putFN X261 hx hZ hown (wd hw 26 rfl) Via.refl e261 f231 f232 (Or.inr ⟨(wd hw 27 rfl), rfl, hnm⟩) (wd hw 1 rfl) (ty := .byte) (v' := .int (nar .byte (1 : Int32))) (by decide) rfl (fits_nar_byte _) (g := (mkF m 48 #[vR a, vR b, vI 0, vI 1, .val .null, vR r229] [(.int 1), (.ref a)])) rfl rfl (hb hby d2_48)
  have f263 : Fld Z h262 a "java/lang/String" "coder" "B" (.int (byt (1 : Int32))) := Fld.same W262 f231
  have N262 := Fr.snoc X262 N261 G1
  have f264 := Fld.other W262 f230 (Or.inr (slot_ne (Or.inr (wd hw 29 rfl)) (Or.inr (wd hw 27 rfl)) (by decide) (t := (.array .byte)) (t' := .byte) (by decide) (by decide)))
  have f265 := Exa.wr W262 f232
  have f266 := f233.other W262 ne1
  have f267 := f234.wr W262 G1
  have f268 := Exa.wr W262 A229
  have f269 := V229.other W262 (Ne.symm ne237)
  have Z270 : n0 ≤ h262.size := Nat.le_trans Z235 (Keep.of_wr W262).1
  have K271 := K236.wr W262 (Or.inl (List.mem_of_getElem? (i := 0) rfl))
  refine Go.movp st262 (mkF m 51 #[vR a, vR b, vI 0, vI 1, .val .null, vR r229] []) rfl ?_
  refine g_aloadN X262 hx (hb hby d2_51) (pc' := 52) rfl rfl rfl ?_
  refine g_aload X262 hx (hb hby d2_52) (pc' := 54) rfl rfl rfl ?_
  obtain ⟨T272, h272, X272, e272, W272, st272⟩ := putF X262 hx hZ hown (host := "") (Or.inl (wd hw 28 rfl)) Via.refl e262 f264 f265 (Or.inr ⟨(wd hw 29 rfl), rfl, hnm⟩) (wd hw 1 rfl) (ty := (.array .byte)) (by decide) rfl rfl (g := (mkF m 54 #[vR a, vR b, vI 0, vI 1, .val .null, vR r229] [(.ref r229), (.ref a)])) rfl rfl (hb hby d2_54)
  have f273 : Fld Z h272 a "java/lang/String" "value" "[B" (.ref r229) := Fld.same W272 f264
  have N272 := Fr.snoc X272 N262 G1
  have f274 := Exa.wr W272 f265
  have f275 := f266.other W272 ne1
  have f276 := f267.wr W272 G1
  have f277 := Exa.wr W272 f268
  have f278 := f269.other W272 (Ne.symm ne237)
  have f279 := Fld.other W272 f263 (Or.inr (slot_ne (Or.inr (wd hw 27 rfl)) (Or.inr (wd hw 29 rfl)) (by decide) (t := .byte) (t' := (.array .byte)) (by decide) (by decide)))
  have Z280 : n0 ≤ h272.size := Nat.le_trans Z270 (Keep.of_wr W272).1
  have K281 := K271.wr W272 (Or.inl (List.mem_of_getElem? (i := 0) rfl))
  refine Go.movp st272 (mkF m 57 #[vR a, vR b, vI 0, vI 1, .val .null, vR r229] []) rfl ?_
  exact g_return X272 hx hret (hb hby d2_57) N272 hlk (fun v t => endF (by decide) (by decide) v) (by rw [e272]; exact ⟨rfl, K281, r229, sz239, Or.inr ⟨(by have q := f279; rw [show byt (1 : Int32) = 1 from by decide] at q; exact q), f273, f274, f278⟩⟩)
theorem pd___CIILjava_lang_Void__V : parseMethodDescriptor "([CIILjava/lang/Void;)V" = some ⟨[(.array .char), .int, .int, (.object "java/lang/Void")], none⟩ := by decide +kernel
theorem d1_0 : decode jdk_42_method_3_code 0 = .ok (.aload_n 0, 1) := by decide +kernel
theorem d1_1 : decode jdk_42_method_3_code 1 = .ok (.aload_n 1, 1) := by decide +kernel
theorem d1_2 : decode jdk_42_method_3_code 2 = .ok (.iconst 0, 1) := by decide +kernel
theorem d1_3 : decode jdk_42_method_3_code 3 = .ok (.aload_n 1, 1) := by decide +kernel
theorem d1_4 : decode jdk_42_method_3_code 4 = .ok (.arraylength, 1) := by decide +kernel
theorem d1_5 : decode jdk_42_method_3_code 5 = .ok (.aconst_null, 1) := by decide +kernel
theorem d1_6 : decode jdk_42_method_3_code 6 = .ok (.invokespecial 27, 3) := by decide +kernel
theorem d1_9 : decode jdk_42_method_3_code 9 = .ok (.return_, 1) := by decide +kernel
theorem ef_1_1 (x0 : Addr) (x1 : Addr) (m : MethodId) : entryFrame m #[(.ref x0), (.ref x1)] 2 = mkF m 0 #[.val (.ref x0), .val (.ref x1)] [] := by first | (simp [entryFrame, mkF, argsToLocals, Value.category]; done) | rfl
def Q1_1 (Z : State) (a : Addr) (b : Addr) (c0 : Int32) (cs : Int32) (fv : Value) (h0 : Heap) (n0 : Nat) : Option Value → Heap → Prop := fun v h => v = none ∧ Keep h0 h [a] ∧ ∃ r, h0.size ≤ r ∧ Str Z h a r [c0]
theorem rm1_1 (l : Launch) (Z : State) (a0 : Array Value) (hw : HW Z a0) (a : Addr) (b : Addr) (c0 : Int32) (cs : Int32) (fv : Value) (h0 : Heap) (n0 : Nat) (Z0 : n0 ≤ h0.size) (F1 : Fld Z h0 a "java/lang/String" "value" "[B" .null) (F2 : Fld Z h0 a "java/lang/String" "coder" "B" (.int 0)) (E1 : Exa Z h0 a "java/lang/String") (G1 : n0 ≤ a) (V1 : Va Z h0 b .char [(.int c0)]) (ne1 : b ≠ a) (B : Sts Z cs fv) (O : Old Z n0 h0) (hc0 : chr c0 = c0) : Ctr l Z (⟨"java/lang/String", "<init>", "([C)V"⟩ : MethodName) jdk_42_method_3_code 2 none ({ frames := 5, cells := 2, slots := 3, locals := 74 } : Room) #[(.ref a), (.ref b)] h0 n0 (Q1_1 Z a b c0 cs fv h0 n0) := by
 refine Ctr.of (plainFor_of_name pn_13) (ef_1_1 a b) ?_
 intro p e s m below meth c T0 hx hby hml hown hnm hret hlk hZ X0 e0
 have N0 := Fr.nil n0
 refine g_aloadN X0 hx (hb hby d1_0) (pc' := 1) rfl rfl rfl ?_
 refine g_aloadN X0 hx (hb hby d1_1) (pc' := 2) rfl rfl rfl ?_
 refine g_iconst X0 hx (hb hby d1_2) (pc' := 3) rfl (z := 0) rfl ?_
 refine g_aloadN X0 hx (hb hby d1_3) (pc' := 4) rfl rfl rfl ?_
 refine g_arraylength X0 hx hZ e0 V1 (z := 1) (hb hby d1_4) (pc' := 5) rfl rfl ?_
 refine g_aconst_null X0 hx (hb hby d1_5) (pc' := 6) rfl ?_
 obtain ⟨v282, T282, h282, L282, X282, e282, N282, q282, st282⟩ := h_special (a := a) X0 hx (W := 0) (Ls := #[vR a, vR b]) (argsL := [(.ref b), (.int 0), (.int 1), .null]) (rest := []) hZ e0 N0 hml hown rfl (rm2_1 l Z a0 hw a b c0 cs fv h0 n0 Z0 F1 F2 E1 G1 V1 ne1 B O hc0) (wd hw 7 rfl) (wd hw 8 rfl) (wd hw 2 rfl) (wd hw 10 rfl) (by decide) pd___CIILjava_lang_Void__V rfl rfl (hb hby d1_6) rfl (by decide) (by decide) (by decide) (by decide)
 obtain ⟨rfl, K282, r282, sz282, S282⟩ := q282
 have f283 := E1.keep K282
 have f284 := V1.keep K282 (ninS ne1 nin0)
 have f285 := O.keep K282 (allS G1 all0)
 have Z286 : n0 ≤ h282.size := Nat.le_trans Z0 K282.1
 have K287 := (Keep.refl h0 [a]).trans K282 (allS (Or.inl (List.mem_of_getElem? (i := 0) rfl)) all0)
 refine Go.movp st282 (mkF m 9 #[vR a, vR b] []) rfl ?_
 exact g_return X282 hx hret (hb hby d1_9) N282 hlk (fun v t => endF (by decide) (by decide) v) (by rw [e282]; exact ⟨rfl, K287, r282, sz282, S282⟩)
theorem ef_19_2 (x0 : Int32) (m : MethodId) : entryFrame m #[(.int x0)] 1 = mkF m 0 #[.val (.int x0)] [] := by first | (simp [entryFrame, mkF, argsToLocals, Value.category]; done) | rfl
def Q19_2 (Z : State)  (h0 : Heap) (n0 : Nat) : Option Value → Heap → Prop := fun v h => v = some (.int 4) ∧ h0 = h
theorem rm19_2 (l : Launch) (Z : State) (a0 : Array Value) (hw : HW Z a0)  (h0 : Heap) (n0 : Nat) (Z0 : n0 ≤ h0.size) : Ctr l Z (⟨"java/lang/StringUTF16", "newBytesLength", "(I)I"⟩ : MethodName) jdk_52_method_3_code 1 (some .int) ({ frames := 0, cells := 0, slots := 0, locals := 0 } : Room) #[(.int 2)] h0 n0 (Q19_2 Z  h0 n0) := by
 refine Ctr.of (plainFor_of_name pn_24) (ef_19_2 (2 : Int32)) ?_
 intro p e s m below meth c T0 hx hby hml hown hnm hret hlk hZ X0 e0
 have N0 := Fr.nil n0
 refine g_iloadN X0 hx (hb hby d19_0) (pc' := 1) rfl rfl ?_
 refine g_if_ge X0 hx (hb hby d19_1) (pc1 := 4) rfl (by decide) (pc2 := 12) (by decide) (fun hc1 => ?_) (fun hc1 => absurd hc1 (by decide))
 refine g_iloadN X0 hx (hb hby d19_12) (pc' := 13) rfl rfl ?_
 refine g_ldc X0 hx hZ hown (wd hw 104 rfl) (hb hby d19_13) (pc' := 15) rfl ?_
 refine g_icmp_lt X0 hx (hb hby d19_15) (pc1 := 18) rfl (by decide) (pc2 := 55) (by decide) (fun hc15 => ?_) (fun hc15 => absurd (by decide) hc15)
 refine g_iloadN X0 hx (hb hby d19_55) (pc' := 56) rfl rfl ?_
 refine g_iconst X0 hx (hb hby d19_56) (pc' := 57) rfl (z := 1) rfl ?_
 refine g_ishl X0 hx (hb hby d19_57) (pc' := 58) rfl ?_
 refine Go.cast (show (mkF m 58 #[vI 2] [(.int (shl (2 : Int32) (1 : Int32)))]) = (mkF m 58 #[vI 2] [(.int 4)]) from by rw [show (shl (2 : Int32) (1 : Int32)) = (4 : Int32) from (by decide)]) ?_
 exact g_ireturn X0 hx hret (hb hby d19_58) N0 hlk (fun v t => endF (by decide) (by decide) v) (by rw [e0]; exact ⟨rfl, rfl⟩)
theorem ef_18_2 (x0 : Int32) (m : MethodId) : entryFrame m #[(.int x0)] 1 = mkF m 0 #[.val (.int x0)] [] := by first | (simp [entryFrame, mkF, argsToLocals, Value.category]; done) | rfl
def Q18_2 (Z : State)  (h0 : Heap) (n0 : Nat) : Option Value → Heap → Prop := fun v h => ∃ r, v = some (.ref r) ∧ n0 ≤ r ∧ h0.size ≤ r ∧ Keep h0 h [] ∧ Va Z h r .byte [(.int 0), (.int 0), (.int 0), (.int 0)] ∧ Exa Z h r "[B"
theorem rm18_2 (l : Launch) (Z : State) (a0 : Array Value) (hw : HW Z a0)  (h0 : Heap) (n0 : Nat) (Z0 : n0 ≤ h0.size) : Ctr l Z (⟨"java/lang/StringUTF16", "newBytesFor", "(I)[B"⟩ : MethodName) jdk_52_method_2_code 1 (some (.array .byte)) ({ frames := 1, cells := 1, slots := 4, locals := 12 } : Room) #[(.int 2)] h0 n0 (Q18_2 Z  h0 n0) := by
 refine Ctr.of (plainFor_of_name pn_24) (ef_18_2 (2 : Int32)) ?_
 intro p e s m below meth c T0 hx hby hml hown hnm hret hlk hZ X0 e0
 have N0 := Fr.nil n0
 refine g_iloadN X0 hx (hb hby d18_0) (pc' := 1) rfl rfl ?_
 obtain ⟨v288, T288, h288, L288, X288, e288, N288, q288, st288⟩ := h_static X0 hx (W := 0) (Ls := #[vI 2]) (argsL := [(.int 2)]) (rest := []) hZ e0 N0 hml hown (rm19_2 l Z a0 hw h0 n0 Z0) (wd hw 101 rfl) (wd hw 102 rfl) (wd hw 17 rfl) (wd hw 103 rfl) (by decide) pd__I_I rfl rfl (hb hby d18_1) rfl (by decide) (by decide) (by decide) (by decide)
 obtain ⟨rfl, rfl⟩ := q288
 refine Go.movp st288 (mkF m 4 #[vI 2] [(.int 4)]) rfl ?_
 obtain ⟨T289, h289, b289, X289, e289, g289, E289, V289, A289, st289⟩ := h_newarray X288 hx hZ e288 (n := (4 : Int32)) (ty := .byte) rfl (wd hw 19 rfl) (hb hby d18_4) (k := 4) (cap := 4) (by decide) rfl (by decide) (by decide) (by decide) (by decide) (ad := "[B") (by decide) #[vI 2] []
 have ge290 : n0 ≤ b289 := g289 ▸ Z0
 have sz291 : h0.size ≤ b289 := g289 ▸ (Keep.refl h0 []).1
 have Z292 : n0 ≤ h289.size := Nat.le_trans Z0 E289.1
 have K293 := (Keep.refl h0 []).ext E289
 have f294 : Va Z h289 b289 .byte [(.int 0), (.int 0), (.int 0), (.int 0)] := V289
 refine Go.movp st289 (mkF m 6 #[vI 2] [(.ref b289)]) rfl ?_
 exact g_areturn X289 hx rfl rfl hret (hb hby d18_6) N288 hlk (fun v t => endF (by decide) (by decide) v) (by rw [e289]; exact ⟨_, rfl, ge290, sz291, K293, f294, A289⟩)
theorem ef_20_2_0 (x0 : Addr) (x1 : Int32) (x2 : Int32) (m : MethodId) : entryFrame m #[(.ref x0), (.int x1), (.int x2)] 3 = mkF m 0 #[.val (.ref x0), .val (.int x1), .val (.int x2)] [] := by first | (simp [entryFrame, mkF, argsToLocals, Value.category]; done) | rfl
def Q20_2_0 (Z : State) (a : Addr) (x0 : Int32) (x1 : Int32) (x2 : Int32) (x3 : Int32) (cx : Int32) (cs : Int32) (fv : Value) (h0 : Heap) (n0 : Nat) : Option Value → Heap → Prop := fun v h => v = none ∧ Keep h0 h [a] ∧ Va Z h a .byte [(.int (byt (shr cx (0 : Int32)))), (.int (byt (shr cx (8 : Int32)))), (.int x2), (.int x3)]
theorem rm20_2_0 (l : Launch) (Z : State) (a0 : Array Value) (hw : HW Z a0) (a : Addr) (x0 : Int32) (x1 : Int32) (x2 : Int32) (x3 : Int32) (cx : Int32) (cs : Int32) (fv : Value) (h0 : Heap) (n0 : Nat) (Z0 : n0 ≤ h0.size) (V1 : Va Z h0 a .byte [(.int x0), (.int x1), (.int x2), (.int x3)]) (G1 : n0 ≤ a) (B : Sts Z cs fv) (O : Old Z n0 h0) : Ctr l Z (⟨"java/lang/StringUTF16", "putChar", "([BII)V"⟩ : MethodName) jdk_52_method_4_code 3 none ({ frames := 0, cells := 0, slots := 0, locals := 0 } : Room) #[(.ref a), (.int 0), (.int cx)] h0 n0 (Q20_2_0 Z a x0 x1 x2 x3 cx cs fv h0 n0) := by
 refine Ctr.of (plainFor_of_name pn_24) (ef_20_2_0 a (0 : Int32) cx) ?_
 intro p e s m below meth c T0 hx hby hml hown hnm hret hlk hZ X0 e0
 have N0 := Fr.nil n0
 obtain ⟨T295, X295, e295, st295⟩ := getS2 X0 hx hZ hown (host := "") (Or.inl (wd hw 108 rfl)) Via.refl e0 (Sta.ext O.2 B.2.2.1) (g := (mkF m 0 #[vR a, vI 0, vI cx] [])) rfl (hb hby d20_0)
 refine Go.movp st295 (mkF m 3 #[vR a, vI 0, vI cx] [(.int 1)]) rfl ?_
 refine g_if_ne X295 hx (hb hby d20_3) (pc1 := 6) rfl (by decide) (pc2 := 28) (by decide) (fun hc3 => ?_) (fun hc3 => absurd hc3 (by decide))
 refine g_iloadN X295 hx (hb hby d20_28) (pc' := 29) rfl rfl ?_
 refine g_iconst X295 hx (hb hby d20_29) (pc' := 30) rfl (z := 1) rfl ?_
 refine g_ishl X295 hx (hb hby d20_30) (pc' := 31) rfl ?_
 refine Go.cast (show (mkF m 31 #[vR a, vI 0, vI cx] [(.int (shl (0 : Int32) (1 : Int32)))]) = (mkF m 31 #[vR a, vI 0, vI cx] [(.int 0)]) from by rw [show (shl (0 : Int32) (1 : Int32)) = (0 : Int32) from (by decide)]) ?_
 refine g_istoreN X295 hx (hb hby d20_31) (pc' := 32) rfl (Ls' := #[vR a, vI 0, vI cx]) rfl ?_
 refine g_aloadN X295 hx (hb hby d20_32) (pc' := 33) rfl rfl rfl ?_
 refine g_iloadN X295 hx (hb hby d20_33) (pc' := 34) rfl rfl ?_
 refine g_iinc X295 hx (hb hby d20_34) (pc' := 37) rfl rfl (z := 1) rfl (Ls' := #[vR a, vI 1, vI cx]) rfl ?_
 refine g_iloadN X295 hx (hb hby d20_37) (pc' := 38) rfl rfl ?_
 obtain ⟨T296, X296, e296, st296⟩ := getS2 X295 hx hZ hown (host := "") (Or.inl (wd hw 109 rfl)) Via.refl e295 (Sta.ext O.2 B.2.2.2.1) (g := (mkF m 38 #[vR a, vI 1, vI cx] [(.int cx), (.int 0), (.ref a)])) rfl (hb hby d20_38)
 refine Go.movp st296 (mkF m 41 #[vR a, vI 1, vI cx] [(.int 0), (.int cx), (.int 0), (.ref a)]) rfl ?_
 refine g_ishr X296 hx (hb hby d20_41) (pc' := 42) rfl ?_
 refine g_i2b X296 hx (hb hby d20_42) (pc' := 43) rfl ?_
 obtain ⟨T297, h297, L297, X297, e297, N297, W297, V297, st297⟩ := h_bastore X296 hx hZ e296 N0 V1 G1 (j := (0 : Int32)) (i := 0) (x := (byt (shr cx (0 : Int32)))) (hb hby d20_43) (by decide) rfl rfl #[vR a, vI 1, vI cx] []
 have f298 := O.wr W297 G1
 have Z299 : n0 ≤ h297.size := Nat.le_trans Z0 (Keep.of_wr W297).1
 have K300 := (Keep.refl h0 [a]).wr W297 (Or.inl (List.mem_of_getElem? (i := 0) rfl))
 have f301 : Va Z h297 a .byte [(.int (byt (byt (shr cx (0 : Int32))))), (.int x1), (.int x2), (.int x3)] := V297
 have f302 : Va Z h297 a .byte [(.int (byt (shr cx (0 : Int32)))), (.int x1), (.int x2), (.int x3)] := by rw [show (byt (byt (shr cx (0 : Int32)))) = (byt (shr cx (0 : Int32))) from byt_byt _] at f301; exact f301
 refine Go.movp st297 (mkF m 44 #[vR a, vI 1, vI cx] []) rfl ?_
 refine g_aloadN X297 hx (hb hby d20_44) (pc' := 45) rfl rfl rfl ?_
 refine g_iloadN X297 hx (hb hby d20_45) (pc' := 46) rfl rfl ?_
 refine g_iloadN X297 hx (hb hby d20_46) (pc' := 47) rfl rfl ?_
 obtain ⟨T303, X303, e303, st303⟩ := getS2 X297 hx hZ hown (host := "") (Or.inl (wd hw 110 rfl)) Via.refl e297 (Sta.ext f298.2 B.2.2.2.2.1) (g := (mkF m 47 #[vR a, vI 1, vI cx] [(.int cx), (.int 1), (.ref a)])) rfl (hb hby d20_47)
 refine Go.movp st303 (mkF m 50 #[vR a, vI 1, vI cx] [(.int 8), (.int cx), (.int 1), (.ref a)]) rfl ?_
 refine g_ishr X303 hx (hb hby d20_50) (pc' := 51) rfl ?_
 refine g_i2b X303 hx (hb hby d20_51) (pc' := 52) rfl ?_
 obtain ⟨T304, h304, L304, X304, e304, N304, W304, V304, st304⟩ := h_bastore X303 hx hZ e303 N297 f302 G1 (j := (1 : Int32)) (i := 1) (x := (byt (shr cx (8 : Int32)))) (hb hby d20_52) (by decide) rfl rfl #[vR a, vI 1, vI cx] []
 have f305 := f298.wr W304 G1
 have Z306 : n0 ≤ h304.size := Nat.le_trans Z299 (Keep.of_wr W304).1
 have K307 := K300.wr W304 (Or.inl (List.mem_of_getElem? (i := 0) rfl))
 have f308 : Va Z h304 a .byte [(.int (byt (shr cx (0 : Int32)))), (.int (byt (byt (shr cx (8 : Int32))))), (.int x2), (.int x3)] := V304
 have f309 : Va Z h304 a .byte [(.int (byt (shr cx (0 : Int32)))), (.int (byt (shr cx (8 : Int32)))), (.int x2), (.int x3)] := by rw [show (byt (byt (shr cx (8 : Int32)))) = (byt (shr cx (8 : Int32))) from byt_byt _] at f308; exact f308
 refine Go.movp st304 (mkF m 53 #[vR a, vI 1, vI cx] []) rfl ?_
 exact g_return X304 hx hret (hb hby d20_53) N304 hlk (fun v t => endF (by decide) (by decide) v) (by rw [e304]; exact ⟨rfl, K307, f309⟩)
theorem ef_20_2_1 (x0 : Addr) (x1 : Int32) (x2 : Int32) (m : MethodId) : entryFrame m #[(.ref x0), (.int x1), (.int x2)] 3 = mkF m 0 #[.val (.ref x0), .val (.int x1), .val (.int x2)] [] := by first | (simp [entryFrame, mkF, argsToLocals, Value.category]; done) | rfl
def Q20_2_1 (Z : State) (a : Addr) (x0 : Int32) (x1 : Int32) (x2 : Int32) (x3 : Int32) (cx : Int32) (cs : Int32) (fv : Value) (h0 : Heap) (n0 : Nat) : Option Value → Heap → Prop := fun v h => v = none ∧ Keep h0 h [a] ∧ Va Z h a .byte [(.int x0), (.int x1), (.int (byt (shr cx (0 : Int32)))), (.int (byt (shr cx (8 : Int32))))]
theorem rm20_2_1 (l : Launch) (Z : State) (a0 : Array Value) (hw : HW Z a0) (a : Addr) (x0 : Int32) (x1 : Int32) (x2 : Int32) (x3 : Int32) (cx : Int32) (cs : Int32) (fv : Value) (h0 : Heap) (n0 : Nat) (Z0 : n0 ≤ h0.size) (V1 : Va Z h0 a .byte [(.int x0), (.int x1), (.int x2), (.int x3)]) (G1 : n0 ≤ a) (B : Sts Z cs fv) (O : Old Z n0 h0) : Ctr l Z (⟨"java/lang/StringUTF16", "putChar", "([BII)V"⟩ : MethodName) jdk_52_method_4_code 3 none ({ frames := 0, cells := 0, slots := 0, locals := 0 } : Room) #[(.ref a), (.int 1), (.int cx)] h0 n0 (Q20_2_1 Z a x0 x1 x2 x3 cx cs fv h0 n0) := by
 refine Ctr.of (plainFor_of_name pn_24) (ef_20_2_1 a (1 : Int32) cx) ?_
 intro p e s m below meth c T0 hx hby hml hown hnm hret hlk hZ X0 e0
 have N0 := Fr.nil n0
 obtain ⟨T310, X310, e310, st310⟩ := getS2 X0 hx hZ hown (host := "") (Or.inl (wd hw 108 rfl)) Via.refl e0 (Sta.ext O.2 B.2.2.1) (g := (mkF m 0 #[vR a, vI 1, vI cx] [])) rfl (hb hby d20_0)
 refine Go.movp st310 (mkF m 3 #[vR a, vI 1, vI cx] [(.int 1)]) rfl ?_
 refine g_if_ne X310 hx (hb hby d20_3) (pc1 := 6) rfl (by decide) (pc2 := 28) (by decide) (fun hc3 => ?_) (fun hc3 => absurd hc3 (by decide))
 refine g_iloadN X310 hx (hb hby d20_28) (pc' := 29) rfl rfl ?_
 refine g_iconst X310 hx (hb hby d20_29) (pc' := 30) rfl (z := 1) rfl ?_
 refine g_ishl X310 hx (hb hby d20_30) (pc' := 31) rfl ?_
 refine Go.cast (show (mkF m 31 #[vR a, vI 1, vI cx] [(.int (shl (1 : Int32) (1 : Int32)))]) = (mkF m 31 #[vR a, vI 1, vI cx] [(.int 2)]) from by rw [show (shl (1 : Int32) (1 : Int32)) = (2 : Int32) from (by decide)]) ?_
 refine g_istoreN X310 hx (hb hby d20_31) (pc' := 32) rfl (Ls' := #[vR a, vI 2, vI cx]) rfl ?_
 refine g_aloadN X310 hx (hb hby d20_32) (pc' := 33) rfl rfl rfl ?_
 refine g_iloadN X310 hx (hb hby d20_33) (pc' := 34) rfl rfl ?_
 refine g_iinc X310 hx (hb hby d20_34) (pc' := 37) rfl rfl (z := 1) rfl (Ls' := #[vR a, vI 3, vI cx]) rfl ?_
 refine g_iloadN X310 hx (hb hby d20_37) (pc' := 38) rfl rfl ?_
 obtain ⟨T311, X311, e311, st311⟩ := getS2 X310 hx hZ hown (host := "") (Or.inl (wd hw 109 rfl)) Via.refl e310 (Sta.ext O.2 B.2.2.2.1) (g := (mkF m 38 #[vR a, vI 3, vI cx] [(.int cx), (.int 2), (.ref a)])) rfl (hb hby d20_38)
 refine Go.movp st311 (mkF m 41 #[vR a, vI 3, vI cx] [(.int 0), (.int cx), (.int 2), (.ref a)]) rfl ?_
 refine g_ishr X311 hx (hb hby d20_41) (pc' := 42) rfl ?_
 refine g_i2b X311 hx (hb hby d20_42) (pc' := 43) rfl ?_
 obtain ⟨T312, h312, L312, X312, e312, N312, W312, V312, st312⟩ := h_bastore X311 hx hZ e311 N0 V1 G1 (j := (2 : Int32)) (i := 2) (x := (byt (shr cx (0 : Int32)))) (hb hby d20_43) (by decide) rfl rfl #[vR a, vI 3, vI cx] []
 have f313 := O.wr W312 G1
 have Z314 : n0 ≤ h312.size := Nat.le_trans Z0 (Keep.of_wr W312).1
 have K315 := (Keep.refl h0 [a]).wr W312 (Or.inl (List.mem_of_getElem? (i := 0) rfl))
 have f316 : Va Z h312 a .byte [(.int x0), (.int x1), (.int (byt (byt (shr cx (0 : Int32))))), (.int x3)] := V312
 have f317 : Va Z h312 a .byte [(.int x0), (.int x1), (.int (byt (shr cx (0 : Int32)))), (.int x3)] := by rw [show (byt (byt (shr cx (0 : Int32)))) = (byt (shr cx (0 : Int32))) from byt_byt _] at f316; exact f316
 refine Go.movp st312 (mkF m 44 #[vR a, vI 3, vI cx] []) rfl ?_
 refine g_aloadN X312 hx (hb hby d20_44) (pc' := 45) rfl rfl rfl ?_
 refine g_iloadN X312 hx (hb hby d20_45) (pc' := 46) rfl rfl ?_
 refine g_iloadN X312 hx (hb hby d20_46) (pc' := 47) rfl rfl ?_
 obtain ⟨T318, X318, e318, st318⟩ := getS2 X312 hx hZ hown (host := "") (Or.inl (wd hw 110 rfl)) Via.refl e312 (Sta.ext f313.2 B.2.2.2.2.1) (g := (mkF m 47 #[vR a, vI 3, vI cx] [(.int cx), (.int 3), (.ref a)])) rfl (hb hby d20_47)
 refine Go.movp st318 (mkF m 50 #[vR a, vI 3, vI cx] [(.int 8), (.int cx), (.int 3), (.ref a)]) rfl ?_
 refine g_ishr X318 hx (hb hby d20_50) (pc' := 51) rfl ?_
 refine g_i2b X318 hx (hb hby d20_51) (pc' := 52) rfl ?_
 obtain ⟨T319, h319, L319, X319, e319, N319, W319, V319, st319⟩ := h_bastore X318 hx hZ e318 N312 f317 G1 (j := (3 : Int32)) (i := 3) (x := (byt (shr cx (8 : Int32)))) (hb hby d20_52) (by decide) rfl rfl #[vR a, vI 3, vI cx] []
 have f320 := f313.wr W319 G1
 have Z321 : n0 ≤ h319.size := Nat.le_trans Z314 (Keep.of_wr W319).1
 have K322 := K315.wr W319 (Or.inl (List.mem_of_getElem? (i := 0) rfl))
 have f323 : Va Z h319 a .byte [(.int x0), (.int x1), (.int (byt (shr cx (0 : Int32)))), (.int (byt (byt (shr cx (8 : Int32)))))] := V319
 have f324 : Va Z h319 a .byte [(.int x0), (.int x1), (.int (byt (shr cx (0 : Int32)))), (.int (byt (shr cx (8 : Int32))))] := by rw [show (byt (byt (shr cx (8 : Int32)))) = (byt (shr cx (8 : Int32))) from byt_byt _] at f323; exact f323
 refine Go.movp st319 (mkF m 53 #[vR a, vI 3, vI cx] []) rfl ?_
 exact g_return X319 hx hret (hb hby d20_53) N319 hlk (fun v t => endF (by decide) (by decide) v) (by rw [e319]; exact ⟨rfl, K322, f324⟩)
theorem ef_17_2 (x0 : Addr) (x1 : Int32) (x2 : Int32) (m : MethodId) : entryFrame m #[(.ref x0), (.int x1), (.int x2)] 5 = mkF m 0 #[.val (.ref x0), .val (.int x1), .val (.int x2), .unset, .unset] [] := by first | (simp [entryFrame, mkF, argsToLocals, Value.category]; done) | rfl
def Q17_2 (Z : State) (a : Addr) (c0 : Int32) (c1 : Int32) (cs : Int32) (fv : Value) (h0 : Heap) (n0 : Nat) : Option Value → Heap → Prop := fun v h => ∃ r, v = some (.ref r) ∧ n0 ≤ r ∧ h0.size ≤ r ∧ Keep h0 h [] ∧ Va Z h r .byte [(.int (byt (shr c0 (0 : Int32)))), (.int (byt (shr c0 (8 : Int32)))), (.int (byt (shr c1 (0 : Int32)))), (.int (byt (shr c1 (8 : Int32))))] ∧ Exa Z h r "[B"
theorem rm17_2 (l : Launch) (Z : State) (a0 : Array Value) (hw : HW Z a0) (a : Addr) (c0 : Int32) (c1 : Int32) (cs : Int32) (fv : Value) (h0 : Heap) (n0 : Nat) (Z0 : n0 ≤ h0.size) (V1 : Va Z h0 a .char [(.int c0), (.int c1)]) (B : Sts Z cs fv) (O : Old Z n0 h0) : Ctr l Z (⟨"java/lang/StringUTF16", "toBytes", "([CII)[B"⟩ : MethodName) jdk_52_method_14_code 5 (some (.array .byte)) ({ frames := 2, cells := 1, slots := 4, locals := 24 } : Room) #[(.ref a), (.int 0), (.int 2)] h0 n0 (Q17_2 Z a c0 c1 cs fv h0 n0) := by
 refine Ctr.of (plainFor_of_name pn_24) (ef_17_2 a (0 : Int32) (2 : Int32)) ?_
 intro p e s m below meth c T0 hx hby hml hown hnm hret hlk hZ X0 e0
 have N0 := Fr.nil n0
 refine g_iloadN X0 hx (hb hby d17_0) (pc' := 1) rfl rfl ?_
 obtain ⟨v325, T325, h325, L325, X325, e325, N325, q325, st325⟩ := h_static X0 hx (W := 0) (Ls := #[vR a, vI 0, vI 2, .unset, .unset]) (argsL := [(.int 2)]) (rest := []) hZ e0 N0 hml hown (rm18_2 l Z a0 hw h0 n0 Z0) (wd hw 98 rfl) (wd hw 99 rfl) (wd hw 17 rfl) (wd hw 100 rfl) (by decide) pd__I__B rfl rfl (hb hby d17_1) rfl (by decide) (by decide) (by decide) (by decide)
 obtain ⟨r325, rfl, ge325, sz325, K325, V325, A325⟩ := q325
 have f326 := O.keep K325 all0
 have f327 := V1.keep K325 nin0
 have Z328 : n0 ≤ h325.size := Nat.le_trans Z0 K325.1
 have K329 := (Keep.refl h0 []).trans K325 all0
 have ne330 : a ≠ r325 := Nat.ne_of_lt (Nat.lt_of_lt_of_le V1.lt sz325)
 have sz331 : h0.size ≤ r325 := Nat.le_trans (Keep.refl h0 []).1 sz325
 refine Go.movp st325 (mkF m 4 #[vR a, vI 0, vI 2, .unset, .unset] [(.ref r325)]) rfl ?_
 refine g_astoreN X325 hx (hb hby d17_4) (pc' := 5) rfl rfl (Ls' := #[vR a, vI 0, vI 2, vR r325, .unset]) rfl ?_
 refine g_iconst X325 hx (hb hby d17_5) (pc' := 6) rfl (z := 0) rfl ?_
 refine g_istore X325 hx (hb hby d17_6) (pc' := 8) rfl (Ls' := #[vR a, vI 0, vI 2, vR r325, vI 0]) rfl ?_
 refine g_iload X325 hx (hb hby d17_8) (pc' := 10) rfl rfl ?_
 refine g_iloadN X325 hx (hb hby d17_10) (pc' := 11) rfl rfl ?_
 refine g_icmp_ge X325 hx (hb hby d17_11) (pc1 := 14) rfl (by decide) (pc2 := 32) (by decide) (fun hc11 => absurd (by decide) hc11) (fun hc11 => ?_)
 refine g_aloadN X325 hx (hb hby d17_14) (pc' := 15) rfl rfl rfl ?_
 refine g_iload X325 hx (hb hby d17_15) (pc' := 17) rfl rfl ?_
 refine g_aloadN X325 hx (hb hby d17_17) (pc' := 18) rfl rfl rfl ?_
 refine g_iloadN X325 hx (hb hby d17_18) (pc' := 19) rfl rfl ?_
 refine g_caload X325 hx hZ e325 f327 (i := 0) (v := (.int c0)) (hb hby d17_19) (pc' := 20) rfl (by decide) rfl rfl ?_
 obtain ⟨v332, T332, h332, L332, X332, e332, N332, q332, st332⟩ := h_static X325 hx (W := 0) (Ls := #[vR a, vI 0, vI 2, vR r325, vI 0]) (argsL := [(.ref r325), (.int 0), (.int c0)]) (rest := []) hZ e325 N325 hml hown (rm20_2_0 l Z a0 hw r325 (0 : Int32) (0 : Int32) (0 : Int32) (0 : Int32) c0 cs fv h325 n0 Z328 V325 ge325 B f326) (wd hw 105 rfl) (wd hw 106 rfl) (wd hw 17 rfl) (wd hw 107 rfl) (by decide) pd___BII_V rfl rfl (hb hby d17_20) rfl (by decide) (by decide) (by decide) (by decide)
 obtain ⟨rfl, K332, V332⟩ := q332
 have f333 := f326.keep K332 (allS ge325 all0)
 have f334 := f327.keep K332 (ninS ne330 nin0)
 have f335 := A325.keep K332
 have Z336 : n0 ≤ h332.size := Nat.le_trans Z328 K332.1
 have K337 := K329.trans K332 (allS (Or.inr sz331) all0)
 refine Go.movp st332 (mkF m 23 #[vR a, vI 0, vI 2, vR r325, vI 0] []) rfl ?_
 refine g_iinc X332 hx (hb hby d17_23) (pc' := 26) rfl rfl (z := 1) rfl (Ls' := #[vR a, vI 1, vI 2, vR r325, vI 0]) rfl ?_
 refine g_iinc X332 hx (hb hby d17_26) (pc' := 29) rfl rfl (z := 1) rfl (Ls' := #[vR a, vI 1, vI 2, vR r325, vI 1]) rfl ?_
 refine g_goto X332 hx (hb hby d17_29) (by decide) (pc' := 8) (by decide) ?_
 refine g_iload X332 hx (hb hby d17_8) (pc' := 10) rfl rfl ?_
 refine g_iloadN X332 hx (hb hby d17_10) (pc' := 11) rfl rfl ?_
 refine g_icmp_ge X332 hx (hb hby d17_11) (pc1 := 14) rfl (by decide) (pc2 := 32) (by decide) (fun hc11_1 => absurd (by decide) hc11_1) (fun hc11_1 => ?_)
 refine g_aloadN X332 hx (hb hby d17_14) (pc' := 15) rfl rfl rfl ?_
 refine g_iload X332 hx (hb hby d17_15) (pc' := 17) rfl rfl ?_
 refine g_aloadN X332 hx (hb hby d17_17) (pc' := 18) rfl rfl rfl ?_
 refine g_iloadN X332 hx (hb hby d17_18) (pc' := 19) rfl rfl ?_
 refine g_caload X332 hx hZ e332 f334 (i := 1) (v := (.int c1)) (hb hby d17_19) (pc' := 20) rfl (by decide) rfl rfl ?_
 obtain ⟨v338, T338, h338, L338, X338, e338, N338, q338, st338⟩ := h_static X332 hx (W := 0) (Ls := #[vR a, vI 1, vI 2, vR r325, vI 1]) (argsL := [(.ref r325), (.int 1), (.int c1)]) (rest := []) hZ e332 N332 hml hown (rm20_2_1 l Z a0 hw r325 (byt (shr c0 (0 : Int32))) (byt (shr c0 (8 : Int32))) (0 : Int32) (0 : Int32) c1 cs fv h332 n0 Z336 V332 ge325 B f333) (wd hw 105 rfl) (wd hw 106 rfl) (wd hw 17 rfl) (wd hw 107 rfl) (by decide) pd___BII_V rfl rfl (hb hby d17_20) rfl (by decide) (by decide) (by decide) (by decide)
 obtain ⟨rfl, K338, V338⟩ := q338
 have f339 := f333.keep K338 (allS ge325 all0)
 have f340 := f334.keep K338 (ninS ne330 nin0)
 have f341 := f335.keep K338
 have Z342 : n0 ≤ h338.size := Nat.le_trans Z336 K338.1
 have K343 := K337.trans K338 (allS (Or.inr sz331) all0)
 refine Go.movp st338 (mkF m 23 #[vR a, vI 1, vI 2, vR r325, vI 1] []) rfl ?_
 refine g_iinc X338 hx (hb hby d17_23) (pc' := 26) rfl rfl (z := 1) rfl (Ls' := #[vR a, vI 2, vI 2, vR r325, vI 1]) rfl ?_
 refine g_iinc X338 hx (hb hby d17_26) (pc' := 29) rfl rfl (z := 1) rfl (Ls' := #[vR a, vI 2, vI 2, vR r325, vI 2]) rfl ?_
 refine g_goto X338 hx (hb hby d17_29) (by decide) (pc' := 8) (by decide) ?_
 refine g_iload X338 hx (hb hby d17_8) (pc' := 10) rfl rfl ?_
 refine g_iloadN X338 hx (hb hby d17_10) (pc' := 11) rfl rfl ?_
 refine g_icmp_ge X338 hx (hb hby d17_11) (pc1 := 14) rfl (by decide) (pc2 := 32) (by decide) (fun hc11_2 => ?_) (fun hc11_2 => absurd hc11_2 (by decide))
 refine g_aloadN X338 hx (hb hby d17_32) (pc' := 33) rfl rfl rfl ?_
 exact g_areturn X338 hx rfl rfl hret (hb hby d17_33) N338 hlk (fun v t => endF (by decide) (by decide) v) (by rw [e338]; exact ⟨_, rfl, ge325, sz331, K343, V338, f341⟩)
theorem ef_5_2 (x0 : Addr) (x1 : Int32) (x2 : Addr) (x3 : Int32) (x4 : Int32) (m : MethodId) : entryFrame m #[(.ref x0), (.int x1), (.ref x2), (.int x3), (.int x4)] 7 = mkF m 0 #[.val (.ref x0), .val (.int x1), .val (.ref x2), .val (.int x3), .val (.int x4), .unset, .unset] [] := by first | (simp [entryFrame, mkF, argsToLocals, Value.category]; done) | rfl
def Q5_2 (Z : State) (a : Addr) (b : Addr) (c0 : Int32) (c1 : Int32) (h0 : Heap) (n0 : Nat) : Option Value → Heap → Prop := fun v h => ∃ k : Int32, v = some (.int k) ∧ Keep h0 h [b] ∧ ((k = (0 : Int32) ∧ 255 < c0) ∨ (k = (1 : Int32) ∧ 255 < c1) ∨ (k = (2 : Int32) ∧ (∀ c ∈ [c0, c1], ¬ 255 < c) ∧ Va Z h b .byte [(.int (byt c0)), (.int (byt c1))]))
theorem rm5_2 (l : Launch) (Z : State) (a0 : Array Value) (hw : HW Z a0) (a : Addr) (b : Addr) (c0 : Int32) (c1 : Int32) (h0 : Heap) (n0 : Nat) (Z0 : n0 ≤ h0.size) (V1 : Va Z h0 a .char [(.int c0), (.int c1)]) (V2 : Va Z h0 b .byte [(.int 0), (.int 0)]) (G2 : n0 ≤ b) (ne1 : a ≠ b) : Ctr l Z (⟨"java/lang/StringUTF16", "compress", "([CI[BII)I"⟩ : MethodName) jdk_52_method_21_code 7 (some .int) ({ frames := 0, cells := 0, slots := 0, locals := 0 } : Room) #[(.ref a), (.int 0), (.ref b), (.int 0), (.int 2)] h0 n0 (Q5_2 Z a b c0 c1 h0 n0) := by
 refine Ctr.of (plainFor_of_name pn_24) (ef_5_2 a (0 : Int32) b (0 : Int32) (2 : Int32)) ?_
 intro p e s m below meth c T0 hx hby hml hown hnm hret hlk hZ X0 e0
 have N0 := Fr.nil n0
 refine g_iconst X0 hx (hb hby d5_0) (pc' := 1) rfl (z := 0) rfl ?_
 refine g_istore X0 hx (hb hby d5_1) (pc' := 3) rfl (Ls' := #[vR a, vI 0, vR b, vI 0, vI 2, vI 0, .unset]) rfl ?_
 refine g_iload X0 hx (hb hby d5_3) (pc' := 5) rfl rfl ?_
 refine g_iload X0 hx (hb hby d5_5) (pc' := 7) rfl rfl ?_
 refine g_icmp_ge X0 hx (hb hby d5_7) (pc1 := 10) rfl (by decide) (pc2 := 44) (by decide) (fun hc7 => absurd (by decide) hc7) (fun hc7 => ?_)
 refine g_aloadN X0 hx (hb hby d5_10) (pc' := 11) rfl rfl rfl ?_
 refine g_iloadN X0 hx (hb hby d5_11) (pc' := 12) rfl rfl ?_
 refine g_caload X0 hx hZ e0 V1 (i := 0) (v := (.int c0)) (hb hby d5_12) (pc' := 13) rfl (by decide) rfl rfl ?_
 refine g_istore X0 hx (hb hby d5_13) (pc' := 15) rfl (Ls' := #[vR a, vI 0, vR b, vI 0, vI 2, vI 0, vI c0]) rfl ?_
 refine g_iload X0 hx (hb hby d5_15) (pc' := 17) rfl rfl ?_
 refine g_sipush X0 hx (hb hby d5_17) (pc' := 20) rfl (z := 255) rfl ?_
 refine g_icmp_le X0 hx (hb hby d5_20) (pc1 := 23) rfl (by decide) (pc2 := 26) (by decide) (fun hc20 => ?_) (fun hc20 => ?_)
 ·
  refine g_aloadN X0 hx (hb hby d5_26) (pc' := 27) rfl rfl rfl ?_
  refine g_iloadN X0 hx (hb hby d5_27) (pc' := 28) rfl rfl ?_
  refine g_iload X0 hx (hb hby d5_28) (pc' := 30) rfl rfl ?_
  refine g_i2b X0 hx (hb hby d5_30) (pc' := 31) rfl ?_
  obtain ⟨T344, h344, L344, X344, e344, N344, W344, V344, st344⟩ := h_bastore X0 hx hZ e0 N0 V2 G2 (j := (0 : Int32)) (i := 0) (x := (byt c0)) (hb hby d5_31) (by decide) rfl rfl #[vR a, vI 0, vR b, vI 0, vI 2, vI 0, vI c0] []
  have f345 := V1.other W344 ne1
  have Z346 : n0 ≤ h344.size := Nat.le_trans Z0 (Keep.of_wr W344).1
  have K347 := (Keep.refl h0 [b]).wr W344 (Or.inl (List.mem_of_getElem? (i := 0) rfl))
  have f348 : Va Z h344 b .byte [(.int (byt (byt c0))), (.int 0)] := V344
  have f349 : Va Z h344 b .byte [(.int (byt c0)), (.int 0)] := by rw [show (byt (byt c0)) = (byt c0) from byt_byt _] at f348; exact f348
  refine Go.movp st344 (mkF m 32 #[vR a, vI 0, vR b, vI 0, vI 2, vI 0, vI c0] []) rfl ?_
  refine g_iinc X344 hx (hb hby d5_32) (pc' := 35) rfl rfl (z := 1) rfl (Ls' := #[vR a, vI 1, vR b, vI 0, vI 2, vI 0, vI c0]) rfl ?_
  refine g_iinc X344 hx (hb hby d5_35) (pc' := 38) rfl rfl (z := 1) rfl (Ls' := #[vR a, vI 1, vR b, vI 1, vI 2, vI 0, vI c0]) rfl ?_
  refine g_iinc X344 hx (hb hby d5_38) (pc' := 41) rfl rfl (z := 1) rfl (Ls' := #[vR a, vI 1, vR b, vI 1, vI 2, vI 1, vI c0]) rfl ?_
  refine g_goto X344 hx (hb hby d5_41) (by decide) (pc' := 3) (by decide) ?_
  refine g_iload X344 hx (hb hby d5_3) (pc' := 5) rfl rfl ?_
  refine g_iload X344 hx (hb hby d5_5) (pc' := 7) rfl rfl ?_
  refine g_icmp_ge X344 hx (hb hby d5_7) (pc1 := 10) rfl (by decide) (pc2 := 44) (by decide) (fun hc7_1 => absurd (by decide) hc7_1) (fun hc7_1 => ?_)
  refine g_aloadN X344 hx (hb hby d5_10) (pc' := 11) rfl rfl rfl ?_
  refine g_iloadN X344 hx (hb hby d5_11) (pc' := 12) rfl rfl ?_
  refine g_caload X344 hx hZ e344 f345 (i := 1) (v := (.int c1)) (hb hby d5_12) (pc' := 13) rfl (by decide) rfl rfl ?_
  refine g_istore X344 hx (hb hby d5_13) (pc' := 15) rfl (Ls' := #[vR a, vI 1, vR b, vI 1, vI 2, vI 1, vI c1]) rfl ?_
  refine g_iload X344 hx (hb hby d5_15) (pc' := 17) rfl rfl ?_
  refine g_sipush X344 hx (hb hby d5_17) (pc' := 20) rfl (z := 255) rfl ?_
  refine g_icmp_le X344 hx (hb hby d5_20) (pc1 := 23) rfl (by decide) (pc2 := 26) (by decide) (fun hc20_1 => ?_) (fun hc20_1 => ?_)
  ·
   refine g_aloadN X344 hx (hb hby d5_26) (pc' := 27) rfl rfl rfl ?_
   refine g_iloadN X344 hx (hb hby d5_27) (pc' := 28) rfl rfl ?_
   refine g_iload X344 hx (hb hby d5_28) (pc' := 30) rfl rfl ?_
   refine g_i2b X344 hx (hb hby d5_30) (pc' := 31) rfl ?_
   obtain ⟨T350, h350, L350, X350, e350, N350, W350, V350, st350⟩ := h_bastore X344 hx hZ e344 N344 f349 G2 (j := (1 : Int32)) (i := 1) (x := (byt c1)) (hb hby d5_31) (by decide) rfl rfl #[vR a, vI 1, vR b, vI 1, vI 2, vI 1, vI c1] []
   have f351 := f345.other W350 ne1
   have Z352 : n0 ≤ h350.size := Nat.le_trans Z346 (Keep.of_wr W350).1
   have K353 := K347.wr W350 (Or.inl (List.mem_of_getElem? (i := 0) rfl))
   have f354 : Va Z h350 b .byte [(.int (byt c0)), (.int (byt (byt c1)))] := V350
   have f355 : Va Z h350 b .byte [(.int (byt c0)), (.int (byt c1))] := by rw [show (byt (byt c1)) = (byt c1) from byt_byt _] at f354; exact f354
   refine Go.movp st350 (mkF m 32 #[vR a, vI 1, vR b, vI 1, vI 2, vI 1, vI c1] []) rfl ?_
   refine g_iinc X350 hx (hb hby d5_32) (pc' := 35) rfl rfl (z := 1) rfl (Ls' := #[vR a, vI 2, vR b, vI 1, vI 2, vI 1, vI c1]) rfl ?_
   refine g_iinc X350 hx (hb hby d5_35) (pc' := 38) rfl rfl (z := 1) rfl (Ls' := #[vR a, vI 2, vR b, vI 2, vI 2, vI 1, vI c1]) rfl ?_
   refine g_iinc X350 hx (hb hby d5_38) (pc' := 41) rfl rfl (z := 1) rfl (Ls' := #[vR a, vI 2, vR b, vI 2, vI 2, vI 2, vI c1]) rfl ?_
   refine g_goto X350 hx (hb hby d5_41) (by decide) (pc' := 3) (by decide) ?_
   refine g_iload X350 hx (hb hby d5_3) (pc' := 5) rfl rfl ?_
   refine g_iload X350 hx (hb hby d5_5) (pc' := 7) rfl rfl ?_
   refine g_icmp_ge X350 hx (hb hby d5_7) (pc1 := 10) rfl (by decide) (pc2 := 44) (by decide) (fun hc7_2 => ?_) (fun hc7_2 => absurd hc7_2 (by decide))
   refine g_iload X350 hx (hb hby d5_44) (pc' := 46) rfl rfl ?_
   exact g_ireturn X350 hx hret (hb hby d5_46) N350 hlk (fun v t => endF (by decide) (by decide) v) (by rw [e350]; exact ⟨_, rfl, K353, Or.inr (Or.inr (⟨rfl, (List.forall_mem_cons.mpr ⟨hc20, (List.forall_mem_cons.mpr ⟨hc20_1, (fun _ q => nomatch q)⟩)⟩), f355⟩))⟩)
  ·
   refine g_iload X344 hx (hb hby d5_23) (pc' := 25) rfl rfl ?_
   exact g_ireturn X344 hx hret (hb hby d5_25) N344 hlk (fun v t => endF (by decide) (by decide) v) (by rw [e344]; exact ⟨_, rfl, K347, Or.inr (Or.inl ⟨rfl, hc20_1⟩)⟩)
 ·
  refine g_iload X0 hx (hb hby d5_23) (pc' := 25) rfl rfl ?_
  exact g_ireturn X0 hx hret (hb hby d5_25) N0 hlk (fun v t => endF (by decide) (by decide) v) (by rw [e0]; exact ⟨_, rfl, (Keep.refl h0 [b]), Or.inl ⟨rfl, hc20⟩⟩)
theorem ef_4_2 (x0 : Addr) (x1 : Int32) (x2 : Int32) (m : MethodId) : entryFrame m #[(.ref x0), (.int x1), (.int x2)] 6 = mkF m 0 #[.val (.ref x0), .val (.int x1), .val (.int x2), .unset, .unset, .unset] [] := by first | (simp [entryFrame, mkF, argsToLocals, Value.category]; done) | rfl
def Q4_2 (Z : State) (a : Addr) (c0 : Int32) (c1 : Int32) (cs : Int32) (fv : Value) (h0 : Heap) (n0 : Nat) : Option Value → Heap → Prop := fun v h => ∃ r, v = some (.ref r) ∧ n0 ≤ r ∧ h0.size ≤ r ∧ Keep h0 h [] ∧ Exa Z h r "[B" ∧ ((Va Z h r .byte [(.int (byt c0)), (.int (byt c1))] ∧ ∀ c ∈ [c0, c1], ¬ 255 < c) ∨ Va Z h r .byte [(.int (byt (shr c0 (0 : Int32)))), (.int (byt (shr c0 (8 : Int32)))), (.int (byt (shr c1 (0 : Int32)))), (.int (byt (shr c1 (8 : Int32))))])
theorem rm4_2 (l : Launch) (Z : State) (a0 : Array Value) (hw : HW Z a0) (a : Addr) (c0 : Int32) (c1 : Int32) (cs : Int32) (fv : Value) (h0 : Heap) (n0 : Nat) (Z0 : n0 ≤ h0.size) (V1 : Va Z h0 a .char [(.int c0), (.int c1)]) (B : Sts Z cs fv) (O : Old Z n0 h0) (hc0 : chr c0 = c0) (hc1 : chr c1 = c1) : Ctr l Z (⟨"java/lang/StringUTF16", "compress", "([CII)[B"⟩ : MethodName) jdk_52_method_16_code 6 (some (.array .byte)) ({ frames := 3, cells := 2, slots := 6, locals := 40 } : Room) #[(.ref a), (.int 0), (.int 2)] h0 n0 (Q4_2 Z a c0 c1 cs fv h0 n0) := by
 refine Ctr.of (plainFor_of_name pn_24) (ef_4_2 a (0 : Int32) (2 : Int32)) ?_
 intro p e s m below meth c T0 hx hby hml hown hnm hret hlk hZ X0 e0
 have N0 := Fr.nil n0
 refine g_iloadN X0 hx (hb hby d4_0) (pc' := 1) rfl rfl ?_
 obtain ⟨T356, h356, b356, X356, e356, g356, E356, V356, A356, st356⟩ := h_newarray X0 hx hZ e0 (n := (2 : Int32)) (ty := .byte) rfl (wd hw 19 rfl) (hb hby d4_1) (k := 2) (cap := 2) (by decide) rfl (by decide) (by decide) (by decide) (by decide) (ad := "[B") (by decide) #[vR a, vI 0, vI 2, .unset, .unset, .unset] []
 have ne357 : a ≠ b356 := Nat.ne_of_lt (g356 ▸ V1.lt)
 have ge358 : n0 ≤ b356 := g356 ▸ Z0
 have sz359 : h0.size ≤ b356 := g356 ▸ (Keep.refl h0 []).1
 have f360 := O.ext E356
 have f361 := V1.ext E356
 have Z362 : n0 ≤ h356.size := Nat.le_trans Z0 E356.1
 have K363 := (Keep.refl h0 []).ext E356
 have f364 : Va Z h356 b356 .byte [(.int 0), (.int 0)] := V356
 refine Go.movp st356 (mkF m 3 #[vR a, vI 0, vI 2, .unset, .unset, .unset] [(.ref b356)]) rfl ?_
 refine g_astoreN X356 hx (hb hby d4_3) (pc' := 4) rfl rfl (Ls' := #[vR a, vI 0, vI 2, vR b356, .unset, .unset]) rfl ?_
 refine g_aloadN X356 hx (hb hby d4_4) (pc' := 5) rfl rfl rfl ?_
 refine g_iloadN X356 hx (hb hby d4_5) (pc' := 6) rfl rfl ?_
 refine g_aloadN X356 hx (hb hby d4_6) (pc' := 7) rfl rfl rfl ?_
 refine g_iconst X356 hx (hb hby d4_7) (pc' := 8) rfl (z := 0) rfl ?_
 refine g_iloadN X356 hx (hb hby d4_8) (pc' := 9) rfl rfl ?_
 obtain ⟨v365, T365, h365, L365, X365, e365, N365, q365, st365⟩ := h_static X356 hx (W := 0) (Ls := #[vR a, vI 0, vI 2, vR b356, .unset, .unset]) (argsL := [(.ref a), (.int 0), (.ref b356), (.int 0), (.int 2)]) (rest := []) hZ e356 N0 hml hown (rm5_2 l Z a0 hw a b356 c0 c1 h356 n0 Z362 f361 f364 ge358 ne357) (wd hw 20 rfl) (wd hw 21 rfl) (wd hw 17 rfl) (wd hw 22 rfl) (by decide) pd___CI_BII_I rfl rfl (hb hby d4_9) rfl (by decide) (by decide) (by decide) (by decide)
 obtain ⟨k365, rfl, K365, D365⟩ := q365
 have f366 := f360.keep K365 (allS ge358 all0)
 have f367 := f361.keep K365 (ninS ne357 nin0)
 have f368 := A356.keep K365
 have Z369 : n0 ≤ h365.size := Nat.le_trans Z362 K365.1
 have K370 := K363.trans K365 (allS (Or.inr sz359) all0)
 refine Go.movp st365 (mkF m 12 #[vR a, vI 0, vI 2, vR b356, .unset, .unset] [(.int k365)]) rfl ?_
 refine g_istore X365 hx (hb hby d4_12) (pc' := 14) rfl (Ls' := #[vR a, vI 0, vI 2, vR b356, vI k365, .unset]) rfl ?_
 rcases D365 with ⟨rfl, g365⟩ | ⟨rfl, g365⟩ | ⟨rfl, C365, V365⟩
 ·
  refine g_iload X365 hx (hb hby d4_14) (pc' := 16) rfl rfl ?_
  refine g_iloadN X365 hx (hb hby d4_16) (pc' := 17) rfl rfl ?_
  refine g_icmp_eq X365 hx (hb hby d4_17) (pc1 := 20) rfl (by decide) (pc2 := 57) (by decide) (fun hc17 => absurd hc17 (by decide)) (fun hc17 => ?_)
  refine g_aloadN X365 hx (hb hby d4_20) (pc' := 21) rfl rfl rfl ?_
  refine g_iloadN X365 hx (hb hby d4_21) (pc' := 22) rfl rfl ?_
  refine g_iloadN X365 hx (hb hby d4_22) (pc' := 23) rfl rfl ?_
  obtain ⟨v371, T371, h371, L371, X371, e371, N371, q371, st371⟩ := h_static X365 hx (W := 0) (Ls := #[vR a, vI 0, vI 2, vR b356, vI 0, .unset]) (argsL := [(.ref a), (.int 0), (.int 2)]) (rest := []) hZ e365 N365 hml hown (rm17_2 l Z a0 hw a c0 c1 cs fv h365 n0 Z369 f367 B f366) (wd hw 95 rfl) (wd hw 96 rfl) (wd hw 17 rfl) (wd hw 97 rfl) (by decide) pd___CII__B rfl rfl (hb hby d4_23) rfl (by decide) (by decide) (by decide) (by decide)
  obtain ⟨r371, rfl, ge371, sz371, K371, V371, A371⟩ := q371
  have f372 := f366.keep K371 all0
  have f373 := f367.keep K371 nin0
  have f374 := f368.keep K371
  have Z375 : n0 ≤ h371.size := Nat.le_trans Z369 K371.1
  have K376 := K370.trans K371 all0
  have ne377 : a ≠ r371 := Nat.ne_of_lt (Nat.lt_of_lt_of_le f367.lt sz371)
  have ne378 : b356 ≠ r371 := Nat.ne_of_lt (Nat.lt_of_lt_of_le f368.lt sz371)
  have sz379 : h0.size ≤ r371 := Nat.le_trans K370.1 sz371
  refine Go.movp st371 (mkF m 26 #[vR a, vI 0, vI 2, vR b356, vI 0, .unset] [(.ref r371)]) rfl ?_
  refine g_astore X371 hx (hb hby d4_26) (pc' := 28) rfl rfl (Ls' := #[vR a, vI 0, vI 2, vR b356, vI 0, vR r371]) rfl ?_
  refine g_aload X371 hx (hb hby d4_28) (pc' := 30) rfl rfl rfl ?_
  refine g_iload X371 hx (hb hby d4_30) (pc' := 32) rfl rfl ?_
  obtain ⟨v380, T380, h380, L380, X380, e380, N380, q380, st380⟩ := h_static X371 hx (W := 0) (Ls := #[vR a, vI 0, vI 2, vR b356, vI 0, vR r371]) (argsL := [(.ref r371), (.int 0)]) (rest := []) hZ e371 N371 hml hown (rm21_2_0 l Z a0 hw r371 c0 c1 cs fv h371 n0 Z375 V371 B f372 hc0) (wd hw 111 rfl) (wd hw 112 rfl) (wd hw 17 rfl) (wd hw 113 rfl) (by decide) pd___BI_C rfl rfl (hb hby d4_32) rfl (by decide) (by decide) (by decide) (by decide)
  obtain ⟨rfl, rfl⟩ := q380
  refine Go.movp st380 (mkF m 35 #[vR a, vI 0, vI 2, vR b356, vI 0, vR r371] [(.int c0)]) rfl ?_
  refine g_sipush X380 hx (hb hby d4_35) (pc' := 38) rfl (z := 255) rfl ?_
  refine g_icmp_gt X380 hx (hb hby d4_38) (pc1 := 41) rfl (by decide) (pc2 := 54) (by decide) (fun hc38 => ?_) (fun hc38 => absurd g365 hc38)
  refine g_aload X380 hx (hb hby d4_54) (pc' := 56) rfl rfl rfl ?_
  exact g_areturn X380 hx rfl rfl hret (hb hby d4_56) N380 hlk (fun v t => endF (by decide) (by decide) v) (by rw [e380]; exact ⟨_, rfl, ge371, sz379, K376, A371, Or.inr V371⟩)
 ·
  refine g_iload X365 hx (hb hby d4_14) (pc' := 16) rfl rfl ?_
  refine g_iloadN X365 hx (hb hby d4_16) (pc' := 17) rfl rfl ?_
  refine g_icmp_eq X365 hx (hb hby d4_17) (pc1 := 20) rfl (by decide) (pc2 := 57) (by decide) (fun hc17 => absurd hc17 (by decide)) (fun hc17 => ?_)
  refine g_aloadN X365 hx (hb hby d4_20) (pc' := 21) rfl rfl rfl ?_
  refine g_iloadN X365 hx (hb hby d4_21) (pc' := 22) rfl rfl ?_
  refine g_iloadN X365 hx (hb hby d4_22) (pc' := 23) rfl rfl ?_
  obtain ⟨v381, T381, h381, L381, X381, e381, N381, q381, st381⟩ := h_static X365 hx (W := 0) (Ls := #[vR a, vI 0, vI 2, vR b356, vI 1, .unset]) (argsL := [(.ref a), (.int 0), (.int 2)]) (rest := []) hZ e365 N365 hml hown (rm17_2 l Z a0 hw a c0 c1 cs fv h365 n0 Z369 f367 B f366) (wd hw 95 rfl) (wd hw 96 rfl) (wd hw 17 rfl) (wd hw 97 rfl) (by decide) pd___CII__B rfl rfl (hb hby d4_23) rfl (by decide) (by decide) (by decide) (by decide)
  obtain ⟨r381, rfl, ge381, sz381, K381, V381, A381⟩ := q381
  have f382 := f366.keep K381 all0
  have f383 := f367.keep K381 nin0
  have f384 := f368.keep K381
  have Z385 : n0 ≤ h381.size := Nat.le_trans Z369 K381.1
  have K386 := K370.trans K381 all0
  have ne387 : a ≠ r381 := Nat.ne_of_lt (Nat.lt_of_lt_of_le f367.lt sz381)
  have ne388 : b356 ≠ r381 := Nat.ne_of_lt (Nat.lt_of_lt_of_le f368.lt sz381)
  have sz389 : h0.size ≤ r381 := Nat.le_trans K370.1 sz381
  refine Go.movp st381 (mkF m 26 #[vR a, vI 0, vI 2, vR b356, vI 1, .unset] [(.ref r381)]) rfl ?_
  refine g_astore X381 hx (hb hby d4_26) (pc' := 28) rfl rfl (Ls' := #[vR a, vI 0, vI 2, vR b356, vI 1, vR r381]) rfl ?_
  refine g_aload X381 hx (hb hby d4_28) (pc' := 30) rfl rfl rfl ?_
  refine g_iload X381 hx (hb hby d4_30) (pc' := 32) rfl rfl ?_
  obtain ⟨v390, T390, h390, L390, X390, e390, N390, q390, st390⟩ := h_static X381 hx (W := 0) (Ls := #[vR a, vI 0, vI 2, vR b356, vI 1, vR r381]) (argsL := [(.ref r381), (.int 1)]) (rest := []) hZ e381 N381 hml hown (rm21_2_1 l Z a0 hw r381 c0 c1 cs fv h381 n0 Z385 V381 B f382 hc1) (wd hw 111 rfl) (wd hw 112 rfl) (wd hw 17 rfl) (wd hw 113 rfl) (by decide) pd___BI_C rfl rfl (hb hby d4_32) rfl (by decide) (by decide) (by decide) (by decide)
  obtain ⟨rfl, rfl⟩ := q390
  refine Go.movp st390 (mkF m 35 #[vR a, vI 0, vI 2, vR b356, vI 1, vR r381] [(.int c1)]) rfl ?_
  refine g_sipush X390 hx (hb hby d4_35) (pc' := 38) rfl (z := 255) rfl ?_
  refine g_icmp_gt X390 hx (hb hby d4_38) (pc1 := 41) rfl (by decide) (pc2 := 54) (by decide) (fun hc38 => ?_) (fun hc38 => absurd g365 hc38)
  refine g_aload X390 hx (hb hby d4_54) (pc' := 56) rfl rfl rfl ?_
  exact g_areturn X390 hx rfl rfl hret (hb hby d4_56) N390 hlk (fun v t => endF (by decide) (by decide) v) (by rw [e390]; exact ⟨_, rfl, ge381, sz389, K386, A381, Or.inr V381⟩)
 ·
  refine g_iload X365 hx (hb hby d4_14) (pc' := 16) rfl rfl ?_
  refine g_iloadN X365 hx (hb hby d4_16) (pc' := 17) rfl rfl ?_
  refine g_icmp_eq X365 hx (hb hby d4_17) (pc1 := 20) rfl (by decide) (pc2 := 57) (by decide) (fun hc17 => ?_) (fun hc17 => absurd (by decide) hc17)
  refine g_aloadN X365 hx (hb hby d4_57) (pc' := 58) rfl rfl rfl ?_
  exact g_areturn X365 hx rfl rfl hret (hb hby d4_58) N365 hlk (fun v t => endF (by decide) (by decide) v) (by rw [e365]; exact ⟨_, rfl, ge358, sz359, K370, f368, Or.inl ⟨V365, C365⟩⟩)
theorem ef_6_2L (x0 : Addr) (x1 : Int32) (m : MethodId) : entryFrame m #[(.ref x0), (.int x1)] 2 = mkF m 0 #[.val (.ref x0), .val (.int x1)] [] := by first | (simp [entryFrame, mkF, argsToLocals, Value.category]; done) | rfl
def Q6_2L (Z : State) (b : Addr) (x0 : Int32) (x1 : Int32) (h0 : Heap) (n0 : Nat) : Option Value → Heap → Prop := fun v h => v = some (.int 0) ∧ h0 = h
theorem rm6_2L (l : Launch) (Z : State) (a0 : Array Value) (hw : HW Z a0) (b : Addr) (x0 : Int32) (x1 : Int32) (h0 : Heap) (n0 : Nat) (Z0 : n0 ≤ h0.size) (V1 : Va Z h0 b .byte [(.int x0), (.int x1)]) : Ctr l Z (⟨"java/lang/StringUTF16", "coderFromArrayLen", "([BI)B"⟩ : MethodName) jdk_52_method_15_code 2 (some .byte) ({ frames := 0, cells := 0, slots := 0, locals := 0 } : Room) #[(.ref b), (.int 2)] h0 n0 (Q6_2L Z b x0 x1 h0 n0) := by
 refine Ctr.of (plainFor_of_name pn_24) (ef_6_2L b (2 : Int32)) ?_
 intro p e s m below meth c T0 hx hby hml hown hnm hret hlk hZ X0 e0
 have N0 := Fr.nil n0
 refine g_iloadN X0 hx (hb hby d6_0) (pc' := 1) rfl rfl ?_
 refine g_aloadN X0 hx (hb hby d6_1) (pc' := 2) rfl rfl rfl ?_
 refine g_arraylength X0 hx hZ e0 V1 (z := 2) (hb hby d6_2) (pc' := 3) rfl rfl ?_
 refine g_isub X0 hx (hb hby d6_3) (pc' := 4) rfl ?_
 refine Go.cast (show (mkF m 4 #[vR b, vI 2] [(.int ((2 : Int32) - (2 : Int32)))]) = (mkF m 4 #[vR b, vI 2] [(.int 0)]) from by rw [show ((2 : Int32) - (2 : Int32)) = (0 : Int32) from (by decide)]) ?_
 refine g_bipush X0 hx (hb hby d6_4) (pc' := 6) rfl (z := 31) rfl ?_
 refine g_iushr X0 hx (hb hby d6_6) (pc' := 7) rfl ?_
 refine Go.cast (show (mkF m 7 #[vR b, vI 2] [(.int (ushr (0 : Int32) (31 : Int32)))]) = (mkF m 7 #[vR b, vI 2] [(.int 0)]) from by rw [show (ushr (0 : Int32) (31 : Int32)) = (0 : Int32) from (by decide)]) ?_
 refine g_i2b X0 hx (hb hby d6_7) (pc' := 8) rfl ?_
 refine Go.cast (show (mkF m 8 #[vR b, vI 2] [(.int (byt (0 : Int32)))]) = (mkF m 8 #[vR b, vI 2] [(.int 0)]) from by rw [show (byt (0 : Int32)) = (0 : Int32) from (by decide)]) ?_
 exact g_breturn X0 hx rfl hret (hb hby d6_8) N0 hlk (fun v t => endF (by decide) (by decide) v) (by rw [e0]; exact ⟨rfl, rfl⟩)
theorem ef_6_2U (x0 : Addr) (x1 : Int32) (m : MethodId) : entryFrame m #[(.ref x0), (.int x1)] 2 = mkF m 0 #[.val (.ref x0), .val (.int x1)] [] := by first | (simp [entryFrame, mkF, argsToLocals, Value.category]; done) | rfl
def Q6_2U (Z : State) (b : Addr) (x0 : Int32) (x1 : Int32) (x2 : Int32) (x3 : Int32) (h0 : Heap) (n0 : Nat) : Option Value → Heap → Prop := fun v h => v = some (.int 1) ∧ h0 = h
theorem rm6_2U (l : Launch) (Z : State) (a0 : Array Value) (hw : HW Z a0) (b : Addr) (x0 : Int32) (x1 : Int32) (x2 : Int32) (x3 : Int32) (h0 : Heap) (n0 : Nat) (Z0 : n0 ≤ h0.size) (V1 : Va Z h0 b .byte [(.int x0), (.int x1), (.int x2), (.int x3)]) : Ctr l Z (⟨"java/lang/StringUTF16", "coderFromArrayLen", "([BI)B"⟩ : MethodName) jdk_52_method_15_code 2 (some .byte) ({ frames := 0, cells := 0, slots := 0, locals := 0 } : Room) #[(.ref b), (.int 2)] h0 n0 (Q6_2U Z b x0 x1 x2 x3 h0 n0) := by
 refine Ctr.of (plainFor_of_name pn_24) (ef_6_2U b (2 : Int32)) ?_
 intro p e s m below meth c T0 hx hby hml hown hnm hret hlk hZ X0 e0
 have N0 := Fr.nil n0
 refine g_iloadN X0 hx (hb hby d6_0) (pc' := 1) rfl rfl ?_
 refine g_aloadN X0 hx (hb hby d6_1) (pc' := 2) rfl rfl rfl ?_
 refine g_arraylength X0 hx hZ e0 V1 (z := 4) (hb hby d6_2) (pc' := 3) rfl rfl ?_
 refine g_isub X0 hx (hb hby d6_3) (pc' := 4) rfl ?_
 refine Go.cast (show (mkF m 4 #[vR b, vI 2] [(.int ((2 : Int32) - (4 : Int32)))]) = (mkF m 4 #[vR b, vI 2] [(.int (-2 : Int32))]) from by rw [show ((2 : Int32) - (4 : Int32)) = (-2 : Int32) from (by decide)]) ?_
 refine g_bipush X0 hx (hb hby d6_4) (pc' := 6) rfl (z := 31) rfl ?_
 refine g_iushr X0 hx (hb hby d6_6) (pc' := 7) rfl ?_
 refine Go.cast (show (mkF m 7 #[vR b, vI 2] [(.int (ushr (-2 : Int32) (31 : Int32)))]) = (mkF m 7 #[vR b, vI 2] [(.int 1)]) from by rw [show (ushr (-2 : Int32) (31 : Int32)) = (1 : Int32) from (by decide)]) ?_
 refine g_i2b X0 hx (hb hby d6_7) (pc' := 8) rfl ?_
 refine Go.cast (show (mkF m 8 #[vR b, vI 2] [(.int (byt (1 : Int32)))]) = (mkF m 8 #[vR b, vI 2] [(.int 1)]) from by rw [show (byt (1 : Int32)) = (1 : Int32) from (by decide)]) ?_
 exact g_breturn X0 hx rfl hret (hb hby d6_8) N0 hlk (fun v t => endF (by decide) (by decide) v) (by rw [e0]; exact ⟨rfl, rfl⟩)
theorem ef_2_2 (x0 : Addr) (x1 : Addr) (x2 : Int32) (x3 : Int32) (m : MethodId) : entryFrame m #[(.ref x0), (.ref x1), (.int x2), (.int x3), .null] 6 = mkF m 0 #[.val (.ref x0), .val (.ref x1), .val (.int x2), .val (.int x3), .val .null, .unset] [] := by first | (simp [entryFrame, mkF, argsToLocals, Value.category]; done) | rfl
def Q2_2 (Z : State) (a : Addr) (b : Addr) (c0 : Int32) (c1 : Int32) (cs : Int32) (fv : Value) (h0 : Heap) (n0 : Nat) : Option Value → Heap → Prop := fun v h => v = none ∧ Keep h0 h [a] ∧ ∃ r, h0.size ≤ r ∧ Str Z h a r [c0, c1]
theorem rm2_2 (l : Launch) (Z : State) (a0 : Array Value) (hw : HW Z a0) (a : Addr) (b : Addr) (c0 : Int32) (c1 : Int32) (cs : Int32) (fv : Value) (h0 : Heap) (n0 : Nat) (Z0 : n0 ≤ h0.size) (F1 : Fld Z h0 a "java/lang/String" "value" "[B" .null) (F2 : Fld Z h0 a "java/lang/String" "coder" "B" (.int 0)) (E1 : Exa Z h0 a "java/lang/String") (G1 : n0 ≤ a) (V1 : Va Z h0 b .char [(.int c0), (.int c1)]) (ne1 : b ≠ a) (B : Sts Z cs fv) (O : Old Z n0 h0) (hc0 : chr c0 = c0) (hc1 : chr c1 = c1) : Ctr l Z (⟨"java/lang/String", "<init>", "([CIILjava/lang/Void;)V"⟩ : MethodName) jdk_42_method_149_code 6 none ({ frames := 4, cells := 2, slots := 6, locals := 57 } : Room) #[(.ref a), (.ref b), (.int 0), (.int 2), .null] h0 n0 (Q2_2 Z a b c0 c1 cs fv h0 n0) := by
 refine Ctr.of (plainFor_of_name pn_13) (ef_2_2 a b (0 : Int32) (2 : Int32)) ?_
 intro p e s m below meth c T0 hx hby hml hown hnm hret hlk hZ X0 e0
 have N0 := Fr.nil n0
 refine g_aloadN X0 hx (hb hby d2_0) (pc' := 1) rfl rfl rfl ?_
 obtain ⟨T391, X391, e391, st391⟩ := initO X0 hx hZ hown (wd hw 11 rfl) (wd hw 12 rfl) (wd hw 13 rfl) e0 (g := (mkF m 1 #[vR a, vR b, vI 0, vI 2, .val .null, .unset] [(.ref a)])) rfl (by rw [hml]; rfl) rfl (hb hby d2_1) (by decide) (W := 0) (by show 2 * 0 + _ ≤ _; exact Nat.le_of_eq rfl) (by decide)
 refine Go.movp st391 (mkF m 4 #[vR a, vR b, vI 0, vI 2, .val .null, .unset] []) rfl ?_
 refine g_iloadN X391 hx (hb hby d2_4) (pc' := 5) rfl rfl ?_
 refine g_if_ne X391 hx (hb hby d2_5) (pc1 := 8) rfl (by decide) (pc2 := 27) (by decide) (fun hc5 => ?_) (fun hc5 => absurd hc5 (by decide))
 obtain ⟨T392, X392, e392, st392⟩ := getS2 X391 hx hZ hown (host := "") (Or.inl (wd hw 14 rfl)) Via.refl e391 (Sta.ext O.2 B.1) (g := (mkF m 27 #[vR a, vR b, vI 0, vI 2, .val .null, .unset] [])) rfl (hb hby d2_27)
 refine Go.movp st392 (mkF m 30 #[vR a, vR b, vI 0, vI 2, .val .null, .unset] [(.int cs)]) rfl ?_
 refine g_if_eq X392 hx (hb hby d2_30) (pc1 := 33) rfl (by decide) (pc2 := 58) (by decide) (fun hc30 => absurd hc30 B.2.1) (fun hc30 => ?_)
 refine g_aloadN X392 hx (hb hby d2_33) (pc' := 34) rfl rfl rfl ?_
 refine g_iloadN X392 hx (hb hby d2_34) (pc' := 35) rfl rfl ?_
 refine g_iloadN X392 hx (hb hby d2_35) (pc' := 36) rfl rfl ?_
 obtain ⟨v393, T393, h393, L393, X393, e393, N393, q393, st393⟩ := h_static X392 hx (W := 0) (Ls := #[vR a, vR b, vI 0, vI 2, .val .null, .unset]) (argsL := [(.ref b), (.int 0), (.int 2)]) (rest := []) hZ e392 N0 hml hown (rm4_2 l Z a0 hw b c0 c1 cs fv h0 n0 Z0 V1 B O hc0 hc1) (wd hw 15 rfl) (wd hw 16 rfl) (wd hw 17 rfl) (wd hw 18 rfl) (by decide) pd___CII__B rfl rfl (hb hby d2_36) rfl (by decide) (by decide) (by decide) (by decide)
 obtain ⟨r393, rfl, ge393, sz393, K393, A393, D393⟩ := q393
 have f394 := F1.keep K393 nin0
 have f395 := F2.keep K393 nin0
 have f396 := E1.keep K393
 have f397 := V1.keep K393 nin0
 have f398 := O.keep K393 all0
 have Z399 : n0 ≤ h393.size := Nat.le_trans Z0 K393.1
 have K400 := (Keep.refl h0 [a]).trans K393 all0
 have ne401 : a ≠ r393 := Nat.ne_of_lt (Nat.lt_of_lt_of_le F1.lt sz393)
 have ne402 : b ≠ r393 := Nat.ne_of_lt (Nat.lt_of_lt_of_le V1.lt sz393)
 have sz403 : h0.size ≤ r393 := Nat.le_trans (Keep.refl h0 [a]).1 sz393
 refine Go.movp st393 (mkF m 39 #[vR a, vR b, vI 0, vI 2, .val .null, .unset] [(.ref r393)]) rfl ?_
 rcases D393 with ⟨V393, C393⟩ | V393
 ·
  refine g_astore X393 hx (hb hby d2_39) (pc' := 41) rfl rfl (Ls' := #[vR a, vR b, vI 0, vI 2, .val .null, vR r393]) rfl ?_
  refine g_aloadN X393 hx (hb hby d2_41) (pc' := 42) rfl rfl rfl ?_
  refine g_aload X393 hx (hb hby d2_42) (pc' := 44) rfl rfl rfl ?_
  refine g_iloadN X393 hx (hb hby d2_44) (pc' := 45) rfl rfl ?_
  obtain ⟨v404, T404, h404, L404, X404, e404, N404, q404, st404⟩ := h_static X393 hx (W := 1) (Ls := #[vR a, vR b, vI 0, vI 2, .val .null, vR r393]) (argsL := [(.ref r393), (.int 2)]) (rest := [(.ref a)]) hZ e393 N393 hml hown (rm6_2L l Z a0 hw r393 (byt c0) (byt c1) h393 n0 Z399 V393) (wd hw 23 rfl) (wd hw 24 rfl) (wd hw 17 rfl) (wd hw 25 rfl) (by decide) pd___BI_B rfl rfl (hb hby d2_45) rfl (by decide) (by decide) (by decide) (by decide)
  obtain ⟨rfl, rfl⟩ := q404
  refine Go.movp st404 (mkF m 48 #[vR a, vR b, vI 0, vI 2, .val .null, vR r393] [(.int 0), (.ref a)]) rfl ?_
  obtain ⟨T405, h405, X405, e405, W405, st405⟩ := putFN X404 hx hZ hown (wd hw 26 rfl) Via.refl e404 f395 f396 (Or.inr ⟨(wd hw 27 rfl), rfl, hnm⟩) (wd hw 1 rfl) (ty := .byte) (v' := .int (nar .byte (0 : Int32))) (by decide) rfl (fits_nar_byte _) (g := (mkF m 48 #[vR a, vR b, vI 0, vI 2, .val .null, vR r393] [(.int 0), (.ref a)])) rfl rfl (hb hby d2_48)
  have f406 : Fld Z h405 a "java/lang/String" "coder" "B" (.int (byt (0 : Int32))) := Fld.same W405 f395
  have N405 := Fr.snoc X405 N404 G1
  have f407 := Fld.other W405 f394 (Or.inr (slot_ne (Or.inr (wd hw 29 rfl)) (Or.inr (wd hw 27 rfl)) (by decide) (t := (.array .byte)) (t' := .byte) (by decide) (by decide)))
  have f408 := Exa.wr W405 f396
  have f409 := f397.other W405 ne1
  have f410 := f398.wr W405 G1
  have f411 := Exa.wr W405 A393
  have f412 := V393.other W405 (Ne.symm ne401)
  have Z413 : n0 ≤ h405.size := Nat.le_trans Z399 (Keep.of_wr W405).1
  have K414 := K400.wr W405 (Or.inl (List.mem_of_getElem? (i := 0) rfl))
  refine Go.movp st405 (mkF m 51 #[vR a, vR b, vI 0, vI 2, .val .null, vR r393] []) rfl ?_
  refine g_aloadN X405 hx (hb hby d2_51) (pc' := 52) rfl rfl rfl ?_
  refine g_aload X405 hx (hb hby d2_52) (pc' := 54) rfl rfl rfl ?_
  obtain ⟨T415, h415, X415, e415, W415, st415⟩ := putF X405 hx hZ hown (host := "") (Or.inl (wd hw 28 rfl)) Via.refl e405 f407 f408 (Or.inr ⟨(wd hw 29 rfl), rfl, hnm⟩) (wd hw 1 rfl) (ty := (.array .byte)) (by decide) rfl rfl (g := (mkF m 54 #[vR a, vR b, vI 0, vI 2, .val .null, vR r393] [(.ref r393), (.ref a)])) rfl rfl (hb hby d2_54)
  have f416 : Fld Z h415 a "java/lang/String" "value" "[B" (.ref r393) := Fld.same W415 f407
  have N415 := Fr.snoc X415 N405 G1
  have f417 := Exa.wr W415 f408
  have f418 := f409.other W415 ne1
  have f419 := f410.wr W415 G1
  have f420 := Exa.wr W415 f411
  have f421 := f412.other W415 (Ne.symm ne401)
  have f422 := Fld.other W415 f406 (Or.inr (slot_ne (Or.inr (wd hw 27 rfl)) (Or.inr (wd hw 29 rfl)) (by decide) (t := .byte) (t' := (.array .byte)) (by decide) (by decide)))
  have Z423 : n0 ≤ h415.size := Nat.le_trans Z413 (Keep.of_wr W415).1
  have K424 := K414.wr W415 (Or.inl (List.mem_of_getElem? (i := 0) rfl))
  refine Go.movp st415 (mkF m 57 #[vR a, vR b, vI 0, vI 2, .val .null, vR r393] []) rfl ?_
  exact g_return X415 hx hret (hb hby d2_57) N415 hlk (fun v t => endF (by decide) (by decide) v) (by rw [e415]; exact ⟨rfl, K424, r393, sz403, Or.inl ⟨(by have q := f422; rw [show byt (0 : Int32) = 0 from by decide] at q; exact q), f416, f417, f421, C393⟩⟩)
 ·
  refine g_astore X393 hx (hb hby d2_39) (pc' := 41) rfl rfl (Ls' := #[vR a, vR b, vI 0, vI 2, .val .null, vR r393]) rfl ?_
  refine g_aloadN X393 hx (hb hby d2_41) (pc' := 42) rfl rfl rfl ?_
  refine g_aload X393 hx (hb hby d2_42) (pc' := 44) rfl rfl rfl ?_
  refine g_iloadN X393 hx (hb hby d2_44) (pc' := 45) rfl rfl ?_
  obtain ⟨v425, T425, h425, L425, X425, e425, N425, q425, st425⟩ := h_static X393 hx (W := 1) (Ls := #[vR a, vR b, vI 0, vI 2, .val .null, vR r393]) (argsL := [(.ref r393), (.int 2)]) (rest := [(.ref a)]) hZ e393 N393 hml hown (rm6_2U l Z a0 hw r393 (byt (shr c0 (0 : Int32))) (byt (shr c0 (8 : Int32))) (byt (shr c1 (0 : Int32))) (byt (shr c1 (8 : Int32))) h393 n0 Z399 V393) (wd hw 23 rfl) (wd hw 24 rfl) (wd hw 17 rfl) (wd hw 25 rfl) (by decide) pd___BI_B rfl rfl (hb hby d2_45) rfl (by decide) (by decide) (by decide) (by decide)
  obtain ⟨rfl, rfl⟩ := q425
  refine Go.movp st425 (mkF m 48 #[vR a, vR b, vI 0, vI 2, .val .null, vR r393] [(.int 1), (.ref a)]) rfl ?_
  obtain ⟨T426, h426, X426, e426, W426, st426⟩ := putFN X425 hx hZ hown (wd hw 26 rfl) Via.refl e425 f395 f396 (Or.inr ⟨(wd hw 27 rfl), rfl, hnm⟩) (wd hw 1 rfl) (ty := .byte) (v' := .int (nar .byte (1 : Int32))) (by decide) rfl (fits_nar_byte _) (g := (mkF m 48 #[vR a, vR b, vI 0, vI 2, .val .null, vR r393] [(.int 1), (.ref a)])) rfl rfl (hb hby d2_48)
  have f427 : Fld Z h426 a "java/lang/String" "coder" "B" (.int (byt (1 : Int32))) := Fld.same W426 f395
  have N426 := Fr.snoc X426 N425 G1
  have f428 := Fld.other W426 f394 (Or.inr (slot_ne (Or.inr (wd hw 29 rfl)) (Or.inr (wd hw 27 rfl)) (by decide) (t := (.array .byte)) (t' := .byte) (by decide) (by decide)))
  have f429 := Exa.wr W426 f396
  have f430 := f397.other W426 ne1
  have f431 := f398.wr W426 G1
  have f432 := Exa.wr W426 A393
  have f433 := V393.other W426 (Ne.symm ne401)
  have Z434 : n0 ≤ h426.size := Nat.le_trans Z399 (Keep.of_wr W426).1
  have K435 := K400.wr W426 (Or.inl (List.mem_of_getElem? (i := 0) rfl))
  refine Go.movp st426 (mkF m 51 #[vR a, vR b, vI 0, vI 2, .val .null, vR r393] []) rfl ?_
  refine g_aloadN X426 hx (hb hby d2_51) (pc' := 52) rfl rfl rfl ?_
  refine g_aload X426 hx (hb hby d2_52) (pc' := 54) rfl rfl rfl ?_
  obtain ⟨T436, h436, X436, e436, W436, st436⟩ := putF X426 hx hZ hown (host := "") (Or.inl (wd hw 28 rfl)) Via.refl e426 f428 f429 (Or.inr ⟨(wd hw 29 rfl), rfl, hnm⟩) (wd hw 1 rfl) (ty := (.array .byte)) (by decide) rfl rfl (g := (mkF m 54 #[vR a, vR b, vI 0, vI 2, .val .null, vR r393] [(.ref r393), (.ref a)])) rfl rfl (hb hby d2_54)
  have f437 : Fld Z h436 a "java/lang/String" "value" "[B" (.ref r393) := Fld.same W436 f428
  have N436 := Fr.snoc X436 N426 G1
  have f438 := Exa.wr W436 f429
  have f439 := f430.other W436 ne1
  have f440 := f431.wr W436 G1
  have f441 := Exa.wr W436 f432
  have f442 := f433.other W436 (Ne.symm ne401)
  have f443 := Fld.other W436 f427 (Or.inr (slot_ne (Or.inr (wd hw 27 rfl)) (Or.inr (wd hw 29 rfl)) (by decide) (t := .byte) (t' := (.array .byte)) (by decide) (by decide)))
  have Z444 : n0 ≤ h436.size := Nat.le_trans Z434 (Keep.of_wr W436).1
  have K445 := K435.wr W436 (Or.inl (List.mem_of_getElem? (i := 0) rfl))
  refine Go.movp st436 (mkF m 57 #[vR a, vR b, vI 0, vI 2, .val .null, vR r393] []) rfl ?_
  exact g_return X436 hx hret (hb hby d2_57) N436 hlk (fun v t => endF (by decide) (by decide) v) (by rw [e436]; exact ⟨rfl, K445, r393, sz403, Or.inr ⟨(by have q := f443; rw [show byt (1 : Int32) = 1 from by decide] at q; exact q), f437, f438, f442⟩⟩)
theorem ef_1_2 (x0 : Addr) (x1 : Addr) (m : MethodId) : entryFrame m #[(.ref x0), (.ref x1)] 2 = mkF m 0 #[.val (.ref x0), .val (.ref x1)] [] := by first | (simp [entryFrame, mkF, argsToLocals, Value.category]; done) | rfl
def Q1_2 (Z : State) (a : Addr) (b : Addr) (c0 : Int32) (c1 : Int32) (cs : Int32) (fv : Value) (h0 : Heap) (n0 : Nat) : Option Value → Heap → Prop := fun v h => v = none ∧ Keep h0 h [a] ∧ ∃ r, h0.size ≤ r ∧ Str Z h a r [c0, c1]
theorem rm1_2 (l : Launch) (Z : State) (a0 : Array Value) (hw : HW Z a0) (a : Addr) (b : Addr) (c0 : Int32) (c1 : Int32) (cs : Int32) (fv : Value) (h0 : Heap) (n0 : Nat) (Z0 : n0 ≤ h0.size) (F1 : Fld Z h0 a "java/lang/String" "value" "[B" .null) (F2 : Fld Z h0 a "java/lang/String" "coder" "B" (.int 0)) (E1 : Exa Z h0 a "java/lang/String") (G1 : n0 ≤ a) (V1 : Va Z h0 b .char [(.int c0), (.int c1)]) (ne1 : b ≠ a) (B : Sts Z cs fv) (O : Old Z n0 h0) (hc0 : chr c0 = c0) (hc1 : chr c1 = c1) : Ctr l Z (⟨"java/lang/String", "<init>", "([C)V"⟩ : MethodName) jdk_42_method_3_code 2 none ({ frames := 5, cells := 2, slots := 6, locals := 74 } : Room) #[(.ref a), (.ref b)] h0 n0 (Q1_2 Z a b c0 c1 cs fv h0 n0) := by
 refine Ctr.of (plainFor_of_name pn_13) (ef_1_2 a b) ?_
 intro p e s m below meth c T0 hx hby hml hown hnm hret hlk hZ X0 e0
 have N0 := Fr.nil n0
 refine g_aloadN X0 hx (hb hby d1_0) (pc' := 1) rfl rfl rfl ?_
 refine g_aloadN X0 hx (hb hby d1_1) (pc' := 2) rfl rfl rfl ?_
 refine g_iconst X0 hx (hb hby d1_2) (pc' := 3) rfl (z := 0) rfl ?_
 refine g_aloadN X0 hx (hb hby d1_3) (pc' := 4) rfl rfl rfl ?_
 refine g_arraylength X0 hx hZ e0 V1 (z := 2) (hb hby d1_4) (pc' := 5) rfl rfl ?_
 refine g_aconst_null X0 hx (hb hby d1_5) (pc' := 6) rfl ?_
 obtain ⟨v446, T446, h446, L446, X446, e446, N446, q446, st446⟩ := h_special (a := a) X0 hx (W := 0) (Ls := #[vR a, vR b]) (argsL := [(.ref b), (.int 0), (.int 2), .null]) (rest := []) hZ e0 N0 hml hown rfl (rm2_2 l Z a0 hw a b c0 c1 cs fv h0 n0 Z0 F1 F2 E1 G1 V1 ne1 B O hc0 hc1) (wd hw 7 rfl) (wd hw 8 rfl) (wd hw 2 rfl) (wd hw 10 rfl) (by decide) pd___CIILjava_lang_Void__V rfl rfl (hb hby d1_6) rfl (by decide) (by decide) (by decide) (by decide)
 obtain ⟨rfl, K446, r446, sz446, S446⟩ := q446
 have f447 := E1.keep K446
 have f448 := V1.keep K446 (ninS ne1 nin0)
 have f449 := O.keep K446 (allS G1 all0)
 have Z450 : n0 ≤ h446.size := Nat.le_trans Z0 K446.1
 have K451 := (Keep.refl h0 [a]).trans K446 (allS (Or.inl (List.mem_of_getElem? (i := 0) rfl)) all0)
 refine Go.movp st446 (mkF m 9 #[vR a, vR b] []) rfl ?_
 exact g_return X446 hx hret (hb hby d1_9) N446 hlk (fun v t => endF (by decide) (by decide) v) (by rw [e446]; exact ⟨rfl, K451, r446, sz446, S446⟩)
theorem ef_19_3 (x0 : Int32) (m : MethodId) : entryFrame m #[(.int x0)] 1 = mkF m 0 #[.val (.int x0)] [] := by first | (simp [entryFrame, mkF, argsToLocals, Value.category]; done) | rfl
def Q19_3 (Z : State)  (h0 : Heap) (n0 : Nat) : Option Value → Heap → Prop := fun v h => v = some (.int 6) ∧ h0 = h
theorem rm19_3 (l : Launch) (Z : State) (a0 : Array Value) (hw : HW Z a0)  (h0 : Heap) (n0 : Nat) (Z0 : n0 ≤ h0.size) : Ctr l Z (⟨"java/lang/StringUTF16", "newBytesLength", "(I)I"⟩ : MethodName) jdk_52_method_3_code 1 (some .int) ({ frames := 0, cells := 0, slots := 0, locals := 0 } : Room) #[(.int 3)] h0 n0 (Q19_3 Z  h0 n0) := by
 refine Ctr.of (plainFor_of_name pn_24) (ef_19_3 (3 : Int32)) ?_
 intro p e s m below meth c T0 hx hby hml hown hnm hret hlk hZ X0 e0
 have N0 := Fr.nil n0
 refine g_iloadN X0 hx (hb hby d19_0) (pc' := 1) rfl rfl ?_
 refine g_if_ge X0 hx (hb hby d19_1) (pc1 := 4) rfl (by decide) (pc2 := 12) (by decide) (fun hc1 => ?_) (fun hc1 => absurd hc1 (by decide))
 refine g_iloadN X0 hx (hb hby d19_12) (pc' := 13) rfl rfl ?_
 refine g_ldc X0 hx hZ hown (wd hw 104 rfl) (hb hby d19_13) (pc' := 15) rfl ?_
 refine g_icmp_lt X0 hx (hb hby d19_15) (pc1 := 18) rfl (by decide) (pc2 := 55) (by decide) (fun hc15 => ?_) (fun hc15 => absurd (by decide) hc15)
 refine g_iloadN X0 hx (hb hby d19_55) (pc' := 56) rfl rfl ?_
 refine g_iconst X0 hx (hb hby d19_56) (pc' := 57) rfl (z := 1) rfl ?_
 refine g_ishl X0 hx (hb hby d19_57) (pc' := 58) rfl ?_
 refine Go.cast (show (mkF m 58 #[vI 3] [(.int (shl (3 : Int32) (1 : Int32)))]) = (mkF m 58 #[vI 3] [(.int 6)]) from by rw [show (shl (3 : Int32) (1 : Int32)) = (6 : Int32) from (by decide)]) ?_
 exact g_ireturn X0 hx hret (hb hby d19_58) N0 hlk (fun v t => endF (by decide) (by decide) v) (by rw [e0]; exact ⟨rfl, rfl⟩)
theorem ef_18_3 (x0 : Int32) (m : MethodId) : entryFrame m #[(.int x0)] 1 = mkF m 0 #[.val (.int x0)] [] := by first | (simp [entryFrame, mkF, argsToLocals, Value.category]; done) | rfl
def Q18_3 (Z : State)  (h0 : Heap) (n0 : Nat) : Option Value → Heap → Prop := fun v h => ∃ r, v = some (.ref r) ∧ n0 ≤ r ∧ h0.size ≤ r ∧ Keep h0 h [] ∧ Va Z h r .byte [(.int 0), (.int 0), (.int 0), (.int 0), (.int 0), (.int 0)] ∧ Exa Z h r "[B"
theorem rm18_3 (l : Launch) (Z : State) (a0 : Array Value) (hw : HW Z a0)  (h0 : Heap) (n0 : Nat) (Z0 : n0 ≤ h0.size) : Ctr l Z (⟨"java/lang/StringUTF16", "newBytesFor", "(I)[B"⟩ : MethodName) jdk_52_method_2_code 1 (some (.array .byte)) ({ frames := 1, cells := 1, slots := 6, locals := 12 } : Room) #[(.int 3)] h0 n0 (Q18_3 Z  h0 n0) := by
 refine Ctr.of (plainFor_of_name pn_24) (ef_18_3 (3 : Int32)) ?_
 intro p e s m below meth c T0 hx hby hml hown hnm hret hlk hZ X0 e0
 have N0 := Fr.nil n0
 refine g_iloadN X0 hx (hb hby d18_0) (pc' := 1) rfl rfl ?_
 obtain ⟨v452, T452, h452, L452, X452, e452, N452, q452, st452⟩ := h_static X0 hx (W := 0) (Ls := #[vI 3]) (argsL := [(.int 3)]) (rest := []) hZ e0 N0 hml hown (rm19_3 l Z a0 hw h0 n0 Z0) (wd hw 101 rfl) (wd hw 102 rfl) (wd hw 17 rfl) (wd hw 103 rfl) (by decide) pd__I_I rfl rfl (hb hby d18_1) rfl (by decide) (by decide) (by decide) (by decide)
 obtain ⟨rfl, rfl⟩ := q452
 refine Go.movp st452 (mkF m 4 #[vI 3] [(.int 6)]) rfl ?_
 obtain ⟨T453, h453, b453, X453, e453, g453, E453, V453, A453, st453⟩ := h_newarray X452 hx hZ e452 (n := (6 : Int32)) (ty := .byte) rfl (wd hw 19 rfl) (hb hby d18_4) (k := 6) (cap := 6) (by decide) rfl (by decide) (by decide) (by decide) (by decide) (ad := "[B") (by decide) #[vI 3] []
 have ge454 : n0 ≤ b453 := g453 ▸ Z0
 have sz455 : h0.size ≤ b453 := g453 ▸ (Keep.refl h0 []).1
 have Z456 : n0 ≤ h453.size := Nat.le_trans Z0 E453.1
 have K457 := (Keep.refl h0 []).ext E453
 have f458 : Va Z h453 b453 .byte [(.int 0), (.int 0), (.int 0), (.int 0), (.int 0), (.int 0)] := V453
 refine Go.movp st453 (mkF m 6 #[vI 3] [(.ref b453)]) rfl ?_
 exact g_areturn X453 hx rfl rfl hret (hb hby d18_6) N452 hlk (fun v t => endF (by decide) (by decide) v) (by rw [e453]; exact ⟨_, rfl, ge454, sz455, K457, f458, A453⟩)
theorem ef_20_3_0 (x0 : Addr) (x1 : Int32) (x2 : Int32) (m : MethodId) : entryFrame m #[(.ref x0), (.int x1), (.int x2)] 3 = mkF m 0 #[.val (.ref x0), .val (.int x1), .val (.int x2)] [] := by first | (simp [entryFrame, mkF, argsToLocals, Value.category]; done) | rfl
def Q20_3_0 (Z : State) (a : Addr) (x0 : Int32) (x1 : Int32) (x2 : Int32) (x3 : Int32) (x4 : Int32) (x5 : Int32) (cx : Int32) (cs : Int32) (fv : Value) (h0 : Heap) (n0 : Nat) : Option Value → Heap → Prop := fun v h => v = none ∧ Keep h0 h [a] ∧ Va Z h a .byte [(.int (byt (shr cx (0 : Int32)))), (.int (byt (shr cx (8 : Int32)))), (.int x2), (.int x3), (.int x4), (.int x5)]
theorem rm20_3_0 (l : Launch) (Z : State) (a0 : Array Value) (hw : HW Z a0) (a : Addr) (x0 : Int32) (x1 : Int32) (x2 : Int32) (x3 : Int32) (x4 : Int32) (x5 : Int32) (cx : Int32) (cs : Int32) (fv : Value) (h0 : Heap) (n0 : Nat) (Z0 : n0 ≤ h0.size) (V1 : Va Z h0 a .byte [(.int x0), (.int x1), (.int x2), (.int x3), (.int x4), (.int x5)]) (G1 : n0 ≤ a) (B : Sts Z cs fv) (O : Old Z n0 h0) : Ctr l Z (⟨"java/lang/StringUTF16", "putChar", "([BII)V"⟩ : MethodName) jdk_52_method_4_code 3 none ({ frames := 0, cells := 0, slots := 0, locals := 0 } : Room) #[(.ref a), (.int 0), (.int cx)] h0 n0 (Q20_3_0 Z a x0 x1 x2 x3 x4 x5 cx cs fv h0 n0) := by
 refine Ctr.of (plainFor_of_name pn_24) (ef_20_3_0 a (0 : Int32) cx) ?_
 intro p e s m below meth c T0 hx hby hml hown hnm hret hlk hZ X0 e0
 have N0 := Fr.nil n0
 obtain ⟨T459, X459, e459, st459⟩ := getS2 X0 hx hZ hown (host := "") (Or.inl (wd hw 108 rfl)) Via.refl e0 (Sta.ext O.2 B.2.2.1) (g := (mkF m 0 #[vR a, vI 0, vI cx] [])) rfl (hb hby d20_0)
 refine Go.movp st459 (mkF m 3 #[vR a, vI 0, vI cx] [(.int 1)]) rfl ?_
 refine g_if_ne X459 hx (hb hby d20_3) (pc1 := 6) rfl (by decide) (pc2 := 28) (by decide) (fun hc3 => ?_) (fun hc3 => absurd hc3 (by decide))
 refine g_iloadN X459 hx (hb hby d20_28) (pc' := 29) rfl rfl ?_
 refine g_iconst X459 hx (hb hby d20_29) (pc' := 30) rfl (z := 1) rfl ?_
 refine g_ishl X459 hx (hb hby d20_30) (pc' := 31) rfl ?_
 refine Go.cast (show (mkF m 31 #[vR a, vI 0, vI cx] [(.int (shl (0 : Int32) (1 : Int32)))]) = (mkF m 31 #[vR a, vI 0, vI cx] [(.int 0)]) from by rw [show (shl (0 : Int32) (1 : Int32)) = (0 : Int32) from (by decide)]) ?_
 refine g_istoreN X459 hx (hb hby d20_31) (pc' := 32) rfl (Ls' := #[vR a, vI 0, vI cx]) rfl ?_
 refine g_aloadN X459 hx (hb hby d20_32) (pc' := 33) rfl rfl rfl ?_
 refine g_iloadN X459 hx (hb hby d20_33) (pc' := 34) rfl rfl ?_
 refine g_iinc X459 hx (hb hby d20_34) (pc' := 37) rfl rfl (z := 1) rfl (Ls' := #[vR a, vI 1, vI cx]) rfl ?_
 refine g_iloadN X459 hx (hb hby d20_37) (pc' := 38) rfl rfl ?_
 obtain ⟨T460, X460, e460, st460⟩ := getS2 X459 hx hZ hown (host := "") (Or.inl (wd hw 109 rfl)) Via.refl e459 (Sta.ext O.2 B.2.2.2.1) (g := (mkF m 38 #[vR a, vI 1, vI cx] [(.int cx), (.int 0), (.ref a)])) rfl (hb hby d20_38)
 refine Go.movp st460 (mkF m 41 #[vR a, vI 1, vI cx] [(.int 0), (.int cx), (.int 0), (.ref a)]) rfl ?_
 refine g_ishr X460 hx (hb hby d20_41) (pc' := 42) rfl ?_
 refine g_i2b X460 hx (hb hby d20_42) (pc' := 43) rfl ?_
 obtain ⟨T461, h461, L461, X461, e461, N461, W461, V461, st461⟩ := h_bastore X460 hx hZ e460 N0 V1 G1 (j := (0 : Int32)) (i := 0) (x := (byt (shr cx (0 : Int32)))) (hb hby d20_43) (by decide) rfl rfl #[vR a, vI 1, vI cx] []
 have f462 := O.wr W461 G1
 have Z463 : n0 ≤ h461.size := Nat.le_trans Z0 (Keep.of_wr W461).1
 have K464 := (Keep.refl h0 [a]).wr W461 (Or.inl (List.mem_of_getElem? (i := 0) rfl))
 have f465 : Va Z h461 a .byte [(.int (byt (byt (shr cx (0 : Int32))))), (.int x1), (.int x2), (.int x3), (.int x4), (.int x5)] := V461
 have f466 : Va Z h461 a .byte [(.int (byt (shr cx (0 : Int32)))), (.int x1), (.int x2), (.int x3), (.int x4), (.int x5)] := by rw [show (byt (byt (shr cx (0 : Int32)))) = (byt (shr cx (0 : Int32))) from byt_byt _] at f465; exact f465
 refine Go.movp st461 (mkF m 44 #[vR a, vI 1, vI cx] []) rfl ?_
 refine g_aloadN X461 hx (hb hby d20_44) (pc' := 45) rfl rfl rfl ?_
 refine g_iloadN X461 hx (hb hby d20_45) (pc' := 46) rfl rfl ?_
 refine g_iloadN X461 hx (hb hby d20_46) (pc' := 47) rfl rfl ?_
 obtain ⟨T467, X467, e467, st467⟩ := getS2 X461 hx hZ hown (host := "") (Or.inl (wd hw 110 rfl)) Via.refl e461 (Sta.ext f462.2 B.2.2.2.2.1) (g := (mkF m 47 #[vR a, vI 1, vI cx] [(.int cx), (.int 1), (.ref a)])) rfl (hb hby d20_47)
 refine Go.movp st467 (mkF m 50 #[vR a, vI 1, vI cx] [(.int 8), (.int cx), (.int 1), (.ref a)]) rfl ?_
 refine g_ishr X467 hx (hb hby d20_50) (pc' := 51) rfl ?_
 refine g_i2b X467 hx (hb hby d20_51) (pc' := 52) rfl ?_
 obtain ⟨T468, h468, L468, X468, e468, N468, W468, V468, st468⟩ := h_bastore X467 hx hZ e467 N461 f466 G1 (j := (1 : Int32)) (i := 1) (x := (byt (shr cx (8 : Int32)))) (hb hby d20_52) (by decide) rfl rfl #[vR a, vI 1, vI cx] []
 have f469 := f462.wr W468 G1
 have Z470 : n0 ≤ h468.size := Nat.le_trans Z463 (Keep.of_wr W468).1
 have K471 := K464.wr W468 (Or.inl (List.mem_of_getElem? (i := 0) rfl))
 have f472 : Va Z h468 a .byte [(.int (byt (shr cx (0 : Int32)))), (.int (byt (byt (shr cx (8 : Int32))))), (.int x2), (.int x3), (.int x4), (.int x5)] := V468
 have f473 : Va Z h468 a .byte [(.int (byt (shr cx (0 : Int32)))), (.int (byt (shr cx (8 : Int32)))), (.int x2), (.int x3), (.int x4), (.int x5)] := by rw [show (byt (byt (shr cx (8 : Int32)))) = (byt (shr cx (8 : Int32))) from byt_byt _] at f472; exact f472
 refine Go.movp st468 (mkF m 53 #[vR a, vI 1, vI cx] []) rfl ?_
 exact g_return X468 hx hret (hb hby d20_53) N468 hlk (fun v t => endF (by decide) (by decide) v) (by rw [e468]; exact ⟨rfl, K471, f473⟩)
theorem ef_20_3_1 (x0 : Addr) (x1 : Int32) (x2 : Int32) (m : MethodId) : entryFrame m #[(.ref x0), (.int x1), (.int x2)] 3 = mkF m 0 #[.val (.ref x0), .val (.int x1), .val (.int x2)] [] := by first | (simp [entryFrame, mkF, argsToLocals, Value.category]; done) | rfl
def Q20_3_1 (Z : State) (a : Addr) (x0 : Int32) (x1 : Int32) (x2 : Int32) (x3 : Int32) (x4 : Int32) (x5 : Int32) (cx : Int32) (cs : Int32) (fv : Value) (h0 : Heap) (n0 : Nat) : Option Value → Heap → Prop := fun v h => v = none ∧ Keep h0 h [a] ∧ Va Z h a .byte [(.int x0), (.int x1), (.int (byt (shr cx (0 : Int32)))), (.int (byt (shr cx (8 : Int32)))), (.int x4), (.int x5)]
theorem rm20_3_1 (l : Launch) (Z : State) (a0 : Array Value) (hw : HW Z a0) (a : Addr) (x0 : Int32) (x1 : Int32) (x2 : Int32) (x3 : Int32) (x4 : Int32) (x5 : Int32) (cx : Int32) (cs : Int32) (fv : Value) (h0 : Heap) (n0 : Nat) (Z0 : n0 ≤ h0.size) (V1 : Va Z h0 a .byte [(.int x0), (.int x1), (.int x2), (.int x3), (.int x4), (.int x5)]) (G1 : n0 ≤ a) (B : Sts Z cs fv) (O : Old Z n0 h0) : Ctr l Z (⟨"java/lang/StringUTF16", "putChar", "([BII)V"⟩ : MethodName) jdk_52_method_4_code 3 none ({ frames := 0, cells := 0, slots := 0, locals := 0 } : Room) #[(.ref a), (.int 1), (.int cx)] h0 n0 (Q20_3_1 Z a x0 x1 x2 x3 x4 x5 cx cs fv h0 n0) := by
 refine Ctr.of (plainFor_of_name pn_24) (ef_20_3_1 a (1 : Int32) cx) ?_
 intro p e s m below meth c T0 hx hby hml hown hnm hret hlk hZ X0 e0
 have N0 := Fr.nil n0
 obtain ⟨T474, X474, e474, st474⟩ := getS2 X0 hx hZ hown (host := "") (Or.inl (wd hw 108 rfl)) Via.refl e0 (Sta.ext O.2 B.2.2.1) (g := (mkF m 0 #[vR a, vI 1, vI cx] [])) rfl (hb hby d20_0)
 refine Go.movp st474 (mkF m 3 #[vR a, vI 1, vI cx] [(.int 1)]) rfl ?_
 refine g_if_ne X474 hx (hb hby d20_3) (pc1 := 6) rfl (by decide) (pc2 := 28) (by decide) (fun hc3 => ?_) (fun hc3 => absurd hc3 (by decide))
 refine g_iloadN X474 hx (hb hby d20_28) (pc' := 29) rfl rfl ?_
 refine g_iconst X474 hx (hb hby d20_29) (pc' := 30) rfl (z := 1) rfl ?_
 refine g_ishl X474 hx (hb hby d20_30) (pc' := 31) rfl ?_
 refine Go.cast (show (mkF m 31 #[vR a, vI 1, vI cx] [(.int (shl (1 : Int32) (1 : Int32)))]) = (mkF m 31 #[vR a, vI 1, vI cx] [(.int 2)]) from by rw [show (shl (1 : Int32) (1 : Int32)) = (2 : Int32) from (by decide)]) ?_
 refine g_istoreN X474 hx (hb hby d20_31) (pc' := 32) rfl (Ls' := #[vR a, vI 2, vI cx]) rfl ?_
 refine g_aloadN X474 hx (hb hby d20_32) (pc' := 33) rfl rfl rfl ?_
 refine g_iloadN X474 hx (hb hby d20_33) (pc' := 34) rfl rfl ?_
 refine g_iinc X474 hx (hb hby d20_34) (pc' := 37) rfl rfl (z := 1) rfl (Ls' := #[vR a, vI 3, vI cx]) rfl ?_
 refine g_iloadN X474 hx (hb hby d20_37) (pc' := 38) rfl rfl ?_
 obtain ⟨T475, X475, e475, st475⟩ := getS2 X474 hx hZ hown (host := "") (Or.inl (wd hw 109 rfl)) Via.refl e474 (Sta.ext O.2 B.2.2.2.1) (g := (mkF m 38 #[vR a, vI 3, vI cx] [(.int cx), (.int 2), (.ref a)])) rfl (hb hby d20_38)
 refine Go.movp st475 (mkF m 41 #[vR a, vI 3, vI cx] [(.int 0), (.int cx), (.int 2), (.ref a)]) rfl ?_
 refine g_ishr X475 hx (hb hby d20_41) (pc' := 42) rfl ?_
 refine g_i2b X475 hx (hb hby d20_42) (pc' := 43) rfl ?_
 obtain ⟨T476, h476, L476, X476, e476, N476, W476, V476, st476⟩ := h_bastore X475 hx hZ e475 N0 V1 G1 (j := (2 : Int32)) (i := 2) (x := (byt (shr cx (0 : Int32)))) (hb hby d20_43) (by decide) rfl rfl #[vR a, vI 3, vI cx] []
 have f477 := O.wr W476 G1
 have Z478 : n0 ≤ h476.size := Nat.le_trans Z0 (Keep.of_wr W476).1
 have K479 := (Keep.refl h0 [a]).wr W476 (Or.inl (List.mem_of_getElem? (i := 0) rfl))
 have f480 : Va Z h476 a .byte [(.int x0), (.int x1), (.int (byt (byt (shr cx (0 : Int32))))), (.int x3), (.int x4), (.int x5)] := V476
 have f481 : Va Z h476 a .byte [(.int x0), (.int x1), (.int (byt (shr cx (0 : Int32)))), (.int x3), (.int x4), (.int x5)] := by rw [show (byt (byt (shr cx (0 : Int32)))) = (byt (shr cx (0 : Int32))) from byt_byt _] at f480; exact f480
 refine Go.movp st476 (mkF m 44 #[vR a, vI 3, vI cx] []) rfl ?_
 refine g_aloadN X476 hx (hb hby d20_44) (pc' := 45) rfl rfl rfl ?_
 refine g_iloadN X476 hx (hb hby d20_45) (pc' := 46) rfl rfl ?_
 refine g_iloadN X476 hx (hb hby d20_46) (pc' := 47) rfl rfl ?_
 obtain ⟨T482, X482, e482, st482⟩ := getS2 X476 hx hZ hown (host := "") (Or.inl (wd hw 110 rfl)) Via.refl e476 (Sta.ext f477.2 B.2.2.2.2.1) (g := (mkF m 47 #[vR a, vI 3, vI cx] [(.int cx), (.int 3), (.ref a)])) rfl (hb hby d20_47)
 refine Go.movp st482 (mkF m 50 #[vR a, vI 3, vI cx] [(.int 8), (.int cx), (.int 3), (.ref a)]) rfl ?_
 refine g_ishr X482 hx (hb hby d20_50) (pc' := 51) rfl ?_
 refine g_i2b X482 hx (hb hby d20_51) (pc' := 52) rfl ?_
 obtain ⟨T483, h483, L483, X483, e483, N483, W483, V483, st483⟩ := h_bastore X482 hx hZ e482 N476 f481 G1 (j := (3 : Int32)) (i := 3) (x := (byt (shr cx (8 : Int32)))) (hb hby d20_52) (by decide) rfl rfl #[vR a, vI 3, vI cx] []
 have f484 := f477.wr W483 G1
 have Z485 : n0 ≤ h483.size := Nat.le_trans Z478 (Keep.of_wr W483).1
 have K486 := K479.wr W483 (Or.inl (List.mem_of_getElem? (i := 0) rfl))
 have f487 : Va Z h483 a .byte [(.int x0), (.int x1), (.int (byt (shr cx (0 : Int32)))), (.int (byt (byt (shr cx (8 : Int32))))), (.int x4), (.int x5)] := V483
 have f488 : Va Z h483 a .byte [(.int x0), (.int x1), (.int (byt (shr cx (0 : Int32)))), (.int (byt (shr cx (8 : Int32)))), (.int x4), (.int x5)] := by rw [show (byt (byt (shr cx (8 : Int32)))) = (byt (shr cx (8 : Int32))) from byt_byt _] at f487; exact f487
 refine Go.movp st483 (mkF m 53 #[vR a, vI 3, vI cx] []) rfl ?_
 exact g_return X483 hx hret (hb hby d20_53) N483 hlk (fun v t => endF (by decide) (by decide) v) (by rw [e483]; exact ⟨rfl, K486, f488⟩)
theorem ef_20_3_2 (x0 : Addr) (x1 : Int32) (x2 : Int32) (m : MethodId) : entryFrame m #[(.ref x0), (.int x1), (.int x2)] 3 = mkF m 0 #[.val (.ref x0), .val (.int x1), .val (.int x2)] [] := by first | (simp [entryFrame, mkF, argsToLocals, Value.category]; done) | rfl
def Q20_3_2 (Z : State) (a : Addr) (x0 : Int32) (x1 : Int32) (x2 : Int32) (x3 : Int32) (x4 : Int32) (x5 : Int32) (cx : Int32) (cs : Int32) (fv : Value) (h0 : Heap) (n0 : Nat) : Option Value → Heap → Prop := fun v h => v = none ∧ Keep h0 h [a] ∧ Va Z h a .byte [(.int x0), (.int x1), (.int x2), (.int x3), (.int (byt (shr cx (0 : Int32)))), (.int (byt (shr cx (8 : Int32))))]
theorem rm20_3_2 (l : Launch) (Z : State) (a0 : Array Value) (hw : HW Z a0) (a : Addr) (x0 : Int32) (x1 : Int32) (x2 : Int32) (x3 : Int32) (x4 : Int32) (x5 : Int32) (cx : Int32) (cs : Int32) (fv : Value) (h0 : Heap) (n0 : Nat) (Z0 : n0 ≤ h0.size) (V1 : Va Z h0 a .byte [(.int x0), (.int x1), (.int x2), (.int x3), (.int x4), (.int x5)]) (G1 : n0 ≤ a) (B : Sts Z cs fv) (O : Old Z n0 h0) : Ctr l Z (⟨"java/lang/StringUTF16", "putChar", "([BII)V"⟩ : MethodName) jdk_52_method_4_code 3 none ({ frames := 0, cells := 0, slots := 0, locals := 0 } : Room) #[(.ref a), (.int 2), (.int cx)] h0 n0 (Q20_3_2 Z a x0 x1 x2 x3 x4 x5 cx cs fv h0 n0) := by
 refine Ctr.of (plainFor_of_name pn_24) (ef_20_3_2 a (2 : Int32) cx) ?_
 intro p e s m below meth c T0 hx hby hml hown hnm hret hlk hZ X0 e0
 have N0 := Fr.nil n0
 obtain ⟨T489, X489, e489, st489⟩ := getS2 X0 hx hZ hown (host := "") (Or.inl (wd hw 108 rfl)) Via.refl e0 (Sta.ext O.2 B.2.2.1) (g := (mkF m 0 #[vR a, vI 2, vI cx] [])) rfl (hb hby d20_0)
 refine Go.movp st489 (mkF m 3 #[vR a, vI 2, vI cx] [(.int 1)]) rfl ?_
 refine g_if_ne X489 hx (hb hby d20_3) (pc1 := 6) rfl (by decide) (pc2 := 28) (by decide) (fun hc3 => ?_) (fun hc3 => absurd hc3 (by decide))
 refine g_iloadN X489 hx (hb hby d20_28) (pc' := 29) rfl rfl ?_
 refine g_iconst X489 hx (hb hby d20_29) (pc' := 30) rfl (z := 1) rfl ?_
 refine g_ishl X489 hx (hb hby d20_30) (pc' := 31) rfl ?_
 refine Go.cast (show (mkF m 31 #[vR a, vI 2, vI cx] [(.int (shl (2 : Int32) (1 : Int32)))]) = (mkF m 31 #[vR a, vI 2, vI cx] [(.int 4)]) from by rw [show (shl (2 : Int32) (1 : Int32)) = (4 : Int32) from (by decide)]) ?_
 refine g_istoreN X489 hx (hb hby d20_31) (pc' := 32) rfl (Ls' := #[vR a, vI 4, vI cx]) rfl ?_
 refine g_aloadN X489 hx (hb hby d20_32) (pc' := 33) rfl rfl rfl ?_
 refine g_iloadN X489 hx (hb hby d20_33) (pc' := 34) rfl rfl ?_
 refine g_iinc X489 hx (hb hby d20_34) (pc' := 37) rfl rfl (z := 1) rfl (Ls' := #[vR a, vI 5, vI cx]) rfl ?_
 refine g_iloadN X489 hx (hb hby d20_37) (pc' := 38) rfl rfl ?_
 obtain ⟨T490, X490, e490, st490⟩ := getS2 X489 hx hZ hown (host := "") (Or.inl (wd hw 109 rfl)) Via.refl e489 (Sta.ext O.2 B.2.2.2.1) (g := (mkF m 38 #[vR a, vI 5, vI cx] [(.int cx), (.int 4), (.ref a)])) rfl (hb hby d20_38)
 refine Go.movp st490 (mkF m 41 #[vR a, vI 5, vI cx] [(.int 0), (.int cx), (.int 4), (.ref a)]) rfl ?_
 refine g_ishr X490 hx (hb hby d20_41) (pc' := 42) rfl ?_
 refine g_i2b X490 hx (hb hby d20_42) (pc' := 43) rfl ?_
 obtain ⟨T491, h491, L491, X491, e491, N491, W491, V491, st491⟩ := h_bastore X490 hx hZ e490 N0 V1 G1 (j := (4 : Int32)) (i := 4) (x := (byt (shr cx (0 : Int32)))) (hb hby d20_43) (by decide) rfl rfl #[vR a, vI 5, vI cx] []
 have f492 := O.wr W491 G1
 have Z493 : n0 ≤ h491.size := Nat.le_trans Z0 (Keep.of_wr W491).1
 have K494 := (Keep.refl h0 [a]).wr W491 (Or.inl (List.mem_of_getElem? (i := 0) rfl))
 have f495 : Va Z h491 a .byte [(.int x0), (.int x1), (.int x2), (.int x3), (.int (byt (byt (shr cx (0 : Int32))))), (.int x5)] := V491
 have f496 : Va Z h491 a .byte [(.int x0), (.int x1), (.int x2), (.int x3), (.int (byt (shr cx (0 : Int32)))), (.int x5)] := by rw [show (byt (byt (shr cx (0 : Int32)))) = (byt (shr cx (0 : Int32))) from byt_byt _] at f495; exact f495
 refine Go.movp st491 (mkF m 44 #[vR a, vI 5, vI cx] []) rfl ?_
 refine g_aloadN X491 hx (hb hby d20_44) (pc' := 45) rfl rfl rfl ?_
 refine g_iloadN X491 hx (hb hby d20_45) (pc' := 46) rfl rfl ?_
 refine g_iloadN X491 hx (hb hby d20_46) (pc' := 47) rfl rfl ?_
 obtain ⟨T497, X497, e497, st497⟩ := getS2 X491 hx hZ hown (host := "") (Or.inl (wd hw 110 rfl)) Via.refl e491 (Sta.ext f492.2 B.2.2.2.2.1) (g := (mkF m 47 #[vR a, vI 5, vI cx] [(.int cx), (.int 5), (.ref a)])) rfl (hb hby d20_47)
 refine Go.movp st497 (mkF m 50 #[vR a, vI 5, vI cx] [(.int 8), (.int cx), (.int 5), (.ref a)]) rfl ?_
 refine g_ishr X497 hx (hb hby d20_50) (pc' := 51) rfl ?_
 refine g_i2b X497 hx (hb hby d20_51) (pc' := 52) rfl ?_
 obtain ⟨T498, h498, L498, X498, e498, N498, W498, V498, st498⟩ := h_bastore X497 hx hZ e497 N491 f496 G1 (j := (5 : Int32)) (i := 5) (x := (byt (shr cx (8 : Int32)))) (hb hby d20_52) (by decide) rfl rfl #[vR a, vI 5, vI cx] []
 have f499 := f492.wr W498 G1
 have Z500 : n0 ≤ h498.size := Nat.le_trans Z493 (Keep.of_wr W498).1
 have K501 := K494.wr W498 (Or.inl (List.mem_of_getElem? (i := 0) rfl))
 have f502 : Va Z h498 a .byte [(.int x0), (.int x1), (.int x2), (.int x3), (.int (byt (shr cx (0 : Int32)))), (.int (byt (byt (shr cx (8 : Int32)))))] := V498
 have f503 : Va Z h498 a .byte [(.int x0), (.int x1), (.int x2), (.int x3), (.int (byt (shr cx (0 : Int32)))), (.int (byt (shr cx (8 : Int32))))] := by rw [show (byt (byt (shr cx (8 : Int32)))) = (byt (shr cx (8 : Int32))) from byt_byt _] at f502; exact f502
 refine Go.movp st498 (mkF m 53 #[vR a, vI 5, vI cx] []) rfl ?_
 exact g_return X498 hx hret (hb hby d20_53) N498 hlk (fun v t => endF (by decide) (by decide) v) (by rw [e498]; exact ⟨rfl, K501, f503⟩)
theorem ef_17_3 (x0 : Addr) (x1 : Int32) (x2 : Int32) (m : MethodId) : entryFrame m #[(.ref x0), (.int x1), (.int x2)] 5 = mkF m 0 #[.val (.ref x0), .val (.int x1), .val (.int x2), .unset, .unset] [] := by first | (simp [entryFrame, mkF, argsToLocals, Value.category]; done) | rfl
def Q17_3 (Z : State) (a : Addr) (c0 : Int32) (c1 : Int32) (c2 : Int32) (cs : Int32) (fv : Value) (h0 : Heap) (n0 : Nat) : Option Value → Heap → Prop := fun v h => ∃ r, v = some (.ref r) ∧ n0 ≤ r ∧ h0.size ≤ r ∧ Keep h0 h [] ∧ Va Z h r .byte [(.int (byt (shr c0 (0 : Int32)))), (.int (byt (shr c0 (8 : Int32)))), (.int (byt (shr c1 (0 : Int32)))), (.int (byt (shr c1 (8 : Int32)))), (.int (byt (shr c2 (0 : Int32)))), (.int (byt (shr c2 (8 : Int32))))] ∧ Exa Z h r "[B"
theorem rm17_3 (l : Launch) (Z : State) (a0 : Array Value) (hw : HW Z a0) (a : Addr) (c0 : Int32) (c1 : Int32) (c2 : Int32) (cs : Int32) (fv : Value) (h0 : Heap) (n0 : Nat) (Z0 : n0 ≤ h0.size) (V1 : Va Z h0 a .char [(.int c0), (.int c1), (.int c2)]) (B : Sts Z cs fv) (O : Old Z n0 h0) : Ctr l Z (⟨"java/lang/StringUTF16", "toBytes", "([CII)[B"⟩ : MethodName) jdk_52_method_14_code 5 (some (.array .byte)) ({ frames := 2, cells := 1, slots := 6, locals := 24 } : Room) #[(.ref a), (.int 0), (.int 3)] h0 n0 (Q17_3 Z a c0 c1 c2 cs fv h0 n0) := by
 refine Ctr.of (plainFor_of_name pn_24) (ef_17_3 a (0 : Int32) (3 : Int32)) ?_
 intro p e s m below meth c T0 hx hby hml hown hnm hret hlk hZ X0 e0
 have N0 := Fr.nil n0
 refine g_iloadN X0 hx (hb hby d17_0) (pc' := 1) rfl rfl ?_
 obtain ⟨v504, T504, h504, L504, X504, e504, N504, q504, st504⟩ := h_static X0 hx (W := 0) (Ls := #[vR a, vI 0, vI 3, .unset, .unset]) (argsL := [(.int 3)]) (rest := []) hZ e0 N0 hml hown (rm18_3 l Z a0 hw h0 n0 Z0) (wd hw 98 rfl) (wd hw 99 rfl) (wd hw 17 rfl) (wd hw 100 rfl) (by decide) pd__I__B rfl rfl (hb hby d17_1) rfl (by decide) (by decide) (by decide) (by decide)
 obtain ⟨r504, rfl, ge504, sz504, K504, V504, A504⟩ := q504
 have f505 := O.keep K504 all0
 have f506 := V1.keep K504 nin0
 have Z507 : n0 ≤ h504.size := Nat.le_trans Z0 K504.1
 have K508 := (Keep.refl h0 []).trans K504 all0
 have ne509 : a ≠ r504 := Nat.ne_of_lt (Nat.lt_of_lt_of_le V1.lt sz504)
 have sz510 : h0.size ≤ r504 := Nat.le_trans (Keep.refl h0 []).1 sz504
 refine Go.movp st504 (mkF m 4 #[vR a, vI 0, vI 3, .unset, .unset] [(.ref r504)]) rfl ?_
 refine g_astoreN X504 hx (hb hby d17_4) (pc' := 5) rfl rfl (Ls' := #[vR a, vI 0, vI 3, vR r504, .unset]) rfl ?_
 refine g_iconst X504 hx (hb hby d17_5) (pc' := 6) rfl (z := 0) rfl ?_
 refine g_istore X504 hx (hb hby d17_6) (pc' := 8) rfl (Ls' := #[vR a, vI 0, vI 3, vR r504, vI 0]) rfl ?_
 refine g_iload X504 hx (hb hby d17_8) (pc' := 10) rfl rfl ?_
 refine g_iloadN X504 hx (hb hby d17_10) (pc' := 11) rfl rfl ?_
 refine g_icmp_ge X504 hx (hb hby d17_11) (pc1 := 14) rfl (by decide) (pc2 := 32) (by decide) (fun hc11 => absurd (by decide) hc11) (fun hc11 => ?_)
 refine g_aloadN X504 hx (hb hby d17_14) (pc' := 15) rfl rfl rfl ?_
 refine g_iload X504 hx (hb hby d17_15) (pc' := 17) rfl rfl ?_
 refine g_aloadN X504 hx (hb hby d17_17) (pc' := 18) rfl rfl rfl ?_
 refine g_iloadN X504 hx (hb hby d17_18) (pc' := 19) rfl rfl ?_
 refine g_caload X504 hx hZ e504 f506 (i := 0) (v := (.int c0)) (hb hby d17_19) (pc' := 20) rfl (by decide) rfl rfl ?_
 obtain ⟨v511, T511, h511, L511, X511, e511, N511, q511, st511⟩ := h_static X504 hx (W := 0) (Ls := #[vR a, vI 0, vI 3, vR r504, vI 0]) (argsL := [(.ref r504), (.int 0), (.int c0)]) (rest := []) hZ e504 N504 hml hown (rm20_3_0 l Z a0 hw r504 (0 : Int32) (0 : Int32) (0 : Int32) (0 : Int32) (0 : Int32) (0 : Int32) c0 cs fv h504 n0 Z507 V504 ge504 B f505) (wd hw 105 rfl) (wd hw 106 rfl) (wd hw 17 rfl) (wd hw 107 rfl) (by decide) pd___BII_V rfl rfl (hb hby d17_20) rfl (by decide) (by decide) (by decide) (by decide)
 obtain ⟨rfl, K511, V511⟩ := q511
 have f512 := f505.keep K511 (allS ge504 all0)
 have f513 := f506.keep K511 (ninS ne509 nin0)
 have f514 := A504.keep K511
 have Z515 : n0 ≤ h511.size := Nat.le_trans Z507 K511.1
 have K516 := K508.trans K511 (allS (Or.inr sz510) all0)
 refine Go.movp st511 (mkF m 23 #[vR a, vI 0, vI 3, vR r504, vI 0] []) rfl ?_
 refine g_iinc X511 hx (hb hby d17_23) (pc' := 26) rfl rfl (z := 1) rfl (Ls' := #[vR a, vI 1, vI 3, vR r504, vI 0]) rfl ?_
 refine g_iinc X511 hx (hb hby d17_26) (pc' := 29) rfl rfl (z := 1) rfl (Ls' := #[vR a, vI 1, vI 3, vR r504, vI 1]) rfl ?_
 refine g_goto X511 hx (hb hby d17_29) (by decide) (pc' := 8) (by decide) ?_
 refine g_iload X511 hx (hb hby d17_8) (pc' := 10) rfl rfl ?_
 refine g_iloadN X511 hx (hb hby d17_10) (pc' := 11) rfl rfl ?_
 refine g_icmp_ge X511 hx (hb hby d17_11) (pc1 := 14) rfl (by decide) (pc2 := 32) (by decide) (fun hc11_1 => absurd (by decide) hc11_1) (fun hc11_1 => ?_)
 refine g_aloadN X511 hx (hb hby d17_14) (pc' := 15) rfl rfl rfl ?_
 refine g_iload X511 hx (hb hby d17_15) (pc' := 17) rfl rfl ?_
 refine g_aloadN X511 hx (hb hby d17_17) (pc' := 18) rfl rfl rfl ?_
 refine g_iloadN X511 hx (hb hby d17_18) (pc' := 19) rfl rfl ?_
 refine g_caload X511 hx hZ e511 f513 (i := 1) (v := (.int c1)) (hb hby d17_19) (pc' := 20) rfl (by decide) rfl rfl ?_
 obtain ⟨v517, T517, h517, L517, X517, e517, N517, q517, st517⟩ := h_static X511 hx (W := 0) (Ls := #[vR a, vI 1, vI 3, vR r504, vI 1]) (argsL := [(.ref r504), (.int 1), (.int c1)]) (rest := []) hZ e511 N511 hml hown (rm20_3_1 l Z a0 hw r504 (byt (shr c0 (0 : Int32))) (byt (shr c0 (8 : Int32))) (0 : Int32) (0 : Int32) (0 : Int32) (0 : Int32) c1 cs fv h511 n0 Z515 V511 ge504 B f512) (wd hw 105 rfl) (wd hw 106 rfl) (wd hw 17 rfl) (wd hw 107 rfl) (by decide) pd___BII_V rfl rfl (hb hby d17_20) rfl (by decide) (by decide) (by decide) (by decide)
 obtain ⟨rfl, K517, V517⟩ := q517
 have f518 := f512.keep K517 (allS ge504 all0)
 have f519 := f513.keep K517 (ninS ne509 nin0)
 have f520 := f514.keep K517
 have Z521 : n0 ≤ h517.size := Nat.le_trans Z515 K517.1
 have K522 := K516.trans K517 (allS (Or.inr sz510) all0)
 refine Go.movp st517 (mkF m 23 #[vR a, vI 1, vI 3, vR r504, vI 1] []) rfl ?_
 refine g_iinc X517 hx (hb hby d17_23) (pc' := 26) rfl rfl (z := 1) rfl (Ls' := #[vR a, vI 2, vI 3, vR r504, vI 1]) rfl ?_
 refine g_iinc X517 hx (hb hby d17_26) (pc' := 29) rfl rfl (z := 1) rfl (Ls' := #[vR a, vI 2, vI 3, vR r504, vI 2]) rfl ?_
 refine g_goto X517 hx (hb hby d17_29) (by decide) (pc' := 8) (by decide) ?_
 refine g_iload X517 hx (hb hby d17_8) (pc' := 10) rfl rfl ?_
 refine g_iloadN X517 hx (hb hby d17_10) (pc' := 11) rfl rfl ?_
 refine g_icmp_ge X517 hx (hb hby d17_11) (pc1 := 14) rfl (by decide) (pc2 := 32) (by decide) (fun hc11_2 => absurd (by decide) hc11_2) (fun hc11_2 => ?_)
 refine g_aloadN X517 hx (hb hby d17_14) (pc' := 15) rfl rfl rfl ?_
 refine g_iload X517 hx (hb hby d17_15) (pc' := 17) rfl rfl ?_
 refine g_aloadN X517 hx (hb hby d17_17) (pc' := 18) rfl rfl rfl ?_
 refine g_iloadN X517 hx (hb hby d17_18) (pc' := 19) rfl rfl ?_
 refine g_caload X517 hx hZ e517 f519 (i := 2) (v := (.int c2)) (hb hby d17_19) (pc' := 20) rfl (by decide) rfl rfl ?_
 obtain ⟨v523, T523, h523, L523, X523, e523, N523, q523, st523⟩ := h_static X517 hx (W := 0) (Ls := #[vR a, vI 2, vI 3, vR r504, vI 2]) (argsL := [(.ref r504), (.int 2), (.int c2)]) (rest := []) hZ e517 N517 hml hown (rm20_3_2 l Z a0 hw r504 (byt (shr c0 (0 : Int32))) (byt (shr c0 (8 : Int32))) (byt (shr c1 (0 : Int32))) (byt (shr c1 (8 : Int32))) (0 : Int32) (0 : Int32) c2 cs fv h517 n0 Z521 V517 ge504 B f518) (wd hw 105 rfl) (wd hw 106 rfl) (wd hw 17 rfl) (wd hw 107 rfl) (by decide) pd___BII_V rfl rfl (hb hby d17_20) rfl (by decide) (by decide) (by decide) (by decide)
 obtain ⟨rfl, K523, V523⟩ := q523
 have f524 := f518.keep K523 (allS ge504 all0)
 have f525 := f519.keep K523 (ninS ne509 nin0)
 have f526 := f520.keep K523
 have Z527 : n0 ≤ h523.size := Nat.le_trans Z521 K523.1
 have K528 := K522.trans K523 (allS (Or.inr sz510) all0)
 refine Go.movp st523 (mkF m 23 #[vR a, vI 2, vI 3, vR r504, vI 2] []) rfl ?_
 refine g_iinc X523 hx (hb hby d17_23) (pc' := 26) rfl rfl (z := 1) rfl (Ls' := #[vR a, vI 3, vI 3, vR r504, vI 2]) rfl ?_
 refine g_iinc X523 hx (hb hby d17_26) (pc' := 29) rfl rfl (z := 1) rfl (Ls' := #[vR a, vI 3, vI 3, vR r504, vI 3]) rfl ?_
 refine g_goto X523 hx (hb hby d17_29) (by decide) (pc' := 8) (by decide) ?_
 refine g_iload X523 hx (hb hby d17_8) (pc' := 10) rfl rfl ?_
 refine g_iloadN X523 hx (hb hby d17_10) (pc' := 11) rfl rfl ?_
 refine g_icmp_ge X523 hx (hb hby d17_11) (pc1 := 14) rfl (by decide) (pc2 := 32) (by decide) (fun hc11_3 => ?_) (fun hc11_3 => absurd hc11_3 (by decide))
 refine g_aloadN X523 hx (hb hby d17_32) (pc' := 33) rfl rfl rfl ?_
 exact g_areturn X523 hx rfl rfl hret (hb hby d17_33) N523 hlk (fun v t => endF (by decide) (by decide) v) (by rw [e523]; exact ⟨_, rfl, ge504, sz510, K528, V523, f526⟩)
theorem ef_5_3 (x0 : Addr) (x1 : Int32) (x2 : Addr) (x3 : Int32) (x4 : Int32) (m : MethodId) : entryFrame m #[(.ref x0), (.int x1), (.ref x2), (.int x3), (.int x4)] 7 = mkF m 0 #[.val (.ref x0), .val (.int x1), .val (.ref x2), .val (.int x3), .val (.int x4), .unset, .unset] [] := by first | (simp [entryFrame, mkF, argsToLocals, Value.category]; done) | rfl
def Q5_3 (Z : State) (a : Addr) (b : Addr) (c0 : Int32) (c1 : Int32) (c2 : Int32) (h0 : Heap) (n0 : Nat) : Option Value → Heap → Prop := fun v h => ∃ k : Int32, v = some (.int k) ∧ Keep h0 h [b] ∧ ((k = (0 : Int32) ∧ 255 < c0) ∨ (k = (1 : Int32) ∧ 255 < c1) ∨ (k = (2 : Int32) ∧ 255 < c2) ∨ (k = (3 : Int32) ∧ (∀ c ∈ [c0, c1, c2], ¬ 255 < c) ∧ Va Z h b .byte [(.int (byt c0)), (.int (byt c1)), (.int (byt c2))]))
theorem rm5_3 (l : Launch) (Z : State) (a0 : Array Value) (hw : HW Z a0) (a : Addr) (b : Addr) (c0 : Int32) (c1 : Int32) (c2 : Int32) (h0 : Heap) (n0 : Nat) (Z0 : n0 ≤ h0.size) (V1 : Va Z h0 a .char [(.int c0), (.int c1), (.int c2)]) (V2 : Va Z h0 b .byte [(.int 0), (.int 0), (.int 0)]) (G2 : n0 ≤ b) (ne1 : a ≠ b) : Ctr l Z (⟨"java/lang/StringUTF16", "compress", "([CI[BII)I"⟩ : MethodName) jdk_52_method_21_code 7 (some .int) ({ frames := 0, cells := 0, slots := 0, locals := 0 } : Room) #[(.ref a), (.int 0), (.ref b), (.int 0), (.int 3)] h0 n0 (Q5_3 Z a b c0 c1 c2 h0 n0) := by
 refine Ctr.of (plainFor_of_name pn_24) (ef_5_3 a (0 : Int32) b (0 : Int32) (3 : Int32)) ?_
 intro p e s m below meth c T0 hx hby hml hown hnm hret hlk hZ X0 e0
 have N0 := Fr.nil n0
 refine g_iconst X0 hx (hb hby d5_0) (pc' := 1) rfl (z := 0) rfl ?_
 refine g_istore X0 hx (hb hby d5_1) (pc' := 3) rfl (Ls' := #[vR a, vI 0, vR b, vI 0, vI 3, vI 0, .unset]) rfl ?_
 refine g_iload X0 hx (hb hby d5_3) (pc' := 5) rfl rfl ?_
 refine g_iload X0 hx (hb hby d5_5) (pc' := 7) rfl rfl ?_
 refine g_icmp_ge X0 hx (hb hby d5_7) (pc1 := 10) rfl (by decide) (pc2 := 44) (by decide) (fun hc7 => absurd (by decide) hc7) (fun hc7 => ?_)
 refine g_aloadN X0 hx (hb hby d5_10) (pc' := 11) rfl rfl rfl ?_
 refine g_iloadN X0 hx (hb hby d5_11) (pc' := 12) rfl rfl ?_
 refine g_caload X0 hx hZ e0 V1 (i := 0) (v := (.int c0)) (hb hby d5_12) (pc' := 13) rfl (by decide) rfl rfl ?_
 refine g_istore X0 hx (hb hby d5_13) (pc' := 15) rfl (Ls' := #[vR a, vI 0, vR b, vI 0, vI 3, vI 0, vI c0]) rfl ?_
 refine g_iload X0 hx (hb hby d5_15) (pc' := 17) rfl rfl ?_
 refine g_sipush X0 hx (hb hby d5_17) (pc' := 20) rfl (z := 255) rfl ?_
 refine g_icmp_le X0 hx (hb hby d5_20) (pc1 := 23) rfl (by decide) (pc2 := 26) (by decide) (fun hc20 => ?_) (fun hc20 => ?_)
 ·
  refine g_aloadN X0 hx (hb hby d5_26) (pc' := 27) rfl rfl rfl ?_
  refine g_iloadN X0 hx (hb hby d5_27) (pc' := 28) rfl rfl ?_
  refine g_iload X0 hx (hb hby d5_28) (pc' := 30) rfl rfl ?_
  refine g_i2b X0 hx (hb hby d5_30) (pc' := 31) rfl ?_
  obtain ⟨T529, h529, L529, X529, e529, N529, W529, V529, st529⟩ := h_bastore X0 hx hZ e0 N0 V2 G2 (j := (0 : Int32)) (i := 0) (x := (byt c0)) (hb hby d5_31) (by decide) rfl rfl #[vR a, vI 0, vR b, vI 0, vI 3, vI 0, vI c0] []
  have f530 := V1.other W529 ne1
  have Z531 : n0 ≤ h529.size := Nat.le_trans Z0 (Keep.of_wr W529).1
  have K532 := (Keep.refl h0 [b]).wr W529 (Or.inl (List.mem_of_getElem? (i := 0) rfl))
  have f533 : Va Z h529 b .byte [(.int (byt (byt c0))), (.int 0), (.int 0)] := V529
  have f534 : Va Z h529 b .byte [(.int (byt c0)), (.int 0), (.int 0)] := by rw [show (byt (byt c0)) = (byt c0) from byt_byt _] at f533; exact f533
  refine Go.movp st529 (mkF m 32 #[vR a, vI 0, vR b, vI 0, vI 3, vI 0, vI c0] []) rfl ?_
  refine g_iinc X529 hx (hb hby d5_32) (pc' := 35) rfl rfl (z := 1) rfl (Ls' := #[vR a, vI 1, vR b, vI 0, vI 3, vI 0, vI c0]) rfl ?_
  refine g_iinc X529 hx (hb hby d5_35) (pc' := 38) rfl rfl (z := 1) rfl (Ls' := #[vR a, vI 1, vR b, vI 1, vI 3, vI 0, vI c0]) rfl ?_
  refine g_iinc X529 hx (hb hby d5_38) (pc' := 41) rfl rfl (z := 1) rfl (Ls' := #[vR a, vI 1, vR b, vI 1, vI 3, vI 1, vI c0]) rfl ?_
  refine g_goto X529 hx (hb hby d5_41) (by decide) (pc' := 3) (by decide) ?_
  refine g_iload X529 hx (hb hby d5_3) (pc' := 5) rfl rfl ?_
  refine g_iload X529 hx (hb hby d5_5) (pc' := 7) rfl rfl ?_
  refine g_icmp_ge X529 hx (hb hby d5_7) (pc1 := 10) rfl (by decide) (pc2 := 44) (by decide) (fun hc7_1 => absurd (by decide) hc7_1) (fun hc7_1 => ?_)
  refine g_aloadN X529 hx (hb hby d5_10) (pc' := 11) rfl rfl rfl ?_
  refine g_iloadN X529 hx (hb hby d5_11) (pc' := 12) rfl rfl ?_
  refine g_caload X529 hx hZ e529 f530 (i := 1) (v := (.int c1)) (hb hby d5_12) (pc' := 13) rfl (by decide) rfl rfl ?_
  refine g_istore X529 hx (hb hby d5_13) (pc' := 15) rfl (Ls' := #[vR a, vI 1, vR b, vI 1, vI 3, vI 1, vI c1]) rfl ?_
  refine g_iload X529 hx (hb hby d5_15) (pc' := 17) rfl rfl ?_
  refine g_sipush X529 hx (hb hby d5_17) (pc' := 20) rfl (z := 255) rfl ?_
  refine g_icmp_le X529 hx (hb hby d5_20) (pc1 := 23) rfl (by decide) (pc2 := 26) (by decide) (fun hc20_1 => ?_) (fun hc20_1 => ?_)
  ·
   refine g_aloadN X529 hx (hb hby d5_26) (pc' := 27) rfl rfl rfl ?_
   refine g_iloadN X529 hx (hb hby d5_27) (pc' := 28) rfl rfl ?_
   refine g_iload X529 hx (hb hby d5_28) (pc' := 30) rfl rfl ?_
   refine g_i2b X529 hx (hb hby d5_30) (pc' := 31) rfl ?_
   obtain ⟨T535, h535, L535, X535, e535, N535, W535, V535, st535⟩ := h_bastore X529 hx hZ e529 N529 f534 G2 (j := (1 : Int32)) (i := 1) (x := (byt c1)) (hb hby d5_31) (by decide) rfl rfl #[vR a, vI 1, vR b, vI 1, vI 3, vI 1, vI c1] []
   have f536 := f530.other W535 ne1
   have Z537 : n0 ≤ h535.size := Nat.le_trans Z531 (Keep.of_wr W535).1
   have K538 := K532.wr W535 (Or.inl (List.mem_of_getElem? (i := 0) rfl))
   have f539 : Va Z h535 b .byte [(.int (byt c0)), (.int (byt (byt c1))), (.int 0)] := V535
   have f540 : Va Z h535 b .byte [(.int (byt c0)), (.int (byt c1)), (.int 0)] := by rw [show (byt (byt c1)) = (byt c1) from byt_byt _] at f539; exact f539
   refine Go.movp st535 (mkF m 32 #[vR a, vI 1, vR b, vI 1, vI 3, vI 1, vI c1] []) rfl ?_
   refine g_iinc X535 hx (hb hby d5_32) (pc' := 35) rfl rfl (z := 1) rfl (Ls' := #[vR a, vI 2, vR b, vI 1, vI 3, vI 1, vI c1]) rfl ?_
   refine g_iinc X535 hx (hb hby d5_35) (pc' := 38) rfl rfl (z := 1) rfl (Ls' := #[vR a, vI 2, vR b, vI 2, vI 3, vI 1, vI c1]) rfl ?_
   refine g_iinc X535 hx (hb hby d5_38) (pc' := 41) rfl rfl (z := 1) rfl (Ls' := #[vR a, vI 2, vR b, vI 2, vI 3, vI 2, vI c1]) rfl ?_
   refine g_goto X535 hx (hb hby d5_41) (by decide) (pc' := 3) (by decide) ?_
   refine g_iload X535 hx (hb hby d5_3) (pc' := 5) rfl rfl ?_
   refine g_iload X535 hx (hb hby d5_5) (pc' := 7) rfl rfl ?_
   refine g_icmp_ge X535 hx (hb hby d5_7) (pc1 := 10) rfl (by decide) (pc2 := 44) (by decide) (fun hc7_2 => absurd (by decide) hc7_2) (fun hc7_2 => ?_)
   refine g_aloadN X535 hx (hb hby d5_10) (pc' := 11) rfl rfl rfl ?_
   refine g_iloadN X535 hx (hb hby d5_11) (pc' := 12) rfl rfl ?_
   refine g_caload X535 hx hZ e535 f536 (i := 2) (v := (.int c2)) (hb hby d5_12) (pc' := 13) rfl (by decide) rfl rfl ?_
   refine g_istore X535 hx (hb hby d5_13) (pc' := 15) rfl (Ls' := #[vR a, vI 2, vR b, vI 2, vI 3, vI 2, vI c2]) rfl ?_
   refine g_iload X535 hx (hb hby d5_15) (pc' := 17) rfl rfl ?_
   refine g_sipush X535 hx (hb hby d5_17) (pc' := 20) rfl (z := 255) rfl ?_
   refine g_icmp_le X535 hx (hb hby d5_20) (pc1 := 23) rfl (by decide) (pc2 := 26) (by decide) (fun hc20_2 => ?_) (fun hc20_2 => ?_)
   ·
    refine g_aloadN X535 hx (hb hby d5_26) (pc' := 27) rfl rfl rfl ?_
    refine g_iloadN X535 hx (hb hby d5_27) (pc' := 28) rfl rfl ?_
    refine g_iload X535 hx (hb hby d5_28) (pc' := 30) rfl rfl ?_
    refine g_i2b X535 hx (hb hby d5_30) (pc' := 31) rfl ?_
    obtain ⟨T541, h541, L541, X541, e541, N541, W541, V541, st541⟩ := h_bastore X535 hx hZ e535 N535 f540 G2 (j := (2 : Int32)) (i := 2) (x := (byt c2)) (hb hby d5_31) (by decide) rfl rfl #[vR a, vI 2, vR b, vI 2, vI 3, vI 2, vI c2] []
    have f542 := f536.other W541 ne1
    have Z543 : n0 ≤ h541.size := Nat.le_trans Z537 (Keep.of_wr W541).1
    have K544 := K538.wr W541 (Or.inl (List.mem_of_getElem? (i := 0) rfl))
    have f545 : Va Z h541 b .byte [(.int (byt c0)), (.int (byt c1)), (.int (byt (byt c2)))] := V541
    have f546 : Va Z h541 b .byte [(.int (byt c0)), (.int (byt c1)), (.int (byt c2))] := by rw [show (byt (byt c2)) = (byt c2) from byt_byt _] at f545; exact f545
    refine Go.movp st541 (mkF m 32 #[vR a, vI 2, vR b, vI 2, vI 3, vI 2, vI c2] []) rfl ?_
    refine g_iinc X541 hx (hb hby d5_32) (pc' := 35) rfl rfl (z := 1) rfl (Ls' := #[vR a, vI 3, vR b, vI 2, vI 3, vI 2, vI c2]) rfl ?_
    refine g_iinc X541 hx (hb hby d5_35) (pc' := 38) rfl rfl (z := 1) rfl (Ls' := #[vR a, vI 3, vR b, vI 3, vI 3, vI 2, vI c2]) rfl ?_
    refine g_iinc X541 hx (hb hby d5_38) (pc' := 41) rfl rfl (z := 1) rfl (Ls' := #[vR a, vI 3, vR b, vI 3, vI 3, vI 3, vI c2]) rfl ?_
    refine g_goto X541 hx (hb hby d5_41) (by decide) (pc' := 3) (by decide) ?_
    refine g_iload X541 hx (hb hby d5_3) (pc' := 5) rfl rfl ?_
    refine g_iload X541 hx (hb hby d5_5) (pc' := 7) rfl rfl ?_
    refine g_icmp_ge X541 hx (hb hby d5_7) (pc1 := 10) rfl (by decide) (pc2 := 44) (by decide) (fun hc7_3 => ?_) (fun hc7_3 => absurd hc7_3 (by decide))
    refine g_iload X541 hx (hb hby d5_44) (pc' := 46) rfl rfl ?_
    exact g_ireturn X541 hx hret (hb hby d5_46) N541 hlk (fun v t => endF (by decide) (by decide) v) (by rw [e541]; exact ⟨_, rfl, K544, Or.inr (Or.inr (Or.inr (⟨rfl, (List.forall_mem_cons.mpr ⟨hc20, (List.forall_mem_cons.mpr ⟨hc20_1, (List.forall_mem_cons.mpr ⟨hc20_2, (fun _ q => nomatch q)⟩)⟩)⟩), f546⟩)))⟩)
   ·
    refine g_iload X535 hx (hb hby d5_23) (pc' := 25) rfl rfl ?_
    exact g_ireturn X535 hx hret (hb hby d5_25) N535 hlk (fun v t => endF (by decide) (by decide) v) (by rw [e535]; exact ⟨_, rfl, K538, Or.inr (Or.inr (Or.inl ⟨rfl, hc20_2⟩))⟩)
  ·
   refine g_iload X529 hx (hb hby d5_23) (pc' := 25) rfl rfl ?_
   exact g_ireturn X529 hx hret (hb hby d5_25) N529 hlk (fun v t => endF (by decide) (by decide) v) (by rw [e529]; exact ⟨_, rfl, K532, Or.inr (Or.inl ⟨rfl, hc20_1⟩)⟩)
 ·
  refine g_iload X0 hx (hb hby d5_23) (pc' := 25) rfl rfl ?_
  exact g_ireturn X0 hx hret (hb hby d5_25) N0 hlk (fun v t => endF (by decide) (by decide) v) (by rw [e0]; exact ⟨_, rfl, (Keep.refl h0 [b]), Or.inl ⟨rfl, hc20⟩⟩)
theorem ef_4_3 (x0 : Addr) (x1 : Int32) (x2 : Int32) (m : MethodId) : entryFrame m #[(.ref x0), (.int x1), (.int x2)] 6 = mkF m 0 #[.val (.ref x0), .val (.int x1), .val (.int x2), .unset, .unset, .unset] [] := by first | (simp [entryFrame, mkF, argsToLocals, Value.category]; done) | rfl
def Q4_3 (Z : State) (a : Addr) (c0 : Int32) (c1 : Int32) (c2 : Int32) (cs : Int32) (fv : Value) (h0 : Heap) (n0 : Nat) : Option Value → Heap → Prop := fun v h => ∃ r, v = some (.ref r) ∧ n0 ≤ r ∧ h0.size ≤ r ∧ Keep h0 h [] ∧ Exa Z h r "[B" ∧ ((Va Z h r .byte [(.int (byt c0)), (.int (byt c1)), (.int (byt c2))] ∧ ∀ c ∈ [c0, c1, c2], ¬ 255 < c) ∨ Va Z h r .byte [(.int (byt (shr c0 (0 : Int32)))), (.int (byt (shr c0 (8 : Int32)))), (.int (byt (shr c1 (0 : Int32)))), (.int (byt (shr c1 (8 : Int32)))), (.int (byt (shr c2 (0 : Int32)))), (.int (byt (shr c2 (8 : Int32))))])
theorem rm4_3 (l : Launch) (Z : State) (a0 : Array Value) (hw : HW Z a0) (a : Addr) (c0 : Int32) (c1 : Int32) (c2 : Int32) (cs : Int32) (fv : Value) (h0 : Heap) (n0 : Nat) (Z0 : n0 ≤ h0.size) (V1 : Va Z h0 a .char [(.int c0), (.int c1), (.int c2)]) (B : Sts Z cs fv) (O : Old Z n0 h0) (hc0 : chr c0 = c0) (hc1 : chr c1 = c1) (hc2 : chr c2 = c2) : Ctr l Z (⟨"java/lang/StringUTF16", "compress", "([CII)[B"⟩ : MethodName) jdk_52_method_16_code 6 (some (.array .byte)) ({ frames := 3, cells := 2, slots := 9, locals := 40 } : Room) #[(.ref a), (.int 0), (.int 3)] h0 n0 (Q4_3 Z a c0 c1 c2 cs fv h0 n0) := by
 refine Ctr.of (plainFor_of_name pn_24) (ef_4_3 a (0 : Int32) (3 : Int32)) ?_
 intro p e s m below meth c T0 hx hby hml hown hnm hret hlk hZ X0 e0
 have N0 := Fr.nil n0
 refine g_iloadN X0 hx (hb hby d4_0) (pc' := 1) rfl rfl ?_
 obtain ⟨T547, h547, b547, X547, e547, g547, E547, V547, A547, st547⟩ := h_newarray X0 hx hZ e0 (n := (3 : Int32)) (ty := .byte) rfl (wd hw 19 rfl) (hb hby d4_1) (k := 3) (cap := 3) (by decide) rfl (by decide) (by decide) (by decide) (by decide) (ad := "[B") (by decide) #[vR a, vI 0, vI 3, .unset, .unset, .unset] []
 have ne548 : a ≠ b547 := Nat.ne_of_lt (g547 ▸ V1.lt)
 have ge549 : n0 ≤ b547 := g547 ▸ Z0
 have sz550 : h0.size ≤ b547 := g547 ▸ (Keep.refl h0 []).1
 have f551 := O.ext E547
 have f552 := V1.ext E547
 have Z553 : n0 ≤ h547.size := Nat.le_trans Z0 E547.1
 have K554 := (Keep.refl h0 []).ext E547
 have f555 : Va Z h547 b547 .byte [(.int 0), (.int 0), (.int 0)] := V547
 refine Go.movp st547 (mkF m 3 #[vR a, vI 0, vI 3, .unset, .unset, .unset] [(.ref b547)]) rfl ?_
 refine g_astoreN X547 hx (hb hby d4_3) (pc' := 4) rfl rfl (Ls' := #[vR a, vI 0, vI 3, vR b547, .unset, .unset]) rfl ?_
 refine g_aloadN X547 hx (hb hby d4_4) (pc' := 5) rfl rfl rfl ?_
 refine g_iloadN X547 hx (hb hby d4_5) (pc' := 6) rfl rfl ?_
 refine g_aloadN X547 hx (hb hby d4_6) (pc' := 7) rfl rfl rfl ?_
 refine g_iconst X547 hx (hb hby d4_7) (pc' := 8) rfl (z := 0) rfl ?_
 refine g_iloadN X547 hx (hb hby d4_8) (pc' := 9) rfl rfl ?_
 obtain ⟨v556, T556, h556, L556, X556, e556, N556, q556, st556⟩ := h_static X547 hx (W := 0) (Ls := #[vR a, vI 0, vI 3, vR b547, .unset, .unset]) (argsL := [(.ref a), (.int 0), (.ref b547), (.int 0), (.int 3)]) (rest := []) hZ e547 N0 hml hown (rm5_3 l Z a0 hw a b547 c0 c1 c2 h547 n0 Z553 f552 f555 ge549 ne548) (wd hw 20 rfl) (wd hw 21 rfl) (wd hw 17 rfl) (wd hw 22 rfl) (by decide) pd___CI_BII_I rfl rfl (hb hby d4_9) rfl (by decide) (by decide) (by decide) (by decide)
 obtain ⟨k556, rfl, K556, D556⟩ := q556
 have f557 := f551.keep K556 (allS ge549 all0)
 have f558 := f552.keep K556 (ninS ne548 nin0)
 have f559 := A547.keep K556
 have Z560 : n0 ≤ h556.size := Nat.le_trans Z553 K556.1
 have K561 := K554.trans K556 (allS (Or.inr sz550) all0)
 refine Go.movp st556 (mkF m 12 #[vR a, vI 0, vI 3, vR b547, .unset, .unset] [(.int k556)]) rfl ?_
 refine g_istore X556 hx (hb hby d4_12) (pc' := 14) rfl (Ls' := #[vR a, vI 0, vI 3, vR b547, vI k556, .unset]) rfl ?_
 rcases D556 with ⟨rfl, g556⟩ | ⟨rfl, g556⟩ | ⟨rfl, g556⟩ | ⟨rfl, C556, V556⟩
 ·
  refine g_iload X556 hx (hb hby d4_14) (pc' := 16) rfl rfl ?_
  refine g_iloadN X556 hx (hb hby d4_16) (pc' := 17) rfl rfl ?_
  refine g_icmp_eq X556 hx (hb hby d4_17) (pc1 := 20) rfl (by decide) (pc2 := 57) (by decide) (fun hc17 => absurd hc17 (by decide)) (fun hc17 => ?_)
  refine g_aloadN X556 hx (hb hby d4_20) (pc' := 21) rfl rfl rfl ?_
  refine g_iloadN X556 hx (hb hby d4_21) (pc' := 22) rfl rfl ?_
  refine g_iloadN X556 hx (hb hby d4_22) (pc' := 23) rfl rfl ?_
  obtain ⟨v562, T562, h562, L562, X562, e562, N562, q562, st562⟩ := h_static X556 hx (W := 0) (Ls := #[vR a, vI 0, vI 3, vR b547, vI 0, .unset]) (argsL := [(.ref a), (.int 0), (.int 3)]) (rest := []) hZ e556 N556 hml hown (rm17_3 l Z a0 hw a c0 c1 c2 cs fv h556 n0 Z560 f558 B f557) (wd hw 95 rfl) (wd hw 96 rfl) (wd hw 17 rfl) (wd hw 97 rfl) (by decide) pd___CII__B rfl rfl (hb hby d4_23) rfl (by decide) (by decide) (by decide) (by decide)
  obtain ⟨r562, rfl, ge562, sz562, K562, V562, A562⟩ := q562
  have f563 := f557.keep K562 all0
  have f564 := f558.keep K562 nin0
  have f565 := f559.keep K562
  have Z566 : n0 ≤ h562.size := Nat.le_trans Z560 K562.1
  have K567 := K561.trans K562 all0
  have ne568 : a ≠ r562 := Nat.ne_of_lt (Nat.lt_of_lt_of_le f558.lt sz562)
  have ne569 : b547 ≠ r562 := Nat.ne_of_lt (Nat.lt_of_lt_of_le f559.lt sz562)
  have sz570 : h0.size ≤ r562 := Nat.le_trans K561.1 sz562
  refine Go.movp st562 (mkF m 26 #[vR a, vI 0, vI 3, vR b547, vI 0, .unset] [(.ref r562)]) rfl ?_
  refine g_astore X562 hx (hb hby d4_26) (pc' := 28) rfl rfl (Ls' := #[vR a, vI 0, vI 3, vR b547, vI 0, vR r562]) rfl ?_
  refine g_aload X562 hx (hb hby d4_28) (pc' := 30) rfl rfl rfl ?_
  refine g_iload X562 hx (hb hby d4_30) (pc' := 32) rfl rfl ?_
  obtain ⟨v571, T571, h571, L571, X571, e571, N571, q571, st571⟩ := h_static X562 hx (W := 0) (Ls := #[vR a, vI 0, vI 3, vR b547, vI 0, vR r562]) (argsL := [(.ref r562), (.int 0)]) (rest := []) hZ e562 N562 hml hown (rm21_3_0 l Z a0 hw r562 c0 c1 c2 cs fv h562 n0 Z566 V562 B f563 hc0) (wd hw 111 rfl) (wd hw 112 rfl) (wd hw 17 rfl) (wd hw 113 rfl) (by decide) pd___BI_C rfl rfl (hb hby d4_32) rfl (by decide) (by decide) (by decide) (by decide)
  obtain ⟨rfl, rfl⟩ := q571
  refine Go.movp st571 (mkF m 35 #[vR a, vI 0, vI 3, vR b547, vI 0, vR r562] [(.int c0)]) rfl ?_
  refine g_sipush X571 hx (hb hby d4_35) (pc' := 38) rfl (z := 255) rfl ?_
  refine g_icmp_gt X571 hx (hb hby d4_38) (pc1 := 41) rfl (by decide) (pc2 := 54) (by decide) (fun hc38 => ?_) (fun hc38 => absurd g556 hc38)
  refine g_aload X571 hx (hb hby d4_54) (pc' := 56) rfl rfl rfl ?_
  exact g_areturn X571 hx rfl rfl hret (hb hby d4_56) N571 hlk (fun v t => endF (by decide) (by decide) v) (by rw [e571]; exact ⟨_, rfl, ge562, sz570, K567, A562, Or.inr V562⟩)
 ·
  refine g_iload X556 hx (hb hby d4_14) (pc' := 16) rfl rfl ?_
  refine g_iloadN X556 hx (hb hby d4_16) (pc' := 17) rfl rfl ?_
  refine g_icmp_eq X556 hx (hb hby d4_17) (pc1 := 20) rfl (by decide) (pc2 := 57) (by decide) (fun hc17 => absurd hc17 (by decide)) (fun hc17 => ?_)
  refine g_aloadN X556 hx (hb hby d4_20) (pc' := 21) rfl rfl rfl ?_
  refine g_iloadN X556 hx (hb hby d4_21) (pc' := 22) rfl rfl ?_
  refine g_iloadN X556 hx (hb hby d4_22) (pc' := 23) rfl rfl ?_
  obtain ⟨v572, T572, h572, L572, X572, e572, N572, q572, st572⟩ := h_static X556 hx (W := 0) (Ls := #[vR a, vI 0, vI 3, vR b547, vI 1, .unset]) (argsL := [(.ref a), (.int 0), (.int 3)]) (rest := []) hZ e556 N556 hml hown (rm17_3 l Z a0 hw a c0 c1 c2 cs fv h556 n0 Z560 f558 B f557) (wd hw 95 rfl) (wd hw 96 rfl) (wd hw 17 rfl) (wd hw 97 rfl) (by decide) pd___CII__B rfl rfl (hb hby d4_23) rfl (by decide) (by decide) (by decide) (by decide)
  obtain ⟨r572, rfl, ge572, sz572, K572, V572, A572⟩ := q572
  have f573 := f557.keep K572 all0
  have f574 := f558.keep K572 nin0
  have f575 := f559.keep K572
  have Z576 : n0 ≤ h572.size := Nat.le_trans Z560 K572.1
  have K577 := K561.trans K572 all0
  have ne578 : a ≠ r572 := Nat.ne_of_lt (Nat.lt_of_lt_of_le f558.lt sz572)
  have ne579 : b547 ≠ r572 := Nat.ne_of_lt (Nat.lt_of_lt_of_le f559.lt sz572)
  have sz580 : h0.size ≤ r572 := Nat.le_trans K561.1 sz572
  refine Go.movp st572 (mkF m 26 #[vR a, vI 0, vI 3, vR b547, vI 1, .unset] [(.ref r572)]) rfl ?_
  refine g_astore X572 hx (hb hby d4_26) (pc' := 28) rfl rfl (Ls' := #[vR a, vI 0, vI 3, vR b547, vI 1, vR r572]) rfl ?_
  refine g_aload X572 hx (hb hby d4_28) (pc' := 30) rfl rfl rfl ?_
  refine g_iload X572 hx (hb hby d4_30) (pc' := 32) rfl rfl ?_
  obtain ⟨v581, T581, h581, L581, X581, e581, N581, q581, st581⟩ := h_static X572 hx (W := 0) (Ls := #[vR a, vI 0, vI 3, vR b547, vI 1, vR r572]) (argsL := [(.ref r572), (.int 1)]) (rest := []) hZ e572 N572 hml hown (rm21_3_1 l Z a0 hw r572 c0 c1 c2 cs fv h572 n0 Z576 V572 B f573 hc1) (wd hw 111 rfl) (wd hw 112 rfl) (wd hw 17 rfl) (wd hw 113 rfl) (by decide) pd___BI_C rfl rfl (hb hby d4_32) rfl (by decide) (by decide) (by decide) (by decide)
  obtain ⟨rfl, rfl⟩ := q581
  refine Go.movp st581 (mkF m 35 #[vR a, vI 0, vI 3, vR b547, vI 1, vR r572] [(.int c1)]) rfl ?_
  refine g_sipush X581 hx (hb hby d4_35) (pc' := 38) rfl (z := 255) rfl ?_
  refine g_icmp_gt X581 hx (hb hby d4_38) (pc1 := 41) rfl (by decide) (pc2 := 54) (by decide) (fun hc38 => ?_) (fun hc38 => absurd g556 hc38)
  refine g_aload X581 hx (hb hby d4_54) (pc' := 56) rfl rfl rfl ?_
  exact g_areturn X581 hx rfl rfl hret (hb hby d4_56) N581 hlk (fun v t => endF (by decide) (by decide) v) (by rw [e581]; exact ⟨_, rfl, ge572, sz580, K577, A572, Or.inr V572⟩)
 ·
  refine g_iload X556 hx (hb hby d4_14) (pc' := 16) rfl rfl ?_
  refine g_iloadN X556 hx (hb hby d4_16) (pc' := 17) rfl rfl ?_
  refine g_icmp_eq X556 hx (hb hby d4_17) (pc1 := 20) rfl (by decide) (pc2 := 57) (by decide) (fun hc17 => absurd hc17 (by decide)) (fun hc17 => ?_)
  refine g_aloadN X556 hx (hb hby d4_20) (pc' := 21) rfl rfl rfl ?_
  refine g_iloadN X556 hx (hb hby d4_21) (pc' := 22) rfl rfl ?_
  refine g_iloadN X556 hx (hb hby d4_22) (pc' := 23) rfl rfl ?_
  obtain ⟨v582, T582, h582, L582, X582, e582, N582, q582, st582⟩ := h_static X556 hx (W := 0) (Ls := #[vR a, vI 0, vI 3, vR b547, vI 2, .unset]) (argsL := [(.ref a), (.int 0), (.int 3)]) (rest := []) hZ e556 N556 hml hown (rm17_3 l Z a0 hw a c0 c1 c2 cs fv h556 n0 Z560 f558 B f557) (wd hw 95 rfl) (wd hw 96 rfl) (wd hw 17 rfl) (wd hw 97 rfl) (by decide) pd___CII__B rfl rfl (hb hby d4_23) rfl (by decide) (by decide) (by decide) (by decide)
  obtain ⟨r582, rfl, ge582, sz582, K582, V582, A582⟩ := q582
  have f583 := f557.keep K582 all0
  have f584 := f558.keep K582 nin0
  have f585 := f559.keep K582
  have Z586 : n0 ≤ h582.size := Nat.le_trans Z560 K582.1
  have K587 := K561.trans K582 all0
  have ne588 : a ≠ r582 := Nat.ne_of_lt (Nat.lt_of_lt_of_le f558.lt sz582)
  have ne589 : b547 ≠ r582 := Nat.ne_of_lt (Nat.lt_of_lt_of_le f559.lt sz582)
  have sz590 : h0.size ≤ r582 := Nat.le_trans K561.1 sz582
  refine Go.movp st582 (mkF m 26 #[vR a, vI 0, vI 3, vR b547, vI 2, .unset] [(.ref r582)]) rfl ?_
  refine g_astore X582 hx (hb hby d4_26) (pc' := 28) rfl rfl (Ls' := #[vR a, vI 0, vI 3, vR b547, vI 2, vR r582]) rfl ?_
  refine g_aload X582 hx (hb hby d4_28) (pc' := 30) rfl rfl rfl ?_
  refine g_iload X582 hx (hb hby d4_30) (pc' := 32) rfl rfl ?_
  obtain ⟨v591, T591, h591, L591, X591, e591, N591, q591, st591⟩ := h_static X582 hx (W := 0) (Ls := #[vR a, vI 0, vI 3, vR b547, vI 2, vR r582]) (argsL := [(.ref r582), (.int 2)]) (rest := []) hZ e582 N582 hml hown (rm21_3_2 l Z a0 hw r582 c0 c1 c2 cs fv h582 n0 Z586 V582 B f583 hc2) (wd hw 111 rfl) (wd hw 112 rfl) (wd hw 17 rfl) (wd hw 113 rfl) (by decide) pd___BI_C rfl rfl (hb hby d4_32) rfl (by decide) (by decide) (by decide) (by decide)
  obtain ⟨rfl, rfl⟩ := q591
  refine Go.movp st591 (mkF m 35 #[vR a, vI 0, vI 3, vR b547, vI 2, vR r582] [(.int c2)]) rfl ?_
  refine g_sipush X591 hx (hb hby d4_35) (pc' := 38) rfl (z := 255) rfl ?_
  refine g_icmp_gt X591 hx (hb hby d4_38) (pc1 := 41) rfl (by decide) (pc2 := 54) (by decide) (fun hc38 => ?_) (fun hc38 => absurd g556 hc38)
  refine g_aload X591 hx (hb hby d4_54) (pc' := 56) rfl rfl rfl ?_
  exact g_areturn X591 hx rfl rfl hret (hb hby d4_56) N591 hlk (fun v t => endF (by decide) (by decide) v) (by rw [e591]; exact ⟨_, rfl, ge582, sz590, K587, A582, Or.inr V582⟩)
 ·
  refine g_iload X556 hx (hb hby d4_14) (pc' := 16) rfl rfl ?_
  refine g_iloadN X556 hx (hb hby d4_16) (pc' := 17) rfl rfl ?_
  refine g_icmp_eq X556 hx (hb hby d4_17) (pc1 := 20) rfl (by decide) (pc2 := 57) (by decide) (fun hc17 => ?_) (fun hc17 => absurd (by decide) hc17)
  refine g_aloadN X556 hx (hb hby d4_57) (pc' := 58) rfl rfl rfl ?_
  exact g_areturn X556 hx rfl rfl hret (hb hby d4_58) N556 hlk (fun v t => endF (by decide) (by decide) v) (by rw [e556]; exact ⟨_, rfl, ge549, sz550, K561, f559, Or.inl ⟨V556, C556⟩⟩)
theorem ef_6_3L (x0 : Addr) (x1 : Int32) (m : MethodId) : entryFrame m #[(.ref x0), (.int x1)] 2 = mkF m 0 #[.val (.ref x0), .val (.int x1)] [] := by first | (simp [entryFrame, mkF, argsToLocals, Value.category]; done) | rfl
def Q6_3L (Z : State) (b : Addr) (x0 : Int32) (x1 : Int32) (x2 : Int32) (h0 : Heap) (n0 : Nat) : Option Value → Heap → Prop := fun v h => v = some (.int 0) ∧ h0 = h
theorem rm6_3L (l : Launch) (Z : State) (a0 : Array Value) (hw : HW Z a0) (b : Addr) (x0 : Int32) (x1 : Int32) (x2 : Int32) (h0 : Heap) (n0 : Nat) (Z0 : n0 ≤ h0.size) (V1 : Va Z h0 b .byte [(.int x0), (.int x1), (.int x2)]) : Ctr l Z (⟨"java/lang/StringUTF16", "coderFromArrayLen", "([BI)B"⟩ : MethodName) jdk_52_method_15_code 2 (some .byte) ({ frames := 0, cells := 0, slots := 0, locals := 0 } : Room) #[(.ref b), (.int 3)] h0 n0 (Q6_3L Z b x0 x1 x2 h0 n0) := by
 refine Ctr.of (plainFor_of_name pn_24) (ef_6_3L b (3 : Int32)) ?_
 intro p e s m below meth c T0 hx hby hml hown hnm hret hlk hZ X0 e0
 have N0 := Fr.nil n0
 refine g_iloadN X0 hx (hb hby d6_0) (pc' := 1) rfl rfl ?_
 refine g_aloadN X0 hx (hb hby d6_1) (pc' := 2) rfl rfl rfl ?_
 refine g_arraylength X0 hx hZ e0 V1 (z := 3) (hb hby d6_2) (pc' := 3) rfl rfl ?_
 refine g_isub X0 hx (hb hby d6_3) (pc' := 4) rfl ?_
 refine Go.cast (show (mkF m 4 #[vR b, vI 3] [(.int ((3 : Int32) - (3 : Int32)))]) = (mkF m 4 #[vR b, vI 3] [(.int 0)]) from by rw [show ((3 : Int32) - (3 : Int32)) = (0 : Int32) from (by decide)]) ?_
 refine g_bipush X0 hx (hb hby d6_4) (pc' := 6) rfl (z := 31) rfl ?_
 refine g_iushr X0 hx (hb hby d6_6) (pc' := 7) rfl ?_
 refine Go.cast (show (mkF m 7 #[vR b, vI 3] [(.int (ushr (0 : Int32) (31 : Int32)))]) = (mkF m 7 #[vR b, vI 3] [(.int 0)]) from by rw [show (ushr (0 : Int32) (31 : Int32)) = (0 : Int32) from (by decide)]) ?_
 refine g_i2b X0 hx (hb hby d6_7) (pc' := 8) rfl ?_
 refine Go.cast (show (mkF m 8 #[vR b, vI 3] [(.int (byt (0 : Int32)))]) = (mkF m 8 #[vR b, vI 3] [(.int 0)]) from by rw [show (byt (0 : Int32)) = (0 : Int32) from (by decide)]) ?_
 exact g_breturn X0 hx rfl hret (hb hby d6_8) N0 hlk (fun v t => endF (by decide) (by decide) v) (by rw [e0]; exact ⟨rfl, rfl⟩)
theorem ef_6_3U (x0 : Addr) (x1 : Int32) (m : MethodId) : entryFrame m #[(.ref x0), (.int x1)] 2 = mkF m 0 #[.val (.ref x0), .val (.int x1)] [] := by first | (simp [entryFrame, mkF, argsToLocals, Value.category]; done) | rfl
def Q6_3U (Z : State) (b : Addr) (x0 : Int32) (x1 : Int32) (x2 : Int32) (x3 : Int32) (x4 : Int32) (x5 : Int32) (h0 : Heap) (n0 : Nat) : Option Value → Heap → Prop := fun v h => v = some (.int 1) ∧ h0 = h
theorem rm6_3U (l : Launch) (Z : State) (a0 : Array Value) (hw : HW Z a0) (b : Addr) (x0 : Int32) (x1 : Int32) (x2 : Int32) (x3 : Int32) (x4 : Int32) (x5 : Int32) (h0 : Heap) (n0 : Nat) (Z0 : n0 ≤ h0.size) (V1 : Va Z h0 b .byte [(.int x0), (.int x1), (.int x2), (.int x3), (.int x4), (.int x5)]) : Ctr l Z (⟨"java/lang/StringUTF16", "coderFromArrayLen", "([BI)B"⟩ : MethodName) jdk_52_method_15_code 2 (some .byte) ({ frames := 0, cells := 0, slots := 0, locals := 0 } : Room) #[(.ref b), (.int 3)] h0 n0 (Q6_3U Z b x0 x1 x2 x3 x4 x5 h0 n0) := by
 refine Ctr.of (plainFor_of_name pn_24) (ef_6_3U b (3 : Int32)) ?_
 intro p e s m below meth c T0 hx hby hml hown hnm hret hlk hZ X0 e0
 have N0 := Fr.nil n0
 refine g_iloadN X0 hx (hb hby d6_0) (pc' := 1) rfl rfl ?_
 refine g_aloadN X0 hx (hb hby d6_1) (pc' := 2) rfl rfl rfl ?_
 refine g_arraylength X0 hx hZ e0 V1 (z := 6) (hb hby d6_2) (pc' := 3) rfl rfl ?_
 refine g_isub X0 hx (hb hby d6_3) (pc' := 4) rfl ?_
 refine Go.cast (show (mkF m 4 #[vR b, vI 3] [(.int ((3 : Int32) - (6 : Int32)))]) = (mkF m 4 #[vR b, vI 3] [(.int (-3 : Int32))]) from by rw [show ((3 : Int32) - (6 : Int32)) = (-3 : Int32) from (by decide)]) ?_
 refine g_bipush X0 hx (hb hby d6_4) (pc' := 6) rfl (z := 31) rfl ?_
 refine g_iushr X0 hx (hb hby d6_6) (pc' := 7) rfl ?_
 refine Go.cast (show (mkF m 7 #[vR b, vI 3] [(.int (ushr (-3 : Int32) (31 : Int32)))]) = (mkF m 7 #[vR b, vI 3] [(.int 1)]) from by rw [show (ushr (-3 : Int32) (31 : Int32)) = (1 : Int32) from (by decide)]) ?_
 refine g_i2b X0 hx (hb hby d6_7) (pc' := 8) rfl ?_
 refine Go.cast (show (mkF m 8 #[vR b, vI 3] [(.int (byt (1 : Int32)))]) = (mkF m 8 #[vR b, vI 3] [(.int 1)]) from by rw [show (byt (1 : Int32)) = (1 : Int32) from (by decide)]) ?_
 exact g_breturn X0 hx rfl hret (hb hby d6_8) N0 hlk (fun v t => endF (by decide) (by decide) v) (by rw [e0]; exact ⟨rfl, rfl⟩)
theorem ef_2_3 (x0 : Addr) (x1 : Addr) (x2 : Int32) (x3 : Int32) (m : MethodId) : entryFrame m #[(.ref x0), (.ref x1), (.int x2), (.int x3), .null] 6 = mkF m 0 #[.val (.ref x0), .val (.ref x1), .val (.int x2), .val (.int x3), .val .null, .unset] [] := by first | (simp [entryFrame, mkF, argsToLocals, Value.category]; done) | rfl
def Q2_3 (Z : State) (a : Addr) (b : Addr) (c0 : Int32) (c1 : Int32) (c2 : Int32) (cs : Int32) (fv : Value) (h0 : Heap) (n0 : Nat) : Option Value → Heap → Prop := fun v h => v = none ∧ Keep h0 h [a] ∧ ∃ r, h0.size ≤ r ∧ Str Z h a r [c0, c1, c2]
theorem rm2_3 (l : Launch) (Z : State) (a0 : Array Value) (hw : HW Z a0) (a : Addr) (b : Addr) (c0 : Int32) (c1 : Int32) (c2 : Int32) (cs : Int32) (fv : Value) (h0 : Heap) (n0 : Nat) (Z0 : n0 ≤ h0.size) (F1 : Fld Z h0 a "java/lang/String" "value" "[B" .null) (F2 : Fld Z h0 a "java/lang/String" "coder" "B" (.int 0)) (E1 : Exa Z h0 a "java/lang/String") (G1 : n0 ≤ a) (V1 : Va Z h0 b .char [(.int c0), (.int c1), (.int c2)]) (ne1 : b ≠ a) (B : Sts Z cs fv) (O : Old Z n0 h0) (hc0 : chr c0 = c0) (hc1 : chr c1 = c1) (hc2 : chr c2 = c2) : Ctr l Z (⟨"java/lang/String", "<init>", "([CIILjava/lang/Void;)V"⟩ : MethodName) jdk_42_method_149_code 6 none ({ frames := 4, cells := 2, slots := 9, locals := 57 } : Room) #[(.ref a), (.ref b), (.int 0), (.int 3), .null] h0 n0 (Q2_3 Z a b c0 c1 c2 cs fv h0 n0) := by
 refine Ctr.of (plainFor_of_name pn_13) (ef_2_3 a b (0 : Int32) (3 : Int32)) ?_
 intro p e s m below meth c T0 hx hby hml hown hnm hret hlk hZ X0 e0
 have N0 := Fr.nil n0
 refine g_aloadN X0 hx (hb hby d2_0) (pc' := 1) rfl rfl rfl ?_
 obtain ⟨T592, X592, e592, st592⟩ := initO X0 hx hZ hown (wd hw 11 rfl) (wd hw 12 rfl) (wd hw 13 rfl) e0 (g := (mkF m 1 #[vR a, vR b, vI 0, vI 3, .val .null, .unset] [(.ref a)])) rfl (by rw [hml]; rfl) rfl (hb hby d2_1) (by decide) (W := 0) (by show 2 * 0 + _ ≤ _; exact Nat.le_of_eq rfl) (by decide)
 refine Go.movp st592 (mkF m 4 #[vR a, vR b, vI 0, vI 3, .val .null, .unset] []) rfl ?_
 refine g_iloadN X592 hx (hb hby d2_4) (pc' := 5) rfl rfl ?_
 refine g_if_ne X592 hx (hb hby d2_5) (pc1 := 8) rfl (by decide) (pc2 := 27) (by decide) (fun hc5 => ?_) (fun hc5 => absurd hc5 (by decide))
 obtain ⟨T593, X593, e593, st593⟩ := getS2 X592 hx hZ hown (host := "") (Or.inl (wd hw 14 rfl)) Via.refl e592 (Sta.ext O.2 B.1) (g := (mkF m 27 #[vR a, vR b, vI 0, vI 3, .val .null, .unset] [])) rfl (hb hby d2_27)
 refine Go.movp st593 (mkF m 30 #[vR a, vR b, vI 0, vI 3, .val .null, .unset] [(.int cs)]) rfl ?_
 refine g_if_eq X593 hx (hb hby d2_30) (pc1 := 33) rfl (by decide) (pc2 := 58) (by decide) (fun hc30 => absurd hc30 B.2.1) (fun hc30 => ?_)
 refine g_aloadN X593 hx (hb hby d2_33) (pc' := 34) rfl rfl rfl ?_
 refine g_iloadN X593 hx (hb hby d2_34) (pc' := 35) rfl rfl ?_
 refine g_iloadN X593 hx (hb hby d2_35) (pc' := 36) rfl rfl ?_
 obtain ⟨v594, T594, h594, L594, X594, e594, N594, q594, st594⟩ := h_static X593 hx (W := 0) (Ls := #[vR a, vR b, vI 0, vI 3, .val .null, .unset]) (argsL := [(.ref b), (.int 0), (.int 3)]) (rest := []) hZ e593 N0 hml hown (rm4_3 l Z a0 hw b c0 c1 c2 cs fv h0 n0 Z0 V1 B O hc0 hc1 hc2) (wd hw 15 rfl) (wd hw 16 rfl) (wd hw 17 rfl) (wd hw 18 rfl) (by decide) pd___CII__B rfl rfl (hb hby d2_36) rfl (by decide) (by decide) (by decide) (by decide)
 obtain ⟨r594, rfl, ge594, sz594, K594, A594, D594⟩ := q594
 have f595 := F1.keep K594 nin0
 have f596 := F2.keep K594 nin0
 have f597 := E1.keep K594
 have f598 := V1.keep K594 nin0
 have f599 := O.keep K594 all0
 have Z600 : n0 ≤ h594.size := Nat.le_trans Z0 K594.1
 have K601 := (Keep.refl h0 [a]).trans K594 all0
 have ne602 : a ≠ r594 := Nat.ne_of_lt (Nat.lt_of_lt_of_le F1.lt sz594)
 have ne603 : b ≠ r594 := Nat.ne_of_lt (Nat.lt_of_lt_of_le V1.lt sz594)
 have sz604 : h0.size ≤ r594 := Nat.le_trans (Keep.refl h0 [a]).1 sz594
 refine Go.movp st594 (mkF m 39 #[vR a, vR b, vI 0, vI 3, .val .null, .unset] [(.ref r594)]) rfl ?_
 rcases D594 with ⟨V594, C594⟩ | V594
 ·
  refine g_astore X594 hx (hb hby d2_39) (pc' := 41) rfl rfl (Ls' := #[vR a, vR b, vI 0, vI 3, .val .null, vR r594]) rfl ?_
  refine g_aloadN X594 hx (hb hby d2_41) (pc' := 42) rfl rfl rfl ?_
  refine g_aload X594 hx (hb hby d2_42) (pc' := 44) rfl rfl rfl ?_
  refine g_iloadN X594 hx (hb hby d2_44) (pc' := 45) rfl rfl ?_
  obtain ⟨v605, T605, h605, L605, X605, e605, N605, q605, st605⟩ := h_static X594 hx (W := 1) (Ls := #[vR a, vR b, vI 0, vI 3, .val .null, vR r594]) (argsL := [(.ref r594), (.int 3)]) (rest := [(.ref a)]) hZ e594 N594 hml hown (rm6_3L l Z a0 hw r594 (byt c0) (byt c1) (byt c2) h594 n0 Z600 V594) (wd hw 23 rfl) (wd hw 24 rfl) (wd hw 17 rfl) (wd hw 25 rfl) (by decide) pd___BI_B rfl rfl (hb hby d2_45) rfl (by decide) (by decide) (by decide) (by decide)
  obtain ⟨rfl, rfl⟩ := q605
  refine Go.movp st605 (mkF m 48 #[vR a, vR b, vI 0, vI 3, .val .null, vR r594] [(.int 0), (.ref a)]) rfl ?_
  obtain ⟨T606, h606, X606, e606, W606, st606⟩ := putFN X605 hx hZ hown (wd hw 26 rfl) Via.refl e605 f596 f597 (Or.inr ⟨(wd hw 27 rfl), rfl, hnm⟩) (wd hw 1 rfl) (ty := .byte) (v' := .int (nar .byte (0 : Int32))) (by decide) rfl (fits_nar_byte _) (g := (mkF m 48 #[vR a, vR b, vI 0, vI 3, .val .null, vR r594] [(.int 0), (.ref a)])) rfl rfl (hb hby d2_48)
  have f607 : Fld Z h606 a "java/lang/String" "coder" "B" (.int (byt (0 : Int32))) := Fld.same W606 f596
  have N606 := Fr.snoc X606 N605 G1
  have f608 := Fld.other W606 f595 (Or.inr (slot_ne (Or.inr (wd hw 29 rfl)) (Or.inr (wd hw 27 rfl)) (by decide) (t := (.array .byte)) (t' := .byte) (by decide) (by decide)))
  have f609 := Exa.wr W606 f597
  have f610 := f598.other W606 ne1
  have f611 := f599.wr W606 G1
  have f612 := Exa.wr W606 A594
  have f613 := V594.other W606 (Ne.symm ne602)
  have Z614 : n0 ≤ h606.size := Nat.le_trans Z600 (Keep.of_wr W606).1
  have K615 := K601.wr W606 (Or.inl (List.mem_of_getElem? (i := 0) rfl))
  refine Go.movp st606 (mkF m 51 #[vR a, vR b, vI 0, vI 3, .val .null, vR r594] []) rfl ?_
  refine g_aloadN X606 hx (hb hby d2_51) (pc' := 52) rfl rfl rfl ?_
  refine g_aload X606 hx (hb hby d2_52) (pc' := 54) rfl rfl rfl ?_
  obtain ⟨T616, h616, X616, e616, W616, st616⟩ := putF X606 hx hZ hown (host := "") (Or.inl (wd hw 28 rfl)) Via.refl e606 f608 f609 (Or.inr ⟨(wd hw 29 rfl), rfl, hnm⟩) (wd hw 1 rfl) (ty := (.array .byte)) (by decide) rfl rfl (g := (mkF m 54 #[vR a, vR b, vI 0, vI 3, .val .null, vR r594] [(.ref r594), (.ref a)])) rfl rfl (hb hby d2_54)
  have f617 : Fld Z h616 a "java/lang/String" "value" "[B" (.ref r594) := Fld.same W616 f608
  have N616 := Fr.snoc X616 N606 G1
  have f618 := Exa.wr W616 f609
  have f619 := f610.other W616 ne1
  have f620 := f611.wr W616 G1
  have f621 := Exa.wr W616 f612
  have f622 := f613.other W616 (Ne.symm ne602)
  have f623 := Fld.other W616 f607 (Or.inr (slot_ne (Or.inr (wd hw 27 rfl)) (Or.inr (wd hw 29 rfl)) (by decide) (t := .byte) (t' := (.array .byte)) (by decide) (by decide)))
  have Z624 : n0 ≤ h616.size := Nat.le_trans Z614 (Keep.of_wr W616).1
  have K625 := K615.wr W616 (Or.inl (List.mem_of_getElem? (i := 0) rfl))
  refine Go.movp st616 (mkF m 57 #[vR a, vR b, vI 0, vI 3, .val .null, vR r594] []) rfl ?_
  exact g_return X616 hx hret (hb hby d2_57) N616 hlk (fun v t => endF (by decide) (by decide) v) (by rw [e616]; exact ⟨rfl, K625, r594, sz604, Or.inl ⟨(by have q := f623; rw [show byt (0 : Int32) = 0 from by decide] at q; exact q), f617, f618, f622, C594⟩⟩)
 ·
  refine g_astore X594 hx (hb hby d2_39) (pc' := 41) rfl rfl (Ls' := #[vR a, vR b, vI 0, vI 3, .val .null, vR r594]) rfl ?_
  refine g_aloadN X594 hx (hb hby d2_41) (pc' := 42) rfl rfl rfl ?_
  refine g_aload X594 hx (hb hby d2_42) (pc' := 44) rfl rfl rfl ?_
  refine g_iloadN X594 hx (hb hby d2_44) (pc' := 45) rfl rfl ?_
  obtain ⟨v626, T626, h626, L626, X626, e626, N626, q626, st626⟩ := h_static X594 hx (W := 1) (Ls := #[vR a, vR b, vI 0, vI 3, .val .null, vR r594]) (argsL := [(.ref r594), (.int 3)]) (rest := [(.ref a)]) hZ e594 N594 hml hown (rm6_3U l Z a0 hw r594 (byt (shr c0 (0 : Int32))) (byt (shr c0 (8 : Int32))) (byt (shr c1 (0 : Int32))) (byt (shr c1 (8 : Int32))) (byt (shr c2 (0 : Int32))) (byt (shr c2 (8 : Int32))) h594 n0 Z600 V594) (wd hw 23 rfl) (wd hw 24 rfl) (wd hw 17 rfl) (wd hw 25 rfl) (by decide) pd___BI_B rfl rfl (hb hby d2_45) rfl (by decide) (by decide) (by decide) (by decide)
  obtain ⟨rfl, rfl⟩ := q626
  refine Go.movp st626 (mkF m 48 #[vR a, vR b, vI 0, vI 3, .val .null, vR r594] [(.int 1), (.ref a)]) rfl ?_
  obtain ⟨T627, h627, X627, e627, W627, st627⟩ := putFN X626 hx hZ hown (wd hw 26 rfl) Via.refl e626 f596 f597 (Or.inr ⟨(wd hw 27 rfl), rfl, hnm⟩) (wd hw 1 rfl) (ty := .byte) (v' := .int (nar .byte (1 : Int32))) (by decide) rfl (fits_nar_byte _) (g := (mkF m 48 #[vR a, vR b, vI 0, vI 3, .val .null, vR r594] [(.int 1), (.ref a)])) rfl rfl (hb hby d2_48)
  have f628 : Fld Z h627 a "java/lang/String" "coder" "B" (.int (byt (1 : Int32))) := Fld.same W627 f596
  have N627 := Fr.snoc X627 N626 G1
  have f629 := Fld.other W627 f595 (Or.inr (slot_ne (Or.inr (wd hw 29 rfl)) (Or.inr (wd hw 27 rfl)) (by decide) (t := (.array .byte)) (t' := .byte) (by decide) (by decide)))
  have f630 := Exa.wr W627 f597
  have f631 := f598.other W627 ne1
  have f632 := f599.wr W627 G1
  have f633 := Exa.wr W627 A594
  have f634 := V594.other W627 (Ne.symm ne602)
  have Z635 : n0 ≤ h627.size := Nat.le_trans Z600 (Keep.of_wr W627).1
  have K636 := K601.wr W627 (Or.inl (List.mem_of_getElem? (i := 0) rfl))
  refine Go.movp st627 (mkF m 51 #[vR a, vR b, vI 0, vI 3, .val .null, vR r594] []) rfl ?_
  refine g_aloadN X627 hx (hb hby d2_51) (pc' := 52) rfl rfl rfl ?_
  refine g_aload X627 hx (hb hby d2_52) (pc' := 54) rfl rfl rfl ?_
  obtain ⟨T637, h637, X637, e637, W637, st637⟩ := putF X627 hx hZ hown (host := "") (Or.inl (wd hw 28 rfl)) Via.refl e627 f629 f630 (Or.inr ⟨(wd hw 29 rfl), rfl, hnm⟩) (wd hw 1 rfl) (ty := (.array .byte)) (by decide) rfl rfl (g := (mkF m 54 #[vR a, vR b, vI 0, vI 3, .val .null, vR r594] [(.ref r594), (.ref a)])) rfl rfl (hb hby d2_54)
  have f638 : Fld Z h637 a "java/lang/String" "value" "[B" (.ref r594) := Fld.same W637 f629
  have N637 := Fr.snoc X637 N627 G1
  have f639 := Exa.wr W637 f630
  have f640 := f631.other W637 ne1
  have f641 := f632.wr W637 G1
  have f642 := Exa.wr W637 f633
  have f643 := f634.other W637 (Ne.symm ne602)
  have f644 := Fld.other W637 f628 (Or.inr (slot_ne (Or.inr (wd hw 27 rfl)) (Or.inr (wd hw 29 rfl)) (by decide) (t := .byte) (t' := (.array .byte)) (by decide) (by decide)))
  have Z645 : n0 ≤ h637.size := Nat.le_trans Z635 (Keep.of_wr W637).1
  have K646 := K636.wr W637 (Or.inl (List.mem_of_getElem? (i := 0) rfl))
  refine Go.movp st637 (mkF m 57 #[vR a, vR b, vI 0, vI 3, .val .null, vR r594] []) rfl ?_
  exact g_return X637 hx hret (hb hby d2_57) N637 hlk (fun v t => endF (by decide) (by decide) v) (by rw [e637]; exact ⟨rfl, K646, r594, sz604, Or.inr ⟨(by have q := f644; rw [show byt (1 : Int32) = 1 from by decide] at q; exact q), f638, f639, f643⟩⟩)
theorem ef_1_3 (x0 : Addr) (x1 : Addr) (m : MethodId) : entryFrame m #[(.ref x0), (.ref x1)] 2 = mkF m 0 #[.val (.ref x0), .val (.ref x1)] [] := by first | (simp [entryFrame, mkF, argsToLocals, Value.category]; done) | rfl
def Q1_3 (Z : State) (a : Addr) (b : Addr) (c0 : Int32) (c1 : Int32) (c2 : Int32) (cs : Int32) (fv : Value) (h0 : Heap) (n0 : Nat) : Option Value → Heap → Prop := fun v h => v = none ∧ Keep h0 h [a] ∧ ∃ r, h0.size ≤ r ∧ Str Z h a r [c0, c1, c2]
theorem rm1_3 (l : Launch) (Z : State) (a0 : Array Value) (hw : HW Z a0) (a : Addr) (b : Addr) (c0 : Int32) (c1 : Int32) (c2 : Int32) (cs : Int32) (fv : Value) (h0 : Heap) (n0 : Nat) (Z0 : n0 ≤ h0.size) (F1 : Fld Z h0 a "java/lang/String" "value" "[B" .null) (F2 : Fld Z h0 a "java/lang/String" "coder" "B" (.int 0)) (E1 : Exa Z h0 a "java/lang/String") (G1 : n0 ≤ a) (V1 : Va Z h0 b .char [(.int c0), (.int c1), (.int c2)]) (ne1 : b ≠ a) (B : Sts Z cs fv) (O : Old Z n0 h0) (hc0 : chr c0 = c0) (hc1 : chr c1 = c1) (hc2 : chr c2 = c2) : Ctr l Z (⟨"java/lang/String", "<init>", "([C)V"⟩ : MethodName) jdk_42_method_3_code 2 none ({ frames := 5, cells := 2, slots := 9, locals := 74 } : Room) #[(.ref a), (.ref b)] h0 n0 (Q1_3 Z a b c0 c1 c2 cs fv h0 n0) := by
 refine Ctr.of (plainFor_of_name pn_13) (ef_1_3 a b) ?_
 intro p e s m below meth c T0 hx hby hml hown hnm hret hlk hZ X0 e0
 have N0 := Fr.nil n0
 refine g_aloadN X0 hx (hb hby d1_0) (pc' := 1) rfl rfl rfl ?_
 refine g_aloadN X0 hx (hb hby d1_1) (pc' := 2) rfl rfl rfl ?_
 refine g_iconst X0 hx (hb hby d1_2) (pc' := 3) rfl (z := 0) rfl ?_
 refine g_aloadN X0 hx (hb hby d1_3) (pc' := 4) rfl rfl rfl ?_
 refine g_arraylength X0 hx hZ e0 V1 (z := 3) (hb hby d1_4) (pc' := 5) rfl rfl ?_
 refine g_aconst_null X0 hx (hb hby d1_5) (pc' := 6) rfl ?_
 obtain ⟨v647, T647, h647, L647, X647, e647, N647, q647, st647⟩ := h_special (a := a) X0 hx (W := 0) (Ls := #[vR a, vR b]) (argsL := [(.ref b), (.int 0), (.int 3), .null]) (rest := []) hZ e0 N0 hml hown rfl (rm2_3 l Z a0 hw a b c0 c1 c2 cs fv h0 n0 Z0 F1 F2 E1 G1 V1 ne1 B O hc0 hc1 hc2) (wd hw 7 rfl) (wd hw 8 rfl) (wd hw 2 rfl) (wd hw 10 rfl) (by decide) pd___CIILjava_lang_Void__V rfl rfl (hb hby d1_6) rfl (by decide) (by decide) (by decide) (by decide)
 obtain ⟨rfl, K647, r647, sz647, S647⟩ := q647
 have f648 := E1.keep K647
 have f649 := V1.keep K647 (ninS ne1 nin0)
 have f650 := O.keep K647 (allS G1 all0)
 have Z651 : n0 ≤ h647.size := Nat.le_trans Z0 K647.1
 have K652 := (Keep.refl h0 [a]).trans K647 (allS (Or.inl (List.mem_of_getElem? (i := 0) rfl)) all0)
 refine Go.movp st647 (mkF m 9 #[vR a, vR b] []) rfl ?_
 exact g_return X647 hx hret (hb hby d1_9) N647 hlk (fun v t => endF (by decide) (by decide) v) (by rw [e647]; exact ⟨rfl, K652, r647, sz647, S647⟩)
theorem ef_19_4 (x0 : Int32) (m : MethodId) : entryFrame m #[(.int x0)] 1 = mkF m 0 #[.val (.int x0)] [] := by first | (simp [entryFrame, mkF, argsToLocals, Value.category]; done) | rfl
def Q19_4 (Z : State)  (h0 : Heap) (n0 : Nat) : Option Value → Heap → Prop := fun v h => v = some (.int 8) ∧ h0 = h
theorem rm19_4 (l : Launch) (Z : State) (a0 : Array Value) (hw : HW Z a0)  (h0 : Heap) (n0 : Nat) (Z0 : n0 ≤ h0.size) : Ctr l Z (⟨"java/lang/StringUTF16", "newBytesLength", "(I)I"⟩ : MethodName) jdk_52_method_3_code 1 (some .int) ({ frames := 0, cells := 0, slots := 0, locals := 0 } : Room) #[(.int 4)] h0 n0 (Q19_4 Z  h0 n0) := by
 refine Ctr.of (plainFor_of_name pn_24) (ef_19_4 (4 : Int32)) ?_
 intro p e s m below meth c T0 hx hby hml hown hnm hret hlk hZ X0 e0
 have N0 := Fr.nil n0
 refine g_iloadN X0 hx (hb hby d19_0) (pc' := 1) rfl rfl ?_
 refine g_if_ge X0 hx (hb hby d19_1) (pc1 := 4) rfl (by decide) (pc2 := 12) (by decide) (fun hc1 => ?_) (fun hc1 => absurd hc1 (by decide))
 refine g_iloadN X0 hx (hb hby d19_12) (pc' := 13) rfl rfl ?_
 refine g_ldc X0 hx hZ hown (wd hw 104 rfl) (hb hby d19_13) (pc' := 15) rfl ?_
 refine g_icmp_lt X0 hx (hb hby d19_15) (pc1 := 18) rfl (by decide) (pc2 := 55) (by decide) (fun hc15 => ?_) (fun hc15 => absurd (by decide) hc15)
 refine g_iloadN X0 hx (hb hby d19_55) (pc' := 56) rfl rfl ?_
 refine g_iconst X0 hx (hb hby d19_56) (pc' := 57) rfl (z := 1) rfl ?_
 refine g_ishl X0 hx (hb hby d19_57) (pc' := 58) rfl ?_
 refine Go.cast (show (mkF m 58 #[vI 4] [(.int (shl (4 : Int32) (1 : Int32)))]) = (mkF m 58 #[vI 4] [(.int 8)]) from by rw [show (shl (4 : Int32) (1 : Int32)) = (8 : Int32) from (by decide)]) ?_
 exact g_ireturn X0 hx hret (hb hby d19_58) N0 hlk (fun v t => endF (by decide) (by decide) v) (by rw [e0]; exact ⟨rfl, rfl⟩)
theorem ef_18_4 (x0 : Int32) (m : MethodId) : entryFrame m #[(.int x0)] 1 = mkF m 0 #[.val (.int x0)] [] := by first | (simp [entryFrame, mkF, argsToLocals, Value.category]; done) | rfl
def Q18_4 (Z : State)  (h0 : Heap) (n0 : Nat) : Option Value → Heap → Prop := fun v h => ∃ r, v = some (.ref r) ∧ n0 ≤ r ∧ h0.size ≤ r ∧ Keep h0 h [] ∧ Va Z h r .byte [(.int 0), (.int 0), (.int 0), (.int 0), (.int 0), (.int 0), (.int 0), (.int 0)] ∧ Exa Z h r "[B"
theorem rm18_4 (l : Launch) (Z : State) (a0 : Array Value) (hw : HW Z a0)  (h0 : Heap) (n0 : Nat) (Z0 : n0 ≤ h0.size) : Ctr l Z (⟨"java/lang/StringUTF16", "newBytesFor", "(I)[B"⟩ : MethodName) jdk_52_method_2_code 1 (some (.array .byte)) ({ frames := 1, cells := 1, slots := 8, locals := 12 } : Room) #[(.int 4)] h0 n0 (Q18_4 Z  h0 n0) := by
 refine Ctr.of (plainFor_of_name pn_24) (ef_18_4 (4 : Int32)) ?_
 intro p e s m below meth c T0 hx hby hml hown hnm hret hlk hZ X0 e0
 have N0 := Fr.nil n0
 refine g_iloadN X0 hx (hb hby d18_0) (pc' := 1) rfl rfl ?_
 obtain ⟨v653, T653, h653, L653, X653, e653, N653, q653, st653⟩ := h_static X0 hx (W := 0) (Ls := #[vI 4]) (argsL := [(.int 4)]) (rest := []) hZ e0 N0 hml hown (rm19_4 l Z a0 hw h0 n0 Z0) (wd hw 101 rfl) (wd hw 102 rfl) (wd hw 17 rfl) (wd hw 103 rfl) (by decide) pd__I_I rfl rfl (hb hby d18_1) rfl (by decide) (by decide) (by decide) (by decide)
 obtain ⟨rfl, rfl⟩ := q653
 refine Go.movp st653 (mkF m 4 #[vI 4] [(.int 8)]) rfl ?_
 obtain ⟨T654, h654, b654, X654, e654, g654, E654, V654, A654, st654⟩ := h_newarray X653 hx hZ e653 (n := (8 : Int32)) (ty := .byte) rfl (wd hw 19 rfl) (hb hby d18_4) (k := 8) (cap := 8) (by decide) rfl (by decide) (by decide) (by decide) (by decide) (ad := "[B") (by decide) #[vI 4] []
 have ge655 : n0 ≤ b654 := g654 ▸ Z0
 have sz656 : h0.size ≤ b654 := g654 ▸ (Keep.refl h0 []).1
 have Z657 : n0 ≤ h654.size := Nat.le_trans Z0 E654.1
 have K658 := (Keep.refl h0 []).ext E654
 have f659 : Va Z h654 b654 .byte [(.int 0), (.int 0), (.int 0), (.int 0), (.int 0), (.int 0), (.int 0), (.int 0)] := V654
 refine Go.movp st654 (mkF m 6 #[vI 4] [(.ref b654)]) rfl ?_
 exact g_areturn X654 hx rfl rfl hret (hb hby d18_6) N653 hlk (fun v t => endF (by decide) (by decide) v) (by rw [e654]; exact ⟨_, rfl, ge655, sz656, K658, f659, A654⟩)
theorem ef_20_4_0 (x0 : Addr) (x1 : Int32) (x2 : Int32) (m : MethodId) : entryFrame m #[(.ref x0), (.int x1), (.int x2)] 3 = mkF m 0 #[.val (.ref x0), .val (.int x1), .val (.int x2)] [] := by first | (simp [entryFrame, mkF, argsToLocals, Value.category]; done) | rfl
def Q20_4_0 (Z : State) (a : Addr) (x0 : Int32) (x1 : Int32) (x2 : Int32) (x3 : Int32) (x4 : Int32) (x5 : Int32) (x6 : Int32) (x7 : Int32) (cx : Int32) (cs : Int32) (fv : Value) (h0 : Heap) (n0 : Nat) : Option Value → Heap → Prop := fun v h => v = none ∧ Keep h0 h [a] ∧ Va Z h a .byte [(.int (byt (shr cx (0 : Int32)))), (.int (byt (shr cx (8 : Int32)))), (.int x2), (.int x3), (.int x4), (.int x5), (.int x6), (.int x7)]
theorem rm20_4_0 (l : Launch) (Z : State) (a0 : Array Value) (hw : HW Z a0) (a : Addr) (x0 : Int32) (x1 : Int32) (x2 : Int32) (x3 : Int32) (x4 : Int32) (x5 : Int32) (x6 : Int32) (x7 : Int32) (cx : Int32) (cs : Int32) (fv : Value) (h0 : Heap) (n0 : Nat) (Z0 : n0 ≤ h0.size) (V1 : Va Z h0 a .byte [(.int x0), (.int x1), (.int x2), (.int x3), (.int x4), (.int x5), (.int x6), (.int x7)]) (G1 : n0 ≤ a) (B : Sts Z cs fv) (O : Old Z n0 h0) : Ctr l Z (⟨"java/lang/StringUTF16", "putChar", "([BII)V"⟩ : MethodName) jdk_52_method_4_code 3 none ({ frames := 0, cells := 0, slots := 0, locals := 0 } : Room) #[(.ref a), (.int 0), (.int cx)] h0 n0 (Q20_4_0 Z a x0 x1 x2 x3 x4 x5 x6 x7 cx cs fv h0 n0) := by
 refine Ctr.of (plainFor_of_name pn_24) (ef_20_4_0 a (0 : Int32) cx) ?_
 intro p e s m below meth c T0 hx hby hml hown hnm hret hlk hZ X0 e0
 have N0 := Fr.nil n0
 obtain ⟨T660, X660, e660, st660⟩ := getS2 X0 hx hZ hown (host := "") (Or.inl (wd hw 108 rfl)) Via.refl e0 (Sta.ext O.2 B.2.2.1) (g := (mkF m 0 #[vR a, vI 0, vI cx] [])) rfl (hb hby d20_0)
 refine Go.movp st660 (mkF m 3 #[vR a, vI 0, vI cx] [(.int 1)]) rfl ?_
 refine g_if_ne X660 hx (hb hby d20_3) (pc1 := 6) rfl (by decide) (pc2 := 28) (by decide) (fun hc3 => ?_) (fun hc3 => absurd hc3 (by decide))
 refine g_iloadN X660 hx (hb hby d20_28) (pc' := 29) rfl rfl ?_
 refine g_iconst X660 hx (hb hby d20_29) (pc' := 30) rfl (z := 1) rfl ?_
 refine g_ishl X660 hx (hb hby d20_30) (pc' := 31) rfl ?_
 refine Go.cast (show (mkF m 31 #[vR a, vI 0, vI cx] [(.int (shl (0 : Int32) (1 : Int32)))]) = (mkF m 31 #[vR a, vI 0, vI cx] [(.int 0)]) from by rw [show (shl (0 : Int32) (1 : Int32)) = (0 : Int32) from (by decide)]) ?_
 refine g_istoreN X660 hx (hb hby d20_31) (pc' := 32) rfl (Ls' := #[vR a, vI 0, vI cx]) rfl ?_
 refine g_aloadN X660 hx (hb hby d20_32) (pc' := 33) rfl rfl rfl ?_
 refine g_iloadN X660 hx (hb hby d20_33) (pc' := 34) rfl rfl ?_
 refine g_iinc X660 hx (hb hby d20_34) (pc' := 37) rfl rfl (z := 1) rfl (Ls' := #[vR a, vI 1, vI cx]) rfl ?_
 refine g_iloadN X660 hx (hb hby d20_37) (pc' := 38) rfl rfl ?_
 obtain ⟨T661, X661, e661, st661⟩ := getS2 X660 hx hZ hown (host := "") (Or.inl (wd hw 109 rfl)) Via.refl e660 (Sta.ext O.2 B.2.2.2.1) (g := (mkF m 38 #[vR a, vI 1, vI cx] [(.int cx), (.int 0), (.ref a)])) rfl (hb hby d20_38)
 refine Go.movp st661 (mkF m 41 #[vR a, vI 1, vI cx] [(.int 0), (.int cx), (.int 0), (.ref a)]) rfl ?_
 refine g_ishr X661 hx (hb hby d20_41) (pc' := 42) rfl ?_
 refine g_i2b X661 hx (hb hby d20_42) (pc' := 43) rfl ?_
 obtain ⟨T662, h662, L662, X662, e662, N662, W662, V662, st662⟩ := h_bastore X661 hx hZ e661 N0 V1 G1 (j := (0 : Int32)) (i := 0) (x := (byt (shr cx (0 : Int32)))) (hb hby d20_43) (by decide) rfl rfl #[vR a, vI 1, vI cx] []
 have f663 := O.wr W662 G1
 have Z664 : n0 ≤ h662.size := Nat.le_trans Z0 (Keep.of_wr W662).1
 have K665 := (Keep.refl h0 [a]).wr W662 (Or.inl (List.mem_of_getElem? (i := 0) rfl))
 have f666 : Va Z h662 a .byte [(.int (byt (byt (shr cx (0 : Int32))))), (.int x1), (.int x2), (.int x3), (.int x4), (.int x5), (.int x6), (.int x7)] := V662
 have f667 : Va Z h662 a .byte [(.int (byt (shr cx (0 : Int32)))), (.int x1), (.int x2), (.int x3), (.int x4), (.int x5), (.int x6), (.int x7)] := by rw [show (byt (byt (shr cx (0 : Int32)))) = (byt (shr cx (0 : Int32))) from byt_byt _] at f666; exact f666
 refine Go.movp st662 (mkF m 44 #[vR a, vI 1, vI cx] []) rfl ?_
 refine g_aloadN X662 hx (hb hby d20_44) (pc' := 45) rfl rfl rfl ?_
 refine g_iloadN X662 hx (hb hby d20_45) (pc' := 46) rfl rfl ?_
 refine g_iloadN X662 hx (hb hby d20_46) (pc' := 47) rfl rfl ?_
 obtain ⟨T668, X668, e668, st668⟩ := getS2 X662 hx hZ hown (host := "") (Or.inl (wd hw 110 rfl)) Via.refl e662 (Sta.ext f663.2 B.2.2.2.2.1) (g := (mkF m 47 #[vR a, vI 1, vI cx] [(.int cx), (.int 1), (.ref a)])) rfl (hb hby d20_47)
 refine Go.movp st668 (mkF m 50 #[vR a, vI 1, vI cx] [(.int 8), (.int cx), (.int 1), (.ref a)]) rfl ?_
 refine g_ishr X668 hx (hb hby d20_50) (pc' := 51) rfl ?_
 refine g_i2b X668 hx (hb hby d20_51) (pc' := 52) rfl ?_
 obtain ⟨T669, h669, L669, X669, e669, N669, W669, V669, st669⟩ := h_bastore X668 hx hZ e668 N662 f667 G1 (j := (1 : Int32)) (i := 1) (x := (byt (shr cx (8 : Int32)))) (hb hby d20_52) (by decide) rfl rfl #[vR a, vI 1, vI cx] []
 have f670 := f663.wr W669 G1
 have Z671 : n0 ≤ h669.size := Nat.le_trans Z664 (Keep.of_wr W669).1
 have K672 := K665.wr W669 (Or.inl (List.mem_of_getElem? (i := 0) rfl))
 have f673 : Va Z h669 a .byte [(.int (byt (shr cx (0 : Int32)))), (.int (byt (byt (shr cx (8 : Int32))))), (.int x2), (.int x3), (.int x4), (.int x5), (.int x6), (.int x7)] := V669
 have f674 : Va Z h669 a .byte [(.int (byt (shr cx (0 : Int32)))), (.int (byt (shr cx (8 : Int32)))), (.int x2), (.int x3), (.int x4), (.int x5), (.int x6), (.int x7)] := by rw [show (byt (byt (shr cx (8 : Int32)))) = (byt (shr cx (8 : Int32))) from byt_byt _] at f673; exact f673
 refine Go.movp st669 (mkF m 53 #[vR a, vI 1, vI cx] []) rfl ?_
 exact g_return X669 hx hret (hb hby d20_53) N669 hlk (fun v t => endF (by decide) (by decide) v) (by rw [e669]; exact ⟨rfl, K672, f674⟩)
theorem ef_20_4_1 (x0 : Addr) (x1 : Int32) (x2 : Int32) (m : MethodId) : entryFrame m #[(.ref x0), (.int x1), (.int x2)] 3 = mkF m 0 #[.val (.ref x0), .val (.int x1), .val (.int x2)] [] := by first | (simp [entryFrame, mkF, argsToLocals, Value.category]; done) | rfl
def Q20_4_1 (Z : State) (a : Addr) (x0 : Int32) (x1 : Int32) (x2 : Int32) (x3 : Int32) (x4 : Int32) (x5 : Int32) (x6 : Int32) (x7 : Int32) (cx : Int32) (cs : Int32) (fv : Value) (h0 : Heap) (n0 : Nat) : Option Value → Heap → Prop := fun v h => v = none ∧ Keep h0 h [a] ∧ Va Z h a .byte [(.int x0), (.int x1), (.int (byt (shr cx (0 : Int32)))), (.int (byt (shr cx (8 : Int32)))), (.int x4), (.int x5), (.int x6), (.int x7)]
theorem rm20_4_1 (l : Launch) (Z : State) (a0 : Array Value) (hw : HW Z a0) (a : Addr) (x0 : Int32) (x1 : Int32) (x2 : Int32) (x3 : Int32) (x4 : Int32) (x5 : Int32) (x6 : Int32) (x7 : Int32) (cx : Int32) (cs : Int32) (fv : Value) (h0 : Heap) (n0 : Nat) (Z0 : n0 ≤ h0.size) (V1 : Va Z h0 a .byte [(.int x0), (.int x1), (.int x2), (.int x3), (.int x4), (.int x5), (.int x6), (.int x7)]) (G1 : n0 ≤ a) (B : Sts Z cs fv) (O : Old Z n0 h0) : Ctr l Z (⟨"java/lang/StringUTF16", "putChar", "([BII)V"⟩ : MethodName) jdk_52_method_4_code 3 none ({ frames := 0, cells := 0, slots := 0, locals := 0 } : Room) #[(.ref a), (.int 1), (.int cx)] h0 n0 (Q20_4_1 Z a x0 x1 x2 x3 x4 x5 x6 x7 cx cs fv h0 n0) := by
 refine Ctr.of (plainFor_of_name pn_24) (ef_20_4_1 a (1 : Int32) cx) ?_
 intro p e s m below meth c T0 hx hby hml hown hnm hret hlk hZ X0 e0
 have N0 := Fr.nil n0
 obtain ⟨T675, X675, e675, st675⟩ := getS2 X0 hx hZ hown (host := "") (Or.inl (wd hw 108 rfl)) Via.refl e0 (Sta.ext O.2 B.2.2.1) (g := (mkF m 0 #[vR a, vI 1, vI cx] [])) rfl (hb hby d20_0)
 refine Go.movp st675 (mkF m 3 #[vR a, vI 1, vI cx] [(.int 1)]) rfl ?_
 refine g_if_ne X675 hx (hb hby d20_3) (pc1 := 6) rfl (by decide) (pc2 := 28) (by decide) (fun hc3 => ?_) (fun hc3 => absurd hc3 (by decide))
 refine g_iloadN X675 hx (hb hby d20_28) (pc' := 29) rfl rfl ?_
 refine g_iconst X675 hx (hb hby d20_29) (pc' := 30) rfl (z := 1) rfl ?_
 refine g_ishl X675 hx (hb hby d20_30) (pc' := 31) rfl ?_
 refine Go.cast (show (mkF m 31 #[vR a, vI 1, vI cx] [(.int (shl (1 : Int32) (1 : Int32)))]) = (mkF m 31 #[vR a, vI 1, vI cx] [(.int 2)]) from by rw [show (shl (1 : Int32) (1 : Int32)) = (2 : Int32) from (by decide)]) ?_
 refine g_istoreN X675 hx (hb hby d20_31) (pc' := 32) rfl (Ls' := #[vR a, vI 2, vI cx]) rfl ?_
 refine g_aloadN X675 hx (hb hby d20_32) (pc' := 33) rfl rfl rfl ?_
 refine g_iloadN X675 hx (hb hby d20_33) (pc' := 34) rfl rfl ?_
 refine g_iinc X675 hx (hb hby d20_34) (pc' := 37) rfl rfl (z := 1) rfl (Ls' := #[vR a, vI 3, vI cx]) rfl ?_
 refine g_iloadN X675 hx (hb hby d20_37) (pc' := 38) rfl rfl ?_
 obtain ⟨T676, X676, e676, st676⟩ := getS2 X675 hx hZ hown (host := "") (Or.inl (wd hw 109 rfl)) Via.refl e675 (Sta.ext O.2 B.2.2.2.1) (g := (mkF m 38 #[vR a, vI 3, vI cx] [(.int cx), (.int 2), (.ref a)])) rfl (hb hby d20_38)
 refine Go.movp st676 (mkF m 41 #[vR a, vI 3, vI cx] [(.int 0), (.int cx), (.int 2), (.ref a)]) rfl ?_
 refine g_ishr X676 hx (hb hby d20_41) (pc' := 42) rfl ?_
 refine g_i2b X676 hx (hb hby d20_42) (pc' := 43) rfl ?_
 obtain ⟨T677, h677, L677, X677, e677, N677, W677, V677, st677⟩ := h_bastore X676 hx hZ e676 N0 V1 G1 (j := (2 : Int32)) (i := 2) (x := (byt (shr cx (0 : Int32)))) (hb hby d20_43) (by decide) rfl rfl #[vR a, vI 3, vI cx] []
 have f678 := O.wr W677 G1
 have Z679 : n0 ≤ h677.size := Nat.le_trans Z0 (Keep.of_wr W677).1
 have K680 := (Keep.refl h0 [a]).wr W677 (Or.inl (List.mem_of_getElem? (i := 0) rfl))
 have f681 : Va Z h677 a .byte [(.int x0), (.int x1), (.int (byt (byt (shr cx (0 : Int32))))), (.int x3), (.int x4), (.int x5), (.int x6), (.int x7)] := V677
 have f682 : Va Z h677 a .byte [(.int x0), (.int x1), (.int (byt (shr cx (0 : Int32)))), (.int x3), (.int x4), (.int x5), (.int x6), (.int x7)] := by rw [show (byt (byt (shr cx (0 : Int32)))) = (byt (shr cx (0 : Int32))) from byt_byt _] at f681; exact f681
 refine Go.movp st677 (mkF m 44 #[vR a, vI 3, vI cx] []) rfl ?_
 refine g_aloadN X677 hx (hb hby d20_44) (pc' := 45) rfl rfl rfl ?_
 refine g_iloadN X677 hx (hb hby d20_45) (pc' := 46) rfl rfl ?_
 refine g_iloadN X677 hx (hb hby d20_46) (pc' := 47) rfl rfl ?_
 obtain ⟨T683, X683, e683, st683⟩ := getS2 X677 hx hZ hown (host := "") (Or.inl (wd hw 110 rfl)) Via.refl e677 (Sta.ext f678.2 B.2.2.2.2.1) (g := (mkF m 47 #[vR a, vI 3, vI cx] [(.int cx), (.int 3), (.ref a)])) rfl (hb hby d20_47)
 refine Go.movp st683 (mkF m 50 #[vR a, vI 3, vI cx] [(.int 8), (.int cx), (.int 3), (.ref a)]) rfl ?_
 refine g_ishr X683 hx (hb hby d20_50) (pc' := 51) rfl ?_
 refine g_i2b X683 hx (hb hby d20_51) (pc' := 52) rfl ?_
 obtain ⟨T684, h684, L684, X684, e684, N684, W684, V684, st684⟩ := h_bastore X683 hx hZ e683 N677 f682 G1 (j := (3 : Int32)) (i := 3) (x := (byt (shr cx (8 : Int32)))) (hb hby d20_52) (by decide) rfl rfl #[vR a, vI 3, vI cx] []
 have f685 := f678.wr W684 G1
 have Z686 : n0 ≤ h684.size := Nat.le_trans Z679 (Keep.of_wr W684).1
 have K687 := K680.wr W684 (Or.inl (List.mem_of_getElem? (i := 0) rfl))
 have f688 : Va Z h684 a .byte [(.int x0), (.int x1), (.int (byt (shr cx (0 : Int32)))), (.int (byt (byt (shr cx (8 : Int32))))), (.int x4), (.int x5), (.int x6), (.int x7)] := V684
 have f689 : Va Z h684 a .byte [(.int x0), (.int x1), (.int (byt (shr cx (0 : Int32)))), (.int (byt (shr cx (8 : Int32)))), (.int x4), (.int x5), (.int x6), (.int x7)] := by rw [show (byt (byt (shr cx (8 : Int32)))) = (byt (shr cx (8 : Int32))) from byt_byt _] at f688; exact f688
 refine Go.movp st684 (mkF m 53 #[vR a, vI 3, vI cx] []) rfl ?_
 exact g_return X684 hx hret (hb hby d20_53) N684 hlk (fun v t => endF (by decide) (by decide) v) (by rw [e684]; exact ⟨rfl, K687, f689⟩)
theorem ef_20_4_2 (x0 : Addr) (x1 : Int32) (x2 : Int32) (m : MethodId) : entryFrame m #[(.ref x0), (.int x1), (.int x2)] 3 = mkF m 0 #[.val (.ref x0), .val (.int x1), .val (.int x2)] [] := by first | (simp [entryFrame, mkF, argsToLocals, Value.category]; done) | rfl
def Q20_4_2 (Z : State) (a : Addr) (x0 : Int32) (x1 : Int32) (x2 : Int32) (x3 : Int32) (x4 : Int32) (x5 : Int32) (x6 : Int32) (x7 : Int32) (cx : Int32) (cs : Int32) (fv : Value) (h0 : Heap) (n0 : Nat) : Option Value → Heap → Prop := fun v h => v = none ∧ Keep h0 h [a] ∧ Va Z h a .byte [(.int x0), (.int x1), (.int x2), (.int x3), (.int (byt (shr cx (0 : Int32)))), (.int (byt (shr cx (8 : Int32)))), (.int x6), (.int x7)]
theorem rm20_4_2 (l : Launch) (Z : State) (a0 : Array Value) (hw : HW Z a0) (a : Addr) (x0 : Int32) (x1 : Int32) (x2 : Int32) (x3 : Int32) (x4 : Int32) (x5 : Int32) (x6 : Int32) (x7 : Int32) (cx : Int32) (cs : Int32) (fv : Value) (h0 : Heap) (n0 : Nat) (Z0 : n0 ≤ h0.size) (V1 : Va Z h0 a .byte [(.int x0), (.int x1), (.int x2), (.int x3), (.int x4), (.int x5), (.int x6), (.int x7)]) (G1 : n0 ≤ a) (B : Sts Z cs fv) (O : Old Z n0 h0) : Ctr l Z (⟨"java/lang/StringUTF16", "putChar", "([BII)V"⟩ : MethodName) jdk_52_method_4_code 3 none ({ frames := 0, cells := 0, slots := 0, locals := 0 } : Room) #[(.ref a), (.int 2), (.int cx)] h0 n0 (Q20_4_2 Z a x0 x1 x2 x3 x4 x5 x6 x7 cx cs fv h0 n0) := by
 refine Ctr.of (plainFor_of_name pn_24) (ef_20_4_2 a (2 : Int32) cx) ?_
 intro p e s m below meth c T0 hx hby hml hown hnm hret hlk hZ X0 e0
 have N0 := Fr.nil n0
 obtain ⟨T690, X690, e690, st690⟩ := getS2 X0 hx hZ hown (host := "") (Or.inl (wd hw 108 rfl)) Via.refl e0 (Sta.ext O.2 B.2.2.1) (g := (mkF m 0 #[vR a, vI 2, vI cx] [])) rfl (hb hby d20_0)
 refine Go.movp st690 (mkF m 3 #[vR a, vI 2, vI cx] [(.int 1)]) rfl ?_
 refine g_if_ne X690 hx (hb hby d20_3) (pc1 := 6) rfl (by decide) (pc2 := 28) (by decide) (fun hc3 => ?_) (fun hc3 => absurd hc3 (by decide))
 refine g_iloadN X690 hx (hb hby d20_28) (pc' := 29) rfl rfl ?_
 refine g_iconst X690 hx (hb hby d20_29) (pc' := 30) rfl (z := 1) rfl ?_
 refine g_ishl X690 hx (hb hby d20_30) (pc' := 31) rfl ?_
 refine Go.cast (show (mkF m 31 #[vR a, vI 2, vI cx] [(.int (shl (2 : Int32) (1 : Int32)))]) = (mkF m 31 #[vR a, vI 2, vI cx] [(.int 4)]) from by rw [show (shl (2 : Int32) (1 : Int32)) = (4 : Int32) from (by decide)]) ?_
 refine g_istoreN X690 hx (hb hby d20_31) (pc' := 32) rfl (Ls' := #[vR a, vI 4, vI cx]) rfl ?_
 refine g_aloadN X690 hx (hb hby d20_32) (pc' := 33) rfl rfl rfl ?_
 refine g_iloadN X690 hx (hb hby d20_33) (pc' := 34) rfl rfl ?_
 refine g_iinc X690 hx (hb hby d20_34) (pc' := 37) rfl rfl (z := 1) rfl (Ls' := #[vR a, vI 5, vI cx]) rfl ?_
 refine g_iloadN X690 hx (hb hby d20_37) (pc' := 38) rfl rfl ?_
 obtain ⟨T691, X691, e691, st691⟩ := getS2 X690 hx hZ hown (host := "") (Or.inl (wd hw 109 rfl)) Via.refl e690 (Sta.ext O.2 B.2.2.2.1) (g := (mkF m 38 #[vR a, vI 5, vI cx] [(.int cx), (.int 4), (.ref a)])) rfl (hb hby d20_38)
 refine Go.movp st691 (mkF m 41 #[vR a, vI 5, vI cx] [(.int 0), (.int cx), (.int 4), (.ref a)]) rfl ?_
 refine g_ishr X691 hx (hb hby d20_41) (pc' := 42) rfl ?_
 refine g_i2b X691 hx (hb hby d20_42) (pc' := 43) rfl ?_
 obtain ⟨T692, h692, L692, X692, e692, N692, W692, V692, st692⟩ := h_bastore X691 hx hZ e691 N0 V1 G1 (j := (4 : Int32)) (i := 4) (x := (byt (shr cx (0 : Int32)))) (hb hby d20_43) (by decide) rfl rfl #[vR a, vI 5, vI cx] []
 have f693 := O.wr W692 G1
 have Z694 : n0 ≤ h692.size := Nat.le_trans Z0 (Keep.of_wr W692).1
 have K695 := (Keep.refl h0 [a]).wr W692 (Or.inl (List.mem_of_getElem? (i := 0) rfl))
 have f696 : Va Z h692 a .byte [(.int x0), (.int x1), (.int x2), (.int x3), (.int (byt (byt (shr cx (0 : Int32))))), (.int x5), (.int x6), (.int x7)] := V692
 have f697 : Va Z h692 a .byte [(.int x0), (.int x1), (.int x2), (.int x3), (.int (byt (shr cx (0 : Int32)))), (.int x5), (.int x6), (.int x7)] := by rw [show (byt (byt (shr cx (0 : Int32)))) = (byt (shr cx (0 : Int32))) from byt_byt _] at f696; exact f696
 refine Go.movp st692 (mkF m 44 #[vR a, vI 5, vI cx] []) rfl ?_
 refine g_aloadN X692 hx (hb hby d20_44) (pc' := 45) rfl rfl rfl ?_
 refine g_iloadN X692 hx (hb hby d20_45) (pc' := 46) rfl rfl ?_
 refine g_iloadN X692 hx (hb hby d20_46) (pc' := 47) rfl rfl ?_
 obtain ⟨T698, X698, e698, st698⟩ := getS2 X692 hx hZ hown (host := "") (Or.inl (wd hw 110 rfl)) Via.refl e692 (Sta.ext f693.2 B.2.2.2.2.1) (g := (mkF m 47 #[vR a, vI 5, vI cx] [(.int cx), (.int 5), (.ref a)])) rfl (hb hby d20_47)
 refine Go.movp st698 (mkF m 50 #[vR a, vI 5, vI cx] [(.int 8), (.int cx), (.int 5), (.ref a)]) rfl ?_
 refine g_ishr X698 hx (hb hby d20_50) (pc' := 51) rfl ?_
 refine g_i2b X698 hx (hb hby d20_51) (pc' := 52) rfl ?_
 obtain ⟨T699, h699, L699, X699, e699, N699, W699, V699, st699⟩ := h_bastore X698 hx hZ e698 N692 f697 G1 (j := (5 : Int32)) (i := 5) (x := (byt (shr cx (8 : Int32)))) (hb hby d20_52) (by decide) rfl rfl #[vR a, vI 5, vI cx] []
 have f700 := f693.wr W699 G1
 have Z701 : n0 ≤ h699.size := Nat.le_trans Z694 (Keep.of_wr W699).1
 have K702 := K695.wr W699 (Or.inl (List.mem_of_getElem? (i := 0) rfl))
 have f703 : Va Z h699 a .byte [(.int x0), (.int x1), (.int x2), (.int x3), (.int (byt (shr cx (0 : Int32)))), (.int (byt (byt (shr cx (8 : Int32))))), (.int x6), (.int x7)] := V699
 have f704 : Va Z h699 a .byte [(.int x0), (.int x1), (.int x2), (.int x3), (.int (byt (shr cx (0 : Int32)))), (.int (byt (shr cx (8 : Int32)))), (.int x6), (.int x7)] := by rw [show (byt (byt (shr cx (8 : Int32)))) = (byt (shr cx (8 : Int32))) from byt_byt _] at f703; exact f703
 refine Go.movp st699 (mkF m 53 #[vR a, vI 5, vI cx] []) rfl ?_
 exact g_return X699 hx hret (hb hby d20_53) N699 hlk (fun v t => endF (by decide) (by decide) v) (by rw [e699]; exact ⟨rfl, K702, f704⟩)
theorem ef_20_4_3 (x0 : Addr) (x1 : Int32) (x2 : Int32) (m : MethodId) : entryFrame m #[(.ref x0), (.int x1), (.int x2)] 3 = mkF m 0 #[.val (.ref x0), .val (.int x1), .val (.int x2)] [] := by first | (simp [entryFrame, mkF, argsToLocals, Value.category]; done) | rfl
def Q20_4_3 (Z : State) (a : Addr) (x0 : Int32) (x1 : Int32) (x2 : Int32) (x3 : Int32) (x4 : Int32) (x5 : Int32) (x6 : Int32) (x7 : Int32) (cx : Int32) (cs : Int32) (fv : Value) (h0 : Heap) (n0 : Nat) : Option Value → Heap → Prop := fun v h => v = none ∧ Keep h0 h [a] ∧ Va Z h a .byte [(.int x0), (.int x1), (.int x2), (.int x3), (.int x4), (.int x5), (.int (byt (shr cx (0 : Int32)))), (.int (byt (shr cx (8 : Int32))))]
theorem rm20_4_3 (l : Launch) (Z : State) (a0 : Array Value) (hw : HW Z a0) (a : Addr) (x0 : Int32) (x1 : Int32) (x2 : Int32) (x3 : Int32) (x4 : Int32) (x5 : Int32) (x6 : Int32) (x7 : Int32) (cx : Int32) (cs : Int32) (fv : Value) (h0 : Heap) (n0 : Nat) (Z0 : n0 ≤ h0.size) (V1 : Va Z h0 a .byte [(.int x0), (.int x1), (.int x2), (.int x3), (.int x4), (.int x5), (.int x6), (.int x7)]) (G1 : n0 ≤ a) (B : Sts Z cs fv) (O : Old Z n0 h0) : Ctr l Z (⟨"java/lang/StringUTF16", "putChar", "([BII)V"⟩ : MethodName) jdk_52_method_4_code 3 none ({ frames := 0, cells := 0, slots := 0, locals := 0 } : Room) #[(.ref a), (.int 3), (.int cx)] h0 n0 (Q20_4_3 Z a x0 x1 x2 x3 x4 x5 x6 x7 cx cs fv h0 n0) := by
 refine Ctr.of (plainFor_of_name pn_24) (ef_20_4_3 a (3 : Int32) cx) ?_
 intro p e s m below meth c T0 hx hby hml hown hnm hret hlk hZ X0 e0
 have N0 := Fr.nil n0
 obtain ⟨T705, X705, e705, st705⟩ := getS2 X0 hx hZ hown (host := "") (Or.inl (wd hw 108 rfl)) Via.refl e0 (Sta.ext O.2 B.2.2.1) (g := (mkF m 0 #[vR a, vI 3, vI cx] [])) rfl (hb hby d20_0)
 refine Go.movp st705 (mkF m 3 #[vR a, vI 3, vI cx] [(.int 1)]) rfl ?_
 refine g_if_ne X705 hx (hb hby d20_3) (pc1 := 6) rfl (by decide) (pc2 := 28) (by decide) (fun hc3 => ?_) (fun hc3 => absurd hc3 (by decide))
 refine g_iloadN X705 hx (hb hby d20_28) (pc' := 29) rfl rfl ?_
 refine g_iconst X705 hx (hb hby d20_29) (pc' := 30) rfl (z := 1) rfl ?_
 refine g_ishl X705 hx (hb hby d20_30) (pc' := 31) rfl ?_
 refine Go.cast (show (mkF m 31 #[vR a, vI 3, vI cx] [(.int (shl (3 : Int32) (1 : Int32)))]) = (mkF m 31 #[vR a, vI 3, vI cx] [(.int 6)]) from by rw [show (shl (3 : Int32) (1 : Int32)) = (6 : Int32) from (by decide)]) ?_
 refine g_istoreN X705 hx (hb hby d20_31) (pc' := 32) rfl (Ls' := #[vR a, vI 6, vI cx]) rfl ?_
 refine g_aloadN X705 hx (hb hby d20_32) (pc' := 33) rfl rfl rfl ?_
 refine g_iloadN X705 hx (hb hby d20_33) (pc' := 34) rfl rfl ?_
 refine g_iinc X705 hx (hb hby d20_34) (pc' := 37) rfl rfl (z := 1) rfl (Ls' := #[vR a, vI 7, vI cx]) rfl ?_
 refine g_iloadN X705 hx (hb hby d20_37) (pc' := 38) rfl rfl ?_
 obtain ⟨T706, X706, e706, st706⟩ := getS2 X705 hx hZ hown (host := "") (Or.inl (wd hw 109 rfl)) Via.refl e705 (Sta.ext O.2 B.2.2.2.1) (g := (mkF m 38 #[vR a, vI 7, vI cx] [(.int cx), (.int 6), (.ref a)])) rfl (hb hby d20_38)
 refine Go.movp st706 (mkF m 41 #[vR a, vI 7, vI cx] [(.int 0), (.int cx), (.int 6), (.ref a)]) rfl ?_
 refine g_ishr X706 hx (hb hby d20_41) (pc' := 42) rfl ?_
 refine g_i2b X706 hx (hb hby d20_42) (pc' := 43) rfl ?_
 obtain ⟨T707, h707, L707, X707, e707, N707, W707, V707, st707⟩ := h_bastore X706 hx hZ e706 N0 V1 G1 (j := (6 : Int32)) (i := 6) (x := (byt (shr cx (0 : Int32)))) (hb hby d20_43) (by decide) rfl rfl #[vR a, vI 7, vI cx] []
 have f708 := O.wr W707 G1
 have Z709 : n0 ≤ h707.size := Nat.le_trans Z0 (Keep.of_wr W707).1
 have K710 := (Keep.refl h0 [a]).wr W707 (Or.inl (List.mem_of_getElem? (i := 0) rfl))
 have f711 : Va Z h707 a .byte [(.int x0), (.int x1), (.int x2), (.int x3), (.int x4), (.int x5), (.int (byt (byt (shr cx (0 : Int32))))), (.int x7)] := V707
 have f712 : Va Z h707 a .byte [(.int x0), (.int x1), (.int x2), (.int x3), (.int x4), (.int x5), (.int (byt (shr cx (0 : Int32)))), (.int x7)] := by rw [show (byt (byt (shr cx (0 : Int32)))) = (byt (shr cx (0 : Int32))) from byt_byt _] at f711; exact f711
 refine Go.movp st707 (mkF m 44 #[vR a, vI 7, vI cx] []) rfl ?_
 refine g_aloadN X707 hx (hb hby d20_44) (pc' := 45) rfl rfl rfl ?_
 refine g_iloadN X707 hx (hb hby d20_45) (pc' := 46) rfl rfl ?_
 refine g_iloadN X707 hx (hb hby d20_46) (pc' := 47) rfl rfl ?_
 obtain ⟨T713, X713, e713, st713⟩ := getS2 X707 hx hZ hown (host := "") (Or.inl (wd hw 110 rfl)) Via.refl e707 (Sta.ext f708.2 B.2.2.2.2.1) (g := (mkF m 47 #[vR a, vI 7, vI cx] [(.int cx), (.int 7), (.ref a)])) rfl (hb hby d20_47)
 refine Go.movp st713 (mkF m 50 #[vR a, vI 7, vI cx] [(.int 8), (.int cx), (.int 7), (.ref a)]) rfl ?_
 refine g_ishr X713 hx (hb hby d20_50) (pc' := 51) rfl ?_
 refine g_i2b X713 hx (hb hby d20_51) (pc' := 52) rfl ?_
 obtain ⟨T714, h714, L714, X714, e714, N714, W714, V714, st714⟩ := h_bastore X713 hx hZ e713 N707 f712 G1 (j := (7 : Int32)) (i := 7) (x := (byt (shr cx (8 : Int32)))) (hb hby d20_52) (by decide) rfl rfl #[vR a, vI 7, vI cx] []
 have f715 := f708.wr W714 G1
 have Z716 : n0 ≤ h714.size := Nat.le_trans Z709 (Keep.of_wr W714).1
 have K717 := K710.wr W714 (Or.inl (List.mem_of_getElem? (i := 0) rfl))
 have f718 : Va Z h714 a .byte [(.int x0), (.int x1), (.int x2), (.int x3), (.int x4), (.int x5), (.int (byt (shr cx (0 : Int32)))), (.int (byt (byt (shr cx (8 : Int32)))))] := V714
 have f719 : Va Z h714 a .byte [(.int x0), (.int x1), (.int x2), (.int x3), (.int x4), (.int x5), (.int (byt (shr cx (0 : Int32)))), (.int (byt (shr cx (8 : Int32))))] := by rw [show (byt (byt (shr cx (8 : Int32)))) = (byt (shr cx (8 : Int32))) from byt_byt _] at f718; exact f718
 refine Go.movp st714 (mkF m 53 #[vR a, vI 7, vI cx] []) rfl ?_
 exact g_return X714 hx hret (hb hby d20_53) N714 hlk (fun v t => endF (by decide) (by decide) v) (by rw [e714]; exact ⟨rfl, K717, f719⟩)
theorem ef_17_4 (x0 : Addr) (x1 : Int32) (x2 : Int32) (m : MethodId) : entryFrame m #[(.ref x0), (.int x1), (.int x2)] 5 = mkF m 0 #[.val (.ref x0), .val (.int x1), .val (.int x2), .unset, .unset] [] := by first | (simp [entryFrame, mkF, argsToLocals, Value.category]; done) | rfl
def Q17_4 (Z : State) (a : Addr) (c0 : Int32) (c1 : Int32) (c2 : Int32) (c3 : Int32) (cs : Int32) (fv : Value) (h0 : Heap) (n0 : Nat) : Option Value → Heap → Prop := fun v h => ∃ r, v = some (.ref r) ∧ n0 ≤ r ∧ h0.size ≤ r ∧ Keep h0 h [] ∧ Va Z h r .byte [(.int (byt (shr c0 (0 : Int32)))), (.int (byt (shr c0 (8 : Int32)))), (.int (byt (shr c1 (0 : Int32)))), (.int (byt (shr c1 (8 : Int32)))), (.int (byt (shr c2 (0 : Int32)))), (.int (byt (shr c2 (8 : Int32)))), (.int (byt (shr c3 (0 : Int32)))), (.int (byt (shr c3 (8 : Int32))))] ∧ Exa Z h r "[B"
theorem rm17_4 (l : Launch) (Z : State) (a0 : Array Value) (hw : HW Z a0) (a : Addr) (c0 : Int32) (c1 : Int32) (c2 : Int32) (c3 : Int32) (cs : Int32) (fv : Value) (h0 : Heap) (n0 : Nat) (Z0 : n0 ≤ h0.size) (V1 : Va Z h0 a .char [(.int c0), (.int c1), (.int c2), (.int c3)]) (B : Sts Z cs fv) (O : Old Z n0 h0) : Ctr l Z (⟨"java/lang/StringUTF16", "toBytes", "([CII)[B"⟩ : MethodName) jdk_52_method_14_code 5 (some (.array .byte)) ({ frames := 2, cells := 1, slots := 8, locals := 24 } : Room) #[(.ref a), (.int 0), (.int 4)] h0 n0 (Q17_4 Z a c0 c1 c2 c3 cs fv h0 n0) := by
 refine Ctr.of (plainFor_of_name pn_24) (ef_17_4 a (0 : Int32) (4 : Int32)) ?_
 intro p e s m below meth c T0 hx hby hml hown hnm hret hlk hZ X0 e0
 have N0 := Fr.nil n0
 refine g_iloadN X0 hx (hb hby d17_0) (pc' := 1) rfl rfl ?_
 obtain ⟨v720, T720, h720, L720, X720, e720, N720, q720, st720⟩ := h_static X0 hx (W := 0) (Ls := #[vR a, vI 0, vI 4, .unset, .unset]) (argsL := [(.int 4)]) (rest := []) hZ e0 N0 hml hown (rm18_4 l Z a0 hw h0 n0 Z0) (wd hw 98 rfl) (wd hw 99 rfl) (wd hw 17 rfl) (wd hw 100 rfl) (by decide) pd__I__B rfl rfl (hb hby d17_1) rfl (by decide) (by decide) (by decide) (by decide)
 obtain ⟨r720, rfl, ge720, sz720, K720, V720, A720⟩ := q720
 have f721 := O.keep K720 all0
 have f722 := V1.keep K720 nin0
 have Z723 : n0 ≤ h720.size := Nat.le_trans Z0 K720.1
 have K724 := (Keep.refl h0 []).trans K720 all0
 have ne725 : a ≠ r720 := Nat.ne_of_lt (Nat.lt_of_lt_of_le V1.lt sz720)
 have sz726 : h0.size ≤ r720 := Nat.le_trans (Keep.refl h0 []).1 sz720
 refine Go.movp st720 (mkF m 4 #[vR a, vI 0, vI 4, .unset, .unset] [(.ref r720)]) rfl ?_
 refine g_astoreN X720 hx (hb hby d17_4) (pc' := 5) rfl rfl (Ls' := #[vR a, vI 0, vI 4, vR r720, .unset]) rfl ?_
 refine g_iconst X720 hx (hb hby d17_5) (pc' := 6) rfl (z := 0) rfl ?_
 refine g_istore X720 hx (hb hby d17_6) (pc' := 8) rfl (Ls' := #[vR a, vI 0, vI 4, vR r720, vI 0]) rfl ?_
 refine g_iload X720 hx (hb hby d17_8) (pc' := 10) rfl rfl ?_
 refine g_iloadN X720 hx (hb hby d17_10) (pc' := 11) rfl rfl ?_
 refine g_icmp_ge X720 hx (hb hby d17_11) (pc1 := 14) rfl (by decide) (pc2 := 32) (by decide) (fun hc11 => absurd (by decide) hc11) (fun hc11 => ?_)
 refine g_aloadN X720 hx (hb hby d17_14) (pc' := 15) rfl rfl rfl ?_
 refine g_iload X720 hx (hb hby d17_15) (pc' := 17) rfl rfl ?_
 refine g_aloadN X720 hx (hb hby d17_17) (pc' := 18) rfl rfl rfl ?_
 refine g_iloadN X720 hx (hb hby d17_18) (pc' := 19) rfl rfl ?_
 refine g_caload X720 hx hZ e720 f722 (i := 0) (v := (.int c0)) (hb hby d17_19) (pc' := 20) rfl (by decide) rfl rfl ?_
 obtain ⟨v727, T727, h727, L727, X727, e727, N727, q727, st727⟩ := h_static X720 hx (W := 0) (Ls := #[vR a, vI 0, vI 4, vR r720, vI 0]) (argsL := [(.ref r720), (.int 0), (.int c0)]) (rest := []) hZ e720 N720 hml hown (rm20_4_0 l Z a0 hw r720 (0 : Int32) (0 : Int32) (0 : Int32) (0 : Int32) (0 : Int32) (0 : Int32) (0 : Int32) (0 : Int32) c0 cs fv h720 n0 Z723 V720 ge720 B f721) (wd hw 105 rfl) (wd hw 106 rfl) (wd hw 17 rfl) (wd hw 107 rfl) (by decide) pd___BII_V rfl rfl (hb hby d17_20) rfl (by decide) (by decide) (by decide) (by decide)
 obtain ⟨rfl, K727, V727⟩ := q727
 have f728 := f721.keep K727 (allS ge720 all0)
 have f729 := f722.keep K727 (ninS ne725 nin0)
 have f730 := A720.keep K727
 have Z731 : n0 ≤ h727.size := Nat.le_trans Z723 K727.1
 have K732 := K724.trans K727 (allS (Or.inr sz726) all0)
 refine Go.movp st727 (mkF m 23 #[vR a, vI 0, vI 4, vR r720, vI 0] []) rfl ?_
 refine g_iinc X727 hx (hb hby d17_23) (pc' := 26) rfl rfl (z := 1) rfl (Ls' := #[vR a, vI 1, vI 4, vR r720, vI 0]) rfl ?_
 refine g_iinc X727 hx (hb hby d17_26) (pc' := 29) rfl rfl (z := 1) rfl (Ls' := #[vR a, vI 1, vI 4, vR r720, vI 1]) rfl ?_
 refine g_goto X727 hx (hb hby d17_29) (by decide) (pc' := 8) (by decide) ?_
 refine g_iload X727 hx (hb hby d17_8) (pc' := 10) rfl rfl ?_
 refine g_iloadN X727 hx (hb hby d17_10) (pc' := 11) rfl rfl ?_
 refine g_icmp_ge X727 hx (hb hby d17_11) (pc1 := 14) rfl (by decide) (pc2 := 32) (by decide) (fun hc11_1 => absurd (by decide) hc11_1) (fun hc11_1 => ?_)
 refine g_aloadN X727 hx (hb hby d17_14) (pc' := 15) rfl rfl rfl ?_
 refine g_iload X727 hx (hb hby d17_15) (pc' := 17) rfl rfl ?_
 refine g_aloadN X727 hx (hb hby d17_17) (pc' := 18) rfl rfl rfl ?_
 refine g_iloadN X727 hx (hb hby d17_18) (pc' := 19) rfl rfl ?_
 refine g_caload X727 hx hZ e727 f729 (i := 1) (v := (.int c1)) (hb hby d17_19) (pc' := 20) rfl (by decide) rfl rfl ?_
 obtain ⟨v733, T733, h733, L733, X733, e733, N733, q733, st733⟩ := h_static X727 hx (W := 0) (Ls := #[vR a, vI 1, vI 4, vR r720, vI 1]) (argsL := [(.ref r720), (.int 1), (.int c1)]) (rest := []) hZ e727 N727 hml hown (rm20_4_1 l Z a0 hw r720 (byt (shr c0 (0 : Int32))) (byt (shr c0 (8 : Int32))) (0 : Int32) (0 : Int32) (0 : Int32) (0 : Int32) (0 : Int32) (0 : Int32) c1 cs fv h727 n0 Z731 V727 ge720 B f728) (wd hw 105 rfl) (wd hw 106 rfl) (wd hw 17 rfl) (wd hw 107 rfl) (by decide) pd___BII_V rfl rfl (hb hby d17_20) rfl (by decide) (by decide) (by decide) (by decide)
 obtain ⟨rfl, K733, V733⟩ := q733
 have f734 := f728.keep K733 (allS ge720 all0)
 have f735 := f729.keep K733 (ninS ne725 nin0)
 have f736 := f730.keep K733
 have Z737 : n0 ≤ h733.size := Nat.le_trans Z731 K733.1
 have K738 := K732.trans K733 (allS (Or.inr sz726) all0)
 refine Go.movp st733 (mkF m 23 #[vR a, vI 1, vI 4, vR r720, vI 1] []) rfl ?_
 refine g_iinc X733 hx (hb hby d17_23) (pc' := 26) rfl rfl (z := 1) rfl (Ls' := #[vR a, vI 2, vI 4, vR r720, vI 1]) rfl ?_
 refine g_iinc X733 hx (hb hby d17_26) (pc' := 29) rfl rfl (z := 1) rfl (Ls' := #[vR a, vI 2, vI 4, vR r720, vI 2]) rfl ?_
 refine g_goto X733 hx (hb hby d17_29) (by decide) (pc' := 8) (by decide) ?_
 refine g_iload X733 hx (hb hby d17_8) (pc' := 10) rfl rfl ?_
 refine g_iloadN X733 hx (hb hby d17_10) (pc' := 11) rfl rfl ?_
 refine g_icmp_ge X733 hx (hb hby d17_11) (pc1 := 14) rfl (by decide) (pc2 := 32) (by decide) (fun hc11_2 => absurd (by decide) hc11_2) (fun hc11_2 => ?_)
 refine g_aloadN X733 hx (hb hby d17_14) (pc' := 15) rfl rfl rfl ?_
 refine g_iload X733 hx (hb hby d17_15) (pc' := 17) rfl rfl ?_
 refine g_aloadN X733 hx (hb hby d17_17) (pc' := 18) rfl rfl rfl ?_
 refine g_iloadN X733 hx (hb hby d17_18) (pc' := 19) rfl rfl ?_
 refine g_caload X733 hx hZ e733 f735 (i := 2) (v := (.int c2)) (hb hby d17_19) (pc' := 20) rfl (by decide) rfl rfl ?_
 obtain ⟨v739, T739, h739, L739, X739, e739, N739, q739, st739⟩ := h_static X733 hx (W := 0) (Ls := #[vR a, vI 2, vI 4, vR r720, vI 2]) (argsL := [(.ref r720), (.int 2), (.int c2)]) (rest := []) hZ e733 N733 hml hown (rm20_4_2 l Z a0 hw r720 (byt (shr c0 (0 : Int32))) (byt (shr c0 (8 : Int32))) (byt (shr c1 (0 : Int32))) (byt (shr c1 (8 : Int32))) (0 : Int32) (0 : Int32) (0 : Int32) (0 : Int32) c2 cs fv h733 n0 Z737 V733 ge720 B f734) (wd hw 105 rfl) (wd hw 106 rfl) (wd hw 17 rfl) (wd hw 107 rfl) (by decide) pd___BII_V rfl rfl (hb hby d17_20) rfl (by decide) (by decide) (by decide) (by decide)
 obtain ⟨rfl, K739, V739⟩ := q739
 have f740 := f734.keep K739 (allS ge720 all0)
 have f741 := f735.keep K739 (ninS ne725 nin0)
 have f742 := f736.keep K739
 have Z743 : n0 ≤ h739.size := Nat.le_trans Z737 K739.1
 have K744 := K738.trans K739 (allS (Or.inr sz726) all0)
 refine Go.movp st739 (mkF m 23 #[vR a, vI 2, vI 4, vR r720, vI 2] []) rfl ?_
 refine g_iinc X739 hx (hb hby d17_23) (pc' := 26) rfl rfl (z := 1) rfl (Ls' := #[vR a, vI 3, vI 4, vR r720, vI 2]) rfl ?_
 refine g_iinc X739 hx (hb hby d17_26) (pc' := 29) rfl rfl (z := 1) rfl (Ls' := #[vR a, vI 3, vI 4, vR r720, vI 3]) rfl ?_
 refine g_goto X739 hx (hb hby d17_29) (by decide) (pc' := 8) (by decide) ?_
 refine g_iload X739 hx (hb hby d17_8) (pc' := 10) rfl rfl ?_
 refine g_iloadN X739 hx (hb hby d17_10) (pc' := 11) rfl rfl ?_
 refine g_icmp_ge X739 hx (hb hby d17_11) (pc1 := 14) rfl (by decide) (pc2 := 32) (by decide) (fun hc11_3 => absurd (by decide) hc11_3) (fun hc11_3 => ?_)
 refine g_aloadN X739 hx (hb hby d17_14) (pc' := 15) rfl rfl rfl ?_
 refine g_iload X739 hx (hb hby d17_15) (pc' := 17) rfl rfl ?_
 refine g_aloadN X739 hx (hb hby d17_17) (pc' := 18) rfl rfl rfl ?_
 refine g_iloadN X739 hx (hb hby d17_18) (pc' := 19) rfl rfl ?_
 refine g_caload X739 hx hZ e739 f741 (i := 3) (v := (.int c3)) (hb hby d17_19) (pc' := 20) rfl (by decide) rfl rfl ?_
 obtain ⟨v745, T745, h745, L745, X745, e745, N745, q745, st745⟩ := h_static X739 hx (W := 0) (Ls := #[vR a, vI 3, vI 4, vR r720, vI 3]) (argsL := [(.ref r720), (.int 3), (.int c3)]) (rest := []) hZ e739 N739 hml hown (rm20_4_3 l Z a0 hw r720 (byt (shr c0 (0 : Int32))) (byt (shr c0 (8 : Int32))) (byt (shr c1 (0 : Int32))) (byt (shr c1 (8 : Int32))) (byt (shr c2 (0 : Int32))) (byt (shr c2 (8 : Int32))) (0 : Int32) (0 : Int32) c3 cs fv h739 n0 Z743 V739 ge720 B f740) (wd hw 105 rfl) (wd hw 106 rfl) (wd hw 17 rfl) (wd hw 107 rfl) (by decide) pd___BII_V rfl rfl (hb hby d17_20) rfl (by decide) (by decide) (by decide) (by decide)
 obtain ⟨rfl, K745, V745⟩ := q745
 have f746 := f740.keep K745 (allS ge720 all0)
 have f747 := f741.keep K745 (ninS ne725 nin0)
 have f748 := f742.keep K745
 have Z749 : n0 ≤ h745.size := Nat.le_trans Z743 K745.1
 have K750 := K744.trans K745 (allS (Or.inr sz726) all0)
 refine Go.movp st745 (mkF m 23 #[vR a, vI 3, vI 4, vR r720, vI 3] []) rfl ?_
 refine g_iinc X745 hx (hb hby d17_23) (pc' := 26) rfl rfl (z := 1) rfl (Ls' := #[vR a, vI 4, vI 4, vR r720, vI 3]) rfl ?_
 refine g_iinc X745 hx (hb hby d17_26) (pc' := 29) rfl rfl (z := 1) rfl (Ls' := #[vR a, vI 4, vI 4, vR r720, vI 4]) rfl ?_
 refine g_goto X745 hx (hb hby d17_29) (by decide) (pc' := 8) (by decide) ?_
 refine g_iload X745 hx (hb hby d17_8) (pc' := 10) rfl rfl ?_
 refine g_iloadN X745 hx (hb hby d17_10) (pc' := 11) rfl rfl ?_
 refine g_icmp_ge X745 hx (hb hby d17_11) (pc1 := 14) rfl (by decide) (pc2 := 32) (by decide) (fun hc11_4 => ?_) (fun hc11_4 => absurd hc11_4 (by decide))
 refine g_aloadN X745 hx (hb hby d17_32) (pc' := 33) rfl rfl rfl ?_
 exact g_areturn X745 hx rfl rfl hret (hb hby d17_33) N745 hlk (fun v t => endF (by decide) (by decide) v) (by rw [e745]; exact ⟨_, rfl, ge720, sz726, K750, V745, f748⟩)
theorem ef_5_4 (x0 : Addr) (x1 : Int32) (x2 : Addr) (x3 : Int32) (x4 : Int32) (m : MethodId) : entryFrame m #[(.ref x0), (.int x1), (.ref x2), (.int x3), (.int x4)] 7 = mkF m 0 #[.val (.ref x0), .val (.int x1), .val (.ref x2), .val (.int x3), .val (.int x4), .unset, .unset] [] := by first | (simp [entryFrame, mkF, argsToLocals, Value.category]; done) | rfl
def Q5_4 (Z : State) (a : Addr) (b : Addr) (c0 : Int32) (c1 : Int32) (c2 : Int32) (c3 : Int32) (h0 : Heap) (n0 : Nat) : Option Value → Heap → Prop := fun v h => ∃ k : Int32, v = some (.int k) ∧ Keep h0 h [b] ∧ ((k = (0 : Int32) ∧ 255 < c0) ∨ (k = (1 : Int32) ∧ 255 < c1) ∨ (k = (2 : Int32) ∧ 255 < c2) ∨ (k = (3 : Int32) ∧ 255 < c3) ∨ (k = (4 : Int32) ∧ (∀ c ∈ [c0, c1, c2, c3], ¬ 255 < c) ∧ Va Z h b .byte [(.int (byt c0)), (.int (byt c1)), (.int (byt c2)), (.int (byt c3))]))
theorem rm5_4 (l : Launch) (Z : State) (a0 : Array Value) (hw : HW Z a0) (a : Addr) (b : Addr) (c0 : Int32) (c1 : Int32) (c2 : Int32) (c3 : Int32) (h0 : Heap) (n0 : Nat) (Z0 : n0 ≤ h0.size) (V1 : Va Z h0 a .char [(.int c0), (.int c1), (.int c2), (.int c3)]) (V2 : Va Z h0 b .byte [(.int 0), (.int 0), (.int 0), (.int 0)]) (G2 : n0 ≤ b) (ne1 : a ≠ b) : Ctr l Z (⟨"java/lang/StringUTF16", "compress", "([CI[BII)I"⟩ : MethodName) jdk_52_method_21_code 7 (some .int) ({ frames := 0, cells := 0, slots := 0, locals := 0 } : Room) #[(.ref a), (.int 0), (.ref b), (.int 0), (.int 4)] h0 n0 (Q5_4 Z a b c0 c1 c2 c3 h0 n0) := by
 refine Ctr.of (plainFor_of_name pn_24) (ef_5_4 a (0 : Int32) b (0 : Int32) (4 : Int32)) ?_
 intro p e s m below meth c T0 hx hby hml hown hnm hret hlk hZ X0 e0
 have N0 := Fr.nil n0
 refine g_iconst X0 hx (hb hby d5_0) (pc' := 1) rfl (z := 0) rfl ?_
 refine g_istore X0 hx (hb hby d5_1) (pc' := 3) rfl (Ls' := #[vR a, vI 0, vR b, vI 0, vI 4, vI 0, .unset]) rfl ?_
 refine g_iload X0 hx (hb hby d5_3) (pc' := 5) rfl rfl ?_
 refine g_iload X0 hx (hb hby d5_5) (pc' := 7) rfl rfl ?_
 refine g_icmp_ge X0 hx (hb hby d5_7) (pc1 := 10) rfl (by decide) (pc2 := 44) (by decide) (fun hc7 => absurd (by decide) hc7) (fun hc7 => ?_)
 refine g_aloadN X0 hx (hb hby d5_10) (pc' := 11) rfl rfl rfl ?_
 refine g_iloadN X0 hx (hb hby d5_11) (pc' := 12) rfl rfl ?_
 refine g_caload X0 hx hZ e0 V1 (i := 0) (v := (.int c0)) (hb hby d5_12) (pc' := 13) rfl (by decide) rfl rfl ?_
 refine g_istore X0 hx (hb hby d5_13) (pc' := 15) rfl (Ls' := #[vR a, vI 0, vR b, vI 0, vI 4, vI 0, vI c0]) rfl ?_
 refine g_iload X0 hx (hb hby d5_15) (pc' := 17) rfl rfl ?_
 refine g_sipush X0 hx (hb hby d5_17) (pc' := 20) rfl (z := 255) rfl ?_
 refine g_icmp_le X0 hx (hb hby d5_20) (pc1 := 23) rfl (by decide) (pc2 := 26) (by decide) (fun hc20 => ?_) (fun hc20 => ?_)
 ·
  refine g_aloadN X0 hx (hb hby d5_26) (pc' := 27) rfl rfl rfl ?_
  refine g_iloadN X0 hx (hb hby d5_27) (pc' := 28) rfl rfl ?_
  refine g_iload X0 hx (hb hby d5_28) (pc' := 30) rfl rfl ?_
  refine g_i2b X0 hx (hb hby d5_30) (pc' := 31) rfl ?_
  obtain ⟨T751, h751, L751, X751, e751, N751, W751, V751, st751⟩ := h_bastore X0 hx hZ e0 N0 V2 G2 (j := (0 : Int32)) (i := 0) (x := (byt c0)) (hb hby d5_31) (by decide) rfl rfl #[vR a, vI 0, vR b, vI 0, vI 4, vI 0, vI c0] []
  have f752 := V1.other W751 ne1
  have Z753 : n0 ≤ h751.size := Nat.le_trans Z0 (Keep.of_wr W751).1
  have K754 := (Keep.refl h0 [b]).wr W751 (Or.inl (List.mem_of_getElem? (i := 0) rfl))
  have f755 : Va Z h751 b .byte [(.int (byt (byt c0))), (.int 0), (.int 0), (.int 0)] := V751
  have f756 : Va Z h751 b .byte [(.int (byt c0)), (.int 0), (.int 0), (.int 0)] := by rw [show (byt (byt c0)) = (byt c0) from byt_byt _] at f755; exact f755
  refine Go.movp st751 (mkF m 32 #[vR a, vI 0, vR b, vI 0, vI 4, vI 0, vI c0] []) rfl ?_
  refine g_iinc X751 hx (hb hby d5_32) (pc' := 35) rfl rfl (z := 1) rfl (Ls' := #[vR a, vI 1, vR b, vI 0, vI 4, vI 0, vI c0]) rfl ?_
  refine g_iinc X751 hx (hb hby d5_35) (pc' := 38) rfl rfl (z := 1) rfl (Ls' := #[vR a, vI 1, vR b, vI 1, vI 4, vI 0, vI c0]) rfl ?_
  refine g_iinc X751 hx (hb hby d5_38) (pc' := 41) rfl rfl (z := 1) rfl (Ls' := #[vR a, vI 1, vR b, vI 1, vI 4, vI 1, vI c0]) rfl ?_
  refine g_goto X751 hx (hb hby d5_41) (by decide) (pc' := 3) (by decide) ?_
  refine g_iload X751 hx (hb hby d5_3) (pc' := 5) rfl rfl ?_
  refine g_iload X751 hx (hb hby d5_5) (pc' := 7) rfl rfl ?_
  refine g_icmp_ge X751 hx (hb hby d5_7) (pc1 := 10) rfl (by decide) (pc2 := 44) (by decide) (fun hc7_1 => absurd (by decide) hc7_1) (fun hc7_1 => ?_)
  refine g_aloadN X751 hx (hb hby d5_10) (pc' := 11) rfl rfl rfl ?_
  refine g_iloadN X751 hx (hb hby d5_11) (pc' := 12) rfl rfl ?_
  refine g_caload X751 hx hZ e751 f752 (i := 1) (v := (.int c1)) (hb hby d5_12) (pc' := 13) rfl (by decide) rfl rfl ?_
  refine g_istore X751 hx (hb hby d5_13) (pc' := 15) rfl (Ls' := #[vR a, vI 1, vR b, vI 1, vI 4, vI 1, vI c1]) rfl ?_
  refine g_iload X751 hx (hb hby d5_15) (pc' := 17) rfl rfl ?_
  refine g_sipush X751 hx (hb hby d5_17) (pc' := 20) rfl (z := 255) rfl ?_
  refine g_icmp_le X751 hx (hb hby d5_20) (pc1 := 23) rfl (by decide) (pc2 := 26) (by decide) (fun hc20_1 => ?_) (fun hc20_1 => ?_)
  ·
   refine g_aloadN X751 hx (hb hby d5_26) (pc' := 27) rfl rfl rfl ?_
   refine g_iloadN X751 hx (hb hby d5_27) (pc' := 28) rfl rfl ?_
   refine g_iload X751 hx (hb hby d5_28) (pc' := 30) rfl rfl ?_
   refine g_i2b X751 hx (hb hby d5_30) (pc' := 31) rfl ?_
   obtain ⟨T757, h757, L757, X757, e757, N757, W757, V757, st757⟩ := h_bastore X751 hx hZ e751 N751 f756 G2 (j := (1 : Int32)) (i := 1) (x := (byt c1)) (hb hby d5_31) (by decide) rfl rfl #[vR a, vI 1, vR b, vI 1, vI 4, vI 1, vI c1] []
   have f758 := f752.other W757 ne1
   have Z759 : n0 ≤ h757.size := Nat.le_trans Z753 (Keep.of_wr W757).1
   have K760 := K754.wr W757 (Or.inl (List.mem_of_getElem? (i := 0) rfl))
   have f761 : Va Z h757 b .byte [(.int (byt c0)), (.int (byt (byt c1))), (.int 0), (.int 0)] := V757
   have f762 : Va Z h757 b .byte [(.int (byt c0)), (.int (byt c1)), (.int 0), (.int 0)] := by rw [show (byt (byt c1)) = (byt c1) from byt_byt _] at f761; exact f761
   refine Go.movp st757 (mkF m 32 #[vR a, vI 1, vR b, vI 1, vI 4, vI 1, vI c1] []) rfl ?_
   refine g_iinc X757 hx (hb hby d5_32) (pc' := 35) rfl rfl (z := 1) rfl (Ls' := #[vR a, vI 2, vR b, vI 1, vI 4, vI 1, vI c1]) rfl ?_
   refine g_iinc X757 hx (hb hby d5_35) (pc' := 38) rfl rfl (z := 1) rfl (Ls' := #[vR a, vI 2, vR b, vI 2, vI 4, vI 1, vI c1]) rfl ?_
   refine g_iinc X757 hx (hb hby d5_38) (pc' := 41) rfl rfl (z := 1) rfl (Ls' := #[vR a, vI 2, vR b, vI 2, vI 4, vI 2, vI c1]) rfl ?_
   refine g_goto X757 hx (hb hby d5_41) (by decide) (pc' := 3) (by decide) ?_
   refine g_iload X757 hx (hb hby d5_3) (pc' := 5) rfl rfl ?_
   refine g_iload X757 hx (hb hby d5_5) (pc' := 7) rfl rfl ?_
   refine g_icmp_ge X757 hx (hb hby d5_7) (pc1 := 10) rfl (by decide) (pc2 := 44) (by decide) (fun hc7_2 => absurd (by decide) hc7_2) (fun hc7_2 => ?_)
   refine g_aloadN X757 hx (hb hby d5_10) (pc' := 11) rfl rfl rfl ?_
   refine g_iloadN X757 hx (hb hby d5_11) (pc' := 12) rfl rfl ?_
   refine g_caload X757 hx hZ e757 f758 (i := 2) (v := (.int c2)) (hb hby d5_12) (pc' := 13) rfl (by decide) rfl rfl ?_
   refine g_istore X757 hx (hb hby d5_13) (pc' := 15) rfl (Ls' := #[vR a, vI 2, vR b, vI 2, vI 4, vI 2, vI c2]) rfl ?_
   refine g_iload X757 hx (hb hby d5_15) (pc' := 17) rfl rfl ?_
   refine g_sipush X757 hx (hb hby d5_17) (pc' := 20) rfl (z := 255) rfl ?_
   refine g_icmp_le X757 hx (hb hby d5_20) (pc1 := 23) rfl (by decide) (pc2 := 26) (by decide) (fun hc20_2 => ?_) (fun hc20_2 => ?_)
   ·
    refine g_aloadN X757 hx (hb hby d5_26) (pc' := 27) rfl rfl rfl ?_
    refine g_iloadN X757 hx (hb hby d5_27) (pc' := 28) rfl rfl ?_
    refine g_iload X757 hx (hb hby d5_28) (pc' := 30) rfl rfl ?_
    refine g_i2b X757 hx (hb hby d5_30) (pc' := 31) rfl ?_
    obtain ⟨T763, h763, L763, X763, e763, N763, W763, V763, st763⟩ := h_bastore X757 hx hZ e757 N757 f762 G2 (j := (2 : Int32)) (i := 2) (x := (byt c2)) (hb hby d5_31) (by decide) rfl rfl #[vR a, vI 2, vR b, vI 2, vI 4, vI 2, vI c2] []
    have f764 := f758.other W763 ne1
    have Z765 : n0 ≤ h763.size := Nat.le_trans Z759 (Keep.of_wr W763).1
    have K766 := K760.wr W763 (Or.inl (List.mem_of_getElem? (i := 0) rfl))
    have f767 : Va Z h763 b .byte [(.int (byt c0)), (.int (byt c1)), (.int (byt (byt c2))), (.int 0)] := V763
    have f768 : Va Z h763 b .byte [(.int (byt c0)), (.int (byt c1)), (.int (byt c2)), (.int 0)] := by rw [show (byt (byt c2)) = (byt c2) from byt_byt _] at f767; exact f767
    refine Go.movp st763 (mkF m 32 #[vR a, vI 2, vR b, vI 2, vI 4, vI 2, vI c2] []) rfl ?_
    refine g_iinc X763 hx (hb hby d5_32) (pc' := 35) rfl rfl (z := 1) rfl (Ls' := #[vR a, vI 3, vR b, vI 2, vI 4, vI 2, vI c2]) rfl ?_
    refine g_iinc X763 hx (hb hby d5_35) (pc' := 38) rfl rfl (z := 1) rfl (Ls' := #[vR a, vI 3, vR b, vI 3, vI 4, vI 2, vI c2]) rfl ?_
    refine g_iinc X763 hx (hb hby d5_38) (pc' := 41) rfl rfl (z := 1) rfl (Ls' := #[vR a, vI 3, vR b, vI 3, vI 4, vI 3, vI c2]) rfl ?_
    refine g_goto X763 hx (hb hby d5_41) (by decide) (pc' := 3) (by decide) ?_
    refine g_iload X763 hx (hb hby d5_3) (pc' := 5) rfl rfl ?_
    refine g_iload X763 hx (hb hby d5_5) (pc' := 7) rfl rfl ?_
    refine g_icmp_ge X763 hx (hb hby d5_7) (pc1 := 10) rfl (by decide) (pc2 := 44) (by decide) (fun hc7_3 => absurd (by decide) hc7_3) (fun hc7_3 => ?_)
    refine g_aloadN X763 hx (hb hby d5_10) (pc' := 11) rfl rfl rfl ?_
    refine g_iloadN X763 hx (hb hby d5_11) (pc' := 12) rfl rfl ?_
    refine g_caload X763 hx hZ e763 f764 (i := 3) (v := (.int c3)) (hb hby d5_12) (pc' := 13) rfl (by decide) rfl rfl ?_
    refine g_istore X763 hx (hb hby d5_13) (pc' := 15) rfl (Ls' := #[vR a, vI 3, vR b, vI 3, vI 4, vI 3, vI c3]) rfl ?_
    refine g_iload X763 hx (hb hby d5_15) (pc' := 17) rfl rfl ?_
    refine g_sipush X763 hx (hb hby d5_17) (pc' := 20) rfl (z := 255) rfl ?_
    refine g_icmp_le X763 hx (hb hby d5_20) (pc1 := 23) rfl (by decide) (pc2 := 26) (by decide) (fun hc20_3 => ?_) (fun hc20_3 => ?_)
    ·
     refine g_aloadN X763 hx (hb hby d5_26) (pc' := 27) rfl rfl rfl ?_
     refine g_iloadN X763 hx (hb hby d5_27) (pc' := 28) rfl rfl ?_
     refine g_iload X763 hx (hb hby d5_28) (pc' := 30) rfl rfl ?_
     refine g_i2b X763 hx (hb hby d5_30) (pc' := 31) rfl ?_
     obtain ⟨T769, h769, L769, X769, e769, N769, W769, V769, st769⟩ := h_bastore X763 hx hZ e763 N763 f768 G2 (j := (3 : Int32)) (i := 3) (x := (byt c3)) (hb hby d5_31) (by decide) rfl rfl #[vR a, vI 3, vR b, vI 3, vI 4, vI 3, vI c3] []
     have f770 := f764.other W769 ne1
     have Z771 : n0 ≤ h769.size := Nat.le_trans Z765 (Keep.of_wr W769).1
     have K772 := K766.wr W769 (Or.inl (List.mem_of_getElem? (i := 0) rfl))
     have f773 : Va Z h769 b .byte [(.int (byt c0)), (.int (byt c1)), (.int (byt c2)), (.int (byt (byt c3)))] := V769
     have f774 : Va Z h769 b .byte [(.int (byt c0)), (.int (byt c1)), (.int (byt c2)), (.int (byt c3))] := by rw [show (byt (byt c3)) = (byt c3) from byt_byt _] at f773; exact f773
     refine Go.movp st769 (mkF m 32 #[vR a, vI 3, vR b, vI 3, vI 4, vI 3, vI c3] []) rfl ?_
     refine g_iinc X769 hx (hb hby d5_32) (pc' := 35) rfl rfl (z := 1) rfl (Ls' := #[vR a, vI 4, vR b, vI 3, vI 4, vI 3, vI c3]) rfl ?_
     refine g_iinc X769 hx (hb hby d5_35) (pc' := 38) rfl rfl (z := 1) rfl (Ls' := #[vR a, vI 4, vR b, vI 4, vI 4, vI 3, vI c3]) rfl ?_
     refine g_iinc X769 hx (hb hby d5_38) (pc' := 41) rfl rfl (z := 1) rfl (Ls' := #[vR a, vI 4, vR b, vI 4, vI 4, vI 4, vI c3]) rfl ?_
     refine g_goto X769 hx (hb hby d5_41) (by decide) (pc' := 3) (by decide) ?_
     refine g_iload X769 hx (hb hby d5_3) (pc' := 5) rfl rfl ?_
     refine g_iload X769 hx (hb hby d5_5) (pc' := 7) rfl rfl ?_
     refine g_icmp_ge X769 hx (hb hby d5_7) (pc1 := 10) rfl (by decide) (pc2 := 44) (by decide) (fun hc7_4 => ?_) (fun hc7_4 => absurd hc7_4 (by decide))
     refine g_iload X769 hx (hb hby d5_44) (pc' := 46) rfl rfl ?_
     exact g_ireturn X769 hx hret (hb hby d5_46) N769 hlk (fun v t => endF (by decide) (by decide) v) (by rw [e769]; exact ⟨_, rfl, K772, Or.inr (Or.inr (Or.inr (Or.inr (⟨rfl, (List.forall_mem_cons.mpr ⟨hc20, (List.forall_mem_cons.mpr ⟨hc20_1, (List.forall_mem_cons.mpr ⟨hc20_2, (List.forall_mem_cons.mpr ⟨hc20_3, (fun _ q => nomatch q)⟩)⟩)⟩)⟩), f774⟩))))⟩)
    ·
     refine g_iload X763 hx (hb hby d5_23) (pc' := 25) rfl rfl ?_
     exact g_ireturn X763 hx hret (hb hby d5_25) N763 hlk (fun v t => endF (by decide) (by decide) v) (by rw [e763]; exact ⟨_, rfl, K766, Or.inr (Or.inr (Or.inr (Or.inl ⟨rfl, hc20_3⟩)))⟩)
   ·
    refine g_iload X757 hx (hb hby d5_23) (pc' := 25) rfl rfl ?_
    exact g_ireturn X757 hx hret (hb hby d5_25) N757 hlk (fun v t => endF (by decide) (by decide) v) (by rw [e757]; exact ⟨_, rfl, K760, Or.inr (Or.inr (Or.inl ⟨rfl, hc20_2⟩))⟩)
  ·
   refine g_iload X751 hx (hb hby d5_23) (pc' := 25) rfl rfl ?_
   exact g_ireturn X751 hx hret (hb hby d5_25) N751 hlk (fun v t => endF (by decide) (by decide) v) (by rw [e751]; exact ⟨_, rfl, K754, Or.inr (Or.inl ⟨rfl, hc20_1⟩)⟩)
 ·
  refine g_iload X0 hx (hb hby d5_23) (pc' := 25) rfl rfl ?_
  exact g_ireturn X0 hx hret (hb hby d5_25) N0 hlk (fun v t => endF (by decide) (by decide) v) (by rw [e0]; exact ⟨_, rfl, (Keep.refl h0 [b]), Or.inl ⟨rfl, hc20⟩⟩)
theorem ef_4_4 (x0 : Addr) (x1 : Int32) (x2 : Int32) (m : MethodId) : entryFrame m #[(.ref x0), (.int x1), (.int x2)] 6 = mkF m 0 #[.val (.ref x0), .val (.int x1), .val (.int x2), .unset, .unset, .unset] [] := by first | (simp [entryFrame, mkF, argsToLocals, Value.category]; done) | rfl
def Q4_4 (Z : State) (a : Addr) (c0 : Int32) (c1 : Int32) (c2 : Int32) (c3 : Int32) (cs : Int32) (fv : Value) (h0 : Heap) (n0 : Nat) : Option Value → Heap → Prop := fun v h => ∃ r, v = some (.ref r) ∧ n0 ≤ r ∧ h0.size ≤ r ∧ Keep h0 h [] ∧ Exa Z h r "[B" ∧ ((Va Z h r .byte [(.int (byt c0)), (.int (byt c1)), (.int (byt c2)), (.int (byt c3))] ∧ ∀ c ∈ [c0, c1, c2, c3], ¬ 255 < c) ∨ Va Z h r .byte [(.int (byt (shr c0 (0 : Int32)))), (.int (byt (shr c0 (8 : Int32)))), (.int (byt (shr c1 (0 : Int32)))), (.int (byt (shr c1 (8 : Int32)))), (.int (byt (shr c2 (0 : Int32)))), (.int (byt (shr c2 (8 : Int32)))), (.int (byt (shr c3 (0 : Int32)))), (.int (byt (shr c3 (8 : Int32))))])
theorem rm4_4 (l : Launch) (Z : State) (a0 : Array Value) (hw : HW Z a0) (a : Addr) (c0 : Int32) (c1 : Int32) (c2 : Int32) (c3 : Int32) (cs : Int32) (fv : Value) (h0 : Heap) (n0 : Nat) (Z0 : n0 ≤ h0.size) (V1 : Va Z h0 a .char [(.int c0), (.int c1), (.int c2), (.int c3)]) (B : Sts Z cs fv) (O : Old Z n0 h0) (hc0 : chr c0 = c0) (hc1 : chr c1 = c1) (hc2 : chr c2 = c2) (hc3 : chr c3 = c3) : Ctr l Z (⟨"java/lang/StringUTF16", "compress", "([CII)[B"⟩ : MethodName) jdk_52_method_16_code 6 (some (.array .byte)) ({ frames := 3, cells := 2, slots := 12, locals := 40 } : Room) #[(.ref a), (.int 0), (.int 4)] h0 n0 (Q4_4 Z a c0 c1 c2 c3 cs fv h0 n0) := by
 refine Ctr.of (plainFor_of_name pn_24) (ef_4_4 a (0 : Int32) (4 : Int32)) ?_
 intro p e s m below meth c T0 hx hby hml hown hnm hret hlk hZ X0 e0
 have N0 := Fr.nil n0
 refine g_iloadN X0 hx (hb hby d4_0) (pc' := 1) rfl rfl ?_
 obtain ⟨T775, h775, b775, X775, e775, g775, E775, V775, A775, st775⟩ := h_newarray X0 hx hZ e0 (n := (4 : Int32)) (ty := .byte) rfl (wd hw 19 rfl) (hb hby d4_1) (k := 4) (cap := 4) (by decide) rfl (by decide) (by decide) (by decide) (by decide) (ad := "[B") (by decide) #[vR a, vI 0, vI 4, .unset, .unset, .unset] []
 have ne776 : a ≠ b775 := Nat.ne_of_lt (g775 ▸ V1.lt)
 have ge777 : n0 ≤ b775 := g775 ▸ Z0
 have sz778 : h0.size ≤ b775 := g775 ▸ (Keep.refl h0 []).1
 have f779 := O.ext E775
 have f780 := V1.ext E775
 have Z781 : n0 ≤ h775.size := Nat.le_trans Z0 E775.1
 have K782 := (Keep.refl h0 []).ext E775
 have f783 : Va Z h775 b775 .byte [(.int 0), (.int 0), (.int 0), (.int 0)] := V775
 refine Go.movp st775 (mkF m 3 #[vR a, vI 0, vI 4, .unset, .unset, .unset] [(.ref b775)]) rfl ?_
 refine g_astoreN X775 hx (hb hby d4_3) (pc' := 4) rfl rfl (Ls' := #[vR a, vI 0, vI 4, vR b775, .unset, .unset]) rfl ?_
 refine g_aloadN X775 hx (hb hby d4_4) (pc' := 5) rfl rfl rfl ?_
 refine g_iloadN X775 hx (hb hby d4_5) (pc' := 6) rfl rfl ?_
 refine g_aloadN X775 hx (hb hby d4_6) (pc' := 7) rfl rfl rfl ?_
 refine g_iconst X775 hx (hb hby d4_7) (pc' := 8) rfl (z := 0) rfl ?_
 refine g_iloadN X775 hx (hb hby d4_8) (pc' := 9) rfl rfl ?_
 obtain ⟨v784, T784, h784, L784, X784, e784, N784, q784, st784⟩ := h_static X775 hx (W := 0) (Ls := #[vR a, vI 0, vI 4, vR b775, .unset, .unset]) (argsL := [(.ref a), (.int 0), (.ref b775), (.int 0), (.int 4)]) (rest := []) hZ e775 N0 hml hown (rm5_4 l Z a0 hw a b775 c0 c1 c2 c3 h775 n0 Z781 f780 f783 ge777 ne776) (wd hw 20 rfl) (wd hw 21 rfl) (wd hw 17 rfl) (wd hw 22 rfl) (by decide) pd___CI_BII_I rfl rfl (hb hby d4_9) rfl (by decide) (by decide) (by decide) (by decide)
 obtain ⟨k784, rfl, K784, D784⟩ := q784
 have f785 := f779.keep K784 (allS ge777 all0)
 have f786 := f780.keep K784 (ninS ne776 nin0)
 have f787 := A775.keep K784
 have Z788 : n0 ≤ h784.size := Nat.le_trans Z781 K784.1
 have K789 := K782.trans K784 (allS (Or.inr sz778) all0)
 refine Go.movp st784 (mkF m 12 #[vR a, vI 0, vI 4, vR b775, .unset, .unset] [(.int k784)]) rfl ?_
 refine g_istore X784 hx (hb hby d4_12) (pc' := 14) rfl (Ls' := #[vR a, vI 0, vI 4, vR b775, vI k784, .unset]) rfl ?_
 rcases D784 with ⟨rfl, g784⟩ | ⟨rfl, g784⟩ | ⟨rfl, g784⟩ | ⟨rfl, g784⟩ | ⟨rfl, C784, V784⟩
 ·
  refine g_iload X784 hx (hb hby d4_14) (pc' := 16) rfl rfl ?_
  refine g_iloadN X784 hx (hb hby d4_16) (pc' := 17) rfl rfl ?_
  refine g_icmp_eq X784 hx (hb hby d4_17) (pc1 := 20) rfl (by decide) (pc2 := 57) (by decide) (fun hc17 => absurd hc17 (by decide)) (fun hc17 => ?_)
  refine g_aloadN X784 hx (hb hby d4_20) (pc' := 21) rfl rfl rfl ?_
  refine g_iloadN X784 hx (hb hby d4_21) (pc' := 22) rfl rfl ?_
  refine g_iloadN X784 hx (hb hby d4_22) (pc' := 23) rfl rfl ?_
  obtain ⟨v790, T790, h790, L790, X790, e790, N790, q790, st790⟩ := h_static X784 hx (W := 0) (Ls := #[vR a, vI 0, vI 4, vR b775, vI 0, .unset]) (argsL := [(.ref a), (.int 0), (.int 4)]) (rest := []) hZ e784 N784 hml hown (rm17_4 l Z a0 hw a c0 c1 c2 c3 cs fv h784 n0 Z788 f786 B f785) (wd hw 95 rfl) (wd hw 96 rfl) (wd hw 17 rfl) (wd hw 97 rfl) (by decide) pd___CII__B rfl rfl (hb hby d4_23) rfl (by decide) (by decide) (by decide) (by decide)
  obtain ⟨r790, rfl, ge790, sz790, K790, V790, A790⟩ := q790
  have f791 := f785.keep K790 all0
  have f792 := f786.keep K790 nin0
  have f793 := f787.keep K790
  have Z794 : n0 ≤ h790.size := Nat.le_trans Z788 K790.1
  have K795 := K789.trans K790 all0
  have ne796 : a ≠ r790 := Nat.ne_of_lt (Nat.lt_of_lt_of_le f786.lt sz790)
  have ne797 : b775 ≠ r790 := Nat.ne_of_lt (Nat.lt_of_lt_of_le f787.lt sz790)
  have sz798 : h0.size ≤ r790 := Nat.le_trans K789.1 sz790
  refine Go.movp st790 (mkF m 26 #[vR a, vI 0, vI 4, vR b775, vI 0, .unset] [(.ref r790)]) rfl ?_
  refine g_astore X790 hx (hb hby d4_26) (pc' := 28) rfl rfl (Ls' := #[vR a, vI 0, vI 4, vR b775, vI 0, vR r790]) rfl ?_
  refine g_aload X790 hx (hb hby d4_28) (pc' := 30) rfl rfl rfl ?_
  refine g_iload X790 hx (hb hby d4_30) (pc' := 32) rfl rfl ?_
  obtain ⟨v799, T799, h799, L799, X799, e799, N799, q799, st799⟩ := h_static X790 hx (W := 0) (Ls := #[vR a, vI 0, vI 4, vR b775, vI 0, vR r790]) (argsL := [(.ref r790), (.int 0)]) (rest := []) hZ e790 N790 hml hown (rm21_4_0 l Z a0 hw r790 c0 c1 c2 c3 cs fv h790 n0 Z794 V790 B f791 hc0) (wd hw 111 rfl) (wd hw 112 rfl) (wd hw 17 rfl) (wd hw 113 rfl) (by decide) pd___BI_C rfl rfl (hb hby d4_32) rfl (by decide) (by decide) (by decide) (by decide)
  obtain ⟨rfl, rfl⟩ := q799
  refine Go.movp st799 (mkF m 35 #[vR a, vI 0, vI 4, vR b775, vI 0, vR r790] [(.int c0)]) rfl ?_
  refine g_sipush X799 hx (hb hby d4_35) (pc' := 38) rfl (z := 255) rfl ?_
  refine g_icmp_gt X799 hx (hb hby d4_38) (pc1 := 41) rfl (by decide) (pc2 := 54) (by decide) (fun hc38 => ?_) (fun hc38 => absurd g784 hc38)
  refine g_aload X799 hx (hb hby d4_54) (pc' := 56) rfl rfl rfl ?_
  exact g_areturn X799 hx rfl rfl hret (hb hby d4_56) N799 hlk (fun v t => endF (by decide) (by decide) v) (by rw [e799]; exact ⟨_, rfl, ge790, sz798, K795, A790, Or.inr V790⟩)
 ·
  refine g_iload X784 hx (hb hby d4_14) (pc' := 16) rfl rfl ?_
  refine g_iloadN X784 hx (hb hby d4_16) (pc' := 17) rfl rfl ?_
  refine g_icmp_eq X784 hx (hb hby d4_17) (pc1 := 20) rfl (by decide) (pc2 := 57) (by decide) (fun hc17 => absurd hc17 (by decide)) (fun hc17 => ?_)
  refine g_aloadN X784 hx (hb hby d4_20) (pc' := 21) rfl rfl rfl ?_
  refine g_iloadN X784 hx (hb hby d4_21) (pc' := 22) rfl rfl ?_
  refine g_iloadN X784 hx (hb hby d4_22) (pc' := 23) rfl rfl ?_
  obtain ⟨v800, T800, h800, L800, X800, e800, N800, q800, st800⟩ := h_static X784 hx (W := 0) (Ls := #[vR a, vI 0, vI 4, vR b775, vI 1, .unset]) (argsL := [(.ref a), (.int 0), (.int 4)]) (rest := []) hZ e784 N784 hml hown (rm17_4 l Z a0 hw a c0 c1 c2 c3 cs fv h784 n0 Z788 f786 B f785) (wd hw 95 rfl) (wd hw 96 rfl) (wd hw 17 rfl) (wd hw 97 rfl) (by decide) pd___CII__B rfl rfl (hb hby d4_23) rfl (by decide) (by decide) (by decide) (by decide)
  obtain ⟨r800, rfl, ge800, sz800, K800, V800, A800⟩ := q800
  have f801 := f785.keep K800 all0
  have f802 := f786.keep K800 nin0
  have f803 := f787.keep K800
  have Z804 : n0 ≤ h800.size := Nat.le_trans Z788 K800.1
  have K805 := K789.trans K800 all0
  have ne806 : a ≠ r800 := Nat.ne_of_lt (Nat.lt_of_lt_of_le f786.lt sz800)
  have ne807 : b775 ≠ r800 := Nat.ne_of_lt (Nat.lt_of_lt_of_le f787.lt sz800)
  have sz808 : h0.size ≤ r800 := Nat.le_trans K789.1 sz800
  refine Go.movp st800 (mkF m 26 #[vR a, vI 0, vI 4, vR b775, vI 1, .unset] [(.ref r800)]) rfl ?_
  refine g_astore X800 hx (hb hby d4_26) (pc' := 28) rfl rfl (Ls' := #[vR a, vI 0, vI 4, vR b775, vI 1, vR r800]) rfl ?_
  refine g_aload X800 hx (hb hby d4_28) (pc' := 30) rfl rfl rfl ?_
  refine g_iload X800 hx (hb hby d4_30) (pc' := 32) rfl rfl ?_
  obtain ⟨v809, T809, h809, L809, X809, e809, N809, q809, st809⟩ := h_static X800 hx (W := 0) (Ls := #[vR a, vI 0, vI 4, vR b775, vI 1, vR r800]) (argsL := [(.ref r800), (.int 1)]) (rest := []) hZ e800 N800 hml hown (rm21_4_1 l Z a0 hw r800 c0 c1 c2 c3 cs fv h800 n0 Z804 V800 B f801 hc1) (wd hw 111 rfl) (wd hw 112 rfl) (wd hw 17 rfl) (wd hw 113 rfl) (by decide) pd___BI_C rfl rfl (hb hby d4_32) rfl (by decide) (by decide) (by decide) (by decide)
  obtain ⟨rfl, rfl⟩ := q809
  refine Go.movp st809 (mkF m 35 #[vR a, vI 0, vI 4, vR b775, vI 1, vR r800] [(.int c1)]) rfl ?_
  refine g_sipush X809 hx (hb hby d4_35) (pc' := 38) rfl (z := 255) rfl ?_
  refine g_icmp_gt X809 hx (hb hby d4_38) (pc1 := 41) rfl (by decide) (pc2 := 54) (by decide) (fun hc38 => ?_) (fun hc38 => absurd g784 hc38)
  refine g_aload X809 hx (hb hby d4_54) (pc' := 56) rfl rfl rfl ?_
  exact g_areturn X809 hx rfl rfl hret (hb hby d4_56) N809 hlk (fun v t => endF (by decide) (by decide) v) (by rw [e809]; exact ⟨_, rfl, ge800, sz808, K805, A800, Or.inr V800⟩)
 ·
  refine g_iload X784 hx (hb hby d4_14) (pc' := 16) rfl rfl ?_
  refine g_iloadN X784 hx (hb hby d4_16) (pc' := 17) rfl rfl ?_
  refine g_icmp_eq X784 hx (hb hby d4_17) (pc1 := 20) rfl (by decide) (pc2 := 57) (by decide) (fun hc17 => absurd hc17 (by decide)) (fun hc17 => ?_)
  refine g_aloadN X784 hx (hb hby d4_20) (pc' := 21) rfl rfl rfl ?_
  refine g_iloadN X784 hx (hb hby d4_21) (pc' := 22) rfl rfl ?_
  refine g_iloadN X784 hx (hb hby d4_22) (pc' := 23) rfl rfl ?_
  obtain ⟨v810, T810, h810, L810, X810, e810, N810, q810, st810⟩ := h_static X784 hx (W := 0) (Ls := #[vR a, vI 0, vI 4, vR b775, vI 2, .unset]) (argsL := [(.ref a), (.int 0), (.int 4)]) (rest := []) hZ e784 N784 hml hown (rm17_4 l Z a0 hw a c0 c1 c2 c3 cs fv h784 n0 Z788 f786 B f785) (wd hw 95 rfl) (wd hw 96 rfl) (wd hw 17 rfl) (wd hw 97 rfl) (by decide) pd___CII__B rfl rfl (hb hby d4_23) rfl (by decide) (by decide) (by decide) (by decide)
  obtain ⟨r810, rfl, ge810, sz810, K810, V810, A810⟩ := q810
  have f811 := f785.keep K810 all0
  have f812 := f786.keep K810 nin0
  have f813 := f787.keep K810
  have Z814 : n0 ≤ h810.size := Nat.le_trans Z788 K810.1
  have K815 := K789.trans K810 all0
  have ne816 : a ≠ r810 := Nat.ne_of_lt (Nat.lt_of_lt_of_le f786.lt sz810)
  have ne817 : b775 ≠ r810 := Nat.ne_of_lt (Nat.lt_of_lt_of_le f787.lt sz810)
  have sz818 : h0.size ≤ r810 := Nat.le_trans K789.1 sz810
  refine Go.movp st810 (mkF m 26 #[vR a, vI 0, vI 4, vR b775, vI 2, .unset] [(.ref r810)]) rfl ?_
  refine g_astore X810 hx (hb hby d4_26) (pc' := 28) rfl rfl (Ls' := #[vR a, vI 0, vI 4, vR b775, vI 2, vR r810]) rfl ?_
  refine g_aload X810 hx (hb hby d4_28) (pc' := 30) rfl rfl rfl ?_
  refine g_iload X810 hx (hb hby d4_30) (pc' := 32) rfl rfl ?_
  obtain ⟨v819, T819, h819, L819, X819, e819, N819, q819, st819⟩ := h_static X810 hx (W := 0) (Ls := #[vR a, vI 0, vI 4, vR b775, vI 2, vR r810]) (argsL := [(.ref r810), (.int 2)]) (rest := []) hZ e810 N810 hml hown (rm21_4_2 l Z a0 hw r810 c0 c1 c2 c3 cs fv h810 n0 Z814 V810 B f811 hc2) (wd hw 111 rfl) (wd hw 112 rfl) (wd hw 17 rfl) (wd hw 113 rfl) (by decide) pd___BI_C rfl rfl (hb hby d4_32) rfl (by decide) (by decide) (by decide) (by decide)
  obtain ⟨rfl, rfl⟩ := q819
  refine Go.movp st819 (mkF m 35 #[vR a, vI 0, vI 4, vR b775, vI 2, vR r810] [(.int c2)]) rfl ?_
  refine g_sipush X819 hx (hb hby d4_35) (pc' := 38) rfl (z := 255) rfl ?_
  refine g_icmp_gt X819 hx (hb hby d4_38) (pc1 := 41) rfl (by decide) (pc2 := 54) (by decide) (fun hc38 => ?_) (fun hc38 => absurd g784 hc38)
  refine g_aload X819 hx (hb hby d4_54) (pc' := 56) rfl rfl rfl ?_
  exact g_areturn X819 hx rfl rfl hret (hb hby d4_56) N819 hlk (fun v t => endF (by decide) (by decide) v) (by rw [e819]; exact ⟨_, rfl, ge810, sz818, K815, A810, Or.inr V810⟩)
 ·
  refine g_iload X784 hx (hb hby d4_14) (pc' := 16) rfl rfl ?_
  refine g_iloadN X784 hx (hb hby d4_16) (pc' := 17) rfl rfl ?_
  refine g_icmp_eq X784 hx (hb hby d4_17) (pc1 := 20) rfl (by decide) (pc2 := 57) (by decide) (fun hc17 => absurd hc17 (by decide)) (fun hc17 => ?_)
  refine g_aloadN X784 hx (hb hby d4_20) (pc' := 21) rfl rfl rfl ?_
  refine g_iloadN X784 hx (hb hby d4_21) (pc' := 22) rfl rfl ?_
  refine g_iloadN X784 hx (hb hby d4_22) (pc' := 23) rfl rfl ?_
  obtain ⟨v820, T820, h820, L820, X820, e820, N820, q820, st820⟩ := h_static X784 hx (W := 0) (Ls := #[vR a, vI 0, vI 4, vR b775, vI 3, .unset]) (argsL := [(.ref a), (.int 0), (.int 4)]) (rest := []) hZ e784 N784 hml hown (rm17_4 l Z a0 hw a c0 c1 c2 c3 cs fv h784 n0 Z788 f786 B f785) (wd hw 95 rfl) (wd hw 96 rfl) (wd hw 17 rfl) (wd hw 97 rfl) (by decide) pd___CII__B rfl rfl (hb hby d4_23) rfl (by decide) (by decide) (by decide) (by decide)
  obtain ⟨r820, rfl, ge820, sz820, K820, V820, A820⟩ := q820
  have f821 := f785.keep K820 all0
  have f822 := f786.keep K820 nin0
  have f823 := f787.keep K820
  have Z824 : n0 ≤ h820.size := Nat.le_trans Z788 K820.1
  have K825 := K789.trans K820 all0
  have ne826 : a ≠ r820 := Nat.ne_of_lt (Nat.lt_of_lt_of_le f786.lt sz820)
  have ne827 : b775 ≠ r820 := Nat.ne_of_lt (Nat.lt_of_lt_of_le f787.lt sz820)
  have sz828 : h0.size ≤ r820 := Nat.le_trans K789.1 sz820
  refine Go.movp st820 (mkF m 26 #[vR a, vI 0, vI 4, vR b775, vI 3, .unset] [(.ref r820)]) rfl ?_
  refine g_astore X820 hx (hb hby d4_26) (pc' := 28) rfl rfl (Ls' := #[vR a, vI 0, vI 4, vR b775, vI 3, vR r820]) rfl ?_
  refine g_aload X820 hx (hb hby d4_28) (pc' := 30) rfl rfl rfl ?_
  refine g_iload X820 hx (hb hby d4_30) (pc' := 32) rfl rfl ?_
  obtain ⟨v829, T829, h829, L829, X829, e829, N829, q829, st829⟩ := h_static X820 hx (W := 0) (Ls := #[vR a, vI 0, vI 4, vR b775, vI 3, vR r820]) (argsL := [(.ref r820), (.int 3)]) (rest := []) hZ e820 N820 hml hown (rm21_4_3 l Z a0 hw r820 c0 c1 c2 c3 cs fv h820 n0 Z824 V820 B f821 hc3) (wd hw 111 rfl) (wd hw 112 rfl) (wd hw 17 rfl) (wd hw 113 rfl) (by decide) pd___BI_C rfl rfl (hb hby d4_32) rfl (by decide) (by decide) (by decide) (by decide)
  obtain ⟨rfl, rfl⟩ := q829
  refine Go.movp st829 (mkF m 35 #[vR a, vI 0, vI 4, vR b775, vI 3, vR r820] [(.int c3)]) rfl ?_
  refine g_sipush X829 hx (hb hby d4_35) (pc' := 38) rfl (z := 255) rfl ?_
  refine g_icmp_gt X829 hx (hb hby d4_38) (pc1 := 41) rfl (by decide) (pc2 := 54) (by decide) (fun hc38 => ?_) (fun hc38 => absurd g784 hc38)
  refine g_aload X829 hx (hb hby d4_54) (pc' := 56) rfl rfl rfl ?_
  exact g_areturn X829 hx rfl rfl hret (hb hby d4_56) N829 hlk (fun v t => endF (by decide) (by decide) v) (by rw [e829]; exact ⟨_, rfl, ge820, sz828, K825, A820, Or.inr V820⟩)
 ·
  refine g_iload X784 hx (hb hby d4_14) (pc' := 16) rfl rfl ?_
  refine g_iloadN X784 hx (hb hby d4_16) (pc' := 17) rfl rfl ?_
  refine g_icmp_eq X784 hx (hb hby d4_17) (pc1 := 20) rfl (by decide) (pc2 := 57) (by decide) (fun hc17 => ?_) (fun hc17 => absurd (by decide) hc17)
  refine g_aloadN X784 hx (hb hby d4_57) (pc' := 58) rfl rfl rfl ?_
  exact g_areturn X784 hx rfl rfl hret (hb hby d4_58) N784 hlk (fun v t => endF (by decide) (by decide) v) (by rw [e784]; exact ⟨_, rfl, ge777, sz778, K789, f787, Or.inl ⟨V784, C784⟩⟩)
theorem ef_6_4L (x0 : Addr) (x1 : Int32) (m : MethodId) : entryFrame m #[(.ref x0), (.int x1)] 2 = mkF m 0 #[.val (.ref x0), .val (.int x1)] [] := by first | (simp [entryFrame, mkF, argsToLocals, Value.category]; done) | rfl
def Q6_4L (Z : State) (b : Addr) (x0 : Int32) (x1 : Int32) (x2 : Int32) (x3 : Int32) (h0 : Heap) (n0 : Nat) : Option Value → Heap → Prop := fun v h => v = some (.int 0) ∧ h0 = h
theorem rm6_4L (l : Launch) (Z : State) (a0 : Array Value) (hw : HW Z a0) (b : Addr) (x0 : Int32) (x1 : Int32) (x2 : Int32) (x3 : Int32) (h0 : Heap) (n0 : Nat) (Z0 : n0 ≤ h0.size) (V1 : Va Z h0 b .byte [(.int x0), (.int x1), (.int x2), (.int x3)]) : Ctr l Z (⟨"java/lang/StringUTF16", "coderFromArrayLen", "([BI)B"⟩ : MethodName) jdk_52_method_15_code 2 (some .byte) ({ frames := 0, cells := 0, slots := 0, locals := 0 } : Room) #[(.ref b), (.int 4)] h0 n0 (Q6_4L Z b x0 x1 x2 x3 h0 n0) := by
 refine Ctr.of (plainFor_of_name pn_24) (ef_6_4L b (4 : Int32)) ?_
 intro p e s m below meth c T0 hx hby hml hown hnm hret hlk hZ X0 e0
 have N0 := Fr.nil n0
 refine g_iloadN X0 hx (hb hby d6_0) (pc' := 1) rfl rfl ?_
 refine g_aloadN X0 hx (hb hby d6_1) (pc' := 2) rfl rfl rfl ?_
 refine g_arraylength X0 hx hZ e0 V1 (z := 4) (hb hby d6_2) (pc' := 3) rfl rfl ?_
 refine g_isub X0 hx (hb hby d6_3) (pc' := 4) rfl ?_
 refine Go.cast (show (mkF m 4 #[vR b, vI 4] [(.int ((4 : Int32) - (4 : Int32)))]) = (mkF m 4 #[vR b, vI 4] [(.int 0)]) from by rw [show ((4 : Int32) - (4 : Int32)) = (0 : Int32) from (by decide)]) ?_
 refine g_bipush X0 hx (hb hby d6_4) (pc' := 6) rfl (z := 31) rfl ?_
 refine g_iushr X0 hx (hb hby d6_6) (pc' := 7) rfl ?_
 refine Go.cast (show (mkF m 7 #[vR b, vI 4] [(.int (ushr (0 : Int32) (31 : Int32)))]) = (mkF m 7 #[vR b, vI 4] [(.int 0)]) from by rw [show (ushr (0 : Int32) (31 : Int32)) = (0 : Int32) from (by decide)]) ?_
 refine g_i2b X0 hx (hb hby d6_7) (pc' := 8) rfl ?_
 refine Go.cast (show (mkF m 8 #[vR b, vI 4] [(.int (byt (0 : Int32)))]) = (mkF m 8 #[vR b, vI 4] [(.int 0)]) from by rw [show (byt (0 : Int32)) = (0 : Int32) from (by decide)]) ?_
 exact g_breturn X0 hx rfl hret (hb hby d6_8) N0 hlk (fun v t => endF (by decide) (by decide) v) (by rw [e0]; exact ⟨rfl, rfl⟩)
theorem ef_6_4U (x0 : Addr) (x1 : Int32) (m : MethodId) : entryFrame m #[(.ref x0), (.int x1)] 2 = mkF m 0 #[.val (.ref x0), .val (.int x1)] [] := by first | (simp [entryFrame, mkF, argsToLocals, Value.category]; done) | rfl
def Q6_4U (Z : State) (b : Addr) (x0 : Int32) (x1 : Int32) (x2 : Int32) (x3 : Int32) (x4 : Int32) (x5 : Int32) (x6 : Int32) (x7 : Int32) (h0 : Heap) (n0 : Nat) : Option Value → Heap → Prop := fun v h => v = some (.int 1) ∧ h0 = h
theorem rm6_4U (l : Launch) (Z : State) (a0 : Array Value) (hw : HW Z a0) (b : Addr) (x0 : Int32) (x1 : Int32) (x2 : Int32) (x3 : Int32) (x4 : Int32) (x5 : Int32) (x6 : Int32) (x7 : Int32) (h0 : Heap) (n0 : Nat) (Z0 : n0 ≤ h0.size) (V1 : Va Z h0 b .byte [(.int x0), (.int x1), (.int x2), (.int x3), (.int x4), (.int x5), (.int x6), (.int x7)]) : Ctr l Z (⟨"java/lang/StringUTF16", "coderFromArrayLen", "([BI)B"⟩ : MethodName) jdk_52_method_15_code 2 (some .byte) ({ frames := 0, cells := 0, slots := 0, locals := 0 } : Room) #[(.ref b), (.int 4)] h0 n0 (Q6_4U Z b x0 x1 x2 x3 x4 x5 x6 x7 h0 n0) := by
 refine Ctr.of (plainFor_of_name pn_24) (ef_6_4U b (4 : Int32)) ?_
 intro p e s m below meth c T0 hx hby hml hown hnm hret hlk hZ X0 e0
 have N0 := Fr.nil n0
 refine g_iloadN X0 hx (hb hby d6_0) (pc' := 1) rfl rfl ?_
 refine g_aloadN X0 hx (hb hby d6_1) (pc' := 2) rfl rfl rfl ?_
 refine g_arraylength X0 hx hZ e0 V1 (z := 8) (hb hby d6_2) (pc' := 3) rfl rfl ?_
 refine g_isub X0 hx (hb hby d6_3) (pc' := 4) rfl ?_
 refine Go.cast (show (mkF m 4 #[vR b, vI 4] [(.int ((4 : Int32) - (8 : Int32)))]) = (mkF m 4 #[vR b, vI 4] [(.int (-4 : Int32))]) from by rw [show ((4 : Int32) - (8 : Int32)) = (-4 : Int32) from (by decide)]) ?_
 refine g_bipush X0 hx (hb hby d6_4) (pc' := 6) rfl (z := 31) rfl ?_
 refine g_iushr X0 hx (hb hby d6_6) (pc' := 7) rfl ?_
 refine Go.cast (show (mkF m 7 #[vR b, vI 4] [(.int (ushr (-4 : Int32) (31 : Int32)))]) = (mkF m 7 #[vR b, vI 4] [(.int 1)]) from by rw [show (ushr (-4 : Int32) (31 : Int32)) = (1 : Int32) from (by decide)]) ?_
 refine g_i2b X0 hx (hb hby d6_7) (pc' := 8) rfl ?_
 refine Go.cast (show (mkF m 8 #[vR b, vI 4] [(.int (byt (1 : Int32)))]) = (mkF m 8 #[vR b, vI 4] [(.int 1)]) from by rw [show (byt (1 : Int32)) = (1 : Int32) from (by decide)]) ?_
 exact g_breturn X0 hx rfl hret (hb hby d6_8) N0 hlk (fun v t => endF (by decide) (by decide) v) (by rw [e0]; exact ⟨rfl, rfl⟩)
theorem ef_2_4 (x0 : Addr) (x1 : Addr) (x2 : Int32) (x3 : Int32) (m : MethodId) : entryFrame m #[(.ref x0), (.ref x1), (.int x2), (.int x3), .null] 6 = mkF m 0 #[.val (.ref x0), .val (.ref x1), .val (.int x2), .val (.int x3), .val .null, .unset] [] := by first | (simp [entryFrame, mkF, argsToLocals, Value.category]; done) | rfl
def Q2_4 (Z : State) (a : Addr) (b : Addr) (c0 : Int32) (c1 : Int32) (c2 : Int32) (c3 : Int32) (cs : Int32) (fv : Value) (h0 : Heap) (n0 : Nat) : Option Value → Heap → Prop := fun v h => v = none ∧ Keep h0 h [a] ∧ ∃ r, h0.size ≤ r ∧ Str Z h a r [c0, c1, c2, c3]
theorem rm2_4 (l : Launch) (Z : State) (a0 : Array Value) (hw : HW Z a0) (a : Addr) (b : Addr) (c0 : Int32) (c1 : Int32) (c2 : Int32) (c3 : Int32) (cs : Int32) (fv : Value) (h0 : Heap) (n0 : Nat) (Z0 : n0 ≤ h0.size) (F1 : Fld Z h0 a "java/lang/String" "value" "[B" .null) (F2 : Fld Z h0 a "java/lang/String" "coder" "B" (.int 0)) (E1 : Exa Z h0 a "java/lang/String") (G1 : n0 ≤ a) (V1 : Va Z h0 b .char [(.int c0), (.int c1), (.int c2), (.int c3)]) (ne1 : b ≠ a) (B : Sts Z cs fv) (O : Old Z n0 h0) (hc0 : chr c0 = c0) (hc1 : chr c1 = c1) (hc2 : chr c2 = c2) (hc3 : chr c3 = c3) : Ctr l Z (⟨"java/lang/String", "<init>", "([CIILjava/lang/Void;)V"⟩ : MethodName) jdk_42_method_149_code 6 none ({ frames := 4, cells := 2, slots := 12, locals := 57 } : Room) #[(.ref a), (.ref b), (.int 0), (.int 4), .null] h0 n0 (Q2_4 Z a b c0 c1 c2 c3 cs fv h0 n0) := by
 refine Ctr.of (plainFor_of_name pn_13) (ef_2_4 a b (0 : Int32) (4 : Int32)) ?_
 intro p e s m below meth c T0 hx hby hml hown hnm hret hlk hZ X0 e0
 have N0 := Fr.nil n0
 refine g_aloadN X0 hx (hb hby d2_0) (pc' := 1) rfl rfl rfl ?_
 obtain ⟨T830, X830, e830, st830⟩ := initO X0 hx hZ hown (wd hw 11 rfl) (wd hw 12 rfl) (wd hw 13 rfl) e0 (g := (mkF m 1 #[vR a, vR b, vI 0, vI 4, .val .null, .unset] [(.ref a)])) rfl (by rw [hml]; rfl) rfl (hb hby d2_1) (by decide) (W := 0) (by show 2 * 0 + _ ≤ _; exact Nat.le_of_eq rfl) (by decide)
 refine Go.movp st830 (mkF m 4 #[vR a, vR b, vI 0, vI 4, .val .null, .unset] []) rfl ?_
 refine g_iloadN X830 hx (hb hby d2_4) (pc' := 5) rfl rfl ?_
 refine g_if_ne X830 hx (hb hby d2_5) (pc1 := 8) rfl (by decide) (pc2 := 27) (by decide) (fun hc5 => ?_) (fun hc5 => absurd hc5 (by decide))
 obtain ⟨T831, X831, e831, st831⟩ := getS2 X830 hx hZ hown (host := "") (Or.inl (wd hw 14 rfl)) Via.refl e830 (Sta.ext O.2 B.1) (g := (mkF m 27 #[vR a, vR b, vI 0, vI 4, .val .null, .unset] [])) rfl (hb hby d2_27)
 refine Go.movp st831 (mkF m 30 #[vR a, vR b, vI 0, vI 4, .val .null, .unset] [(.int cs)]) rfl ?_
 refine g_if_eq X831 hx (hb hby d2_30) (pc1 := 33) rfl (by decide) (pc2 := 58) (by decide) (fun hc30 => absurd hc30 B.2.1) (fun hc30 => ?_)
 refine g_aloadN X831 hx (hb hby d2_33) (pc' := 34) rfl rfl rfl ?_
 refine g_iloadN X831 hx (hb hby d2_34) (pc' := 35) rfl rfl ?_
 refine g_iloadN X831 hx (hb hby d2_35) (pc' := 36) rfl rfl ?_
 obtain ⟨v832, T832, h832, L832, X832, e832, N832, q832, st832⟩ := h_static X831 hx (W := 0) (Ls := #[vR a, vR b, vI 0, vI 4, .val .null, .unset]) (argsL := [(.ref b), (.int 0), (.int 4)]) (rest := []) hZ e831 N0 hml hown (rm4_4 l Z a0 hw b c0 c1 c2 c3 cs fv h0 n0 Z0 V1 B O hc0 hc1 hc2 hc3) (wd hw 15 rfl) (wd hw 16 rfl) (wd hw 17 rfl) (wd hw 18 rfl) (by decide) pd___CII__B rfl rfl (hb hby d2_36) rfl (by decide) (by decide) (by decide) (by decide)
 obtain ⟨r832, rfl, ge832, sz832, K832, A832, D832⟩ := q832
 have f833 := F1.keep K832 nin0
 have f834 := F2.keep K832 nin0
 have f835 := E1.keep K832
 have f836 := V1.keep K832 nin0
 have f837 := O.keep K832 all0
 have Z838 : n0 ≤ h832.size := Nat.le_trans Z0 K832.1
 have K839 := (Keep.refl h0 [a]).trans K832 all0
 have ne840 : a ≠ r832 := Nat.ne_of_lt (Nat.lt_of_lt_of_le F1.lt sz832)
 have ne841 : b ≠ r832 := Nat.ne_of_lt (Nat.lt_of_lt_of_le V1.lt sz832)
 have sz842 : h0.size ≤ r832 := Nat.le_trans (Keep.refl h0 [a]).1 sz832
 refine Go.movp st832 (mkF m 39 #[vR a, vR b, vI 0, vI 4, .val .null, .unset] [(.ref r832)]) rfl ?_
 rcases D832 with ⟨V832, C832⟩ | V832
 ·
  refine g_astore X832 hx (hb hby d2_39) (pc' := 41) rfl rfl (Ls' := #[vR a, vR b, vI 0, vI 4, .val .null, vR r832]) rfl ?_
  refine g_aloadN X832 hx (hb hby d2_41) (pc' := 42) rfl rfl rfl ?_
  refine g_aload X832 hx (hb hby d2_42) (pc' := 44) rfl rfl rfl ?_
  refine g_iloadN X832 hx (hb hby d2_44) (pc' := 45) rfl rfl ?_
  obtain ⟨v843, T843, h843, L843, X843, e843, N843, q843, st843⟩ := h_static X832 hx (W := 1) (Ls := #[vR a, vR b, vI 0, vI 4, .val .null, vR r832]) (argsL := [(.ref r832), (.int 4)]) (rest := [(.ref a)]) hZ e832 N832 hml hown (rm6_4L l Z a0 hw r832 (byt c0) (byt c1) (byt c2) (byt c3) h832 n0 Z838 V832) (wd hw 23 rfl) (wd hw 24 rfl) (wd hw 17 rfl) (wd hw 25 rfl) (by decide) pd___BI_B rfl rfl (hb hby d2_45) rfl (by decide) (by decide) (by decide) (by decide)
  obtain ⟨rfl, rfl⟩ := q843
  refine Go.movp st843 (mkF m 48 #[vR a, vR b, vI 0, vI 4, .val .null, vR r832] [(.int 0), (.ref a)]) rfl ?_
  obtain ⟨T844, h844, X844, e844, W844, st844⟩ := putFN X843 hx hZ hown (wd hw 26 rfl) Via.refl e843 f834 f835 (Or.inr ⟨(wd hw 27 rfl), rfl, hnm⟩) (wd hw 1 rfl) (ty := .byte) (v' := .int (nar .byte (0 : Int32))) (by decide) rfl (fits_nar_byte _) (g := (mkF m 48 #[vR a, vR b, vI 0, vI 4, .val .null, vR r832] [(.int 0), (.ref a)])) rfl rfl (hb hby d2_48)
  have f845 : Fld Z h844 a "java/lang/String" "coder" "B" (.int (byt (0 : Int32))) := Fld.same W844 f834
  have N844 := Fr.snoc X844 N843 G1
  have f846 := Fld.other W844 f833 (Or.inr (slot_ne (Or.inr (wd hw 29 rfl)) (Or.inr (wd hw 27 rfl)) (by decide) (t := (.array .byte)) (t' := .byte) (by decide) (by decide)))
  have f847 := Exa.wr W844 f835
  have f848 := f836.other W844 ne1
  have f849 := f837.wr W844 G1
  have f850 := Exa.wr W844 A832
  have f851 := V832.other W844 (Ne.symm ne840)
  have Z852 : n0 ≤ h844.size := Nat.le_trans Z838 (Keep.of_wr W844).1
  have K853 := K839.wr W844 (Or.inl (List.mem_of_getElem? (i := 0) rfl))
  refine Go.movp st844 (mkF m 51 #[vR a, vR b, vI 0, vI 4, .val .null, vR r832] []) rfl ?_
  refine g_aloadN X844 hx (hb hby d2_51) (pc' := 52) rfl rfl rfl ?_
  refine g_aload X844 hx (hb hby d2_52) (pc' := 54) rfl rfl rfl ?_
  obtain ⟨T854, h854, X854, e854, W854, st854⟩ := putF X844 hx hZ hown (host := "") (Or.inl (wd hw 28 rfl)) Via.refl e844 f846 f847 (Or.inr ⟨(wd hw 29 rfl), rfl, hnm⟩) (wd hw 1 rfl) (ty := (.array .byte)) (by decide) rfl rfl (g := (mkF m 54 #[vR a, vR b, vI 0, vI 4, .val .null, vR r832] [(.ref r832), (.ref a)])) rfl rfl (hb hby d2_54)
  have f855 : Fld Z h854 a "java/lang/String" "value" "[B" (.ref r832) := Fld.same W854 f846
  have N854 := Fr.snoc X854 N844 G1
  have f856 := Exa.wr W854 f847
  have f857 := f848.other W854 ne1
  have f858 := f849.wr W854 G1
  have f859 := Exa.wr W854 f850
  have f860 := f851.other W854 (Ne.symm ne840)
  have f861 := Fld.other W854 f845 (Or.inr (slot_ne (Or.inr (wd hw 27 rfl)) (Or.inr (wd hw 29 rfl)) (by decide) (t := .byte) (t' := (.array .byte)) (by decide) (by decide)))
  have Z862 : n0 ≤ h854.size := Nat.le_trans Z852 (Keep.of_wr W854).1
  have K863 := K853.wr W854 (Or.inl (List.mem_of_getElem? (i := 0) rfl))
  refine Go.movp st854 (mkF m 57 #[vR a, vR b, vI 0, vI 4, .val .null, vR r832] []) rfl ?_
  exact g_return X854 hx hret (hb hby d2_57) N854 hlk (fun v t => endF (by decide) (by decide) v) (by rw [e854]; exact ⟨rfl, K863, r832, sz842, Or.inl ⟨(by have q := f861; rw [show byt (0 : Int32) = 0 from by decide] at q; exact q), f855, f856, f860, C832⟩⟩)
 ·
  refine g_astore X832 hx (hb hby d2_39) (pc' := 41) rfl rfl (Ls' := #[vR a, vR b, vI 0, vI 4, .val .null, vR r832]) rfl ?_
  refine g_aloadN X832 hx (hb hby d2_41) (pc' := 42) rfl rfl rfl ?_
  refine g_aload X832 hx (hb hby d2_42) (pc' := 44) rfl rfl rfl ?_
  refine g_iloadN X832 hx (hb hby d2_44) (pc' := 45) rfl rfl ?_
  obtain ⟨v864, T864, h864, L864, X864, e864, N864, q864, st864⟩ := h_static X832 hx (W := 1) (Ls := #[vR a, vR b, vI 0, vI 4, .val .null, vR r832]) (argsL := [(.ref r832), (.int 4)]) (rest := [(.ref a)]) hZ e832 N832 hml hown (rm6_4U l Z a0 hw r832 (byt (shr c0 (0 : Int32))) (byt (shr c0 (8 : Int32))) (byt (shr c1 (0 : Int32))) (byt (shr c1 (8 : Int32))) (byt (shr c2 (0 : Int32))) (byt (shr c2 (8 : Int32))) (byt (shr c3 (0 : Int32))) (byt (shr c3 (8 : Int32))) h832 n0 Z838 V832) (wd hw 23 rfl) (wd hw 24 rfl) (wd hw 17 rfl) (wd hw 25 rfl) (by decide) pd___BI_B rfl rfl (hb hby d2_45) rfl (by decide) (by decide) (by decide) (by decide)
  obtain ⟨rfl, rfl⟩ := q864
  refine Go.movp st864 (mkF m 48 #[vR a, vR b, vI 0, vI 4, .val .null, vR r832] [(.int 1), (.ref a)]) rfl ?_
  obtain ⟨T865, h865, X865, e865, W865, st865⟩ := putFN X864 hx hZ hown (wd hw 26 rfl) Via.refl e864 f834 f835 (Or.inr ⟨(wd hw 27 rfl), rfl, hnm⟩) (wd hw 1 rfl) (ty := .byte) (v' := .int (nar .byte (1 : Int32))) (by decide) rfl (fits_nar_byte _) (g := (mkF m 48 #[vR a, vR b, vI 0, vI 4, .val .null, vR r832] [(.int 1), (.ref a)])) rfl rfl (hb hby d2_48)
  have f866 : Fld Z h865 a "java/lang/String" "coder" "B" (.int (byt (1 : Int32))) := Fld.same W865 f834
  have N865 := Fr.snoc X865 N864 G1
  have f867 := Fld.other W865 f833 (Or.inr (slot_ne (Or.inr (wd hw 29 rfl)) (Or.inr (wd hw 27 rfl)) (by decide) (t := (.array .byte)) (t' := .byte) (by decide) (by decide)))
  have f868 := Exa.wr W865 f835
  have f869 := f836.other W865 ne1
  have f870 := f837.wr W865 G1
  have f871 := Exa.wr W865 A832
  have f872 := V832.other W865 (Ne.symm ne840)
  have Z873 : n0 ≤ h865.size := Nat.le_trans Z838 (Keep.of_wr W865).1
  have K874 := K839.wr W865 (Or.inl (List.mem_of_getElem? (i := 0) rfl))
  refine Go.movp st865 (mkF m 51 #[vR a, vR b, vI 0, vI 4, .val .null, vR r832] []) rfl ?_
  refine g_aloadN X865 hx (hb hby d2_51) (pc' := 52) rfl rfl rfl ?_
  refine g_aload X865 hx (hb hby d2_52) (pc' := 54) rfl rfl rfl ?_
  obtain ⟨T875, h875, X875, e875, W875, st875⟩ := putF X865 hx hZ hown (host := "") (Or.inl (wd hw 28 rfl)) Via.refl e865 f867 f868 (Or.inr ⟨(wd hw 29 rfl), rfl, hnm⟩) (wd hw 1 rfl) (ty := (.array .byte)) (by decide) rfl rfl (g := (mkF m 54 #[vR a, vR b, vI 0, vI 4, .val .null, vR r832] [(.ref r832), (.ref a)])) rfl rfl (hb hby d2_54)
  have f876 : Fld Z h875 a "java/lang/String" "value" "[B" (.ref r832) := Fld.same W875 f867
  have N875 := Fr.snoc X875 N865 G1
  have f877 := Exa.wr W875 f868
  have f878 := f869.other W875 ne1
  have f879 := f870.wr W875 G1
  have f880 := Exa.wr W875 f871
  have f881 := f872.other W875 (Ne.symm ne840)
  have f882 := Fld.other W875 f866 (Or.inr (slot_ne (Or.inr (wd hw 27 rfl)) (Or.inr (wd hw 29 rfl)) (by decide) (t := .byte) (t' := (.array .byte)) (by decide) (by decide)))
  have Z883 : n0 ≤ h875.size := Nat.le_trans Z873 (Keep.of_wr W875).1
  have K884 := K874.wr W875 (Or.inl (List.mem_of_getElem? (i := 0) rfl))
  refine Go.movp st875 (mkF m 57 #[vR a, vR b, vI 0, vI 4, .val .null, vR r832] []) rfl ?_
  exact g_return X875 hx hret (hb hby d2_57) N875 hlk (fun v t => endF (by decide) (by decide) v) (by rw [e875]; exact ⟨rfl, K884, r832, sz842, Or.inr ⟨(by have q := f882; rw [show byt (1 : Int32) = 1 from by decide] at q; exact q), f876, f877, f881⟩⟩)
theorem ef_1_4 (x0 : Addr) (x1 : Addr) (m : MethodId) : entryFrame m #[(.ref x0), (.ref x1)] 2 = mkF m 0 #[.val (.ref x0), .val (.ref x1)] [] := by first | (simp [entryFrame, mkF, argsToLocals, Value.category]; done) | rfl
def Q1_4 (Z : State) (a : Addr) (b : Addr) (c0 : Int32) (c1 : Int32) (c2 : Int32) (c3 : Int32) (cs : Int32) (fv : Value) (h0 : Heap) (n0 : Nat) : Option Value → Heap → Prop := fun v h => v = none ∧ Keep h0 h [a] ∧ ∃ r, h0.size ≤ r ∧ Str Z h a r [c0, c1, c2, c3]
theorem rm1_4 (l : Launch) (Z : State) (a0 : Array Value) (hw : HW Z a0) (a : Addr) (b : Addr) (c0 : Int32) (c1 : Int32) (c2 : Int32) (c3 : Int32) (cs : Int32) (fv : Value) (h0 : Heap) (n0 : Nat) (Z0 : n0 ≤ h0.size) (F1 : Fld Z h0 a "java/lang/String" "value" "[B" .null) (F2 : Fld Z h0 a "java/lang/String" "coder" "B" (.int 0)) (E1 : Exa Z h0 a "java/lang/String") (G1 : n0 ≤ a) (V1 : Va Z h0 b .char [(.int c0), (.int c1), (.int c2), (.int c3)]) (ne1 : b ≠ a) (B : Sts Z cs fv) (O : Old Z n0 h0) (hc0 : chr c0 = c0) (hc1 : chr c1 = c1) (hc2 : chr c2 = c2) (hc3 : chr c3 = c3) : Ctr l Z (⟨"java/lang/String", "<init>", "([C)V"⟩ : MethodName) jdk_42_method_3_code 2 none ({ frames := 5, cells := 2, slots := 12, locals := 74 } : Room) #[(.ref a), (.ref b)] h0 n0 (Q1_4 Z a b c0 c1 c2 c3 cs fv h0 n0) := by
 refine Ctr.of (plainFor_of_name pn_13) (ef_1_4 a b) ?_
 intro p e s m below meth c T0 hx hby hml hown hnm hret hlk hZ X0 e0
 have N0 := Fr.nil n0
 refine g_aloadN X0 hx (hb hby d1_0) (pc' := 1) rfl rfl rfl ?_
 refine g_aloadN X0 hx (hb hby d1_1) (pc' := 2) rfl rfl rfl ?_
 refine g_iconst X0 hx (hb hby d1_2) (pc' := 3) rfl (z := 0) rfl ?_
 refine g_aloadN X0 hx (hb hby d1_3) (pc' := 4) rfl rfl rfl ?_
 refine g_arraylength X0 hx hZ e0 V1 (z := 4) (hb hby d1_4) (pc' := 5) rfl rfl ?_
 refine g_aconst_null X0 hx (hb hby d1_5) (pc' := 6) rfl ?_
 obtain ⟨v885, T885, h885, L885, X885, e885, N885, q885, st885⟩ := h_special (a := a) X0 hx (W := 0) (Ls := #[vR a, vR b]) (argsL := [(.ref b), (.int 0), (.int 4), .null]) (rest := []) hZ e0 N0 hml hown rfl (rm2_4 l Z a0 hw a b c0 c1 c2 c3 cs fv h0 n0 Z0 F1 F2 E1 G1 V1 ne1 B O hc0 hc1 hc2 hc3) (wd hw 7 rfl) (wd hw 8 rfl) (wd hw 2 rfl) (wd hw 10 rfl) (by decide) pd___CIILjava_lang_Void__V rfl rfl (hb hby d1_6) rfl (by decide) (by decide) (by decide) (by decide)
 obtain ⟨rfl, K885, r885, sz885, S885⟩ := q885
 have f886 := E1.keep K885
 have f887 := V1.keep K885 (ninS ne1 nin0)
 have f888 := O.keep K885 (allS G1 all0)
 have Z889 : n0 ≤ h885.size := Nat.le_trans Z0 K885.1
 have K890 := (Keep.refl h0 [a]).trans K885 (allS (Or.inl (List.mem_of_getElem? (i := 0) rfl)) all0)
 refine Go.movp st885 (mkF m 9 #[vR a, vR b] []) rfl ?_
 exact g_return X885 hx hret (hb hby d1_9) N885 hlk (fun v t => endF (by decide) (by decide) v) (by rw [e885]; exact ⟨rfl, K890, r885, sz885, S885⟩)
theorem d2_8 : decode jdk_42_method_149_code 8 = .ok (.aload_n 0, 1) := by decide +kernel
theorem d2_9 : decode jdk_42_method_149_code 9 = .ok (.ldc 7, 2) := by decide +kernel
theorem d2_11 : decode jdk_42_method_149_code 11 = .ok (.getfield 9, 3) := by decide +kernel
theorem d2_14 : decode jdk_42_method_149_code 14 = .ok (.putfield 9, 3) := by decide +kernel
theorem d2_17 : decode jdk_42_method_149_code 17 = .ok (.aload_n 0, 1) := by decide +kernel
theorem d2_18 : decode jdk_42_method_149_code 18 = .ok (.ldc 7, 2) := by decide +kernel
theorem d2_20 : decode jdk_42_method_149_code 20 = .ok (.getfield 15, 3) := by decide +kernel
theorem d2_23 : decode jdk_42_method_149_code 23 = .ok (.putfield 15, 3) := by decide +kernel
theorem d2_26 : decode jdk_42_method_149_code 26 = .ok (.return_, 1) := by decide +kernel
theorem ef_2_0 (x0 : Addr) (x1 : Addr) (x2 : Int32) (x3 : Int32) (m : MethodId) : entryFrame m #[(.ref x0), (.ref x1), (.int x2), (.int x3), .null] 6 = mkF m 0 #[.val (.ref x0), .val (.ref x1), .val (.int x2), .val (.int x3), .val .null, .unset] [] := by first | (simp [entryFrame, mkF, argsToLocals, Value.category]; done) | rfl
def Q2_0 (Z : State) (a : Addr) (b : Addr) (h0 : Heap) (n0 : Nat) : Option Value → Heap → Prop := fun v h => v = none ∧ Keep h0 h [a] ∧ ∃ r, Str Z h a r []
theorem rm2_0 (l : Launch) (Z : State) (a0 : Array Value) (hw : HW Z a0) (a : Addr) (b : Addr) (h0 : Heap) (n0 : Nat) (Z0 : n0 ≤ h0.size) (F1 : Fld Z h0 a "java/lang/String" "value" "[B" .null) (F2 : Fld Z h0 a "java/lang/String" "coder" "B" (.int 0)) (E1 : Exa Z h0 a "java/lang/String") (G1 : n0 ≤ a) (O : Old Z n0 h0) (CH : Jvm.Lit.constHeld Z "java/lang/String" 7) (CW : Jvm.Lit.compactW.before a0 Z = true) : CtrI l Z (⟨"java/lang/String", "<init>", "([CIILjava/lang/Void;)V"⟩ : MethodName) jdk_42_method_149_code 6 none ({ frames := 1, cells := 2, slots := 4, locals := 12 } : Room) #[(.ref a), (.ref b), (.int 0), (.int 0), .null] h0 n0 (Q2_0 Z a b h0 n0) := by
 refine CtrI.of (plainFor_of_name pn_13) (ef_2_0 a b (0 : Int32) (0 : Int32)) ?_
 intro p e s m below meth c T0 hx hby hml hown hnm hret hlk hZ X0 e0 hsh hI
 have N0 := Fr.nil n0
 refine g_aloadN X0 hx (hb hby d2_0) (pc' := 1) rfl rfl rfl ?_
 obtain ⟨T891, X891, e891, st891⟩ := initO X0 hx hZ hown (wd hw 11 rfl) (wd hw 12 rfl) (wd hw 13 rfl) e0 (g := (mkF m 1 #[vR a, vR b, vI 0, vI 0, .val .null, .unset] [(.ref a)])) rfl (by rw [hml]; rfl) rfl (hb hby d2_1) (by decide) (W := 0) (by show 2 * 0 + _ ≤ _; exact Nat.le_of_eq rfl) (by decide)
 refine Go.movp st891 (mkF m 4 #[vR a, vR b, vI 0, vI 0, .val .null, .unset] []) rfl ?_
 refine g_iloadN X891 hx (hb hby d2_4) (pc' := 5) rfl rfl ?_
 refine g_if_ne X891 hx (hb hby d2_5) (pc1 := 8) rfl (by decide) (pc2 := 27) (by decide) (fun hc5 => absurd (by decide) hc5) (fun hc5 => ?_)
 refine g_aloadN X891 hx (hb hby d2_8) (pc' := 9) rfl rfl rfl ?_
 obtain ⟨sx, T892, h892, k892, bx, kx, X892, e892, E892, S892, kk892, hZ, hown, Ex, Fc, Fv, Ax, -, -, -, Lx, st892⟩ := ldcSVL (s := s) (vm0 := s.vm) X891 hx hZ hown (wd hw 92 rfl) (strAtoms hw) e891 ((State.WarmedH.refl s).since 0) (Nat.zero_le _) (Fr.nil _) (fun b cl q => by rw [hsh]; exact O.2.2 b cl q) (own_ib hI) (by simp) CH CW (vs := []) (z := 0) ⟨by simp, rfl⟩ (by decide) rfl (g := (mkF m 9 #[vR a, vR b, vI 0, vI 0, .val .null, .unset] [(.ref a)])) rfl (hb hby d2_9) (n := 0) (by decide) (by decide) (by decide) (by decide)
 have f893 := Fld.ext E892 F1
 have f894 := Fld.ext E892 F2
 have f895 := Exa.ext E892 E1
 have f896 := O.ext E892
 have Z897 : n0 ≤ h892.size := Nat.le_trans Z0 E892.1
 have K898 := (Keep.refl h0 [a]).ext E892
 refine Go.movp st892 (mkF m 11 #[vR a, vR b, vI 0, vI 0, .val .null, .unset] [(.ref sx), (.ref a)]) rfl ?_
 have Vx := own_va0 Ax
 have nex : bx ≠ a := own_ne f895 (wd hw 1 rfl) Vx
 obtain ⟨T899, X899, e899, st899⟩ := getF X892 hx hZ hown (host := "") (Or.inl (wd hw 28 rfl)) Via.refl e892 Fv (g := (mkF m 11 #[vR a, vR b, vI 0, vI 0, .val .null, .unset] [(.ref sx), (.ref a)])) rfl rfl (hb hby d2_11)
 refine Go.movp st899 (mkF m 14 #[vR a, vR b, vI 0, vI 0, .val .null, .unset] [(.ref bx), (.ref a)]) rfl ?_
 obtain ⟨T900, h900, X900, e900, W900, st900⟩ := putF X899 hx hZ hown (host := "") (Or.inl (wd hw 28 rfl)) Via.refl e899 f893 f895 (Or.inr ⟨(wd hw 29 rfl), rfl, hnm⟩) (wd hw 1 rfl) (ty := (.array .byte)) (by decide) rfl rfl (g := (mkF m 14 #[vR a, vR b, vI 0, vI 0, .val .null, .unset] [(.ref bx), (.ref a)])) rfl rfl (hb hby d2_14)
 have f901 : Fld Z h900 a "java/lang/String" "value" "[B" (.ref bx) := Fld.same W900 f893
 have N900 := Fr.snoc X900 N0 G1
 have f902 := Fld.other W900 f894 (Or.inr (slot_ne (Or.inr (wd hw 27 rfl)) (Or.inr (wd hw 29 rfl)) (by decide) (t := .byte) (t' := (.array .byte)) (by decide) (by decide)))
 have f903 := Exa.wr W900 f895
 have f904 := f896.wr W900 G1
 have f905 := Nat.le_trans kk892 (Keep.of_wr W900).1
 have f906 := Vx.other W900 nex
 have Z907 : n0 ≤ h900.size := Nat.le_trans Z897 (Keep.of_wr W900).1
 have K908 := K898.wr W900 (Or.inl (List.mem_of_getElem? (i := 0) rfl))
 refine Go.movp st900 (mkF m 17 #[vR a, vR b, vI 0, vI 0, .val .null, .unset] []) rfl ?_
 refine g_aloadN X900 hx (hb hby d2_17) (pc' := 18) rfl rfl rfl ?_
 have Fc2 := Fld.other W900 Fc (Or.inr (slot_ne (Or.inr (wd hw 27 rfl)) (Or.inr (wd hw 29 rfl)) (by decide) (t := .byte) (t' := (.array .byte)) (by decide) (by decide)))
 refine Go.movp (ldcAgain X900 hx hZ hown (wd hw 92 rfl) Lx (g := (mkF m 18 #[vR a, vR b, vI 0, vI 0, .val .null, .unset] [(.ref a)])) rfl (hb hby d2_18)) (mkF m 20 #[vR a, vR b, vI 0, vI 0, .val .null, .unset] [(.ref sx), (.ref a)]) rfl ?_
 obtain ⟨T909, X909, e909, st909⟩ := getF X900 hx hZ hown (host := "") (Or.inl (wd hw 26 rfl)) Via.refl e900 Fc2 (g := (mkF m 20 #[vR a, vR b, vI 0, vI 0, .val .null, .unset] [(.ref sx), (.ref a)])) rfl rfl (hb hby d2_20)
 refine Go.movp st909 (mkF m 23 #[vR a, vR b, vI 0, vI 0, .val .null, .unset] [(.int 0), (.ref a)]) rfl ?_
 obtain ⟨T910, h910, X910, e910, W910, st910⟩ := putFN X909 hx hZ hown (wd hw 26 rfl) Via.refl e909 f902 f903 (Or.inr ⟨(wd hw 27 rfl), rfl, hnm⟩) (wd hw 1 rfl) (ty := .byte) (v' := .int (nar .byte (0 : Int32))) (by decide) rfl (fits_nar_byte _) (g := (mkF m 23 #[vR a, vR b, vI 0, vI 0, .val .null, .unset] [(.int 0), (.ref a)])) rfl rfl (hb hby d2_23)
 have f911 : Fld Z h910 a "java/lang/String" "coder" "B" (.int (byt (0 : Int32))) := Fld.same W910 f902
 have N910 := Fr.snoc X910 N900 G1
 have f912 := Exa.wr W910 f903
 have f913 := f904.wr W910 G1
 have f914 := Nat.le_trans f905 (Keep.of_wr W910).1
 have f915 := f906.other W910 nex
 have f916 := Fld.other W910 f901 (Or.inr (slot_ne (Or.inr (wd hw 29 rfl)) (Or.inr (wd hw 27 rfl)) (by decide) (t := (.array .byte)) (t' := .byte) (by decide) (by decide)))
 have Z917 : n0 ≤ h910.size := Nat.le_trans Z907 (Keep.of_wr W910).1
 have K918 := K908.wr W910 (Or.inl (List.mem_of_getElem? (i := 0) rfl))
 refine Go.movp st910 (mkF m 26 #[vR a, vR b, vI 0, vI 0, .val .null, .unset] []) rfl ?_
 exact g_return X910 hx hret (hb hby d2_26) N910 hlk (fun v t => endW S892 (show _ ≤ T910.heap.size by rw [e910]; exact f914) (by decide) (by decide) v) (by rw [e910]; exact ⟨rfl, K918, bx, Or.inl ⟨(by have q := f911; rw [show byt (0 : Int32) = 0 from by decide] at q; exact q), f916, f912, f915, fun _ q => nomatch q⟩⟩)
theorem ef_1_0 (x0 : Addr) (x1 : Addr) (m : MethodId) : entryFrame m #[(.ref x0), (.ref x1)] 2 = mkF m 0 #[.val (.ref x0), .val (.ref x1)] [] := by first | (simp [entryFrame, mkF, argsToLocals, Value.category]; done) | rfl
def Q1_0 (Z : State) (a : Addr) (b : Addr) (h0 : Heap) (n0 : Nat) : Option Value → Heap → Prop := fun v h => v = none ∧ Keep h0 h [a] ∧ ∃ r, Str Z h a r []
theorem rm1_0 (l : Launch) (Z : State) (a0 : Array Value) (hw : HW Z a0) (a : Addr) (b : Addr) (h0 : Heap) (n0 : Nat) (Z0 : n0 ≤ h0.size) (F1 : Fld Z h0 a "java/lang/String" "value" "[B" .null) (F2 : Fld Z h0 a "java/lang/String" "coder" "B" (.int 0)) (E1 : Exa Z h0 a "java/lang/String") (G1 : n0 ≤ a) (O : Old Z n0 h0) (CH : Jvm.Lit.constHeld Z "java/lang/String" 7) (CW : Jvm.Lit.compactW.before a0 Z = true) (V1 : Va Z h0 b .char []) : CtrI l Z (⟨"java/lang/String", "<init>", "([C)V"⟩ : MethodName) jdk_42_method_3_code 2 none ({ frames := 2, cells := 2, slots := 4, locals := 29 } : Room) #[(.ref a), (.ref b)] h0 n0 (Q1_0 Z a b h0 n0) := by
 refine CtrI.of (plainFor_of_name pn_13) (ef_1_0 a b) ?_
 intro p e s m below meth c T0 hx hby hml hown hnm hret hlk hZ X0 e0 hsh hI
 have N0 := Fr.nil n0
 refine g_aloadN X0 hx (hb hby d1_0) (pc' := 1) rfl rfl rfl ?_
 refine g_aloadN X0 hx (hb hby d1_1) (pc' := 2) rfl rfl rfl ?_
 refine g_iconst X0 hx (hb hby d1_2) (pc' := 3) rfl (z := 0) rfl ?_
 refine g_aloadN X0 hx (hb hby d1_3) (pc' := 4) rfl rfl rfl ?_
 refine g_arraylength X0 hx hZ e0 V1 (z := 0) (hb hby d1_4) (pc' := 5) rfl rfl ?_
 refine g_aconst_null X0 hx (hb hby d1_5) (pc' := 6) rfl ?_
 obtain ⟨v919, T919, h919, L919, X919, e919, N919, q919, S919, hZ, hown, st919⟩ := h_specialI (a := a) X0 hx (W := 0) (Ls := #[vR a, vR b]) (argsL := [(.ref b), (.int 0), (.int 0), .null]) (rest := []) hZ e0 N0 hml hown hI rfl (rm2_0 l Z a0 hw a b h0 n0 Z0 F1 F2 E1 G1 O CH CW) (wd hw 7 rfl) (wd hw 8 rfl) (wd hw 2 rfl) (wd hw 10 rfl) (by decide) pd___CIILjava_lang_Void__V rfl rfl (hb hby d1_6) rfl (by decide) (by decide) (by decide) (by decide)
 obtain ⟨rfl, K919, r919, U919⟩ := q919
 have f920 := E1.keep K919
 have f921 := O.keep K919 (allS G1 all0)
 have Z922 : n0 ≤ h919.size := Nat.le_trans Z0 K919.1
 have K923 := (Keep.refl h0 [a]).trans K919 (allS (Or.inl (List.mem_of_getElem? (i := 0) rfl)) all0)
 refine Go.movp st919 (mkF m 9 #[vR a, vR b] []) rfl ?_
 exact g_return X919 hx hret (hb hby d1_9) N919 hlk (fun v t => endW S919 (show _ ≤ T919.heap.size by rw [e919]; exact (Nat.le_refl _)) (by decide) (by decide) v) (by rw [e919]; exact ⟨rfl, K923, r919, U919⟩)
theorem d15_0 : decode jdk_65_method_103_code 0 = .ok (.iconst 0, 1) := by decide +kernel
theorem d15_1 : decode jdk_65_method_103_code 1 = .ok (.istore_n 2, 1) := by decide +kernel
theorem d15_2 : decode jdk_65_method_103_code 2 = .ok (.aload_n 0, 1) := by decide +kernel
theorem d15_3 : decode jdk_65_method_103_code 3 = .ok (.arraylength, 1) := by decide +kernel
theorem d15_4 : decode jdk_65_method_103_code 4 = .ok (.istore_n 3, 1) := by decide +kernel
theorem d15_5 : decode jdk_65_method_103_code 5 = .ok (.iload_n 2, 1) := by decide +kernel
theorem d15_6 : decode jdk_65_method_103_code 6 = .ok (.iload_n 3, 1) := by decide +kernel
theorem d15_7 : decode jdk_65_method_103_code 7 = .ok (.if_icmp .ge 13, 3) := by decide +kernel
theorem d15_10 : decode jdk_65_method_103_code 10 = .ok (.aload_n 0, 1) := by decide +kernel
theorem d15_11 : decode jdk_65_method_103_code 11 = .ok (.iload_n 2, 1) := by decide +kernel
theorem d15_12 : decode jdk_65_method_103_code 12 = .ok (.iload_n 1, 1) := by decide +kernel
theorem d15_13 : decode jdk_65_method_103_code 13 = .ok (.iastore, 1) := by decide +kernel
theorem d15_14 : decode jdk_65_method_103_code 14 = .ok (.iinc 2 1, 3) := by decide +kernel
theorem d15_17 : decode jdk_65_method_103_code 17 = .ok (.goto (-12), 3) := by decide +kernel
theorem d15_20 : decode jdk_65_method_103_code 20 = .ok (.return_, 1) := by decide +kernel
theorem pn_15 : plainName "java/util/Arrays" = true := by first | (simp [plainName, overriddenIn]; done) | decide +kernel
theorem ef_15 (x0 : Addr) (x1 : Int32) (m : MethodId) : entryFrame m #[(.ref x0), (.int x1)] 4 = mkF m 0 #[.val (.ref x0), .val (.int x1), .unset, .unset] [] := by first | (simp [entryFrame, mkF, argsToLocals, Value.category]; done) | rfl
def Q15 (Z : State) (a : Addr) (vv : Int32) (h0 : Heap) (n0 : Nat) : Option Value → Heap → Prop := fun v h => v = none ∧ Keep h0 h [a] ∧ Va Z h a .int (List.replicate 256 (.int vv))
theorem rm15 (l : Launch) (Z : State) (a0 : Array Value) (hw : HW Z a0) (a : Addr) (vv : Int32) (h0 : Heap) (n0 : Nat) (Z0 : n0 ≤ h0.size) (V1 : Va Z h0 a .int (List.replicate 256 (.int 0))) (G1 : n0 ≤ a) : Ctr l Z (⟨"java/util/Arrays", "fill", "([II)V"⟩ : MethodName) jdk_65_method_103_code 4 none ({ frames := 0, cells := 0, slots := 0, locals := 0 } : Room) #[(.ref a), (.int vv)] h0 n0 (Q15 Z a vv h0 n0) := by
 refine Ctr.of (plainFor_of_name pn_15) (ef_15 a vv) ?_
 intro p e s m below meth c T0 hx hby hml hown hnm hret hlk hZ X0 e0
 have N0 := Fr.nil n0
 refine g_iconst X0 hx (hb hby d15_0) (pc' := 1) rfl (z := 0) rfl ?_
 refine g_istoreN X0 hx (hb hby d15_1) (pc' := 2) rfl (Ls' := #[vR a, vI vv, vI 0, .unset]) rfl ?_
 refine g_aloadN X0 hx (hb hby d15_2) (pc' := 3) rfl rfl rfl ?_
 refine g_arraylength X0 hx hZ e0 V1 (z := 256) (hb hby d15_3) (pc' := 4) rfl (by rw [List.length_replicate]; rfl) ?_
 refine g_istoreN X0 hx (hb hby d15_4) (pc' := 5) rfl (Ls' := #[vR a, vI vv, vI 0, vI 256]) rfl ?_
 have LOOP : ∀ (f k : Nat) (Tq924 : State) (hq924 : Heap) (Lq924 : List Loc) (Xq924 : Stand p l e ({ frames := 0, cells := 0, slots := 0, locals := 0 } : Room) s m #[(.ref a), (.int vv)] below meth c Tq924 Lq924 0 0) (eq924 : Tq924.heap = hq924) (Nq924 : Fr n0 Lq924) (Zq924 : n0 ≤ hq924.size) (Kq924 : Keep h0 hq924 [a]) (Vq924 : Va Z hq924 a .int (List.replicate k (.int vv) ++ List.replicate f (.int 0))), k + f = 256 → Go p e below (EndF s ({ frames := 0, cells := 0, slots := 0, locals := 0 } : Room).cells ({ frames := 0, cells := 0, slots := 0, locals := 0 } : Room).slots) n0 (Q15 Z a vv h0 n0) Tq924 (mkF m 5 #[vR a, vI vv, vI k.toInt32, vI 256] []) := by
  intro f
  induction f with
  | zero =>
   intro k Tq924 hq924 Lq924 Xq924 eq924 Nq924 Zq924 Kq924 Vq924 hk
   refine g_iloadN Xq924 hx (hb hby d15_5) (pc' := 6) rfl rfl ?_
   refine g_iloadN Xq924 hx (hb hby d15_6) (pc' := 7) rfl rfl ?_
   refine g_icmp_ge Xq924 hx (hb hby d15_7) (pc1 := 10) rfl (by decide) (pc2 := 20) (by decide) (fun hc7 => ?_) (fun hc7 => absurd hc7 (by rw [show k = 256 by omega]; decide))
   exact g_return Xq924 hx hret (hb hby d15_20) Nq924 hlk (fun v t => endF (by decide) (by decide) v) (by rw [eq924]; exact ⟨rfl, Kq924, Va.eq Vq924 (by rw [show k = 256 by omega]; simp)⟩)
  | succ f ih =>
   intro k Tq924 hq924 Lq924 Xq924 eq924 Nq924 Zq924 Kq924 Vq924 hk
   refine g_iloadN Xq924 hx (hb hby d15_5) (pc' := 6) rfl rfl ?_
   refine g_iloadN Xq924 hx (hb hby d15_6) (pc' := 7) rfl rfl ?_
   refine g_icmp_ge Xq924 hx (hb hby d15_7) (pc1 := 10) rfl (by decide) (pc2 := 20) (by decide) (fun hc7 => absurd (t32_lt' (by omega)) hc7) (fun hc7 => ?_)
   refine g_aloadN Xq924 hx (hb hby d15_10) (pc' := 11) rfl rfl rfl ?_
   refine g_iloadN Xq924 hx (hb hby d15_11) (pc' := 12) rfl rfl ?_
   refine g_iloadN Xq924 hx (hb hby d15_12) (pc' := 13) rfl rfl ?_
   obtain ⟨T925, h925, L925, X925, e925, N925, W925, V925, st925⟩ := h_iastore Xq924 hx hZ eq924 Nq924 Vq924 G1 (j := k.toInt32) (i := k) (x := vv) (hb hby d15_13) (t32_nn' (by omega)) (t32_nat' (by omega)) own_fillat #[vR a, vI vv, vI k.toInt32, vI 256] []
   have Z926 : n0 ≤ h925.size := Nat.le_trans Zq924 (Keep.of_wr W925).1
   have K927 := Kq924.wr W925 (Or.inl (List.mem_of_getElem? (i := 0) rfl))
   refine Go.movp st925 (mkF m 14 #[vR a, vI vv, vI k.toInt32, vI 256] []) rfl ?_
   refine g_iinc X925 hx (hb hby d15_14) (pc' := 17) rfl rfl (z := 1) rfl (Ls' := #[vR a, vI vv, vI (k.toInt32 + (1 : Int32)), vI 256]) rfl ?_
   refine g_goto X925 hx (hb hby d15_17) (by decide) (pc' := 5) (by decide) ?_
   refine Go.cast (show (mkF m 5 #[vR a, vI vv, vI (k.toInt32 + (1 : Int32)), vI 256] []) = (mkF m 5 #[vR a, vI vv, vI (k + 1).toInt32, vI 256] []) from by rw [show (k.toInt32 + (1 : Int32)) = (k + 1).toInt32 from (t32_succ' (by omega))]) ?_
   exact ih (k + 1) T925 h925 _ X925 e925 N925 Z926 K927 (Va.eq V925 own_fill) (by omega)
 exact LOOP 256 0 T0 h0 _ X0 e0 N0 Z0 (Keep.refl h0 [a]) (Va.eq V1 (by simp)) rfl
theorem d16_0 : decode prog_13_method_2_code 0 = .ok (.aload_n 0, 1) := by decide +kernel
theorem d16_1 : decode prog_13_method_2_code 1 = .ok (.getfield 13, 3) := by decide +kernel
theorem d16_4 : decode prog_13_method_2_code 4 = .ok (.iload_n 1, 1) := by decide +kernel
theorem d16_5 : decode prog_13_method_2_code 5 = .ok (.bipush 8, 2) := by decide +kernel
theorem d16_7 : decode prog_13_method_2_code 7 = .ok (.iushr, 1) := by decide +kernel
theorem d16_8 : decode prog_13_method_2_code 8 = .ok (.aaload, 1) := by decide +kernel
theorem d16_9 : decode prog_13_method_2_code 9 = .ok (.astore_n 2, 1) := by decide +kernel
theorem d16_10 : decode prog_13_method_2_code 10 = .ok (.aload_n 2, 1) := by decide +kernel
theorem d16_11 : decode prog_13_method_2_code 11 = .ok (.ifnonnull 7, 3) := by decide +kernel
theorem d16_14 : decode prog_13_method_2_code 14 = .ok (.iconst (-1), 1) := by decide +kernel
theorem d16_15 : decode prog_13_method_2_code 15 = .ok (.goto 10, 3) := by decide +kernel
theorem d16_18 : decode prog_13_method_2_code 18 = .ok (.aload_n 2, 1) := by decide +kernel
theorem d16_19 : decode prog_13_method_2_code 19 = .ok (.iload_n 1, 1) := by decide +kernel
theorem d16_20 : decode prog_13_method_2_code 20 = .ok (.sipush 255, 3) := by decide +kernel
theorem d16_23 : decode prog_13_method_2_code 23 = .ok (.iand, 1) := by decide +kernel
theorem d16_24 : decode prog_13_method_2_code 24 = .ok (.iaload, 1) := by decide +kernel
theorem d16_25 : decode prog_13_method_2_code 25 = .ok (.ireturn, 1) := by decide +kernel
theorem pn_16 : plainName "com/example/needlework/needlework/LastOccurrence" = true := by first | (simp [plainName, overriddenIn]; done) | decide +kernel
theorem ef_16 (x0 : Addr) (x1 : Int32) (m : MethodId) : entryFrame m #[(.ref x0), (.int x1)] 3 = mkF m 0 #[.val (.ref x0), .val (.int x1), .unset] [] := by first | (simp [entryFrame, mkF, argsToLocals, Value.category]; done) | rfl
def Q16 (Z : State) (a : Addr) (pa : Addr) (d : Int32) (cc : Cell) (M : Nat → Int32) (lo : Nat) (hi : Nat) (h0 : Heap) (n0 : Nat) : Option Value → Heap → Prop := fun v h => v = some (.int (M (cn d))) ∧ h0 = h
theorem rm16 (l : Launch) (Z : State) (a0 : Array Value) (hw : HW Z a0) (a : Addr) (pa : Addr) (d : Int32) (cc : Cell) (M : Nat → Int32) (lo : Nat) (hi : Nat) (h0 : Heap) (n0 : Nat) (Z0 : n0 ≤ h0.size) (F1 : Fld Z h0 a "com/example/needlework/needlework/LastOccurrence" "pages" "[[I" (.ref pa)) (PP : PG Z h0 lo hi pa cc M) (hd : chr d = d) : Ctr l Z (⟨"com/example/needlework/needlework/LastOccurrence", "of", "(C)I"⟩ : MethodName) prog_13_method_2_code 3 (some .int) ({ frames := 0, cells := 0, slots := 0, locals := 0 } : Room) #[(.ref a), (.int d)] h0 n0 (Q16 Z a pa d cc M lo hi h0 n0) := by
 refine Ctr.of (plainFor_of_name pn_16) (ef_16 a d) ?_
 intro p e s m below meth c T0 hx hby hml hown hnm hret hlk hZ X0 e0
 have N0 := Fr.nil n0
 refine g_aloadN X0 hx (hb hby d16_0) (pc' := 1) rfl rfl rfl ?_
 obtain ⟨T928, X928, e928, st928⟩ := getF X0 hx hZ hown (host := "") (Or.inl (wd hw 39 rfl)) Via.refl e0 F1 (g := (mkF m 1 #[vR a, vI d, .unset] [(.ref a)])) rfl rfl (hb hby d16_1)
 refine Go.movp st928 (mkF m 4 #[vR a, vI d, .unset] [(.ref pa)]) rfl ?_
 refine g_iloadN X928 hx (hb hby d16_4) (pc' := 5) rfl rfl ?_
 refine g_bipush X928 hx (hb hby d16_5) (pc' := 7) rfl (z := 8) rfl ?_
 refine g_iushr X928 hx (hb hby d16_7) (pc' := 8) rfl ?_
 rcases PG.at PP hd with ⟨qn, qm⟩ | ⟨rp, vp, qr, ql, qp, qv, qw, qx⟩
 ·
  refine g_aaload X928 hx hZ e928 PP.1 rfl (v := .null) (hb hby d16_8) (pc' := 9) rfl (own_hi hd).1 (own_hi hd).2.1 (by rw [PP.2.2.1]; exact (own_hi hd).2.2) qn ?_
  refine g_astoreN X928 hx (hb hby d16_9) (pc' := 10) rfl rfl (Ls' := #[vR a, vI d, .val .null]) rfl ?_
  refine g_aloadN X928 hx (hb hby d16_10) (pc' := 11) rfl rfl rfl ?_
  refine g_ifnonnull_n X928 hx (hb hby d16_11) (pc' := 14) rfl ?_
  refine g_iconst X928 hx (hb hby d16_14) (pc' := 15) rfl (z := (-1 : Int32)) rfl ?_
  refine g_goto X928 hx (hb hby d16_15) (by decide) (pc' := 25) (by decide) ?_
  exact g_ireturn X928 hx hret (hb hby d16_25) N0 hlk (fun v t => endF (by decide) (by decide) v) (by rw [e928]; exact ⟨by rw [qm], rfl⟩)
 ·
  refine g_aaload X928 hx hZ e928 PP.1 rfl (v := (.ref rp)) (hb hby d16_8) (pc' := 9) rfl (own_hi hd).1 (own_hi hd).2.1 (by rw [PP.2.2.1]; exact (own_hi hd).2.2) qr ?_
  refine g_astoreN X928 hx (hb hby d16_9) (pc' := 10) rfl rfl (Ls' := #[vR a, vI d, vR rp]) rfl ?_
  refine g_aloadN X928 hx (hb hby d16_10) (pc' := 11) rfl rfl rfl ?_
  refine g_ifnonnull_y X928 hx (hb hby d16_11) (by decide) (pc' := 18) (by decide) ?_
  refine g_aloadN X928 hx (hb hby d16_18) (pc' := 19) rfl rfl rfl ?_
  refine g_iloadN X928 hx (hb hby d16_19) (pc' := 20) rfl rfl ?_
  refine g_sipush X928 hx (hb hby d16_20) (pc' := 23) rfl (z := 255) rfl ?_
  refine g_iand X928 hx (hb hby d16_23) (pc' := 24) rfl ?_
  refine g_iaload X928 hx hZ e928 qv (i := (cn d % 256)) (v := (.int (M (cn d)))) (hb hby d16_24) (pc' := 25) rfl (own_lo hd).1 (own_lo hd).2 qx ?_
  exact g_ireturn X928 hx hret (hb hby d16_25) N0 hlk (fun v t => endF (by decide) (by decide) v) (by rw [e928]; exact ⟨rfl, rfl⟩)
theorem pd___I : parseMethodDescriptor "()I" = some ⟨[], some .int⟩ := by decide +kernel
theorem d7_0 : decode prog_13_method_1_code 0 = .ok (.aload_n 0, 1) := by decide +kernel
theorem d7_1 : decode prog_13_method_1_code 1 = .ok (.invokespecial 3, 3) := by decide +kernel
theorem d7_4 : decode prog_13_method_1_code 4 = .ok (.aload_n 0, 1) := by decide +kernel
theorem d7_5 : decode prog_13_method_1_code 5 = .ok (.sipush 256, 3) := by decide +kernel
theorem d7_8 : decode prog_13_method_1_code 8 = .ok (.anewarray 11, 3) := by decide +kernel
theorem d7_11 : decode prog_13_method_1_code 11 = .ok (.putfield 13, 3) := by decide +kernel
theorem d7_14 : decode prog_13_method_1_code 14 = .ok (.aload_n 1, 1) := by decide +kernel
theorem d7_15 : decode prog_13_method_1_code 15 = .ok (.invokeinterface 17 1, 5) := by decide +kernel
theorem d7_20 : decode prog_13_method_1_code 20 = .ok (.istore_n 2, 1) := by decide +kernel
theorem d7_21 : decode prog_13_method_1_code 21 = .ok (.iconst 0, 1) := by decide +kernel
theorem d7_22 : decode prog_13_method_1_code 22 = .ok (.istore_n 3, 1) := by decide +kernel
theorem d7_23 : decode prog_13_method_1_code 23 = .ok (.iload_n 3, 1) := by decide +kernel
theorem d7_24 : decode prog_13_method_1_code 24 = .ok (.iload_n 2, 1) := by decide +kernel
theorem d7_25 : decode prog_13_method_1_code 25 = .ok (.if_icmp .ge 70, 3) := by decide +kernel
theorem d7_95 : decode prog_13_method_1_code 95 = .ok (.return_, 1) := by decide +kernel
theorem ef_7_0 (x0 : Addr) (x1 : Addr) (m : MethodId) : entryFrame m #[(.ref x0), (.ref x1)] 6 = mkF m 0 #[.val (.ref x0), .val (.ref x1), .unset, .unset, .unset, .unset] [] := by first | (simp [entryFrame, mkF, argsToLocals, Value.category]; done) | rfl
def Q7_0 (Z : State) (a : Addr) (sa : Addr) (sb : Addr) (cs : Int32) (fv : Value) (h0 : Heap) (n0 : Nat) : Option Value → Heap → Prop := fun v h => v = none ∧ Keep h0 h [a] ∧ ∃ pa cc, Fld Z h a "com/example/needlework/needlework/LastOccurrence" "pages" "[[I" (.ref pa) ∧ Exa Z h a "com/example/needlework/needlework/LastOccurrence" ∧ PG Z h h0.size h.size pa cc (fun _ => -1)
theorem rm7_0 (l : Launch) (Z : State) (a0 : Array Value) (hw : HW Z a0) (a : Addr) (sa : Addr) (sb : Addr) (cs : Int32) (fv : Value) (h0 : Heap) (n0 : Nat) (Z0 : n0 ≤ h0.size) (F1 : Fld Z h0 a "com/example/needlework/needlework/LastOccurrence" "pages" "[[I" .null) (E1 : Exa Z h0 a "com/example/needlework/needlework/LastOccurrence") (G1 : n0 ≤ a) (HS : Str Z h0 sa sb []) (ne1 : sa ≠ a) (ne2 : sb ≠ a) (B : Sts Z cs fv) (O : Old Z n0 h0) : Ctr l Z (⟨"com/example/needlework/needlework/LastOccurrence", "<init>", "(Ljava/lang/CharSequence;)V"⟩ : MethodName) prog_13_method_1_code 6 none ({ frames := 2, cells := 1, slots := 256, locals := 25 } : Room) #[(.ref a), (.ref sa)] h0 n0 (Q7_0 Z a sa sb cs fv h0 n0) := by
 refine Ctr.of (plainFor_of_name pn_16) (ef_7_0 a sa) ?_
 intro p e s m below meth c T0 hx hby hml hown hnm hret hlk hZ X0 e0
 have N0 := Fr.nil n0
 refine g_aloadN X0 hx (hb hby d7_0) (pc' := 1) rfl rfl rfl ?_
 obtain ⟨T929, X929, e929, st929⟩ := initO X0 hx hZ hown (wd hw 36 rfl) (wd hw 12 rfl) (wd hw 13 rfl) e0 (g := (mkF m 1 #[vR a, vR sa, .unset, .unset, .unset, .unset] [(.ref a)])) rfl (by rw [hml]; rfl) rfl (hb hby d7_1) (by decide) (W := 0) (by show 2 * 0 + _ ≤ _; exact Nat.le_of_eq rfl) (by decide)
 refine Go.movp st929 (mkF m 4 #[vR a, vR sa, .unset, .unset, .unset, .unset] []) rfl ?_
 refine g_aloadN X929 hx (hb hby d7_4) (pc' := 5) rfl rfl rfl ?_
 refine g_sipush X929 hx (hb hby d7_5) (pc' := 8) rfl (z := 256) rfl ?_
 obtain ⟨T930, h930, cA, X930, e930, E930, A930, Ex930, OA, st930⟩ := newRA X929 hx hZ hown (C := "[I") (ty := .int) rfl (wd hw 37 rfl) (wd hw 38 rfl) e929 (g := (mkF m 8 #[vR a, vR sa, .unset, .unset, .unset, .unset] [(.int 256), (.ref a)])) rfl (hb hby d7_8) rfl (by decide) (cap := 256) (by decide) (by decide) (by decide) (by decide) (ad := "[[I") rfl
 obtain ⟨pa, g930⟩ : ∃ z, z = h0.size := ⟨_, rfl⟩
 rw [← g930] at A930 Ex930 st930
 have ne931 : a ≠ pa := Nat.ne_of_lt (g930 ▸ F1.lt)
 have ge932 : n0 ≤ pa := g930 ▸ Z0
 have sz933 : h0.size ≤ pa := g930 ▸ (Keep.refl h0 [a]).1
 have f934 := O.ext E930
 have f935 := Fld.ext E930 F1
 have f936 := Exa.ext E930 E1
 have Z937 : n0 ≤ h930.size := Nat.le_trans Z0 E930.1
 have K938 := (Keep.refl h0 [a]).ext E930
 have P930 := PG.new (lo := h0.size) (hi := h0.size) A930 OA
 refine Go.movp st930 (mkF m 11 #[vR a, vR sa, .unset, .unset, .unset, .unset] [(.ref pa), (.ref a)]) rfl ?_
 obtain ⟨T939, h939, X939, e939, W939, st939⟩ := putF X930 hx hZ hown (host := "") (Or.inl (wd hw 39 rfl)) Via.refl e930 f935 f936 (Or.inr ⟨(wd hw 40 rfl), rfl, hnm⟩) (wd hw 31 rfl) (ty := (.array (.array .int))) (by decide) rfl rfl (g := (mkF m 11 #[vR a, vR sa, .unset, .unset, .unset, .unset] [(.ref pa), (.ref a)])) rfl rfl (hb hby d7_11)
 have f940 : Fld Z h939 a "com/example/needlework/needlework/LastOccurrence" "pages" "[[I" (.ref pa) := Fld.same W939 f935
 have N939 := Fr.snoc X939 N0 G1
 have f941 := f934.wr W939 G1
 have f942 := Exa.wr W939 f936
 have f943 := Exa.wr W939 Ex930
 have Z944 : n0 ≤ h939.size := Nat.le_trans Z937 (Keep.of_wr W939).1
 have K945 := K938.wr W939 (Or.inl (List.mem_of_getElem? (i := 0) rfl))
 refine Go.movp st939 (mkF m 14 #[vR a, vR sa, .unset, .unset, .unset, .unset] []) rfl ?_
 have PA := (P930.other W939 ne931 E1.lt).mono K945.1
 refine g_aloadN X939 hx (hb hby d7_14) (pc' := 15) rfl rfl rfl ?_
 have HS946 := HS.keep K945 (ninS ne1 nin0) (ninS ne2 nin0)
 obtain ⟨v947, T947, h947, L947, X947, e947, N947, q947, st947⟩ := h_interface (a := sa) (z := (⟨"java/lang/String", "length", "()I"⟩ : MethodName)) X939 hx (W := 0) (Ls := #[vR a, vR sa, .unset, .unset, .unset, .unset]) (argsL := []) (rest := []) hZ e939 N939 hml hown (rm8_0 l Z a0 hw sa sb  cs fv h939 n0 Z944 HS946 B f941) HS946.exa (wd hw 41 rfl) (wd hw 42 rfl) (mvT hZ (wd hw 43 rfl)) (wd hw 44 rfl) (wd hw 45 rfl) (wd hw 46 rfl) (wd hw 47 rfl) (wd hw 48 rfl) (wd hw 2 rfl) (wd hw 49 rfl) (by decide) pd___I rfl rfl (hb hby d7_15) rfl (by decide) (by decide) (by decide) (by decide)
 obtain ⟨rfl, rfl⟩ := q947
 refine Go.movp st947 (mkF m 20 #[vR a, vR sa, .unset, .unset, .unset, .unset] [(.int 0)]) rfl ?_
 refine g_istoreN X947 hx (hb hby d7_20) (pc' := 21) rfl (Ls' := #[vR a, vR sa, vI 0, .unset, .unset, .unset]) rfl ?_
 refine g_iconst X947 hx (hb hby d7_21) (pc' := 22) rfl (z := 0) rfl ?_
 refine g_istoreN X947 hx (hb hby d7_22) (pc' := 23) rfl (Ls' := #[vR a, vR sa, vI 0, vI 0, .unset, .unset]) rfl ?_
 refine g_iloadN X947 hx (hb hby d7_23) (pc' := 24) rfl rfl ?_
 refine g_iloadN X947 hx (hb hby d7_24) (pc' := 25) rfl rfl ?_
 refine g_icmp_ge X947 hx (hb hby d7_25) (pc1 := 28) rfl (by decide) (pc2 := 95) (by decide) (fun hc25 => ?_) (fun hc25 => absurd hc25 (by decide))
 exact g_return X947 hx hret (hb hby d7_95) N947 hlk (fun v t => endF (by decide) (by decide) v) (by rw [e947]; exact ⟨rfl, K945, pa, _, f940, f942, PA⟩)
theorem pd__I_C : parseMethodDescriptor "(I)C" = some ⟨[.int], some .char⟩ := by decide +kernel
theorem pd___II_V : parseMethodDescriptor "([II)V" = some ⟨[(.array .int), .int], none⟩ := by decide +kernel
theorem d7_28 : decode prog_13_method_1_code 28 = .ok (.aload_n 1, 1) := by decide +kernel
theorem d7_29 : decode prog_13_method_1_code 29 = .ok (.iload_n 3, 1) := by decide +kernel
theorem d7_30 : decode prog_13_method_1_code 30 = .ok (.invokeinterface 23 2, 5) := by decide +kernel
theorem d7_35 : decode prog_13_method_1_code 35 = .ok (.istore 4, 2) := by decide +kernel
theorem d7_37 : decode prog_13_method_1_code 37 = .ok (.aload_n 0, 1) := by decide +kernel
theorem d7_38 : decode prog_13_method_1_code 38 = .ok (.getfield 13, 3) := by decide +kernel
theorem d7_41 : decode prog_13_method_1_code 41 = .ok (.iload 4, 2) := by decide +kernel
theorem d7_43 : decode prog_13_method_1_code 43 = .ok (.bipush 8, 2) := by decide +kernel
theorem d7_45 : decode prog_13_method_1_code 45 = .ok (.iushr, 1) := by decide +kernel
theorem d7_46 : decode prog_13_method_1_code 46 = .ok (.aaload, 1) := by decide +kernel
theorem d7_47 : decode prog_13_method_1_code 47 = .ok (.astore 5, 2) := by decide +kernel
theorem d7_49 : decode prog_13_method_1_code 49 = .ok (.aload 5, 2) := by decide +kernel
theorem d7_51 : decode prog_13_method_1_code 51 = .ok (.ifnonnull 28, 3) := by decide +kernel
theorem d7_54 : decode prog_13_method_1_code 54 = .ok (.sipush 256, 3) := by decide +kernel
theorem d7_57 : decode prog_13_method_1_code 57 = .ok (.newarray .int, 2) := by decide +kernel
theorem d7_59 : decode prog_13_method_1_code 59 = .ok (.astore 5, 2) := by decide +kernel
theorem d7_61 : decode prog_13_method_1_code 61 = .ok (.aload 5, 2) := by decide +kernel
theorem d7_63 : decode prog_13_method_1_code 63 = .ok (.iconst (-1), 1) := by decide +kernel
theorem d7_64 : decode prog_13_method_1_code 64 = .ok (.invokestatic 27, 3) := by decide +kernel
theorem d7_67 : decode prog_13_method_1_code 67 = .ok (.aload_n 0, 1) := by decide +kernel
theorem d7_68 : decode prog_13_method_1_code 68 = .ok (.getfield 13, 3) := by decide +kernel
theorem d7_71 : decode prog_13_method_1_code 71 = .ok (.iload 4, 2) := by decide +kernel
theorem d7_73 : decode prog_13_method_1_code 73 = .ok (.bipush 8, 2) := by decide +kernel
theorem d7_75 : decode prog_13_method_1_code 75 = .ok (.iushr, 1) := by decide +kernel
theorem d7_76 : decode prog_13_method_1_code 76 = .ok (.aload 5, 2) := by decide +kernel
theorem d7_78 : decode prog_13_method_1_code 78 = .ok (.aastore, 1) := by decide +kernel
theorem d7_79 : decode prog_13_method_1_code 79 = .ok (.aload 5, 2) := by decide +kernel
theorem d7_81 : decode prog_13_method_1_code 81 = .ok (.iload 4, 2) := by decide +kernel
theorem d7_83 : decode prog_13_method_1_code 83 = .ok (.sipush 255, 3) := by decide +kernel
theorem d7_86 : decode prog_13_method_1_code 86 = .ok (.iand, 1) := by decide +kernel
theorem d7_87 : decode prog_13_method_1_code 87 = .ok (.iload_n 3, 1) := by decide +kernel
theorem d7_88 : decode prog_13_method_1_code 88 = .ok (.iastore, 1) := by decide +kernel
theorem d7_89 : decode prog_13_method_1_code 89 = .ok (.iinc 3 1, 3) := by decide +kernel
theorem d7_92 : decode prog_13_method_1_code 92 = .ok (.goto (-69), 3) := by decide +kernel
theorem ef_7_1 (x0 : Addr) (x1 : Addr) (m : MethodId) : entryFrame m #[(.ref x0), (.ref x1)] 6 = mkF m 0 #[.val (.ref x0), .val (.ref x1), .unset, .unset, .unset, .unset] [] := by first | (simp [entryFrame, mkF, argsToLocals, Value.category]; done) | rfl
def Q7_1 (Z : State) (a : Addr) (sa : Addr) (sb : Addr) (c0 : Int32) (cs : Int32) (fv : Value) (h0 : Heap) (n0 : Nat) : Option Value → Heap → Prop := fun v h => v = none ∧ Keep h0 h [a] ∧ ∃ pa cc, Fld Z h a "com/example/needlework/needlework/LastOccurrence" "pages" "[[I" (.ref pa) ∧ Exa Z h a "com/example/needlework/needlework/LastOccurrence" ∧ PG Z h h0.size h.size pa cc (updM (fun _ => -1) (cn c0) (0 : Int32))
theorem rm7_1 (l : Launch) (Z : State) (a0 : Array Value) (hw : HW Z a0) (a : Addr) (sa : Addr) (sb : Addr) (c0 : Int32) (cs : Int32) (fv : Value) (h0 : Heap) (n0 : Nat) (Z0 : n0 ≤ h0.size) (F1 : Fld Z h0 a "com/example/needlework/needlework/LastOccurrence" "pages" "[[I" .null) (E1 : Exa Z h0 a "com/example/needlework/needlework/LastOccurrence") (G1 : n0 ≤ a) (HS : Str Z h0 sa sb [c0]) (ne1 : sa ≠ a) (ne2 : sb ≠ a) (B : Sts Z cs fv) (O : Old Z n0 h0) (hc0 : chr c0 = c0) : Ctr l Z (⟨"com/example/needlework/needlework/LastOccurrence", "<init>", "(Ljava/lang/CharSequence;)V"⟩ : MethodName) prog_13_method_1_code 6 none ({ frames := 5, cells := 2, slots := 512, locals := 66 } : Room) #[(.ref a), (.ref sa)] h0 n0 (Q7_1 Z a sa sb c0 cs fv h0 n0) := by
 refine Ctr.of (plainFor_of_name pn_16) (ef_7_1 a sa) ?_
 intro p e s m below meth c T0 hx hby hml hown hnm hret hlk hZ X0 e0
 have N0 := Fr.nil n0
 refine g_aloadN X0 hx (hb hby d7_0) (pc' := 1) rfl rfl rfl ?_
 obtain ⟨T948, X948, e948, st948⟩ := initO X0 hx hZ hown (wd hw 36 rfl) (wd hw 12 rfl) (wd hw 13 rfl) e0 (g := (mkF m 1 #[vR a, vR sa, .unset, .unset, .unset, .unset] [(.ref a)])) rfl (by rw [hml]; rfl) rfl (hb hby d7_1) (by decide) (W := 0) (by show 2 * 0 + _ ≤ _; exact Nat.le_of_eq rfl) (by decide)
 refine Go.movp st948 (mkF m 4 #[vR a, vR sa, .unset, .unset, .unset, .unset] []) rfl ?_
 refine g_aloadN X948 hx (hb hby d7_4) (pc' := 5) rfl rfl rfl ?_
 refine g_sipush X948 hx (hb hby d7_5) (pc' := 8) rfl (z := 256) rfl ?_
 obtain ⟨T949, h949, cA, X949, e949, E949, A949, Ex949, OA, st949⟩ := newRA X948 hx hZ hown (C := "[I") (ty := .int) rfl (wd hw 37 rfl) (wd hw 38 rfl) e948 (g := (mkF m 8 #[vR a, vR sa, .unset, .unset, .unset, .unset] [(.int 256), (.ref a)])) rfl (hb hby d7_8) rfl (by decide) (cap := 256) (by decide) (by decide) (by decide) (by decide) (ad := "[[I") rfl
 obtain ⟨pa, g949⟩ : ∃ z, z = h0.size := ⟨_, rfl⟩
 rw [← g949] at A949 Ex949 st949
 have ne950 : a ≠ pa := Nat.ne_of_lt (g949 ▸ F1.lt)
 have ge951 : n0 ≤ pa := g949 ▸ Z0
 have sz952 : h0.size ≤ pa := g949 ▸ (Keep.refl h0 [a]).1
 have f953 := O.ext E949
 have f954 := Fld.ext E949 F1
 have f955 := Exa.ext E949 E1
 have Z956 : n0 ≤ h949.size := Nat.le_trans Z0 E949.1
 have K957 := (Keep.refl h0 [a]).ext E949
 have P949 := PG.new (lo := h0.size) (hi := h0.size) A949 OA
 refine Go.movp st949 (mkF m 11 #[vR a, vR sa, .unset, .unset, .unset, .unset] [(.ref pa), (.ref a)]) rfl ?_
 obtain ⟨T958, h958, X958, e958, W958, st958⟩ := putF X949 hx hZ hown (host := "") (Or.inl (wd hw 39 rfl)) Via.refl e949 f954 f955 (Or.inr ⟨(wd hw 40 rfl), rfl, hnm⟩) (wd hw 31 rfl) (ty := (.array (.array .int))) (by decide) rfl rfl (g := (mkF m 11 #[vR a, vR sa, .unset, .unset, .unset, .unset] [(.ref pa), (.ref a)])) rfl rfl (hb hby d7_11)
 have f959 : Fld Z h958 a "com/example/needlework/needlework/LastOccurrence" "pages" "[[I" (.ref pa) := Fld.same W958 f954
 have N958 := Fr.snoc X958 N0 G1
 have f960 := f953.wr W958 G1
 have f961 := Exa.wr W958 f955
 have f962 := Exa.wr W958 Ex949
 have Z963 : n0 ≤ h958.size := Nat.le_trans Z956 (Keep.of_wr W958).1
 have K964 := K957.wr W958 (Or.inl (List.mem_of_getElem? (i := 0) rfl))
 refine Go.movp st958 (mkF m 14 #[vR a, vR sa, .unset, .unset, .unset, .unset] []) rfl ?_
 have PA := (P949.other W958 ne950 E1.lt).mono K964.1
 refine g_aloadN X958 hx (hb hby d7_14) (pc' := 15) rfl rfl rfl ?_
 have HS965 := HS.keep K964 (ninS ne1 nin0) (ninS ne2 nin0)
 obtain ⟨v966, T966, h966, L966, X966, e966, N966, q966, st966⟩ := h_interface (a := sa) (z := (⟨"java/lang/String", "length", "()I"⟩ : MethodName)) X958 hx (W := 0) (Ls := #[vR a, vR sa, .unset, .unset, .unset, .unset]) (argsL := []) (rest := []) hZ e958 N958 hml hown (rm8_1 l Z a0 hw sa sb c0 cs fv h958 n0 Z963 HS965 B f960) HS965.exa (wd hw 41 rfl) (wd hw 42 rfl) (mvT hZ (wd hw 43 rfl)) (wd hw 44 rfl) (wd hw 45 rfl) (wd hw 46 rfl) (wd hw 47 rfl) (wd hw 48 rfl) (wd hw 2 rfl) (wd hw 49 rfl) (by decide) pd___I rfl rfl (hb hby d7_15) rfl (by decide) (by decide) (by decide) (by decide)
 obtain ⟨rfl, rfl⟩ := q966
 refine Go.movp st966 (mkF m 20 #[vR a, vR sa, .unset, .unset, .unset, .unset] [(.int 1)]) rfl ?_
 refine g_istoreN X966 hx (hb hby d7_20) (pc' := 21) rfl (Ls' := #[vR a, vR sa, vI 1, .unset, .unset, .unset]) rfl ?_
 refine g_iconst X966 hx (hb hby d7_21) (pc' := 22) rfl (z := 0) rfl ?_
 refine g_istoreN X966 hx (hb hby d7_22) (pc' := 23) rfl (Ls' := #[vR a, vR sa, vI 1, vI 0, .unset, .unset]) rfl ?_
 have J1 : ∀ (Tq967 : State) (hq967 : Heap) (Lq967 : List Loc) (Xq967 : Stand p l e ({ frames := 5, cells := 2, slots := 512, locals := 66 } : Room) s m #[(.ref a), (.ref sa)] below meth c Tq967 Lq967 2 512) (eq967 : Tq967.heap = hq967) (Nq967 : Fr n0 Lq967) (Zq967 : n0 ≤ hq967.size) (Kq967 : Keep h0 hq967 [a]) (Oq967 : Old Z n0 hq967) (Fq967 : Fld Z hq967 a "com/example/needlework/needlework/LastOccurrence" "pages" "[[I" (.ref pa)) (Eq967 : Exa Z hq967 a "com/example/needlework/needlework/LastOccurrence") (cq967 : Cell) (Pq967 : PG Z hq967 h0.size hq967.size pa cq967 (updM (fun _ => -1) (cn c0) (0 : Int32))) (r5 : Addr), Go p e below (EndF s ({ frames := 5, cells := 2, slots := 512, locals := 66 } : Room).cells ({ frames := 5, cells := 2, slots := 512, locals := 66 } : Room).slots) n0 (Q7_1 Z a sa sb c0 cs fv h0 n0) Tq967 (mkF m 23 #[vR a, vR sa, vI 1, vI 1, vI c0, vR r5] []) := by
  intro Tq967 hq967 Lq967 Xq967 eq967 Nq967 Zq967 Kq967 Oq967 Fq967 Eq967 cq967 Pq967 r5
  refine g_iloadN Xq967 hx (hb hby d7_23) (pc' := 24) rfl rfl ?_
  refine g_iloadN Xq967 hx (hb hby d7_24) (pc' := 25) rfl rfl ?_
  refine g_icmp_ge Xq967 hx (hb hby d7_25) (pc1 := 28) rfl (by decide) (pc2 := 95) (by decide) (fun hc25 => ?_) (fun hc25 => absurd hc25 (by decide))
  exact g_return Xq967 hx hret (hb hby d7_95) Nq967 hlk (fun v t => endF (by decide) (by decide) v) (by rw [eq967]; exact ⟨rfl, Kq967, pa, _, Fq967, Eq967, Pq967⟩)
 refine g_iloadN X966 hx (hb hby d7_23) (pc' := 24) rfl rfl ?_
 refine g_iloadN X966 hx (hb hby d7_24) (pc' := 25) rfl rfl ?_
 refine g_icmp_ge X966 hx (hb hby d7_25) (pc1 := 28) rfl (by decide) (pc2 := 95) (by decide) (fun hc25 => absurd (by decide) hc25) (fun hc25 => ?_)
 refine g_aloadN X966 hx (hb hby d7_28) (pc' := 29) rfl rfl rfl ?_
 refine g_iloadN X966 hx (hb hby d7_29) (pc' := 30) rfl rfl ?_
 have HS968 := HS.keep K964 (ninS ne1 nin0) (ninS ne2 nin0)
 obtain ⟨v969, T969, h969, L969, X969, e969, N969, q969, st969⟩ := h_interface (a := sa) (z := (⟨"java/lang/String", "charAt", "(I)C"⟩ : MethodName)) X966 hx (W := 0) (Ls := #[vR a, vR sa, vI 1, vI 0, .unset, .unset]) (argsL := [(.int 0)]) (rest := []) hZ e966 N966 hml hown (rm10_1_0 l Z a0 hw sa sb c0 cs fv h958 n0 Z963 HS968 B f960 hc0) HS968.exa (wd hw 55 rfl) (wd hw 56 rfl) (mvT hZ (wd hw 57 rfl)) (wd hw 58 rfl) (wd hw 59 rfl) (wd hw 60 rfl) (wd hw 61 rfl) (wd hw 48 rfl) (wd hw 2 rfl) (wd hw 62 rfl) (by decide) pd__I_C rfl rfl (hb hby d7_30) rfl (by decide) (by decide) (by decide) (by decide)
 obtain ⟨rfl, rfl⟩ := q969
 refine Go.movp st969 (mkF m 35 #[vR a, vR sa, vI 1, vI 0, .unset, .unset] [(.int c0)]) rfl ?_
 refine g_istore X969 hx (hb hby d7_35) (pc' := 37) rfl (Ls' := #[vR a, vR sa, vI 1, vI 0, vI c0, .unset]) rfl ?_
 refine g_aloadN X969 hx (hb hby d7_37) (pc' := 38) rfl rfl rfl ?_
 obtain ⟨T970, X970, e970, st970⟩ := getF X969 hx hZ hown (host := "") (Or.inl (wd hw 39 rfl)) Via.refl e969 f959 (g := (mkF m 38 #[vR a, vR sa, vI 1, vI 0, vI c0, .unset] [(.ref a)])) rfl rfl (hb hby d7_38)
 refine Go.movp st970 (mkF m 41 #[vR a, vR sa, vI 1, vI 0, vI c0, .unset] [(.ref pa)]) rfl ?_
 refine g_iload X970 hx (hb hby d7_41) (pc' := 43) rfl rfl ?_
 refine g_bipush X970 hx (hb hby d7_43) (pc' := 45) rfl (z := 8) rfl ?_
 refine g_iushr X970 hx (hb hby d7_45) (pc' := 46) rfl ?_
 rcases PG.at PA hc0 with ⟨qn, qm⟩ | ⟨rp, vp, qr, ql, qp, qv, qw, qx⟩
 ·
  refine g_aaload X970 hx hZ e970 PA.1 rfl (v := .null) (hb hby d7_46) (pc' := 47) rfl (own_hi hc0).1 (own_hi hc0).2.1 (by rw [PA.2.2.1]; exact (own_hi hc0).2.2) qn ?_
  refine g_astore X970 hx (hb hby d7_47) (pc' := 49) rfl rfl (Ls' := #[vR a, vR sa, vI 1, vI 0, vI c0, .val .null]) rfl ?_
  refine g_aload X970 hx (hb hby d7_49) (pc' := 51) rfl rfl rfl ?_
  refine g_ifnonnull_n X970 hx (hb hby d7_51) (pc' := 54) rfl ?_
  refine g_sipush X970 hx (hb hby d7_54) (pc' := 57) rfl (z := 256) rfl ?_
  have ltpa : pa < h958.size := PA.1.lt
  obtain ⟨T971, h971, b971, X971, e971, g971, E971, V971, A971, st971⟩ := h_newarray X970 hx hZ e970 (n := (256 : Int32)) (ty := .int) rfl (wd hw 80 rfl) (hb hby d7_57) (k := 256) (cap := 256) (by decide) rfl (by decide) (by decide) (by decide) (by decide) (ad := "[I") (by decide) #[vR a, vR sa, vI 1, vI 0, vI c0, .val .null] []
  have ne972 : a ≠ b971 := Nat.ne_of_lt (g971 ▸ f961.lt)
  have ge973 : n0 ≤ b971 := g971 ▸ Z963
  have sz974 : h0.size ≤ b971 := g971 ▸ K964.1
  have f975 := f960.ext E971
  have f976 := Exa.ext E971 f961
  have f977 := Fld.ext E971 f959
  have Z978 : n0 ≤ h971.size := Nat.le_trans Z963 E971.1
  have K979 := K964.ext E971
  have f980 : Va Z h971 b971 .int (List.replicate 256 (.int 0)) := V971
  refine Go.movp st971 (mkF m 59 #[vR a, vR sa, vI 1, vI 0, vI c0, .val .null] [(.ref b971)]) rfl ?_
  have nepa : b971 ≠ pa := Ne.symm (Nat.ne_of_lt (g971 ▸ ltpa))
  refine g_astore X971 hx (hb hby d7_59) (pc' := 61) rfl rfl (Ls' := #[vR a, vR sa, vI 1, vI 0, vI c0, vR b971]) rfl ?_
  refine g_aload X971 hx (hb hby d7_61) (pc' := 63) rfl rfl rfl ?_
  refine g_iconst X971 hx (hb hby d7_63) (pc' := 64) rfl (z := (-1 : Int32)) rfl ?_
  obtain ⟨v981, T981, h981, L981, X981, e981, N981, q981, st981⟩ := h_static X971 hx (W := 0) (Ls := #[vR a, vR sa, vI 1, vI 0, vI c0, vR b971]) (argsL := [(.ref b971), (.int (-1 : Int32))]) (rest := []) hZ e971 N969 hml hown (rm15 l Z a0 hw b971 (-1 : Int32) h971 n0 Z978 f980 ge973) (wd hw 81 rfl) (wd hw 82 rfl) (wd hw 83 rfl) (wd hw 84 rfl) (by decide) pd___II_V rfl rfl (hb hby d7_64) rfl (by decide) (by decide) (by decide) (by decide)
  obtain ⟨rfl, K981, V981⟩ := q981
  have f982 := f975.keep K981 (allS ge973 all0)
  have f983 := f976.keep K981
  have f984 := f977.keep K981 (ninS ne972 nin0)
  have f985 := A971.keep K981
  have Z986 : n0 ≤ h981.size := Nat.le_trans Z978 K981.1
  have K987 := K979.trans K981 (allS (Or.inr sz974) all0)
  refine Go.movp st981 (mkF m 67 #[vR a, vR sa, vI 1, vI 0, vI c0, vR b971] []) rfl ?_
  refine g_aloadN X981 hx (hb hby d7_67) (pc' := 68) rfl rfl rfl ?_
  obtain ⟨T988, X988, e988, st988⟩ := getF X981 hx hZ hown (host := "") (Or.inl (wd hw 39 rfl)) Via.refl e981 f984 (g := (mkF m 68 #[vR a, vR sa, vI 1, vI 0, vI c0, vR b971] [(.ref a)])) rfl rfl (hb hby d7_68)
  refine Go.movp st988 (mkF m 71 #[vR a, vR sa, vI 1, vI 0, vI c0, vR b971] [(.ref pa)]) rfl ?_
  refine g_iload X988 hx (hb hby d7_71) (pc' := 73) rfl rfl ?_
  refine g_bipush X988 hx (hb hby d7_73) (pc' := 75) rfl (z := 8) rfl ?_
  refine g_iushr X988 hx (hb hby d7_75) (pc' := 76) rfl ?_
  refine g_aload X988 hx (hb hby d7_76) (pc' := 78) rfl rfl rfl ?_
  have K78 := ((Keep.refl h958 []).ext E971).trans K981 (allS (Or.inr (Nat.le_of_eq g971.symm)) all0)
  have P78 := PA.keep K78
  obtain ⟨T989, h989, L989, X989, e989, N989, W989, st989⟩ := h_aastore X988 hx hZ e988 N981 P78.1 ge951 rfl (j := (ushr c0 (8 : Int32))) (hb hby d7_78) (own_hi hc0).1 (own_hi hc0).2.1 (by rw [P78.2.2.1]; exact (own_hi hc0).2.2) (Sto.ofVA P78.1 rfl P78.2.1 (Ins.self f985)) #[vR a, vR sa, vI 1, vI 0, vI c0, vR b971] []
  obtain ⟨cc2, P79, qr⟩ := P78.put (own_hi hc0).2.2 qn W989 V981 sz974 (Nat.le_of_eq g971.symm) nepa
  have f990 := f982.wr W989 ge951
  have f991 := Exa.wr W989 f983
  have f992 := Fld.other W989 f984 (Or.inl ne950)
  have f993 := Exa.wr W989 f985
  have f994 := V981.other W989 nepa
  have Z995 : n0 ≤ h989.size := Nat.le_trans Z986 (Keep.of_wr W989).1
  have K996 := K987.wr W989 (Or.inr sz952)
  refine Go.movp st989 (mkF m 79 #[vR a, vR sa, vI 1, vI 0, vI c0, vR b971] []) rfl ?_
  refine g_aload X989 hx (hb hby d7_79) (pc' := 81) rfl rfl rfl ?_
  refine g_iload X989 hx (hb hby d7_81) (pc' := 83) rfl rfl ?_
  refine g_sipush X989 hx (hb hby d7_83) (pc' := 86) rfl (z := 255) rfl ?_
  refine g_iand X989 hx (hb hby d7_86) (pc' := 87) rfl ?_
  refine g_iloadN X989 hx (hb hby d7_87) (pc' := 88) rfl rfl ?_
  obtain ⟨T997, h997, L997, X997, e997, N997, W997, V997, st997⟩ := h_iastore X989 hx hZ e989 N989 f994 ge973 (j := (c0 &&& (255 : Int32))) (i := cn c0 % 256) (x := (0 : Int32)) (hb hby d7_88) (own_lo hc0).1 (own_lo hc0).2 (own_rep (Nat.mod_lt _ (by decide))) #[vR a, vR sa, vI 1, vI 0, vI c0, vR b971] []
  have P88 := (P79.setc hc0 qr W997).mono (Nat.succ_le_of_lt V997.lt)
  have f998 := f990.wr W997 ge973
  have f999 := Exa.wr W997 f991
  have f1000 := Fld.other W997 f992 (Or.inl ne972)
  have f1001 := Exa.wr W997 f993
  have Z1002 : n0 ≤ h997.size := Nat.le_trans Z995 (Keep.of_wr W997).1
  have K1003 := K996.wr W997 (Or.inr sz974)
  refine Go.movp st997 (mkF m 89 #[vR a, vR sa, vI 1, vI 0, vI c0, vR b971] []) rfl ?_
  refine g_iinc X997 hx (hb hby d7_89) (pc' := 92) rfl rfl (z := 1) rfl (Ls' := #[vR a, vR sa, vI 1, vI 1, vI c0, vR b971]) rfl ?_
  refine g_goto X997 hx (hb hby d7_92) (by decide) (pc' := 23) (by decide) ?_
  exact J1 T997 h997 _ (X997.more (by decide) (by decide)) e997 N997 Z1002 K1003 f998 f1000 f999 _ P88 b971
 ·
  refine g_aaload X970 hx hZ e970 PA.1 rfl (v := (.ref rp)) (hb hby d7_46) (pc' := 47) rfl (own_hi hc0).1 (own_hi hc0).2.1 (by rw [PA.2.2.1]; exact (own_hi hc0).2.2) qr ?_
  have gerp : n0 ≤ rp := Nat.le_trans Z0 ql
  have nerp : a ≠ rp := Nat.ne_of_lt (Nat.lt_of_lt_of_le E1.lt ql)
  refine g_astore X970 hx (hb hby d7_47) (pc' := 49) rfl rfl (Ls' := #[vR a, vR sa, vI 1, vI 0, vI c0, vR rp]) rfl ?_
  refine g_aload X970 hx (hb hby d7_49) (pc' := 51) rfl rfl rfl ?_
  refine g_ifnonnull_y X970 hx (hb hby d7_51) (by decide) (pc' := 79) (by decide) ?_
  refine g_aload X970 hx (hb hby d7_79) (pc' := 81) rfl rfl rfl ?_
  refine g_iload X970 hx (hb hby d7_81) (pc' := 83) rfl rfl ?_
  refine g_sipush X970 hx (hb hby d7_83) (pc' := 86) rfl (z := 255) rfl ?_
  refine g_iand X970 hx (hb hby d7_86) (pc' := 87) rfl ?_
  refine g_iloadN X970 hx (hb hby d7_87) (pc' := 88) rfl rfl ?_
  obtain ⟨T1004, h1004, L1004, X1004, e1004, N1004, W1004, V1004, st1004⟩ := h_iastore X970 hx hZ e970 N969 qv gerp (j := (c0 &&& (255 : Int32))) (i := cn c0 % 256) (x := (0 : Int32)) (hb hby d7_88) (own_lo hc0).1 (own_lo hc0).2 qx #[vR a, vR sa, vI 1, vI 0, vI c0, vR rp] []
  have P88 := (PA.setc hc0 qr W1004).mono (Keep.of_wr W1004).1
  have f1005 := f960.wr W1004 gerp
  have f1006 := Exa.wr W1004 f961
  have f1007 := Fld.other W1004 f959 (Or.inl nerp)
  have Z1008 : n0 ≤ h1004.size := Nat.le_trans Z963 (Keep.of_wr W1004).1
  have K1009 := K964.wr W1004 (Or.inr ql)
  refine Go.movp st1004 (mkF m 89 #[vR a, vR sa, vI 1, vI 0, vI c0, vR rp] []) rfl ?_
  refine g_iinc X1004 hx (hb hby d7_89) (pc' := 92) rfl rfl (z := 1) rfl (Ls' := #[vR a, vR sa, vI 1, vI 1, vI c0, vR rp]) rfl ?_
  refine g_goto X1004 hx (hb hby d7_92) (by decide) (pc' := 23) (by decide) ?_
  exact J1 T1004 h1004 _ (X1004.more (by decide) (by decide)) e1004 N1004 Z1008 K1009 f1005 f1007 f1006 _ P88 rp
theorem ef_7_2 (x0 : Addr) (x1 : Addr) (m : MethodId) : entryFrame m #[(.ref x0), (.ref x1)] 6 = mkF m 0 #[.val (.ref x0), .val (.ref x1), .unset, .unset, .unset, .unset] [] := by first | (simp [entryFrame, mkF, argsToLocals, Value.category]; done) | rfl
def Q7_2 (Z : State) (a : Addr) (sa : Addr) (sb : Addr) (c0 : Int32) (c1 : Int32) (cs : Int32) (fv : Value) (h0 : Heap) (n0 : Nat) : Option Value → Heap → Prop := fun v h => v = none ∧ Keep h0 h [a] ∧ ∃ pa cc, Fld Z h a "com/example/needlework/needlework/LastOccurrence" "pages" "[[I" (.ref pa) ∧ Exa Z h a "com/example/needlework/needlework/LastOccurrence" ∧ PG Z h h0.size h.size pa cc (updM (updM (fun _ => -1) (cn c0) (0 : Int32)) (cn c1) (1 : Int32))
theorem rm7_2 (l : Launch) (Z : State) (a0 : Array Value) (hw : HW Z a0) (a : Addr) (sa : Addr) (sb : Addr) (c0 : Int32) (c1 : Int32) (cs : Int32) (fv : Value) (h0 : Heap) (n0 : Nat) (Z0 : n0 ≤ h0.size) (F1 : Fld Z h0 a "com/example/needlework/needlework/LastOccurrence" "pages" "[[I" .null) (E1 : Exa Z h0 a "com/example/needlework/needlework/LastOccurrence") (G1 : n0 ≤ a) (HS : Str Z h0 sa sb [c0, c1]) (ne1 : sa ≠ a) (ne2 : sb ≠ a) (B : Sts Z cs fv) (O : Old Z n0 h0) (hc0 : chr c0 = c0) (hc1 : chr c1 = c1) : Ctr l Z (⟨"com/example/needlework/needlework/LastOccurrence", "<init>", "(Ljava/lang/CharSequence;)V"⟩ : MethodName) prog_13_method_1_code 6 none ({ frames := 5, cells := 3, slots := 768, locals := 66 } : Room) #[(.ref a), (.ref sa)] h0 n0 (Q7_2 Z a sa sb c0 c1 cs fv h0 n0) := by
 refine Ctr.of (plainFor_of_name pn_16) (ef_7_2 a sa) ?_
 intro p e s m below meth c T0 hx hby hml hown hnm hret hlk hZ X0 e0
 have N0 := Fr.nil n0
 refine g_aloadN X0 hx (hb hby d7_0) (pc' := 1) rfl rfl rfl ?_
 obtain ⟨T1010, X1010, e1010, st1010⟩ := initO X0 hx hZ hown (wd hw 36 rfl) (wd hw 12 rfl) (wd hw 13 rfl) e0 (g := (mkF m 1 #[vR a, vR sa, .unset, .unset, .unset, .unset] [(.ref a)])) rfl (by rw [hml]; rfl) rfl (hb hby d7_1) (by decide) (W := 0) (by show 2 * 0 + _ ≤ _; exact Nat.le_of_eq rfl) (by decide)
 refine Go.movp st1010 (mkF m 4 #[vR a, vR sa, .unset, .unset, .unset, .unset] []) rfl ?_
 refine g_aloadN X1010 hx (hb hby d7_4) (pc' := 5) rfl rfl rfl ?_
 refine g_sipush X1010 hx (hb hby d7_5) (pc' := 8) rfl (z := 256) rfl ?_
 obtain ⟨T1011, h1011, cA, X1011, e1011, E1011, A1011, Ex1011, OA, st1011⟩ := newRA X1010 hx hZ hown (C := "[I") (ty := .int) rfl (wd hw 37 rfl) (wd hw 38 rfl) e1010 (g := (mkF m 8 #[vR a, vR sa, .unset, .unset, .unset, .unset] [(.int 256), (.ref a)])) rfl (hb hby d7_8) rfl (by decide) (cap := 256) (by decide) (by decide) (by decide) (by decide) (ad := "[[I") rfl
 obtain ⟨pa, g1011⟩ : ∃ z, z = h0.size := ⟨_, rfl⟩
 rw [← g1011] at A1011 Ex1011 st1011
 have ne1012 : a ≠ pa := Nat.ne_of_lt (g1011 ▸ F1.lt)
 have ge1013 : n0 ≤ pa := g1011 ▸ Z0
 have sz1014 : h0.size ≤ pa := g1011 ▸ (Keep.refl h0 [a]).1
 have f1015 := O.ext E1011
 have f1016 := Fld.ext E1011 F1
 have f1017 := Exa.ext E1011 E1
 have Z1018 : n0 ≤ h1011.size := Nat.le_trans Z0 E1011.1
 have K1019 := (Keep.refl h0 [a]).ext E1011
 have P1011 := PG.new (lo := h0.size) (hi := h0.size) A1011 OA
 refine Go.movp st1011 (mkF m 11 #[vR a, vR sa, .unset, .unset, .unset, .unset] [(.ref pa), (.ref a)]) rfl ?_
 obtain ⟨T1020, h1020, X1020, e1020, W1020, st1020⟩ := putF X1011 hx hZ hown (host := "") (Or.inl (wd hw 39 rfl)) Via.refl e1011 f1016 f1017 (Or.inr ⟨(wd hw 40 rfl), rfl, hnm⟩) (wd hw 31 rfl) (ty := (.array (.array .int))) (by decide) rfl rfl (g := (mkF m 11 #[vR a, vR sa, .unset, .unset, .unset, .unset] [(.ref pa), (.ref a)])) rfl rfl (hb hby d7_11)
 have f1021 : Fld Z h1020 a "com/example/needlework/needlework/LastOccurrence" "pages" "[[I" (.ref pa) := Fld.same W1020 f1016
 have N1020 := Fr.snoc X1020 N0 G1
 have f1022 := f1015.wr W1020 G1
 have f1023 := Exa.wr W1020 f1017
 have f1024 := Exa.wr W1020 Ex1011
 have Z1025 : n0 ≤ h1020.size := Nat.le_trans Z1018 (Keep.of_wr W1020).1
 have K1026 := K1019.wr W1020 (Or.inl (List.mem_of_getElem? (i := 0) rfl))
 refine Go.movp st1020 (mkF m 14 #[vR a, vR sa, .unset, .unset, .unset, .unset] []) rfl ?_
 have PA := (P1011.other W1020 ne1012 E1.lt).mono K1026.1
 refine g_aloadN X1020 hx (hb hby d7_14) (pc' := 15) rfl rfl rfl ?_
 have HS1027 := HS.keep K1026 (ninS ne1 nin0) (ninS ne2 nin0)
 obtain ⟨v1028, T1028, h1028, L1028, X1028, e1028, N1028, q1028, st1028⟩ := h_interface (a := sa) (z := (⟨"java/lang/String", "length", "()I"⟩ : MethodName)) X1020 hx (W := 0) (Ls := #[vR a, vR sa, .unset, .unset, .unset, .unset]) (argsL := []) (rest := []) hZ e1020 N1020 hml hown (rm8_2 l Z a0 hw sa sb c0 c1 cs fv h1020 n0 Z1025 HS1027 B f1022) HS1027.exa (wd hw 41 rfl) (wd hw 42 rfl) (mvT hZ (wd hw 43 rfl)) (wd hw 44 rfl) (wd hw 45 rfl) (wd hw 46 rfl) (wd hw 47 rfl) (wd hw 48 rfl) (wd hw 2 rfl) (wd hw 49 rfl) (by decide) pd___I rfl rfl (hb hby d7_15) rfl (by decide) (by decide) (by decide) (by decide)
 obtain ⟨rfl, rfl⟩ := q1028
 refine Go.movp st1028 (mkF m 20 #[vR a, vR sa, .unset, .unset, .unset, .unset] [(.int 2)]) rfl ?_
 refine g_istoreN X1028 hx (hb hby d7_20) (pc' := 21) rfl (Ls' := #[vR a, vR sa, vI 2, .unset, .unset, .unset]) rfl ?_
 refine g_iconst X1028 hx (hb hby d7_21) (pc' := 22) rfl (z := 0) rfl ?_
 refine g_istoreN X1028 hx (hb hby d7_22) (pc' := 23) rfl (Ls' := #[vR a, vR sa, vI 2, vI 0, .unset, .unset]) rfl ?_
 have J2 : ∀ (Tq1029 : State) (hq1029 : Heap) (Lq1029 : List Loc) (Xq1029 : Stand p l e ({ frames := 5, cells := 3, slots := 768, locals := 66 } : Room) s m #[(.ref a), (.ref sa)] below meth c Tq1029 Lq1029 3 768) (eq1029 : Tq1029.heap = hq1029) (Nq1029 : Fr n0 Lq1029) (Zq1029 : n0 ≤ hq1029.size) (Kq1029 : Keep h0 hq1029 [a]) (Oq1029 : Old Z n0 hq1029) (Fq1029 : Fld Z hq1029 a "com/example/needlework/needlework/LastOccurrence" "pages" "[[I" (.ref pa)) (Eq1029 : Exa Z hq1029 a "com/example/needlework/needlework/LastOccurrence") (cq1029 : Cell) (Pq1029 : PG Z hq1029 h0.size hq1029.size pa cq1029 (updM (updM (fun _ => -1) (cn c0) (0 : Int32)) (cn c1) (1 : Int32))) (r5 : Addr), Go p e below (EndF s ({ frames := 5, cells := 3, slots := 768, locals := 66 } : Room).cells ({ frames := 5, cells := 3, slots := 768, locals := 66 } : Room).slots) n0 (Q7_2 Z a sa sb c0 c1 cs fv h0 n0) Tq1029 (mkF m 23 #[vR a, vR sa, vI 2, vI 2, vI c1, vR r5] []) := by
  intro Tq1029 hq1029 Lq1029 Xq1029 eq1029 Nq1029 Zq1029 Kq1029 Oq1029 Fq1029 Eq1029 cq1029 Pq1029 r5
  refine g_iloadN Xq1029 hx (hb hby d7_23) (pc' := 24) rfl rfl ?_
  refine g_iloadN Xq1029 hx (hb hby d7_24) (pc' := 25) rfl rfl ?_
  refine g_icmp_ge Xq1029 hx (hb hby d7_25) (pc1 := 28) rfl (by decide) (pc2 := 95) (by decide) (fun hc25 => ?_) (fun hc25 => absurd hc25 (by decide))
  exact g_return Xq1029 hx hret (hb hby d7_95) Nq1029 hlk (fun v t => endF (by decide) (by decide) v) (by rw [eq1029]; exact ⟨rfl, Kq1029, pa, _, Fq1029, Eq1029, Pq1029⟩)
 have J1 : ∀ (Tq1030 : State) (hq1030 : Heap) (Lq1030 : List Loc) (Xq1030 : Stand p l e ({ frames := 5, cells := 3, slots := 768, locals := 66 } : Room) s m #[(.ref a), (.ref sa)] below meth c Tq1030 Lq1030 2 512) (eq1030 : Tq1030.heap = hq1030) (Nq1030 : Fr n0 Lq1030) (Zq1030 : n0 ≤ hq1030.size) (Kq1030 : Keep h0 hq1030 [a]) (Oq1030 : Old Z n0 hq1030) (Fq1030 : Fld Z hq1030 a "com/example/needlework/needlework/LastOccurrence" "pages" "[[I" (.ref pa)) (Eq1030 : Exa Z hq1030 a "com/example/needlework/needlework/LastOccurrence") (cq1030 : Cell) (Pq1030 : PG Z hq1030 h0.size hq1030.size pa cq1030 (updM (fun _ => -1) (cn c0) (0 : Int32))) (r5 : Addr), Go p e below (EndF s ({ frames := 5, cells := 3, slots := 768, locals := 66 } : Room).cells ({ frames := 5, cells := 3, slots := 768, locals := 66 } : Room).slots) n0 (Q7_2 Z a sa sb c0 c1 cs fv h0 n0) Tq1030 (mkF m 23 #[vR a, vR sa, vI 2, vI 1, vI c0, vR r5] []) := by
  intro Tq1030 hq1030 Lq1030 Xq1030 eq1030 Nq1030 Zq1030 Kq1030 Oq1030 Fq1030 Eq1030 cq1030 Pq1030 r5
  refine g_iloadN Xq1030 hx (hb hby d7_23) (pc' := 24) rfl rfl ?_
  refine g_iloadN Xq1030 hx (hb hby d7_24) (pc' := 25) rfl rfl ?_
  refine g_icmp_ge Xq1030 hx (hb hby d7_25) (pc1 := 28) rfl (by decide) (pc2 := 95) (by decide) (fun hc25 => absurd (by decide) hc25) (fun hc25 => ?_)
  refine g_aloadN Xq1030 hx (hb hby d7_28) (pc' := 29) rfl rfl rfl ?_
  refine g_iloadN Xq1030 hx (hb hby d7_29) (pc' := 30) rfl rfl ?_
  have HS1031 := HS.keep Kq1030 (ninS ne1 nin0) (ninS ne2 nin0)
  obtain ⟨v1032, T1032, h1032, L1032, X1032, e1032, N1032, q1032, st1032⟩ := h_interface (a := sa) (z := (⟨"java/lang/String", "charAt", "(I)C"⟩ : MethodName)) Xq1030 hx (W := 0) (Ls := #[vR a, vR sa, vI 2, vI 1, vI c0, vR r5]) (argsL := [(.int 1)]) (rest := []) hZ eq1030 Nq1030 hml hown (rm10_2_1 l Z a0 hw sa sb c0 c1 cs fv hq1030 n0 Zq1030 HS1031 B Oq1030 hc1) HS1031.exa (wd hw 55 rfl) (wd hw 56 rfl) (mvT hZ (wd hw 57 rfl)) (wd hw 58 rfl) (wd hw 59 rfl) (wd hw 60 rfl) (wd hw 61 rfl) (wd hw 48 rfl) (wd hw 2 rfl) (wd hw 62 rfl) (by decide) pd__I_C rfl rfl (hb hby d7_30) rfl (by decide) (by decide) (by decide) (by decide)
  obtain ⟨rfl, rfl⟩ := q1032
  refine Go.movp st1032 (mkF m 35 #[vR a, vR sa, vI 2, vI 1, vI c0, vR r5] [(.int c1)]) rfl ?_
  refine g_istore X1032 hx (hb hby d7_35) (pc' := 37) rfl (Ls' := #[vR a, vR sa, vI 2, vI 1, vI c1, vR r5]) rfl ?_
  refine g_aloadN X1032 hx (hb hby d7_37) (pc' := 38) rfl rfl rfl ?_
  obtain ⟨T1033, X1033, e1033, st1033⟩ := getF X1032 hx hZ hown (host := "") (Or.inl (wd hw 39 rfl)) Via.refl e1032 Fq1030 (g := (mkF m 38 #[vR a, vR sa, vI 2, vI 1, vI c1, vR r5] [(.ref a)])) rfl rfl (hb hby d7_38)
  refine Go.movp st1033 (mkF m 41 #[vR a, vR sa, vI 2, vI 1, vI c1, vR r5] [(.ref pa)]) rfl ?_
  refine g_iload X1033 hx (hb hby d7_41) (pc' := 43) rfl rfl ?_
  refine g_bipush X1033 hx (hb hby d7_43) (pc' := 45) rfl (z := 8) rfl ?_
  refine g_iushr X1033 hx (hb hby d7_45) (pc' := 46) rfl ?_
  rcases PG.at Pq1030 hc1 with ⟨qn, qm⟩ | ⟨rp, vp, qr, ql, qp, qv, qw, qx⟩
  ·
   refine g_aaload X1033 hx hZ e1033 Pq1030.1 rfl (v := .null) (hb hby d7_46) (pc' := 47) rfl (own_hi hc1).1 (own_hi hc1).2.1 (by rw [Pq1030.2.2.1]; exact (own_hi hc1).2.2) qn ?_
   refine g_astore X1033 hx (hb hby d7_47) (pc' := 49) rfl rfl (Ls' := #[vR a, vR sa, vI 2, vI 1, vI c1, .val .null]) rfl ?_
   refine g_aload X1033 hx (hb hby d7_49) (pc' := 51) rfl rfl rfl ?_
   refine g_ifnonnull_n X1033 hx (hb hby d7_51) (pc' := 54) rfl ?_
   refine g_sipush X1033 hx (hb hby d7_54) (pc' := 57) rfl (z := 256) rfl ?_
   have ltpa : pa < hq1030.size := Pq1030.1.lt
   obtain ⟨T1034, h1034, b1034, X1034, e1034, g1034, E1034, V1034, A1034, st1034⟩ := h_newarray X1033 hx hZ e1033 (n := (256 : Int32)) (ty := .int) rfl (wd hw 80 rfl) (hb hby d7_57) (k := 256) (cap := 256) (by decide) rfl (by decide) (by decide) (by decide) (by decide) (ad := "[I") (by decide) #[vR a, vR sa, vI 2, vI 1, vI c1, .val .null] []
   have ne1035 : a ≠ b1034 := Nat.ne_of_lt (g1034 ▸ Fq1030.lt)
   have ge1036 : n0 ≤ b1034 := g1034 ▸ Zq1030
   have sz1037 : h0.size ≤ b1034 := g1034 ▸ Kq1030.1
   have f1038 := Oq1030.ext E1034
   have f1039 := Fld.ext E1034 Fq1030
   have f1040 := Exa.ext E1034 Eq1030
   have Z1041 : n0 ≤ h1034.size := Nat.le_trans Zq1030 E1034.1
   have K1042 := Kq1030.ext E1034
   have f1043 : Va Z h1034 b1034 .int (List.replicate 256 (.int 0)) := V1034
   refine Go.movp st1034 (mkF m 59 #[vR a, vR sa, vI 2, vI 1, vI c1, .val .null] [(.ref b1034)]) rfl ?_
   have nepa : b1034 ≠ pa := Ne.symm (Nat.ne_of_lt (g1034 ▸ ltpa))
   refine g_astore X1034 hx (hb hby d7_59) (pc' := 61) rfl rfl (Ls' := #[vR a, vR sa, vI 2, vI 1, vI c1, vR b1034]) rfl ?_
   refine g_aload X1034 hx (hb hby d7_61) (pc' := 63) rfl rfl rfl ?_
   refine g_iconst X1034 hx (hb hby d7_63) (pc' := 64) rfl (z := (-1 : Int32)) rfl ?_
   obtain ⟨v1044, T1044, h1044, L1044, X1044, e1044, N1044, q1044, st1044⟩ := h_static X1034 hx (W := 0) (Ls := #[vR a, vR sa, vI 2, vI 1, vI c1, vR b1034]) (argsL := [(.ref b1034), (.int (-1 : Int32))]) (rest := []) hZ e1034 N1032 hml hown (rm15 l Z a0 hw b1034 (-1 : Int32) h1034 n0 Z1041 f1043 ge1036) (wd hw 81 rfl) (wd hw 82 rfl) (wd hw 83 rfl) (wd hw 84 rfl) (by decide) pd___II_V rfl rfl (hb hby d7_64) rfl (by decide) (by decide) (by decide) (by decide)
   obtain ⟨rfl, K1044, V1044⟩ := q1044
   have f1045 := f1038.keep K1044 (allS ge1036 all0)
   have f1046 := f1039.keep K1044 (ninS ne1035 nin0)
   have f1047 := f1040.keep K1044
   have f1048 := A1034.keep K1044
   have Z1049 : n0 ≤ h1044.size := Nat.le_trans Z1041 K1044.1
   have K1050 := K1042.trans K1044 (allS (Or.inr sz1037) all0)
   refine Go.movp st1044 (mkF m 67 #[vR a, vR sa, vI 2, vI 1, vI c1, vR b1034] []) rfl ?_
   refine g_aloadN X1044 hx (hb hby d7_67) (pc' := 68) rfl rfl rfl ?_
   obtain ⟨T1051, X1051, e1051, st1051⟩ := getF X1044 hx hZ hown (host := "") (Or.inl (wd hw 39 rfl)) Via.refl e1044 f1046 (g := (mkF m 68 #[vR a, vR sa, vI 2, vI 1, vI c1, vR b1034] [(.ref a)])) rfl rfl (hb hby d7_68)
   refine Go.movp st1051 (mkF m 71 #[vR a, vR sa, vI 2, vI 1, vI c1, vR b1034] [(.ref pa)]) rfl ?_
   refine g_iload X1051 hx (hb hby d7_71) (pc' := 73) rfl rfl ?_
   refine g_bipush X1051 hx (hb hby d7_73) (pc' := 75) rfl (z := 8) rfl ?_
   refine g_iushr X1051 hx (hb hby d7_75) (pc' := 76) rfl ?_
   refine g_aload X1051 hx (hb hby d7_76) (pc' := 78) rfl rfl rfl ?_
   have K78 := ((Keep.refl hq1030 []).ext E1034).trans K1044 (allS (Or.inr (Nat.le_of_eq g1034.symm)) all0)
   have P78 := Pq1030.keep K78
   obtain ⟨T1052, h1052, L1052, X1052, e1052, N1052, W1052, st1052⟩ := h_aastore X1051 hx hZ e1051 N1044 P78.1 ge1013 rfl (j := (ushr c1 (8 : Int32))) (hb hby d7_78) (own_hi hc1).1 (own_hi hc1).2.1 (by rw [P78.2.2.1]; exact (own_hi hc1).2.2) (Sto.ofVA P78.1 rfl P78.2.1 (Ins.self f1048)) #[vR a, vR sa, vI 2, vI 1, vI c1, vR b1034] []
   obtain ⟨cc2, P79, qr⟩ := P78.put (own_hi hc1).2.2 qn W1052 V1044 sz1037 (Nat.le_of_eq g1034.symm) nepa
   have f1053 := f1045.wr W1052 ge1013
   have f1054 := Fld.other W1052 f1046 (Or.inl ne1012)
   have f1055 := Exa.wr W1052 f1047
   have f1056 := Exa.wr W1052 f1048
   have f1057 := V1044.other W1052 nepa
   have Z1058 : n0 ≤ h1052.size := Nat.le_trans Z1049 (Keep.of_wr W1052).1
   have K1059 := K1050.wr W1052 (Or.inr sz1014)
   refine Go.movp st1052 (mkF m 79 #[vR a, vR sa, vI 2, vI 1, vI c1, vR b1034] []) rfl ?_
   refine g_aload X1052 hx (hb hby d7_79) (pc' := 81) rfl rfl rfl ?_
   refine g_iload X1052 hx (hb hby d7_81) (pc' := 83) rfl rfl ?_
   refine g_sipush X1052 hx (hb hby d7_83) (pc' := 86) rfl (z := 255) rfl ?_
   refine g_iand X1052 hx (hb hby d7_86) (pc' := 87) rfl ?_
   refine g_iloadN X1052 hx (hb hby d7_87) (pc' := 88) rfl rfl ?_
   obtain ⟨T1060, h1060, L1060, X1060, e1060, N1060, W1060, V1060, st1060⟩ := h_iastore X1052 hx hZ e1052 N1052 f1057 ge1036 (j := (c1 &&& (255 : Int32))) (i := cn c1 % 256) (x := (1 : Int32)) (hb hby d7_88) (own_lo hc1).1 (own_lo hc1).2 (own_rep (Nat.mod_lt _ (by decide))) #[vR a, vR sa, vI 2, vI 1, vI c1, vR b1034] []
   have P88 := (P79.setc hc1 qr W1060).mono (Nat.succ_le_of_lt V1060.lt)
   have f1061 := f1053.wr W1060 ge1036
   have f1062 := Fld.other W1060 f1054 (Or.inl ne1035)
   have f1063 := Exa.wr W1060 f1055
   have f1064 := Exa.wr W1060 f1056
   have Z1065 : n0 ≤ h1060.size := Nat.le_trans Z1058 (Keep.of_wr W1060).1
   have K1066 := K1059.wr W1060 (Or.inr sz1037)
   refine Go.movp st1060 (mkF m 89 #[vR a, vR sa, vI 2, vI 1, vI c1, vR b1034] []) rfl ?_
   refine g_iinc X1060 hx (hb hby d7_89) (pc' := 92) rfl rfl (z := 1) rfl (Ls' := #[vR a, vR sa, vI 2, vI 2, vI c1, vR b1034]) rfl ?_
   refine g_goto X1060 hx (hb hby d7_92) (by decide) (pc' := 23) (by decide) ?_
   exact J2 T1060 h1060 _ (X1060.more (by decide) (by decide)) e1060 N1060 Z1065 K1066 f1061 f1062 f1063 _ P88 b1034
  ·
   refine g_aaload X1033 hx hZ e1033 Pq1030.1 rfl (v := (.ref rp)) (hb hby d7_46) (pc' := 47) rfl (own_hi hc1).1 (own_hi hc1).2.1 (by rw [Pq1030.2.2.1]; exact (own_hi hc1).2.2) qr ?_
   have gerp : n0 ≤ rp := Nat.le_trans Z0 ql
   have nerp : a ≠ rp := Nat.ne_of_lt (Nat.lt_of_lt_of_le E1.lt ql)
   refine g_astore X1033 hx (hb hby d7_47) (pc' := 49) rfl rfl (Ls' := #[vR a, vR sa, vI 2, vI 1, vI c1, vR rp]) rfl ?_
   refine g_aload X1033 hx (hb hby d7_49) (pc' := 51) rfl rfl rfl ?_
   refine g_ifnonnull_y X1033 hx (hb hby d7_51) (by decide) (pc' := 79) (by decide) ?_
   refine g_aload X1033 hx (hb hby d7_79) (pc' := 81) rfl rfl rfl ?_
   refine g_iload X1033 hx (hb hby d7_81) (pc' := 83) rfl rfl ?_
   refine g_sipush X1033 hx (hb hby d7_83) (pc' := 86) rfl (z := 255) rfl ?_
   refine g_iand X1033 hx (hb hby d7_86) (pc' := 87) rfl ?_
   refine g_iloadN X1033 hx (hb hby d7_87) (pc' := 88) rfl rfl ?_
   obtain ⟨T1067, h1067, L1067, X1067, e1067, N1067, W1067, V1067, st1067⟩ := h_iastore X1033 hx hZ e1033 N1032 qv gerp (j := (c1 &&& (255 : Int32))) (i := cn c1 % 256) (x := (1 : Int32)) (hb hby d7_88) (own_lo hc1).1 (own_lo hc1).2 qx #[vR a, vR sa, vI 2, vI 1, vI c1, vR rp] []
   have P88 := (Pq1030.setc hc1 qr W1067).mono (Keep.of_wr W1067).1
   have f1068 := Oq1030.wr W1067 gerp
   have f1069 := Fld.other W1067 Fq1030 (Or.inl nerp)
   have f1070 := Exa.wr W1067 Eq1030
   have Z1071 : n0 ≤ h1067.size := Nat.le_trans Zq1030 (Keep.of_wr W1067).1
   have K1072 := Kq1030.wr W1067 (Or.inr ql)
   refine Go.movp st1067 (mkF m 89 #[vR a, vR sa, vI 2, vI 1, vI c1, vR rp] []) rfl ?_
   refine g_iinc X1067 hx (hb hby d7_89) (pc' := 92) rfl rfl (z := 1) rfl (Ls' := #[vR a, vR sa, vI 2, vI 2, vI c1, vR rp]) rfl ?_
   refine g_goto X1067 hx (hb hby d7_92) (by decide) (pc' := 23) (by decide) ?_
   exact J2 T1067 h1067 _ (X1067.more (by decide) (by decide)) e1067 N1067 Z1071 K1072 f1068 f1069 f1070 _ P88 rp
 refine g_iloadN X1028 hx (hb hby d7_23) (pc' := 24) rfl rfl ?_
 refine g_iloadN X1028 hx (hb hby d7_24) (pc' := 25) rfl rfl ?_
 refine g_icmp_ge X1028 hx (hb hby d7_25) (pc1 := 28) rfl (by decide) (pc2 := 95) (by decide) (fun hc25 => absurd (by decide) hc25) (fun hc25 => ?_)
 refine g_aloadN X1028 hx (hb hby d7_28) (pc' := 29) rfl rfl rfl ?_
 refine g_iloadN X1028 hx (hb hby d7_29) (pc' := 30) rfl rfl ?_
 have HS1073 := HS.keep K1026 (ninS ne1 nin0) (ninS ne2 nin0)
 obtain ⟨v1074, T1074, h1074, L1074, X1074, e1074, N1074, q1074, st1074⟩ := h_interface (a := sa) (z := (⟨"java/lang/String", "charAt", "(I)C"⟩ : MethodName)) X1028 hx (W := 0) (Ls := #[vR a, vR sa, vI 2, vI 0, .unset, .unset]) (argsL := [(.int 0)]) (rest := []) hZ e1028 N1028 hml hown (rm10_2_0 l Z a0 hw sa sb c0 c1 cs fv h1020 n0 Z1025 HS1073 B f1022 hc0) HS1073.exa (wd hw 55 rfl) (wd hw 56 rfl) (mvT hZ (wd hw 57 rfl)) (wd hw 58 rfl) (wd hw 59 rfl) (wd hw 60 rfl) (wd hw 61 rfl) (wd hw 48 rfl) (wd hw 2 rfl) (wd hw 62 rfl) (by decide) pd__I_C rfl rfl (hb hby d7_30) rfl (by decide) (by decide) (by decide) (by decide)
 obtain ⟨rfl, rfl⟩ := q1074
 refine Go.movp st1074 (mkF m 35 #[vR a, vR sa, vI 2, vI 0, .unset, .unset] [(.int c0)]) rfl ?_
 refine g_istore X1074 hx (hb hby d7_35) (pc' := 37) rfl (Ls' := #[vR a, vR sa, vI 2, vI 0, vI c0, .unset]) rfl ?_
 refine g_aloadN X1074 hx (hb hby d7_37) (pc' := 38) rfl rfl rfl ?_
 obtain ⟨T1075, X1075, e1075, st1075⟩ := getF X1074 hx hZ hown (host := "") (Or.inl (wd hw 39 rfl)) Via.refl e1074 f1021 (g := (mkF m 38 #[vR a, vR sa, vI 2, vI 0, vI c0, .unset] [(.ref a)])) rfl rfl (hb hby d7_38)
 refine Go.movp st1075 (mkF m 41 #[vR a, vR sa, vI 2, vI 0, vI c0, .unset] [(.ref pa)]) rfl ?_
 refine g_iload X1075 hx (hb hby d7_41) (pc' := 43) rfl rfl ?_
 refine g_bipush X1075 hx (hb hby d7_43) (pc' := 45) rfl (z := 8) rfl ?_
 refine g_iushr X1075 hx (hb hby d7_45) (pc' := 46) rfl ?_
 rcases PG.at PA hc0 with ⟨qn, qm⟩ | ⟨rp, vp, qr, ql, qp, qv, qw, qx⟩
 ·
  refine g_aaload X1075 hx hZ e1075 PA.1 rfl (v := .null) (hb hby d7_46) (pc' := 47) rfl (own_hi hc0).1 (own_hi hc0).2.1 (by rw [PA.2.2.1]; exact (own_hi hc0).2.2) qn ?_
  refine g_astore X1075 hx (hb hby d7_47) (pc' := 49) rfl rfl (Ls' := #[vR a, vR sa, vI 2, vI 0, vI c0, .val .null]) rfl ?_
  refine g_aload X1075 hx (hb hby d7_49) (pc' := 51) rfl rfl rfl ?_
  refine g_ifnonnull_n X1075 hx (hb hby d7_51) (pc' := 54) rfl ?_
  refine g_sipush X1075 hx (hb hby d7_54) (pc' := 57) rfl (z := 256) rfl ?_
  have ltpa : pa < h1020.size := PA.1.lt
  obtain ⟨T1076, h1076, b1076, X1076, e1076, g1076, E1076, V1076, A1076, st1076⟩ := h_newarray X1075 hx hZ e1075 (n := (256 : Int32)) (ty := .int) rfl (wd hw 80 rfl) (hb hby d7_57) (k := 256) (cap := 256) (by decide) rfl (by decide) (by decide) (by decide) (by decide) (ad := "[I") (by decide) #[vR a, vR sa, vI 2, vI 0, vI c0, .val .null] []
  have ne1077 : a ≠ b1076 := Nat.ne_of_lt (g1076 ▸ f1023.lt)
  have ge1078 : n0 ≤ b1076 := g1076 ▸ Z1025
  have sz1079 : h0.size ≤ b1076 := g1076 ▸ K1026.1
  have f1080 := f1022.ext E1076
  have f1081 := Exa.ext E1076 f1023
  have f1082 := Fld.ext E1076 f1021
  have Z1083 : n0 ≤ h1076.size := Nat.le_trans Z1025 E1076.1
  have K1084 := K1026.ext E1076
  have f1085 : Va Z h1076 b1076 .int (List.replicate 256 (.int 0)) := V1076
  refine Go.movp st1076 (mkF m 59 #[vR a, vR sa, vI 2, vI 0, vI c0, .val .null] [(.ref b1076)]) rfl ?_
  have nepa : b1076 ≠ pa := Ne.symm (Nat.ne_of_lt (g1076 ▸ ltpa))
  refine g_astore X1076 hx (hb hby d7_59) (pc' := 61) rfl rfl (Ls' := #[vR a, vR sa, vI 2, vI 0, vI c0, vR b1076]) rfl ?_
  refine g_aload X1076 hx (hb hby d7_61) (pc' := 63) rfl rfl rfl ?_
  refine g_iconst X1076 hx (hb hby d7_63) (pc' := 64) rfl (z := (-1 : Int32)) rfl ?_
  obtain ⟨v1086, T1086, h1086, L1086, X1086, e1086, N1086, q1086, st1086⟩ := h_static X1076 hx (W := 0) (Ls := #[vR a, vR sa, vI 2, vI 0, vI c0, vR b1076]) (argsL := [(.ref b1076), (.int (-1 : Int32))]) (rest := []) hZ e1076 N1074 hml hown (rm15 l Z a0 hw b1076 (-1 : Int32) h1076 n0 Z1083 f1085 ge1078) (wd hw 81 rfl) (wd hw 82 rfl) (wd hw 83 rfl) (wd hw 84 rfl) (by decide) pd___II_V rfl rfl (hb hby d7_64) rfl (by decide) (by decide) (by decide) (by decide)
  obtain ⟨rfl, K1086, V1086⟩ := q1086
  have f1087 := f1080.keep K1086 (allS ge1078 all0)
  have f1088 := f1081.keep K1086
  have f1089 := f1082.keep K1086 (ninS ne1077 nin0)
  have f1090 := A1076.keep K1086
  have Z1091 : n0 ≤ h1086.size := Nat.le_trans Z1083 K1086.1
  have K1092 := K1084.trans K1086 (allS (Or.inr sz1079) all0)
  refine Go.movp st1086 (mkF m 67 #[vR a, vR sa, vI 2, vI 0, vI c0, vR b1076] []) rfl ?_
  refine g_aloadN X1086 hx (hb hby d7_67) (pc' := 68) rfl rfl rfl ?_
  obtain ⟨T1093, X1093, e1093, st1093⟩ := getF X1086 hx hZ hown (host := "") (Or.inl (wd hw 39 rfl)) Via.refl e1086 f1089 (g := (mkF m 68 #[vR a, vR sa, vI 2, vI 0, vI c0, vR b1076] [(.ref a)])) rfl rfl (hb hby d7_68)
  refine Go.movp st1093 (mkF m 71 #[vR a, vR sa, vI 2, vI 0, vI c0, vR b1076] [(.ref pa)]) rfl ?_
  refine g_iload X1093 hx (hb hby d7_71) (pc' := 73) rfl rfl ?_
  refine g_bipush X1093 hx (hb hby d7_73) (pc' := 75) rfl (z := 8) rfl ?_
  refine g_iushr X1093 hx (hb hby d7_75) (pc' := 76) rfl ?_
  refine g_aload X1093 hx (hb hby d7_76) (pc' := 78) rfl rfl rfl ?_
  have K78 := ((Keep.refl h1020 []).ext E1076).trans K1086 (allS (Or.inr (Nat.le_of_eq g1076.symm)) all0)
  have P78 := PA.keep K78
  obtain ⟨T1094, h1094, L1094, X1094, e1094, N1094, W1094, st1094⟩ := h_aastore X1093 hx hZ e1093 N1086 P78.1 ge1013 rfl (j := (ushr c0 (8 : Int32))) (hb hby d7_78) (own_hi hc0).1 (own_hi hc0).2.1 (by rw [P78.2.2.1]; exact (own_hi hc0).2.2) (Sto.ofVA P78.1 rfl P78.2.1 (Ins.self f1090)) #[vR a, vR sa, vI 2, vI 0, vI c0, vR b1076] []
  obtain ⟨cc2, P79, qr⟩ := P78.put (own_hi hc0).2.2 qn W1094 V1086 sz1079 (Nat.le_of_eq g1076.symm) nepa
  have f1095 := f1087.wr W1094 ge1013
  have f1096 := Exa.wr W1094 f1088
  have f1097 := Fld.other W1094 f1089 (Or.inl ne1012)
  have f1098 := Exa.wr W1094 f1090
  have f1099 := V1086.other W1094 nepa
  have Z1100 : n0 ≤ h1094.size := Nat.le_trans Z1091 (Keep.of_wr W1094).1
  have K1101 := K1092.wr W1094 (Or.inr sz1014)
  refine Go.movp st1094 (mkF m 79 #[vR a, vR sa, vI 2, vI 0, vI c0, vR b1076] []) rfl ?_
  refine g_aload X1094 hx (hb hby d7_79) (pc' := 81) rfl rfl rfl ?_
  refine g_iload X1094 hx (hb hby d7_81) (pc' := 83) rfl rfl ?_
  refine g_sipush X1094 hx (hb hby d7_83) (pc' := 86) rfl (z := 255) rfl ?_
  refine g_iand X1094 hx (hb hby d7_86) (pc' := 87) rfl ?_
  refine g_iloadN X1094 hx (hb hby d7_87) (pc' := 88) rfl rfl ?_
  obtain ⟨T1102, h1102, L1102, X1102, e1102, N1102, W1102, V1102, st1102⟩ := h_iastore X1094 hx hZ e1094 N1094 f1099 ge1078 (j := (c0 &&& (255 : Int32))) (i := cn c0 % 256) (x := (0 : Int32)) (hb hby d7_88) (own_lo hc0).1 (own_lo hc0).2 (own_rep (Nat.mod_lt _ (by decide))) #[vR a, vR sa, vI 2, vI 0, vI c0, vR b1076] []
  have P88 := (P79.setc hc0 qr W1102).mono (Nat.succ_le_of_lt V1102.lt)
  have f1103 := f1095.wr W1102 ge1078
  have f1104 := Exa.wr W1102 f1096
  have f1105 := Fld.other W1102 f1097 (Or.inl ne1077)
  have f1106 := Exa.wr W1102 f1098
  have Z1107 : n0 ≤ h1102.size := Nat.le_trans Z1100 (Keep.of_wr W1102).1
  have K1108 := K1101.wr W1102 (Or.inr sz1079)
  refine Go.movp st1102 (mkF m 89 #[vR a, vR sa, vI 2, vI 0, vI c0, vR b1076] []) rfl ?_
  refine g_iinc X1102 hx (hb hby d7_89) (pc' := 92) rfl rfl (z := 1) rfl (Ls' := #[vR a, vR sa, vI 2, vI 1, vI c0, vR b1076]) rfl ?_
  refine g_goto X1102 hx (hb hby d7_92) (by decide) (pc' := 23) (by decide) ?_
  exact J1 T1102 h1102 _ (X1102.more (by decide) (by decide)) e1102 N1102 Z1107 K1108 f1103 f1105 f1104 _ P88 b1076
 ·
  refine g_aaload X1075 hx hZ e1075 PA.1 rfl (v := (.ref rp)) (hb hby d7_46) (pc' := 47) rfl (own_hi hc0).1 (own_hi hc0).2.1 (by rw [PA.2.2.1]; exact (own_hi hc0).2.2) qr ?_
  have gerp : n0 ≤ rp := Nat.le_trans Z0 ql
  have nerp : a ≠ rp := Nat.ne_of_lt (Nat.lt_of_lt_of_le E1.lt ql)
  refine g_astore X1075 hx (hb hby d7_47) (pc' := 49) rfl rfl (Ls' := #[vR a, vR sa, vI 2, vI 0, vI c0, vR rp]) rfl ?_
  refine g_aload X1075 hx (hb hby d7_49) (pc' := 51) rfl rfl rfl ?_
  refine g_ifnonnull_y X1075 hx (hb hby d7_51) (by decide) (pc' := 79) (by decide) ?_
  refine g_aload X1075 hx (hb hby d7_79) (pc' := 81) rfl rfl rfl ?_
  refine g_iload X1075 hx (hb hby d7_81) (pc' := 83) rfl rfl ?_
  refine g_sipush X1075 hx (hb hby d7_83) (pc' := 86) rfl (z := 255) rfl ?_
  refine g_iand X1075 hx (hb hby d7_86) (pc' := 87) rfl ?_
  refine g_iloadN X1075 hx (hb hby d7_87) (pc' := 88) rfl rfl ?_
  obtain ⟨T1109, h1109, L1109, X1109, e1109, N1109, W1109, V1109, st1109⟩ := h_iastore X1075 hx hZ e1075 N1074 qv gerp (j := (c0 &&& (255 : Int32))) (i := cn c0 % 256) (x := (0 : Int32)) (hb hby d7_88) (own_lo hc0).1 (own_lo hc0).2 qx #[vR a, vR sa, vI 2, vI 0, vI c0, vR rp] []
  have P88 := (PA.setc hc0 qr W1109).mono (Keep.of_wr W1109).1
  have f1110 := f1022.wr W1109 gerp
  have f1111 := Exa.wr W1109 f1023
  have f1112 := Fld.other W1109 f1021 (Or.inl nerp)
  have Z1113 : n0 ≤ h1109.size := Nat.le_trans Z1025 (Keep.of_wr W1109).1
  have K1114 := K1026.wr W1109 (Or.inr ql)
  refine Go.movp st1109 (mkF m 89 #[vR a, vR sa, vI 2, vI 0, vI c0, vR rp] []) rfl ?_
  refine g_iinc X1109 hx (hb hby d7_89) (pc' := 92) rfl rfl (z := 1) rfl (Ls' := #[vR a, vR sa, vI 2, vI 1, vI c0, vR rp]) rfl ?_
  refine g_goto X1109 hx (hb hby d7_92) (by decide) (pc' := 23) (by decide) ?_
  exact J1 T1109 h1109 _ (X1109.more (by decide) (by decide)) e1109 N1109 Z1113 K1114 f1110 f1112 f1111 _ P88 rp
theorem ef_7_3 (x0 : Addr) (x1 : Addr) (m : MethodId) : entryFrame m #[(.ref x0), (.ref x1)] 6 = mkF m 0 #[.val (.ref x0), .val (.ref x1), .unset, .unset, .unset, .unset] [] := by first | (simp [entryFrame, mkF, argsToLocals, Value.category]; done) | rfl
def Q7_3 (Z : State) (a : Addr) (sa : Addr) (sb : Addr) (c0 : Int32) (c1 : Int32) (c2 : Int32) (cs : Int32) (fv : Value) (h0 : Heap) (n0 : Nat) : Option Value → Heap → Prop := fun v h => v = none ∧ Keep h0 h [a] ∧ ∃ pa cc, Fld Z h a "com/example/needlework/needlework/LastOccurrence" "pages" "[[I" (.ref pa) ∧ Exa Z h a "com/example/needlework/needlework/LastOccurrence" ∧ PG Z h h0.size h.size pa cc (updM (updM (updM (fun _ => -1) (cn c0) (0 : Int32)) (cn c1) (1 : Int32)) (cn c2) (2 : Int32))
theorem rm7_3 (l : Launch) (Z : State) (a0 : Array Value) (hw : HW Z a0) (a : Addr) (sa : Addr) (sb : Addr) (c0 : Int32) (c1 : Int32) (c2 : Int32) (cs : Int32) (fv : Value) (h0 : Heap) (n0 : Nat) (Z0 : n0 ≤ h0.size) (F1 : Fld Z h0 a "com/example/needlework/needlework/LastOccurrence" "pages" "[[I" .null) (E1 : Exa Z h0 a "com/example/needlework/needlework/LastOccurrence") (G1 : n0 ≤ a) (HS : Str Z h0 sa sb [c0, c1, c2]) (ne1 : sa ≠ a) (ne2 : sb ≠ a) (B : Sts Z cs fv) (O : Old Z n0 h0) (hc0 : chr c0 = c0) (hc1 : chr c1 = c1) (hc2 : chr c2 = c2) : Ctr l Z (⟨"com/example/needlework/needlework/LastOccurrence", "<init>", "(Ljava/lang/CharSequence;)V"⟩ : MethodName) prog_13_method_1_code 6 none ({ frames := 5, cells := 4, slots := 1024, locals := 66 } : Room) #[(.ref a), (.ref sa)] h0 n0 (Q7_3 Z a sa sb c0 c1 c2 cs fv h0 n0) := by
 refine Ctr.of (plainFor_of_name pn_16) (ef_7_3 a sa) ?_
 intro p e s m below meth c T0 hx hby hml hown hnm hret hlk hZ X0 e0
 have N0 := Fr.nil n0
 refine g_aloadN X0 hx (hb hby d7_0) (pc' := 1) rfl rfl rfl ?_
 obtain ⟨T1115, X1115, e1115, st1115⟩ := initO X0 hx hZ hown (wd hw 36 rfl) (wd hw 12 rfl) (wd hw 13 rfl) e0 (g := (mkF m 1 #[vR a, vR sa, .unset, .unset, .unset, .unset] [(.ref a)])) rfl (by rw [hml]; rfl) rfl (hb hby d7_1) (by decide) (W := 0) (by show 2 * 0 + _ ≤ _; exact Nat.le_of_eq rfl) (by decide)
 refine Go.movp st1115 (mkF m 4 #[vR a, vR sa, .unset, .unset, .unset, .unset] []) rfl ?_
 refine g_aloadN X1115 hx (hb hby d7_4) (pc' := 5) rfl rfl rfl ?_
 refine g_sipush X1115 hx (hb hby d7_5) (pc' := 8) rfl (z := 256) rfl ?_
 obtain ⟨T1116, h1116, cA, X1116, e1116, E1116, A1116, Ex1116, OA, st1116⟩ := newRA X1115 hx hZ hown (C := "[I") (ty := .int) rfl (wd hw 37 rfl) (wd hw 38 rfl) e1115 (g := (mkF m 8 #[vR a, vR sa, .unset, .unset, .unset, .unset] [(.int 256), (.ref a)])) rfl (hb hby d7_8) rfl (by decide) (cap := 256) (by decide) (by decide) (by decide) (by decide) (ad := "[[I") rfl
 obtain ⟨pa, g1116⟩ : ∃ z, z = h0.size := ⟨_, rfl⟩
 rw [← g1116] at A1116 Ex1116 st1116
 have ne1117 : a ≠ pa := Nat.ne_of_lt (g1116 ▸ F1.lt)
 have ge1118 : n0 ≤ pa := g1116 ▸ Z0
 have sz1119 : h0.size ≤ pa := g1116 ▸ (Keep.refl h0 [a]).1
 have f1120 := O.ext E1116
 have f1121 := Fld.ext E1116 F1
 have f1122 := Exa.ext E1116 E1
 have Z1123 : n0 ≤ h1116.size := Nat.le_trans Z0 E1116.1
 have K1124 := (Keep.refl h0 [a]).ext E1116
 have P1116 := PG.new (lo := h0.size) (hi := h0.size) A1116 OA
 refine Go.movp st1116 (mkF m 11 #[vR a, vR sa, .unset, .unset, .unset, .unset] [(.ref pa), (.ref a)]) rfl ?_
 obtain ⟨T1125, h1125, X1125, e1125, W1125, st1125⟩ := putF X1116 hx hZ hown (host := "") (Or.inl (wd hw 39 rfl)) Via.refl e1116 f1121 f1122 (Or.inr ⟨(wd hw 40 rfl), rfl, hnm⟩) (wd hw 31 rfl) (ty := (.array (.array .int))) (by decide) rfl rfl (g := (mkF m 11 #[vR a, vR sa, .unset, .unset, .unset, .unset] [(.ref pa), (.ref a)])) rfl rfl (hb hby d7_11)
 have f1126 : Fld Z h1125 a "com/example/needlework/needlework/LastOccurrence" "pages" "[[I" (.ref pa) := Fld.same W1125 f1121
 have N1125 := Fr.snoc X1125 N0 G1
 have f1127 := f1120.wr W1125 G1
 have f1128 := Exa.wr W1125 f1122
 have f1129 := Exa.wr W1125 Ex1116
 have Z1130 : n0 ≤ h1125.size := Nat.le_trans Z1123 (Keep.of_wr W1125).1
 have K1131 := K1124.wr W1125 (Or.inl (List.mem_of_getElem? (i := 0) rfl))
 refine Go.movp st1125 (mkF m 14 #[vR a, vR sa, .unset, .unset, .unset, .unset] []) rfl ?_
 have PA := (P1116.other W1125 ne1117 E1.lt).mono K1131.1
 refine g_aloadN X1125 hx (hb hby d7_14) (pc' := 15) rfl rfl rfl ?_
 have HS1132 := HS.keep K1131 (ninS ne1 nin0) (ninS ne2 nin0)
 obtain ⟨v1133, T1133, h1133, L1133, X1133, e1133, N1133, q1133, st1133⟩ := h_interface (a := sa) (z := (⟨"java/lang/String", "length", "()I"⟩ : MethodName)) X1125 hx (W := 0) (Ls := #[vR a, vR sa, .unset, .unset, .unset, .unset]) (argsL := []) (rest := []) hZ e1125 N1125 hml hown (rm8_3 l Z a0 hw sa sb c0 c1 c2 cs fv h1125 n0 Z1130 HS1132 B f1127) HS1132.exa (wd hw 41 rfl) (wd hw 42 rfl) (mvT hZ (wd hw 43 rfl)) (wd hw 44 rfl) (wd hw 45 rfl) (wd hw 46 rfl) (wd hw 47 rfl) (wd hw 48 rfl) (wd hw 2 rfl) (wd hw 49 rfl) (by decide) pd___I rfl rfl (hb hby d7_15) rfl (by decide) (by decide) (by decide) (by decide)
 obtain ⟨rfl, rfl⟩ := q1133
 refine Go.movp st1133 (mkF m 20 #[vR a, vR sa, .unset, .unset, .unset, .unset] [(.int 3)]) rfl ?_
 refine g_istoreN X1133 hx (hb hby d7_20) (pc' := 21) rfl (Ls' := #[vR a, vR sa, vI 3, .unset, .unset, .unset]) rfl ?_
 refine g_iconst X1133 hx (hb hby d7_21) (pc' := 22) rfl (z := 0) rfl ?_
 refine g_istoreN X1133 hx (hb hby d7_22) (pc' := 23) rfl (Ls' := #[vR a, vR sa, vI 3, vI 0, .unset, .unset]) rfl ?_
 have J3 : ∀ (Tq1134 : State) (hq1134 : Heap) (Lq1134 : List Loc) (Xq1134 : Stand p l e ({ frames := 5, cells := 4, slots := 1024, locals := 66 } : Room) s m #[(.ref a), (.ref sa)] below meth c Tq1134 Lq1134 4 1024) (eq1134 : Tq1134.heap = hq1134) (Nq1134 : Fr n0 Lq1134) (Zq1134 : n0 ≤ hq1134.size) (Kq1134 : Keep h0 hq1134 [a]) (Oq1134 : Old Z n0 hq1134) (Fq1134 : Fld Z hq1134 a "com/example/needlework/needlework/LastOccurrence" "pages" "[[I" (.ref pa)) (Eq1134 : Exa Z hq1134 a "com/example/needlework/needlework/LastOccurrence") (cq1134 : Cell) (Pq1134 : PG Z hq1134 h0.size hq1134.size pa cq1134 (updM (updM (updM (fun _ => -1) (cn c0) (0 : Int32)) (cn c1) (1 : Int32)) (cn c2) (2 : Int32))) (r5 : Addr), Go p e below (EndF s ({ frames := 5, cells := 4, slots := 1024, locals := 66 } : Room).cells ({ frames := 5, cells := 4, slots := 1024, locals := 66 } : Room).slots) n0 (Q7_3 Z a sa sb c0 c1 c2 cs fv h0 n0) Tq1134 (mkF m 23 #[vR a, vR sa, vI 3, vI 3, vI c2, vR r5] []) := by
  intro Tq1134 hq1134 Lq1134 Xq1134 eq1134 Nq1134 Zq1134 Kq1134 Oq1134 Fq1134 Eq1134 cq1134 Pq1134 r5
  refine g_iloadN Xq1134 hx (hb hby d7_23) (pc' := 24) rfl rfl ?_
  refine g_iloadN Xq1134 hx (hb hby d7_24) (pc' := 25) rfl rfl ?_
  refine g_icmp_ge Xq1134 hx (hb hby d7_25) (pc1 := 28) rfl (by decide) (pc2 := 95) (by decide) (fun hc25 => ?_) (fun hc25 => absurd hc25 (by decide))
  exact g_return Xq1134 hx hret (hb hby d7_95) Nq1134 hlk (fun v t => endF (by decide) (by decide) v) (by rw [eq1134]; exact ⟨rfl, Kq1134, pa, _, Fq1134, Eq1134, Pq1134⟩)
 have J2 : ∀ (Tq1135 : State) (hq1135 : Heap) (Lq1135 : List Loc) (Xq1135 : Stand p l e ({ frames := 5, cells := 4, slots := 1024, locals := 66 } : Room) s m #[(.ref a), (.ref sa)] below meth c Tq1135 Lq1135 3 768) (eq1135 : Tq1135.heap = hq1135) (Nq1135 : Fr n0 Lq1135) (Zq1135 : n0 ≤ hq1135.size) (Kq1135 : Keep h0 hq1135 [a]) (Oq1135 : Old Z n0 hq1135) (Fq1135 : Fld Z hq1135 a "com/example/needlework/needlework/LastOccurrence" "pages" "[[I" (.ref pa)) (Eq1135 : Exa Z hq1135 a "com/example/needlework/needlework/LastOccurrence") (cq1135 : Cell) (Pq1135 : PG Z hq1135 h0.size hq1135.size pa cq1135 (updM (updM (fun _ => -1) (cn c0) (0 : Int32)) (cn c1) (1 : Int32))) (r5 : Addr), Go p e below (EndF s ({ frames := 5, cells := 4, slots := 1024, locals := 66 } : Room).cells ({ frames := 5, cells := 4, slots := 1024, locals := 66 } : Room).slots) n0 (Q7_3 Z a sa sb c0 c1 c2 cs fv h0 n0) Tq1135 (mkF m 23 #[vR a, vR sa, vI 3, vI 2, vI c1, vR r5] []) := by
  intro Tq1135 hq1135 Lq1135 Xq1135 eq1135 Nq1135 Zq1135 Kq1135 Oq1135 Fq1135 Eq1135 cq1135 Pq1135 r5
  refine g_iloadN Xq1135 hx (hb hby d7_23) (pc' := 24) rfl rfl ?_
  refine g_iloadN Xq1135 hx (hb hby d7_24) (pc' := 25) rfl rfl ?_
  refine g_icmp_ge Xq1135 hx (hb hby d7_25) (pc1 := 28) rfl (by decide) (pc2 := 95) (by decide) (fun hc25 => absurd (by decide) hc25) (fun hc25 => ?_)
  refine g_aloadN Xq1135 hx (hb hby d7_28) (pc' := 29) rfl rfl rfl ?_
  refine g_iloadN Xq1135 hx (hb hby d7_29) (pc' := 30) rfl rfl ?_
  have HS1136 := HS.keep Kq1135 (ninS ne1 nin0) (ninS ne2 nin0)
  obtain ⟨v1137, T1137, h1137, L1137, X1137, e1137, N1137, q1137, st1137⟩ := h_interface (a := sa) (z := (⟨"java/lang/String", "charAt", "(I)C"⟩ : MethodName)) Xq1135 hx (W := 0) (Ls := #[vR a, vR sa, vI 3, vI 2, vI c1, vR r5]) (argsL := [(.int 2)]) (rest := []) hZ eq1135 Nq1135 hml hown (rm10_3_2 l Z a0 hw sa sb c0 c1 c2 cs fv hq1135 n0 Zq1135 HS1136 B Oq1135 hc2) HS1136.exa (wd hw 55 rfl) (wd hw 56 rfl) (mvT hZ (wd hw 57 rfl)) (wd hw 58 rfl) (wd hw 59 rfl) (wd hw 60 rfl) (wd hw 61 rfl) (wd hw 48 rfl) (wd hw 2 rfl) (wd hw 62 rfl) (by decide) pd__I_C rfl rfl (hb hby d7_30) rfl (by decide) (by decide) (by decide) (by decide)
  obtain ⟨rfl, rfl⟩ := q1137
  refine Go.movp st1137 (mkF m 35 #[vR a, vR sa, vI 3, vI 2, vI c1, vR r5] [(.int c2)]) rfl ?_
  refine g_istore X1137 hx (hb hby d7_35) (pc' := 37) rfl (Ls' := #[vR a, vR sa, vI 3, vI 2, vI c2, vR r5]) rfl ?_
  refine g_aloadN X1137 hx (hb hby d7_37) (pc' := 38) rfl rfl rfl ?_
  obtain ⟨T1138, X1138, e1138, st1138⟩ := getF X1137 hx hZ hown (host := "") (Or.inl (wd hw 39 rfl)) Via.refl e1137 Fq1135 (g := (mkF m 38 #[vR a, vR sa, vI 3, vI 2, vI c2, vR r5] [(.ref a)])) rfl rfl (hb hby d7_38)
  refine Go.movp st1138 (mkF m 41 #[vR a, vR sa, vI 3, vI 2, vI c2, vR r5] [(.ref pa)]) rfl ?_
  refine g_iload X1138 hx (hb hby d7_41) (pc' := 43) rfl rfl ?_
  refine g_bipush X1138 hx (hb hby d7_43) (pc' := 45) rfl (z := 8) rfl ?_
  refine g_iushr X1138 hx (hb hby d7_45) (pc' := 46) rfl ?_
  rcases PG.at Pq1135 hc2 with ⟨qn, qm⟩ | ⟨rp, vp, qr, ql, qp, qv, qw, qx⟩
  ·
   refine g_aaload X1138 hx hZ e1138 Pq1135.1 rfl (v := .null) (hb hby d7_46) (pc' := 47) rfl (own_hi hc2).1 (own_hi hc2).2.1 (by rw [Pq1135.2.2.1]; exact (own_hi hc2).2.2) qn ?_
   refine g_astore X1138 hx (hb hby d7_47) (pc' := 49) rfl rfl (Ls' := #[vR a, vR sa, vI 3, vI 2, vI c2, .val .null]) rfl ?_
   refine g_aload X1138 hx (hb hby d7_49) (pc' := 51) rfl rfl rfl ?_
   refine g_ifnonnull_n X1138 hx (hb hby d7_51) (pc' := 54) rfl ?_
   refine g_sipush X1138 hx (hb hby d7_54) (pc' := 57) rfl (z := 256) rfl ?_
   have ltpa : pa < hq1135.size := Pq1135.1.lt
   obtain ⟨T1139, h1139, b1139, X1139, e1139, g1139, E1139, V1139, A1139, st1139⟩ := h_newarray X1138 hx hZ e1138 (n := (256 : Int32)) (ty := .int) rfl (wd hw 80 rfl) (hb hby d7_57) (k := 256) (cap := 256) (by decide) rfl (by decide) (by decide) (by decide) (by decide) (ad := "[I") (by decide) #[vR a, vR sa, vI 3, vI 2, vI c2, .val .null] []
   have ne1140 : a ≠ b1139 := Nat.ne_of_lt (g1139 ▸ Fq1135.lt)
   have ge1141 : n0 ≤ b1139 := g1139 ▸ Zq1135
   have sz1142 : h0.size ≤ b1139 := g1139 ▸ Kq1135.1
   have f1143 := Oq1135.ext E1139
   have f1144 := Fld.ext E1139 Fq1135
   have f1145 := Exa.ext E1139 Eq1135
   have Z1146 : n0 ≤ h1139.size := Nat.le_trans Zq1135 E1139.1
   have K1147 := Kq1135.ext E1139
   have f1148 : Va Z h1139 b1139 .int (List.replicate 256 (.int 0)) := V1139
   refine Go.movp st1139 (mkF m 59 #[vR a, vR sa, vI 3, vI 2, vI c2, .val .null] [(.ref b1139)]) rfl ?_
   have nepa : b1139 ≠ pa := Ne.symm (Nat.ne_of_lt (g1139 ▸ ltpa))
   refine g_astore X1139 hx (hb hby d7_59) (pc' := 61) rfl rfl (Ls' := #[vR a, vR sa, vI 3, vI 2, vI c2, vR b1139]) rfl ?_
   refine g_aload X1139 hx (hb hby d7_61) (pc' := 63) rfl rfl rfl ?_
   refine g_iconst X1139 hx (hb hby d7_63) (pc' := 64) rfl (z := (-1 : Int32)) rfl ?_
   obtain ⟨v1149, T1149, h1149, L1149, X1149, e1149, N1149, q1149, st1149⟩ := h_static X1139 hx (W := 0) (Ls := #[vR a, vR sa, vI 3, vI 2, vI c2, vR b1139]) (argsL := [(.ref b1139), (.int (-1 : Int32))]) (rest := []) hZ e1139 N1137 hml hown (rm15 l Z a0 hw b1139 (-1 : Int32) h1139 n0 Z1146 f1148 ge1141) (wd hw 81 rfl) (wd hw 82 rfl) (wd hw 83 rfl) (wd hw 84 rfl) (by decide) pd___II_V rfl rfl (hb hby d7_64) rfl (by decide) (by decide) (by decide) (by decide)
   obtain ⟨rfl, K1149, V1149⟩ := q1149
   have f1150 := f1143.keep K1149 (allS ge1141 all0)
   have f1151 := f1144.keep K1149 (ninS ne1140 nin0)
   have f1152 := f1145.keep K1149
   have f1153 := A1139.keep K1149
   have Z1154 : n0 ≤ h1149.size := Nat.le_trans Z1146 K1149.1
   have K1155 := K1147.trans K1149 (allS (Or.inr sz1142) all0)
   refine Go.movp st1149 (mkF m 67 #[vR a, vR sa, vI 3, vI 2, vI c2, vR b1139] []) rfl ?_
   refine g_aloadN X1149 hx (hb hby d7_67) (pc' := 68) rfl rfl rfl ?_
   obtain ⟨T1156, X1156, e1156, st1156⟩ := getF X1149 hx hZ hown (host := "") (Or.inl (wd hw 39 rfl)) Via.refl e1149 f1151 (g := (mkF m 68 #[vR a, vR sa, vI 3, vI 2, vI c2, vR b1139] [(.ref a)])) rfl rfl (hb hby d7_68)
   refine Go.movp st1156 (mkF m 71 #[vR a, vR sa, vI 3, vI 2, vI c2, vR b1139] [(.ref pa)]) rfl ?_
   refine g_iload X1156 hx (hb hby d7_71) (pc' := 73) rfl rfl ?_
   refine g_bipush X1156 hx (hb hby d7_73) (pc' := 75) rfl (z := 8) rfl ?_
   refine g_iushr X1156 hx (hb hby d7_75) (pc' := 76) rfl ?_
   refine g_aload X1156 hx (hb hby d7_76) (pc' := 78) rfl rfl rfl ?_
   have K78 := ((Keep.refl hq1135 []).ext E1139).trans K1149 (allS (Or.inr (Nat.le_of_eq g1139.symm)) all0)
   have P78 := Pq1135.keep K78
   obtain ⟨T1157, h1157, L1157, X1157, e1157, N1157, W1157, st1157⟩ := h_aastore X1156 hx hZ e1156 N1149 P78.1 ge1118 rfl (j := (ushr c2 (8 : Int32))) (hb hby d7_78) (own_hi hc2).1 (own_hi hc2).2.1 (by rw [P78.2.2.1]; exact (own_hi hc2).2.2) (Sto.ofVA P78.1 rfl P78.2.1 (Ins.self f1153)) #[vR a, vR sa, vI 3, vI 2, vI c2, vR b1139] []
   obtain ⟨cc2, P79, qr⟩ := P78.put (own_hi hc2).2.2 qn W1157 V1149 sz1142 (Nat.le_of_eq g1139.symm) nepa
   have f1158 := f1150.wr W1157 ge1118
   have f1159 := Fld.other W1157 f1151 (Or.inl ne1117)
   have f1160 := Exa.wr W1157 f1152
   have f1161 := Exa.wr W1157 f1153
   have f1162 := V1149.other W1157 nepa
   have Z1163 : n0 ≤ h1157.size := Nat.le_trans Z1154 (Keep.of_wr W1157).1
   have K1164 := K1155.wr W1157 (Or.inr sz1119)
   refine Go.movp st1157 (mkF m 79 #[vR a, vR sa, vI 3, vI 2, vI c2, vR b1139] []) rfl ?_
   refine g_aload X1157 hx (hb hby d7_79) (pc' := 81) rfl rfl rfl ?_
   refine g_iload X1157 hx (hb hby d7_81) (pc' := 83) rfl rfl ?_
   refine g_sipush X1157 hx (hb hby d7_83) (pc' := 86) rfl (z := 255) rfl ?_
   refine g_iand X1157 hx (hb hby d7_86) (pc' := 87) rfl ?_
   refine g_iloadN X1157 hx (hb hby d7_87) (pc' := 88) rfl rfl ?_
   obtain ⟨T1165, h1165, L1165, X1165, e1165, N1165, W1165, V1165, st1165⟩ := h_iastore X1157 hx hZ e1157 N1157 f1162 ge1141 (j := (c2 &&& (255 : Int32))) (i := cn c2 % 256) (x := (2 : Int32)) (hb hby d7_88) (own_lo hc2).1 (own_lo hc2).2 (own_rep (Nat.mod_lt _ (by decide))) #[vR a, vR sa, vI 3, vI 2, vI c2, vR b1139] []
   have P88 := (P79.setc hc2 qr W1165).mono (Nat.succ_le_of_lt V1165.lt)
   have f1166 := f1158.wr W1165 ge1141
   have f1167 := Fld.other W1165 f1159 (Or.inl ne1140)
   have f1168 := Exa.wr W1165 f1160
   have f1169 := Exa.wr W1165 f1161
   have Z1170 : n0 ≤ h1165.size := Nat.le_trans Z1163 (Keep.of_wr W1165).1
   have K1171 := K1164.wr W1165 (Or.inr sz1142)
   refine Go.movp st1165 (mkF m 89 #[vR a, vR sa, vI 3, vI 2, vI c2, vR b1139] []) rfl ?_
   refine g_iinc X1165 hx (hb hby d7_89) (pc' := 92) rfl rfl (z := 1) rfl (Ls' := #[vR a, vR sa, vI 3, vI 3, vI c2, vR b1139]) rfl ?_
   refine g_goto X1165 hx (hb hby d7_92) (by decide) (pc' := 23) (by decide) ?_
   exact J3 T1165 h1165 _ (X1165.more (by decide) (by decide)) e1165 N1165 Z1170 K1171 f1166 f1167 f1168 _ P88 b1139
  ·
   refine g_aaload X1138 hx hZ e1138 Pq1135.1 rfl (v := (.ref rp)) (hb hby d7_46) (pc' := 47) rfl (own_hi hc2).1 (own_hi hc2).2.1 (by rw [Pq1135.2.2.1]; exact (own_hi hc2).2.2) qr ?_
   have gerp : n0 ≤ rp := Nat.le_trans Z0 ql
   have nerp : a ≠ rp := Nat.ne_of_lt (Nat.lt_of_lt_of_le E1.lt ql)
   refine g_astore X1138 hx (hb hby d7_47) (pc' := 49) rfl rfl (Ls' := #[vR a, vR sa, vI 3, vI 2, vI c2, vR rp]) rfl ?_
   refine g_aload X1138 hx (hb hby d7_49) (pc' := 51) rfl rfl rfl ?_
   refine g_ifnonnull_y X1138 hx (hb hby d7_51) (by decide) (pc' := 79) (by decide) ?_
   refine g_aload X1138 hx (hb hby d7_79) (pc' := 81) rfl rfl rfl ?_
   refine g_iload X1138 hx (hb hby d7_81) (pc' := 83) rfl rfl ?_
   refine g_sipush X1138 hx (hb hby d7_83) (pc' := 86) rfl (z := 255) rfl ?_
   refine g_iand X1138 hx (hb hby d7_86) (pc' := 87) rfl ?_
   refine g_iloadN X1138 hx (hb hby d7_87) (pc' := 88) rfl rfl ?_
   obtain ⟨T1172, h1172, L1172, X1172, e1172, N1172, W1172, V1172, st1172⟩ := h_iastore X1138 hx hZ e1138 N1137 qv gerp (j := (c2 &&& (255 : Int32))) (i := cn c2 % 256) (x := (2 : Int32)) (hb hby d7_88) (own_lo hc2).1 (own_lo hc2).2 qx #[vR a, vR sa, vI 3, vI 2, vI c2, vR rp] []
   have P88 := (Pq1135.setc hc2 qr W1172).mono (Keep.of_wr W1172).1
   have f1173 := Oq1135.wr W1172 gerp
   have f1174 := Fld.other W1172 Fq1135 (Or.inl nerp)
   have f1175 := Exa.wr W1172 Eq1135
   have Z1176 : n0 ≤ h1172.size := Nat.le_trans Zq1135 (Keep.of_wr W1172).1
   have K1177 := Kq1135.wr W1172 (Or.inr ql)
   refine Go.movp st1172 (mkF m 89 #[vR a, vR sa, vI 3, vI 2, vI c2, vR rp] []) rfl ?_
   refine g_iinc X1172 hx (hb hby d7_89) (pc' := 92) rfl rfl (z := 1) rfl (Ls' := #[vR a, vR sa, vI 3, vI 3, vI c2, vR rp]) rfl ?_
   refine g_goto X1172 hx (hb hby d7_92) (by decide) (pc' := 23) (by decide) ?_
   exact J3 T1172 h1172 _ (X1172.more (by decide) (by decide)) e1172 N1172 Z1176 K1177 f1173 f1174 f1175 _ P88 rp
 have J1 : ∀ (Tq1178 : State) (hq1178 : Heap) (Lq1178 : List Loc) (Xq1178 : Stand p l e ({ frames := 5, cells := 4, slots := 1024, locals := 66 } : Room) s m #[(.ref a), (.ref sa)] below meth c Tq1178 Lq1178 2 512) (eq1178 : Tq1178.heap = hq1178) (Nq1178 : Fr n0 Lq1178) (Zq1178 : n0 ≤ hq1178.size) (Kq1178 : Keep h0 hq1178 [a]) (Oq1178 : Old Z n0 hq1178) (Fq1178 : Fld Z hq1178 a "com/example/needlework/needlework/LastOccurrence" "pages" "[[I" (.ref pa)) (Eq1178 : Exa Z hq1178 a "com/example/needlework/needlework/LastOccurrence") (cq1178 : Cell) (Pq1178 : PG Z hq1178 h0.size hq1178.size pa cq1178 (updM (fun _ => -1) (cn c0) (0 : Int32))) (r5 : Addr), Go p e below (EndF s ({ frames := 5, cells := 4, slots := 1024, locals := 66 } : Room).cells ({ frames := 5, cells := 4, slots := 1024, locals := 66 } : Room).slots) n0 (Q7_3 Z a sa sb c0 c1 c2 cs fv h0 n0) Tq1178 (mkF m 23 #[vR a, vR sa, vI 3, vI 1, vI c0, vR r5] []) := by
  intro Tq1178 hq1178 Lq1178 Xq1178 eq1178 Nq1178 Zq1178 Kq1178 Oq1178 Fq1178 Eq1178 cq1178 Pq1178 r5
  refine g_iloadN Xq1178 hx (hb hby d7_23) (pc' := 24) rfl rfl ?_
  refine g_iloadN Xq1178 hx (hb hby d7_24) (pc' := 25) rfl rfl ?_
  refine g_icmp_ge Xq1178 hx (hb hby d7_25) (pc1 := 28) rfl (by decide) (pc2 := 95) (by decide) (fun hc25 => absurd (by decide) hc25) (fun hc25 => ?_)
  refine g_aloadN Xq1178 hx (hb hby d7_28) (pc' := 29) rfl rfl rfl ?_
  refine g_iloadN Xq1178 hx (hb hby d7_29) (pc' := 30) rfl rfl ?_
  have HS1179 := HS.keep Kq1178 (ninS ne1 nin0) (ninS ne2 nin0)
  obtain ⟨v1180, T1180, h1180, L1180, X1180, e1180, N1180, q1180, st1180⟩ := h_interface (a := sa) (z := (⟨"java/lang/String", "charAt", "(I)C"⟩ : MethodName)) Xq1178 hx (W := 0) (Ls := #[vR a, vR sa, vI 3, vI 1, vI c0, vR r5]) (argsL := [(.int 1)]) (rest := []) hZ eq1178 Nq1178 hml hown (rm10_3_1 l Z a0 hw sa sb c0 c1 c2 cs fv hq1178 n0 Zq1178 HS1179 B Oq1178 hc1) HS1179.exa (wd hw 55 rfl) (wd hw 56 rfl) (mvT hZ (wd hw 57 rfl)) (wd hw 58 rfl) (wd hw 59 rfl) (wd hw 60 rfl) (wd hw 61 rfl) (wd hw 48 rfl) (wd hw 2 rfl) (wd hw 62 rfl) (by decide) pd__I_C rfl rfl (hb hby d7_30) rfl (by decide) (by decide) (by decide) (by decide)
  obtain ⟨rfl, rfl⟩ := q1180
  refine Go.movp st1180 (mkF m 35 #[vR a, vR sa, vI 3, vI 1, vI c0, vR r5] [(.int c1)]) rfl ?_
  refine g_istore X1180 hx (hb hby d7_35) (pc' := 37) rfl (Ls' := #[vR a, vR sa, vI 3, vI 1, vI c1, vR r5]) rfl ?_
  refine g_aloadN X1180 hx (hb hby d7_37) (pc' := 38) rfl rfl rfl ?_
  obtain ⟨T1181, X1181, e1181, st1181⟩ := getF X1180 hx hZ hown (host := "") (Or.inl (wd hw 39 rfl)) Via.refl e1180 Fq1178 (g := (mkF m 38 #[vR a, vR sa, vI 3, vI 1, vI c1, vR r5] [(.ref a)])) rfl rfl (hb hby d7_38)
  refine Go.movp st1181 (mkF m 41 #[vR a, vR sa, vI 3, vI 1, vI c1, vR r5] [(.ref pa)]) rfl ?_
  refine g_iload X1181 hx (hb hby d7_41) (pc' := 43) rfl rfl ?_
  refine g_bipush X1181 hx (hb hby d7_43) (pc' := 45) rfl (z := 8) rfl ?_
  refine g_iushr X1181 hx (hb hby d7_45) (pc' := 46) rfl ?_
  rcases PG.at Pq1178 hc1 with ⟨qn, qm⟩ | ⟨rp, vp, qr, ql, qp, qv, qw, qx⟩
  ·
   refine g_aaload X1181 hx hZ e1181 Pq1178.1 rfl (v := .null) (hb hby d7_46) (pc' := 47) rfl (own_hi hc1).1 (own_hi hc1).2.1 (by rw [Pq1178.2.2.1]; exact (own_hi hc1).2.2) qn ?_
   refine g_astore X1181 hx (hb hby d7_47) (pc' := 49) rfl rfl (Ls' := #[vR a, vR sa, vI 3, vI 1, vI c1, .val .null]) rfl ?_
   refine g_aload X1181 hx (hb hby d7_49) (pc' := 51) rfl rfl rfl ?_
   refine g_ifnonnull_n X1181 hx (hb hby d7_51) (pc' := 54) rfl ?_
   refine g_sipush X1181 hx (hb hby d7_54) (pc' := 57) rfl (z := 256) rfl ?_
   have ltpa : pa < hq1178.size := Pq1178.1.lt
   obtain ⟨T1182, h1182, b1182, X1182, e1182, g1182, E1182, V1182, A1182, st1182⟩ := h_newarray X1181 hx hZ e1181 (n := (256 : Int32)) (ty := .int) rfl (wd hw 80 rfl) (hb hby d7_57) (k := 256) (cap := 256) (by decide) rfl (by decide) (by decide) (by decide) (by decide) (ad := "[I") (by decide) #[vR a, vR sa, vI 3, vI 1, vI c1, .val .null] []
   have ne1183 : a ≠ b1182 := Nat.ne_of_lt (g1182 ▸ Fq1178.lt)
   have ge1184 : n0 ≤ b1182 := g1182 ▸ Zq1178
   have sz1185 : h0.size ≤ b1182 := g1182 ▸ Kq1178.1
   have f1186 := Oq1178.ext E1182
   have f1187 := Fld.ext E1182 Fq1178
   have f1188 := Exa.ext E1182 Eq1178
   have Z1189 : n0 ≤ h1182.size := Nat.le_trans Zq1178 E1182.1
   have K1190 := Kq1178.ext E1182
   have f1191 : Va Z h1182 b1182 .int (List.replicate 256 (.int 0)) := V1182
   refine Go.movp st1182 (mkF m 59 #[vR a, vR sa, vI 3, vI 1, vI c1, .val .null] [(.ref b1182)]) rfl ?_
   have nepa : b1182 ≠ pa := Ne.symm (Nat.ne_of_lt (g1182 ▸ ltpa))
   refine g_astore X1182 hx (hb hby d7_59) (pc' := 61) rfl rfl (Ls' := #[vR a, vR sa, vI 3, vI 1, vI c1, vR b1182]) rfl ?_
   refine g_aload X1182 hx (hb hby d7_61) (pc' := 63) rfl rfl rfl ?_
   refine g_iconst X1182 hx (hb hby d7_63) (pc' := 64) rfl (z := (-1 : Int32)) rfl ?_
   obtain ⟨v1192, T1192, h1192, L1192, X1192, e1192, N1192, q1192, st1192⟩ := h_static X1182 hx (W := 0) (Ls := #[vR a, vR sa, vI 3, vI 1, vI c1, vR b1182]) (argsL := [(.ref b1182), (.int (-1 : Int32))]) (rest := []) hZ e1182 N1180 hml hown (rm15 l Z a0 hw b1182 (-1 : Int32) h1182 n0 Z1189 f1191 ge1184) (wd hw 81 rfl) (wd hw 82 rfl) (wd hw 83 rfl) (wd hw 84 rfl) (by decide) pd___II_V rfl rfl (hb hby d7_64) rfl (by decide) (by decide) (by decide) (by decide)
   obtain ⟨rfl, K1192, V1192⟩ := q1192
   have f1193 := f1186.keep K1192 (allS ge1184 all0)
   have f1194 := f1187.keep K1192 (ninS ne1183 nin0)
   have f1195 := f1188.keep K1192
   have f1196 := A1182.keep K1192
   have Z1197 : n0 ≤ h1192.size := Nat.le_trans Z1189 K1192.1
   have K1198 := K1190.trans K1192 (allS (Or.inr sz1185) all0)
   refine Go.movp st1192 (mkF m 67 #[vR a, vR sa, vI 3, vI 1, vI c1, vR b1182] []) rfl ?_
   refine g_aloadN X1192 hx (hb hby d7_67) (pc' := 68) rfl rfl rfl ?_
   obtain ⟨T1199, X1199, e1199, st1199⟩ := getF X1192 hx hZ hown (host := "") (Or.inl (wd hw 39 rfl)) Via.refl e1192 f1194 (g := (mkF m 68 #[vR a, vR sa, vI 3, vI 1, vI c1, vR b1182] [(.ref a)])) rfl rfl (hb hby d7_68)
   refine Go.movp st1199 (mkF m 71 #[vR a, vR sa, vI 3, vI 1, vI c1, vR b1182] [(.ref pa)]) rfl ?_
   refine g_iload X1199 hx (hb hby d7_71) (pc' := 73) rfl rfl ?_
   refine g_bipush X1199 hx (hb hby d7_73) (pc' := 75) rfl (z := 8) rfl ?_
   refine g_iushr X1199 hx (hb hby d7_75) (pc' := 76) rfl ?_
   refine g_aload X1199 hx (hb hby d7_76) (pc' := 78) rfl rfl rfl ?_
   have K78 := ((Keep.refl hq1178 []).ext E1182).trans K1192 (allS (Or.inr (Nat.le_of_eq g1182.symm)) all0)
   have P78 := Pq1178.keep K78
   obtain ⟨T1200, h1200, L1200, X1200, e1200, N1200, W1200, st1200⟩ := h_aastore X1199 hx hZ e1199 N1192 P78.1 ge1118 rfl (j := (ushr c1 (8 : Int32))) (hb hby d7_78) (own_hi hc1).1 (own_hi hc1).2.1 (by rw [P78.2.2.1]; exact (own_hi hc1).2.2) (Sto.ofVA P78.1 rfl P78.2.1 (Ins.self f1196)) #[vR a, vR sa, vI 3, vI 1, vI c1, vR b1182] []
   obtain ⟨cc2, P79, qr⟩ := P78.put (own_hi hc1).2.2 qn W1200 V1192 sz1185 (Nat.le_of_eq g1182.symm) nepa
   have f1201 := f1193.wr W1200 ge1118
   have f1202 := Fld.other W1200 f1194 (Or.inl ne1117)
   have f1203 := Exa.wr W1200 f1195
   have f1204 := Exa.wr W1200 f1196
   have f1205 := V1192.other W1200 nepa
   have Z1206 : n0 ≤ h1200.size := Nat.le_trans Z1197 (Keep.of_wr W1200).1
   have K1207 := K1198.wr W1200 (Or.inr sz1119)
   refine Go.movp st1200 (mkF m 79 #[vR a, vR sa, vI 3, vI 1, vI c1, vR b1182] []) rfl ?_
   refine g_aload X1200 hx (hb hby d7_79) (pc' := 81) rfl rfl rfl ?_
   refine g_iload X1200 hx (hb hby d7_81) (pc' := 83) rfl rfl ?_
   refine g_sipush X1200 hx (hb hby d7_83) (pc' := 86) rfl (z := 255) rfl ?_
   refine g_iand X1200 hx (hb hby d7_86) (pc' := 87) rfl ?_
   refine g_iloadN X1200 hx (hb hby d7_87) (pc' := 88) rfl rfl ?_
   obtain ⟨T1208, h1208, L1208, X1208, e1208, N1208, W1208, V1208, st1208⟩ := h_iastore X1200 hx hZ e1200 N1200 f1205 ge1184 (j := (c1 &&& (255 : Int32))) (i := cn c1 % 256) (x := (1 : Int32)) (hb hby d7_88) (own_lo hc1).1 (own_lo hc1).2 (own_rep (Nat.mod_lt _ (by decide))) #[vR a, vR sa, vI 3, vI 1, vI c1, vR b1182] []
   have P88 := (P79.setc hc1 qr W1208).mono (Nat.succ_le_of_lt V1208.lt)
   have f1209 := f1201.wr W1208 ge1184
   have f1210 := Fld.other W1208 f1202 (Or.inl ne1183)
   have f1211 := Exa.wr W1208 f1203
   have f1212 := Exa.wr W1208 f1204
   have Z1213 : n0 ≤ h1208.size := Nat.le_trans Z1206 (Keep.of_wr W1208).1
   have K1214 := K1207.wr W1208 (Or.inr sz1185)
   refine Go.movp st1208 (mkF m 89 #[vR a, vR sa, vI 3, vI 1, vI c1, vR b1182] []) rfl ?_
   refine g_iinc X1208 hx (hb hby d7_89) (pc' := 92) rfl rfl (z := 1) rfl (Ls' := #[vR a, vR sa, vI 3, vI 2, vI c1, vR b1182]) rfl ?_
   refine g_goto X1208 hx (hb hby d7_92) (by decide) (pc' := 23) (by decide) ?_
   exact J2 T1208 h1208 _ (X1208.more (by decide) (by decide)) e1208 N1208 Z1213 K1214 f1209 f1210 f1211 _ P88 b1182
  ·
   refine g_aaload X1181 hx hZ e1181 Pq1178.1 rfl (v := (.ref rp)) (hb hby d7_46) (pc' := 47) rfl (own_hi hc1).1 (own_hi hc1).2.1 (by rw [Pq1178.2.2.1]; exact (own_hi hc1).2.2) qr ?_
   have gerp : n0 ≤ rp := Nat.le_trans Z0 ql
   have nerp : a ≠ rp := Nat.ne_of_lt (Nat.lt_of_lt_of_le E1.lt ql)
   refine g_astore X1181 hx (hb hby d7_47) (pc' := 49) rfl rfl (Ls' := #[vR a, vR sa, vI 3, vI 1, vI c1, vR rp]) rfl ?_
   refine g_aload X1181 hx (hb hby d7_49) (pc' := 51) rfl rfl rfl ?_
   refine g_ifnonnull_y X1181 hx (hb hby d7_51) (by decide) (pc' := 79) (by decide) ?_
   refine g_aload X1181 hx (hb hby d7_79) (pc' := 81) rfl rfl rfl ?_
   refine g_iload X1181 hx (hb hby d7_81) (pc' := 83) rfl rfl ?_
   refine g_sipush X1181 hx (hb hby d7_83) (pc' := 86) rfl (z := 255) rfl ?_
   refine g_iand X1181 hx (hb hby d7_86) (pc' := 87) rfl ?_
   refine g_iloadN X1181 hx (hb hby d7_87) (pc' := 88) rfl rfl ?_
   obtain ⟨T1215, h1215, L1215, X1215, e1215, N1215, W1215, V1215, st1215⟩ := h_iastore X1181 hx hZ e1181 N1180 qv gerp (j := (c1 &&& (255 : Int32))) (i := cn c1 % 256) (x := (1 : Int32)) (hb hby d7_88) (own_lo hc1).1 (own_lo hc1).2 qx #[vR a, vR sa, vI 3, vI 1, vI c1, vR rp] []
   have P88 := (Pq1178.setc hc1 qr W1215).mono (Keep.of_wr W1215).1
   have f1216 := Oq1178.wr W1215 gerp
   have f1217 := Fld.other W1215 Fq1178 (Or.inl nerp)
   have f1218 := Exa.wr W1215 Eq1178
   have Z1219 : n0 ≤ h1215.size := Nat.le_trans Zq1178 (Keep.of_wr W1215).1
   have K1220 := Kq1178.wr W1215 (Or.inr ql)
   refine Go.movp st1215 (mkF m 89 #[vR a, vR sa, vI 3, vI 1, vI c1, vR rp] []) rfl ?_
   refine g_iinc X1215 hx (hb hby d7_89) (pc' := 92) rfl rfl (z := 1) rfl (Ls' := #[vR a, vR sa, vI 3, vI 2, vI c1, vR rp]) rfl ?_
   refine g_goto X1215 hx (hb hby d7_92) (by decide) (pc' := 23) (by decide) ?_
   exact J2 T1215 h1215 _ (X1215.more (by decide) (by decide)) e1215 N1215 Z1219 K1220 f1216 f1217 f1218 _ P88 rp
 refine g_iloadN X1133 hx (hb hby d7_23) (pc' := 24) rfl rfl ?_
 refine g_iloadN X1133 hx (hb hby d7_24) (pc' := 25) rfl rfl ?_
 refine g_icmp_ge X1133 hx (hb hby d7_25) (pc1 := 28) rfl (by decide) (pc2 := 95) (by decide) (fun hc25 => absurd (by decide) hc25) (fun hc25 => ?_)
 refine g_aloadN X1133 hx (hb hby d7_28) (pc' := 29) rfl rfl rfl ?_
 refine g_iloadN X1133 hx (hb hby d7_29) (pc' := 30) rfl rfl ?_
 have HS1221 := HS.keep K1131 (ninS ne1 nin0) (ninS ne2 nin0)
 obtain ⟨v1222, T1222, h1222, L1222, X1222, e1222, N1222, q1222, st1222⟩ := h_interface (a := sa) (z := (⟨"java/lang/String", "charAt", "(I)C"⟩ : MethodName)) X1133 hx (W := 0) (Ls := #[vR a, vR sa, vI 3, vI 0, .unset, .unset]) (argsL := [(.int 0)]) (rest := []) hZ e1133 N1133 hml hown (rm10_3_0 l Z a0 hw sa sb c0 c1 c2 cs fv h1125 n0 Z1130 HS1221 B f1127 hc0) HS1221.exa (wd hw 55 rfl) (wd hw 56 rfl) (mvT hZ (wd hw 57 rfl)) (wd hw 58 rfl) (wd hw 59 rfl) (wd hw 60 rfl) (wd hw 61 rfl) (wd hw 48 rfl) (wd hw 2 rfl) (wd hw 62 rfl) (by decide) pd__I_C rfl rfl (hb hby d7_30) rfl (by decide) (by decide) (by decide) (by decide)
 obtain ⟨rfl, rfl⟩ := q1222
 refine Go.movp st1222 (mkF m 35 #[vR a, vR sa, vI 3, vI 0, .unset, .unset] [(.int c0)]) rfl ?_
 refine g_istore X1222 hx (hb hby d7_35) (pc' := 37) rfl (Ls' := #[vR a, vR sa, vI 3, vI 0, vI c0, .unset]) rfl ?_
 refine g_aloadN X1222 hx (hb hby d7_37) (pc' := 38) rfl rfl rfl ?_
 obtain ⟨T1223, X1223, e1223, st1223⟩ := getF X1222 hx hZ hown (host := "") (Or.inl (wd hw 39 rfl)) Via.refl e1222 f1126 (g := (mkF m 38 #[vR a, vR sa, vI 3, vI 0, vI c0, .unset] [(.ref a)])) rfl rfl (hb hby d7_38)
 refine Go.movp st1223 (mkF m 41 #[vR a, vR sa, vI 3, vI 0, vI c0, .unset] [(.ref pa)]) rfl ?_
 refine g_iload X1223 hx (hb hby d7_41) (pc' := 43) rfl rfl ?_
 refine g_bipush X1223 hx (hb hby d7_43) (pc' := 45) rfl (z := 8) rfl ?_
 refine g_iushr X1223 hx (hb hby d7_45) (pc' := 46) rfl ?_
 rcases PG.at PA hc0 with ⟨qn, qm⟩ | ⟨rp, vp, qr, ql, qp, qv, qw, qx⟩
 ·
  refine g_aaload X1223 hx hZ e1223 PA.1 rfl (v := .null) (hb hby d7_46) (pc' := 47) rfl (own_hi hc0).1 (own_hi hc0).2.1 (by rw [PA.2.2.1]; exact (own_hi hc0).2.2) qn ?_
  refine g_astore X1223 hx (hb hby d7_47) (pc' := 49) rfl rfl (Ls' := #[vR a, vR sa, vI 3, vI 0, vI c0, .val .null]) rfl ?_
  refine g_aload X1223 hx (hb hby d7_49) (pc' := 51) rfl rfl rfl ?_
  refine g_ifnonnull_n X1223 hx (hb hby d7_51) (pc' := 54) rfl ?_
  refine g_sipush X1223 hx (hb hby d7_54) (pc' := 57) rfl (z := 256) rfl ?_
  have ltpa : pa < h1125.size := PA.1.lt
  obtain ⟨T1224, h1224, b1224, X1224, e1224, g1224, E1224, V1224, A1224, st1224⟩ := h_newarray X1223 hx hZ e1223 (n := (256 : Int32)) (ty := .int) rfl (wd hw 80 rfl) (hb hby d7_57) (k := 256) (cap := 256) (by decide) rfl (by decide) (by decide) (by decide) (by decide) (ad := "[I") (by decide) #[vR a, vR sa, vI 3, vI 0, vI c0, .val .null] []
  have ne1225 : a ≠ b1224 := Nat.ne_of_lt (g1224 ▸ f1128.lt)
  have ge1226 : n0 ≤ b1224 := g1224 ▸ Z1130
  have sz1227 : h0.size ≤ b1224 := g1224 ▸ K1131.1
  have f1228 := f1127.ext E1224
  have f1229 := Exa.ext E1224 f1128
  have f1230 := Fld.ext E1224 f1126
  have Z1231 : n0 ≤ h1224.size := Nat.le_trans Z1130 E1224.1
  have K1232 := K1131.ext E1224
  have f1233 : Va Z h1224 b1224 .int (List.replicate 256 (.int 0)) := V1224
  refine Go.movp st1224 (mkF m 59 #[vR a, vR sa, vI 3, vI 0, vI c0, .val .null] [(.ref b1224)]) rfl ?_
  have nepa : b1224 ≠ pa := Ne.symm (Nat.ne_of_lt (g1224 ▸ ltpa))
  refine g_astore X1224 hx (hb hby d7_59) (pc' := 61) rfl rfl (Ls' := #[vR a, vR sa, vI 3, vI 0, vI c0, vR b1224]) rfl ?_
  refine g_aload X1224 hx (hb hby d7_61) (pc' := 63) rfl rfl rfl ?_
  refine g_iconst X1224 hx (hb hby d7_63) (pc' := 64) rfl (z := (-1 : Int32)) rfl ?_
  obtain ⟨v1234, T1234, h1234, L1234, X1234, e1234, N1234, q1234, st1234⟩ := h_static X1224 hx (W := 0) (Ls := #[vR a, vR sa, vI 3, vI 0, vI c0, vR b1224]) (argsL := [(.ref b1224), (.int (-1 : Int32))]) (rest := []) hZ e1224 N1222 hml hown (rm15 l Z a0 hw b1224 (-1 : Int32) h1224 n0 Z1231 f1233 ge1226) (wd hw 81 rfl) (wd hw 82 rfl) (wd hw 83 rfl) (wd hw 84 rfl) (by decide) pd___II_V rfl rfl (hb hby d7_64) rfl (by decide) (by decide) (by decide) (by decide)
  obtain ⟨rfl, K1234, V1234⟩ := q1234
  have f1235 := f1228.keep K1234 (allS ge1226 all0)
  have f1236 := f1229.keep K1234
  have f1237 := f1230.keep K1234 (ninS ne1225 nin0)
  have f1238 := A1224.keep K1234
  have Z1239 : n0 ≤ h1234.size := Nat.le_trans Z1231 K1234.1
  have K1240 := K1232.trans K1234 (allS (Or.inr sz1227) all0)
  refine Go.movp st1234 (mkF m 67 #[vR a, vR sa, vI 3, vI 0, vI c0, vR b1224] []) rfl ?_
  refine g_aloadN X1234 hx (hb hby d7_67) (pc' := 68) rfl rfl rfl ?_
  obtain ⟨T1241, X1241, e1241, st1241⟩ := getF X1234 hx hZ hown (host := "") (Or.inl (wd hw 39 rfl)) Via.refl e1234 f1237 (g := (mkF m 68 #[vR a, vR sa, vI 3, vI 0, vI c0, vR b1224] [(.ref a)])) rfl rfl (hb hby d7_68)
  refine Go.movp st1241 (mkF m 71 #[vR a, vR sa, vI 3, vI 0, vI c0, vR b1224] [(.ref pa)]) rfl ?_
  refine g_iload X1241 hx (hb hby d7_71) (pc' := 73) rfl rfl ?_
  refine g_bipush X1241 hx (hb hby d7_73) (pc' := 75) rfl (z := 8) rfl ?_
  refine g_iushr X1241 hx (hb hby d7_75) (pc' := 76) rfl ?_
  refine g_aload X1241 hx (hb hby d7_76) (pc' := 78) rfl rfl rfl ?_
  have K78 := ((Keep.refl h1125 []).ext E1224).trans K1234 (allS (Or.inr (Nat.le_of_eq g1224.symm)) all0)
  have P78 := PA.keep K78
  obtain ⟨T1242, h1242, L1242, X1242, e1242, N1242, W1242, st1242⟩ := h_aastore X1241 hx hZ e1241 N1234 P78.1 ge1118 rfl (j := (ushr c0 (8 : Int32))) (hb hby d7_78) (own_hi hc0).1 (own_hi hc0).2.1 (by rw [P78.2.2.1]; exact (own_hi hc0).2.2) (Sto.ofVA P78.1 rfl P78.2.1 (Ins.self f1238)) #[vR a, vR sa, vI 3, vI 0, vI c0, vR b1224] []
  obtain ⟨cc2, P79, qr⟩ := P78.put (own_hi hc0).2.2 qn W1242 V1234 sz1227 (Nat.le_of_eq g1224.symm) nepa
  have f1243 := f1235.wr W1242 ge1118
  have f1244 := Exa.wr W1242 f1236
  have f1245 := Fld.other W1242 f1237 (Or.inl ne1117)
  have f1246 := Exa.wr W1242 f1238
  have f1247 := V1234.other W1242 nepa
  have Z1248 : n0 ≤ h1242.size := Nat.le_trans Z1239 (Keep.of_wr W1242).1
  have K1249 := K1240.wr W1242 (Or.inr sz1119)
  refine Go.movp st1242 (mkF m 79 #[vR a, vR sa, vI 3, vI 0, vI c0, vR b1224] []) rfl ?_
  refine g_aload X1242 hx (hb hby d7_79) (pc' := 81) rfl rfl rfl ?_
  refine g_iload X1242 hx (hb hby d7_81) (pc' := 83) rfl rfl ?_
  refine g_sipush X1242 hx (hb hby d7_83) (pc' := 86) rfl (z := 255) rfl ?_
  refine g_iand X1242 hx (hb hby d7_86) (pc' := 87) rfl ?_
  refine g_iloadN X1242 hx (hb hby d7_87) (pc' := 88) rfl rfl ?_
  obtain ⟨T1250, h1250, L1250, X1250, e1250, N1250, W1250, V1250, st1250⟩ := h_iastore X1242 hx hZ e1242 N1242 f1247 ge1226 (j := (c0 &&& (255 : Int32))) (i := cn c0 % 256) (x := (0 : Int32)) (hb hby d7_88) (own_lo hc0).1 (own_lo hc0).2 (own_rep (Nat.mod_lt _ (by decide))) #[vR a, vR sa, vI 3, vI 0, vI c0, vR b1224] []
  have P88 := (P79.setc hc0 qr W1250).mono (Nat.succ_le_of_lt V1250.lt)
  have f1251 := f1243.wr W1250 ge1226
  have f1252 := Exa.wr W1250 f1244
  have f1253 := Fld.other W1250 f1245 (Or.inl ne1225)
  have f1254 := Exa.wr W1250 f1246
  have Z1255 : n0 ≤ h1250.size := Nat.le_trans Z1248 (Keep.of_wr W1250).1
  have K1256 := K1249.wr W1250 (Or.inr sz1227)
  refine Go.movp st1250 (mkF m 89 #[vR a, vR sa, vI 3, vI 0, vI c0, vR b1224] []) rfl ?_
  refine g_iinc X1250 hx (hb hby d7_89) (pc' := 92) rfl rfl (z := 1) rfl (Ls' := #[vR a, vR sa, vI 3, vI 1, vI c0, vR b1224]) rfl ?_
  refine g_goto X1250 hx (hb hby d7_92) (by decide) (pc' := 23) (by decide) ?_
  exact J1 T1250 h1250 _ (X1250.more (by decide) (by decide)) e1250 N1250 Z1255 K1256 f1251 f1253 f1252 _ P88 b1224
 ·
  refine g_aaload X1223 hx hZ e1223 PA.1 rfl (v := (.ref rp)) (hb hby d7_46) (pc' := 47) rfl (own_hi hc0).1 (own_hi hc0).2.1 (by rw [PA.2.2.1]; exact (own_hi hc0).2.2) qr ?_
  have gerp : n0 ≤ rp := Nat.le_trans Z0 ql
  have nerp : a ≠ rp := Nat.ne_of_lt (Nat.lt_of_lt_of_le E1.lt ql)
  refine g_astore X1223 hx (hb hby d7_47) (pc' := 49) rfl rfl (Ls' := #[vR a, vR sa, vI 3, vI 0, vI c0, vR rp]) rfl ?_
  refine g_aload X1223 hx (hb hby d7_49) (pc' := 51) rfl rfl rfl ?_
  refine g_ifnonnull_y X1223 hx (hb hby d7_51) (by decide) (pc' := 79) (by decide) ?_
  refine g_aload X1223 hx (hb hby d7_79) (pc' := 81) rfl rfl rfl ?_
  refine g_iload X1223 hx (hb hby d7_81) (pc' := 83) rfl rfl ?_
  refine g_sipush X1223 hx (hb hby d7_83) (pc' := 86) rfl (z := 255) rfl ?_
  refine g_iand X1223 hx (hb hby d7_86) (pc' := 87) rfl ?_
  refine g_iloadN X1223 hx (hb hby d7_87) (pc' := 88) rfl rfl ?_
  obtain ⟨T1257, h1257, L1257, X1257, e1257, N1257, W1257, V1257, st1257⟩ := h_iastore X1223 hx hZ e1223 N1222 qv gerp (j := (c0 &&& (255 : Int32))) (i := cn c0 % 256) (x := (0 : Int32)) (hb hby d7_88) (own_lo hc0).1 (own_lo hc0).2 qx #[vR a, vR sa, vI 3, vI 0, vI c0, vR rp] []
  have P88 := (PA.setc hc0 qr W1257).mono (Keep.of_wr W1257).1
  have f1258 := f1127.wr W1257 gerp
  have f1259 := Exa.wr W1257 f1128
  have f1260 := Fld.other W1257 f1126 (Or.inl nerp)
  have Z1261 : n0 ≤ h1257.size := Nat.le_trans Z1130 (Keep.of_wr W1257).1
  have K1262 := K1131.wr W1257 (Or.inr ql)
  refine Go.movp st1257 (mkF m 89 #[vR a, vR sa, vI 3, vI 0, vI c0, vR rp] []) rfl ?_
  refine g_iinc X1257 hx (hb hby d7_89) (pc' := 92) rfl rfl (z := 1) rfl (Ls' := #[vR a, vR sa, vI 3, vI 1, vI c0, vR rp]) rfl ?_
  refine g_goto X1257 hx (hb hby d7_92) (by decide) (pc' := 23) (by decide) ?_
  exact J1 T1257 h1257 _ (X1257.more (by decide) (by decide)) e1257 N1257 Z1261 K1262 f1258 f1260 f1259 _ P88 rp
theorem ef_7_4 (x0 : Addr) (x1 : Addr) (m : MethodId) : entryFrame m #[(.ref x0), (.ref x1)] 6 = mkF m 0 #[.val (.ref x0), .val (.ref x1), .unset, .unset, .unset, .unset] [] := by first | (simp [entryFrame, mkF, argsToLocals, Value.category]; done) | rfl
def Q7_4 (Z : State) (a : Addr) (sa : Addr) (sb : Addr) (c0 : Int32) (c1 : Int32) (c2 : Int32) (c3 : Int32) (cs : Int32) (fv : Value) (h0 : Heap) (n0 : Nat) : Option Value → Heap → Prop := fun v h => v = none ∧ Keep h0 h [a] ∧ ∃ pa cc, Fld Z h a "com/example/needlework/needlework/LastOccurrence" "pages" "[[I" (.ref pa) ∧ Exa Z h a "com/example/needlework/needlework/LastOccurrence" ∧ PG Z h h0.size h.size pa cc (updM (updM (updM (updM (fun _ => -1) (cn c0) (0 : Int32)) (cn c1) (1 : Int32)) (cn c2) (2 : Int32)) (cn c3) (3 : Int32))
theorem rm7_4 (l : Launch) (Z : State) (a0 : Array Value) (hw : HW Z a0) (a : Addr) (sa : Addr) (sb : Addr) (c0 : Int32) (c1 : Int32) (c2 : Int32) (c3 : Int32) (cs : Int32) (fv : Value) (h0 : Heap) (n0 : Nat) (Z0 : n0 ≤ h0.size) (F1 : Fld Z h0 a "com/example/needlework/needlework/LastOccurrence" "pages" "[[I" .null) (E1 : Exa Z h0 a "com/example/needlework/needlework/LastOccurrence") (G1 : n0 ≤ a) (HS : Str Z h0 sa sb [c0, c1, c2, c3]) (ne1 : sa ≠ a) (ne2 : sb ≠ a) (B : Sts Z cs fv) (O : Old Z n0 h0) (hc0 : chr c0 = c0) (hc1 : chr c1 = c1) (hc2 : chr c2 = c2) (hc3 : chr c3 = c3) : Ctr l Z (⟨"com/example/needlework/needlework/LastOccurrence", "<init>", "(Ljava/lang/CharSequence;)V"⟩ : MethodName) prog_13_method_1_code 6 none ({ frames := 5, cells := 5, slots := 1280, locals := 66 } : Room) #[(.ref a), (.ref sa)] h0 n0 (Q7_4 Z a sa sb c0 c1 c2 c3 cs fv h0 n0) := by
 refine Ctr.of (plainFor_of_name pn_16) (ef_7_4 a sa) ?_
 intro p e s m below meth c T0 hx hby hml hown hnm hret hlk hZ X0 e0
 have N0 := Fr.nil n0
 refine g_aloadN X0 hx (hb hby d7_0) (pc' := 1) rfl rfl rfl ?_
 obtain ⟨T1263, X1263, e1263, st1263⟩ := initO X0 hx hZ hown (wd hw 36 rfl) (wd hw 12 rfl) (wd hw 13 rfl) e0 (g := (mkF m 1 #[vR a, vR sa, .unset, .unset, .unset, .unset] [(.ref a)])) rfl (by rw [hml]; rfl) rfl (hb hby d7_1) (by decide) (W := 0) (by show 2 * 0 + _ ≤ _; exact Nat.le_of_eq rfl) (by decide)
 refine Go.movp st1263 (mkF m 4 #[vR a, vR sa, .unset, .unset, .unset, .unset] []) rfl ?_
 refine g_aloadN X1263 hx (hb hby d7_4) (pc' := 5) rfl rfl rfl ?_
 refine g_sipush X1263 hx (hb hby d7_5) (pc' := 8) rfl (z := 256) rfl ?_
 obtain ⟨T1264, h1264, cA, X1264, e1264, E1264, A1264, Ex1264, OA, st1264⟩ := newRA X1263 hx hZ hown (C := "[I") (ty := .int) rfl (wd hw 37 rfl) (wd hw 38 rfl) e1263 (g := (mkF m 8 #[vR a, vR sa, .unset, .unset, .unset, .unset] [(.int 256), (.ref a)])) rfl (hb hby d7_8) rfl (by decide) (cap := 256) (by decide) (by decide) (by decide) (by decide) (ad := "[[I") rfl
 obtain ⟨pa, g1264⟩ : ∃ z, z = h0.size := ⟨_, rfl⟩
 rw [← g1264] at A1264 Ex1264 st1264
 have ne1265 : a ≠ pa := Nat.ne_of_lt (g1264 ▸ F1.lt)
 have ge1266 : n0 ≤ pa := g1264 ▸ Z0
 have sz1267 : h0.size ≤ pa := g1264 ▸ (Keep.refl h0 [a]).1
 have f1268 := O.ext E1264
 have f1269 := Fld.ext E1264 F1
 have f1270 := Exa.ext E1264 E1
 have Z1271 : n0 ≤ h1264.size := Nat.le_trans Z0 E1264.1
 have K1272 := (Keep.refl h0 [a]).ext E1264
 have P1264 := PG.new (lo := h0.size) (hi := h0.size) A1264 OA
 refine Go.movp st1264 (mkF m 11 #[vR a, vR sa, .unset, .unset, .unset, .unset] [(.ref pa), (.ref a)]) rfl ?_
 obtain ⟨T1273, h1273, X1273, e1273, W1273, st1273⟩ := putF X1264 hx hZ hown (host := "") (Or.inl (wd hw 39 rfl)) Via.refl e1264 f1269 f1270 (Or.inr ⟨(wd hw 40 rfl), rfl, hnm⟩) (wd hw 31 rfl) (ty := (.array (.array .int))) (by decide) rfl rfl (g := (mkF m 11 #[vR a, vR sa, .unset, .unset, .unset, .unset] [(.ref pa), (.ref a)])) rfl rfl (hb hby d7_11)
 have f1274 : Fld Z h1273 a "com/example/needlework/needlework/LastOccurrence" "pages" "[[I" (.ref pa) := Fld.same W1273 f1269
 have N1273 := Fr.snoc X1273 N0 G1
 have f1275 := f1268.wr W1273 G1
 have f1276 := Exa.wr W1273 f1270
 have f1277 := Exa.wr W1273 Ex1264
 have Z1278 : n0 ≤ h1273.size := Nat.le_trans Z1271 (Keep.of_wr W1273).1
 have K1279 := K1272.wr W1273 (Or.inl (List.mem_of_getElem? (i := 0) rfl))
 refine Go.movp st1273 (mkF m 14 #[vR a, vR sa, .unset, .unset, .unset, .unset] []) rfl ?_
 have PA := (P1264.other W1273 ne1265 E1.lt).mono K1279.1
 refine g_aloadN X1273 hx (hb hby d7_14) (pc' := 15) rfl rfl rfl ?_
 have HS1280 := HS.keep K1279 (ninS ne1 nin0) (ninS ne2 nin0)
 obtain ⟨v1281, T1281, h1281, L1281, X1281, e1281, N1281, q1281, st1281⟩ := h_interface (a := sa) (z := (⟨"java/lang/String", "length", "()I"⟩ : MethodName)) X1273 hx (W := 0) (Ls := #[vR a, vR sa, .unset, .unset, .unset, .unset]) (argsL := []) (rest := []) hZ e1273 N1273 hml hown (rm8_4 l Z a0 hw sa sb c0 c1 c2 c3 cs fv h1273 n0 Z1278 HS1280 B f1275) HS1280.exa (wd hw 41 rfl) (wd hw 42 rfl) (mvT hZ (wd hw 43 rfl)) (wd hw 44 rfl) (wd hw 45 rfl) (wd hw 46 rfl) (wd hw 47 rfl) (wd hw 48 rfl) (wd hw 2 rfl) (wd hw 49 rfl) (by decide) pd___I rfl rfl (hb hby d7_15) rfl (by decide) (by decide) (by decide) (by decide)
 obtain ⟨rfl, rfl⟩ := q1281
 refine Go.movp st1281 (mkF m 20 #[vR a, vR sa, .unset, .unset, .unset, .unset] [(.int 4)]) rfl ?_
 refine g_istoreN X1281 hx (hb hby d7_20) (pc' := 21) rfl (Ls' := #[vR a, vR sa, vI 4, .unset, .unset, .unset]) rfl ?_
 refine g_iconst X1281 hx (hb hby d7_21) (pc' := 22) rfl (z := 0) rfl ?_
 refine g_istoreN X1281 hx (hb hby d7_22) (pc' := 23) rfl (Ls' := #[vR a, vR sa, vI 4, vI 0, .unset, .unset]) rfl ?_
 have J4 : ∀ (Tq1282 : State) (hq1282 : Heap) (Lq1282 : List Loc) (Xq1282 : Stand p l e ({ frames := 5, cells := 5, slots := 1280, locals := 66 } : Room) s m #[(.ref a), (.ref sa)] below meth c Tq1282 Lq1282 5 1280) (eq1282 : Tq1282.heap = hq1282) (Nq1282 : Fr n0 Lq1282) (Zq1282 : n0 ≤ hq1282.size) (Kq1282 : Keep h0 hq1282 [a]) (Oq1282 : Old Z n0 hq1282) (Fq1282 : Fld Z hq1282 a "com/example/needlework/needlework/LastOccurrence" "pages" "[[I" (.ref pa)) (Eq1282 : Exa Z hq1282 a "com/example/needlework/needlework/LastOccurrence") (cq1282 : Cell) (Pq1282 : PG Z hq1282 h0.size hq1282.size pa cq1282 (updM (updM (updM (updM (fun _ => -1) (cn c0) (0 : Int32)) (cn c1) (1 : Int32)) (cn c2) (2 : Int32)) (cn c3) (3 : Int32))) (r5 : Addr), Go p e below (EndF s ({ frames := 5, cells := 5, slots := 1280, locals := 66 } : Room).cells ({ frames := 5, cells := 5, slots := 1280, locals := 66 } : Room).slots) n0 (Q7_4 Z a sa sb c0 c1 c2 c3 cs fv h0 n0) Tq1282 (mkF m 23 #[vR a, vR sa, vI 4, vI 4, vI c3, vR r5] []) := by
  intro Tq1282 hq1282 Lq1282 Xq1282 eq1282 Nq1282 Zq1282 Kq1282 Oq1282 Fq1282 Eq1282 cq1282 Pq1282 r5
  refine g_iloadN Xq1282 hx (hb hby d7_23) (pc' := 24) rfl rfl ?_
  refine g_iloadN Xq1282 hx (hb hby d7_24) (pc' := 25) rfl rfl ?_
  refine g_icmp_ge Xq1282 hx (hb hby d7_25) (pc1 := 28) rfl (by decide) (pc2 := 95) (by decide) (fun hc25 => ?_) (fun hc25 => absurd hc25 (by decide))
  exact g_return Xq1282 hx hret (hb hby d7_95) Nq1282 hlk (fun v t => endF (by decide) (by decide) v) (by rw [eq1282]; exact ⟨rfl, Kq1282, pa, _, Fq1282, Eq1282, Pq1282⟩)
 have J3 : ∀ (Tq1283 : State) (hq1283 : Heap) (Lq1283 : List Loc) (Xq1283 : Stand p l e ({ frames := 5, cells := 5, slots := 1280, locals := 66 } : Room) s m #[(.ref a), (.ref sa)] below meth c Tq1283 Lq1283 4 1024) (eq1283 : Tq1283.heap = hq1283) (Nq1283 : Fr n0 Lq1283) (Zq1283 : n0 ≤ hq1283.size) (Kq1283 : Keep h0 hq1283 [a]) (Oq1283 : Old Z n0 hq1283) (Fq1283 : Fld Z hq1283 a "com/example/needlework/needlework/LastOccurrence" "pages" "[[I" (.ref pa)) (Eq1283 : Exa Z hq1283 a "com/example/needlework/needlework/LastOccurrence") (cq1283 : Cell) (Pq1283 : PG Z hq1283 h0.size hq1283.size pa cq1283 (updM (updM (updM (fun _ => -1) (cn c0) (0 : Int32)) (cn c1) (1 : Int32)) (cn c2) (2 : Int32))) (r5 : Addr), Go p e below (EndF s ({ frames := 5, cells := 5, slots := 1280, locals := 66 } : Room).cells ({ frames := 5, cells := 5, slots := 1280, locals := 66 } : Room).slots) n0 (Q7_4 Z a sa sb c0 c1 c2 c3 cs fv h0 n0) Tq1283 (mkF m 23 #[vR a, vR sa, vI 4, vI 3, vI c2, vR r5] []) := by
  intro Tq1283 hq1283 Lq1283 Xq1283 eq1283 Nq1283 Zq1283 Kq1283 Oq1283 Fq1283 Eq1283 cq1283 Pq1283 r5
  refine g_iloadN Xq1283 hx (hb hby d7_23) (pc' := 24) rfl rfl ?_
  refine g_iloadN Xq1283 hx (hb hby d7_24) (pc' := 25) rfl rfl ?_
  refine g_icmp_ge Xq1283 hx (hb hby d7_25) (pc1 := 28) rfl (by decide) (pc2 := 95) (by decide) (fun hc25 => absurd (by decide) hc25) (fun hc25 => ?_)
  refine g_aloadN Xq1283 hx (hb hby d7_28) (pc' := 29) rfl rfl rfl ?_
  refine g_iloadN Xq1283 hx (hb hby d7_29) (pc' := 30) rfl rfl ?_
  have HS1284 := HS.keep Kq1283 (ninS ne1 nin0) (ninS ne2 nin0)
  obtain ⟨v1285, T1285, h1285, L1285, X1285, e1285, N1285, q1285, st1285⟩ := h_interface (a := sa) (z := (⟨"java/lang/String", "charAt", "(I)C"⟩ : MethodName)) Xq1283 hx (W := 0) (Ls := #[vR a, vR sa, vI 4, vI 3, vI c2, vR r5]) (argsL := [(.int 3)]) (rest := []) hZ eq1283 Nq1283 hml hown (rm10_4_3 l Z a0 hw sa sb c0 c1 c2 c3 cs fv hq1283 n0 Zq1283 HS1284 B Oq1283 hc3) HS1284.exa (wd hw 55 rfl) (wd hw 56 rfl) (mvT hZ (wd hw 57 rfl)) (wd hw 58 rfl) (wd hw 59 rfl) (wd hw 60 rfl) (wd hw 61 rfl) (wd hw 48 rfl) (wd hw 2 rfl) (wd hw 62 rfl) (by decide) pd__I_C rfl rfl (hb hby d7_30) rfl (by decide) (by decide) (by decide) (by decide)
  obtain ⟨rfl, rfl⟩ := q1285
  refine Go.movp st1285 (mkF m 35 #[vR a, vR sa, vI 4, vI 3, vI c2, vR r5] [(.int c3)]) rfl ?_
  refine g_istore X1285 hx (hb hby d7_35) (pc' := 37) rfl (Ls' := #[vR a, vR sa, vI 4, vI 3, vI c3, vR r5]) rfl ?_
  refine g_aloadN X1285 hx (hb hby d7_37) (pc' := 38) rfl rfl rfl ?_
  obtain ⟨T1286, X1286, e1286, st1286⟩ := getF X1285 hx hZ hown (host := "") (Or.inl (wd hw 39 rfl)) Via.refl e1285 Fq1283 (g := (mkF m 38 #[vR a, vR sa, vI 4, vI 3, vI c3, vR r5] [(.ref a)])) rfl rfl (hb hby d7_38)
  refine Go.movp st1286 (mkF m 41 #[vR a, vR sa, vI 4, vI 3, vI c3, vR r5] [(.ref pa)]) rfl ?_
  refine g_iload X1286 hx (hb hby d7_41) (pc' := 43) rfl rfl ?_
  refine g_bipush X1286 hx (hb hby d7_43) (pc' := 45) rfl (z := 8) rfl ?_
  refine g_iushr X1286 hx (hb hby d7_45) (pc' := 46) rfl ?_
  rcases PG.at Pq1283 hc3 with ⟨qn, qm⟩ | ⟨rp, vp, qr, ql, qp, qv, qw, qx⟩
  ·
   refine g_aaload X1286 hx hZ e1286 Pq1283.1 rfl (v := .null) (hb hby d7_46) (pc' := 47) rfl (own_hi hc3).1 (own_hi hc3).2.1 (by rw [Pq1283.2.2.1]; exact (own_hi hc3).2.2) qn ?_
   refine g_astore X1286 hx (hb hby d7_47) (pc' := 49) rfl rfl (Ls' := #[vR a, vR sa, vI 4, vI 3, vI c3, .val .null]) rfl ?_
   refine g_aload X1286 hx (hb hby d7_49) (pc' := 51) rfl rfl rfl ?_
   refine g_ifnonnull_n X1286 hx (hb hby d7_51) (pc' := 54) rfl ?_
   refine g_sipush X1286 hx (hb hby d7_54) (pc' := 57) rfl (z := 256) rfl ?_
   have ltpa : pa < hq1283.size := Pq1283.1.lt
   obtain ⟨T1287, h1287, b1287, X1287, e1287, g1287, E1287, V1287, A1287, st1287⟩ := h_newarray X1286 hx hZ e1286 (n := (256 : Int32)) (ty := .int) rfl (wd hw 80 rfl) (hb hby d7_57) (k := 256) (cap := 256) (by decide) rfl (by decide) (by decide) (by decide) (by decide) (ad := "[I") (by decide) #[vR a, vR sa, vI 4, vI 3, vI c3, .val .null] []
   have ne1288 : a ≠ b1287 := Nat.ne_of_lt (g1287 ▸ Fq1283.lt)
   have ge1289 : n0 ≤ b1287 := g1287 ▸ Zq1283
   have sz1290 : h0.size ≤ b1287 := g1287 ▸ Kq1283.1
   have f1291 := Oq1283.ext E1287
   have f1292 := Fld.ext E1287 Fq1283
   have f1293 := Exa.ext E1287 Eq1283
   have Z1294 : n0 ≤ h1287.size := Nat.le_trans Zq1283 E1287.1
   have K1295 := Kq1283.ext E1287
   have f1296 : Va Z h1287 b1287 .int (List.replicate 256 (.int 0)) := V1287
   refine Go.movp st1287 (mkF m 59 #[vR a, vR sa, vI 4, vI 3, vI c3, .val .null] [(.ref b1287)]) rfl ?_
   have nepa : b1287 ≠ pa := Ne.symm (Nat.ne_of_lt (g1287 ▸ ltpa))
   refine g_astore X1287 hx (hb hby d7_59) (pc' := 61) rfl rfl (Ls' := #[vR a, vR sa, vI 4, vI 3, vI c3, vR b1287]) rfl ?_
   refine g_aload X1287 hx (hb hby d7_61) (pc' := 63) rfl rfl rfl ?_
   refine g_iconst X1287 hx (hb hby d7_63) (pc' := 64) rfl (z := (-1 : Int32)) rfl ?_
   obtain ⟨v1297, T1297, h1297, L1297, X1297, e1297, N1297, q1297, st1297⟩ := h_static X1287 hx (W := 0) (Ls := #[vR a, vR sa, vI 4, vI 3, vI c3, vR b1287]) (argsL := [(.ref b1287), (.int (-1 : Int32))]) (rest := []) hZ e1287 N1285 hml hown (rm15 l Z a0 hw b1287 (-1 : Int32) h1287 n0 Z1294 f1296 ge1289) (wd hw 81 rfl) (wd hw 82 rfl) (wd hw 83 rfl) (wd hw 84 rfl) (by decide) pd___II_V rfl rfl (hb hby d7_64) rfl (by decide) (by decide) (by decide) (by decide)
   obtain ⟨rfl, K1297, V1297⟩ := q1297
   have f1298 := f1291.keep K1297 (allS ge1289 all0)
   have f1299 := f1292.keep K1297 (ninS ne1288 nin0)
   have f1300 := f1293.keep K1297
   have f1301 := A1287.keep K1297
   have Z1302 : n0 ≤ h1297.size := Nat.le_trans Z1294 K1297.1
   have K1303 := K1295.trans K1297 (allS (Or.inr sz1290) all0)
   refine Go.movp st1297 (mkF m 67 #[vR a, vR sa, vI 4, vI 3, vI c3, vR b1287] []) rfl ?_
   refine g_aloadN X1297 hx (hb hby d7_67) (pc' := 68) rfl rfl rfl ?_
   obtain ⟨T1304, X1304, e1304, st1304⟩ := getF X1297 hx hZ hown (host := "") (Or.inl (wd hw 39 rfl)) Via.refl e1297 f1299 (g := (mkF m 68 #[vR a, vR sa, vI 4, vI 3, vI c3, vR b1287] [(.ref a)])) rfl rfl (hb hby d7_68)
   refine Go.movp st1304 (mkF m 71 #[vR a, vR sa, vI 4, vI 3, vI c3, vR b1287] [(.ref pa)]) rfl ?_
   refine g_iload X1304 hx (hb hby d7_71) (pc' := 73) rfl rfl ?_
   refine g_bipush X1304 hx (hb hby d7_73) (pc' := 75) rfl (z := 8) rfl ?_
   refine g_iushr X1304 hx (hb hby d7_75) (pc' := 76) rfl ?_
   refine g_aload X1304 hx (hb hby d7_76) (pc' := 78) rfl rfl rfl ?_
   have K78 := ((Keep.refl hq1283 []).ext E1287).trans K1297 (allS (Or.inr (Nat.le_of_eq g1287.symm)) all0)
   have P78 := Pq1283.keep K78
   obtain ⟨T1305, h1305, L1305, X1305, e1305, N1305, W1305, st1305⟩ := h_aastore X1304 hx hZ e1304 N1297 P78.1 ge1266 rfl (j := (ushr c3 (8 : Int32))) (hb hby d7_78) (own_hi hc3).1 (own_hi hc3).2.1 (by rw [P78.2.2.1]; exact (own_hi hc3).2.2) (Sto.ofVA P78.1 rfl P78.2.1 (Ins.self f1301)) #[vR a, vR sa, vI 4, vI 3, vI c3, vR b1287] []
   obtain ⟨cc2, P79, qr⟩ := P78.put (own_hi hc3).2.2 qn W1305 V1297 sz1290 (Nat.le_of_eq g1287.symm) nepa
   have f1306 := f1298.wr W1305 ge1266
   have f1307 := Fld.other W1305 f1299 (Or.inl ne1265)
   have f1308 := Exa.wr W1305 f1300
   have f1309 := Exa.wr W1305 f1301
   have f1310 := V1297.other W1305 nepa
   have Z1311 : n0 ≤ h1305.size := Nat.le_trans Z1302 (Keep.of_wr W1305).1
   have K1312 := K1303.wr W1305 (Or.inr sz1267)
   refine Go.movp st1305 (mkF m 79 #[vR a, vR sa, vI 4, vI 3, vI c3, vR b1287] []) rfl ?_
   refine g_aload X1305 hx (hb hby d7_79) (pc' := 81) rfl rfl rfl ?_
   refine g_iload X1305 hx (hb hby d7_81) (pc' := 83) rfl rfl ?_
   refine g_sipush X1305 hx (hb hby d7_83) (pc' := 86) rfl (z := 255) rfl ?_
   refine g_iand X1305 hx (hb hby d7_86) (pc' := 87) rfl ?_
   refine g_iloadN X1305 hx (hb hby d7_87) (pc' := 88) rfl rfl ?_
   obtain ⟨T1313, h1313, L1313, X1313, e1313, N1313, W1313, V1313, st1313⟩ := h_iastore X1305 hx hZ e1305 N1305 f1310 ge1289 (j := (c3 &&& (255 : Int32))) (i := cn c3 % 256) (x := (3 : Int32)) (hb hby d7_88) (own_lo hc3).1 (own_lo hc3).2 (own_rep (Nat.mod_lt _ (by decide))) #[vR a, vR sa, vI 4, vI 3, vI c3, vR b1287] []
   have P88 := (P79.setc hc3 qr W1313).mono (Nat.succ_le_of_lt V1313.lt)
   have f1314 := f1306.wr W1313 ge1289
   have f1315 := Fld.other W1313 f1307 (Or.inl ne1288)
   have f1316 := Exa.wr W1313 f1308
   have f1317 := Exa.wr W1313 f1309
   have Z1318 : n0 ≤ h1313.size := Nat.le_trans Z1311 (Keep.of_wr W1313).1
   have K1319 := K1312.wr W1313 (Or.inr sz1290)
   refine Go.movp st1313 (mkF m 89 #[vR a, vR sa, vI 4, vI 3, vI c3, vR b1287] []) rfl ?_
   refine g_iinc X1313 hx (hb hby d7_89) (pc' := 92) rfl rfl (z := 1) rfl (Ls' := #[vR a, vR sa, vI 4, vI 4, vI c3, vR b1287]) rfl ?_
   refine g_goto X1313 hx (hb hby d7_92) (by decide) (pc' := 23) (by decide) ?_
   exact J4 T1313 h1313 _ (X1313.more (by decide) (by decide)) e1313 N1313 Z1318 K1319 f1314 f1315 f1316 _ P88 b1287
  ·
   refine g_aaload X1286 hx hZ e1286 Pq1283.1 rfl (v := (.ref rp)) (hb hby d7_46) (pc' := 47) rfl (own_hi hc3).1 (own_hi hc3).2.1 (by rw [Pq1283.2.2.1]; exact (own_hi hc3).2.2) qr ?_
   have gerp : n0 ≤ rp := Nat.le_trans Z0 ql
   have nerp : a ≠ rp := Nat.ne_of_lt (Nat.lt_of_lt_of_le E1.lt ql)
   refine g_astore X1286 hx (hb hby d7_47) (pc' := 49) rfl rfl (Ls' := #[vR a, vR sa, vI 4, vI 3, vI c3, vR rp]) rfl ?_
   refine g_aload X1286 hx (hb hby d7_49) (pc' := 51) rfl rfl rfl ?_
   refine g_ifnonnull_y X1286 hx (hb hby d7_51) (by decide) (pc' := 79) (by decide) ?_
   refine g_aload X1286 hx (hb hby d7_79) (pc' := 81) rfl rfl rfl ?_
   refine g_iload X1286 hx (hb hby d7_81) (pc' := 83) rfl rfl ?_
   refine g_sipush X1286 hx (hb hby d7_83) (pc' := 86) rfl (z := 255) rfl ?_
   refine g_iand X1286 hx (hb hby d7_86) (pc' := 87) rfl ?_
   refine g_iloadN X1286 hx (hb hby d7_87) (pc' := 88) rfl rfl ?_
   obtain ⟨T1320, h1320, L1320, X1320, e1320, N1320, W1320, V1320, st1320⟩ := h_iastore X1286 hx hZ e1286 N1285 qv gerp (j := (c3 &&& (255 : Int32))) (i := cn c3 % 256) (x := (3 : Int32)) (hb hby d7_88) (own_lo hc3).1 (own_lo hc3).2 qx #[vR a, vR sa, vI 4, vI 3, vI c3, vR rp] []
   have P88 := (Pq1283.setc hc3 qr W1320).mono (Keep.of_wr W1320).1
   have f1321 := Oq1283.wr W1320 gerp
   have f1322 := Fld.other W1320 Fq1283 (Or.inl nerp)
   have f1323 := Exa.wr W1320 Eq1283
   have Z1324 : n0 ≤ h1320.size := Nat.le_trans Zq1283 (Keep.of_wr W1320).1
   have K1325 := Kq1283.wr W1320 (Or.inr ql)
   refine Go.movp st1320 (mkF m 89 #[vR a, vR sa, vI 4, vI 3, vI c3, vR rp] []) rfl ?_
   refine g_iinc X1320 hx (hb hby d7_89) (pc' := 92) rfl rfl (z := 1) rfl (Ls' := #[vR a, vR sa, vI 4, vI 4, vI c3, vR rp]) rfl ?_
   refine g_goto X1320 hx (hb hby d7_92) (by decide) (pc' := 23) (by decide) ?_
   exact J4 T1320 h1320 _ (X1320.more (by decide) (by decide)) e1320 N1320 Z1324 K1325 f1321 f1322 f1323 _ P88 rp
 have J2 : ∀ (Tq1326 : State) (hq1326 : Heap) (Lq1326 : List Loc) (Xq1326 : Stand p l e ({ frames := 5, cells := 5, slots := 1280, locals := 66 } : Room) s m #[(.ref a), (.ref sa)] below meth c Tq1326 Lq1326 3 768) (eq1326 : Tq1326.heap = hq1326) (Nq1326 : Fr n0 Lq1326) (Zq1326 : n0 ≤ hq1326.size) (Kq1326 : Keep h0 hq1326 [a]) (Oq1326 : Old Z n0 hq1326) (Fq1326 : Fld Z hq1326 a "com/example/needlework/needlework/LastOccurrence" "pages" "[[I" (.ref pa)) (Eq1326 : Exa Z hq1326 a "com/example/needlework/needlework/LastOccurrence") (cq1326 : Cell) (Pq1326 : PG Z hq1326 h0.size hq1326.size pa cq1326 (updM (updM (fun _ => -1) (cn c0) (0 : Int32)) (cn c1) (1 : Int32))) (r5 : Addr), Go p e below (EndF s ({ frames := 5, cells := 5, slots := 1280, locals := 66 } : Room).cells ({ frames := 5, cells := 5, slots := 1280, locals := 66 } : Room).slots) n0 (Q7_4 Z a sa sb c0 c1 c2 c3 cs fv h0 n0) Tq1326 (mkF m 23 #[vR a, vR sa, vI 4, vI 2, vI c1, vR r5] []) := by
  intro Tq1326 hq1326 Lq1326 Xq1326 eq1326 Nq1326 Zq1326 Kq1326 Oq1326 Fq1326 Eq1326 cq1326 Pq1326 r5
  refine g_iloadN Xq1326 hx (hb hby d7_23) (pc' := 24) rfl rfl ?_
  refine g_iloadN Xq1326 hx (hb hby d7_24) (pc' := 25) rfl rfl ?_
  refine g_icmp_ge Xq1326 hx (hb hby d7_25) (pc1 := 28) rfl (by decide) (pc2 := 95) (by decide) (fun hc25 => absurd (by decide) hc25) (fun hc25 => ?_)
  refine g_aloadN Xq1326 hx (hb hby d7_28) (pc' := 29) rfl rfl rfl ?_
  refine g_iloadN Xq1326 hx (hb hby d7_29) (pc' := 30) rfl rfl ?_
  have HS1327 := HS.keep Kq1326 (ninS ne1 nin0) (ninS ne2 nin0)
  obtain ⟨v1328, T1328, h1328, L1328, X1328, e1328, N1328, q1328, st1328⟩ := h_interface (a := sa) (z := (⟨"java/lang/String", "charAt", "(I)C"⟩ : MethodName)) Xq1326 hx (W := 0) (Ls := #[vR a, vR sa, vI 4, vI 2, vI c1, vR r5]) (argsL := [(.int 2)]) (rest := []) hZ eq1326 Nq1326 hml hown (rm10_4_2 l Z a0 hw sa sb c0 c1 c2 c3 cs fv hq1326 n0 Zq1326 HS1327 B Oq1326 hc2) HS1327.exa (wd hw 55 rfl) (wd hw 56 rfl) (mvT hZ (wd hw 57 rfl)) (wd hw 58 rfl) (wd hw 59 rfl) (wd hw 60 rfl) (wd hw 61 rfl) (wd hw 48 rfl) (wd hw 2 rfl) (wd hw 62 rfl) (by decide) pd__I_C rfl rfl (hb hby d7_30) rfl (by decide) (by decide) (by decide) (by decide)
  obtain ⟨rfl, rfl⟩ := q1328
  refine Go.movp st1328 (mkF m 35 #[vR a, vR sa, vI 4, vI 2, vI c1, vR r5] [(.int c2)]) rfl ?_
  refine g_istore X1328 hx (hb hby d7_35) (pc' := 37) rfl (Ls' := #[vR a, vR sa, vI 4, vI 2, vI c2, vR r5]) rfl ?_
  refine g_aloadN X1328 hx (hb hby d7_37) (pc' := 38) rfl rfl rfl ?_
  obtain ⟨T1329, X1329, e1329, st1329⟩ := getF X1328 hx hZ hown (host := "") (Or.inl (wd hw 39 rfl)) Via.refl e1328 Fq1326 (g := (mkF m 38 #[vR a, vR sa, vI 4, vI 2, vI c2, vR r5] [(.ref a)])) rfl rfl (hb hby d7_38)
  refine Go.movp st1329 (mkF m 41 #[vR a, vR sa, vI 4, vI 2, vI c2, vR r5] [(.ref pa)]) rfl ?_
  refine g_iload X1329 hx (hb hby d7_41) (pc' := 43) rfl rfl ?_
  refine g_bipush X1329 hx (hb hby d7_43) (pc' := 45) rfl (z := 8) rfl ?_
  refine g_iushr X1329 hx (hb hby d7_45) (pc' := 46) rfl ?_
  rcases PG.at Pq1326 hc2 with ⟨qn, qm⟩ | ⟨rp, vp, qr, ql, qp, qv, qw, qx⟩
  ·
   refine g_aaload X1329 hx hZ e1329 Pq1326.1 rfl (v := .null) (hb hby d7_46) (pc' := 47) rfl (own_hi hc2).1 (own_hi hc2).2.1 (by rw [Pq1326.2.2.1]; exact (own_hi hc2).2.2) qn ?_
   refine g_astore X1329 hx (hb hby d7_47) (pc' := 49) rfl rfl (Ls' := #[vR a, vR sa, vI 4, vI 2, vI c2, .val .null]) rfl ?_
   refine g_aload X1329 hx (hb hby d7_49) (pc' := 51) rfl rfl rfl ?_
   refine g_ifnonnull_n X1329 hx (hb hby d7_51) (pc' := 54) rfl ?_
   refine g_sipush X1329 hx (hb hby d7_54) (pc' := 57) rfl (z := 256) rfl ?_
   have ltpa : pa < hq1326.size := Pq1326.1.lt
   obtain ⟨T1330, h1330, b1330, X1330, e1330, g1330, E1330, V1330, A1330, st1330⟩ := h_newarray X1329 hx hZ e1329 (n := (256 : Int32)) (ty := .int) rfl (wd hw 80 rfl) (hb hby d7_57) (k := 256) (cap := 256) (by decide) rfl (by decide) (by decide) (by decide) (by decide) (ad := "[I") (by decide) #[vR a, vR sa, vI 4, vI 2, vI c2, .val .null] []
   have ne1331 : a ≠ b1330 := Nat.ne_of_lt (g1330 ▸ Fq1326.lt)
   have ge1332 : n0 ≤ b1330 := g1330 ▸ Zq1326
   have sz1333 : h0.size ≤ b1330 := g1330 ▸ Kq1326.1
   have f1334 := Oq1326.ext E1330
   have f1335 := Fld.ext E1330 Fq1326
   have f1336 := Exa.ext E1330 Eq1326
   have Z1337 : n0 ≤ h1330.size := Nat.le_trans Zq1326 E1330.1
   have K1338 := Kq1326.ext E1330
   have f1339 : Va Z h1330 b1330 .int (List.replicate 256 (.int 0)) := V1330
   refine Go.movp st1330 (mkF m 59 #[vR a, vR sa, vI 4, vI 2, vI c2, .val .null] [(.ref b1330)]) rfl ?_
   have nepa : b1330 ≠ pa := Ne.symm (Nat.ne_of_lt (g1330 ▸ ltpa))
   refine g_astore X1330 hx (hb hby d7_59) (pc' := 61) rfl rfl (Ls' := #[vR a, vR sa, vI 4, vI 2, vI c2, vR b1330]) rfl ?_
   refine g_aload X1330 hx (hb hby d7_61) (pc' := 63) rfl rfl rfl ?_
   refine g_iconst X1330 hx (hb hby d7_63) (pc' := 64) rfl (z := (-1 : Int32)) rfl ?_
   obtain ⟨v1340, T1340, h1340, L1340, X1340, e1340, N1340, q1340, st1340⟩ := h_static X1330 hx (W := 0) (Ls := #[vR a, vR sa, vI 4, vI 2, vI c2, vR b1330]) (argsL := [(.ref b1330), (.int (-1 : Int32))]) (rest := []) hZ e1330 N1328 hml hown (rm15 l Z a0 hw b1330 (-1 : Int32) h1330 n0 Z1337 f1339 ge1332) (wd hw 81 rfl) (wd hw 82 rfl) (wd hw 83 rfl) (wd hw 84 rfl) (by decide) pd___II_V rfl rfl (hb hby d7_64) rfl (by decide) (by decide) (by decide) (by decide)
   obtain ⟨rfl, K1340, V1340⟩ := q1340
   have f1341 := f1334.keep K1340 (allS ge1332 all0)
   have f1342 := f1335.keep K1340 (ninS ne1331 nin0)
   have f1343 := f1336.keep K1340
   have f1344 := A1330.keep K1340
   have Z1345 : n0 ≤ h1340.size := Nat.le_trans Z1337 K1340.1
   have K1346 := K1338.trans K1340 (allS (Or.inr sz1333) all0)
   refine Go.movp st1340 (mkF m 67 #[vR a, vR sa, vI 4, vI 2, vI c2, vR b1330] []) rfl ?_
   refine g_aloadN X1340 hx (hb hby d7_67) (pc' := 68) rfl rfl rfl ?_
   obtain ⟨T1347, X1347, e1347, st1347⟩ := getF X1340 hx hZ hown (host := "") (Or.inl (wd hw 39 rfl)) Via.refl e1340 f1342 (g := (mkF m 68 #[vR a, vR sa, vI 4, vI 2, vI c2, vR b1330] [(.ref a)])) rfl rfl (hb hby d7_68)
   refine Go.movp st1347 (mkF m 71 #[vR a, vR sa, vI 4, vI 2, vI c2, vR b1330] [(.ref pa)]) rfl ?_
   refine g_iload X1347 hx (hb hby d7_71) (pc' := 73) rfl rfl ?_
   refine g_bipush X1347 hx (hb hby d7_73) (pc' := 75) rfl (z := 8) rfl ?_
   refine g_iushr X1347 hx (hb hby d7_75) (pc' := 76) rfl ?_
   refine g_aload X1347 hx (hb hby d7_76) (pc' := 78) rfl rfl rfl ?_
   have K78 := ((Keep.refl hq1326 []).ext E1330).trans K1340 (allS (Or.inr (Nat.le_of_eq g1330.symm)) all0)
   have P78 := Pq1326.keep K78
   obtain ⟨T1348, h1348, L1348, X1348, e1348, N1348, W1348, st1348⟩ := h_aastore X1347 hx hZ e1347 N1340 P78.1 ge1266 rfl (j := (ushr c2 (8 : Int32))) (hb hby d7_78) (own_hi hc2).1 (own_hi hc2).2.1 (by rw [P78.2.2.1]; exact (own_hi hc2).2.2) (Sto.ofVA P78.1 rfl P78.2.1 (Ins.self f1344)) #[vR a, vR sa, vI 4, vI 2, vI c2, vR b1330] []
   obtain ⟨cc2, P79, qr⟩ := P78.put (own_hi hc2).2.2 qn W1348 V1340 sz1333 (Nat.le_of_eq g1330.symm) nepa
   have f1349 := f1341.wr W1348 ge1266
   have f1350 := Fld.other W1348 f1342 (Or.inl ne1265)
   have f1351 := Exa.wr W1348 f1343
   have f1352 := Exa.wr W1348 f1344
   have f1353 := V1340.other W1348 nepa
   have Z1354 : n0 ≤ h1348.size := Nat.le_trans Z1345 (Keep.of_wr W1348).1
   have K1355 := K1346.wr W1348 (Or.inr sz1267)
   refine Go.movp st1348 (mkF m 79 #[vR a, vR sa, vI 4, vI 2, vI c2, vR b1330] []) rfl ?_
   refine g_aload X1348 hx (hb hby d7_79) (pc' := 81) rfl rfl rfl ?_
   refine g_iload X1348 hx (hb hby d7_81) (pc' := 83) rfl rfl ?_
   refine g_sipush X1348 hx (hb hby d7_83) (pc' := 86) rfl (z := 255) rfl ?_
   refine g_iand X1348 hx (hb hby d7_86) (pc' := 87) rfl ?_
   refine g_iloadN X1348 hx (hb hby d7_87) (pc' := 88) rfl rfl ?_
   obtain ⟨T1356, h1356, L1356, X1356, e1356, N1356, W1356, V1356, st1356⟩ := h_iastore X1348 hx hZ e1348 N1348 f1353 ge1332 (j := (c2 &&& (255 : Int32))) (i := cn c2 % 256) (x := (2 : Int32)) (hb hby d7_88) (own_lo hc2).1 (own_lo hc2).2 (own_rep (Nat.mod_lt _ (by decide))) #[vR a, vR sa, vI 4, vI 2, vI c2, vR b1330] []
   have P88 := (P79.setc hc2 qr W1356).mono (Nat.succ_le_of_lt V1356.lt)
   have f1357 := f1349.wr W1356 ge1332
   have f1358 := Fld.other W1356 f1350 (Or.inl ne1331)
   have f1359 := Exa.wr W1356 f1351
   have f1360 := Exa.wr W1356 f1352
   have Z1361 : n0 ≤ h1356.size := Nat.le_trans Z1354 (Keep.of_wr W1356).1
   have K1362 := K1355.wr W1356 (Or.inr sz1333)
   refine Go.movp st1356 (mkF m 89 #[vR a, vR sa, vI 4, vI 2, vI c2, vR b1330] []) rfl ?_
   refine g_iinc X1356 hx (hb hby d7_89) (pc' := 92) rfl rfl (z := 1) rfl (Ls' := #[vR a, vR sa, vI 4, vI 3, vI c2, vR b1330]) rfl ?_
   refine g_goto X1356 hx (hb hby d7_92) (by decide) (pc' := 23) (by decide) ?_
   exact J3 T1356 h1356 _ (X1356.more (by decide) (by decide)) e1356 N1356 Z1361 K1362 f1357 f1358 f1359 _ P88 b1330
  ·
   refine g_aaload X1329 hx hZ e1329 Pq1326.1 rfl (v := (.ref rp)) (hb hby d7_46) (pc' := 47) rfl (own_hi hc2).1 (own_hi hc2).2.1 (by rw [Pq1326.2.2.1]; exact (own_hi hc2).2.2) qr ?_
   have gerp : n0 ≤ rp := Nat.le_trans Z0 ql
   have nerp : a ≠ rp := Nat.ne_of_lt (Nat.lt_of_lt_of_le E1.lt ql)
   refine g_astore X1329 hx (hb hby d7_47) (pc' := 49) rfl rfl (Ls' := #[vR a, vR sa, vI 4, vI 2, vI c2, vR rp]) rfl ?_
   refine g_aload X1329 hx (hb hby d7_49) (pc' := 51) rfl rfl rfl ?_
   refine g_ifnonnull_y X1329 hx (hb hby d7_51) (by decide) (pc' := 79) (by decide) ?_
   refine g_aload X1329 hx (hb hby d7_79) (pc' := 81) rfl rfl rfl ?_
   refine g_iload X1329 hx (hb hby d7_81) (pc' := 83) rfl rfl ?_
   refine g_sipush X1329 hx (hb hby d7_83) (pc' := 86) rfl (z := 255) rfl ?_
   refine g_iand X1329 hx (hb hby d7_86) (pc' := 87) rfl ?_
   refine g_iloadN X1329 hx (hb hby d7_87) (pc' := 88) rfl rfl ?_
   obtain ⟨T1363, h1363, L1363, X1363, e1363, N1363, W1363, V1363, st1363⟩ := h_iastore X1329 hx hZ e1329 N1328 qv gerp (j := (c2 &&& (255 : Int32))) (i := cn c2 % 256) (x := (2 : Int32)) (hb hby d7_88) (own_lo hc2).1 (own_lo hc2).2 qx #[vR a, vR sa, vI 4, vI 2, vI c2, vR rp] []
   have P88 := (Pq1326.setc hc2 qr W1363).mono (Keep.of_wr W1363).1
   have f1364 := Oq1326.wr W1363 gerp
   have f1365 := Fld.other W1363 Fq1326 (Or.inl nerp)
   have f1366 := Exa.wr W1363 Eq1326
   have Z1367 : n0 ≤ h1363.size := Nat.le_trans Zq1326 (Keep.of_wr W1363).1
   have K1368 := Kq1326.wr W1363 (Or.inr ql)
   refine Go.movp st1363 (mkF m 89 #[vR a, vR sa, vI 4, vI 2, vI c2, vR rp] []) rfl ?_
   refine g_iinc X1363 hx (hb hby d7_89) (pc' := 92) rfl rfl (z := 1) rfl (Ls' := #[vR a, vR sa, vI 4, vI 3, vI c2, vR rp]) rfl ?_
   refine g_goto X1363 hx (hb hby d7_92) (by decide) (pc' := 23) (by decide) ?_
   exact J3 T1363 h1363 _ (X1363.more (by decide) (by decide)) e1363 N1363 Z1367 K1368 f1364 f1365 f1366 _ P88 rp
 have J1 : ∀ (Tq1369 : State) (hq1369 : Heap) (Lq1369 : List Loc) (Xq1369 : Stand p l e ({ frames := 5, cells := 5, slots := 1280, locals := 66 } : Room) s m #[(.ref a), (.ref sa)] below meth c Tq1369 Lq1369 2 512) (eq1369 : Tq1369.heap = hq1369) (Nq1369 : Fr n0 Lq1369) (Zq1369 : n0 ≤ hq1369.size) (Kq1369 : Keep h0 hq1369 [a]) (Oq1369 : Old Z n0 hq1369) (Fq1369 : Fld Z hq1369 a "com/example/needlework/needlework/LastOccurrence" "pages" "[[I" (.ref pa)) (Eq1369 : Exa Z hq1369 a "com/example/needlework/needlework/LastOccurrence") (cq1369 : Cell) (Pq1369 : PG Z hq1369 h0.size hq1369.size pa cq1369 (updM (fun _ => -1) (cn c0) (0 : Int32))) (r5 : Addr), Go p e below (EndF s ({ frames := 5, cells := 5, slots := 1280, locals := 66 } : Room).cells ({ frames := 5, cells := 5, slots := 1280, locals := 66 } : Room).slots) n0 (Q7_4 Z a sa sb c0 c1 c2 c3 cs fv h0 n0) Tq1369 (mkF m 23 #[vR a, vR sa, vI 4, vI 1, vI c0, vR r5] []) := by
  intro Tq1369 hq1369 Lq1369 Xq1369 eq1369 Nq1369 Zq1369 Kq1369 Oq1369 Fq1369 Eq1369 cq1369 Pq1369 r5
  refine g_iloadN Xq1369 hx (hb hby d7_23) (pc' := 24) rfl rfl ?_
  refine g_iloadN Xq1369 hx (hb hby d7_24) (pc' := 25) rfl rfl ?_
  refine g_icmp_ge Xq1369 hx (hb hby d7_25) (pc1 := 28) rfl (by decide) (pc2 := 95) (by decide) (fun hc25 => absurd (by decide) hc25) (fun hc25 => ?_)
  refine g_aloadN Xq1369 hx (hb hby d7_28) (pc' := 29) rfl rfl rfl ?_
  refine g_iloadN Xq1369 hx (hb hby d7_29) (pc' := 30) rfl rfl ?_
  have HS1370 := HS.keep Kq1369 (ninS ne1 nin0) (ninS ne2 nin0)
  obtain ⟨v1371, T1371, h1371, L1371, X1371, e1371, N1371, q1371, st1371⟩ := h_interface (a := sa) (z := (⟨"java/lang/String", "charAt", "(I)C"⟩ : MethodName)) Xq1369 hx (W := 0) (Ls := #[vR a, vR sa, vI 4, vI 1, vI c0, vR r5]) (argsL := [(.int 1)]) (rest := []) hZ eq1369 Nq1369 hml hown (rm10_4_1 l Z a0 hw sa sb c0 c1 c2 c3 cs fv hq1369 n0 Zq1369 HS1370 B Oq1369 hc1) HS1370.exa (wd hw 55 rfl) (wd hw 56 rfl) (mvT hZ (wd hw 57 rfl)) (wd hw 58 rfl) (wd hw 59 rfl) (wd hw 60 rfl) (wd hw 61 rfl) (wd hw 48 rfl) (wd hw 2 rfl) (wd hw 62 rfl) (by decide) pd__I_C rfl rfl (hb hby d7_30) rfl (by decide) (by decide) (by decide) (by decide)
  obtain ⟨rfl, rfl⟩ := q1371
  refine Go.movp st1371 (mkF m 35 #[vR a, vR sa, vI 4, vI 1, vI c0, vR r5] [(.int c1)]) rfl ?_
  refine g_istore X1371 hx (hb hby d7_35) (pc' := 37) rfl (Ls' := #[vR a, vR sa, vI 4, vI 1, vI c1, vR r5]) rfl ?_
  refine g_aloadN X1371 hx (hb hby d7_37) (pc' := 38) rfl rfl rfl ?_
  obtain ⟨T1372, X1372, e1372, st1372⟩ := getF X1371 hx hZ hown (host := "") (Or.inl (wd hw 39 rfl)) Via.refl e1371 Fq1369 (g := (mkF m 38 #[vR a, vR sa, vI 4, vI 1, vI c1, vR r5] [(.ref a)])) rfl rfl (hb hby d7_38)
  refine Go.movp st1372 (mkF m 41 #[vR a, vR sa, vI 4, vI 1, vI c1, vR r5] [(.ref pa)]) rfl ?_
  refine g_iload X1372 hx (hb hby d7_41) (pc' := 43) rfl rfl ?_
  refine g_bipush X1372 hx (hb hby d7_43) (pc' := 45) rfl (z := 8) rfl ?_
  refine g_iushr X1372 hx (hb hby d7_45) (pc' := 46) rfl ?_
  rcases PG.at Pq1369 hc1 with ⟨qn, qm⟩ | ⟨rp, vp, qr, ql, qp, qv, qw, qx⟩
  ·
   refine g_aaload X1372 hx hZ e1372 Pq1369.1 rfl (v := .null) (hb hby d7_46) (pc' := 47) rfl (own_hi hc1).1 (own_hi hc1).2.1 (by rw [Pq1369.2.2.1]; exact (own_hi hc1).2.2) qn ?_
   refine g_astore X1372 hx (hb hby d7_47) (pc' := 49) rfl rfl (Ls' := #[vR a, vR sa, vI 4, vI 1, vI c1, .val .null]) rfl ?_
   refine g_aload X1372 hx (hb hby d7_49) (pc' := 51) rfl rfl rfl ?_
   refine g_ifnonnull_n X1372 hx (hb hby d7_51) (pc' := 54) rfl ?_
   refine g_sipush X1372 hx (hb hby d7_54) (pc' := 57) rfl (z := 256) rfl ?_
   have ltpa : pa < hq1369.size := Pq1369.1.lt
   obtain ⟨T1373, h1373, b1373, X1373, e1373, g1373, E1373, V1373, A1373, st1373⟩ := h_newarray X1372 hx hZ e1372 (n := (256 : Int32)) (ty := .int) rfl (wd hw 80 rfl) (hb hby d7_57) (k := 256) (cap := 256) (by decide) rfl (by decide) (by decide) (by decide) (by decide) (ad := "[I") (by decide) #[vR a, vR sa, vI 4, vI 1, vI c1, .val .null] []
   have ne1374 : a ≠ b1373 := Nat.ne_of_lt (g1373 ▸ Fq1369.lt)
   have ge1375 : n0 ≤ b1373 := g1373 ▸ Zq1369
   have sz1376 : h0.size ≤ b1373 := g1373 ▸ Kq1369.1
   have f1377 := Oq1369.ext E1373
   have f1378 := Fld.ext E1373 Fq1369
   have f1379 := Exa.ext E1373 Eq1369
   have Z1380 : n0 ≤ h1373.size := Nat.le_trans Zq1369 E1373.1
   have K1381 := Kq1369.ext E1373
   have f1382 : Va Z h1373 b1373 .int (List.replicate 256 (.int 0)) := V1373
   refine Go.movp st1373 (mkF m 59 #[vR a, vR sa, vI 4, vI 1, vI c1, .val .null] [(.ref b1373)]) rfl ?_
   have nepa : b1373 ≠ pa := Ne.symm (Nat.ne_of_lt (g1373 ▸ ltpa))
   refine g_astore X1373 hx (hb hby d7_59) (pc' := 61) rfl rfl (Ls' := #[vR a, vR sa, vI 4, vI 1, vI c1, vR b1373]) rfl ?_
   refine g_aload X1373 hx (hb hby d7_61) (pc' := 63) rfl rfl rfl ?_
   refine g_iconst X1373 hx (hb hby d7_63) (pc' := 64) rfl (z := (-1 : Int32)) rfl ?_
   obtain ⟨v1383, T1383, h1383, L1383, X1383, e1383, N1383, q1383, st1383⟩ := h_static X1373 hx (W := 0) (Ls := #[vR a, vR sa, vI 4, vI 1, vI c1, vR b1373]) (argsL := [(.ref b1373), (.int (-1 : Int32))]) (rest := []) hZ e1373 N1371 hml hown (rm15 l Z a0 hw b1373 (-1 : Int32) h1373 n0 Z1380 f1382 ge1375) (wd hw 81 rfl) (wd hw 82 rfl) (wd hw 83 rfl) (wd hw 84 rfl) (by decide) pd___II_V rfl rfl (hb hby d7_64) rfl (by decide) (by decide) (by decide) (by decide)
   obtain ⟨rfl, K1383, V1383⟩ := q1383
   have f1384 := f1377.keep K1383 (allS ge1375 all0)
   have f1385 := f1378.keep K1383 (ninS ne1374 nin0)
   have f1386 := f1379.keep K1383
   have f1387 := A1373.keep K1383
   have Z1388 : n0 ≤ h1383.size := Nat.le_trans Z1380 K1383.1
   have K1389 := K1381.trans K1383 (allS (Or.inr sz1376) all0)
   refine Go.movp st1383 (mkF m 67 #[vR a, vR sa, vI 4, vI 1, vI c1, vR b1373] []) rfl ?_
   refine g_aloadN X1383 hx (hb hby d7_67) (pc' := 68) rfl rfl rfl ?_
   obtain ⟨T1390, X1390, e1390, st1390⟩ := getF X1383 hx hZ hown (host := "") (Or.inl (wd hw 39 rfl)) Via.refl e1383 f1385 (g := (mkF m 68 #[vR a, vR sa, vI 4, vI 1, vI c1, vR b1373] [(.ref a)])) rfl rfl (hb hby d7_68)
   refine Go.movp st1390 (mkF m 71 #[vR a, vR sa, vI 4, vI 1, vI c1, vR b1373] [(.ref pa)]) rfl ?_
   refine g_iload X1390 hx (hb hby d7_71) (pc' := 73) rfl rfl ?_
   refine g_bipush X1390 hx (hb hby d7_73) (pc' := 75) rfl (z := 8) rfl ?_
   refine g_iushr X1390 hx (hb hby d7_75) (pc' := 76) rfl ?_
   refine g_aload X1390 hx (hb hby d7_76) (pc' := 78) rfl rfl rfl ?_
   have K78 := ((Keep.refl hq1369 []).ext E1373).trans K1383 (allS (Or.inr (Nat.le_of_eq g1373.symm)) all0)
   have P78 := Pq1369.keep K78
   obtain ⟨T1391, h1391, L1391, X1391, e1391, N1391, W1391, st1391⟩ := h_aastore X1390 hx hZ e1390 N1383 P78.1 ge1266 rfl (j := (ushr c1 (8 : Int32))) (hb hby d7_78) (own_hi hc1).1 (own_hi hc1).2.1 (by rw [P78.2.2.1]; exact (own_hi hc1).2.2) (Sto.ofVA P78.1 rfl P78.2.1 (Ins.self f1387)) #[vR a, vR sa, vI 4, vI 1, vI c1, vR b1373] []
   obtain ⟨cc2, P79, qr⟩ := P78.put (own_hi hc1).2.2 qn W1391 V1383 sz1376 (Nat.le_of_eq g1373.symm) nepa
   have f1392 := f1384.wr W1391 ge1266
   have f1393 := Fld.other W1391 f1385 (Or.inl ne1265)
   have f1394 := Exa.wr W1391 f1386
   have f1395 := Exa.wr W1391 f1387
   have f1396 := V1383.other W1391 nepa
   have Z1397 : n0 ≤ h1391.size := Nat.le_trans Z1388 (Keep.of_wr W1391).1
   have K1398 := K1389.wr W1391 (Or.inr sz1267)
   refine Go.movp st1391 (mkF m 79 #[vR a, vR sa, vI 4, vI 1, vI c1, vR b1373] []) rfl ?_
   refine g_aload X1391 hx (hb hby d7_79) (pc' := 81) rfl rfl rfl ?_
   refine g_iload X1391 hx (hb hby d7_81) (pc' := 83) rfl rfl ?_
   refine g_sipush X1391 hx (hb hby d7_83) (pc' := 86) rfl (z := 255) rfl ?_
   refine g_iand X1391 hx (hb hby d7_86) (pc' := 87) rfl ?_
   refine g_iloadN X1391 hx (hb hby d7_87) (pc' := 88) rfl rfl ?_
   obtain ⟨T1399, h1399, L1399, X1399, e1399, N1399, W1399, V1399, st1399⟩ := h_iastore X1391 hx hZ e1391 N1391 f1396 ge1375 (j := (c1 &&& (255 : Int32))) (i := cn c1 % 256) (x := (1 : Int32)) (hb hby d7_88) (own_lo hc1).1 (own_lo hc1).2 (own_rep (Nat.mod_lt _ (by decide))) #[vR a, vR sa, vI 4, vI 1, vI c1, vR b1373] []
   have P88 := (P79.setc hc1 qr W1399).mono (Nat.succ_le_of_lt V1399.lt)
   have f1400 := f1392.wr W1399 ge1375
   have f1401 := Fld.other W1399 f1393 (Or.inl ne1374)
   have f1402 := Exa.wr W1399 f1394
   have f1403 := Exa.wr W1399 f1395
   have Z1404 : n0 ≤ h1399.size := Nat.le_trans Z1397 (Keep.of_wr W1399).1
   have K1405 := K1398.wr W1399 (Or.inr sz1376)
   refine Go.movp st1399 (mkF m 89 #[vR a, vR sa, vI 4, vI 1, vI c1, vR b1373] []) rfl ?_
   refine g_iinc X1399 hx (hb hby d7_89) (pc' := 92) rfl rfl (z := 1) rfl (Ls' := #[vR a, vR sa, vI 4, vI 2, vI c1, vR b1373]) rfl ?_
   refine g_goto X1399 hx (hb hby d7_92) (by decide) (pc' := 23) (by decide) ?_
   exact J2 T1399 h1399 _ (X1399.more (by decide) (by decide)) e1399 N1399 Z1404 K1405 f1400 f1401 f1402 _ P88 b1373
  ·
   refine g_aaload X1372 hx hZ e1372 Pq1369.1 rfl (v := (.ref rp)) (hb hby d7_46) (pc' := 47) rfl (own_hi hc1).1 (own_hi hc1).2.1 (by rw [Pq1369.2.2.1]; exact (own_hi hc1).2.2) qr ?_
   have gerp : n0 ≤ rp := Nat.le_trans Z0 ql
   have nerp : a ≠ rp := Nat.ne_of_lt (Nat.lt_of_lt_of_le E1.lt ql)
   refine g_astore X1372 hx (hb hby d7_47) (pc' := 49) rfl rfl (Ls' := #[vR a, vR sa, vI 4, vI 1, vI c1, vR rp]) rfl ?_
   refine g_aload X1372 hx (hb hby d7_49) (pc' := 51) rfl rfl rfl ?_
   refine g_ifnonnull_y X1372 hx (hb hby d7_51) (by decide) (pc' := 79) (by decide) ?_
   refine g_aload X1372 hx (hb hby d7_79) (pc' := 81) rfl rfl rfl ?_
   refine g_iload X1372 hx (hb hby d7_81) (pc' := 83) rfl rfl ?_
   refine g_sipush X1372 hx (hb hby d7_83) (pc' := 86) rfl (z := 255) rfl ?_
   refine g_iand X1372 hx (hb hby d7_86) (pc' := 87) rfl ?_
   refine g_iloadN X1372 hx (hb hby d7_87) (pc' := 88) rfl rfl ?_
   obtain ⟨T1406, h1406, L1406, X1406, e1406, N1406, W1406, V1406, st1406⟩ := h_iastore X1372 hx hZ e1372 N1371 qv gerp (j := (c1 &&& (255 : Int32))) (i := cn c1 % 256) (x := (1 : Int32)) (hb hby d7_88) (own_lo hc1).1 (own_lo hc1).2 qx #[vR a, vR sa, vI 4, vI 1, vI c1, vR rp] []
   have P88 := (Pq1369.setc hc1 qr W1406).mono (Keep.of_wr W1406).1
   have f1407 := Oq1369.wr W1406 gerp
   have f1408 := Fld.other W1406 Fq1369 (Or.inl nerp)
   have f1409 := Exa.wr W1406 Eq1369
   have Z1410 : n0 ≤ h1406.size := Nat.le_trans Zq1369 (Keep.of_wr W1406).1
   have K1411 := Kq1369.wr W1406 (Or.inr ql)
   refine Go.movp st1406 (mkF m 89 #[vR a, vR sa, vI 4, vI 1, vI c1, vR rp] []) rfl ?_
   refine g_iinc X1406 hx (hb hby d7_89) (pc' := 92) rfl rfl (z := 1) rfl (Ls' := #[vR a, vR sa, vI 4, vI 2, vI c1, vR rp]) rfl ?_
   refine g_goto X1406 hx (hb hby d7_92) (by decide) (pc' := 23) (by decide) ?_
   exact J2 T1406 h1406 _ (X1406.more (by decide) (by decide)) e1406 N1406 Z1410 K1411 f1407 f1408 f1409 _ P88 rp
 refine g_iloadN X1281 hx (hb hby d7_23) (pc' := 24) rfl rfl ?_
 refine g_iloadN X1281 hx (hb hby d7_24) (pc' := 25) rfl rfl ?_
 refine g_icmp_ge X1281 hx (hb hby d7_25) (pc1 := 28) rfl (by decide) (pc2 := 95) (by decide) (fun hc25 => absurd (by decide) hc25) (fun hc25 => ?_)
 refine g_aloadN X1281 hx (hb hby d7_28) (pc' := 29) rfl rfl rfl ?_
 refine g_iloadN X1281 hx (hb hby d7_29) (pc' := 30) rfl rfl ?_
 have HS1412 := HS.keep K1279 (ninS ne1 nin0) (ninS ne2 nin0)
 obtain ⟨v1413, T1413, h1413, L1413, X1413, e1413, N1413, q1413, st1413⟩ := h_interface (a := sa) (z := (⟨"java/lang/String", "charAt", "(I)C"⟩ : MethodName)) X1281 hx (W := 0) (Ls := #[vR a, vR sa, vI 4, vI 0, .unset, .unset]) (argsL := [(.int 0)]) (rest := []) hZ e1281 N1281 hml hown (rm10_4_0 l Z a0 hw sa sb c0 c1 c2 c3 cs fv h1273 n0 Z1278 HS1412 B f1275 hc0) HS1412.exa (wd hw 55 rfl) (wd hw 56 rfl) (mvT hZ (wd hw 57 rfl)) (wd hw 58 rfl) (wd hw 59 rfl) (wd hw 60 rfl) (wd hw 61 rfl) (wd hw 48 rfl) (wd hw 2 rfl) (wd hw 62 rfl) (by decide) pd__I_C rfl rfl (hb hby d7_30) rfl (by decide) (by decide) (by decide) (by decide)
 obtain ⟨rfl, rfl⟩ := q1413
 refine Go.movp st1413 (mkF m 35 #[vR a, vR sa, vI 4, vI 0, .unset, .unset] [(.int c0)]) rfl ?_
 refine g_istore X1413 hx (hb hby d7_35) (pc' := 37) rfl (Ls' := #[vR a, vR sa, vI 4, vI 0, vI c0, .unset]) rfl ?_
 refine g_aloadN X1413 hx (hb hby d7_37) (pc' := 38) rfl rfl rfl ?_
 obtain ⟨T1414, X1414, e1414, st1414⟩ := getF X1413 hx hZ hown (host := "") (Or.inl (wd hw 39 rfl)) Via.refl e1413 f1274 (g := (mkF m 38 #[vR a, vR sa, vI 4, vI 0, vI c0, .unset] [(.ref a)])) rfl rfl (hb hby d7_38)
 refine Go.movp st1414 (mkF m 41 #[vR a, vR sa, vI 4, vI 0, vI c0, .unset] [(.ref pa)]) rfl ?_
 refine g_iload X1414 hx (hb hby d7_41) (pc' := 43) rfl rfl ?_
 refine g_bipush X1414 hx (hb hby d7_43) (pc' := 45) rfl (z := 8) rfl ?_
 refine g_iushr X1414 hx (hb hby d7_45) (pc' := 46) rfl ?_
 rcases PG.at PA hc0 with ⟨qn, qm⟩ | ⟨rp, vp, qr, ql, qp, qv, qw, qx⟩
 ·
  refine g_aaload X1414 hx hZ e1414 PA.1 rfl (v := .null) (hb hby d7_46) (pc' := 47) rfl (own_hi hc0).1 (own_hi hc0).2.1 (by rw [PA.2.2.1]; exact (own_hi hc0).2.2) qn ?_
  refine g_astore X1414 hx (hb hby d7_47) (pc' := 49) rfl rfl (Ls' := #[vR a, vR sa, vI 4, vI 0, vI c0, .val .null]) rfl ?_
  refine g_aload X1414 hx (hb hby d7_49) (pc' := 51) rfl rfl rfl ?_
  refine g_ifnonnull_n X1414 hx (hb hby d7_51) (pc' := 54) rfl ?_
  refine g_sipush X1414 hx (hb hby d7_54) (pc' := 57) rfl (z := 256) rfl ?_
  have ltpa : pa < h1273.size := PA.1.lt
  obtain ⟨T1415, h1415, b1415, X1415, e1415, g1415, E1415, V1415, A1415, st1415⟩ := h_newarray X1414 hx hZ e1414 (n := (256 : Int32)) (ty := .int) rfl (wd hw 80 rfl) (hb hby d7_57) (k := 256) (cap := 256) (by decide) rfl (by decide) (by decide) (by decide) (by decide) (ad := "[I") (by decide) #[vR a, vR sa, vI 4, vI 0, vI c0, .val .null] []
  have ne1416 : a ≠ b1415 := Nat.ne_of_lt (g1415 ▸ f1276.lt)
  have ge1417 : n0 ≤ b1415 := g1415 ▸ Z1278
  have sz1418 : h0.size ≤ b1415 := g1415 ▸ K1279.1
  have f1419 := f1275.ext E1415
  have f1420 := Exa.ext E1415 f1276
  have f1421 := Fld.ext E1415 f1274
  have Z1422 : n0 ≤ h1415.size := Nat.le_trans Z1278 E1415.1
  have K1423 := K1279.ext E1415
  have f1424 : Va Z h1415 b1415 .int (List.replicate 256 (.int 0)) := V1415
  refine Go.movp st1415 (mkF m 59 #[vR a, vR sa, vI 4, vI 0, vI c0, .val .null] [(.ref b1415)]) rfl ?_
  have nepa : b1415 ≠ pa := Ne.symm (Nat.ne_of_lt (g1415 ▸ ltpa))
  refine g_astore X1415 hx (hb hby d7_59) (pc' := 61) rfl rfl (Ls' := #[vR a, vR sa, vI 4, vI 0, vI c0, vR b1415]) rfl ?_
  refine g_aload X1415 hx (hb hby d7_61) (pc' := 63) rfl rfl rfl ?_
  refine g_iconst X1415 hx (hb hby d7_63) (pc' := 64) rfl (z := (-1 : Int32)) rfl ?_
  obtain ⟨v1425, T1425, h1425, L1425, X1425, e1425, N1425, q1425, st1425⟩ := h_static X1415 hx (W := 0) (Ls := #[vR a, vR sa, vI 4, vI 0, vI c0, vR b1415]) (argsL := [(.ref b1415), (.int (-1 : Int32))]) (rest := []) hZ e1415 N1413 hml hown (rm15 l Z a0 hw b1415 (-1 : Int32) h1415 n0 Z1422 f1424 ge1417) (wd hw 81 rfl) (wd hw 82 rfl) (wd hw 83 rfl) (wd hw 84 rfl) (by decide) pd___II_V rfl rfl (hb hby d7_64) rfl (by decide) (by decide) (by decide) (by decide)
  obtain ⟨rfl, K1425, V1425⟩ := q1425
  have f1426 := f1419.keep K1425 (allS ge1417 all0)
  have f1427 := f1420.keep K1425
  have f1428 := f1421.keep K1425 (ninS ne1416 nin0)
  have f1429 := A1415.keep K1425
  have Z1430 : n0 ≤ h1425.size := Nat.le_trans Z1422 K1425.1
  have K1431 := K1423.trans K1425 (allS (Or.inr sz1418) all0)
  refine Go.movp st1425 (mkF m 67 #[vR a, vR sa, vI 4, vI 0, vI c0, vR b1415] []) rfl ?_
  refine g_aloadN X1425 hx (hb hby d7_67) (pc' := 68) rfl rfl rfl ?_
  obtain ⟨T1432, X1432, e1432, st1432⟩ := getF X1425 hx hZ hown (host := "") (Or.inl (wd hw 39 rfl)) Via.refl e1425 f1428 (g := (mkF m 68 #[vR a, vR sa, vI 4, vI 0, vI c0, vR b1415] [(.ref a)])) rfl rfl (hb hby d7_68)
  refine Go.movp st1432 (mkF m 71 #[vR a, vR sa, vI 4, vI 0, vI c0, vR b1415] [(.ref pa)]) rfl ?_
  refine g_iload X1432 hx (hb hby d7_71) (pc' := 73) rfl rfl ?_
  refine g_bipush X1432 hx (hb hby d7_73) (pc' := 75) rfl (z := 8) rfl ?_
  refine g_iushr X1432 hx (hb hby d7_75) (pc' := 76) rfl ?_
  refine g_aload X1432 hx (hb hby d7_76) (pc' := 78) rfl rfl rfl ?_
  have K78 := ((Keep.refl h1273 []).ext E1415).trans K1425 (allS (Or.inr (Nat.le_of_eq g1415.symm)) all0)
  have P78 := PA.keep K78
  obtain ⟨T1433, h1433, L1433, X1433, e1433, N1433, W1433, st1433⟩ := h_aastore X1432 hx hZ e1432 N1425 P78.1 ge1266 rfl (j := (ushr c0 (8 : Int32))) (hb hby d7_78) (own_hi hc0).1 (own_hi hc0).2.1 (by rw [P78.2.2.1]; exact (own_hi hc0).2.2) (Sto.ofVA P78.1 rfl P78.2.1 (Ins.self f1429)) #[vR a, vR sa, vI 4, vI 0, vI c0, vR b1415] []
  obtain ⟨cc2, P79, qr⟩ := P78.put (own_hi hc0).2.2 qn W1433 V1425 sz1418 (Nat.le_of_eq g1415.symm) nepa
  have f1434 := f1426.wr W1433 ge1266
  have f1435 := Exa.wr W1433 f1427
  have f1436 := Fld.other W1433 f1428 (Or.inl ne1265)
  have f1437 := Exa.wr W1433 f1429
  have f1438 := V1425.other W1433 nepa
  have Z1439 : n0 ≤ h1433.size := Nat.le_trans Z1430 (Keep.of_wr W1433).1
  have K1440 := K1431.wr W1433 (Or.inr sz1267)
  refine Go.movp st1433 (mkF m 79 #[vR a, vR sa, vI 4, vI 0, vI c0, vR b1415] []) rfl ?_
  refine g_aload X1433 hx (hb hby d7_79) (pc' := 81) rfl rfl rfl ?_
  refine g_iload X1433 hx (hb hby d7_81) (pc' := 83) rfl rfl ?_
  refine g_sipush X1433 hx (hb hby d7_83) (pc' := 86) rfl (z := 255) rfl ?_
  refine g_iand X1433 hx (hb hby d7_86) (pc' := 87) rfl ?_
  refine g_iloadN X1433 hx (hb hby d7_87) (pc' := 88) rfl rfl ?_
  obtain ⟨T1441, h1441, L1441, X1441, e1441, N1441, W1441, V1441, st1441⟩ := h_iastore X1433 hx hZ e1433 N1433 f1438 ge1417 (j := (c0 &&& (255 : Int32))) (i := cn c0 % 256) (x := (0 : Int32)) (hb hby d7_88) (own_lo hc0).1 (own_lo hc0).2 (own_rep (Nat.mod_lt _ (by decide))) #[vR a, vR sa, vI 4, vI 0, vI c0, vR b1415] []
  have P88 := (P79.setc hc0 qr W1441).mono (Nat.succ_le_of_lt V1441.lt)
  have f1442 := f1434.wr W1441 ge1417
  have f1443 := Exa.wr W1441 f1435
  have f1444 := Fld.other W1441 f1436 (Or.inl ne1416)
  have f1445 := Exa.wr W1441 f1437
  have Z1446 : n0 ≤ h1441.size := Nat.le_trans Z1439 (Keep.of_wr W1441).1
  have K1447 := K1440.wr W1441 (Or.inr sz1418)
  refine Go.movp st1441 (mkF m 89 #[vR a, vR sa, vI 4, vI 0, vI c0, vR b1415] []) rfl ?_
  refine g_iinc X1441 hx (hb hby d7_89) (pc' := 92) rfl rfl (z := 1) rfl (Ls' := #[vR a, vR sa, vI 4, vI 1, vI c0, vR b1415]) rfl ?_
  refine g_goto X1441 hx (hb hby d7_92) (by decide) (pc' := 23) (by decide) ?_
  exact J1 T1441 h1441 _ (X1441.more (by decide) (by decide)) e1441 N1441 Z1446 K1447 f1442 f1444 f1443 _ P88 b1415
 ·
  refine g_aaload X1414 hx hZ e1414 PA.1 rfl (v := (.ref rp)) (hb hby d7_46) (pc' := 47) rfl (own_hi hc0).1 (own_hi hc0).2.1 (by rw [PA.2.2.1]; exact (own_hi hc0).2.2) qr ?_
  have gerp : n0 ≤ rp := Nat.le_trans Z0 ql
  have nerp : a ≠ rp := Nat.ne_of_lt (Nat.lt_of_lt_of_le E1.lt ql)
  refine g_astore X1414 hx (hb hby d7_47) (pc' := 49) rfl rfl (Ls' := #[vR a, vR sa, vI 4, vI 0, vI c0, vR rp]) rfl ?_
  refine g_aload X1414 hx (hb hby d7_49) (pc' := 51) rfl rfl rfl ?_
  refine g_ifnonnull_y X1414 hx (hb hby d7_51) (by decide) (pc' := 79) (by decide) ?_
  refine g_aload X1414 hx (hb hby d7_79) (pc' := 81) rfl rfl rfl ?_
  refine g_iload X1414 hx (hb hby d7_81) (pc' := 83) rfl rfl ?_
  refine g_sipush X1414 hx (hb hby d7_83) (pc' := 86) rfl (z := 255) rfl ?_
  refine g_iand X1414 hx (hb hby d7_86) (pc' := 87) rfl ?_
  refine g_iloadN X1414 hx (hb hby d7_87) (pc' := 88) rfl rfl ?_
  obtain ⟨T1448, h1448, L1448, X1448, e1448, N1448, W1448, V1448, st1448⟩ := h_iastore X1414 hx hZ e1414 N1413 qv gerp (j := (c0 &&& (255 : Int32))) (i := cn c0 % 256) (x := (0 : Int32)) (hb hby d7_88) (own_lo hc0).1 (own_lo hc0).2 qx #[vR a, vR sa, vI 4, vI 0, vI c0, vR rp] []
  have P88 := (PA.setc hc0 qr W1448).mono (Keep.of_wr W1448).1
  have f1449 := f1275.wr W1448 gerp
  have f1450 := Exa.wr W1448 f1276
  have f1451 := Fld.other W1448 f1274 (Or.inl nerp)
  have Z1452 : n0 ≤ h1448.size := Nat.le_trans Z1278 (Keep.of_wr W1448).1
  have K1453 := K1279.wr W1448 (Or.inr ql)
  refine Go.movp st1448 (mkF m 89 #[vR a, vR sa, vI 4, vI 0, vI c0, vR rp] []) rfl ?_
  refine g_iinc X1448 hx (hb hby d7_89) (pc' := 92) rfl rfl (z := 1) rfl (Ls' := #[vR a, vR sa, vI 4, vI 1, vI c0, vR rp]) rfl ?_
  refine g_goto X1448 hx (hb hby d7_92) (by decide) (pc' := 23) (by decide) ?_
  exact J1 T1448 h1448 _ (X1448.more (by decide) (by decide)) e1448 N1448 Z1452 K1453 f1449 f1451 f1450 _ P88 rp
theorem pd___C_V : parseMethodDescriptor "([C)V" = some ⟨[(.array .char)], none⟩ := by decide +kernel
theorem pd__Ljava_lang_CharSequence__V : parseMethodDescriptor "(Ljava/lang/CharSequence;)V" = some ⟨[(.object "java/lang/CharSequence")], none⟩ := by decide +kernel
theorem pd__C_I : parseMethodDescriptor "(C)I" = some ⟨[.char], some .int⟩ := by decide +kernel
theorem pn_0 : plainName "com/example/needlework/needlework/LastOccurrenceOfPinLaw" = true := by first | (simp [plainName, overriddenIn]; done) | decide +kernel
theorem ef_0 (x0 : Int32) (x1 : Int32) (x2 : Int32) (x3 : Int32) (x4 : Int32) (m : MethodId) : entryFrame m #[(.int x0), (.int x1), (.int x2), (.int x3), (.int x4)] maxLocals = mkF m 0 #[.val (.int x0), .val (.int x1), .val (.int x2), .val (.int x3), .val (.int x4), .unset, .unset, .unset, .unset, .unset, .unset, .unset, .unset, .unset, .unset, .unset] [] := by first | (simp [entryFrame, mkF, argsToLocals, Value.category, maxLocals]; done) | rfl
def Q0 (Z : State) (p0 : Int32) (p1 : Int32) (p2 : Int32) (p3 : Int32) (p4 : Int32) (cs : Int32) (fv : Value) (h0 : Heap) (n0 : Nat) : Option Value → Heap → Prop := fun v h => v = some (.int 1)
theorem rm0 (l : Launch) (Z : State) (a0 : Array Value) (hw : HW Z a0) (p0 : Int32) (p1 : Int32) (p2 : Int32) (p3 : Int32) (p4 : Int32) (cs : Int32) (fv : Value) (h0 : Heap) (n0 : Nat) (Z0 : n0 ≤ h0.size) (B : Sts Z cs fv) (O : Old Z n0 h0) (CH : Jvm.Lit.constHeld Z "java/lang/String" 7) (CW : Jvm.Lit.compactW.before a0 Z = true) : CtrI l Z x code maxLocals ret room_1 #[(.int p0), (.int p1), (.int p2), (.int p3), (.int p4)] h0 n0 (Q0 Z p0 p1 p2 p3 p4 cs fv h0 n0) := by
 refine CtrI.of (plainFor_of_name pn_0) (ef_0 p0 p1 p2 p3 p4) ?_
 intro p e s m below meth c T0 hx hby hml hown hnm hret hlk hZ X0 e0 hsh hI
 have N0 := Fr.nil n0
 change c.maxLocals = 16 at hml
 change meth.sig.returnType = some .boolean at hret
 refine g_iloadN X0 hx (hb hby at_0) (pc' := 1) rfl rfl ?_
 refine g_i2c X0 hx (hb hby at_1) (pc' := 2) rfl ?_
 obtain ⟨c0, ec0⟩ : ∃ z : Int32, z = (chr p0) := ⟨_, rfl⟩
 refine Go.cast (show (mkF m 2 #[vI p0, vI p1, vI p2, vI p3, vI p4, .unset, .unset, .unset, .unset, .unset, .unset, .unset, .unset, .unset, .unset, .unset] [(.int (chr p0))]) = (mkF m 2 #[vI p0, vI p1, vI p2, vI p3, vI p4, .unset, .unset, .unset, .unset, .unset, .unset, .unset, .unset, .unset, .unset, .unset] [(.int c0)]) from by rw [ec0]) ?_
 refine g_istore X0 hx (hb hby at_2) (pc' := 4) rfl (Ls' := #[vI p0, vI p1, vI p2, vI p3, vI p4, vI c0, .unset, .unset, .unset, .unset, .unset, .unset, .unset, .unset, .unset, .unset]) rfl ?_
 refine g_iloadN X0 hx (hb hby at_4) (pc' := 5) rfl rfl ?_
 refine g_bipush X0 hx (hb hby at_5) (pc' := 7) rfl (z := 16) rfl ?_
 refine g_iushr X0 hx (hb hby at_7) (pc' := 8) rfl ?_
 refine g_i2c X0 hx (hb hby at_8) (pc' := 9) rfl ?_
 obtain ⟨d1, ed1⟩ : ∃ z : Int32, z = (chr (ushr p0 (16 : Int32))) := ⟨_, rfl⟩
 refine Go.cast (show (mkF m 9 #[vI p0, vI p1, vI p2, vI p3, vI p4, vI c0, .unset, .unset, .unset, .unset, .unset, .unset, .unset, .unset, .unset, .unset] [(.int (chr (ushr p0 (16 : Int32))))]) = (mkF m 9 #[vI p0, vI p1, vI p2, vI p3, vI p4, vI c0, .unset, .unset, .unset, .unset, .unset, .unset, .unset, .unset, .unset, .unset] [(.int d1)]) from by rw [ed1]) ?_
 refine g_istore X0 hx (hb hby at_9) (pc' := 11) rfl (Ls' := #[vI p0, vI p1, vI p2, vI p3, vI p4, vI c0, vI d1, .unset, .unset, .unset, .unset, .unset, .unset, .unset, .unset, .unset]) rfl ?_
 refine g_iloadN X0 hx (hb hby at_11) (pc' := 12) rfl rfl ?_
 refine g_i2c X0 hx (hb hby at_12) (pc' := 13) rfl ?_
 obtain ⟨d2, ed2⟩ : ∃ z : Int32, z = (chr p1) := ⟨_, rfl⟩
 refine Go.cast (show (mkF m 13 #[vI p0, vI p1, vI p2, vI p3, vI p4, vI c0, vI d1, .unset, .unset, .unset, .unset, .unset, .unset, .unset, .unset, .unset] [(.int (chr p1))]) = (mkF m 13 #[vI p0, vI p1, vI p2, vI p3, vI p4, vI c0, vI d1, .unset, .unset, .unset, .unset, .unset, .unset, .unset, .unset, .unset] [(.int d2)]) from by rw [ed2]) ?_
 refine g_istore X0 hx (hb hby at_13) (pc' := 15) rfl (Ls' := #[vI p0, vI p1, vI p2, vI p3, vI p4, vI c0, vI d1, vI d2, .unset, .unset, .unset, .unset, .unset, .unset, .unset, .unset]) rfl ?_
 refine g_iloadN X0 hx (hb hby at_15) (pc' := 16) rfl rfl ?_
 refine g_bipush X0 hx (hb hby at_16) (pc' := 18) rfl (z := 16) rfl ?_
 refine g_iushr X0 hx (hb hby at_18) (pc' := 19) rfl ?_
 refine g_i2c X0 hx (hb hby at_19) (pc' := 20) rfl ?_
 obtain ⟨d3, ed3⟩ : ∃ z : Int32, z = (chr (ushr p1 (16 : Int32))) := ⟨_, rfl⟩
 refine Go.cast (show (mkF m 20 #[vI p0, vI p1, vI p2, vI p3, vI p4, vI c0, vI d1, vI d2, .unset, .unset, .unset, .unset, .unset, .unset, .unset, .unset] [(.int (chr (ushr p1 (16 : Int32))))]) = (mkF m 20 #[vI p0, vI p1, vI p2, vI p3, vI p4, vI c0, vI d1, vI d2, .unset, .unset, .unset, .unset, .unset, .unset, .unset, .unset] [(.int d3)]) from by rw [ed3]) ?_
 refine g_istore X0 hx (hb hby at_20) (pc' := 22) rfl (Ls' := #[vI p0, vI p1, vI p2, vI p3, vI p4, vI c0, vI d1, vI d2, vI d3, .unset, .unset, .unset, .unset, .unset, .unset, .unset]) rfl ?_
 have hc0 : chr c0 = c0 := by rw [ec0]; exact chr_chr _
 have hd1 : chr d1 = d1 := by rw [ed1]; exact chr_chr _
 have hd2 : chr d2 = d2 := by rw [ed2]; exact chr_chr _
 have hd3 : chr d3 = d3 := by rw [ed3]; exact chr_chr _
 have J1454 : ∀ (c1 c2 c3 : Int32) (hc1 : chr c1 = c1) (hc2 : chr c2 = c2) (hc3 : chr c3 = c3), Go p e below (EndW s room_1.cells room_1.slots) n0 (Q0 Z p0 p1 p2 p3 p4 cs fv h0 n0) T0 (mkF m 77 #[vI p0, vI p1, vI p2, vI p3, vI p4, vI c0, vI c1, vI c2, vI c3, .unset, .unset, .unset, .unset, .unset, .unset, .unset] []) := by
  intro  c1 c2 c3 hc1 hc2 hc3
  refine g_iloadN X0 hx (hb hby at_77) (pc' := 78) rfl rfl ?_
  refine g_bipush X0 hx (hb hby at_78) (pc' := 80) rfl (z := 7) rfl ?_
  refine g_iand X0 hx (hb hby at_80) (pc' := 81) rfl ?_
  refine g_iconst X0 hx (hb hby at_81) (pc' := 82) rfl (z := 5) rfl ?_
  refine g_irem X0 hx (hb hby at_82) (pc' := 83) rfl (by decide) ?_
  rcases own_len p2 with ql | ql | ql | ql | ql
  ·
   refine Go.cast (show (mkF m 83 #[vI p0, vI p1, vI p2, vI p3, vI p4, vI c0, vI c1, vI c2, vI c3, .unset, .unset, .unset, .unset, .unset, .unset, .unset] [(.int ((p2 &&& (7 : Int32)) % (5 : Int32)))]) = (mkF m 83 #[vI p0, vI p1, vI p2, vI p3, vI p4, vI c0, vI c1, vI c2, vI c3, .unset, .unset, .unset, .unset, .unset, .unset, .unset] [(.int 0)]) from by rw [show ((p2 &&& (7 : Int32)) % (5 : Int32)) = (0 : Int32) from ql]) ?_
   refine g_istore X0 hx (hb hby at_83) (pc' := 85) rfl (Ls' := #[vI p0, vI p1, vI p2, vI p3, vI p4, vI c0, vI c1, vI c2, vI c3, vI 0, .unset, .unset, .unset, .unset, .unset, .unset]) rfl ?_
   refine g_iload X0 hx (hb hby at_85) (pc' := 87) rfl rfl ?_
   refine g_if_ne X0 hx (hb hby at_87) (pc1 := 90) rfl (by decide) (pc2 := 105) (by decide) (fun hc87 => absurd (by decide) hc87) (fun hc87 => ?_)
   obtain ⟨T1455, h1455, X1455, e1455, E1455, A1455, D1455, -, st1455⟩ := newO X0 hx hZ hown (wd hw 0 rfl) (wd hw 1 rfl) (wd hw 2 rfl) e0 (g := (mkF m 90 #[vI p0, vI p1, vI p2, vI p3, vI p4, vI c0, vI c1, vI c2, vI c3, vI 0, .unset, .unset, .unset, .unset, .unset, .unset] [])) rfl (hb hby at_90) (by decide) (by decide)
   obtain ⟨b1455, g1455⟩ : ∃ z, z = h0.size := ⟨_, rfl⟩
   rw [← g1455] at A1455 D1455 st1455
   have ge1456 : n0 ≤ b1455 := g1455 ▸ Z0
   have f1457 := O.ext E1455
   have Z1458 : n0 ≤ h1455.size := Nat.le_trans Z0 E1455.1
   have f1459 : Fld Z h1455 b1455 "java/lang/String" "coder" "B" (.int 0) := D1455 (Or.inr (wd hw 27 rfl)) (ty := .byte) (by decide)
   have f1460 : Fld Z h1455 b1455 "java/lang/String" "value" "[B" .null := D1455 (Or.inr (wd hw 29 rfl)) (ty := (.array .byte)) (by decide)
   refine Go.movp st1455 (mkF m 93 #[vI p0, vI p1, vI p2, vI p3, vI p4, vI c0, vI c1, vI c2, vI c3, vI 0, .unset, .unset, .unset, .unset, .unset, .unset] [(.ref b1455)]) rfl ?_
   refine g_dup X1455 hx (hb hby at_93) (pc' := 94) rfl rfl ?_
   refine g_iconst X1455 hx (hb hby at_94) (pc' := 95) rfl (z := 0) rfl ?_
   obtain ⟨T1461, h1461, b1461, X1461, e1461, g1461, E1461, V1461, A1461, st1461⟩ := h_newarray X1455 hx hZ e1455 (n := (0 : Int32)) (ty := .char) rfl (wd hw 3 rfl) (hb hby at_95) (k := 0) (cap := 0) (by decide) rfl (by decide) (by decide) (by decide) (by decide) (ad := "[C") (by decide) #[vI p0, vI p1, vI p2, vI p3, vI p4, vI c0, vI c1, vI c2, vI c3, vI 0, .unset, .unset, .unset, .unset, .unset, .unset] [(.ref b1455), (.ref b1455)]
   have ne1462 : b1455 ≠ b1461 := Nat.ne_of_lt (g1461 ▸ A1455.lt)
   have ge1463 : n0 ≤ b1461 := g1461 ▸ Z1458
   have f1464 := f1457.ext E1461
   have f1465 := Exa.ext E1461 A1455
   have f1466 := Fld.ext E1461 f1459
   have f1467 := Fld.ext E1461 f1460
   have Z1468 : n0 ≤ h1461.size := Nat.le_trans Z1458 E1461.1
   have f1469 : Va Z h1461 b1461 .char [] := V1461
   refine Go.movp st1461 (mkF m 97 #[vI p0, vI p1, vI p2, vI p3, vI p4, vI c0, vI c1, vI c2, vI c3, vI 0, .unset, .unset, .unset, .unset, .unset, .unset] [(.ref b1461), (.ref b1455), (.ref b1455)]) rfl ?_
   obtain ⟨v1470, T1470, h1470, L1470, X1470, e1470, N1470, q1470, S1470, hZ, hown, st1470⟩ := h_specialI (a := b1455) X1461 hx (W := 1) (Ls := #[vI p0, vI p1, vI p2, vI p3, vI p4, vI c0, vI c1, vI c2, vI c3, vI 0, .unset, .unset, .unset, .unset, .unset, .unset]) (argsL := [(.ref b1461)]) (rest := [(.ref b1455)]) hZ e1461 N0 hml hown hI rfl (rm1_0 l Z a0 hw b1455 b1461 h1461 n0 Z1468 f1467 f1466 f1465 ge1456 f1464 CH CW f1469) (wd hw 4 rfl) (wd hw 5 rfl) (wd hw 2 rfl) (wd hw 6 rfl) (by decide) pd___C_V rfl rfl (hb hby at_97) rfl (by decide) (by decide) (by decide) (by decide)
   obtain ⟨rfl, K1470, r1470, U1470⟩ := q1470
   have f1471 := f1464.keep K1470 (allS ge1456 all0)
   have f1472 := f1465.keep K1470
   have f1473 := A1461.keep K1470
   have f1474 := f1469.keep K1470 (ninS (Ne.symm ne1462) nin0)
   have Z1475 : n0 ≤ h1470.size := Nat.le_trans Z1468 K1470.1
   refine Go.movp st1470 (mkF m 100 #[vI p0, vI p1, vI p2, vI p3, vI p4, vI c0, vI c1, vI c2, vI c3, vI 0, .unset, .unset, .unset, .unset, .unset, .unset] [(.ref b1455)]) rfl ?_
   refine g_astore X1470 hx (hb hby at_100) (pc' := 102) rfl rfl (Ls' := #[vI p0, vI p1, vI p2, vI p3, vI p4, vI c0, vI c1, vI c2, vI c3, vI 0, vR b1455, .unset, .unset, .unset, .unset, .unset]) rfl ?_
   refine g_goto X1470 hx (hb hby at_102) (by decide) (pc' := 230) (by decide) ?_
   refine g_iconst X1470 hx (hb hby at_230) (pc' := 231) rfl (z := 4) rfl ?_
   obtain ⟨T1476, h1476, b1476, X1476, e1476, g1476, E1476, V1476, A1476, st1476⟩ := h_newarray X1470 hx hZ e1470 (n := (4 : Int32)) (ty := .char) rfl (wd hw 3 rfl) (hb hby at_231) (k := 4) (cap := 4) (by decide) rfl (by decide) (by decide) (by decide) (by decide) (ad := "[C") (by decide) #[vI p0, vI p1, vI p2, vI p3, vI p4, vI c0, vI c1, vI c2, vI c3, vI 0, vR b1455, .unset, .unset, .unset, .unset, .unset] []
   have ne1477 : b1455 ≠ b1476 := Nat.ne_of_lt (g1476 ▸ U1470.lt)
   have ne1478 : r1470 ≠ b1476 := Nat.ne_of_lt (g1476 ▸ (Str.lb U1470).lt)
   have ge1479 : n0 ≤ b1476 := g1476 ▸ Z1475
   have f1480 := f1471.ext E1476
   have f1481 := Nat.le_trans (Nat.le_refl _) E1476.1
   have f1482 := U1470.ext E1476
   have Z1483 : n0 ≤ h1476.size := Nat.le_trans Z1475 E1476.1
   have f1484 : Va Z h1476 b1476 .char [(.int 0), (.int 0), (.int 0), (.int 0)] := V1476
   refine Go.movp st1476 (mkF m 233 #[vI p0, vI p1, vI p2, vI p3, vI p4, vI c0, vI c1, vI c2, vI c3, vI 0, vR b1455, .unset, .unset, .unset, .unset, .unset] [(.ref b1476)]) rfl ?_
   refine g_dup X1476 hx (hb hby at_233) (pc' := 234) rfl rfl ?_
   refine g_iconst X1476 hx (hb hby at_234) (pc' := 235) rfl (z := 0) rfl ?_
   refine g_iload X1476 hx (hb hby at_235) (pc' := 237) rfl rfl ?_
   obtain ⟨T1485, h1485, L1485, X1485, e1485, N1485, W1485, V1485, st1485⟩ := h_castore X1476 hx hZ e1476 N1470 f1484 ge1479 (j := (0 : Int32)) (i := 0) (x := c0) (hb hby at_237) (by decide) rfl rfl #[vI p0, vI p1, vI p2, vI p3, vI p4, vI c0, vI c1, vI c2, vI c3, vI 0, vR b1455, .unset, .unset, .unset, .unset, .unset] [(.ref b1476)]
   have f1486 := f1480.wr W1485 ge1479
   have f1487 := Nat.le_trans f1481 (Keep.of_wr W1485).1
   have f1488 := f1482.wr W1485 ne1477 ne1478
   have f1489 := Exa.wr W1485 A1476
   have Z1490 : n0 ≤ h1485.size := Nat.le_trans Z1483 (Keep.of_wr W1485).1
   have f1491 : Va Z h1485 b1476 .char [(.int (chr c0)), (.int 0), (.int 0), (.int 0)] := V1485
   have f1492 : Va Z h1485 b1476 .char [(.int c0), (.int 0), (.int 0), (.int 0)] := by rw [show (chr c0) = c0 from hc0] at f1491; exact f1491
   refine Go.movp st1485 (mkF m 238 #[vI p0, vI p1, vI p2, vI p3, vI p4, vI c0, vI c1, vI c2, vI c3, vI 0, vR b1455, .unset, .unset, .unset, .unset, .unset] [(.ref b1476)]) rfl ?_
   refine g_dup X1485 hx (hb hby at_238) (pc' := 239) rfl rfl ?_
   refine g_iconst X1485 hx (hb hby at_239) (pc' := 240) rfl (z := 1) rfl ?_
   refine g_iload X1485 hx (hb hby at_240) (pc' := 242) rfl rfl ?_
   obtain ⟨T1493, h1493, L1493, X1493, e1493, N1493, W1493, V1493, st1493⟩ := h_castore X1485 hx hZ e1485 N1485 f1492 ge1479 (j := (1 : Int32)) (i := 1) (x := c1) (hb hby at_242) (by decide) rfl rfl #[vI p0, vI p1, vI p2, vI p3, vI p4, vI c0, vI c1, vI c2, vI c3, vI 0, vR b1455, .unset, .unset, .unset, .unset, .unset] [(.ref b1476)]
   have f1494 := f1486.wr W1493 ge1479
   have f1495 := Nat.le_trans f1487 (Keep.of_wr W1493).1
   have f1496 := f1488.wr W1493 ne1477 ne1478
   have f1497 := Exa.wr W1493 f1489
   have Z1498 : n0 ≤ h1493.size := Nat.le_trans Z1490 (Keep.of_wr W1493).1
   have f1499 : Va Z h1493 b1476 .char [(.int c0), (.int (chr c1)), (.int 0), (.int 0)] := V1493
   have f1500 : Va Z h1493 b1476 .char [(.int c0), (.int c1), (.int 0), (.int 0)] := by rw [show (chr c1) = c1 from hc1] at f1499; exact f1499
   refine Go.movp st1493 (mkF m 243 #[vI p0, vI p1, vI p2, vI p3, vI p4, vI c0, vI c1, vI c2, vI c3, vI 0, vR b1455, .unset, .unset, .unset, .unset, .unset] [(.ref b1476)]) rfl ?_
   refine g_dup X1493 hx (hb hby at_243) (pc' := 244) rfl rfl ?_
   refine g_iconst X1493 hx (hb hby at_244) (pc' := 245) rfl (z := 2) rfl ?_
   refine g_iload X1493 hx (hb hby at_245) (pc' := 247) rfl rfl ?_
   obtain ⟨T1501, h1501, L1501, X1501, e1501, N1501, W1501, V1501, st1501⟩ := h_castore X1493 hx hZ e1493 N1493 f1500 ge1479 (j := (2 : Int32)) (i := 2) (x := c2) (hb hby at_247) (by decide) rfl rfl #[vI p0, vI p1, vI p2, vI p3, vI p4, vI c0, vI c1, vI c2, vI c3, vI 0, vR b1455, .unset, .unset, .unset, .unset, .unset] [(.ref b1476)]
   have f1502 := f1494.wr W1501 ge1479
   have f1503 := Nat.le_trans f1495 (Keep.of_wr W1501).1
   have f1504 := f1496.wr W1501 ne1477 ne1478
   have f1505 := Exa.wr W1501 f1497
   have Z1506 : n0 ≤ h1501.size := Nat.le_trans Z1498 (Keep.of_wr W1501).1
   have f1507 : Va Z h1501 b1476 .char [(.int c0), (.int c1), (.int (chr c2)), (.int 0)] := V1501
   have f1508 : Va Z h1501 b1476 .char [(.int c0), (.int c1), (.int c2), (.int 0)] := by rw [show (chr c2) = c2 from hc2] at f1507; exact f1507
   refine Go.movp st1501 (mkF m 248 #[vI p0, vI p1, vI p2, vI p3, vI p4, vI c0, vI c1, vI c2, vI c3, vI 0, vR b1455, .unset, .unset, .unset, .unset, .unset] [(.ref b1476)]) rfl ?_
   refine g_dup X1501 hx (hb hby at_248) (pc' := 249) rfl rfl ?_
   refine g_iconst X1501 hx (hb hby at_249) (pc' := 250) rfl (z := 3) rfl ?_
   refine g_iload X1501 hx (hb hby at_250) (pc' := 252) rfl rfl ?_
   obtain ⟨T1509, h1509, L1509, X1509, e1509, N1509, W1509, V1509, st1509⟩ := h_castore X1501 hx hZ e1501 N1501 f1508 ge1479 (j := (3 : Int32)) (i := 3) (x := c3) (hb hby at_252) (by decide) rfl rfl #[vI p0, vI p1, vI p2, vI p3, vI p4, vI c0, vI c1, vI c2, vI c3, vI 0, vR b1455, .unset, .unset, .unset, .unset, .unset] [(.ref b1476)]
   have f1510 := f1502.wr W1509 ge1479
   have f1511 := Nat.le_trans f1503 (Keep.of_wr W1509).1
   have f1512 := f1504.wr W1509 ne1477 ne1478
   have f1513 := Exa.wr W1509 f1505
   have Z1514 : n0 ≤ h1509.size := Nat.le_trans Z1506 (Keep.of_wr W1509).1
   have f1515 : Va Z h1509 b1476 .char [(.int c0), (.int c1), (.int c2), (.int (chr c3))] := V1509
   have f1516 : Va Z h1509 b1476 .char [(.int c0), (.int c1), (.int c2), (.int c3)] := by rw [show (chr c3) = c3 from hc3] at f1515; exact f1515
   refine Go.movp st1509 (mkF m 253 #[vI p0, vI p1, vI p2, vI p3, vI p4, vI c0, vI c1, vI c2, vI c3, vI 0, vR b1455, .unset, .unset, .unset, .unset, .unset] [(.ref b1476)]) rfl ?_
   refine g_astore X1509 hx (hb hby at_253) (pc' := 255) rfl rfl (Ls' := #[vI p0, vI p1, vI p2, vI p3, vI p4, vI c0, vI c1, vI c2, vI c3, vI 0, vR b1455, vR b1476, .unset, .unset, .unset, .unset]) rfl ?_
   refine g_iloadN X1509 hx (hb hby at_255) (pc' := 256) rfl rfl ?_
   refine g_i2c X1509 hx (hb hby at_256) (pc' := 257) rfl ?_
   obtain ⟨dq, edq⟩ : ∃ z : Int32, z = (chr p3) := ⟨_, rfl⟩
   refine Go.cast (show (mkF m 257 #[vI p0, vI p1, vI p2, vI p3, vI p4, vI c0, vI c1, vI c2, vI c3, vI 0, vR b1455, vR b1476, .unset, .unset, .unset, .unset] [(.int (chr p3))]) = (mkF m 257 #[vI p0, vI p1, vI p2, vI p3, vI p4, vI c0, vI c1, vI c2, vI c3, vI 0, vR b1455, vR b1476, .unset, .unset, .unset, .unset] [(.int dq)]) from by rw [edq]) ?_
   refine g_istore X1509 hx (hb hby at_257) (pc' := 259) rfl (Ls' := #[vI p0, vI p1, vI p2, vI p3, vI p4, vI c0, vI c1, vI c2, vI c3, vI 0, vR b1455, vR b1476, vI dq, .unset, .unset, .unset]) rfl ?_
   have hdq : chr dq = dq := by rw [edq]; exact chr_chr _
   have J1517 : ∀ (d : Int32) (hd : chr d = d), Go p e below (EndW s room_1.cells room_1.slots) n0 (Q0 Z p0 p1 p2 p3 p4 cs fv h0 n0) T1509 (mkF m 303 #[vI p0, vI p1, vI p2, vI p3, vI p4, vI c0, vI c1, vI c2, vI c3, vI 0, vR b1455, vR b1476, vI d, .unset, .unset, .unset] []) := by
    intro  d hd
    obtain ⟨T1518, h1518, X1518, e1518, E1518, A1518, D1518, -, st1518⟩ := newO X1509 hx hZ hown (wd hw 30 rfl) (wd hw 31 rfl) (wd hw 32 rfl) e1509 (g := (mkF m 303 #[vI p0, vI p1, vI p2, vI p3, vI p4, vI c0, vI c1, vI c2, vI c3, vI 0, vR b1455, vR b1476, vI d, .unset, .unset, .unset] [])) rfl (hb hby at_303) (by decide) (by decide)
    obtain ⟨b1518, g1518⟩ : ∃ z, z = h1509.size := ⟨_, rfl⟩
    rw [← g1518] at A1518 D1518 st1518
    have ne1519 : b1455 ≠ b1518 := Nat.ne_of_lt (g1518 ▸ f1512.lt)
    have ne1520 : r1470 ≠ b1518 := Nat.ne_of_lt (g1518 ▸ (Str.lb f1512).lt)
    have ne1521 : b1476 ≠ b1518 := Nat.ne_of_lt (g1518 ▸ f1513.lt)
    have ge1522 : n0 ≤ b1518 := g1518 ▸ Z1514
    have f1523 := f1510.ext E1518
    have f1524 := Nat.le_trans f1511 E1518.1
    have f1525 := f1512.ext E1518
    have f1526 := Exa.ext E1518 f1513
    have f1527 := f1516.ext E1518
    have Z1528 : n0 ≤ h1518.size := Nat.le_trans Z1514 E1518.1
    have f1529 : Fld Z h1518 b1518 "com/example/needlework/needlework/LastOccurrence" "pages" "[[I" .null := D1518 (Or.inr (wd hw 40 rfl)) (ty := (.array (.array .int))) (by decide)
    refine Go.movp st1518 (mkF m 306 #[vI p0, vI p1, vI p2, vI p3, vI p4, vI c0, vI c1, vI c2, vI c3, vI 0, vR b1455, vR b1476, vI d, .unset, .unset, .unset] [(.ref b1518)]) rfl ?_
    refine g_dup X1518 hx (hb hby at_306) (pc' := 307) rfl rfl ?_
    refine g_aload X1518 hx (hb hby at_307) (pc' := 309) rfl rfl rfl ?_
    obtain ⟨v1530, T1530, h1530, L1530, X1530, e1530, N1530, q1530, st1530⟩ := h_special (a := b1518) X1518 hx (W := 1) (Ls := #[vI p0, vI p1, vI p2, vI p3, vI p4, vI c0, vI c1, vI c2, vI c3, vI 0, vR b1455, vR b1476, vI d, .unset, .unset, .unset]) (argsL := [(.ref b1455)]) (rest := [(.ref b1518)]) hZ e1518 N1509 hml hown rfl (rm7_0 l Z a0 hw b1518 b1455 r1470  cs fv h1518 n0 Z1528 f1529 A1518 ge1522 f1525 ne1519 ne1520 B f1523 ) (wd hw 33 rfl) (wd hw 34 rfl) (wd hw 32 rfl) (wd hw 35 rfl) (by decide) pd__Ljava_lang_CharSequence__V rfl rfl (hb hby at_309) rfl (by decide) (by decide) (by decide) (by decide)
    obtain ⟨rfl, K1530, pa1530, cc1530, F1530, A1530, G1530⟩ := q1530
    have f1531 := f1523.keep K1530 (allS ge1522 all0)
    have f1532 := Nat.le_trans f1524 K1530.1
    have f1533 := f1525.keep K1530 (ninS ne1519 nin0) (ninS ne1520 nin0)
    have f1534 := f1526.keep K1530
    have f1535 := f1527.keep K1530 (ninS ne1521 nin0)
    have f1536 := A1518.keep K1530
    have Z1537 : n0 ≤ h1530.size := Nat.le_trans Z1528 K1530.1
    refine Go.movp st1530 (mkF m 312 #[vI p0, vI p1, vI p2, vI p3, vI p4, vI c0, vI c1, vI c2, vI c3, vI 0, vR b1455, vR b1476, vI d, .unset, .unset, .unset] [(.ref b1518)]) rfl ?_
    refine g_astore X1530 hx (hb hby at_312) (pc' := 314) rfl rfl (Ls' := #[vI p0, vI p1, vI p2, vI p3, vI p4, vI c0, vI c1, vI c2, vI c3, vI 0, vR b1455, vR b1476, vI d, vR b1518, .unset, .unset]) rfl ?_
    refine g_aload X1530 hx (hb hby at_314) (pc' := 316) rfl rfl rfl ?_
    refine g_iload X1530 hx (hb hby at_316) (pc' := 318) rfl rfl ?_
    obtain ⟨v1538, T1538, h1538, L1538, X1538, e1538, N1538, q1538, st1538⟩ := h_virtual (a := b1518) (z := (⟨"com/example/needlework/needlework/LastOccurrence", "of", "(C)I"⟩ : MethodName)) X1530 hx (W := 0) (Ls := #[vI p0, vI p1, vI p2, vI p3, vI p4, vI c0, vI c1, vI c2, vI c3, vI 0, vR b1455, vR b1476, vI d, vR b1518, .unset, .unset]) (argsL := [(.int d)]) (rest := []) hZ e1530 N1530 hml hown (rm16 l Z a0 hw b1518 pa1530 d cc1530 (fun _ => -1) _ _ h1530 n0 Z1537 F1530 G1530 hd) A1530 (wd hw 86 rfl) (wd hw 87 rfl) (notFace_of_selects (args := #[]) (mvT hZ (wd hw 89 rfl))) (wd hw 89 rfl) (wd hw 88 rfl) (wd hw 32 rfl) (wd hw 90 rfl) (by decide) pd__C_I rfl rfl (hb hby at_318) rfl (by decide) (by decide) (by decide) (by decide)
    obtain ⟨rfl, rfl⟩ := q1538
    refine Go.movp st1538 (mkF m 321 #[vI p0, vI p1, vI p2, vI p3, vI p4, vI c0, vI c1, vI c2, vI c3, vI 0, vR b1455, vR b1476, vI d, vR b1518, .unset, .unset] [(.int ((fun _ => -1) (cn d)))]) rfl ?_
    refine g_istore X1538 hx (hb hby at_321) (pc' := 323) rfl (Ls' := #[vI p0, vI p1, vI p2, vI p3, vI p4, vI c0, vI c1, vI c2, vI c3, vI 0, vR b1455, vR b1476, vI d, vR b1518, vI ((fun _ => -1) (cn d)), .unset]) rfl ?_
    refine g_iconst X1538 hx (hb hby at_323) (pc' := 324) rfl (z := (-1 : Int32)) rfl ?_
    refine g_istore X1538 hx (hb hby at_324) (pc' := 326) rfl (Ls' := #[vI p0, vI p1, vI p2, vI p3, vI p4, vI c0, vI c1, vI c2, vI c3, vI 0, vR b1455, vR b1476, vI d, vR b1518, vI ((fun _ => -1) (cn d)), vI (-1 : Int32)]) rfl ?_
    refine g_iload X1538 hx (hb hby at_326) (pc' := 328) rfl rfl ?_
    refine g_if_le X1538 hx (hb hby at_328) (pc1 := 331) rfl (by decide) (pc2 := 341) (by decide) (fun hc328 => ?_) (fun hc328 => absurd hc328 (by decide))
    refine g_iload X1538 hx (hb hby at_341) (pc' := 343) rfl rfl ?_
    refine g_iconst X1538 hx (hb hby at_343) (pc' := 344) rfl (z := 1) rfl ?_
    refine g_icmp_le X1538 hx (hb hby at_344) (pc1 := 347) rfl (by decide) (pc2 := 357) (by decide) (fun hc344 => ?_) (fun hc344 => absurd hc344 (by decide))
    refine g_iload X1538 hx (hb hby at_357) (pc' := 359) rfl rfl ?_
    refine g_iconst X1538 hx (hb hby at_359) (pc' := 360) rfl (z := 2) rfl ?_
    refine g_icmp_le X1538 hx (hb hby at_360) (pc1 := 363) rfl (by decide) (pc2 := 373) (by decide) (fun hc360 => ?_) (fun hc360 => absurd hc360 (by decide))
    refine g_iload X1538 hx (hb hby at_373) (pc' := 375) rfl rfl ?_
    refine g_iconst X1538 hx (hb hby at_375) (pc' := 376) rfl (z := 3) rfl ?_
    refine g_icmp_le X1538 hx (hb hby at_376) (pc1 := 379) rfl (by decide) (pc2 := 389) (by decide) (fun hc376 => ?_) (fun hc376 => absurd hc376 (by decide))
    refine g_iload X1538 hx (hb hby at_389) (pc' := 391) rfl rfl ?_
    refine g_iload X1538 hx (hb hby at_391) (pc' := 393) rfl rfl ?_
    refine g_icmp_ne X1538 hx (hb hby at_393) (pc1 := 396) rfl (by decide) (pc2 := 400) (by decide) (fun hc393 => absurd rfl hc393) (fun hc393 => ?_)
    refine g_iconst X1538 hx (hb hby at_396) (pc' := 397) rfl (z := 1) rfl ?_
    refine g_goto X1538 hx (hb hby at_397) (by decide) (pc' := 401) (by decide) ?_
    exact g_zreturn X1538 hx rfl hret (hb hby at_401) N1538 hlk (fun v t => endW S1470 (show _ ≤ T1538.heap.size by rw [e1538]; exact f1532) (by decide) (by decide) v) (by rw [e1538]; exact rfl)
   have J1539 : ∀ (dx : Int32) (hdx : chr dx = dx), Go p e below (EndW s room_1.cells room_1.slots) n0 (Q0 Z p0 p1 p2 p3 p4 cs fv h0 n0) T1509 (mkF m 277 #[vI p0, vI p1, vI p2, vI p3, vI p4, vI c0, vI c1, vI c2, vI c3, vI 0, vR b1455, vR b1476, vI dx, .unset, .unset, .unset] []) := by
    intro  dx hdx
    refine g_iload X1509 hx (hb hby at_277) (pc' := 279) rfl rfl ?_
    refine g_bipush X1509 hx (hb hby at_279) (pc' := 281) rfl (z := 8) rfl ?_
    refine g_iand X1509 hx (hb hby at_281) (pc' := 282) rfl ?_
    refine g_if_eq X1509 hx (hb hby at_282) (pc1 := 285) rfl (by decide) (pc2 := 303) (by decide) (fun hc282 => ?_) (fun hc282 => ?_)
    ·
     exact J1517  dx hdx
    ·
     refine g_iload X1509 hx (hb hby at_285) (pc' := 287) rfl rfl ?_
     refine g_ldc X1509 hx hZ hown (wd hw 91 rfl) (hb hby at_287) (pc' := 289) rfl ?_
     refine g_iand X1509 hx (hb hby at_289) (pc' := 290) rfl ?_
     refine g_iload X1509 hx (hb hby at_290) (pc' := 292) rfl rfl ?_
     refine g_bipush X1509 hx (hb hby at_292) (pc' := 294) rfl (z := 8) rfl ?_
     refine g_iushr X1509 hx (hb hby at_294) (pc' := 295) rfl ?_
     refine g_sipush X1509 hx (hb hby at_295) (pc' := 298) rfl (z := 255) rfl ?_
     refine g_iand X1509 hx (hb hby at_298) (pc' := 299) rfl ?_
     refine g_ior X1509 hx (hb hby at_299) (pc' := 300) rfl ?_
     refine g_i2c X1509 hx (hb hby at_300) (pc' := 301) rfl ?_
     refine g_istore X1509 hx (hb hby at_301) (pc' := 303) rfl (Ls' := #[vI p0, vI p1, vI p2, vI p3, vI p4, vI c0, vI c1, vI c2, vI c3, vI 0, vR b1455, vR b1476, vI (chr ((dx &&& (65280 : Int32)) ||| ((ushr p4 (8 : Int32)) &&& (255 : Int32)))), .unset, .unset, .unset]) rfl ?_
     exact J1517  (chr ((dx &&& (65280 : Int32)) ||| ((ushr p4 (8 : Int32)) &&& (255 : Int32)))) (chr_chr _)
   refine g_iload X1509 hx (hb hby at_259) (pc' := 261) rfl rfl ?_
   refine g_iconst X1509 hx (hb hby at_261) (pc' := 262) rfl (z := 1) rfl ?_
   refine g_iand X1509 hx (hb hby at_262) (pc' := 263) rfl ?_
   refine g_if_eq X1509 hx (hb hby at_263) (pc1 := 266) rfl (by decide) (pc2 := 277) (by decide) (fun hc263 => ?_) (fun hc263 => ?_)
   ·
    exact J1539  dq hdq
   ·
    refine g_aload X1509 hx (hb hby at_266) (pc' := 268) rfl rfl rfl ?_
    refine g_iload X1509 hx (hb hby at_268) (pc' := 270) rfl rfl ?_
    refine g_iconst X1509 hx (hb hby at_270) (pc' := 271) rfl (z := 1) rfl ?_
    refine g_iushr X1509 hx (hb hby at_271) (pc' := 272) rfl ?_
    refine g_iconst X1509 hx (hb hby at_272) (pc' := 273) rfl (z := 3) rfl ?_
    refine g_iand X1509 hx (hb hby at_273) (pc' := 274) rfl ?_
    rcases own_and3 (ushr p4 (1 : Int32)) with q3 | q3 | q3 | q3
    ·
     refine Go.cast (show (mkF m 274 #[vI p0, vI p1, vI p2, vI p3, vI p4, vI c0, vI c1, vI c2, vI c3, vI 0, vR b1455, vR b1476, vI dq, .unset, .unset, .unset] [(.int ((ushr p4 (1 : Int32)) &&& (3 : Int32))), (.ref b1476)]) = (mkF m 274 #[vI p0, vI p1, vI p2, vI p3, vI p4, vI c0, vI c1, vI c2, vI c3, vI 0, vR b1455, vR b1476, vI dq, .unset, .unset, .unset] [(.int 0), (.ref b1476)]) from by rw [show ((ushr p4 (1 : Int32)) &&& (3 : Int32)) = (0 : Int32) from q3]) ?_
     refine g_caload X1509 hx hZ e1509 f1516 (i := 0) (v := (.int c0)) (hb hby at_274) (pc' := 275) rfl (by decide) rfl rfl ?_
     refine g_istore X1509 hx (hb hby at_275) (pc' := 277) rfl (Ls' := #[vI p0, vI p1, vI p2, vI p3, vI p4, vI c0, vI c1, vI c2, vI c3, vI 0, vR b1455, vR b1476, vI c0, .unset, .unset, .unset]) rfl ?_
     exact J1539  c0 hc0
    ·
     refine Go.cast (show (mkF m 274 #[vI p0, vI p1, vI p2, vI p3, vI p4, vI c0, vI c1, vI c2, vI c3, vI 0, vR b1455, vR b1476, vI dq, .unset, .unset, .unset] [(.int ((ushr p4 (1 : Int32)) &&& (3 : Int32))), (.ref b1476)]) = (mkF m 274 #[vI p0, vI p1, vI p2, vI p3, vI p4, vI c0, vI c1, vI c2, vI c3, vI 0, vR b1455, vR b1476, vI dq, .unset, .unset, .unset] [(.int 1), (.ref b1476)]) from by rw [show ((ushr p4 (1 : Int32)) &&& (3 : Int32)) = (1 : Int32) from q3]) ?_
     refine g_caload X1509 hx hZ e1509 f1516 (i := 1) (v := (.int c1)) (hb hby at_274) (pc' := 275) rfl (by decide) rfl rfl ?_
     refine g_istore X1509 hx (hb hby at_275) (pc' := 277) rfl (Ls' := #[vI p0, vI p1, vI p2, vI p3, vI p4, vI c0, vI c1, vI c2, vI c3, vI 0, vR b1455, vR b1476, vI c1, .unset, .unset, .unset]) rfl ?_
     exact J1539  c1 hc1
    ·
     refine Go.cast (show (mkF m 274 #[vI p0, vI p1, vI p2, vI p3, vI p4, vI c0, vI c1, vI c2, vI c3, vI 0, vR b1455, vR b1476, vI dq, .unset, .unset, .unset] [(.int ((ushr p4 (1 : Int32)) &&& (3 : Int32))), (.ref b1476)]) = (mkF m 274 #[vI p0, vI p1, vI p2, vI p3, vI p4, vI c0, vI c1, vI c2, vI c3, vI 0, vR b1455, vR b1476, vI dq, .unset, .unset, .unset] [(.int 2), (.ref b1476)]) from by rw [show ((ushr p4 (1 : Int32)) &&& (3 : Int32)) = (2 : Int32) from q3]) ?_
     refine g_caload X1509 hx hZ e1509 f1516 (i := 2) (v := (.int c2)) (hb hby at_274) (pc' := 275) rfl (by decide) rfl rfl ?_
     refine g_istore X1509 hx (hb hby at_275) (pc' := 277) rfl (Ls' := #[vI p0, vI p1, vI p2, vI p3, vI p4, vI c0, vI c1, vI c2, vI c3, vI 0, vR b1455, vR b1476, vI c2, .unset, .unset, .unset]) rfl ?_
     exact J1539  c2 hc2
    ·
     refine Go.cast (show (mkF m 274 #[vI p0, vI p1, vI p2, vI p3, vI p4, vI c0, vI c1, vI c2, vI c3, vI 0, vR b1455, vR b1476, vI dq, .unset, .unset, .unset] [(.int ((ushr p4 (1 : Int32)) &&& (3 : Int32))), (.ref b1476)]) = (mkF m 274 #[vI p0, vI p1, vI p2, vI p3, vI p4, vI c0, vI c1, vI c2, vI c3, vI 0, vR b1455, vR b1476, vI dq, .unset, .unset, .unset] [(.int 3), (.ref b1476)]) from by rw [show ((ushr p4 (1 : Int32)) &&& (3 : Int32)) = (3 : Int32) from q3]) ?_
     refine g_caload X1509 hx hZ e1509 f1516 (i := 3) (v := (.int c3)) (hb hby at_274) (pc' := 275) rfl (by decide) rfl rfl ?_
     refine g_istore X1509 hx (hb hby at_275) (pc' := 277) rfl (Ls' := #[vI p0, vI p1, vI p2, vI p3, vI p4, vI c0, vI c1, vI c2, vI c3, vI 0, vR b1455, vR b1476, vI c3, .unset, .unset, .unset]) rfl ?_
     exact J1539  c3 hc3
  ·
   refine Go.cast (show (mkF m 83 #[vI p0, vI p1, vI p2, vI p3, vI p4, vI c0, vI c1, vI c2, vI c3, .unset, .unset, .unset, .unset, .unset, .unset, .unset] [(.int ((p2 &&& (7 : Int32)) % (5 : Int32)))]) = (mkF m 83 #[vI p0, vI p1, vI p2, vI p3, vI p4, vI c0, vI c1, vI c2, vI c3, .unset, .unset, .unset, .unset, .unset, .unset, .unset] [(.int 1)]) from by rw [show ((p2 &&& (7 : Int32)) % (5 : Int32)) = (1 : Int32) from ql]) ?_
   refine g_istore X0 hx (hb hby at_83) (pc' := 85) rfl (Ls' := #[vI p0, vI p1, vI p2, vI p3, vI p4, vI c0, vI c1, vI c2, vI c3, vI 1, .unset, .unset, .unset, .unset, .unset, .unset]) rfl ?_
   refine g_iload X0 hx (hb hby at_85) (pc' := 87) rfl rfl ?_
   refine g_if_ne X0 hx (hb hby at_87) (pc1 := 90) rfl (by decide) (pc2 := 105) (by decide) (fun hc87 => ?_) (fun hc87 => absurd hc87 (by decide))
   refine g_iload X0 hx (hb hby at_105) (pc' := 107) rfl rfl ?_
   refine g_iconst X0 hx (hb hby at_107) (pc' := 108) rfl (z := 1) rfl ?_
   refine g_icmp_ne X0 hx (hb hby at_108) (pc1 := 111) rfl (by decide) (pc2 := 131) (by decide) (fun hc108 => absurd (by decide) hc108) (fun hc108 => ?_)
   obtain ⟨T1540, h1540, X1540, e1540, E1540, A1540, D1540, -, st1540⟩ := newO X0 hx hZ hown (wd hw 0 rfl) (wd hw 1 rfl) (wd hw 2 rfl) e0 (g := (mkF m 111 #[vI p0, vI p1, vI p2, vI p3, vI p4, vI c0, vI c1, vI c2, vI c3, vI 1, .unset, .unset, .unset, .unset, .unset, .unset] [])) rfl (hb hby at_111) (by decide) (by decide)
   obtain ⟨b1540, g1540⟩ : ∃ z, z = h0.size := ⟨_, rfl⟩
   rw [← g1540] at A1540 D1540 st1540
   have ge1541 : n0 ≤ b1540 := g1540 ▸ Z0
   have f1542 := O.ext E1540
   have Z1543 : n0 ≤ h1540.size := Nat.le_trans Z0 E1540.1
   have f1544 : Fld Z h1540 b1540 "java/lang/String" "coder" "B" (.int 0) := D1540 (Or.inr (wd hw 27 rfl)) (ty := .byte) (by decide)
   have f1545 : Fld Z h1540 b1540 "java/lang/String" "value" "[B" .null := D1540 (Or.inr (wd hw 29 rfl)) (ty := (.array .byte)) (by decide)
   refine Go.movp st1540 (mkF m 114 #[vI p0, vI p1, vI p2, vI p3, vI p4, vI c0, vI c1, vI c2, vI c3, vI 1, .unset, .unset, .unset, .unset, .unset, .unset] [(.ref b1540)]) rfl ?_
   refine g_dup X1540 hx (hb hby at_114) (pc' := 115) rfl rfl ?_
   refine g_iconst X1540 hx (hb hby at_115) (pc' := 116) rfl (z := 1) rfl ?_
   obtain ⟨T1546, h1546, b1546, X1546, e1546, g1546, E1546, V1546, A1546, st1546⟩ := h_newarray X1540 hx hZ e1540 (n := (1 : Int32)) (ty := .char) rfl (wd hw 3 rfl) (hb hby at_116) (k := 1) (cap := 1) (by decide) rfl (by decide) (by decide) (by decide) (by decide) (ad := "[C") (by decide) #[vI p0, vI p1, vI p2, vI p3, vI p4, vI c0, vI c1, vI c2, vI c3, vI 1, .unset, .unset, .unset, .unset, .unset, .unset] [(.ref b1540), (.ref b1540)]
   have ne1547 : b1540 ≠ b1546 := Nat.ne_of_lt (g1546 ▸ A1540.lt)
   have ge1548 : n0 ≤ b1546 := g1546 ▸ Z1543
   have f1549 := f1542.ext E1546
   have f1550 := Exa.ext E1546 A1540
   have f1551 := Fld.ext E1546 f1544
   have f1552 := Fld.ext E1546 f1545
   have Z1553 : n0 ≤ h1546.size := Nat.le_trans Z1543 E1546.1
   have f1554 : Va Z h1546 b1546 .char [(.int 0)] := V1546
   refine Go.movp st1546 (mkF m 118 #[vI p0, vI p1, vI p2, vI p3, vI p4, vI c0, vI c1, vI c2, vI c3, vI 1, .unset, .unset, .unset, .unset, .unset, .unset] [(.ref b1546), (.ref b1540), (.ref b1540)]) rfl ?_
   refine g_dup X1546 hx (hb hby at_118) (pc' := 119) rfl rfl ?_
   refine g_iconst X1546 hx (hb hby at_119) (pc' := 120) rfl (z := 0) rfl ?_
   refine g_iload X1546 hx (hb hby at_120) (pc' := 122) rfl rfl ?_
   obtain ⟨T1555, h1555, L1555, X1555, e1555, N1555, W1555, V1555, st1555⟩ := h_castore X1546 hx hZ e1546 N0 f1554 ge1548 (j := (0 : Int32)) (i := 0) (x := c0) (hb hby at_122) (by decide) rfl rfl #[vI p0, vI p1, vI p2, vI p3, vI p4, vI c0, vI c1, vI c2, vI c3, vI 1, .unset, .unset, .unset, .unset, .unset, .unset] [(.ref b1546), (.ref b1540), (.ref b1540)]
   have f1556 := f1549.wr W1555 ge1548
   have f1557 := Exa.wr W1555 f1550
   have f1558 := Fld.other W1555 f1551 (Or.inl ne1547)
   have f1559 := Fld.other W1555 f1552 (Or.inl ne1547)
   have f1560 := Exa.wr W1555 A1546
   have Z1561 : n0 ≤ h1555.size := Nat.le_trans Z1553 (Keep.of_wr W1555).1
   have f1562 : Va Z h1555 b1546 .char [(.int (chr c0))] := V1555
   have f1563 : Va Z h1555 b1546 .char [(.int c0)] := by rw [show (chr c0) = c0 from hc0] at f1562; exact f1562
   refine Go.movp st1555 (mkF m 123 #[vI p0, vI p1, vI p2, vI p3, vI p4, vI c0, vI c1, vI c2, vI c3, vI 1, .unset, .unset, .unset, .unset, .unset, .unset] [(.ref b1546), (.ref b1540), (.ref b1540)]) rfl ?_
   obtain ⟨v1564, T1564, h1564, L1564, X1564, e1564, N1564, q1564, st1564⟩ := h_special (a := b1540) X1555 hx (W := 1) (Ls := #[vI p0, vI p1, vI p2, vI p3, vI p4, vI c0, vI c1, vI c2, vI c3, vI 1, .unset, .unset, .unset, .unset, .unset, .unset]) (argsL := [(.ref b1546)]) (rest := [(.ref b1540)]) hZ e1555 N1555 hml hown rfl (rm1_1 l Z a0 hw b1540 b1546 c0 cs fv h1555 n0 Z1561 f1559 f1558 f1557 ge1541 f1563 (Ne.symm ne1547) B f1556 hc0) (wd hw 4 rfl) (wd hw 5 rfl) (wd hw 2 rfl) (wd hw 6 rfl) (by decide) pd___C_V rfl rfl (hb hby at_123) rfl (by decide) (by decide) (by decide) (by decide)
   obtain ⟨rfl, K1564, r1564, sz1564, U1564⟩ := q1564
   have f1565 := f1556.keep K1564 (allS ge1541 all0)
   have f1566 := f1557.keep K1564
   have f1567 := f1560.keep K1564
   have f1568 := f1563.keep K1564 (ninS (Ne.symm ne1547) nin0)
   have Z1569 : n0 ≤ h1564.size := Nat.le_trans Z1561 K1564.1
   refine Go.movp st1564 (mkF m 126 #[vI p0, vI p1, vI p2, vI p3, vI p4, vI c0, vI c1, vI c2, vI c3, vI 1, .unset, .unset, .unset, .unset, .unset, .unset] [(.ref b1540)]) rfl ?_
   refine g_astore X1564 hx (hb hby at_126) (pc' := 128) rfl rfl (Ls' := #[vI p0, vI p1, vI p2, vI p3, vI p4, vI c0, vI c1, vI c2, vI c3, vI 1, vR b1540, .unset, .unset, .unset, .unset, .unset]) rfl ?_
   refine g_goto X1564 hx (hb hby at_128) (by decide) (pc' := 230) (by decide) ?_
   refine g_iconst X1564 hx (hb hby at_230) (pc' := 231) rfl (z := 4) rfl ?_
   obtain ⟨T1570, h1570, b1570, X1570, e1570, g1570, E1570, V1570, A1570, st1570⟩ := h_newarray X1564 hx hZ e1564 (n := (4 : Int32)) (ty := .char) rfl (wd hw 3 rfl) (hb hby at_231) (k := 4) (cap := 4) (by decide) rfl (by decide) (by decide) (by decide) (by decide) (ad := "[C") (by decide) #[vI p0, vI p1, vI p2, vI p3, vI p4, vI c0, vI c1, vI c2, vI c3, vI 1, vR b1540, .unset, .unset, .unset, .unset, .unset] []
   have ne1571 : b1540 ≠ b1570 := Nat.ne_of_lt (g1570 ▸ U1564.lt)
   have ne1572 : r1564 ≠ b1570 := Nat.ne_of_lt (g1570 ▸ (Str.lb U1564).lt)
   have ge1573 : n0 ≤ b1570 := g1570 ▸ Z1569
   have f1574 := f1565.ext E1570
   have f1575 := U1564.ext E1570
   have Z1576 : n0 ≤ h1570.size := Nat.le_trans Z1569 E1570.1
   have f1577 : Va Z h1570 b1570 .char [(.int 0), (.int 0), (.int 0), (.int 0)] := V1570
   refine Go.movp st1570 (mkF m 233 #[vI p0, vI p1, vI p2, vI p3, vI p4, vI c0, vI c1, vI c2, vI c3, vI 1, vR b1540, .unset, .unset, .unset, .unset, .unset] [(.ref b1570)]) rfl ?_
   refine g_dup X1570 hx (hb hby at_233) (pc' := 234) rfl rfl ?_
   refine g_iconst X1570 hx (hb hby at_234) (pc' := 235) rfl (z := 0) rfl ?_
   refine g_iload X1570 hx (hb hby at_235) (pc' := 237) rfl rfl ?_
   obtain ⟨T1578, h1578, L1578, X1578, e1578, N1578, W1578, V1578, st1578⟩ := h_castore X1570 hx hZ e1570 N1564 f1577 ge1573 (j := (0 : Int32)) (i := 0) (x := c0) (hb hby at_237) (by decide) rfl rfl #[vI p0, vI p1, vI p2, vI p3, vI p4, vI c0, vI c1, vI c2, vI c3, vI 1, vR b1540, .unset, .unset, .unset, .unset, .unset] [(.ref b1570)]
   have f1579 := f1574.wr W1578 ge1573
   have f1580 := f1575.wr W1578 ne1571 ne1572
   have f1581 := Exa.wr W1578 A1570
   have Z1582 : n0 ≤ h1578.size := Nat.le_trans Z1576 (Keep.of_wr W1578).1
   have f1583 : Va Z h1578 b1570 .char [(.int (chr c0)), (.int 0), (.int 0), (.int 0)] := V1578
   have f1584 : Va Z h1578 b1570 .char [(.int c0), (.int 0), (.int 0), (.int 0)] := by rw [show (chr c0) = c0 from hc0] at f1583; exact f1583
   refine Go.movp st1578 (mkF m 238 #[vI p0, vI p1, vI p2, vI p3, vI p4, vI c0, vI c1, vI c2, vI c3, vI 1, vR b1540, .unset, .unset, .unset, .unset, .unset] [(.ref b1570)]) rfl ?_
   refine g_dup X1578 hx (hb hby at_238) (pc' := 239) rfl rfl ?_
   refine g_iconst X1578 hx (hb hby at_239) (pc' := 240) rfl (z := 1) rfl ?_
   refine g_iload X1578 hx (hb hby at_240) (pc' := 242) rfl rfl ?_
   obtain ⟨T1585, h1585, L1585, X1585, e1585, N1585, W1585, V1585, st1585⟩ := h_castore X1578 hx hZ e1578 N1578 f1584 ge1573 (j := (1 : Int32)) (i := 1) (x := c1) (hb hby at_242) (by decide) rfl rfl #[vI p0, vI p1, vI p2, vI p3, vI p4, vI c0, vI c1, vI c2, vI c3, vI 1, vR b1540, .unset, .unset, .unset, .unset, .unset] [(.ref b1570)]
   have f1586 := f1579.wr W1585 ge1573
   have f1587 := f1580.wr W1585 ne1571 ne1572
   have f1588 := Exa.wr W1585 f1581
   have Z1589 : n0 ≤ h1585.size := Nat.le_trans Z1582 (Keep.of_wr W1585).1
   have f1590 : Va Z h1585 b1570 .char [(.int c0), (.int (chr c1)), (.int 0), (.int 0)] := V1585
   have f1591 : Va Z h1585 b1570 .char [(.int c0), (.int c1), (.int 0), (.int 0)] := by rw [show (chr c1) = c1 from hc1] at f1590; exact f1590
   refine Go.movp st1585 (mkF m 243 #[vI p0, vI p1, vI p2, vI p3, vI p4, vI c0, vI c1, vI c2, vI c3, vI 1, vR b1540, .unset, .unset, .unset, .unset, .unset] [(.ref b1570)]) rfl ?_
   refine g_dup X1585 hx (hb hby at_243) (pc' := 244) rfl rfl ?_
   refine g_iconst X1585 hx (hb hby at_244) (pc' := 245) rfl (z := 2) rfl ?_
   refine g_iload X1585 hx (hb hby at_245) (pc' := 247) rfl rfl ?_
   obtain ⟨T1592, h1592, L1592, X1592, e1592, N1592, W1592, V1592, st1592⟩ := h_castore X1585 hx hZ e1585 N1585 f1591 ge1573 (j := (2 : Int32)) (i := 2) (x := c2) (hb hby at_247) (by decide) rfl rfl #[vI p0, vI p1, vI p2, vI p3, vI p4, vI c0, vI c1, vI c2, vI c3, vI 1, vR b1540, .unset, .unset, .unset, .unset, .unset] [(.ref b1570)]
   have f1593 := f1586.wr W1592 ge1573
   have f1594 := f1587.wr W1592 ne1571 ne1572
   have f1595 := Exa.wr W1592 f1588
   have Z1596 : n0 ≤ h1592.size := Nat.le_trans Z1589 (Keep.of_wr W1592).1
   have f1597 : Va Z h1592 b1570 .char [(.int c0), (.int c1), (.int (chr c2)), (.int 0)] := V1592
   have f1598 : Va Z h1592 b1570 .char [(.int c0), (.int c1), (.int c2), (.int 0)] := by rw [show (chr c2) = c2 from hc2] at f1597; exact f1597
   refine Go.movp st1592 (mkF m 248 #[vI p0, vI p1, vI p2, vI p3, vI p4, vI c0, vI c1, vI c2, vI c3, vI 1, vR b1540, .unset, .unset, .unset, .unset, .unset] [(.ref b1570)]) rfl ?_
   refine g_dup X1592 hx (hb hby at_248) (pc' := 249) rfl rfl ?_
   refine g_iconst X1592 hx (hb hby at_249) (pc' := 250) rfl (z := 3) rfl ?_
   refine g_iload X1592 hx (hb hby at_250) (pc' := 252) rfl rfl ?_
   obtain ⟨T1599, h1599, L1599, X1599, e1599, N1599, W1599, V1599, st1599⟩ := h_castore X1592 hx hZ e1592 N1592 f1598 ge1573 (j := (3 : Int32)) (i := 3) (x := c3) (hb hby at_252) (by decide) rfl rfl #[vI p0, vI p1, vI p2, vI p3, vI p4, vI c0, vI c1, vI c2, vI c3, vI 1, vR b1540, .unset, .unset, .unset, .unset, .unset] [(.ref b1570)]
   have f1600 := f1593.wr W1599 ge1573
   have f1601 := f1594.wr W1599 ne1571 ne1572
   have f1602 := Exa.wr W1599 f1595
   have Z1603 : n0 ≤ h1599.size := Nat.le_trans Z1596 (Keep.of_wr W1599).1
   have f1604 : Va Z h1599 b1570 .char [(.int c0), (.int c1), (.int c2), (.int (chr c3))] := V1599
   have f1605 : Va Z h1599 b1570 .char [(.int c0), (.int c1), (.int c2), (.int c3)] := by rw [show (chr c3) = c3 from hc3] at f1604; exact f1604
   refine Go.movp st1599 (mkF m 253 #[vI p0, vI p1, vI p2, vI p3, vI p4, vI c0, vI c1, vI c2, vI c3, vI 1, vR b1540, .unset, .unset, .unset, .unset, .unset] [(.ref b1570)]) rfl ?_
   refine g_astore X1599 hx (hb hby at_253) (pc' := 255) rfl rfl (Ls' := #[vI p0, vI p1, vI p2, vI p3, vI p4, vI c0, vI c1, vI c2, vI c3, vI 1, vR b1540, vR b1570, .unset, .unset, .unset, .unset]) rfl ?_
   refine g_iloadN X1599 hx (hb hby at_255) (pc' := 256) rfl rfl ?_
   refine g_i2c X1599 hx (hb hby at_256) (pc' := 257) rfl ?_
   obtain ⟨dq, edq⟩ : ∃ z : Int32, z = (chr p3) := ⟨_, rfl⟩
   refine Go.cast (show (mkF m 257 #[vI p0, vI p1, vI p2, vI p3, vI p4, vI c0, vI c1, vI c2, vI c3, vI 1, vR b1540, vR b1570, .unset, .unset, .unset, .unset] [(.int (chr p3))]) = (mkF m 257 #[vI p0, vI p1, vI p2, vI p3, vI p4, vI c0, vI c1, vI c2, vI c3, vI 1, vR b1540, vR b1570, .unset, .unset, .unset, .unset] [(.int dq)]) from by rw [edq]) ?_
   refine g_istore X1599 hx (hb hby at_257) (pc' := 259) rfl (Ls' := #[vI p0, vI p1, vI p2, vI p3, vI p4, vI c0, vI c1, vI c2, vI c3, vI 1, vR b1540, vR b1570, vI dq, .unset, .unset, .unset]) rfl ?_
   have hdq : chr dq = dq := by rw [edq]; exact chr_chr _
   have J1606 : ∀ (d : Int32) (hd : chr d = d), Go p e below (EndW s room_1.cells room_1.slots) n0 (Q0 Z p0 p1 p2 p3 p4 cs fv h0 n0) T1599 (mkF m 303 #[vI p0, vI p1, vI p2, vI p3, vI p4, vI c0, vI c1, vI c2, vI c3, vI 1, vR b1540, vR b1570, vI d, .unset, .unset, .unset] []) := by
    intro  d hd
    obtain ⟨T1607, h1607, X1607, e1607, E1607, A1607, D1607, -, st1607⟩ := newO X1599 hx hZ hown (wd hw 30 rfl) (wd hw 31 rfl) (wd hw 32 rfl) e1599 (g := (mkF m 303 #[vI p0, vI p1, vI p2, vI p3, vI p4, vI c0, vI c1, vI c2, vI c3, vI 1, vR b1540, vR b1570, vI d, .unset, .unset, .unset] [])) rfl (hb hby at_303) (by decide) (by decide)
    obtain ⟨b1607, g1607⟩ : ∃ z, z = h1599.size := ⟨_, rfl⟩
    rw [← g1607] at A1607 D1607 st1607
    have ne1608 : b1540 ≠ b1607 := Nat.ne_of_lt (g1607 ▸ f1601.lt)
    have ne1609 : r1564 ≠ b1607 := Nat.ne_of_lt (g1607 ▸ (Str.lb f1601).lt)
    have ne1610 : b1570 ≠ b1607 := Nat.ne_of_lt (g1607 ▸ f1602.lt)
    have ge1611 : n0 ≤ b1607 := g1607 ▸ Z1603
    have f1612 := f1600.ext E1607
    have f1613 := f1601.ext E1607
    have f1614 := Exa.ext E1607 f1602
    have f1615 := f1605.ext E1607
    have Z1616 : n0 ≤ h1607.size := Nat.le_trans Z1603 E1607.1
    have f1617 : Fld Z h1607 b1607 "com/example/needlework/needlework/LastOccurrence" "pages" "[[I" .null := D1607 (Or.inr (wd hw 40 rfl)) (ty := (.array (.array .int))) (by decide)
    refine Go.movp st1607 (mkF m 306 #[vI p0, vI p1, vI p2, vI p3, vI p4, vI c0, vI c1, vI c2, vI c3, vI 1, vR b1540, vR b1570, vI d, .unset, .unset, .unset] [(.ref b1607)]) rfl ?_
    refine g_dup X1607 hx (hb hby at_306) (pc' := 307) rfl rfl ?_
    refine g_aload X1607 hx (hb hby at_307) (pc' := 309) rfl rfl rfl ?_
    obtain ⟨v1618, T1618, h1618, L1618, X1618, e1618, N1618, q1618, st1618⟩ := h_special (a := b1607) X1607 hx (W := 1) (Ls := #[vI p0, vI p1, vI p2, vI p3, vI p4, vI c0, vI c1, vI c2, vI c3, vI 1, vR b1540, vR b1570, vI d, .unset, .unset, .unset]) (argsL := [(.ref b1540)]) (rest := [(.ref b1607)]) hZ e1607 N1599 hml hown rfl (rm7_1 l Z a0 hw b1607 b1540 r1564 c0 cs fv h1607 n0 Z1616 f1617 A1607 ge1611 f1613 ne1608 ne1609 B f1612 hc0) (wd hw 33 rfl) (wd hw 34 rfl) (wd hw 32 rfl) (wd hw 35 rfl) (by decide) pd__Ljava_lang_CharSequence__V rfl rfl (hb hby at_309) rfl (by decide) (by decide) (by decide) (by decide)
    obtain ⟨rfl, K1618, pa1618, cc1618, F1618, A1618, G1618⟩ := q1618
    have f1619 := f1612.keep K1618 (allS ge1611 all0)
    have f1620 := f1613.keep K1618 (ninS ne1608 nin0) (ninS ne1609 nin0)
    have f1621 := f1614.keep K1618
    have f1622 := f1615.keep K1618 (ninS ne1610 nin0)
    have f1623 := A1607.keep K1618
    have Z1624 : n0 ≤ h1618.size := Nat.le_trans Z1616 K1618.1
    refine Go.movp st1618 (mkF m 312 #[vI p0, vI p1, vI p2, vI p3, vI p4, vI c0, vI c1, vI c2, vI c3, vI 1, vR b1540, vR b1570, vI d, .unset, .unset, .unset] [(.ref b1607)]) rfl ?_
    refine g_astore X1618 hx (hb hby at_312) (pc' := 314) rfl rfl (Ls' := #[vI p0, vI p1, vI p2, vI p3, vI p4, vI c0, vI c1, vI c2, vI c3, vI 1, vR b1540, vR b1570, vI d, vR b1607, .unset, .unset]) rfl ?_
    refine g_aload X1618 hx (hb hby at_314) (pc' := 316) rfl rfl rfl ?_
    refine g_iload X1618 hx (hb hby at_316) (pc' := 318) rfl rfl ?_
    obtain ⟨v1625, T1625, h1625, L1625, X1625, e1625, N1625, q1625, st1625⟩ := h_virtual (a := b1607) (z := (⟨"com/example/needlework/needlework/LastOccurrence", "of", "(C)I"⟩ : MethodName)) X1618 hx (W := 0) (Ls := #[vI p0, vI p1, vI p2, vI p3, vI p4, vI c0, vI c1, vI c2, vI c3, vI 1, vR b1540, vR b1570, vI d, vR b1607, .unset, .unset]) (argsL := [(.int d)]) (rest := []) hZ e1618 N1618 hml hown (rm16 l Z a0 hw b1607 pa1618 d cc1618 (updM (fun _ => -1) (cn c0) (0 : Int32)) _ _ h1618 n0 Z1624 F1618 G1618 hd) A1618 (wd hw 86 rfl) (wd hw 87 rfl) (notFace_of_selects (args := #[]) (mvT hZ (wd hw 89 rfl))) (wd hw 89 rfl) (wd hw 88 rfl) (wd hw 32 rfl) (wd hw 90 rfl) (by decide) pd__C_I rfl rfl (hb hby at_318) rfl (by decide) (by decide) (by decide) (by decide)
    obtain ⟨rfl, rfl⟩ := q1625
    refine Go.movp st1625 (mkF m 321 #[vI p0, vI p1, vI p2, vI p3, vI p4, vI c0, vI c1, vI c2, vI c3, vI 1, vR b1540, vR b1570, vI d, vR b1607, .unset, .unset] [(.int ((updM (fun _ => -1) (cn c0) (0 : Int32)) (cn d)))]) rfl ?_
    refine g_istore X1625 hx (hb hby at_321) (pc' := 323) rfl (Ls' := #[vI p0, vI p1, vI p2, vI p3, vI p4, vI c0, vI c1, vI c2, vI c3, vI 1, vR b1540, vR b1570, vI d, vR b1607, vI ((updM (fun _ => -1) (cn c0) (0 : Int32)) (cn d)), .unset]) rfl ?_
    refine g_iconst X1625 hx (hb hby at_323) (pc' := 324) rfl (z := (-1 : Int32)) rfl ?_
    refine g_istore X1625 hx (hb hby at_324) (pc' := 326) rfl (Ls' := #[vI p0, vI p1, vI p2, vI p3, vI p4, vI c0, vI c1, vI c2, vI c3, vI 1, vR b1540, vR b1570, vI d, vR b1607, vI ((updM (fun _ => -1) (cn c0) (0 : Int32)) (cn d)), vI (-1 : Int32)]) rfl ?_
    have J1626 : ∀ (wt : Int32) (hwt : (updM (fun _ => -1) (cn c0) (0 : Int32)) (cn d) = wt), Go p e below (EndW s room_1.cells room_1.slots) n0 (Q0 Z p0 p1 p2 p3 p4 cs fv h0 n0) T1625 (mkF m 341 #[vI p0, vI p1, vI p2, vI p3, vI p4, vI c0, vI c1, vI c2, vI c3, vI 1, vR b1540, vR b1570, vI d, vR b1607, vI ((updM (fun _ => -1) (cn c0) (0 : Int32)) (cn d)), vI wt] []) := by
     intro  wt hwt
     refine g_iload X1625 hx (hb hby at_341) (pc' := 343) rfl rfl ?_
     refine g_iconst X1625 hx (hb hby at_343) (pc' := 344) rfl (z := 1) rfl ?_
     refine g_icmp_le X1625 hx (hb hby at_344) (pc1 := 347) rfl (by decide) (pc2 := 357) (by decide) (fun hc344 => ?_) (fun hc344 => absurd hc344 (by decide))
     refine g_iload X1625 hx (hb hby at_357) (pc' := 359) rfl rfl ?_
     refine g_iconst X1625 hx (hb hby at_359) (pc' := 360) rfl (z := 2) rfl ?_
     refine g_icmp_le X1625 hx (hb hby at_360) (pc1 := 363) rfl (by decide) (pc2 := 373) (by decide) (fun hc360 => ?_) (fun hc360 => absurd hc360 (by decide))
     refine g_iload X1625 hx (hb hby at_373) (pc' := 375) rfl rfl ?_
     refine g_iconst X1625 hx (hb hby at_375) (pc' := 376) rfl (z := 3) rfl ?_
     refine g_icmp_le X1625 hx (hb hby at_376) (pc1 := 379) rfl (by decide) (pc2 := 389) (by decide) (fun hc376 => ?_) (fun hc376 => absurd hc376 (by decide))
     refine g_iload X1625 hx (hb hby at_389) (pc' := 391) rfl rfl ?_
     refine g_iload X1625 hx (hb hby at_391) (pc' := 393) rfl rfl ?_
     refine g_icmp_ne X1625 hx (hb hby at_393) (pc1 := 396) rfl (by decide) (pc2 := 400) (by decide) (fun hc393 => absurd hwt hc393) (fun hc393 => ?_)
     refine g_iconst X1625 hx (hb hby at_396) (pc' := 397) rfl (z := 1) rfl ?_
     refine g_goto X1625 hx (hb hby at_397) (by decide) (pc' := 401) (by decide) ?_
     exact g_zreturn X1625 hx rfl hret (hb hby at_401) N1625 hlk (fun v t => endW (vm0 := s.vm) ((State.WarmedH.refl s).since 0) (Nat.zero_le _) (by decide) (by decide) v) (by rw [e1625]; exact rfl)
    refine g_iload X1625 hx (hb hby at_326) (pc' := 328) rfl rfl ?_
    refine g_if_le X1625 hx (hb hby at_328) (pc1 := 331) rfl (by decide) (pc2 := 341) (by decide) (fun hc328 => absurd (by decide) hc328) (fun hc328 => ?_)
    refine g_iload X1625 hx (hb hby at_331) (pc' := 333) rfl rfl ?_
    refine g_iload X1625 hx (hb hby at_333) (pc' := 335) rfl rfl ?_
    refine g_icmp_ne X1625 hx (hb hby at_335) (pc1 := 338) rfl (by decide) (pc2 := 341) (by decide) (fun hc335 => ?_) (fun hc335 => ?_)
    ·
     exact J1626  (-1 : Int32) ((updM_no hc0 hd hc335).trans rfl)
    ·
     refine g_iconst X1625 hx (hb hby at_338) (pc' := 339) rfl (z := 0) rfl ?_
     refine g_istore X1625 hx (hb hby at_339) (pc' := 341) rfl (Ls' := #[vI p0, vI p1, vI p2, vI p3, vI p4, vI c0, vI c1, vI c2, vI c3, vI 1, vR b1540, vR b1570, vI d, vR b1607, vI ((updM (fun _ => -1) (cn c0) (0 : Int32)) (cn d)), vI 0]) rfl ?_
     exact J1626  (0 : Int32) (updM_yes hc335)
   have J1627 : ∀ (dx : Int32) (hdx : chr dx = dx), Go p e below (EndW s room_1.cells room_1.slots) n0 (Q0 Z p0 p1 p2 p3 p4 cs fv h0 n0) T1599 (mkF m 277 #[vI p0, vI p1, vI p2, vI p3, vI p4, vI c0, vI c1, vI c2, vI c3, vI 1, vR b1540, vR b1570, vI dx, .unset, .unset, .unset] []) := by
    intro  dx hdx
    refine g_iload X1599 hx (hb hby at_277) (pc' := 279) rfl rfl ?_
    refine g_bipush X1599 hx (hb hby at_279) (pc' := 281) rfl (z := 8) rfl ?_
    refine g_iand X1599 hx (hb hby at_281) (pc' := 282) rfl ?_
    refine g_if_eq X1599 hx (hb hby at_282) (pc1 := 285) rfl (by decide) (pc2 := 303) (by decide) (fun hc282 => ?_) (fun hc282 => ?_)
    ·
     exact J1606  dx hdx
    ·
     refine g_iload X1599 hx (hb hby at_285) (pc' := 287) rfl rfl ?_
     refine g_ldc X1599 hx hZ hown (wd hw 91 rfl) (hb hby at_287) (pc' := 289) rfl ?_
     refine g_iand X1599 hx (hb hby at_289) (pc' := 290) rfl ?_
     refine g_iload X1599 hx (hb hby at_290) (pc' := 292) rfl rfl ?_
     refine g_bipush X1599 hx (hb hby at_292) (pc' := 294) rfl (z := 8) rfl ?_
     refine g_iushr X1599 hx (hb hby at_294) (pc' := 295) rfl ?_
     refine g_sipush X1599 hx (hb hby at_295) (pc' := 298) rfl (z := 255) rfl ?_
     refine g_iand X1599 hx (hb hby at_298) (pc' := 299) rfl ?_
     refine g_ior X1599 hx (hb hby at_299) (pc' := 300) rfl ?_
     refine g_i2c X1599 hx (hb hby at_300) (pc' := 301) rfl ?_
     refine g_istore X1599 hx (hb hby at_301) (pc' := 303) rfl (Ls' := #[vI p0, vI p1, vI p2, vI p3, vI p4, vI c0, vI c1, vI c2, vI c3, vI 1, vR b1540, vR b1570, vI (chr ((dx &&& (65280 : Int32)) ||| ((ushr p4 (8 : Int32)) &&& (255 : Int32)))), .unset, .unset, .unset]) rfl ?_
     exact J1606  (chr ((dx &&& (65280 : Int32)) ||| ((ushr p4 (8 : Int32)) &&& (255 : Int32)))) (chr_chr _)
   refine g_iload X1599 hx (hb hby at_259) (pc' := 261) rfl rfl ?_
   refine g_iconst X1599 hx (hb hby at_261) (pc' := 262) rfl (z := 1) rfl ?_
   refine g_iand X1599 hx (hb hby at_262) (pc' := 263) rfl ?_
   refine g_if_eq X1599 hx (hb hby at_263) (pc1 := 266) rfl (by decide) (pc2 := 277) (by decide) (fun hc263 => ?_) (fun hc263 => ?_)
   ·
    exact J1627  dq hdq
   ·
    refine g_aload X1599 hx (hb hby at_266) (pc' := 268) rfl rfl rfl ?_
    refine g_iload X1599 hx (hb hby at_268) (pc' := 270) rfl rfl ?_
    refine g_iconst X1599 hx (hb hby at_270) (pc' := 271) rfl (z := 1) rfl ?_
    refine g_iushr X1599 hx (hb hby at_271) (pc' := 272) rfl ?_
    refine g_iconst X1599 hx (hb hby at_272) (pc' := 273) rfl (z := 3) rfl ?_
    refine g_iand X1599 hx (hb hby at_273) (pc' := 274) rfl ?_
    rcases own_and3 (ushr p4 (1 : Int32)) with q3 | q3 | q3 | q3
    ·
     refine Go.cast (show (mkF m 274 #[vI p0, vI p1, vI p2, vI p3, vI p4, vI c0, vI c1, vI c2, vI c3, vI 1, vR b1540, vR b1570, vI dq, .unset, .unset, .unset] [(.int ((ushr p4 (1 : Int32)) &&& (3 : Int32))), (.ref b1570)]) = (mkF m 274 #[vI p0, vI p1, vI p2, vI p3, vI p4, vI c0, vI c1, vI c2, vI c3, vI 1, vR b1540, vR b1570, vI dq, .unset, .unset, .unset] [(.int 0), (.ref b1570)]) from by rw [show ((ushr p4 (1 : Int32)) &&& (3 : Int32)) = (0 : Int32) from q3]) ?_
     refine g_caload X1599 hx hZ e1599 f1605 (i := 0) (v := (.int c0)) (hb hby at_274) (pc' := 275) rfl (by decide) rfl rfl ?_
     refine g_istore X1599 hx (hb hby at_275) (pc' := 277) rfl (Ls' := #[vI p0, vI p1, vI p2, vI p3, vI p4, vI c0, vI c1, vI c2, vI c3, vI 1, vR b1540, vR b1570, vI c0, .unset, .unset, .unset]) rfl ?_
     exact J1627  c0 hc0
    ·
     refine Go.cast (show (mkF m 274 #[vI p0, vI p1, vI p2, vI p3, vI p4, vI c0, vI c1, vI c2, vI c3, vI 1, vR b1540, vR b1570, vI dq, .unset, .unset, .unset] [(.int ((ushr p4 (1 : Int32)) &&& (3 : Int32))), (.ref b1570)]) = (mkF m 274 #[vI p0, vI p1, vI p2, vI p3, vI p4, vI c0, vI c1, vI c2, vI c3, vI 1, vR b1540, vR b1570, vI dq, .unset, .unset, .unset] [(.int 1), (.ref b1570)]) from by rw [show ((ushr p4 (1 : Int32)) &&& (3 : Int32)) = (1 : Int32) from q3]) ?_
     refine g_caload X1599 hx hZ e1599 f1605 (i := 1) (v := (.int c1)) (hb hby at_274) (pc' := 275) rfl (by decide) rfl rfl ?_
     refine g_istore X1599 hx (hb hby at_275) (pc' := 277) rfl (Ls' := #[vI p0, vI p1, vI p2, vI p3, vI p4, vI c0, vI c1, vI c2, vI c3, vI 1, vR b1540, vR b1570, vI c1, .unset, .unset, .unset]) rfl ?_
     exact J1627  c1 hc1
    ·
     refine Go.cast (show (mkF m 274 #[vI p0, vI p1, vI p2, vI p3, vI p4, vI c0, vI c1, vI c2, vI c3, vI 1, vR b1540, vR b1570, vI dq, .unset, .unset, .unset] [(.int ((ushr p4 (1 : Int32)) &&& (3 : Int32))), (.ref b1570)]) = (mkF m 274 #[vI p0, vI p1, vI p2, vI p3, vI p4, vI c0, vI c1, vI c2, vI c3, vI 1, vR b1540, vR b1570, vI dq, .unset, .unset, .unset] [(.int 2), (.ref b1570)]) from by rw [show ((ushr p4 (1 : Int32)) &&& (3 : Int32)) = (2 : Int32) from q3]) ?_
     refine g_caload X1599 hx hZ e1599 f1605 (i := 2) (v := (.int c2)) (hb hby at_274) (pc' := 275) rfl (by decide) rfl rfl ?_
     refine g_istore X1599 hx (hb hby at_275) (pc' := 277) rfl (Ls' := #[vI p0, vI p1, vI p2, vI p3, vI p4, vI c0, vI c1, vI c2, vI c3, vI 1, vR b1540, vR b1570, vI c2, .unset, .unset, .unset]) rfl ?_
     exact J1627  c2 hc2
    ·
     refine Go.cast (show (mkF m 274 #[vI p0, vI p1, vI p2, vI p3, vI p4, vI c0, vI c1, vI c2, vI c3, vI 1, vR b1540, vR b1570, vI dq, .unset, .unset, .unset] [(.int ((ushr p4 (1 : Int32)) &&& (3 : Int32))), (.ref b1570)]) = (mkF m 274 #[vI p0, vI p1, vI p2, vI p3, vI p4, vI c0, vI c1, vI c2, vI c3, vI 1, vR b1540, vR b1570, vI dq, .unset, .unset, .unset] [(.int 3), (.ref b1570)]) from by rw [show ((ushr p4 (1 : Int32)) &&& (3 : Int32)) = (3 : Int32) from q3]) ?_
     refine g_caload X1599 hx hZ e1599 f1605 (i := 3) (v := (.int c3)) (hb hby at_274) (pc' := 275) rfl (by decide) rfl rfl ?_
     refine g_istore X1599 hx (hb hby at_275) (pc' := 277) rfl (Ls' := #[vI p0, vI p1, vI p2, vI p3, vI p4, vI c0, vI c1, vI c2, vI c3, vI 1, vR b1540, vR b1570, vI c3, .unset, .unset, .unset]) rfl ?_
     exact J1627  c3 hc3
  ·
   refine Go.cast (show (mkF m 83 #[vI p0, vI p1, vI p2, vI p3, vI p4, vI c0, vI c1, vI c2, vI c3, .unset, .unset, .unset, .unset, .unset, .unset, .unset] [(.int ((p2 &&& (7 : Int32)) % (5 : Int32)))]) = (mkF m 83 #[vI p0, vI p1, vI p2, vI p3, vI p4, vI c0, vI c1, vI c2, vI c3, .unset, .unset, .unset, .unset, .unset, .unset, .unset] [(.int 2)]) from by rw [show ((p2 &&& (7 : Int32)) % (5 : Int32)) = (2 : Int32) from ql]) ?_
   refine g_istore X0 hx (hb hby at_83) (pc' := 85) rfl (Ls' := #[vI p0, vI p1, vI p2, vI p3, vI p4, vI c0, vI c1, vI c2, vI c3, vI 2, .unset, .unset, .unset, .unset, .unset, .unset]) rfl ?_
   refine g_iload X0 hx (hb hby at_85) (pc' := 87) rfl rfl ?_
   refine g_if_ne X0 hx (hb hby at_87) (pc1 := 90) rfl (by decide) (pc2 := 105) (by decide) (fun hc87 => ?_) (fun hc87 => absurd hc87 (by decide))
   refine g_iload X0 hx (hb hby at_105) (pc' := 107) rfl rfl ?_
   refine g_iconst X0 hx (hb hby at_107) (pc' := 108) rfl (z := 1) rfl ?_
   refine g_icmp_ne X0 hx (hb hby at_108) (pc1 := 111) rfl (by decide) (pc2 := 131) (by decide) (fun hc108 => ?_) (fun hc108 => absurd hc108 (by decide))
   refine g_iload X0 hx (hb hby at_131) (pc' := 133) rfl rfl ?_
   refine g_iconst X0 hx (hb hby at_133) (pc' := 134) rfl (z := 2) rfl ?_
   refine g_icmp_ne X0 hx (hb hby at_134) (pc1 := 137) rfl (by decide) (pc2 := 162) (by decide) (fun hc134 => absurd (by decide) hc134) (fun hc134 => ?_)
   obtain ⟨T1628, h1628, X1628, e1628, E1628, A1628, D1628, -, st1628⟩ := newO X0 hx hZ hown (wd hw 0 rfl) (wd hw 1 rfl) (wd hw 2 rfl) e0 (g := (mkF m 137 #[vI p0, vI p1, vI p2, vI p3, vI p4, vI c0, vI c1, vI c2, vI c3, vI 2, .unset, .unset, .unset, .unset, .unset, .unset] [])) rfl (hb hby at_137) (by decide) (by decide)
   obtain ⟨b1628, g1628⟩ : ∃ z, z = h0.size := ⟨_, rfl⟩
   rw [← g1628] at A1628 D1628 st1628
   have ge1629 : n0 ≤ b1628 := g1628 ▸ Z0
   have f1630 := O.ext E1628
   have Z1631 : n0 ≤ h1628.size := Nat.le_trans Z0 E1628.1
   have f1632 : Fld Z h1628 b1628 "java/lang/String" "coder" "B" (.int 0) := D1628 (Or.inr (wd hw 27 rfl)) (ty := .byte) (by decide)
   have f1633 : Fld Z h1628 b1628 "java/lang/String" "value" "[B" .null := D1628 (Or.inr (wd hw 29 rfl)) (ty := (.array .byte)) (by decide)
   refine Go.movp st1628 (mkF m 140 #[vI p0, vI p1, vI p2, vI p3, vI p4, vI c0, vI c1, vI c2, vI c3, vI 2, .unset, .unset, .unset, .unset, .unset, .unset] [(.ref b1628)]) rfl ?_
   refine g_dup X1628 hx (hb hby at_140) (pc' := 141) rfl rfl ?_
   refine g_iconst X1628 hx (hb hby at_141) (pc' := 142) rfl (z := 2) rfl ?_
   obtain ⟨T1634, h1634, b1634, X1634, e1634, g1634, E1634, V1634, A1634, st1634⟩ := h_newarray X1628 hx hZ e1628 (n := (2 : Int32)) (ty := .char) rfl (wd hw 3 rfl) (hb hby at_142) (k := 2) (cap := 2) (by decide) rfl (by decide) (by decide) (by decide) (by decide) (ad := "[C") (by decide) #[vI p0, vI p1, vI p2, vI p3, vI p4, vI c0, vI c1, vI c2, vI c3, vI 2, .unset, .unset, .unset, .unset, .unset, .unset] [(.ref b1628), (.ref b1628)]
   have ne1635 : b1628 ≠ b1634 := Nat.ne_of_lt (g1634 ▸ A1628.lt)
   have ge1636 : n0 ≤ b1634 := g1634 ▸ Z1631
   have f1637 := f1630.ext E1634
   have f1638 := Exa.ext E1634 A1628
   have f1639 := Fld.ext E1634 f1632
   have f1640 := Fld.ext E1634 f1633
   have Z1641 : n0 ≤ h1634.size := Nat.le_trans Z1631 E1634.1
   have f1642 : Va Z h1634 b1634 .char [(.int 0), (.int 0)] := V1634
   refine Go.movp st1634 (mkF m 144 #[vI p0, vI p1, vI p2, vI p3, vI p4, vI c0, vI c1, vI c2, vI c3, vI 2, .unset, .unset, .unset, .unset, .unset, .unset] [(.ref b1634), (.ref b1628), (.ref b1628)]) rfl ?_
   refine g_dup X1634 hx (hb hby at_144) (pc' := 145) rfl rfl ?_
   refine g_iconst X1634 hx (hb hby at_145) (pc' := 146) rfl (z := 0) rfl ?_
   refine g_iload X1634 hx (hb hby at_146) (pc' := 148) rfl rfl ?_
   obtain ⟨T1643, h1643, L1643, X1643, e1643, N1643, W1643, V1643, st1643⟩ := h_castore X1634 hx hZ e1634 N0 f1642 ge1636 (j := (0 : Int32)) (i := 0) (x := c0) (hb hby at_148) (by decide) rfl rfl #[vI p0, vI p1, vI p2, vI p3, vI p4, vI c0, vI c1, vI c2, vI c3, vI 2, .unset, .unset, .unset, .unset, .unset, .unset] [(.ref b1634), (.ref b1628), (.ref b1628)]
   have f1644 := f1637.wr W1643 ge1636
   have f1645 := Exa.wr W1643 f1638
   have f1646 := Fld.other W1643 f1639 (Or.inl ne1635)
   have f1647 := Fld.other W1643 f1640 (Or.inl ne1635)
   have f1648 := Exa.wr W1643 A1634
   have Z1649 : n0 ≤ h1643.size := Nat.le_trans Z1641 (Keep.of_wr W1643).1
   have f1650 : Va Z h1643 b1634 .char [(.int (chr c0)), (.int 0)] := V1643
   have f1651 : Va Z h1643 b1634 .char [(.int c0), (.int 0)] := by rw [show (chr c0) = c0 from hc0] at f1650; exact f1650
   refine Go.movp st1643 (mkF m 149 #[vI p0, vI p1, vI p2, vI p3, vI p4, vI c0, vI c1, vI c2, vI c3, vI 2, .unset, .unset, .unset, .unset, .unset, .unset] [(.ref b1634), (.ref b1628), (.ref b1628)]) rfl ?_
   refine g_dup X1643 hx (hb hby at_149) (pc' := 150) rfl rfl ?_
   refine g_iconst X1643 hx (hb hby at_150) (pc' := 151) rfl (z := 1) rfl ?_
   refine g_iload X1643 hx (hb hby at_151) (pc' := 153) rfl rfl ?_
   obtain ⟨T1652, h1652, L1652, X1652, e1652, N1652, W1652, V1652, st1652⟩ := h_castore X1643 hx hZ e1643 N1643 f1651 ge1636 (j := (1 : Int32)) (i := 1) (x := c1) (hb hby at_153) (by decide) rfl rfl #[vI p0, vI p1, vI p2, vI p3, vI p4, vI c0, vI c1, vI c2, vI c3, vI 2, .unset, .unset, .unset, .unset, .unset, .unset] [(.ref b1634), (.ref b1628), (.ref b1628)]
   have f1653 := f1644.wr W1652 ge1636
   have f1654 := Exa.wr W1652 f1645
   have f1655 := Fld.other W1652 f1646 (Or.inl ne1635)
   have f1656 := Fld.other W1652 f1647 (Or.inl ne1635)
   have f1657 := Exa.wr W1652 f1648
   have Z1658 : n0 ≤ h1652.size := Nat.le_trans Z1649 (Keep.of_wr W1652).1
   have f1659 : Va Z h1652 b1634 .char [(.int c0), (.int (chr c1))] := V1652
   have f1660 : Va Z h1652 b1634 .char [(.int c0), (.int c1)] := by rw [show (chr c1) = c1 from hc1] at f1659; exact f1659
   refine Go.movp st1652 (mkF m 154 #[vI p0, vI p1, vI p2, vI p3, vI p4, vI c0, vI c1, vI c2, vI c3, vI 2, .unset, .unset, .unset, .unset, .unset, .unset] [(.ref b1634), (.ref b1628), (.ref b1628)]) rfl ?_
   obtain ⟨v1661, T1661, h1661, L1661, X1661, e1661, N1661, q1661, st1661⟩ := h_special (a := b1628) X1652 hx (W := 1) (Ls := #[vI p0, vI p1, vI p2, vI p3, vI p4, vI c0, vI c1, vI c2, vI c3, vI 2, .unset, .unset, .unset, .unset, .unset, .unset]) (argsL := [(.ref b1634)]) (rest := [(.ref b1628)]) hZ e1652 N1652 hml hown rfl (rm1_2 l Z a0 hw b1628 b1634 c0 c1 cs fv h1652 n0 Z1658 f1656 f1655 f1654 ge1629 f1660 (Ne.symm ne1635) B f1653 hc0 hc1) (wd hw 4 rfl) (wd hw 5 rfl) (wd hw 2 rfl) (wd hw 6 rfl) (by decide) pd___C_V rfl rfl (hb hby at_154) rfl (by decide) (by decide) (by decide) (by decide)
   obtain ⟨rfl, K1661, r1661, sz1661, U1661⟩ := q1661
   have f1662 := f1653.keep K1661 (allS ge1629 all0)
   have f1663 := f1654.keep K1661
   have f1664 := f1657.keep K1661
   have f1665 := f1660.keep K1661 (ninS (Ne.symm ne1635) nin0)
   have Z1666 : n0 ≤ h1661.size := Nat.le_trans Z1658 K1661.1
   refine Go.movp st1661 (mkF m 157 #[vI p0, vI p1, vI p2, vI p3, vI p4, vI c0, vI c1, vI c2, vI c3, vI 2, .unset, .unset, .unset, .unset, .unset, .unset] [(.ref b1628)]) rfl ?_
   refine g_astore X1661 hx (hb hby at_157) (pc' := 159) rfl rfl (Ls' := #[vI p0, vI p1, vI p2, vI p3, vI p4, vI c0, vI c1, vI c2, vI c3, vI 2, vR b1628, .unset, .unset, .unset, .unset, .unset]) rfl ?_
   refine g_goto X1661 hx (hb hby at_159) (by decide) (pc' := 230) (by decide) ?_
   refine g_iconst X1661 hx (hb hby at_230) (pc' := 231) rfl (z := 4) rfl ?_
   obtain ⟨T1667, h1667, b1667, X1667, e1667, g1667, E1667, V1667, A1667, st1667⟩ := h_newarray X1661 hx hZ e1661 (n := (4 : Int32)) (ty := .char) rfl (wd hw 3 rfl) (hb hby at_231) (k := 4) (cap := 4) (by decide) rfl (by decide) (by decide) (by decide) (by decide) (ad := "[C") (by decide) #[vI p0, vI p1, vI p2, vI p3, vI p4, vI c0, vI c1, vI c2, vI c3, vI 2, vR b1628, .unset, .unset, .unset, .unset, .unset] []
   have ne1668 : b1628 ≠ b1667 := Nat.ne_of_lt (g1667 ▸ U1661.lt)
   have ne1669 : r1661 ≠ b1667 := Nat.ne_of_lt (g1667 ▸ (Str.lb U1661).lt)
   have ge1670 : n0 ≤ b1667 := g1667 ▸ Z1666
   have f1671 := f1662.ext E1667
   have f1672 := U1661.ext E1667
   have Z1673 : n0 ≤ h1667.size := Nat.le_trans Z1666 E1667.1
   have f1674 : Va Z h1667 b1667 .char [(.int 0), (.int 0), (.int 0), (.int 0)] := V1667
   refine Go.movp st1667 (mkF m 233 #[vI p0, vI p1, vI p2, vI p3, vI p4, vI c0, vI c1, vI c2, vI c3, vI 2, vR b1628, .unset, .unset, .unset, .unset, .unset] [(.ref b1667)]) rfl ?_
   refine g_dup X1667 hx (hb hby at_233) (pc' := 234) rfl rfl ?_
   refine g_iconst X1667 hx (hb hby at_234) (pc' := 235) rfl (z := 0) rfl ?_
   refine g_iload X1667 hx (hb hby at_235) (pc' := 237) rfl rfl ?_
   obtain ⟨T1675, h1675, L1675, X1675, e1675, N1675, W1675, V1675, st1675⟩ := h_castore X1667 hx hZ e1667 N1661 f1674 ge1670 (j := (0 : Int32)) (i := 0) (x := c0) (hb hby at_237) (by decide) rfl rfl #[vI p0, vI p1, vI p2, vI p3, vI p4, vI c0, vI c1, vI c2, vI c3, vI 2, vR b1628, .unset, .unset, .unset, .unset, .unset] [(.ref b1667)]
   have f1676 := f1671.wr W1675 ge1670
   have f1677 := f1672.wr W1675 ne1668 ne1669
   have f1678 := Exa.wr W1675 A1667
   have Z1679 : n0 ≤ h1675.size := Nat.le_trans Z1673 (Keep.of_wr W1675).1
   have f1680 : Va Z h1675 b1667 .char [(.int (chr c0)), (.int 0), (.int 0), (.int 0)] := V1675
   have f1681 : Va Z h1675 b1667 .char [(.int c0), (.int 0), (.int 0), (.int 0)] := by rw [show (chr c0) = c0 from hc0] at f1680; exact f1680
   refine Go.movp st1675 (mkF m 238 #[vI p0, vI p1, vI p2, vI p3, vI p4, vI c0, vI c1, vI c2, vI c3, vI 2, vR b1628, .unset, .unset, .unset, .unset, .unset] [(.ref b1667)]) rfl ?_
   refine g_dup X1675 hx (hb hby at_238) (pc' := 239) rfl rfl ?_
   refine g_iconst X1675 hx (hb hby at_239) (pc' := 240) rfl (z := 1) rfl ?_
   refine g_iload X1675 hx (hb hby at_240) (pc' := 242) rfl rfl ?_
   obtain ⟨T1682, h1682, L1682, X1682, e1682, N1682, W1682, V1682, st1682⟩ := h_castore X1675 hx hZ e1675 N1675 f1681 ge1670 (j := (1 : Int32)) (i := 1) (x := c1) (hb hby at_242) (by decide) rfl rfl #[vI p0, vI p1, vI p2, vI p3, vI p4, vI c0, vI c1, vI c2, vI c3, vI 2, vR b1628, .unset, .unset, .unset, .unset, .unset] [(.ref b1667)]
   have f1683 := f1676.wr W1682 ge1670
   have f1684 := f1677.wr W1682 ne1668 ne1669
   have f1685 := Exa.wr W1682 f1678
   have Z1686 : n0 ≤ h1682.size := Nat.le_trans Z1679 (Keep.of_wr W1682).1
   have f1687 : Va Z h1682 b1667 .char [(.int c0), (.int (chr c1)), (.int 0), (.int 0)] := V1682
   have f1688 : Va Z h1682 b1667 .char [(.int c0), (.int c1), (.int 0), (.int 0)] := by rw [show (chr c1) = c1 from hc1] at f1687; exact f1687
   refine Go.movp st1682 (mkF m 243 #[vI p0, vI p1, vI p2, vI p3, vI p4, vI c0, vI c1, vI c2, vI c3, vI 2, vR b1628, .unset, .unset, .unset, .unset, .unset] [(.ref b1667)]) rfl ?_
   refine g_dup X1682 hx (hb hby at_243) (pc' := 244) rfl rfl ?_
   refine g_iconst X1682 hx (hb hby at_244) (pc' := 245) rfl (z := 2) rfl ?_
   refine g_iload X1682 hx (hb hby at_245) (pc' := 247) rfl rfl ?_
   obtain ⟨T1689, h1689, L1689, X1689, e1689, N1689, W1689, V1689, st1689⟩ := h_castore X1682 hx hZ e1682 N1682 f1688 ge1670 (j := (2 : Int32)) (i := 2) (x := c2) (hb hby at_247) (by decide) rfl rfl #[vI p0, vI p1, vI p2, vI p3, vI p4, vI c0, vI c1, vI c2, vI c3, vI 2, vR b1628, .unset, .unset, .unset, .unset, .unset] [(.ref b1667)]
   have f1690 := f1683.wr W1689 ge1670
   have f1691 := f1684.wr W1689 ne1668 ne1669
   have f1692 := Exa.wr W1689 f1685
   have Z1693 : n0 ≤ h1689.size := Nat.le_trans Z1686 (Keep.of_wr W1689).1
   have f1694 : Va Z h1689 b1667 .char [(.int c0), (.int c1), (.int (chr c2)), (.int 0)] := V1689
   have f1695 : Va Z h1689 b1667 .char [(.int c0), (.int c1), (.int c2), (.int 0)] := by rw [show (chr c2) = c2 from hc2] at f1694; exact f1694
   refine Go.movp st1689 (mkF m 248 #[vI p0, vI p1, vI p2, vI p3, vI p4, vI c0, vI c1, vI c2, vI c3, vI 2, vR b1628, .unset, .unset, .unset, .unset, .unset] [(.ref b1667)]) rfl ?_
   refine g_dup X1689 hx (hb hby at_248) (pc' := 249) rfl rfl ?_
   refine g_iconst X1689 hx (hb hby at_249) (pc' := 250) rfl (z := 3) rfl ?_
   refine g_iload X1689 hx (hb hby at_250) (pc' := 252) rfl rfl ?_
   obtain ⟨T1696, h1696, L1696, X1696, e1696, N1696, W1696, V1696, st1696⟩ := h_castore X1689 hx hZ e1689 N1689 f1695 ge1670 (j := (3 : Int32)) (i := 3) (x := c3) (hb hby at_252) (by decide) rfl rfl #[vI p0, vI p1, vI p2, vI p3, vI p4, vI c0, vI c1, vI c2, vI c3, vI 2, vR b1628, .unset, .unset, .unset, .unset, .unset] [(.ref b1667)]
   have f1697 := f1690.wr W1696 ge1670
   have f1698 := f1691.wr W1696 ne1668 ne1669
   have f1699 := Exa.wr W1696 f1692
   have Z1700 : n0 ≤ h1696.size := Nat.le_trans Z1693 (Keep.of_wr W1696).1
   have f1701 : Va Z h1696 b1667 .char [(.int c0), (.int c1), (.int c2), (.int (chr c3))] := V1696
   have f1702 : Va Z h1696 b1667 .char [(.int c0), (.int c1), (.int c2), (.int c3)] := by rw [show (chr c3) = c3 from hc3] at f1701; exact f1701
   refine Go.movp st1696 (mkF m 253 #[vI p0, vI p1, vI p2, vI p3, vI p4, vI c0, vI c1, vI c2, vI c3, vI 2, vR b1628, .unset, .unset, .unset, .unset, .unset] [(.ref b1667)]) rfl ?_
   refine g_astore X1696 hx (hb hby at_253) (pc' := 255) rfl rfl (Ls' := #[vI p0, vI p1, vI p2, vI p3, vI p4, vI c0, vI c1, vI c2, vI c3, vI 2, vR b1628, vR b1667, .unset, .unset, .unset, .unset]) rfl ?_
   refine g_iloadN X1696 hx (hb hby at_255) (pc' := 256) rfl rfl ?_
   refine g_i2c X1696 hx (hb hby at_256) (pc' := 257) rfl ?_
   obtain ⟨dq, edq⟩ : ∃ z : Int32, z = (chr p3) := ⟨_, rfl⟩
   refine Go.cast (show (mkF m 257 #[vI p0, vI p1, vI p2, vI p3, vI p4, vI c0, vI c1, vI c2, vI c3, vI 2, vR b1628, vR b1667, .unset, .unset, .unset, .unset] [(.int (chr p3))]) = (mkF m 257 #[vI p0, vI p1, vI p2, vI p3, vI p4, vI c0, vI c1, vI c2, vI c3, vI 2, vR b1628, vR b1667, .unset, .unset, .unset, .unset] [(.int dq)]) from by rw [edq]) ?_
   refine g_istore X1696 hx (hb hby at_257) (pc' := 259) rfl (Ls' := #[vI p0, vI p1, vI p2, vI p3, vI p4, vI c0, vI c1, vI c2, vI c3, vI 2, vR b1628, vR b1667, vI dq, .unset, .unset, .unset]) rfl ?_
   have hdq : chr dq = dq := by rw [edq]; exact chr_chr _
   have J1703 : ∀ (d : Int32) (hd : chr d = d), Go p e below (EndW s room_1.cells room_1.slots) n0 (Q0 Z p0 p1 p2 p3 p4 cs fv h0 n0) T1696 (mkF m 303 #[vI p0, vI p1, vI p2, vI p3, vI p4, vI c0, vI c1, vI c2, vI c3, vI 2, vR b1628, vR b1667, vI d, .unset, .unset, .unset] []) := by
    intro  d hd
    obtain ⟨T1704, h1704, X1704, e1704, E1704, A1704, D1704, -, st1704⟩ := newO X1696 hx hZ hown (wd hw 30 rfl) (wd hw 31 rfl) (wd hw 32 rfl) e1696 (g := (mkF m 303 #[vI p0, vI p1, vI p2, vI p3, vI p4, vI c0, vI c1, vI c2, vI c3, vI 2, vR b1628, vR b1667, vI d, .unset, .unset, .unset] [])) rfl (hb hby at_303) (by decide) (by decide)
    obtain ⟨b1704, g1704⟩ : ∃ z, z = h1696.size := ⟨_, rfl⟩
    rw [← g1704] at A1704 D1704 st1704
    have ne1705 : b1628 ≠ b1704 := Nat.ne_of_lt (g1704 ▸ f1698.lt)
    have ne1706 : r1661 ≠ b1704 := Nat.ne_of_lt (g1704 ▸ (Str.lb f1698).lt)
    have ne1707 : b1667 ≠ b1704 := Nat.ne_of_lt (g1704 ▸ f1699.lt)
    have ge1708 : n0 ≤ b1704 := g1704 ▸ Z1700
    have f1709 := f1697.ext E1704
    have f1710 := f1698.ext E1704
    have f1711 := Exa.ext E1704 f1699
    have f1712 := f1702.ext E1704
    have Z1713 : n0 ≤ h1704.size := Nat.le_trans Z1700 E1704.1
    have f1714 : Fld Z h1704 b1704 "com/example/needlework/needlework/LastOccurrence" "pages" "[[I" .null := D1704 (Or.inr (wd hw 40 rfl)) (ty := (.array (.array .int))) (by decide)
    refine Go.movp st1704 (mkF m 306 #[vI p0, vI p1, vI p2, vI p3, vI p4, vI c0, vI c1, vI c2, vI c3, vI 2, vR b1628, vR b1667, vI d, .unset, .unset, .unset] [(.ref b1704)]) rfl ?_
    refine g_dup X1704 hx (hb hby at_306) (pc' := 307) rfl rfl ?_
    refine g_aload X1704 hx (hb hby at_307) (pc' := 309) rfl rfl rfl ?_
    obtain ⟨v1715, T1715, h1715, L1715, X1715, e1715, N1715, q1715, st1715⟩ := h_special (a := b1704) X1704 hx (W := 1) (Ls := #[vI p0, vI p1, vI p2, vI p3, vI p4, vI c0, vI c1, vI c2, vI c3, vI 2, vR b1628, vR b1667, vI d, .unset, .unset, .unset]) (argsL := [(.ref b1628)]) (rest := [(.ref b1704)]) hZ e1704 N1696 hml hown rfl (rm7_2 l Z a0 hw b1704 b1628 r1661 c0 c1 cs fv h1704 n0 Z1713 f1714 A1704 ge1708 f1710 ne1705 ne1706 B f1709 hc0 hc1) (wd hw 33 rfl) (wd hw 34 rfl) (wd hw 32 rfl) (wd hw 35 rfl) (by decide) pd__Ljava_lang_CharSequence__V rfl rfl (hb hby at_309) rfl (by decide) (by decide) (by decide) (by decide)
    obtain ⟨rfl, K1715, pa1715, cc1715, F1715, A1715, G1715⟩ := q1715
    have f1716 := f1709.keep K1715 (allS ge1708 all0)
    have f1717 := f1710.keep K1715 (ninS ne1705 nin0) (ninS ne1706 nin0)
    have f1718 := f1711.keep K1715
    have f1719 := f1712.keep K1715 (ninS ne1707 nin0)
    have f1720 := A1704.keep K1715
    have Z1721 : n0 ≤ h1715.size := Nat.le_trans Z1713 K1715.1
    refine Go.movp st1715 (mkF m 312 #[vI p0, vI p1, vI p2, vI p3, vI p4, vI c0, vI c1, vI c2, vI c3, vI 2, vR b1628, vR b1667, vI d, .unset, .unset, .unset] [(.ref b1704)]) rfl ?_
    refine g_astore X1715 hx (hb hby at_312) (pc' := 314) rfl rfl (Ls' := #[vI p0, vI p1, vI p2, vI p3, vI p4, vI c0, vI c1, vI c2, vI c3, vI 2, vR b1628, vR b1667, vI d, vR b1704, .unset, .unset]) rfl ?_
    refine g_aload X1715 hx (hb hby at_314) (pc' := 316) rfl rfl rfl ?_
    refine g_iload X1715 hx (hb hby at_316) (pc' := 318) rfl rfl ?_
    obtain ⟨v1722, T1722, h1722, L1722, X1722, e1722, N1722, q1722, st1722⟩ := h_virtual (a := b1704) (z := (⟨"com/example/needlework/needlework/LastOccurrence", "of", "(C)I"⟩ : MethodName)) X1715 hx (W := 0) (Ls := #[vI p0, vI p1, vI p2, vI p3, vI p4, vI c0, vI c1, vI c2, vI c3, vI 2, vR b1628, vR b1667, vI d, vR b1704, .unset, .unset]) (argsL := [(.int d)]) (rest := []) hZ e1715 N1715 hml hown (rm16 l Z a0 hw b1704 pa1715 d cc1715 (updM (updM (fun _ => -1) (cn c0) (0 : Int32)) (cn c1) (1 : Int32)) _ _ h1715 n0 Z1721 F1715 G1715 hd) A1715 (wd hw 86 rfl) (wd hw 87 rfl) (notFace_of_selects (args := #[]) (mvT hZ (wd hw 89 rfl))) (wd hw 89 rfl) (wd hw 88 rfl) (wd hw 32 rfl) (wd hw 90 rfl) (by decide) pd__C_I rfl rfl (hb hby at_318) rfl (by decide) (by decide) (by decide) (by decide)
    obtain ⟨rfl, rfl⟩ := q1722
    refine Go.movp st1722 (mkF m 321 #[vI p0, vI p1, vI p2, vI p3, vI p4, vI c0, vI c1, vI c2, vI c3, vI 2, vR b1628, vR b1667, vI d, vR b1704, .unset, .unset] [(.int ((updM (updM (fun _ => -1) (cn c0) (0 : Int32)) (cn c1) (1 : Int32)) (cn d)))]) rfl ?_
    refine g_istore X1722 hx (hb hby at_321) (pc' := 323) rfl (Ls' := #[vI p0, vI p1, vI p2, vI p3, vI p4, vI c0, vI c1, vI c2, vI c3, vI 2, vR b1628, vR b1667, vI d, vR b1704, vI ((updM (updM (fun _ => -1) (cn c0) (0 : Int32)) (cn c1) (1 : Int32)) (cn d)), .unset]) rfl ?_
    refine g_iconst X1722 hx (hb hby at_323) (pc' := 324) rfl (z := (-1 : Int32)) rfl ?_
    refine g_istore X1722 hx (hb hby at_324) (pc' := 326) rfl (Ls' := #[vI p0, vI p1, vI p2, vI p3, vI p4, vI c0, vI c1, vI c2, vI c3, vI 2, vR b1628, vR b1667, vI d, vR b1704, vI ((updM (updM (fun _ => -1) (cn c0) (0 : Int32)) (cn c1) (1 : Int32)) (cn d)), vI (-1 : Int32)]) rfl ?_
    have J1723 : ∀ (wt : Int32) (hwt : (updM (updM (fun _ => -1) (cn c0) (0 : Int32)) (cn c1) (1 : Int32)) (cn d) = wt), Go p e below (EndW s room_1.cells room_1.slots) n0 (Q0 Z p0 p1 p2 p3 p4 cs fv h0 n0) T1722 (mkF m 357 #[vI p0, vI p1, vI p2, vI p3, vI p4, vI c0, vI c1, vI c2, vI c3, vI 2, vR b1628, vR b1667, vI d, vR b1704, vI ((updM (updM (fun _ => -1) (cn c0) (0 : Int32)) (cn c1) (1 : Int32)) (cn d)), vI wt] []) := by
     intro  wt hwt
     refine g_iload X1722 hx (hb hby at_357) (pc' := 359) rfl rfl ?_
     refine g_iconst X1722 hx (hb hby at_359) (pc' := 360) rfl (z := 2) rfl ?_
     refine g_icmp_le X1722 hx (hb hby at_360) (pc1 := 363) rfl (by decide) (pc2 := 373) (by decide) (fun hc360 => ?_) (fun hc360 => absurd hc360 (by decide))
     refine g_iload X1722 hx (hb hby at_373) (pc' := 375) rfl rfl ?_
     refine g_iconst X1722 hx (hb hby at_375) (pc' := 376) rfl (z := 3) rfl ?_
     refine g_icmp_le X1722 hx (hb hby at_376) (pc1 := 379) rfl (by decide) (pc2 := 389) (by decide) (fun hc376 => ?_) (fun hc376 => absurd hc376 (by decide))
     refine g_iload X1722 hx (hb hby at_389) (pc' := 391) rfl rfl ?_
     refine g_iload X1722 hx (hb hby at_391) (pc' := 393) rfl rfl ?_
     refine g_icmp_ne X1722 hx (hb hby at_393) (pc1 := 396) rfl (by decide) (pc2 := 400) (by decide) (fun hc393 => absurd hwt hc393) (fun hc393 => ?_)
     refine g_iconst X1722 hx (hb hby at_396) (pc' := 397) rfl (z := 1) rfl ?_
     refine g_goto X1722 hx (hb hby at_397) (by decide) (pc' := 401) (by decide) ?_
     exact g_zreturn X1722 hx rfl hret (hb hby at_401) N1722 hlk (fun v t => endW (vm0 := s.vm) ((State.WarmedH.refl s).since 0) (Nat.zero_le _) (by decide) (by decide) v) (by rw [e1722]; exact rfl)
    have J1724 : ∀ (wt : Int32) (hwt : (updM (fun _ => -1) (cn c0) (0 : Int32)) (cn d) = wt), Go p e below (EndW s room_1.cells room_1.slots) n0 (Q0 Z p0 p1 p2 p3 p4 cs fv h0 n0) T1722 (mkF m 341 #[vI p0, vI p1, vI p2, vI p3, vI p4, vI c0, vI c1, vI c2, vI c3, vI 2, vR b1628, vR b1667, vI d, vR b1704, vI ((updM (updM (fun _ => -1) (cn c0) (0 : Int32)) (cn c1) (1 : Int32)) (cn d)), vI wt] []) := by
     intro  wt hwt
     refine g_iload X1722 hx (hb hby at_341) (pc' := 343) rfl rfl ?_
     refine g_iconst X1722 hx (hb hby at_343) (pc' := 344) rfl (z := 1) rfl ?_
     refine g_icmp_le X1722 hx (hb hby at_344) (pc1 := 347) rfl (by decide) (pc2 := 357) (by decide) (fun hc344 => absurd (by decide) hc344) (fun hc344 => ?_)
     refine g_iload X1722 hx (hb hby at_347) (pc' := 349) rfl rfl ?_
     refine g_iload X1722 hx (hb hby at_349) (pc' := 351) rfl rfl ?_
     refine g_icmp_ne X1722 hx (hb hby at_351) (pc1 := 354) rfl (by decide) (pc2 := 357) (by decide) (fun hc351 => ?_) (fun hc351 => ?_)
     ·
      exact J1723  wt ((updM_no hc1 hd hc351).trans hwt)
     ·
      refine g_iconst X1722 hx (hb hby at_354) (pc' := 355) rfl (z := 1) rfl ?_
      refine g_istore X1722 hx (hb hby at_355) (pc' := 357) rfl (Ls' := #[vI p0, vI p1, vI p2, vI p3, vI p4, vI c0, vI c1, vI c2, vI c3, vI 2, vR b1628, vR b1667, vI d, vR b1704, vI ((updM (updM (fun _ => -1) (cn c0) (0 : Int32)) (cn c1) (1 : Int32)) (cn d)), vI 1]) rfl ?_
      exact J1723  (1 : Int32) (updM_yes hc351)
    refine g_iload X1722 hx (hb hby at_326) (pc' := 328) rfl rfl ?_
    refine g_if_le X1722 hx (hb hby at_328) (pc1 := 331) rfl (by decide) (pc2 := 341) (by decide) (fun hc328 => absurd (by decide) hc328) (fun hc328 => ?_)
    refine g_iload X1722 hx (hb hby at_331) (pc' := 333) rfl rfl ?_
    refine g_iload X1722 hx (hb hby at_333) (pc' := 335) rfl rfl ?_
    refine g_icmp_ne X1722 hx (hb hby at_335) (pc1 := 338) rfl (by decide) (pc2 := 341) (by decide) (fun hc335 => ?_) (fun hc335 => ?_)
    ·
     exact J1724  (-1 : Int32) ((updM_no hc0 hd hc335).trans rfl)
    ·
     refine g_iconst X1722 hx (hb hby at_338) (pc' := 339) rfl (z := 0) rfl ?_
     refine g_istore X1722 hx (hb hby at_339) (pc' := 341) rfl (Ls' := #[vI p0, vI p1, vI p2, vI p3, vI p4, vI c0, vI c1, vI c2, vI c3, vI 2, vR b1628, vR b1667, vI d, vR b1704, vI ((updM (updM (fun _ => -1) (cn c0) (0 : Int32)) (cn c1) (1 : Int32)) (cn d)), vI 0]) rfl ?_
     exact J1724  (0 : Int32) (updM_yes hc335)
   have J1725 : ∀ (dx : Int32) (hdx : chr dx = dx), Go p e below (EndW s room_1.cells room_1.slots) n0 (Q0 Z p0 p1 p2 p3 p4 cs fv h0 n0) T1696 (mkF m 277 #[vI p0, vI p1, vI p2, vI p3, vI p4, vI c0, vI c1, vI c2, vI c3, vI 2, vR b1628, vR b1667, vI dx, .unset, .unset, .unset] []) := by
    intro  dx hdx
    refine g_iload X1696 hx (hb hby at_277) (pc' := 279) rfl rfl ?_
    refine g_bipush X1696 hx (hb hby at_279) (pc' := 281) rfl (z := 8) rfl ?_
    refine g_iand X1696 hx (hb hby at_281) (pc' := 282) rfl ?_
    refine g_if_eq X1696 hx (hb hby at_282) (pc1 := 285) rfl (by decide) (pc2 := 303) (by decide) (fun hc282 => ?_) (fun hc282 => ?_)
    ·
     exact J1703  dx hdx
    ·
     refine g_iload X1696 hx (hb hby at_285) (pc' := 287) rfl rfl ?_
     refine g_ldc X1696 hx hZ hown (wd hw 91 rfl) (hb hby at_287) (pc' := 289) rfl ?_
     refine g_iand X1696 hx (hb hby at_289) (pc' := 290) rfl ?_
     refine g_iload X1696 hx (hb hby at_290) (pc' := 292) rfl rfl ?_
     refine g_bipush X1696 hx (hb hby at_292) (pc' := 294) rfl (z := 8) rfl ?_
     refine g_iushr X1696 hx (hb hby at_294) (pc' := 295) rfl ?_
     refine g_sipush X1696 hx (hb hby at_295) (pc' := 298) rfl (z := 255) rfl ?_
     refine g_iand X1696 hx (hb hby at_298) (pc' := 299) rfl ?_
     refine g_ior X1696 hx (hb hby at_299) (pc' := 300) rfl ?_
     refine g_i2c X1696 hx (hb hby at_300) (pc' := 301) rfl ?_
     refine g_istore X1696 hx (hb hby at_301) (pc' := 303) rfl (Ls' := #[vI p0, vI p1, vI p2, vI p3, vI p4, vI c0, vI c1, vI c2, vI c3, vI 2, vR b1628, vR b1667, vI (chr ((dx &&& (65280 : Int32)) ||| ((ushr p4 (8 : Int32)) &&& (255 : Int32)))), .unset, .unset, .unset]) rfl ?_
     exact J1703  (chr ((dx &&& (65280 : Int32)) ||| ((ushr p4 (8 : Int32)) &&& (255 : Int32)))) (chr_chr _)
   refine g_iload X1696 hx (hb hby at_259) (pc' := 261) rfl rfl ?_
   refine g_iconst X1696 hx (hb hby at_261) (pc' := 262) rfl (z := 1) rfl ?_
   refine g_iand X1696 hx (hb hby at_262) (pc' := 263) rfl ?_
   refine g_if_eq X1696 hx (hb hby at_263) (pc1 := 266) rfl (by decide) (pc2 := 277) (by decide) (fun hc263 => ?_) (fun hc263 => ?_)
   ·
    exact J1725  dq hdq
   ·
    refine g_aload X1696 hx (hb hby at_266) (pc' := 268) rfl rfl rfl ?_
    refine g_iload X1696 hx (hb hby at_268) (pc' := 270) rfl rfl ?_
    refine g_iconst X1696 hx (hb hby at_270) (pc' := 271) rfl (z := 1) rfl ?_
    refine g_iushr X1696 hx (hb hby at_271) (pc' := 272) rfl ?_
    refine g_iconst X1696 hx (hb hby at_272) (pc' := 273) rfl (z := 3) rfl ?_
    refine g_iand X1696 hx (hb hby at_273) (pc' := 274) rfl ?_
    rcases own_and3 (ushr p4 (1 : Int32)) with q3 | q3 | q3 | q3
    ·
     refine Go.cast (show (mkF m 274 #[vI p0, vI p1, vI p2, vI p3, vI p4, vI c0, vI c1, vI c2, vI c3, vI 2, vR b1628, vR b1667, vI dq, .unset, .unset, .unset] [(.int ((ushr p4 (1 : Int32)) &&& (3 : Int32))), (.ref b1667)]) = (mkF m 274 #[vI p0, vI p1, vI p2, vI p3, vI p4, vI c0, vI c1, vI c2, vI c3, vI 2, vR b1628, vR b1667, vI dq, .unset, .unset, .unset] [(.int 0), (.ref b1667)]) from by rw [show ((ushr p4 (1 : Int32)) &&& (3 : Int32)) = (0 : Int32) from q3]) ?_
     refine g_caload X1696 hx hZ e1696 f1702 (i := 0) (v := (.int c0)) (hb hby at_274) (pc' := 275) rfl (by decide) rfl rfl ?_
     refine g_istore X1696 hx (hb hby at_275) (pc' := 277) rfl (Ls' := #[vI p0, vI p1, vI p2, vI p3, vI p4, vI c0, vI c1, vI c2, vI c3, vI 2, vR b1628, vR b1667, vI c0, .unset, .unset, .unset]) rfl ?_
     exact J1725  c0 hc0
    ·
     refine Go.cast (show (mkF m 274 #[vI p0, vI p1, vI p2, vI p3, vI p4, vI c0, vI c1, vI c2, vI c3, vI 2, vR b1628, vR b1667, vI dq, .unset, .unset, .unset] [(.int ((ushr p4 (1 : Int32)) &&& (3 : Int32))), (.ref b1667)]) = (mkF m 274 #[vI p0, vI p1, vI p2, vI p3, vI p4, vI c0, vI c1, vI c2, vI c3, vI 2, vR b1628, vR b1667, vI dq, .unset, .unset, .unset] [(.int 1), (.ref b1667)]) from by rw [show ((ushr p4 (1 : Int32)) &&& (3 : Int32)) = (1 : Int32) from q3]) ?_
     refine g_caload X1696 hx hZ e1696 f1702 (i := 1) (v := (.int c1)) (hb hby at_274) (pc' := 275) rfl (by decide) rfl rfl ?_
     refine g_istore X1696 hx (hb hby at_275) (pc' := 277) rfl (Ls' := #[vI p0, vI p1, vI p2, vI p3, vI p4, vI c0, vI c1, vI c2, vI c3, vI 2, vR b1628, vR b1667, vI c1, .unset, .unset, .unset]) rfl ?_
     exact J1725  c1 hc1
    ·
     refine Go.cast (show (mkF m 274 #[vI p0, vI p1, vI p2, vI p3, vI p4, vI c0, vI c1, vI c2, vI c3, vI 2, vR b1628, vR b1667, vI dq, .unset, .unset, .unset] [(.int ((ushr p4 (1 : Int32)) &&& (3 : Int32))), (.ref b1667)]) = (mkF m 274 #[vI p0, vI p1, vI p2, vI p3, vI p4, vI c0, vI c1, vI c2, vI c3, vI 2, vR b1628, vR b1667, vI dq, .unset, .unset, .unset] [(.int 2), (.ref b1667)]) from by rw [show ((ushr p4 (1 : Int32)) &&& (3 : Int32)) = (2 : Int32) from q3]) ?_
     refine g_caload X1696 hx hZ e1696 f1702 (i := 2) (v := (.int c2)) (hb hby at_274) (pc' := 275) rfl (by decide) rfl rfl ?_
     refine g_istore X1696 hx (hb hby at_275) (pc' := 277) rfl (Ls' := #[vI p0, vI p1, vI p2, vI p3, vI p4, vI c0, vI c1, vI c2, vI c3, vI 2, vR b1628, vR b1667, vI c2, .unset, .unset, .unset]) rfl ?_
     exact J1725  c2 hc2
    ·
     refine Go.cast (show (mkF m 274 #[vI p0, vI p1, vI p2, vI p3, vI p4, vI c0, vI c1, vI c2, vI c3, vI 2, vR b1628, vR b1667, vI dq, .unset, .unset, .unset] [(.int ((ushr p4 (1 : Int32)) &&& (3 : Int32))), (.ref b1667)]) = (mkF m 274 #[vI p0, vI p1, vI p2, vI p3, vI p4, vI c0, vI c1, vI c2, vI c3, vI 2, vR b1628, vR b1667, vI dq, .unset, .unset, .unset] [(.int 3), (.ref b1667)]) from by rw [show ((ushr p4 (1 : Int32)) &&& (3 : Int32)) = (3 : Int32) from q3]) ?_
     refine g_caload X1696 hx hZ e1696 f1702 (i := 3) (v := (.int c3)) (hb hby at_274) (pc' := 275) rfl (by decide) rfl rfl ?_
     refine g_istore X1696 hx (hb hby at_275) (pc' := 277) rfl (Ls' := #[vI p0, vI p1, vI p2, vI p3, vI p4, vI c0, vI c1, vI c2, vI c3, vI 2, vR b1628, vR b1667, vI c3, .unset, .unset, .unset]) rfl ?_
     exact J1725  c3 hc3
  ·
   refine Go.cast (show (mkF m 83 #[vI p0, vI p1, vI p2, vI p3, vI p4, vI c0, vI c1, vI c2, vI c3, .unset, .unset, .unset, .unset, .unset, .unset, .unset] [(.int ((p2 &&& (7 : Int32)) % (5 : Int32)))]) = (mkF m 83 #[vI p0, vI p1, vI p2, vI p3, vI p4, vI c0, vI c1, vI c2, vI c3, .unset, .unset, .unset, .unset, .unset, .unset, .unset] [(.int 3)]) from by rw [show ((p2 &&& (7 : Int32)) % (5 : Int32)) = (3 : Int32) from ql]) ?_
   refine g_istore X0 hx (hb hby at_83) (pc' := 85) rfl (Ls' := #[vI p0, vI p1, vI p2, vI p3, vI p4, vI c0, vI c1, vI c2, vI c3, vI 3, .unset, .unset, .unset, .unset, .unset, .unset]) rfl ?_
   refine g_iload X0 hx (hb hby at_85) (pc' := 87) rfl rfl ?_
   refine g_if_ne X0 hx (hb hby at_87) (pc1 := 90) rfl (by decide) (pc2 := 105) (by decide) (fun hc87 => ?_) (fun hc87 => absurd hc87 (by decide))
   refine g_iload X0 hx (hb hby at_105) (pc' := 107) rfl rfl ?_
   refine g_iconst X0 hx (hb hby at_107) (pc' := 108) rfl (z := 1) rfl ?_
   refine g_icmp_ne X0 hx (hb hby at_108) (pc1 := 111) rfl (by decide) (pc2 := 131) (by decide) (fun hc108 => ?_) (fun hc108 => absurd hc108 (by decide))
   refine g_iload X0 hx (hb hby at_131) (pc' := 133) rfl rfl ?_
   refine g_iconst X0 hx (hb hby at_133) (pc' := 134) rfl (z := 2) rfl ?_
   refine g_icmp_ne X0 hx (hb hby at_134) (pc1 := 137) rfl (by decide) (pc2 := 162) (by decide) (fun hc134 => ?_) (fun hc134 => absurd hc134 (by decide))
   refine g_iload X0 hx (hb hby at_162) (pc' := 164) rfl rfl ?_
   refine g_iconst X0 hx (hb hby at_164) (pc' := 165) rfl (z := 3) rfl ?_
   refine g_icmp_ne X0 hx (hb hby at_165) (pc1 := 168) rfl (by decide) (pc2 := 198) (by decide) (fun hc165 => absurd (by decide) hc165) (fun hc165 => ?_)
   obtain ⟨T1726, h1726, X1726, e1726, E1726, A1726, D1726, -, st1726⟩ := newO X0 hx hZ hown (wd hw 0 rfl) (wd hw 1 rfl) (wd hw 2 rfl) e0 (g := (mkF m 168 #[vI p0, vI p1, vI p2, vI p3, vI p4, vI c0, vI c1, vI c2, vI c3, vI 3, .unset, .unset, .unset, .unset, .unset, .unset] [])) rfl (hb hby at_168) (by decide) (by decide)
   obtain ⟨b1726, g1726⟩ : ∃ z, z = h0.size := ⟨_, rfl⟩
   rw [← g1726] at A1726 D1726 st1726
   have ge1727 : n0 ≤ b1726 := g1726 ▸ Z0
   have f1728 := O.ext E1726
   have Z1729 : n0 ≤ h1726.size := Nat.le_trans Z0 E1726.1
   have f1730 : Fld Z h1726 b1726 "java/lang/String" "coder" "B" (.int 0) := D1726 (Or.inr (wd hw 27 rfl)) (ty := .byte) (by decide)
   have f1731 : Fld Z h1726 b1726 "java/lang/String" "value" "[B" .null := D1726 (Or.inr (wd hw 29 rfl)) (ty := (.array .byte)) (by decide)
   refine Go.movp st1726 (mkF m 171 #[vI p0, vI p1, vI p2, vI p3, vI p4, vI c0, vI c1, vI c2, vI c3, vI 3, .unset, .unset, .unset, .unset, .unset, .unset] [(.ref b1726)]) rfl ?_
   refine g_dup X1726 hx (hb hby at_171) (pc' := 172) rfl rfl ?_
   refine g_iconst X1726 hx (hb hby at_172) (pc' := 173) rfl (z := 3) rfl ?_
   obtain ⟨T1732, h1732, b1732, X1732, e1732, g1732, E1732, V1732, A1732, st1732⟩ := h_newarray X1726 hx hZ e1726 (n := (3 : Int32)) (ty := .char) rfl (wd hw 3 rfl) (hb hby at_173) (k := 3) (cap := 3) (by decide) rfl (by decide) (by decide) (by decide) (by decide) (ad := "[C") (by decide) #[vI p0, vI p1, vI p2, vI p3, vI p4, vI c0, vI c1, vI c2, vI c3, vI 3, .unset, .unset, .unset, .unset, .unset, .unset] [(.ref b1726), (.ref b1726)]
   have ne1733 : b1726 ≠ b1732 := Nat.ne_of_lt (g1732 ▸ A1726.lt)
   have ge1734 : n0 ≤ b1732 := g1732 ▸ Z1729
   have f1735 := f1728.ext E1732
   have f1736 := Exa.ext E1732 A1726
   have f1737 := Fld.ext E1732 f1730
   have f1738 := Fld.ext E1732 f1731
   have Z1739 : n0 ≤ h1732.size := Nat.le_trans Z1729 E1732.1
   have f1740 : Va Z h1732 b1732 .char [(.int 0), (.int 0), (.int 0)] := V1732
   refine Go.movp st1732 (mkF m 175 #[vI p0, vI p1, vI p2, vI p3, vI p4, vI c0, vI c1, vI c2, vI c3, vI 3, .unset, .unset, .unset, .unset, .unset, .unset] [(.ref b1732), (.ref b1726), (.ref b1726)]) rfl ?_
   refine g_dup X1732 hx (hb hby at_175) (pc' := 176) rfl rfl ?_
   refine g_iconst X1732 hx (hb hby at_176) (pc' := 177) rfl (z := 0) rfl ?_
   refine g_iload X1732 hx (hb hby at_177) (pc' := 179) rfl rfl ?_
   obtain ⟨T1741, h1741, L1741, X1741, e1741, N1741, W1741, V1741, st1741⟩ := h_castore X1732 hx hZ e1732 N0 f1740 ge1734 (j := (0 : Int32)) (i := 0) (x := c0) (hb hby at_179) (by decide) rfl rfl #[vI p0, vI p1, vI p2, vI p3, vI p4, vI c0, vI c1, vI c2, vI c3, vI 3, .unset, .unset, .unset, .unset, .unset, .unset] [(.ref b1732), (.ref b1726), (.ref b1726)]
   have f1742 := f1735.wr W1741 ge1734
   have f1743 := Exa.wr W1741 f1736
   have f1744 := Fld.other W1741 f1737 (Or.inl ne1733)
   have f1745 := Fld.other W1741 f1738 (Or.inl ne1733)
   have f1746 := Exa.wr W1741 A1732
   have Z1747 : n0 ≤ h1741.size := Nat.le_trans Z1739 (Keep.of_wr W1741).1
   have f1748 : Va Z h1741 b1732 .char [(.int (chr c0)), (.int 0), (.int 0)] := V1741
   have f1749 : Va Z h1741 b1732 .char [(.int c0), (.int 0), (.int 0)] := by rw [show (chr c0) = c0 from hc0] at f1748; exact f1748
   refine Go.movp st1741 (mkF m 180 #[vI p0, vI p1, vI p2, vI p3, vI p4, vI c0, vI c1, vI c2, vI c3, vI 3, .unset, .unset, .unset, .unset, .unset, .unset] [(.ref b1732), (.ref b1726), (.ref b1726)]) rfl ?_
   refine g_dup X1741 hx (hb hby at_180) (pc' := 181) rfl rfl ?_
   refine g_iconst X1741 hx (hb hby at_181) (pc' := 182) rfl (z := 1) rfl ?_
   refine g_iload X1741 hx (hb hby at_182) (pc' := 184) rfl rfl ?_
   obtain ⟨T1750, h1750, L1750, X1750, e1750, N1750, W1750, V1750, st1750⟩ := h_castore X1741 hx hZ e1741 N1741 f1749 ge1734 (j := (1 : Int32)) (i := 1) (x := c1) (hb hby at_184) (by decide) rfl rfl #[vI p0, vI p1, vI p2, vI p3, vI p4, vI c0, vI c1, vI c2, vI c3, vI 3, .unset, .unset, .unset, .unset, .unset, .unset] [(.ref b1732), (.ref b1726), (.ref b1726)]
   have f1751 := f1742.wr W1750 ge1734
   have f1752 := Exa.wr W1750 f1743
   have f1753 := Fld.other W1750 f1744 (Or.inl ne1733)
   have f1754 := Fld.other W1750 f1745 (Or.inl ne1733)
   have f1755 := Exa.wr W1750 f1746
   have Z1756 : n0 ≤ h1750.size := Nat.le_trans Z1747 (Keep.of_wr W1750).1
   have f1757 : Va Z h1750 b1732 .char [(.int c0), (.int (chr c1)), (.int 0)] := V1750
   have f1758 : Va Z h1750 b1732 .char [(.int c0), (.int c1), (.int 0)] := by rw [show (chr c1) = c1 from hc1] at f1757; exact f1757
   refine Go.movp st1750 (mkF m 185 #[vI p0, vI p1, vI p2, vI p3, vI p4, vI c0, vI c1, vI c2, vI c3, vI 3, .unset, .unset, .unset, .unset, .unset, .unset] [(.ref b1732), (.ref b1726), (.ref b1726)]) rfl ?_
   refine g_dup X1750 hx (hb hby at_185) (pc' := 186) rfl rfl ?_
   refine g_iconst X1750 hx (hb hby at_186) (pc' := 187) rfl (z := 2) rfl ?_
   refine g_iload X1750 hx (hb hby at_187) (pc' := 189) rfl rfl ?_
   obtain ⟨T1759, h1759, L1759, X1759, e1759, N1759, W1759, V1759, st1759⟩ := h_castore X1750 hx hZ e1750 N1750 f1758 ge1734 (j := (2 : Int32)) (i := 2) (x := c2) (hb hby at_189) (by decide) rfl rfl #[vI p0, vI p1, vI p2, vI p3, vI p4, vI c0, vI c1, vI c2, vI c3, vI 3, .unset, .unset, .unset, .unset, .unset, .unset] [(.ref b1732), (.ref b1726), (.ref b1726)]
   have f1760 := f1751.wr W1759 ge1734
   have f1761 := Exa.wr W1759 f1752
   have f1762 := Fld.other W1759 f1753 (Or.inl ne1733)
   have f1763 := Fld.other W1759 f1754 (Or.inl ne1733)
   have f1764 := Exa.wr W1759 f1755
   have Z1765 : n0 ≤ h1759.size := Nat.le_trans Z1756 (Keep.of_wr W1759).1
   have f1766 : Va Z h1759 b1732 .char [(.int c0), (.int c1), (.int (chr c2))] := V1759
   have f1767 : Va Z h1759 b1732 .char [(.int c0), (.int c1), (.int c2)] := by rw [show (chr c2) = c2 from hc2] at f1766; exact f1766
   refine Go.movp st1759 (mkF m 190 #[vI p0, vI p1, vI p2, vI p3, vI p4, vI c0, vI c1, vI c2, vI c3, vI 3, .unset, .unset, .unset, .unset, .unset, .unset] [(.ref b1732), (.ref b1726), (.ref b1726)]) rfl ?_
   obtain ⟨v1768, T1768, h1768, L1768, X1768, e1768, N1768, q1768, st1768⟩ := h_special (a := b1726) X1759 hx (W := 1) (Ls := #[vI p0, vI p1, vI p2, vI p3, vI p4, vI c0, vI c1, vI c2, vI c3, vI 3, .unset, .unset, .unset, .unset, .unset, .unset]) (argsL := [(.ref b1732)]) (rest := [(.ref b1726)]) hZ e1759 N1759 hml hown rfl (rm1_3 l Z a0 hw b1726 b1732 c0 c1 c2 cs fv h1759 n0 Z1765 f1763 f1762 f1761 ge1727 f1767 (Ne.symm ne1733) B f1760 hc0 hc1 hc2) (wd hw 4 rfl) (wd hw 5 rfl) (wd hw 2 rfl) (wd hw 6 rfl) (by decide) pd___C_V rfl rfl (hb hby at_190) rfl (by decide) (by decide) (by decide) (by decide)
   obtain ⟨rfl, K1768, r1768, sz1768, U1768⟩ := q1768
   have f1769 := f1760.keep K1768 (allS ge1727 all0)
   have f1770 := f1761.keep K1768
   have f1771 := f1764.keep K1768
   have f1772 := f1767.keep K1768 (ninS (Ne.symm ne1733) nin0)
   have Z1773 : n0 ≤ h1768.size := Nat.le_trans Z1765 K1768.1
   refine Go.movp st1768 (mkF m 193 #[vI p0, vI p1, vI p2, vI p3, vI p4, vI c0, vI c1, vI c2, vI c3, vI 3, .unset, .unset, .unset, .unset, .unset, .unset] [(.ref b1726)]) rfl ?_
   refine g_astore X1768 hx (hb hby at_193) (pc' := 195) rfl rfl (Ls' := #[vI p0, vI p1, vI p2, vI p3, vI p4, vI c0, vI c1, vI c2, vI c3, vI 3, vR b1726, .unset, .unset, .unset, .unset, .unset]) rfl ?_
   refine g_goto X1768 hx (hb hby at_195) (by decide) (pc' := 230) (by decide) ?_
   refine g_iconst X1768 hx (hb hby at_230) (pc' := 231) rfl (z := 4) rfl ?_
   obtain ⟨T1774, h1774, b1774, X1774, e1774, g1774, E1774, V1774, A1774, st1774⟩ := h_newarray X1768 hx hZ e1768 (n := (4 : Int32)) (ty := .char) rfl (wd hw 3 rfl) (hb hby at_231) (k := 4) (cap := 4) (by decide) rfl (by decide) (by decide) (by decide) (by decide) (ad := "[C") (by decide) #[vI p0, vI p1, vI p2, vI p3, vI p4, vI c0, vI c1, vI c2, vI c3, vI 3, vR b1726, .unset, .unset, .unset, .unset, .unset] []
   have ne1775 : b1726 ≠ b1774 := Nat.ne_of_lt (g1774 ▸ U1768.lt)
   have ne1776 : r1768 ≠ b1774 := Nat.ne_of_lt (g1774 ▸ (Str.lb U1768).lt)
   have ge1777 : n0 ≤ b1774 := g1774 ▸ Z1773
   have f1778 := f1769.ext E1774
   have f1779 := U1768.ext E1774
   have Z1780 : n0 ≤ h1774.size := Nat.le_trans Z1773 E1774.1
   have f1781 : Va Z h1774 b1774 .char [(.int 0), (.int 0), (.int 0), (.int 0)] := V1774
   refine Go.movp st1774 (mkF m 233 #[vI p0, vI p1, vI p2, vI p3, vI p4, vI c0, vI c1, vI c2, vI c3, vI 3, vR b1726, .unset, .unset, .unset, .unset, .unset] [(.ref b1774)]) rfl ?_
   refine g_dup X1774 hx (hb hby at_233) (pc' := 234) rfl rfl ?_
   refine g_iconst X1774 hx (hb hby at_234) (pc' := 235) rfl (z := 0) rfl ?_
   refine g_iload X1774 hx (hb hby at_235) (pc' := 237) rfl rfl ?_
   obtain ⟨T1782, h1782, L1782, X1782, e1782, N1782, W1782, V1782, st1782⟩ := h_castore X1774 hx hZ e1774 N1768 f1781 ge1777 (j := (0 : Int32)) (i := 0) (x := c0) (hb hby at_237) (by decide) rfl rfl #[vI p0, vI p1, vI p2, vI p3, vI p4, vI c0, vI c1, vI c2, vI c3, vI 3, vR b1726, .unset, .unset, .unset, .unset, .unset] [(.ref b1774)]
   have f1783 := f1778.wr W1782 ge1777
   have f1784 := f1779.wr W1782 ne1775 ne1776
   have f1785 := Exa.wr W1782 A1774
   have Z1786 : n0 ≤ h1782.size := Nat.le_trans Z1780 (Keep.of_wr W1782).1
   have f1787 : Va Z h1782 b1774 .char [(.int (chr c0)), (.int 0), (.int 0), (.int 0)] := V1782
   have f1788 : Va Z h1782 b1774 .char [(.int c0), (.int 0), (.int 0), (.int 0)] := by rw [show (chr c0) = c0 from hc0] at f1787; exact f1787
   refine Go.movp st1782 (mkF m 238 #[vI p0, vI p1, vI p2, vI p3, vI p4, vI c0, vI c1, vI c2, vI c3, vI 3, vR b1726, .unset, .unset, .unset, .unset, .unset] [(.ref b1774)]) rfl ?_
   refine g_dup X1782 hx (hb hby at_238) (pc' := 239) rfl rfl ?_
   refine g_iconst X1782 hx (hb hby at_239) (pc' := 240) rfl (z := 1) rfl ?_
   refine g_iload X1782 hx (hb hby at_240) (pc' := 242) rfl rfl ?_
   obtain ⟨T1789, h1789, L1789, X1789, e1789, N1789, W1789, V1789, st1789⟩ := h_castore X1782 hx hZ e1782 N1782 f1788 ge1777 (j := (1 : Int32)) (i := 1) (x := c1) (hb hby at_242) (by decide) rfl rfl #[vI p0, vI p1, vI p2, vI p3, vI p4, vI c0, vI c1, vI c2, vI c3, vI 3, vR b1726, .unset, .unset, .unset, .unset, .unset] [(.ref b1774)]
   have f1790 := f1783.wr W1789 ge1777
   have f1791 := f1784.wr W1789 ne1775 ne1776
   have f1792 := Exa.wr W1789 f1785
   have Z1793 : n0 ≤ h1789.size := Nat.le_trans Z1786 (Keep.of_wr W1789).1
   have f1794 : Va Z h1789 b1774 .char [(.int c0), (.int (chr c1)), (.int 0), (.int 0)] := V1789
   have f1795 : Va Z h1789 b1774 .char [(.int c0), (.int c1), (.int 0), (.int 0)] := by rw [show (chr c1) = c1 from hc1] at f1794; exact f1794
   refine Go.movp st1789 (mkF m 243 #[vI p0, vI p1, vI p2, vI p3, vI p4, vI c0, vI c1, vI c2, vI c3, vI 3, vR b1726, .unset, .unset, .unset, .unset, .unset] [(.ref b1774)]) rfl ?_
   refine g_dup X1789 hx (hb hby at_243) (pc' := 244) rfl rfl ?_
   refine g_iconst X1789 hx (hb hby at_244) (pc' := 245) rfl (z := 2) rfl ?_
   refine g_iload X1789 hx (hb hby at_245) (pc' := 247) rfl rfl ?_
   obtain ⟨T1796, h1796, L1796, X1796, e1796, N1796, W1796, V1796, st1796⟩ := h_castore X1789 hx hZ e1789 N1789 f1795 ge1777 (j := (2 : Int32)) (i := 2) (x := c2) (hb hby at_247) (by decide) rfl rfl #[vI p0, vI p1, vI p2, vI p3, vI p4, vI c0, vI c1, vI c2, vI c3, vI 3, vR b1726, .unset, .unset, .unset, .unset, .unset] [(.ref b1774)]
   have f1797 := f1790.wr W1796 ge1777
   have f1798 := f1791.wr W1796 ne1775 ne1776
   have f1799 := Exa.wr W1796 f1792
   have Z1800 : n0 ≤ h1796.size := Nat.le_trans Z1793 (Keep.of_wr W1796).1
   have f1801 : Va Z h1796 b1774 .char [(.int c0), (.int c1), (.int (chr c2)), (.int 0)] := V1796
   have f1802 : Va Z h1796 b1774 .char [(.int c0), (.int c1), (.int c2), (.int 0)] := by rw [show (chr c2) = c2 from hc2] at f1801; exact f1801
   refine Go.movp st1796 (mkF m 248 #[vI p0, vI p1, vI p2, vI p3, vI p4, vI c0, vI c1, vI c2, vI c3, vI 3, vR b1726, .unset, .unset, .unset, .unset, .unset] [(.ref b1774)]) rfl ?_
   refine g_dup X1796 hx (hb hby at_248) (pc' := 249) rfl rfl ?_
   refine g_iconst X1796 hx (hb hby at_249) (pc' := 250) rfl (z := 3) rfl ?_
   refine g_iload X1796 hx (hb hby at_250) (pc' := 252) rfl rfl ?_
   obtain ⟨T1803, h1803, L1803, X1803, e1803, N1803, W1803, V1803, st1803⟩ := h_castore X1796 hx hZ e1796 N1796 f1802 ge1777 (j := (3 : Int32)) (i := 3) (x := c3) (hb hby at_252) (by decide) rfl rfl #[vI p0, vI p1, vI p2, vI p3, vI p4, vI c0, vI c1, vI c2, vI c3, vI 3, vR b1726, .unset, .unset, .unset, .unset, .unset] [(.ref b1774)]
   have f1804 := f1797.wr W1803 ge1777
   have f1805 := f1798.wr W1803 ne1775 ne1776
   have f1806 := Exa.wr W1803 f1799
   have Z1807 : n0 ≤ h1803.size := Nat.le_trans Z1800 (Keep.of_wr W1803).1
   have f1808 : Va Z h1803 b1774 .char [(.int c0), (.int c1), (.int c2), (.int (chr c3))] := V1803
   have f1809 : Va Z h1803 b1774 .char [(.int c0), (.int c1), (.int c2), (.int c3)] := by rw [show (chr c3) = c3 from hc3] at f1808; exact f1808
   refine Go.movp st1803 (mkF m 253 #[vI p0, vI p1, vI p2, vI p3, vI p4, vI c0, vI c1, vI c2, vI c3, vI 3, vR b1726, .unset, .unset, .unset, .unset, .unset] [(.ref b1774)]) rfl ?_
   refine g_astore X1803 hx (hb hby at_253) (pc' := 255) rfl rfl (Ls' := #[vI p0, vI p1, vI p2, vI p3, vI p4, vI c0, vI c1, vI c2, vI c3, vI 3, vR b1726, vR b1774, .unset, .unset, .unset, .unset]) rfl ?_
   refine g_iloadN X1803 hx (hb hby at_255) (pc' := 256) rfl rfl ?_
   refine g_i2c X1803 hx (hb hby at_256) (pc' := 257) rfl ?_
   obtain ⟨dq, edq⟩ : ∃ z : Int32, z = (chr p3) := ⟨_, rfl⟩
   refine Go.cast (show (mkF m 257 #[vI p0, vI p1, vI p2, vI p3, vI p4, vI c0, vI c1, vI c2, vI c3, vI 3, vR b1726, vR b1774, .unset, .unset, .unset, .unset] [(.int (chr p3))]) = (mkF m 257 #[vI p0, vI p1, vI p2, vI p3, vI p4, vI c0, vI c1, vI c2, vI c3, vI 3, vR b1726, vR b1774, .unset, .unset, .unset, .unset] [(.int dq)]) from by rw [edq]) ?_
   refine g_istore X1803 hx (hb hby at_257) (pc' := 259) rfl (Ls' := #[vI p0, vI p1, vI p2, vI p3, vI p4, vI c0, vI c1, vI c2, vI c3, vI 3, vR b1726, vR b1774, vI dq, .unset, .unset, .unset]) rfl ?_
   have hdq : chr dq = dq := by rw [edq]; exact chr_chr _
   have J1810 : ∀ (d : Int32) (hd : chr d = d), Go p e below (EndW s room_1.cells room_1.slots) n0 (Q0 Z p0 p1 p2 p3 p4 cs fv h0 n0) T1803 (mkF m 303 #[vI p0, vI p1, vI p2, vI p3, vI p4, vI c0, vI c1, vI c2, vI c3, vI 3, vR b1726, vR b1774, vI d, .unset, .unset, .unset] []) := by
    intro  d hd
    obtain ⟨T1811, h1811, X1811, e1811, E1811, A1811, D1811, -, st1811⟩ := newO X1803 hx hZ hown (wd hw 30 rfl) (wd hw 31 rfl) (wd hw 32 rfl) e1803 (g := (mkF m 303 #[vI p0, vI p1, vI p2, vI p3, vI p4, vI c0, vI c1, vI c2, vI c3, vI 3, vR b1726, vR b1774, vI d, .unset, .unset, .unset] [])) rfl (hb hby at_303) (by decide) (by decide)
    obtain ⟨b1811, g1811⟩ : ∃ z, z = h1803.size := ⟨_, rfl⟩
    rw [← g1811] at A1811 D1811 st1811
    have ne1812 : b1726 ≠ b1811 := Nat.ne_of_lt (g1811 ▸ f1805.lt)
    have ne1813 : r1768 ≠ b1811 := Nat.ne_of_lt (g1811 ▸ (Str.lb f1805).lt)
    have ne1814 : b1774 ≠ b1811 := Nat.ne_of_lt (g1811 ▸ f1806.lt)
    have ge1815 : n0 ≤ b1811 := g1811 ▸ Z1807
    have f1816 := f1804.ext E1811
    have f1817 := f1805.ext E1811
    have f1818 := Exa.ext E1811 f1806
    have f1819 := f1809.ext E1811
    have Z1820 : n0 ≤ h1811.size := Nat.le_trans Z1807 E1811.1
    have f1821 : Fld Z h1811 b1811 "com/example/needlework/needlework/LastOccurrence" "pages" "[[I" .null := D1811 (Or.inr (wd hw 40 rfl)) (ty := (.array (.array .int))) (by decide)
    refine Go.movp st1811 (mkF m 306 #[vI p0, vI p1, vI p2, vI p3, vI p4, vI c0, vI c1, vI c2, vI c3, vI 3, vR b1726, vR b1774, vI d, .unset, .unset, .unset] [(.ref b1811)]) rfl ?_
    refine g_dup X1811 hx (hb hby at_306) (pc' := 307) rfl rfl ?_
    refine g_aload X1811 hx (hb hby at_307) (pc' := 309) rfl rfl rfl ?_
    obtain ⟨v1822, T1822, h1822, L1822, X1822, e1822, N1822, q1822, st1822⟩ := h_special (a := b1811) X1811 hx (W := 1) (Ls := #[vI p0, vI p1, vI p2, vI p3, vI p4, vI c0, vI c1, vI c2, vI c3, vI 3, vR b1726, vR b1774, vI d, .unset, .unset, .unset]) (argsL := [(.ref b1726)]) (rest := [(.ref b1811)]) hZ e1811 N1803 hml hown rfl (rm7_3 l Z a0 hw b1811 b1726 r1768 c0 c1 c2 cs fv h1811 n0 Z1820 f1821 A1811 ge1815 f1817 ne1812 ne1813 B f1816 hc0 hc1 hc2) (wd hw 33 rfl) (wd hw 34 rfl) (wd hw 32 rfl) (wd hw 35 rfl) (by decide) pd__Ljava_lang_CharSequence__V rfl rfl (hb hby at_309) rfl (by decide) (by decide) (by decide) (by decide)
    obtain ⟨rfl, K1822, pa1822, cc1822, F1822, A1822, G1822⟩ := q1822
    have f1823 := f1816.keep K1822 (allS ge1815 all0)
    have f1824 := f1817.keep K1822 (ninS ne1812 nin0) (ninS ne1813 nin0)
    have f1825 := f1818.keep K1822
    have f1826 := f1819.keep K1822 (ninS ne1814 nin0)
    have f1827 := A1811.keep K1822
    have Z1828 : n0 ≤ h1822.size := Nat.le_trans Z1820 K1822.1
    refine Go.movp st1822 (mkF m 312 #[vI p0, vI p1, vI p2, vI p3, vI p4, vI c0, vI c1, vI c2, vI c3, vI 3, vR b1726, vR b1774, vI d, .unset, .unset, .unset] [(.ref b1811)]) rfl ?_
    refine g_astore X1822 hx (hb hby at_312) (pc' := 314) rfl rfl (Ls' := #[vI p0, vI p1, vI p2, vI p3, vI p4, vI c0, vI c1, vI c2, vI c3, vI 3, vR b1726, vR b1774, vI d, vR b1811, .unset, .unset]) rfl ?_
    refine g_aload X1822 hx (hb hby at_314) (pc' := 316) rfl rfl rfl ?_
    refine g_iload X1822 hx (hb hby at_316) (pc' := 318) rfl rfl ?_
    obtain ⟨v1829, T1829, h1829, L1829, X1829, e1829, N1829, q1829, st1829⟩ := h_virtual (a := b1811) (z := (⟨"com/example/needlework/needlework/LastOccurrence", "of", "(C)I"⟩ : MethodName)) X1822 hx (W := 0) (Ls := #[vI p0, vI p1, vI p2, vI p3, vI p4, vI c0, vI c1, vI c2, vI c3, vI 3, vR b1726, vR b1774, vI d, vR b1811, .unset, .unset]) (argsL := [(.int d)]) (rest := []) hZ e1822 N1822 hml hown (rm16 l Z a0 hw b1811 pa1822 d cc1822 (updM (updM (updM (fun _ => -1) (cn c0) (0 : Int32)) (cn c1) (1 : Int32)) (cn c2) (2 : Int32)) _ _ h1822 n0 Z1828 F1822 G1822 hd) A1822 (wd hw 86 rfl) (wd hw 87 rfl) (notFace_of_selects (args := #[]) (mvT hZ (wd hw 89 rfl))) (wd hw 89 rfl) (wd hw 88 rfl) (wd hw 32 rfl) (wd hw 90 rfl) (by decide) pd__C_I rfl rfl (hb hby at_318) rfl (by decide) (by decide) (by decide) (by decide)
    obtain ⟨rfl, rfl⟩ := q1829
    refine Go.movp st1829 (mkF m 321 #[vI p0, vI p1, vI p2, vI p3, vI p4, vI c0, vI c1, vI c2, vI c3, vI 3, vR b1726, vR b1774, vI d, vR b1811, .unset, .unset] [(.int ((updM (updM (updM (fun _ => -1) (cn c0) (0 : Int32)) (cn c1) (1 : Int32)) (cn c2) (2 : Int32)) (cn d)))]) rfl ?_
    refine g_istore X1829 hx (hb hby at_321) (pc' := 323) rfl (Ls' := #[vI p0, vI p1, vI p2, vI p3, vI p4, vI c0, vI c1, vI c2, vI c3, vI 3, vR b1726, vR b1774, vI d, vR b1811, vI ((updM (updM (updM (fun _ => -1) (cn c0) (0 : Int32)) (cn c1) (1 : Int32)) (cn c2) (2 : Int32)) (cn d)), .unset]) rfl ?_
    refine g_iconst X1829 hx (hb hby at_323) (pc' := 324) rfl (z := (-1 : Int32)) rfl ?_
    refine g_istore X1829 hx (hb hby at_324) (pc' := 326) rfl (Ls' := #[vI p0, vI p1, vI p2, vI p3, vI p4, vI c0, vI c1, vI c2, vI c3, vI 3, vR b1726, vR b1774, vI d, vR b1811, vI ((updM (updM (updM (fun _ => -1) (cn c0) (0 : Int32)) (cn c1) (1 : Int32)) (cn c2) (2 : Int32)) (cn d)), vI (-1 : Int32)]) rfl ?_
    have J1830 : ∀ (wt : Int32) (hwt : (updM (updM (updM (fun _ => -1) (cn c0) (0 : Int32)) (cn c1) (1 : Int32)) (cn c2) (2 : Int32)) (cn d) = wt), Go p e below (EndW s room_1.cells room_1.slots) n0 (Q0 Z p0 p1 p2 p3 p4 cs fv h0 n0) T1829 (mkF m 373 #[vI p0, vI p1, vI p2, vI p3, vI p4, vI c0, vI c1, vI c2, vI c3, vI 3, vR b1726, vR b1774, vI d, vR b1811, vI ((updM (updM (updM (fun _ => -1) (cn c0) (0 : Int32)) (cn c1) (1 : Int32)) (cn c2) (2 : Int32)) (cn d)), vI wt] []) := by
     intro  wt hwt
     refine g_iload X1829 hx (hb hby at_373) (pc' := 375) rfl rfl ?_
     refine g_iconst X1829 hx (hb hby at_375) (pc' := 376) rfl (z := 3) rfl ?_
     refine g_icmp_le X1829 hx (hb hby at_376) (pc1 := 379) rfl (by decide) (pc2 := 389) (by decide) (fun hc376 => ?_) (fun hc376 => absurd hc376 (by decide))
     refine g_iload X1829 hx (hb hby at_389) (pc' := 391) rfl rfl ?_
     refine g_iload X1829 hx (hb hby at_391) (pc' := 393) rfl rfl ?_
     refine g_icmp_ne X1829 hx (hb hby at_393) (pc1 := 396) rfl (by decide) (pc2 := 400) (by decide) (fun hc393 => absurd hwt hc393) (fun hc393 => ?_)
     refine g_iconst X1829 hx (hb hby at_396) (pc' := 397) rfl (z := 1) rfl ?_
     refine g_goto X1829 hx (hb hby at_397) (by decide) (pc' := 401) (by decide) ?_
     exact g_zreturn X1829 hx rfl hret (hb hby at_401) N1829 hlk (fun v t => endW (vm0 := s.vm) ((State.WarmedH.refl s).since 0) (Nat.zero_le _) (by decide) (by decide) v) (by rw [e1829]; exact rfl)
    have J1831 : ∀ (wt : Int32) (hwt : (updM (updM (fun _ => -1) (cn c0) (0 : Int32)) (cn c1) (1 : Int32)) (cn d) = wt), Go p e below (EndW s room_1.cells room_1.slots) n0 (Q0 Z p0 p1 p2 p3 p4 cs fv h0 n0) T1829 (mkF m 357 #[vI p0, vI p1, vI p2, vI p3, vI p4, vI c0, vI c1, vI c2, vI c3, vI 3, vR b1726, vR b1774, vI d, vR b1811, vI ((updM (updM (updM (fun _ => -1) (cn c0) (0 : Int32)) (cn c1) (1 : Int32)) (cn c2) (2 : Int32)) (cn d)), vI wt] []) := by
     intro  wt hwt
     refine g_iload X1829 hx (hb hby at_357) (pc' := 359) rfl rfl ?_
     refine g_iconst X1829 hx (hb hby at_359) (pc' := 360) rfl (z := 2) rfl ?_
     refine g_icmp_le X1829 hx (hb hby at_360) (pc1 := 363) rfl (by decide) (pc2 := 373) (by decide) (fun hc360 => absurd (by decide) hc360) (fun hc360 => ?_)
     refine g_iload X1829 hx (hb hby at_363) (pc' := 365) rfl rfl ?_
     refine g_iload X1829 hx (hb hby at_365) (pc' := 367) rfl rfl ?_
     refine g_icmp_ne X1829 hx (hb hby at_367) (pc1 := 370) rfl (by decide) (pc2 := 373) (by decide) (fun hc367 => ?_) (fun hc367 => ?_)
     ·
      exact J1830  wt ((updM_no hc2 hd hc367).trans hwt)
     ·
      refine g_iconst X1829 hx (hb hby at_370) (pc' := 371) rfl (z := 2) rfl ?_
      refine g_istore X1829 hx (hb hby at_371) (pc' := 373) rfl (Ls' := #[vI p0, vI p1, vI p2, vI p3, vI p4, vI c0, vI c1, vI c2, vI c3, vI 3, vR b1726, vR b1774, vI d, vR b1811, vI ((updM (updM (updM (fun _ => -1) (cn c0) (0 : Int32)) (cn c1) (1 : Int32)) (cn c2) (2 : Int32)) (cn d)), vI 2]) rfl ?_
      exact J1830  (2 : Int32) (updM_yes hc367)
    have J1832 : ∀ (wt : Int32) (hwt : (updM (fun _ => -1) (cn c0) (0 : Int32)) (cn d) = wt), Go p e below (EndW s room_1.cells room_1.slots) n0 (Q0 Z p0 p1 p2 p3 p4 cs fv h0 n0) T1829 (mkF m 341 #[vI p0, vI p1, vI p2, vI p3, vI p4, vI c0, vI c1, vI c2, vI c3, vI 3, vR b1726, vR b1774, vI d, vR b1811, vI ((updM (updM (updM (fun _ => -1) (cn c0) (0 : Int32)) (cn c1) (1 : Int32)) (cn c2) (2 : Int32)) (cn d)), vI wt] []) := by
     intro  wt hwt
     refine g_iload X1829 hx (hb hby at_341) (pc' := 343) rfl rfl ?_
     refine g_iconst X1829 hx (hb hby at_343) (pc' := 344) rfl (z := 1) rfl ?_
     refine g_icmp_le X1829 hx (hb hby at_344) (pc1 := 347) rfl (by decide) (pc2 := 357) (by decide) (fun hc344 => absurd (by decide) hc344) (fun hc344 => ?_)
     refine g_iload X1829 hx (hb hby at_347) (pc' := 349) rfl rfl ?_
     refine g_iload X1829 hx (hb hby at_349) (pc' := 351) rfl rfl ?_
     refine g_icmp_ne X1829 hx (hb hby at_351) (pc1 := 354) rfl (by decide) (pc2 := 357) (by decide) (fun hc351 => ?_) (fun hc351 => ?_)
     ·
      exact J1831  wt ((updM_no hc1 hd hc351).trans hwt)
     ·
      refine g_iconst X1829 hx (hb hby at_354) (pc' := 355) rfl (z := 1) rfl ?_
      refine g_istore X1829 hx (hb hby at_355) (pc' := 357) rfl (Ls' := #[vI p0, vI p1, vI p2, vI p3, vI p4, vI c0, vI c1, vI c2, vI c3, vI 3, vR b1726, vR b1774, vI d, vR b1811, vI ((updM (updM (updM (fun _ => -1) (cn c0) (0 : Int32)) (cn c1) (1 : Int32)) (cn c2) (2 : Int32)) (cn d)), vI 1]) rfl ?_
      exact J1831  (1 : Int32) (updM_yes hc351)
    refine g_iload X1829 hx (hb hby at_326) (pc' := 328) rfl rfl ?_
    refine g_if_le X1829 hx (hb hby at_328) (pc1 := 331) rfl (by decide) (pc2 := 341) (by decide) (fun hc328 => absurd (by decide) hc328) (fun hc328 => ?_)
    refine g_iload X1829 hx (hb hby at_331) (pc' := 333) rfl rfl ?_
    refine g_iload X1829 hx (hb hby at_333) (pc' := 335) rfl rfl ?_
    refine g_icmp_ne X1829 hx (hb hby at_335) (pc1 := 338) rfl (by decide) (pc2 := 341) (by decide) (fun hc335 => ?_) (fun hc335 => ?_)
    ·
     exact J1832  (-1 : Int32) ((updM_no hc0 hd hc335).trans rfl)
    ·
     refine g_iconst X1829 hx (hb hby at_338) (pc' := 339) rfl (z := 0) rfl ?_
     refine g_istore X1829 hx (hb hby at_339) (pc' := 341) rfl (Ls' := #[vI p0, vI p1, vI p2, vI p3, vI p4, vI c0, vI c1, vI c2, vI c3, vI 3, vR b1726, vR b1774, vI d, vR b1811, vI ((updM (updM (updM (fun _ => -1) (cn c0) (0 : Int32)) (cn c1) (1 : Int32)) (cn c2) (2 : Int32)) (cn d)), vI 0]) rfl ?_
     exact J1832  (0 : Int32) (updM_yes hc335)
   have J1833 : ∀ (dx : Int32) (hdx : chr dx = dx), Go p e below (EndW s room_1.cells room_1.slots) n0 (Q0 Z p0 p1 p2 p3 p4 cs fv h0 n0) T1803 (mkF m 277 #[vI p0, vI p1, vI p2, vI p3, vI p4, vI c0, vI c1, vI c2, vI c3, vI 3, vR b1726, vR b1774, vI dx, .unset, .unset, .unset] []) := by
    intro  dx hdx
    refine g_iload X1803 hx (hb hby at_277) (pc' := 279) rfl rfl ?_
    refine g_bipush X1803 hx (hb hby at_279) (pc' := 281) rfl (z := 8) rfl ?_
    refine g_iand X1803 hx (hb hby at_281) (pc' := 282) rfl ?_
    refine g_if_eq X1803 hx (hb hby at_282) (pc1 := 285) rfl (by decide) (pc2 := 303) (by decide) (fun hc282 => ?_) (fun hc282 => ?_)
    ·
     exact J1810  dx hdx
    ·
     refine g_iload X1803 hx (hb hby at_285) (pc' := 287) rfl rfl ?_
     refine g_ldc X1803 hx hZ hown (wd hw 91 rfl) (hb hby at_287) (pc' := 289) rfl ?_
     refine g_iand X1803 hx (hb hby at_289) (pc' := 290) rfl ?_
     refine g_iload X1803 hx (hb hby at_290) (pc' := 292) rfl rfl ?_
     refine g_bipush X1803 hx (hb hby at_292) (pc' := 294) rfl (z := 8) rfl ?_
     refine g_iushr X1803 hx (hb hby at_294) (pc' := 295) rfl ?_
     refine g_sipush X1803 hx (hb hby at_295) (pc' := 298) rfl (z := 255) rfl ?_
     refine g_iand X1803 hx (hb hby at_298) (pc' := 299) rfl ?_
     refine g_ior X1803 hx (hb hby at_299) (pc' := 300) rfl ?_
     refine g_i2c X1803 hx (hb hby at_300) (pc' := 301) rfl ?_
     refine g_istore X1803 hx (hb hby at_301) (pc' := 303) rfl (Ls' := #[vI p0, vI p1, vI p2, vI p3, vI p4, vI c0, vI c1, vI c2, vI c3, vI 3, vR b1726, vR b1774, vI (chr ((dx &&& (65280 : Int32)) ||| ((ushr p4 (8 : Int32)) &&& (255 : Int32)))), .unset, .unset, .unset]) rfl ?_
     exact J1810  (chr ((dx &&& (65280 : Int32)) ||| ((ushr p4 (8 : Int32)) &&& (255 : Int32)))) (chr_chr _)
   refine g_iload X1803 hx (hb hby at_259) (pc' := 261) rfl rfl ?_
   refine g_iconst X1803 hx (hb hby at_261) (pc' := 262) rfl (z := 1) rfl ?_
   refine g_iand X1803 hx (hb hby at_262) (pc' := 263) rfl ?_
   refine g_if_eq X1803 hx (hb hby at_263) (pc1 := 266) rfl (by decide) (pc2 := 277) (by decide) (fun hc263 => ?_) (fun hc263 => ?_)
   ·
    exact J1833  dq hdq
   ·
    refine g_aload X1803 hx (hb hby at_266) (pc' := 268) rfl rfl rfl ?_
    refine g_iload X1803 hx (hb hby at_268) (pc' := 270) rfl rfl ?_
    refine g_iconst X1803 hx (hb hby at_270) (pc' := 271) rfl (z := 1) rfl ?_
    refine g_iushr X1803 hx (hb hby at_271) (pc' := 272) rfl ?_
    refine g_iconst X1803 hx (hb hby at_272) (pc' := 273) rfl (z := 3) rfl ?_
    refine g_iand X1803 hx (hb hby at_273) (pc' := 274) rfl ?_
    rcases own_and3 (ushr p4 (1 : Int32)) with q3 | q3 | q3 | q3
    ·
     refine Go.cast (show (mkF m 274 #[vI p0, vI p1, vI p2, vI p3, vI p4, vI c0, vI c1, vI c2, vI c3, vI 3, vR b1726, vR b1774, vI dq, .unset, .unset, .unset] [(.int ((ushr p4 (1 : Int32)) &&& (3 : Int32))), (.ref b1774)]) = (mkF m 274 #[vI p0, vI p1, vI p2, vI p3, vI p4, vI c0, vI c1, vI c2, vI c3, vI 3, vR b1726, vR b1774, vI dq, .unset, .unset, .unset] [(.int 0), (.ref b1774)]) from by rw [show ((ushr p4 (1 : Int32)) &&& (3 : Int32)) = (0 : Int32) from q3]) ?_
     refine g_caload X1803 hx hZ e1803 f1809 (i := 0) (v := (.int c0)) (hb hby at_274) (pc' := 275) rfl (by decide) rfl rfl ?_
     refine g_istore X1803 hx (hb hby at_275) (pc' := 277) rfl (Ls' := #[vI p0, vI p1, vI p2, vI p3, vI p4, vI c0, vI c1, vI c2, vI c3, vI 3, vR b1726, vR b1774, vI c0, .unset, .unset, .unset]) rfl ?_
     exact J1833  c0 hc0
    ·
     refine Go.cast (show (mkF m 274 #[vI p0, vI p1, vI p2, vI p3, vI p4, vI c0, vI c1, vI c2, vI c3, vI 3, vR b1726, vR b1774, vI dq, .unset, .unset, .unset] [(.int ((ushr p4 (1 : Int32)) &&& (3 : Int32))), (.ref b1774)]) = (mkF m 274 #[vI p0, vI p1, vI p2, vI p3, vI p4, vI c0, vI c1, vI c2, vI c3, vI 3, vR b1726, vR b1774, vI dq, .unset, .unset, .unset] [(.int 1), (.ref b1774)]) from by rw [show ((ushr p4 (1 : Int32)) &&& (3 : Int32)) = (1 : Int32) from q3]) ?_
     refine g_caload X1803 hx hZ e1803 f1809 (i := 1) (v := (.int c1)) (hb hby at_274) (pc' := 275) rfl (by decide) rfl rfl ?_
     refine g_istore X1803 hx (hb hby at_275) (pc' := 277) rfl (Ls' := #[vI p0, vI p1, vI p2, vI p3, vI p4, vI c0, vI c1, vI c2, vI c3, vI 3, vR b1726, vR b1774, vI c1, .unset, .unset, .unset]) rfl ?_
     exact J1833  c1 hc1
    ·
     refine Go.cast (show (mkF m 274 #[vI p0, vI p1, vI p2, vI p3, vI p4, vI c0, vI c1, vI c2, vI c3, vI 3, vR b1726, vR b1774, vI dq, .unset, .unset, .unset] [(.int ((ushr p4 (1 : Int32)) &&& (3 : Int32))), (.ref b1774)]) = (mkF m 274 #[vI p0, vI p1, vI p2, vI p3, vI p4, vI c0, vI c1, vI c2, vI c3, vI 3, vR b1726, vR b1774, vI dq, .unset, .unset, .unset] [(.int 2), (.ref b1774)]) from by rw [show ((ushr p4 (1 : Int32)) &&& (3 : Int32)) = (2 : Int32) from q3]) ?_
     refine g_caload X1803 hx hZ e1803 f1809 (i := 2) (v := (.int c2)) (hb hby at_274) (pc' := 275) rfl (by decide) rfl rfl ?_
     refine g_istore X1803 hx (hb hby at_275) (pc' := 277) rfl (Ls' := #[vI p0, vI p1, vI p2, vI p3, vI p4, vI c0, vI c1, vI c2, vI c3, vI 3, vR b1726, vR b1774, vI c2, .unset, .unset, .unset]) rfl ?_
     exact J1833  c2 hc2
    ·
     refine Go.cast (show (mkF m 274 #[vI p0, vI p1, vI p2, vI p3, vI p4, vI c0, vI c1, vI c2, vI c3, vI 3, vR b1726, vR b1774, vI dq, .unset, .unset, .unset] [(.int ((ushr p4 (1 : Int32)) &&& (3 : Int32))), (.ref b1774)]) = (mkF m 274 #[vI p0, vI p1, vI p2, vI p3, vI p4, vI c0, vI c1, vI c2, vI c3, vI 3, vR b1726, vR b1774, vI dq, .unset, .unset, .unset] [(.int 3), (.ref b1774)]) from by rw [show ((ushr p4 (1 : Int32)) &&& (3 : Int32)) = (3 : Int32) from q3]) ?_
     refine g_caload X1803 hx hZ e1803 f1809 (i := 3) (v := (.int c3)) (hb hby at_274) (pc' := 275) rfl (by decide) rfl rfl ?_
     refine g_istore X1803 hx (hb hby at_275) (pc' := 277) rfl (Ls' := #[vI p0, vI p1, vI p2, vI p3, vI p4, vI c0, vI c1, vI c2, vI c3, vI 3, vR b1726, vR b1774, vI c3, .unset, .unset, .unset]) rfl ?_
     exact J1833  c3 hc3
  ·
   refine Go.cast (show (mkF m 83 #[vI p0, vI p1, vI p2, vI p3, vI p4, vI c0, vI c1, vI c2, vI c3, .unset, .unset, .unset, .unset, .unset, .unset, .unset] [(.int ((p2 &&& (7 : Int32)) % (5 : Int32)))]) = (mkF m 83 #[vI p0, vI p1, vI p2, vI p3, vI p4, vI c0, vI c1, vI c2, vI c3, .unset, .unset, .unset, .unset, .unset, .unset, .unset] [(.int 4)]) from by rw [show ((p2 &&& (7 : Int32)) % (5 : Int32)) = (4 : Int32) from ql]) ?_
   refine g_istore X0 hx (hb hby at_83) (pc' := 85) rfl (Ls' := #[vI p0, vI p1, vI p2, vI p3, vI p4, vI c0, vI c1, vI c2, vI c3, vI 4, .unset, .unset, .unset, .unset, .unset, .unset]) rfl ?_
   refine g_iload X0 hx (hb hby at_85) (pc' := 87) rfl rfl ?_
   refine g_if_ne X0 hx (hb hby at_87) (pc1 := 90) rfl (by decide) (pc2 := 105) (by decide) (fun hc87 => ?_) (fun hc87 => absurd hc87 (by decide))
   refine g_iload X0 hx (hb hby at_105) (pc' := 107) rfl rfl ?_
   refine g_iconst X0 hx (hb hby at_107) (pc' := 108) rfl (z := 1) rfl ?_
   refine g_icmp_ne X0 hx (hb hby at_108) (pc1 := 111) rfl (by decide) (pc2 := 131) (by decide) (fun hc108 => ?_) (fun hc108 => absurd hc108 (by decide))
   refine g_iload X0 hx (hb hby at_131) (pc' := 133) rfl rfl ?_
   refine g_iconst X0 hx (hb hby at_133) (pc' := 134) rfl (z := 2) rfl ?_
   refine g_icmp_ne X0 hx (hb hby at_134) (pc1 := 137) rfl (by decide) (pc2 := 162) (by decide) (fun hc134 => ?_) (fun hc134 => absurd hc134 (by decide))
   refine g_iload X0 hx (hb hby at_162) (pc' := 164) rfl rfl ?_
   refine g_iconst X0 hx (hb hby at_164) (pc' := 165) rfl (z := 3) rfl ?_
   refine g_icmp_ne X0 hx (hb hby at_165) (pc1 := 168) rfl (by decide) (pc2 := 198) (by decide) (fun hc165 => ?_) (fun hc165 => absurd hc165 (by decide))
   obtain ⟨T1834, h1834, X1834, e1834, E1834, A1834, D1834, -, st1834⟩ := newO X0 hx hZ hown (wd hw 0 rfl) (wd hw 1 rfl) (wd hw 2 rfl) e0 (g := (mkF m 198 #[vI p0, vI p1, vI p2, vI p3, vI p4, vI c0, vI c1, vI c2, vI c3, vI 4, .unset, .unset, .unset, .unset, .unset, .unset] [])) rfl (hb hby at_198) (by decide) (by decide)
   obtain ⟨b1834, g1834⟩ : ∃ z, z = h0.size := ⟨_, rfl⟩
   rw [← g1834] at A1834 D1834 st1834
   have ge1835 : n0 ≤ b1834 := g1834 ▸ Z0
   have f1836 := O.ext E1834
   have Z1837 : n0 ≤ h1834.size := Nat.le_trans Z0 E1834.1
   have f1838 : Fld Z h1834 b1834 "java/lang/String" "coder" "B" (.int 0) := D1834 (Or.inr (wd hw 27 rfl)) (ty := .byte) (by decide)
   have f1839 : Fld Z h1834 b1834 "java/lang/String" "value" "[B" .null := D1834 (Or.inr (wd hw 29 rfl)) (ty := (.array .byte)) (by decide)
   refine Go.movp st1834 (mkF m 201 #[vI p0, vI p1, vI p2, vI p3, vI p4, vI c0, vI c1, vI c2, vI c3, vI 4, .unset, .unset, .unset, .unset, .unset, .unset] [(.ref b1834)]) rfl ?_
   refine g_dup X1834 hx (hb hby at_201) (pc' := 202) rfl rfl ?_
   refine g_iconst X1834 hx (hb hby at_202) (pc' := 203) rfl (z := 4) rfl ?_
   obtain ⟨T1840, h1840, b1840, X1840, e1840, g1840, E1840, V1840, A1840, st1840⟩ := h_newarray X1834 hx hZ e1834 (n := (4 : Int32)) (ty := .char) rfl (wd hw 3 rfl) (hb hby at_203) (k := 4) (cap := 4) (by decide) rfl (by decide) (by decide) (by decide) (by decide) (ad := "[C") (by decide) #[vI p0, vI p1, vI p2, vI p3, vI p4, vI c0, vI c1, vI c2, vI c3, vI 4, .unset, .unset, .unset, .unset, .unset, .unset] [(.ref b1834), (.ref b1834)]
   have ne1841 : b1834 ≠ b1840 := Nat.ne_of_lt (g1840 ▸ A1834.lt)
   have ge1842 : n0 ≤ b1840 := g1840 ▸ Z1837
   have f1843 := f1836.ext E1840
   have f1844 := Exa.ext E1840 A1834
   have f1845 := Fld.ext E1840 f1838
   have f1846 := Fld.ext E1840 f1839
   have Z1847 : n0 ≤ h1840.size := Nat.le_trans Z1837 E1840.1
   have f1848 : Va Z h1840 b1840 .char [(.int 0), (.int 0), (.int 0), (.int 0)] := V1840
   refine Go.movp st1840 (mkF m 205 #[vI p0, vI p1, vI p2, vI p3, vI p4, vI c0, vI c1, vI c2, vI c3, vI 4, .unset, .unset, .unset, .unset, .unset, .unset] [(.ref b1840), (.ref b1834), (.ref b1834)]) rfl ?_
   refine g_dup X1840 hx (hb hby at_205) (pc' := 206) rfl rfl ?_
   refine g_iconst X1840 hx (hb hby at_206) (pc' := 207) rfl (z := 0) rfl ?_
   refine g_iload X1840 hx (hb hby at_207) (pc' := 209) rfl rfl ?_
   obtain ⟨T1849, h1849, L1849, X1849, e1849, N1849, W1849, V1849, st1849⟩ := h_castore X1840 hx hZ e1840 N0 f1848 ge1842 (j := (0 : Int32)) (i := 0) (x := c0) (hb hby at_209) (by decide) rfl rfl #[vI p0, vI p1, vI p2, vI p3, vI p4, vI c0, vI c1, vI c2, vI c3, vI 4, .unset, .unset, .unset, .unset, .unset, .unset] [(.ref b1840), (.ref b1834), (.ref b1834)]
   have f1850 := f1843.wr W1849 ge1842
   have f1851 := Exa.wr W1849 f1844
   have f1852 := Fld.other W1849 f1845 (Or.inl ne1841)
   have f1853 := Fld.other W1849 f1846 (Or.inl ne1841)
   have f1854 := Exa.wr W1849 A1840
   have Z1855 : n0 ≤ h1849.size := Nat.le_trans Z1847 (Keep.of_wr W1849).1
   have f1856 : Va Z h1849 b1840 .char [(.int (chr c0)), (.int 0), (.int 0), (.int 0)] := V1849
   have f1857 : Va Z h1849 b1840 .char [(.int c0), (.int 0), (.int 0), (.int 0)] := by rw [show (chr c0) = c0 from hc0] at f1856; exact f1856
   refine Go.movp st1849 (mkF m 210 #[vI p0, vI p1, vI p2, vI p3, vI p4, vI c0, vI c1, vI c2, vI c3, vI 4, .unset, .unset, .unset, .unset, .unset, .unset] [(.ref b1840), (.ref b1834), (.ref b1834)]) rfl ?_
   refine g_dup X1849 hx (hb hby at_210) (pc' := 211) rfl rfl ?_
   refine g_iconst X1849 hx (hb hby at_211) (pc' := 212) rfl (z := 1) rfl ?_
   refine g_iload X1849 hx (hb hby at_212) (pc' := 214) rfl rfl ?_
   obtain ⟨T1858, h1858, L1858, X1858, e1858, N1858, W1858, V1858, st1858⟩ := h_castore X1849 hx hZ e1849 N1849 f1857 ge1842 (j := (1 : Int32)) (i := 1) (x := c1) (hb hby at_214) (by decide) rfl rfl #[vI p0, vI p1, vI p2, vI p3, vI p4, vI c0, vI c1, vI c2, vI c3, vI 4, .unset, .unset, .unset, .unset, .unset, .unset] [(.ref b1840), (.ref b1834), (.ref b1834)]
   have f1859 := f1850.wr W1858 ge1842
   have f1860 := Exa.wr W1858 f1851
   have f1861 := Fld.other W1858 f1852 (Or.inl ne1841)
   have f1862 := Fld.other W1858 f1853 (Or.inl ne1841)
   have f1863 := Exa.wr W1858 f1854
   have Z1864 : n0 ≤ h1858.size := Nat.le_trans Z1855 (Keep.of_wr W1858).1
   have f1865 : Va Z h1858 b1840 .char [(.int c0), (.int (chr c1)), (.int 0), (.int 0)] := V1858
   have f1866 : Va Z h1858 b1840 .char [(.int c0), (.int c1), (.int 0), (.int 0)] := by rw [show (chr c1) = c1 from hc1] at f1865; exact f1865
   refine Go.movp st1858 (mkF m 215 #[vI p0, vI p1, vI p2, vI p3, vI p4, vI c0, vI c1, vI c2, vI c3, vI 4, .unset, .unset, .unset, .unset, .unset, .unset] [(.ref b1840), (.ref b1834), (.ref b1834)]) rfl ?_
   refine g_dup X1858 hx (hb hby at_215) (pc' := 216) rfl rfl ?_
   refine g_iconst X1858 hx (hb hby at_216) (pc' := 217) rfl (z := 2) rfl ?_
   refine g_iload X1858 hx (hb hby at_217) (pc' := 219) rfl rfl ?_
   obtain ⟨T1867, h1867, L1867, X1867, e1867, N1867, W1867, V1867, st1867⟩ := h_castore X1858 hx hZ e1858 N1858 f1866 ge1842 (j := (2 : Int32)) (i := 2) (x := c2) (hb hby at_219) (by decide) rfl rfl #[vI p0, vI p1, vI p2, vI p3, vI p4, vI c0, vI c1, vI c2, vI c3, vI 4, .unset, .unset, .unset, .unset, .unset, .unset] [(.ref b1840), (.ref b1834), (.ref b1834)]
   have f1868 := f1859.wr W1867 ge1842
   have f1869 := Exa.wr W1867 f1860
   have f1870 := Fld.other W1867 f1861 (Or.inl ne1841)
   have f1871 := Fld.other W1867 f1862 (Or.inl ne1841)
   have f1872 := Exa.wr W1867 f1863
   have Z1873 : n0 ≤ h1867.size := Nat.le_trans Z1864 (Keep.of_wr W1867).1
   have f1874 : Va Z h1867 b1840 .char [(.int c0), (.int c1), (.int (chr c2)), (.int 0)] := V1867
   have f1875 : Va Z h1867 b1840 .char [(.int c0), (.int c1), (.int c2), (.int 0)] := by rw [show (chr c2) = c2 from hc2] at f1874; exact f1874
   refine Go.movp st1867 (mkF m 220 #[vI p0, vI p1, vI p2, vI p3, vI p4, vI c0, vI c1, vI c2, vI c3, vI 4, .unset, .unset, .unset, .unset, .unset, .unset] [(.ref b1840), (.ref b1834), (.ref b1834)]) rfl ?_
   refine g_dup X1867 hx (hb hby at_220) (pc' := 221) rfl rfl ?_
   refine g_iconst X1867 hx (hb hby at_221) (pc' := 222) rfl (z := 3) rfl ?_
   refine g_iload X1867 hx (hb hby at_222) (pc' := 224) rfl rfl ?_
   obtain ⟨T1876, h1876, L1876, X1876, e1876, N1876, W1876, V1876, st1876⟩ := h_castore X1867 hx hZ e1867 N1867 f1875 ge1842 (j := (3 : Int32)) (i := 3) (x := c3) (hb hby at_224) (by decide) rfl rfl #[vI p0, vI p1, vI p2, vI p3, vI p4, vI c0, vI c1, vI c2, vI c3, vI 4, .unset, .unset, .unset, .unset, .unset, .unset] [(.ref b1840), (.ref b1834), (.ref b1834)]
   have f1877 := f1868.wr W1876 ge1842
   have f1878 := Exa.wr W1876 f1869
   have f1879 := Fld.other W1876 f1870 (Or.inl ne1841)
   have f1880 := Fld.other W1876 f1871 (Or.inl ne1841)
   have f1881 := Exa.wr W1876 f1872
   have Z1882 : n0 ≤ h1876.size := Nat.le_trans Z1873 (Keep.of_wr W1876).1
   have f1883 : Va Z h1876 b1840 .char [(.int c0), (.int c1), (.int c2), (.int (chr c3))] := V1876
   have f1884 : Va Z h1876 b1840 .char [(.int c0), (.int c1), (.int c2), (.int c3)] := by rw [show (chr c3) = c3 from hc3] at f1883; exact f1883
   refine Go.movp st1876 (mkF m 225 #[vI p0, vI p1, vI p2, vI p3, vI p4, vI c0, vI c1, vI c2, vI c3, vI 4, .unset, .unset, .unset, .unset, .unset, .unset] [(.ref b1840), (.ref b1834), (.ref b1834)]) rfl ?_
   obtain ⟨v1885, T1885, h1885, L1885, X1885, e1885, N1885, q1885, st1885⟩ := h_special (a := b1834) X1876 hx (W := 1) (Ls := #[vI p0, vI p1, vI p2, vI p3, vI p4, vI c0, vI c1, vI c2, vI c3, vI 4, .unset, .unset, .unset, .unset, .unset, .unset]) (argsL := [(.ref b1840)]) (rest := [(.ref b1834)]) hZ e1876 N1876 hml hown rfl (rm1_4 l Z a0 hw b1834 b1840 c0 c1 c2 c3 cs fv h1876 n0 Z1882 f1880 f1879 f1878 ge1835 f1884 (Ne.symm ne1841) B f1877 hc0 hc1 hc2 hc3) (wd hw 4 rfl) (wd hw 5 rfl) (wd hw 2 rfl) (wd hw 6 rfl) (by decide) pd___C_V rfl rfl (hb hby at_225) rfl (by decide) (by decide) (by decide) (by decide)
   obtain ⟨rfl, K1885, r1885, sz1885, U1885⟩ := q1885
   have f1886 := f1877.keep K1885 (allS ge1835 all0)
   have f1887 := f1878.keep K1885
   have f1888 := f1881.keep K1885
   have f1889 := f1884.keep K1885 (ninS (Ne.symm ne1841) nin0)
   have Z1890 : n0 ≤ h1885.size := Nat.le_trans Z1882 K1885.1
   refine Go.movp st1885 (mkF m 228 #[vI p0, vI p1, vI p2, vI p3, vI p4, vI c0, vI c1, vI c2, vI c3, vI 4, .unset, .unset, .unset, .unset, .unset, .unset] [(.ref b1834)]) rfl ?_
   refine g_astore X1885 hx (hb hby at_228) (pc' := 230) rfl rfl (Ls' := #[vI p0, vI p1, vI p2, vI p3, vI p4, vI c0, vI c1, vI c2, vI c3, vI 4, vR b1834, .unset, .unset, .unset, .unset, .unset]) rfl ?_
   refine g_iconst X1885 hx (hb hby at_230) (pc' := 231) rfl (z := 4) rfl ?_
   obtain ⟨T1891, h1891, b1891, X1891, e1891, g1891, E1891, V1891, A1891, st1891⟩ := h_newarray X1885 hx hZ e1885 (n := (4 : Int32)) (ty := .char) rfl (wd hw 3 rfl) (hb hby at_231) (k := 4) (cap := 4) (by decide) rfl (by decide) (by decide) (by decide) (by decide) (ad := "[C") (by decide) #[vI p0, vI p1, vI p2, vI p3, vI p4, vI c0, vI c1, vI c2, vI c3, vI 4, vR b1834, .unset, .unset, .unset, .unset, .unset] []
   have ne1892 : b1834 ≠ b1891 := Nat.ne_of_lt (g1891 ▸ U1885.lt)
   have ne1893 : r1885 ≠ b1891 := Nat.ne_of_lt (g1891 ▸ (Str.lb U1885).lt)
   have ge1894 : n0 ≤ b1891 := g1891 ▸ Z1890
   have f1895 := f1886.ext E1891
   have f1896 := U1885.ext E1891
   have Z1897 : n0 ≤ h1891.size := Nat.le_trans Z1890 E1891.1
   have f1898 : Va Z h1891 b1891 .char [(.int 0), (.int 0), (.int 0), (.int 0)] := V1891
   refine Go.movp st1891 (mkF m 233 #[vI p0, vI p1, vI p2, vI p3, vI p4, vI c0, vI c1, vI c2, vI c3, vI 4, vR b1834, .unset, .unset, .unset, .unset, .unset] [(.ref b1891)]) rfl ?_
   refine g_dup X1891 hx (hb hby at_233) (pc' := 234) rfl rfl ?_
   refine g_iconst X1891 hx (hb hby at_234) (pc' := 235) rfl (z := 0) rfl ?_
   refine g_iload X1891 hx (hb hby at_235) (pc' := 237) rfl rfl ?_
   obtain ⟨T1899, h1899, L1899, X1899, e1899, N1899, W1899, V1899, st1899⟩ := h_castore X1891 hx hZ e1891 N1885 f1898 ge1894 (j := (0 : Int32)) (i := 0) (x := c0) (hb hby at_237) (by decide) rfl rfl #[vI p0, vI p1, vI p2, vI p3, vI p4, vI c0, vI c1, vI c2, vI c3, vI 4, vR b1834, .unset, .unset, .unset, .unset, .unset] [(.ref b1891)]
   have f1900 := f1895.wr W1899 ge1894
   have f1901 := f1896.wr W1899 ne1892 ne1893
   have f1902 := Exa.wr W1899 A1891
   have Z1903 : n0 ≤ h1899.size := Nat.le_trans Z1897 (Keep.of_wr W1899).1
   have f1904 : Va Z h1899 b1891 .char [(.int (chr c0)), (.int 0), (.int 0), (.int 0)] := V1899
   have f1905 : Va Z h1899 b1891 .char [(.int c0), (.int 0), (.int 0), (.int 0)] := by rw [show (chr c0) = c0 from hc0] at f1904; exact f1904
   refine Go.movp st1899 (mkF m 238 #[vI p0, vI p1, vI p2, vI p3, vI p4, vI c0, vI c1, vI c2, vI c3, vI 4, vR b1834, .unset, .unset, .unset, .unset, .unset] [(.ref b1891)]) rfl ?_
   refine g_dup X1899 hx (hb hby at_238) (pc' := 239) rfl rfl ?_
   refine g_iconst X1899 hx (hb hby at_239) (pc' := 240) rfl (z := 1) rfl ?_
   refine g_iload X1899 hx (hb hby at_240) (pc' := 242) rfl rfl ?_
   obtain ⟨T1906, h1906, L1906, X1906, e1906, N1906, W1906, V1906, st1906⟩ := h_castore X1899 hx hZ e1899 N1899 f1905 ge1894 (j := (1 : Int32)) (i := 1) (x := c1) (hb hby at_242) (by decide) rfl rfl #[vI p0, vI p1, vI p2, vI p3, vI p4, vI c0, vI c1, vI c2, vI c3, vI 4, vR b1834, .unset, .unset, .unset, .unset, .unset] [(.ref b1891)]
   have f1907 := f1900.wr W1906 ge1894
   have f1908 := f1901.wr W1906 ne1892 ne1893
   have f1909 := Exa.wr W1906 f1902
   have Z1910 : n0 ≤ h1906.size := Nat.le_trans Z1903 (Keep.of_wr W1906).1
   have f1911 : Va Z h1906 b1891 .char [(.int c0), (.int (chr c1)), (.int 0), (.int 0)] := V1906
   have f1912 : Va Z h1906 b1891 .char [(.int c0), (.int c1), (.int 0), (.int 0)] := by rw [show (chr c1) = c1 from hc1] at f1911; exact f1911
   refine Go.movp st1906 (mkF m 243 #[vI p0, vI p1, vI p2, vI p3, vI p4, vI c0, vI c1, vI c2, vI c3, vI 4, vR b1834, .unset, .unset, .unset, .unset, .unset] [(.ref b1891)]) rfl ?_
   refine g_dup X1906 hx (hb hby at_243) (pc' := 244) rfl rfl ?_
   refine g_iconst X1906 hx (hb hby at_244) (pc' := 245) rfl (z := 2) rfl ?_
   refine g_iload X1906 hx (hb hby at_245) (pc' := 247) rfl rfl ?_
   obtain ⟨T1913, h1913, L1913, X1913, e1913, N1913, W1913, V1913, st1913⟩ := h_castore X1906 hx hZ e1906 N1906 f1912 ge1894 (j := (2 : Int32)) (i := 2) (x := c2) (hb hby at_247) (by decide) rfl rfl #[vI p0, vI p1, vI p2, vI p3, vI p4, vI c0, vI c1, vI c2, vI c3, vI 4, vR b1834, .unset, .unset, .unset, .unset, .unset] [(.ref b1891)]
   have f1914 := f1907.wr W1913 ge1894
   have f1915 := f1908.wr W1913 ne1892 ne1893
   have f1916 := Exa.wr W1913 f1909
   have Z1917 : n0 ≤ h1913.size := Nat.le_trans Z1910 (Keep.of_wr W1913).1
   have f1918 : Va Z h1913 b1891 .char [(.int c0), (.int c1), (.int (chr c2)), (.int 0)] := V1913
   have f1919 : Va Z h1913 b1891 .char [(.int c0), (.int c1), (.int c2), (.int 0)] := by rw [show (chr c2) = c2 from hc2] at f1918; exact f1918
   refine Go.movp st1913 (mkF m 248 #[vI p0, vI p1, vI p2, vI p3, vI p4, vI c0, vI c1, vI c2, vI c3, vI 4, vR b1834, .unset, .unset, .unset, .unset, .unset] [(.ref b1891)]) rfl ?_
   refine g_dup X1913 hx (hb hby at_248) (pc' := 249) rfl rfl ?_
   refine g_iconst X1913 hx (hb hby at_249) (pc' := 250) rfl (z := 3) rfl ?_
   refine g_iload X1913 hx (hb hby at_250) (pc' := 252) rfl rfl ?_
   obtain ⟨T1920, h1920, L1920, X1920, e1920, N1920, W1920, V1920, st1920⟩ := h_castore X1913 hx hZ e1913 N1913 f1919 ge1894 (j := (3 : Int32)) (i := 3) (x := c3) (hb hby at_252) (by decide) rfl rfl #[vI p0, vI p1, vI p2, vI p3, vI p4, vI c0, vI c1, vI c2, vI c3, vI 4, vR b1834, .unset, .unset, .unset, .unset, .unset] [(.ref b1891)]
   have f1921 := f1914.wr W1920 ge1894
   have f1922 := f1915.wr W1920 ne1892 ne1893
   have f1923 := Exa.wr W1920 f1916
   have Z1924 : n0 ≤ h1920.size := Nat.le_trans Z1917 (Keep.of_wr W1920).1
   have f1925 : Va Z h1920 b1891 .char [(.int c0), (.int c1), (.int c2), (.int (chr c3))] := V1920
   have f1926 : Va Z h1920 b1891 .char [(.int c0), (.int c1), (.int c2), (.int c3)] := by rw [show (chr c3) = c3 from hc3] at f1925; exact f1925
   refine Go.movp st1920 (mkF m 253 #[vI p0, vI p1, vI p2, vI p3, vI p4, vI c0, vI c1, vI c2, vI c3, vI 4, vR b1834, .unset, .unset, .unset, .unset, .unset] [(.ref b1891)]) rfl ?_
   refine g_astore X1920 hx (hb hby at_253) (pc' := 255) rfl rfl (Ls' := #[vI p0, vI p1, vI p2, vI p3, vI p4, vI c0, vI c1, vI c2, vI c3, vI 4, vR b1834, vR b1891, .unset, .unset, .unset, .unset]) rfl ?_
   refine g_iloadN X1920 hx (hb hby at_255) (pc' := 256) rfl rfl ?_
   refine g_i2c X1920 hx (hb hby at_256) (pc' := 257) rfl ?_
   obtain ⟨dq, edq⟩ : ∃ z : Int32, z = (chr p3) := ⟨_, rfl⟩
   refine Go.cast (show (mkF m 257 #[vI p0, vI p1, vI p2, vI p3, vI p4, vI c0, vI c1, vI c2, vI c3, vI 4, vR b1834, vR b1891, .unset, .unset, .unset, .unset] [(.int (chr p3))]) = (mkF m 257 #[vI p0, vI p1, vI p2, vI p3, vI p4, vI c0, vI c1, vI c2, vI c3, vI 4, vR b1834, vR b1891, .unset, .unset, .unset, .unset] [(.int dq)]) from by rw [edq]) ?_
   refine g_istore X1920 hx (hb hby at_257) (pc' := 259) rfl (Ls' := #[vI p0, vI p1, vI p2, vI p3, vI p4, vI c0, vI c1, vI c2, vI c3, vI 4, vR b1834, vR b1891, vI dq, .unset, .unset, .unset]) rfl ?_
   have hdq : chr dq = dq := by rw [edq]; exact chr_chr _
   have J1927 : ∀ (d : Int32) (hd : chr d = d), Go p e below (EndW s room_1.cells room_1.slots) n0 (Q0 Z p0 p1 p2 p3 p4 cs fv h0 n0) T1920 (mkF m 303 #[vI p0, vI p1, vI p2, vI p3, vI p4, vI c0, vI c1, vI c2, vI c3, vI 4, vR b1834, vR b1891, vI d, .unset, .unset, .unset] []) := by
    intro  d hd
    obtain ⟨T1928, h1928, X1928, e1928, E1928, A1928, D1928, -, st1928⟩ := newO X1920 hx hZ hown (wd hw 30 rfl) (wd hw 31 rfl) (wd hw 32 rfl) e1920 (g := (mkF m 303 #[vI p0, vI p1, vI p2, vI p3, vI p4, vI c0, vI c1, vI c2, vI c3, vI 4, vR b1834, vR b1891, vI d, .unset, .unset, .unset] [])) rfl (hb hby at_303) (by decide) (by decide)
    obtain ⟨b1928, g1928⟩ : ∃ z, z = h1920.size := ⟨_, rfl⟩
    rw [← g1928] at A1928 D1928 st1928
    have ne1929 : b1834 ≠ b1928 := Nat.ne_of_lt (g1928 ▸ f1922.lt)
    have ne1930 : r1885 ≠ b1928 := Nat.ne_of_lt (g1928 ▸ (Str.lb f1922).lt)
    have ne1931 : b1891 ≠ b1928 := Nat.ne_of_lt (g1928 ▸ f1923.lt)
    have ge1932 : n0 ≤ b1928 := g1928 ▸ Z1924
    have f1933 := f1921.ext E1928
    have f1934 := f1922.ext E1928
    have f1935 := Exa.ext E1928 f1923
    have f1936 := f1926.ext E1928
    have Z1937 : n0 ≤ h1928.size := Nat.le_trans Z1924 E1928.1
    have f1938 : Fld Z h1928 b1928 "com/example/needlework/needlework/LastOccurrence" "pages" "[[I" .null := D1928 (Or.inr (wd hw 40 rfl)) (ty := (.array (.array .int))) (by decide)
    refine Go.movp st1928 (mkF m 306 #[vI p0, vI p1, vI p2, vI p3, vI p4, vI c0, vI c1, vI c2, vI c3, vI 4, vR b1834, vR b1891, vI d, .unset, .unset, .unset] [(.ref b1928)]) rfl ?_
    refine g_dup X1928 hx (hb hby at_306) (pc' := 307) rfl rfl ?_
    refine g_aload X1928 hx (hb hby at_307) (pc' := 309) rfl rfl rfl ?_
    obtain ⟨v1939, T1939, h1939, L1939, X1939, e1939, N1939, q1939, st1939⟩ := h_special (a := b1928) X1928 hx (W := 1) (Ls := #[vI p0, vI p1, vI p2, vI p3, vI p4, vI c0, vI c1, vI c2, vI c3, vI 4, vR b1834, vR b1891, vI d, .unset, .unset, .unset]) (argsL := [(.ref b1834)]) (rest := [(.ref b1928)]) hZ e1928 N1920 hml hown rfl (rm7_4 l Z a0 hw b1928 b1834 r1885 c0 c1 c2 c3 cs fv h1928 n0 Z1937 f1938 A1928 ge1932 f1934 ne1929 ne1930 B f1933 hc0 hc1 hc2 hc3) (wd hw 33 rfl) (wd hw 34 rfl) (wd hw 32 rfl) (wd hw 35 rfl) (by decide) pd__Ljava_lang_CharSequence__V rfl rfl (hb hby at_309) rfl (by decide) (by decide) (by decide) (by decide)
    obtain ⟨rfl, K1939, pa1939, cc1939, F1939, A1939, G1939⟩ := q1939
    have f1940 := f1933.keep K1939 (allS ge1932 all0)
    have f1941 := f1934.keep K1939 (ninS ne1929 nin0) (ninS ne1930 nin0)
    have f1942 := f1935.keep K1939
    have f1943 := f1936.keep K1939 (ninS ne1931 nin0)
    have f1944 := A1928.keep K1939
    have Z1945 : n0 ≤ h1939.size := Nat.le_trans Z1937 K1939.1
    refine Go.movp st1939 (mkF m 312 #[vI p0, vI p1, vI p2, vI p3, vI p4, vI c0, vI c1, vI c2, vI c3, vI 4, vR b1834, vR b1891, vI d, .unset, .unset, .unset] [(.ref b1928)]) rfl ?_
    refine g_astore X1939 hx (hb hby at_312) (pc' := 314) rfl rfl (Ls' := #[vI p0, vI p1, vI p2, vI p3, vI p4, vI c0, vI c1, vI c2, vI c3, vI 4, vR b1834, vR b1891, vI d, vR b1928, .unset, .unset]) rfl ?_
    refine g_aload X1939 hx (hb hby at_314) (pc' := 316) rfl rfl rfl ?_
    refine g_iload X1939 hx (hb hby at_316) (pc' := 318) rfl rfl ?_
    obtain ⟨v1946, T1946, h1946, L1946, X1946, e1946, N1946, q1946, st1946⟩ := h_virtual (a := b1928) (z := (⟨"com/example/needlework/needlework/LastOccurrence", "of", "(C)I"⟩ : MethodName)) X1939 hx (W := 0) (Ls := #[vI p0, vI p1, vI p2, vI p3, vI p4, vI c0, vI c1, vI c2, vI c3, vI 4, vR b1834, vR b1891, vI d, vR b1928, .unset, .unset]) (argsL := [(.int d)]) (rest := []) hZ e1939 N1939 hml hown (rm16 l Z a0 hw b1928 pa1939 d cc1939 (updM (updM (updM (updM (fun _ => -1) (cn c0) (0 : Int32)) (cn c1) (1 : Int32)) (cn c2) (2 : Int32)) (cn c3) (3 : Int32)) _ _ h1939 n0 Z1945 F1939 G1939 hd) A1939 (wd hw 86 rfl) (wd hw 87 rfl) (notFace_of_selects (args := #[]) (mvT hZ (wd hw 89 rfl))) (wd hw 89 rfl) (wd hw 88 rfl) (wd hw 32 rfl) (wd hw 90 rfl) (by decide) pd__C_I rfl rfl (hb hby at_318) rfl (by decide) (by decide) (by decide) (by decide)
    obtain ⟨rfl, rfl⟩ := q1946
    refine Go.movp st1946 (mkF m 321 #[vI p0, vI p1, vI p2, vI p3, vI p4, vI c0, vI c1, vI c2, vI c3, vI 4, vR b1834, vR b1891, vI d, vR b1928, .unset, .unset] [(.int ((updM (updM (updM (updM (fun _ => -1) (cn c0) (0 : Int32)) (cn c1) (1 : Int32)) (cn c2) (2 : Int32)) (cn c3) (3 : Int32)) (cn d)))]) rfl ?_
    refine g_istore X1946 hx (hb hby at_321) (pc' := 323) rfl (Ls' := #[vI p0, vI p1, vI p2, vI p3, vI p4, vI c0, vI c1, vI c2, vI c3, vI 4, vR b1834, vR b1891, vI d, vR b1928, vI ((updM (updM (updM (updM (fun _ => -1) (cn c0) (0 : Int32)) (cn c1) (1 : Int32)) (cn c2) (2 : Int32)) (cn c3) (3 : Int32)) (cn d)), .unset]) rfl ?_
    refine g_iconst X1946 hx (hb hby at_323) (pc' := 324) rfl (z := (-1 : Int32)) rfl ?_
    refine g_istore X1946 hx (hb hby at_324) (pc' := 326) rfl (Ls' := #[vI p0, vI p1, vI p2, vI p3, vI p4, vI c0, vI c1, vI c2, vI c3, vI 4, vR b1834, vR b1891, vI d, vR b1928, vI ((updM (updM (updM (updM (fun _ => -1) (cn c0) (0 : Int32)) (cn c1) (1 : Int32)) (cn c2) (2 : Int32)) (cn c3) (3 : Int32)) (cn d)), vI (-1 : Int32)]) rfl ?_
    have J1947 : ∀ (wt : Int32) (hwt : (updM (updM (updM (updM (fun _ => -1) (cn c0) (0 : Int32)) (cn c1) (1 : Int32)) (cn c2) (2 : Int32)) (cn c3) (3 : Int32)) (cn d) = wt), Go p e below (EndW s room_1.cells room_1.slots) n0 (Q0 Z p0 p1 p2 p3 p4 cs fv h0 n0) T1946 (mkF m 389 #[vI p0, vI p1, vI p2, vI p3, vI p4, vI c0, vI c1, vI c2, vI c3, vI 4, vR b1834, vR b1891, vI d, vR b1928, vI ((updM (updM (updM (updM (fun _ => -1) (cn c0) (0 : Int32)) (cn c1) (1 : Int32)) (cn c2) (2 : Int32)) (cn c3) (3 : Int32)) (cn d)), vI wt] []) := by
     intro  wt hwt
     refine g_iload X1946 hx (hb hby at_389) (pc' := 391) rfl rfl ?_
     refine g_iload X1946 hx (hb hby at_391) (pc' := 393) rfl rfl ?_
     refine g_icmp_ne X1946 hx (hb hby at_393) (pc1 := 396) rfl (by decide) (pc2 := 400) (by decide) (fun hc393 => absurd hwt hc393) (fun hc393 => ?_)
     refine g_iconst X1946 hx (hb hby at_396) (pc' := 397) rfl (z := 1) rfl ?_
     refine g_goto X1946 hx (hb hby at_397) (by decide) (pc' := 401) (by decide) ?_
     exact g_zreturn X1946 hx rfl hret (hb hby at_401) N1946 hlk (fun v t => endW (vm0 := s.vm) ((State.WarmedH.refl s).since 0) (Nat.zero_le _) (by decide) (by decide) v) (by rw [e1946]; exact rfl)
    have J1948 : ∀ (wt : Int32) (hwt : (updM (updM (updM (fun _ => -1) (cn c0) (0 : Int32)) (cn c1) (1 : Int32)) (cn c2) (2 : Int32)) (cn d) = wt), Go p e below (EndW s room_1.cells room_1.slots) n0 (Q0 Z p0 p1 p2 p3 p4 cs fv h0 n0) T1946 (mkF m 373 #[vI p0, vI p1, vI p2, vI p3, vI p4, vI c0, vI c1, vI c2, vI c3, vI 4, vR b1834, vR b1891, vI d, vR b1928, vI ((updM (updM (updM (updM (fun _ => -1) (cn c0) (0 : Int32)) (cn c1) (1 : Int32)) (cn c2) (2 : Int32)) (cn c3) (3 : Int32)) (cn d)), vI wt] []) := by
     intro  wt hwt
     refine g_iload X1946 hx (hb hby at_373) (pc' := 375) rfl rfl ?_
     refine g_iconst X1946 hx (hb hby at_375) (pc' := 376) rfl (z := 3) rfl ?_
     refine g_icmp_le X1946 hx (hb hby at_376) (pc1 := 379) rfl (by decide) (pc2 := 389) (by decide) (fun hc376 => absurd (by decide) hc376) (fun hc376 => ?_)
     refine g_iload X1946 hx (hb hby at_379) (pc' := 381) rfl rfl ?_
     refine g_iload X1946 hx (hb hby at_381) (pc' := 383) rfl rfl ?_
     refine g_icmp_ne X1946 hx (hb hby at_383) (pc1 := 386) rfl (by decide) (pc2 := 389) (by decide) (fun hc383 => ?_) (fun hc383 => ?_)
     ·
      exact J1947  wt ((updM_no hc3 hd hc383).trans hwt)
     ·
      refine g_iconst X1946 hx (hb hby at_386) (pc' := 387) rfl (z := 3) rfl ?_
      refine g_istore X1946 hx (hb hby at_387) (pc' := 389) rfl (Ls' := #[vI p0, vI p1, vI p2, vI p3, vI p4, vI c0, vI c1, vI c2, vI c3, vI 4, vR b1834, vR b1891, vI d, vR b1928, vI ((updM (updM (updM (updM (fun _ => -1) (cn c0) (0 : Int32)) (cn c1) (1 : Int32)) (cn c2) (2 : Int32)) (cn c3) (3 : Int32)) (cn d)), vI 3]) rfl ?_
      exact J1947  (3 : Int32) (updM_yes hc383)
    have J1949 : ∀ (wt : Int32) (hwt : (updM (updM (fun _ => -1) (cn c0) (0 : Int32)) (cn c1) (1 : Int32)) (cn d) = wt), Go p e below (EndW s room_1.cells room_1.slots) n0 (Q0 Z p0 p1 p2 p3 p4 cs fv h0 n0) T1946 (mkF m 357 #[vI p0, vI p1, vI p2, vI p3, vI p4, vI c0, vI c1, vI c2, vI c3, vI 4, vR b1834, vR b1891, vI d, vR b1928, vI ((updM (updM (updM (updM (fun _ => -1) (cn c0) (0 : Int32)) (cn c1) (1 : Int32)) (cn c2) (2 : Int32)) (cn c3) (3 : Int32)) (cn d)), vI wt] []) := by
     intro  wt hwt
     refine g_iload X1946 hx (hb hby at_357) (pc' := 359) rfl rfl ?_
     refine g_iconst X1946 hx (hb hby at_359) (pc' := 360) rfl (z := 2) rfl ?_
     refine g_icmp_le X1946 hx (hb hby at_360) (pc1 := 363) rfl (by decide) (pc2 := 373) (by decide) (fun hc360 => absurd (by decide) hc360) (fun hc360 => ?_)
     refine g_iload X1946 hx (hb hby at_363) (pc' := 365) rfl rfl ?_
     refine g_iload X1946 hx (hb hby at_365) (pc' := 367) rfl rfl ?_
     refine g_icmp_ne X1946 hx (hb hby at_367) (pc1 := 370) rfl (by decide) (pc2 := 373) (by decide) (fun hc367 => ?_) (fun hc367 => ?_)
     ·
      exact J1948  wt ((updM_no hc2 hd hc367).trans hwt)
     ·
      refine g_iconst X1946 hx (hb hby at_370) (pc' := 371) rfl (z := 2) rfl ?_
      refine g_istore X1946 hx (hb hby at_371) (pc' := 373) rfl (Ls' := #[vI p0, vI p1, vI p2, vI p3, vI p4, vI c0, vI c1, vI c2, vI c3, vI 4, vR b1834, vR b1891, vI d, vR b1928, vI ((updM (updM (updM (updM (fun _ => -1) (cn c0) (0 : Int32)) (cn c1) (1 : Int32)) (cn c2) (2 : Int32)) (cn c3) (3 : Int32)) (cn d)), vI 2]) rfl ?_
      exact J1948  (2 : Int32) (updM_yes hc367)
    have J1950 : ∀ (wt : Int32) (hwt : (updM (fun _ => -1) (cn c0) (0 : Int32)) (cn d) = wt), Go p e below (EndW s room_1.cells room_1.slots) n0 (Q0 Z p0 p1 p2 p3 p4 cs fv h0 n0) T1946 (mkF m 341 #[vI p0, vI p1, vI p2, vI p3, vI p4, vI c0, vI c1, vI c2, vI c3, vI 4, vR b1834, vR b1891, vI d, vR b1928, vI ((updM (updM (updM (updM (fun _ => -1) (cn c0) (0 : Int32)) (cn c1) (1 : Int32)) (cn c2) (2 : Int32)) (cn c3) (3 : Int32)) (cn d)), vI wt] []) := by
     intro  wt hwt
     refine g_iload X1946 hx (hb hby at_341) (pc' := 343) rfl rfl ?_
     refine g_iconst X1946 hx (hb hby at_343) (pc' := 344) rfl (z := 1) rfl ?_
     refine g_icmp_le X1946 hx (hb hby at_344) (pc1 := 347) rfl (by decide) (pc2 := 357) (by decide) (fun hc344 => absurd (by decide) hc344) (fun hc344 => ?_)
     refine g_iload X1946 hx (hb hby at_347) (pc' := 349) rfl rfl ?_
     refine g_iload X1946 hx (hb hby at_349) (pc' := 351) rfl rfl ?_
     refine g_icmp_ne X1946 hx (hb hby at_351) (pc1 := 354) rfl (by decide) (pc2 := 357) (by decide) (fun hc351 => ?_) (fun hc351 => ?_)
     ·
      exact J1949  wt ((updM_no hc1 hd hc351).trans hwt)
     ·
      refine g_iconst X1946 hx (hb hby at_354) (pc' := 355) rfl (z := 1) rfl ?_
      refine g_istore X1946 hx (hb hby at_355) (pc' := 357) rfl (Ls' := #[vI p0, vI p1, vI p2, vI p3, vI p4, vI c0, vI c1, vI c2, vI c3, vI 4, vR b1834, vR b1891, vI d, vR b1928, vI ((updM (updM (updM (updM (fun _ => -1) (cn c0) (0 : Int32)) (cn c1) (1 : Int32)) (cn c2) (2 : Int32)) (cn c3) (3 : Int32)) (cn d)), vI 1]) rfl ?_
      exact J1949  (1 : Int32) (updM_yes hc351)
    refine g_iload X1946 hx (hb hby at_326) (pc' := 328) rfl rfl ?_
    refine g_if_le X1946 hx (hb hby at_328) (pc1 := 331) rfl (by decide) (pc2 := 341) (by decide) (fun hc328 => absurd (by decide) hc328) (fun hc328 => ?_)
    refine g_iload X1946 hx (hb hby at_331) (pc' := 333) rfl rfl ?_
    refine g_iload X1946 hx (hb hby at_333) (pc' := 335) rfl rfl ?_
    refine g_icmp_ne X1946 hx (hb hby at_335) (pc1 := 338) rfl (by decide) (pc2 := 341) (by decide) (fun hc335 => ?_) (fun hc335 => ?_)
    ·
     exact J1950  (-1 : Int32) ((updM_no hc0 hd hc335).trans rfl)
    ·
     refine g_iconst X1946 hx (hb hby at_338) (pc' := 339) rfl (z := 0) rfl ?_
     refine g_istore X1946 hx (hb hby at_339) (pc' := 341) rfl (Ls' := #[vI p0, vI p1, vI p2, vI p3, vI p4, vI c0, vI c1, vI c2, vI c3, vI 4, vR b1834, vR b1891, vI d, vR b1928, vI ((updM (updM (updM (updM (fun _ => -1) (cn c0) (0 : Int32)) (cn c1) (1 : Int32)) (cn c2) (2 : Int32)) (cn c3) (3 : Int32)) (cn d)), vI 0]) rfl ?_
     exact J1950  (0 : Int32) (updM_yes hc335)
   have J1951 : ∀ (dx : Int32) (hdx : chr dx = dx), Go p e below (EndW s room_1.cells room_1.slots) n0 (Q0 Z p0 p1 p2 p3 p4 cs fv h0 n0) T1920 (mkF m 277 #[vI p0, vI p1, vI p2, vI p3, vI p4, vI c0, vI c1, vI c2, vI c3, vI 4, vR b1834, vR b1891, vI dx, .unset, .unset, .unset] []) := by
    intro  dx hdx
    refine g_iload X1920 hx (hb hby at_277) (pc' := 279) rfl rfl ?_
    refine g_bipush X1920 hx (hb hby at_279) (pc' := 281) rfl (z := 8) rfl ?_
    refine g_iand X1920 hx (hb hby at_281) (pc' := 282) rfl ?_
    refine g_if_eq X1920 hx (hb hby at_282) (pc1 := 285) rfl (by decide) (pc2 := 303) (by decide) (fun hc282 => ?_) (fun hc282 => ?_)
    ·
     exact J1927  dx hdx
    ·
     refine g_iload X1920 hx (hb hby at_285) (pc' := 287) rfl rfl ?_
     refine g_ldc X1920 hx hZ hown (wd hw 91 rfl) (hb hby at_287) (pc' := 289) rfl ?_
     refine g_iand X1920 hx (hb hby at_289) (pc' := 290) rfl ?_
     refine g_iload X1920 hx (hb hby at_290) (pc' := 292) rfl rfl ?_
     refine g_bipush X1920 hx (hb hby at_292) (pc' := 294) rfl (z := 8) rfl ?_
     refine g_iushr X1920 hx (hb hby at_294) (pc' := 295) rfl ?_
     refine g_sipush X1920 hx (hb hby at_295) (pc' := 298) rfl (z := 255) rfl ?_
     refine g_iand X1920 hx (hb hby at_298) (pc' := 299) rfl ?_
     refine g_ior X1920 hx (hb hby at_299) (pc' := 300) rfl ?_
     refine g_i2c X1920 hx (hb hby at_300) (pc' := 301) rfl ?_
     refine g_istore X1920 hx (hb hby at_301) (pc' := 303) rfl (Ls' := #[vI p0, vI p1, vI p2, vI p3, vI p4, vI c0, vI c1, vI c2, vI c3, vI 4, vR b1834, vR b1891, vI (chr ((dx &&& (65280 : Int32)) ||| ((ushr p4 (8 : Int32)) &&& (255 : Int32)))), .unset, .unset, .unset]) rfl ?_
     exact J1927  (chr ((dx &&& (65280 : Int32)) ||| ((ushr p4 (8 : Int32)) &&& (255 : Int32)))) (chr_chr _)
   refine g_iload X1920 hx (hb hby at_259) (pc' := 261) rfl rfl ?_
   refine g_iconst X1920 hx (hb hby at_261) (pc' := 262) rfl (z := 1) rfl ?_
   refine g_iand X1920 hx (hb hby at_262) (pc' := 263) rfl ?_
   refine g_if_eq X1920 hx (hb hby at_263) (pc1 := 266) rfl (by decide) (pc2 := 277) (by decide) (fun hc263 => ?_) (fun hc263 => ?_)
   ·
    exact J1951  dq hdq
   ·
    refine g_aload X1920 hx (hb hby at_266) (pc' := 268) rfl rfl rfl ?_
    refine g_iload X1920 hx (hb hby at_268) (pc' := 270) rfl rfl ?_
    refine g_iconst X1920 hx (hb hby at_270) (pc' := 271) rfl (z := 1) rfl ?_
    refine g_iushr X1920 hx (hb hby at_271) (pc' := 272) rfl ?_
    refine g_iconst X1920 hx (hb hby at_272) (pc' := 273) rfl (z := 3) rfl ?_
    refine g_iand X1920 hx (hb hby at_273) (pc' := 274) rfl ?_
    rcases own_and3 (ushr p4 (1 : Int32)) with q3 | q3 | q3 | q3
    ·
     refine Go.cast (show (mkF m 274 #[vI p0, vI p1, vI p2, vI p3, vI p4, vI c0, vI c1, vI c2, vI c3, vI 4, vR b1834, vR b1891, vI dq, .unset, .unset, .unset] [(.int ((ushr p4 (1 : Int32)) &&& (3 : Int32))), (.ref b1891)]) = (mkF m 274 #[vI p0, vI p1, vI p2, vI p3, vI p4, vI c0, vI c1, vI c2, vI c3, vI 4, vR b1834, vR b1891, vI dq, .unset, .unset, .unset] [(.int 0), (.ref b1891)]) from by rw [show ((ushr p4 (1 : Int32)) &&& (3 : Int32)) = (0 : Int32) from q3]) ?_
     refine g_caload X1920 hx hZ e1920 f1926 (i := 0) (v := (.int c0)) (hb hby at_274) (pc' := 275) rfl (by decide) rfl rfl ?_
     refine g_istore X1920 hx (hb hby at_275) (pc' := 277) rfl (Ls' := #[vI p0, vI p1, vI p2, vI p3, vI p4, vI c0, vI c1, vI c2, vI c3, vI 4, vR b1834, vR b1891, vI c0, .unset, .unset, .unset]) rfl ?_
     exact J1951  c0 hc0
    ·
     refine Go.cast (show (mkF m 274 #[vI p0, vI p1, vI p2, vI p3, vI p4, vI c0, vI c1, vI c2, vI c3, vI 4, vR b1834, vR b1891, vI dq, .unset, .unset, .unset] [(.int ((ushr p4 (1 : Int32)) &&& (3 : Int32))), (.ref b1891)]) = (mkF m 274 #[vI p0, vI p1, vI p2, vI p3, vI p4, vI c0, vI c1, vI c2, vI c3, vI 4, vR b1834, vR b1891, vI dq, .unset, .unset, .unset] [(.int 1), (.ref b1891)]) from by rw [show ((ushr p4 (1 : Int32)) &&& (3 : Int32)) = (1 : Int32) from q3]) ?_
     refine g_caload X1920 hx hZ e1920 f1926 (i := 1) (v := (.int c1)) (hb hby at_274) (pc' := 275) rfl (by decide) rfl rfl ?_
     refine g_istore X1920 hx (hb hby at_275) (pc' := 277) rfl (Ls' := #[vI p0, vI p1, vI p2, vI p3, vI p4, vI c0, vI c1, vI c2, vI c3, vI 4, vR b1834, vR b1891, vI c1, .unset, .unset, .unset]) rfl ?_
     exact J1951  c1 hc1
    ·
     refine Go.cast (show (mkF m 274 #[vI p0, vI p1, vI p2, vI p3, vI p4, vI c0, vI c1, vI c2, vI c3, vI 4, vR b1834, vR b1891, vI dq, .unset, .unset, .unset] [(.int ((ushr p4 (1 : Int32)) &&& (3 : Int32))), (.ref b1891)]) = (mkF m 274 #[vI p0, vI p1, vI p2, vI p3, vI p4, vI c0, vI c1, vI c2, vI c3, vI 4, vR b1834, vR b1891, vI dq, .unset, .unset, .unset] [(.int 2), (.ref b1891)]) from by rw [show ((ushr p4 (1 : Int32)) &&& (3 : Int32)) = (2 : Int32) from q3]) ?_
     refine g_caload X1920 hx hZ e1920 f1926 (i := 2) (v := (.int c2)) (hb hby at_274) (pc' := 275) rfl (by decide) rfl rfl ?_
     refine g_istore X1920 hx (hb hby at_275) (pc' := 277) rfl (Ls' := #[vI p0, vI p1, vI p2, vI p3, vI p4, vI c0, vI c1, vI c2, vI c3, vI 4, vR b1834, vR b1891, vI c2, .unset, .unset, .unset]) rfl ?_
     exact J1951  c2 hc2
    ·
     refine Go.cast (show (mkF m 274 #[vI p0, vI p1, vI p2, vI p3, vI p4, vI c0, vI c1, vI c2, vI c3, vI 4, vR b1834, vR b1891, vI dq, .unset, .unset, .unset] [(.int ((ushr p4 (1 : Int32)) &&& (3 : Int32))), (.ref b1891)]) = (mkF m 274 #[vI p0, vI p1, vI p2, vI p3, vI p4, vI c0, vI c1, vI c2, vI c3, vI 4, vR b1834, vR b1891, vI dq, .unset, .unset, .unset] [(.int 3), (.ref b1891)]) from by rw [show ((ushr p4 (1 : Int32)) &&& (3 : Int32)) = (3 : Int32) from q3]) ?_
     refine g_caload X1920 hx hZ e1920 f1926 (i := 3) (v := (.int c3)) (hb hby at_274) (pc' := 275) rfl (by decide) rfl rfl ?_
     refine g_istore X1920 hx (hb hby at_275) (pc' := 277) rfl (Ls' := #[vI p0, vI p1, vI p2, vI p3, vI p4, vI c0, vI c1, vI c2, vI c3, vI 4, vR b1834, vR b1891, vI c3, .unset, .unset, .unset]) rfl ?_
     exact J1951  c3 hc3
 refine g_iloadN X0 hx (hb hby at_22) (pc' := 23) rfl rfl ?_
 refine g_bipush X0 hx (hb hby at_23) (pc' := 25) rfl (z := 8) rfl ?_
 refine g_iand X0 hx (hb hby at_25) (pc' := 26) rfl ?_
 refine g_if_eq X0 hx (hb hby at_26) (pc1 := 29) rfl (by decide) (pc2 := 33) (by decide) (fun hc26 => ?_) (fun hc26 => ?_)
 ·
  refine g_iloadN X0 hx (hb hby at_33) (pc' := 34) rfl rfl ?_
  refine g_bipush X0 hx (hb hby at_34) (pc' := 36) rfl (z := 16) rfl ?_
  refine g_iand X0 hx (hb hby at_36) (pc' := 37) rfl ?_
  refine g_if_eq X0 hx (hb hby at_37) (pc1 := 40) rfl (by decide) (pc2 := 44) (by decide) (fun hc37 => ?_) (fun hc37 => ?_)
  ·
   refine g_iloadN X0 hx (hb hby at_44) (pc' := 45) rfl rfl ?_
   refine g_bipush X0 hx (hb hby at_45) (pc' := 47) rfl (z := 32) rfl ?_
   refine g_iand X0 hx (hb hby at_47) (pc' := 48) rfl ?_
   refine g_if_eq X0 hx (hb hby at_48) (pc1 := 51) rfl (by decide) (pc2 := 55) (by decide) (fun hc48 => ?_) (fun hc48 => ?_)
   ·
    refine g_iloadN X0 hx (hb hby at_55) (pc' := 56) rfl rfl ?_
    refine g_bipush X0 hx (hb hby at_56) (pc' := 58) rfl (z := 64) rfl ?_
    refine g_iand X0 hx (hb hby at_58) (pc' := 59) rfl ?_
    refine g_if_eq X0 hx (hb hby at_59) (pc1 := 62) rfl (by decide) (pc2 := 77) (by decide) (fun hc59 => ?_) (fun hc59 => ?_)
    ·
     exact J1454  d1 d2 d3 hd1 hd2 hd3
    ·
     refine g_iload X0 hx (hb hby at_62) (pc' := 64) rfl rfl ?_
     refine g_ldc X0 hx hZ hown (wd hw 91 rfl) (hb hby at_64) (pc' := 66) rfl ?_
     refine g_iand X0 hx (hb hby at_66) (pc' := 67) rfl ?_
     refine g_iload X0 hx (hb hby at_67) (pc' := 69) rfl rfl ?_
     refine g_sipush X0 hx (hb hby at_69) (pc' := 72) rfl (z := 255) rfl ?_
     refine g_iand X0 hx (hb hby at_72) (pc' := 73) rfl ?_
     refine g_ior X0 hx (hb hby at_73) (pc' := 74) rfl ?_
     refine g_i2c X0 hx (hb hby at_74) (pc' := 75) rfl ?_
     refine g_istore X0 hx (hb hby at_75) (pc' := 77) rfl (Ls' := #[vI p0, vI p1, vI p2, vI p3, vI p4, vI c0, vI d1, vI (chr ((d1 &&& (65280 : Int32)) ||| (d2 &&& (255 : Int32)))), vI d3, .unset, .unset, .unset, .unset, .unset, .unset, .unset]) rfl ?_
     exact J1454  d1 (chr ((d1 &&& (65280 : Int32)) ||| (d2 &&& (255 : Int32)))) d3 hd1 (chr_chr _) hd3
   ·
    refine g_iload X0 hx (hb hby at_51) (pc' := 53) rfl rfl ?_
    refine g_istore X0 hx (hb hby at_53) (pc' := 55) rfl (Ls' := #[vI p0, vI p1, vI p2, vI p3, vI p4, vI c0, vI d1, vI d2, vI d1, .unset, .unset, .unset, .unset, .unset, .unset, .unset]) rfl ?_
    refine g_iloadN X0 hx (hb hby at_55) (pc' := 56) rfl rfl ?_
    refine g_bipush X0 hx (hb hby at_56) (pc' := 58) rfl (z := 64) rfl ?_
    refine g_iand X0 hx (hb hby at_58) (pc' := 59) rfl ?_
    refine g_if_eq X0 hx (hb hby at_59) (pc1 := 62) rfl (by decide) (pc2 := 77) (by decide) (fun hc59 => ?_) (fun hc59 => ?_)
    ·
     exact J1454  d1 d2 d1 hd1 hd2 hd1
    ·
     refine g_iload X0 hx (hb hby at_62) (pc' := 64) rfl rfl ?_
     refine g_ldc X0 hx hZ hown (wd hw 91 rfl) (hb hby at_64) (pc' := 66) rfl ?_
     refine g_iand X0 hx (hb hby at_66) (pc' := 67) rfl ?_
     refine g_iload X0 hx (hb hby at_67) (pc' := 69) rfl rfl ?_
     refine g_sipush X0 hx (hb hby at_69) (pc' := 72) rfl (z := 255) rfl ?_
     refine g_iand X0 hx (hb hby at_72) (pc' := 73) rfl ?_
     refine g_ior X0 hx (hb hby at_73) (pc' := 74) rfl ?_
     refine g_i2c X0 hx (hb hby at_74) (pc' := 75) rfl ?_
     refine g_istore X0 hx (hb hby at_75) (pc' := 77) rfl (Ls' := #[vI p0, vI p1, vI p2, vI p3, vI p4, vI c0, vI d1, vI (chr ((d1 &&& (65280 : Int32)) ||| (d2 &&& (255 : Int32)))), vI d1, .unset, .unset, .unset, .unset, .unset, .unset, .unset]) rfl ?_
     exact J1454  d1 (chr ((d1 &&& (65280 : Int32)) ||| (d2 &&& (255 : Int32)))) d1 hd1 (chr_chr _) hd1
  ·
   refine g_iload X0 hx (hb hby at_40) (pc' := 42) rfl rfl ?_
   refine g_istore X0 hx (hb hby at_42) (pc' := 44) rfl (Ls' := #[vI p0, vI p1, vI p2, vI p3, vI p4, vI c0, vI d1, vI c0, vI d3, .unset, .unset, .unset, .unset, .unset, .unset, .unset]) rfl ?_
   refine g_iloadN X0 hx (hb hby at_44) (pc' := 45) rfl rfl ?_
   refine g_bipush X0 hx (hb hby at_45) (pc' := 47) rfl (z := 32) rfl ?_
   refine g_iand X0 hx (hb hby at_47) (pc' := 48) rfl ?_
   refine g_if_eq X0 hx (hb hby at_48) (pc1 := 51) rfl (by decide) (pc2 := 55) (by decide) (fun hc48 => ?_) (fun hc48 => ?_)
   ·
    refine g_iloadN X0 hx (hb hby at_55) (pc' := 56) rfl rfl ?_
    refine g_bipush X0 hx (hb hby at_56) (pc' := 58) rfl (z := 64) rfl ?_
    refine g_iand X0 hx (hb hby at_58) (pc' := 59) rfl ?_
    refine g_if_eq X0 hx (hb hby at_59) (pc1 := 62) rfl (by decide) (pc2 := 77) (by decide) (fun hc59 => ?_) (fun hc59 => ?_)
    ·
     exact J1454  d1 c0 d3 hd1 hc0 hd3
    ·
     refine g_iload X0 hx (hb hby at_62) (pc' := 64) rfl rfl ?_
     refine g_ldc X0 hx hZ hown (wd hw 91 rfl) (hb hby at_64) (pc' := 66) rfl ?_
     refine g_iand X0 hx (hb hby at_66) (pc' := 67) rfl ?_
     refine g_iload X0 hx (hb hby at_67) (pc' := 69) rfl rfl ?_
     refine g_sipush X0 hx (hb hby at_69) (pc' := 72) rfl (z := 255) rfl ?_
     refine g_iand X0 hx (hb hby at_72) (pc' := 73) rfl ?_
     refine g_ior X0 hx (hb hby at_73) (pc' := 74) rfl ?_
     refine g_i2c X0 hx (hb hby at_74) (pc' := 75) rfl ?_
     refine g_istore X0 hx (hb hby at_75) (pc' := 77) rfl (Ls' := #[vI p0, vI p1, vI p2, vI p3, vI p4, vI c0, vI d1, vI (chr ((d1 &&& (65280 : Int32)) ||| (c0 &&& (255 : Int32)))), vI d3, .unset, .unset, .unset, .unset, .unset, .unset, .unset]) rfl ?_
     exact J1454  d1 (chr ((d1 &&& (65280 : Int32)) ||| (c0 &&& (255 : Int32)))) d3 hd1 (chr_chr _) hd3
   ·
    refine g_iload X0 hx (hb hby at_51) (pc' := 53) rfl rfl ?_
    refine g_istore X0 hx (hb hby at_53) (pc' := 55) rfl (Ls' := #[vI p0, vI p1, vI p2, vI p3, vI p4, vI c0, vI d1, vI c0, vI d1, .unset, .unset, .unset, .unset, .unset, .unset, .unset]) rfl ?_
    refine g_iloadN X0 hx (hb hby at_55) (pc' := 56) rfl rfl ?_
    refine g_bipush X0 hx (hb hby at_56) (pc' := 58) rfl (z := 64) rfl ?_
    refine g_iand X0 hx (hb hby at_58) (pc' := 59) rfl ?_
    refine g_if_eq X0 hx (hb hby at_59) (pc1 := 62) rfl (by decide) (pc2 := 77) (by decide) (fun hc59 => ?_) (fun hc59 => ?_)
    ·
     exact J1454  d1 c0 d1 hd1 hc0 hd1
    ·
     refine g_iload X0 hx (hb hby at_62) (pc' := 64) rfl rfl ?_
     refine g_ldc X0 hx hZ hown (wd hw 91 rfl) (hb hby at_64) (pc' := 66) rfl ?_
     refine g_iand X0 hx (hb hby at_66) (pc' := 67) rfl ?_
     refine g_iload X0 hx (hb hby at_67) (pc' := 69) rfl rfl ?_
     refine g_sipush X0 hx (hb hby at_69) (pc' := 72) rfl (z := 255) rfl ?_
     refine g_iand X0 hx (hb hby at_72) (pc' := 73) rfl ?_
     refine g_ior X0 hx (hb hby at_73) (pc' := 74) rfl ?_
     refine g_i2c X0 hx (hb hby at_74) (pc' := 75) rfl ?_
     refine g_istore X0 hx (hb hby at_75) (pc' := 77) rfl (Ls' := #[vI p0, vI p1, vI p2, vI p3, vI p4, vI c0, vI d1, vI (chr ((d1 &&& (65280 : Int32)) ||| (c0 &&& (255 : Int32)))), vI d1, .unset, .unset, .unset, .unset, .unset, .unset, .unset]) rfl ?_
     exact J1454  d1 (chr ((d1 &&& (65280 : Int32)) ||| (c0 &&& (255 : Int32)))) d1 hd1 (chr_chr _) hd1
 ·
  refine g_iload X0 hx (hb hby at_29) (pc' := 31) rfl rfl ?_
  refine g_istore X0 hx (hb hby at_31) (pc' := 33) rfl (Ls' := #[vI p0, vI p1, vI p2, vI p3, vI p4, vI c0, vI c0, vI d2, vI d3, .unset, .unset, .unset, .unset, .unset, .unset, .unset]) rfl ?_
  refine g_iloadN X0 hx (hb hby at_33) (pc' := 34) rfl rfl ?_
  refine g_bipush X0 hx (hb hby at_34) (pc' := 36) rfl (z := 16) rfl ?_
  refine g_iand X0 hx (hb hby at_36) (pc' := 37) rfl ?_
  refine g_if_eq X0 hx (hb hby at_37) (pc1 := 40) rfl (by decide) (pc2 := 44) (by decide) (fun hc37 => ?_) (fun hc37 => ?_)
  ·
   refine g_iloadN X0 hx (hb hby at_44) (pc' := 45) rfl rfl ?_
   refine g_bipush X0 hx (hb hby at_45) (pc' := 47) rfl (z := 32) rfl ?_
   refine g_iand X0 hx (hb hby at_47) (pc' := 48) rfl ?_
   refine g_if_eq X0 hx (hb hby at_48) (pc1 := 51) rfl (by decide) (pc2 := 55) (by decide) (fun hc48 => ?_) (fun hc48 => ?_)
   ·
    refine g_iloadN X0 hx (hb hby at_55) (pc' := 56) rfl rfl ?_
    refine g_bipush X0 hx (hb hby at_56) (pc' := 58) rfl (z := 64) rfl ?_
    refine g_iand X0 hx (hb hby at_58) (pc' := 59) rfl ?_
    refine g_if_eq X0 hx (hb hby at_59) (pc1 := 62) rfl (by decide) (pc2 := 77) (by decide) (fun hc59 => ?_) (fun hc59 => ?_)
    ·
     exact J1454  c0 d2 d3 hc0 hd2 hd3
    ·
     refine g_iload X0 hx (hb hby at_62) (pc' := 64) rfl rfl ?_
     refine g_ldc X0 hx hZ hown (wd hw 91 rfl) (hb hby at_64) (pc' := 66) rfl ?_
     refine g_iand X0 hx (hb hby at_66) (pc' := 67) rfl ?_
     refine g_iload X0 hx (hb hby at_67) (pc' := 69) rfl rfl ?_
     refine g_sipush X0 hx (hb hby at_69) (pc' := 72) rfl (z := 255) rfl ?_
     refine g_iand X0 hx (hb hby at_72) (pc' := 73) rfl ?_
     refine g_ior X0 hx (hb hby at_73) (pc' := 74) rfl ?_
     refine g_i2c X0 hx (hb hby at_74) (pc' := 75) rfl ?_
     refine g_istore X0 hx (hb hby at_75) (pc' := 77) rfl (Ls' := #[vI p0, vI p1, vI p2, vI p3, vI p4, vI c0, vI c0, vI (chr ((c0 &&& (65280 : Int32)) ||| (d2 &&& (255 : Int32)))), vI d3, .unset, .unset, .unset, .unset, .unset, .unset, .unset]) rfl ?_
     exact J1454  c0 (chr ((c0 &&& (65280 : Int32)) ||| (d2 &&& (255 : Int32)))) d3 hc0 (chr_chr _) hd3
   ·
    refine g_iload X0 hx (hb hby at_51) (pc' := 53) rfl rfl ?_
    refine g_istore X0 hx (hb hby at_53) (pc' := 55) rfl (Ls' := #[vI p0, vI p1, vI p2, vI p3, vI p4, vI c0, vI c0, vI d2, vI c0, .unset, .unset, .unset, .unset, .unset, .unset, .unset]) rfl ?_
    refine g_iloadN X0 hx (hb hby at_55) (pc' := 56) rfl rfl ?_
    refine g_bipush X0 hx (hb hby at_56) (pc' := 58) rfl (z := 64) rfl ?_
    refine g_iand X0 hx (hb hby at_58) (pc' := 59) rfl ?_
    refine g_if_eq X0 hx (hb hby at_59) (pc1 := 62) rfl (by decide) (pc2 := 77) (by decide) (fun hc59 => ?_) (fun hc59 => ?_)
    ·
     exact J1454  c0 d2 c0 hc0 hd2 hc0
    ·
     refine g_iload X0 hx (hb hby at_62) (pc' := 64) rfl rfl ?_
     refine g_ldc X0 hx hZ hown (wd hw 91 rfl) (hb hby at_64) (pc' := 66) rfl ?_
     refine g_iand X0 hx (hb hby at_66) (pc' := 67) rfl ?_
     refine g_iload X0 hx (hb hby at_67) (pc' := 69) rfl rfl ?_
     refine g_sipush X0 hx (hb hby at_69) (pc' := 72) rfl (z := 255) rfl ?_
     refine g_iand X0 hx (hb hby at_72) (pc' := 73) rfl ?_
     refine g_ior X0 hx (hb hby at_73) (pc' := 74) rfl ?_
     refine g_i2c X0 hx (hb hby at_74) (pc' := 75) rfl ?_
     refine g_istore X0 hx (hb hby at_75) (pc' := 77) rfl (Ls' := #[vI p0, vI p1, vI p2, vI p3, vI p4, vI c0, vI c0, vI (chr ((c0 &&& (65280 : Int32)) ||| (d2 &&& (255 : Int32)))), vI c0, .unset, .unset, .unset, .unset, .unset, .unset, .unset]) rfl ?_
     exact J1454  c0 (chr ((c0 &&& (65280 : Int32)) ||| (d2 &&& (255 : Int32)))) c0 hc0 (chr_chr _) hc0
  ·
   refine g_iload X0 hx (hb hby at_40) (pc' := 42) rfl rfl ?_
   refine g_istore X0 hx (hb hby at_42) (pc' := 44) rfl (Ls' := #[vI p0, vI p1, vI p2, vI p3, vI p4, vI c0, vI c0, vI c0, vI d3, .unset, .unset, .unset, .unset, .unset, .unset, .unset]) rfl ?_
   refine g_iloadN X0 hx (hb hby at_44) (pc' := 45) rfl rfl ?_
   refine g_bipush X0 hx (hb hby at_45) (pc' := 47) rfl (z := 32) rfl ?_
   refine g_iand X0 hx (hb hby at_47) (pc' := 48) rfl ?_
   refine g_if_eq X0 hx (hb hby at_48) (pc1 := 51) rfl (by decide) (pc2 := 55) (by decide) (fun hc48 => ?_) (fun hc48 => ?_)
   ·
    refine g_iloadN X0 hx (hb hby at_55) (pc' := 56) rfl rfl ?_
    refine g_bipush X0 hx (hb hby at_56) (pc' := 58) rfl (z := 64) rfl ?_
    refine g_iand X0 hx (hb hby at_58) (pc' := 59) rfl ?_
    refine g_if_eq X0 hx (hb hby at_59) (pc1 := 62) rfl (by decide) (pc2 := 77) (by decide) (fun hc59 => ?_) (fun hc59 => ?_)
    ·
     exact J1454  c0 c0 d3 hc0 hc0 hd3
    ·
     refine g_iload X0 hx (hb hby at_62) (pc' := 64) rfl rfl ?_
     refine g_ldc X0 hx hZ hown (wd hw 91 rfl) (hb hby at_64) (pc' := 66) rfl ?_
     refine g_iand X0 hx (hb hby at_66) (pc' := 67) rfl ?_
     refine g_iload X0 hx (hb hby at_67) (pc' := 69) rfl rfl ?_
     refine g_sipush X0 hx (hb hby at_69) (pc' := 72) rfl (z := 255) rfl ?_
     refine g_iand X0 hx (hb hby at_72) (pc' := 73) rfl ?_
     refine g_ior X0 hx (hb hby at_73) (pc' := 74) rfl ?_
     refine g_i2c X0 hx (hb hby at_74) (pc' := 75) rfl ?_
     refine g_istore X0 hx (hb hby at_75) (pc' := 77) rfl (Ls' := #[vI p0, vI p1, vI p2, vI p3, vI p4, vI c0, vI c0, vI (chr ((c0 &&& (65280 : Int32)) ||| (c0 &&& (255 : Int32)))), vI d3, .unset, .unset, .unset, .unset, .unset, .unset, .unset]) rfl ?_
     exact J1454  c0 (chr ((c0 &&& (65280 : Int32)) ||| (c0 &&& (255 : Int32)))) d3 hc0 (chr_chr _) hd3
   ·
    refine g_iload X0 hx (hb hby at_51) (pc' := 53) rfl rfl ?_
    refine g_istore X0 hx (hb hby at_53) (pc' := 55) rfl (Ls' := #[vI p0, vI p1, vI p2, vI p3, vI p4, vI c0, vI c0, vI c0, vI c0, .unset, .unset, .unset, .unset, .unset, .unset, .unset]) rfl ?_
    refine g_iloadN X0 hx (hb hby at_55) (pc' := 56) rfl rfl ?_
    refine g_bipush X0 hx (hb hby at_56) (pc' := 58) rfl (z := 64) rfl ?_
    refine g_iand X0 hx (hb hby at_58) (pc' := 59) rfl ?_
    refine g_if_eq X0 hx (hb hby at_59) (pc1 := 62) rfl (by decide) (pc2 := 77) (by decide) (fun hc59 => ?_) (fun hc59 => ?_)
    ·
     exact J1454  c0 c0 c0 hc0 hc0 hc0
    ·
     refine g_iload X0 hx (hb hby at_62) (pc' := 64) rfl rfl ?_
     refine g_ldc X0 hx hZ hown (wd hw 91 rfl) (hb hby at_64) (pc' := 66) rfl ?_
     refine g_iand X0 hx (hb hby at_66) (pc' := 67) rfl ?_
     refine g_iload X0 hx (hb hby at_67) (pc' := 69) rfl rfl ?_
     refine g_sipush X0 hx (hb hby at_69) (pc' := 72) rfl (z := 255) rfl ?_
     refine g_iand X0 hx (hb hby at_72) (pc' := 73) rfl ?_
     refine g_ior X0 hx (hb hby at_73) (pc' := 74) rfl ?_
     refine g_i2c X0 hx (hb hby at_74) (pc' := 75) rfl ?_
     refine g_istore X0 hx (hb hby at_75) (pc' := 77) rfl (Ls' := #[vI p0, vI p1, vI p2, vI p3, vI p4, vI c0, vI c0, vI (chr ((c0 &&& (65280 : Int32)) ||| (c0 &&& (255 : Int32)))), vI c0, .unset, .unset, .unset, .unset, .unset, .unset, .unset]) rfl ?_
     exact J1454  c0 (chr ((c0 &&& (65280 : Int32)) ||| (c0 &&& (255 : Int32)))) c0 hc0 (chr_chr _) hc0
theorem own_sts {s : State} {a0 : Array Value} (hs : ∀ w ∈ jdkStatics_1, w.before a0 s = true) : ∃ (cs : Int32) (fv : Value), Sts s cs fv ∧ Jvm.Lit.compactW.before a0 s = true := by
 have h0 := hs _ (List.mem_of_getElem? (i := 0) rfl)
 have h1 := Cond.before_iff.mp (hs _ (List.mem_of_getElem? (i := 1) rfl))
 have h2 := hs _ (List.mem_of_getElem? (i := 2) rfl)
 obtain ⟨cs, ev⟩ := is_v h1
 have e12 := eqv_i (Term.int_eval 1) (Cond.before_iff.mp (hs _ (List.mem_of_getElem? (i := 12) rfl)))
 have e15 := eqv_i (Term.int_eval 0) (Cond.before_iff.mp (hs _ (List.mem_of_getElem? (i := 15) rfl)))
 have e18 := eqv_i (Term.int_eval 8) (Cond.before_iff.mp (hs _ (List.mem_of_getElem? (i := 18) rfl)))
 have h8 := Cond.before_iff.mp (hs _ (List.mem_of_getElem? (i := 8) rfl))
 obtain ⟨fv, ef, hf⟩ : ∃ fv : Value, (Jvm.Term.static "jdk/internal/util/Preconditions" "SIOOBE_FORMATTER" "Ljava/util/function/BiFunction;").eval a0 s none [] s = some fv ∧ (fv = .null ∨ ∃ r, fv = .ref r) := by
  cases q : (Jvm.Term.static "jdk/internal/util/Preconditions" "SIOOBE_FORMATTER" "Ljava/util/function/BiFunction;").eval a0 s none [] s with
  | none => simp [Cond.value, q] at h8
  | some v =>
   refine ⟨v, rfl, ?_⟩
   simp [Cond.value, q] at h8
   cases v <;> simp_all [Value.isRef]
 refine ⟨cs, fv, ⟨Sta.start ev (Or.inl h0), fun q => ?_, Sta.start e12 (Or.inl (hs _ (List.mem_of_getElem? (i := 11) rfl))), Sta.start e15 (Or.inl (hs _ (List.mem_of_getElem? (i := 14) rfl))), Sta.start e18 (Or.inl (hs _ (List.mem_of_getElem? (i := 17) rfl))), Sta.start ef (Or.inl (hs _ (List.mem_of_getElem? (i := 7) rfl))), hf⟩, h2⟩
 have e := Cond.eq_ints ev (Term.int_eval (first := s) (args := a0) (o := none) (idx := []) (s := s) 0)
 have h3 : ((Jvm.Cond.eq (.static "java/lang/String" "COMPACT_STRINGS" "Z") (.int 0)).value a0 s none s []).map (!·) = some true := Cond.before_iff.mp h2
 rw [e, q] at h3
 exact absurd h3 (by decide)
theorem comes_1 {Post : Tables → Env → Array Value → State → Outcome → State → Prop} (hpost : ∀ tb e args s v u, (limb_1_1.after args s (.returned v) u = true ∧ limb_1_2.after args s (.returned v) u = true ∧ True) → ReturnedEndW s (.returned v) u (Jvm.fieldLocs frame_1_writes args s ++ Jvm.arrayLocs frame_1_arrays args s ++ Jvm.staticLocs frame_1_statics s) 32 3712 → Post tb e args s (.returned v) u) :
  ArmFor flags0 classFile x code maxLocals ret World_1 tables_1 room_1 Calls_1 rest_1 Pre_1 Post := by
 intro l hfl _ _ p e ha hc hk s m args below hf hA hF happ hP
 obtain ⟨hcalls, hrest, hpre⟩ := hP
 obtain ⟨-, -, -, hnamed, -, -, -, hat⟩ := (Spec.applies_iff hf).mp happ
 obtain ⟨hg, hn⟩ := and_e (Cond.before_iff.mp (show (Jvm.Cond.and given_1 narrow_1).before args s = true from hpre))
 obtain ⟨g1, g2⟩ := and_e hg
 obtain ⟨g3, g4⟩ := and_e g2
 obtain ⟨g5, g6⟩ := and_e g4
 obtain ⟨g7, g8⟩ := and_e g6
 obtain ⟨g9, g10⟩ := and_e g8
 obtain ⟨w0, w1, w2, w3, w4, rfl⟩ : ∃ w0 w1 w2 w3 w4 : Value, args = #[w0, w1, w2, w3, w4] := by
  have hs : args.size = 5 := by simpa [Cond.value, given_1] using g1
  obtain ⟨L⟩ := args
  match L, hs with
  | [w0, w1, w2, w3, w4], _ => exact ⟨w0, w1, w2, w3, w4, rfl⟩
 have hw := fun d (hd : d ∈ tables_1) => atoms_spec (ws := Jvm.Cond.code x code maxLocals ret :: tables_1) hat d (List.mem_cons_of_mem _ hd)
 have hfit : Fit s := fun {y c} hc i hi => by
  obtain ⟨ha, rfl⟩ := Array.getElem?_eq_some_iff.mp hc
  have q := List.all_eq_true.mp ((Array.all_eq_true_iff_forall_mem.mp hF) _ (Array.getElem_mem ha)) i (List.mem_range.mpr hi)
  simpa [Array.getElem?_eq_getElem hi] using q
 obtain ⟨hsets, hown0⟩ := atoms_of _ (rest_1_c_eq ▸ (show rest_1_c.before _ s = true from hrest))
 have hr0 := Cond.before_iff.mp hown0
 obtain ⟨i0, ei0⟩ := is_v g3
 obtain rfl : w0 = (.int i0) := Option.some.inj ei0
 obtain ⟨i1, ei1⟩ := is_v g5
 obtain rfl : w1 = (.int i1) := Option.some.inj ei1
 obtain ⟨i2, ei2⟩ := is_v g7
 obtain rfl : w2 = (.int i2) := Option.some.inj ei2
 obtain ⟨i3, ei3⟩ := is_v g9
 obtain rfl : w3 = (.int i3) := Option.some.inj ei3
 obtain ⟨i4, ei4⟩ := is_v g10
 obtain rfl : w4 = (.int i4) := Option.some.inj ei4
 obtain ⟨cs, fv, hB, hCW⟩ := own_sts hsets
 have hCH : Jvm.Lit.constHeld s "java/lang/String" 7 := hcalls.1 _ (List.mem_cons_self ..)
 obtain ⟨n, o, h1, h2, h3, _, L, rfl, ⟨rfl, N⟩, hq⟩ := rm0 l s _ hw i0 i1 i2 i3 i4 cs fv s.heap s.heap.size (Nat.le_refl _) hB (Old.start s) hCH hCW tables_1 p e ha hc hk s m _ below hf ((Spec.applies_iff_loose hf).mp happ).1 ⟨rfl, State.Warmed39.refl s, rfl, rfl⟩ trivial
 refine ⟨n, _, h1, h2, h3, hpost _ _ _ _ _ _ ⟨Cond.after_iff.mpr rfl, Cond.after_iff.mpr (eq_i res_at (Term.int_eval (1)) rfl), trivial⟩ ⟨hq.1, hq.2.1, hq.2.2.1, (hq.2.2.2.sift fun y hy => Or.inr (N y hy)).mono (by decide) (by decide)⟩⟩
theorem main_1_1 : Claimed_1_1 := comes_1 fun _ _ _ _ _ _ h hF => ⟨h.1, hF⟩
theorem main_1_2 : Claimed_1_2 := comes_1 fun _ _ _ _ _ _ h hF => ⟨h.2.1, hF⟩
end Jvm.Pilot.@@N@@
namespace Jvm.Pilot.@@N@@
open Jvm Jvm.ClassFile Sem Op Lib Jvm.Free Jvm.Stand Jvm.Pilot.@@N@@.Jvm.D
/-! MADE BY PROGRAM (witnessworld.py) out of the Statement's table words and the real class files: 21 classes; the members and pool entries that the words name. The judged class is class 1, her method 1. -/
namespace start1
open Jvm.ClassFile
def u (s : String) : CpInfo := .utf8 (stringToUtf16 s)
/-- a pool by its gaps: so many unusable entries, then the entry; so many at the end -/
def gap : Nat → List CpInfo → List CpInfo
  | 0, r => r
  | n + 1, r => .unusable :: gap n r
def poolList (es : List (Nat × CpInfo)) (last : Nat) : List CpInfo := es.foldr (fun e r => gap e.1 (e.2 :: r)) (gap last [])
def pool (es : List (Nat × CpInfo)) (last : Nat) : Array CpInfo := ⟨poolList es last⟩
def fileOf (pool : Array CpInfo) (this : Nat) (attrs : Array Attribute := #[]) (ms : Array MethodInfo := #[]) (fl : Nat := 33) (sup : Nat := 0) (ifs : Array Nat := #[]) (fds : Array FieldInfo := #[]) : ClassFile where
  minorVersion := 0
  majorVersion := 65
  constantPool := pool
  accessFlags := fl
  thisClass := this
  superClass := sup
  interfaces := ifs
  fields := fds
  methods := ms
  attributes := attrs
def plain (name : String) (sup : Option ClassId) : Class where
  name := name
  kind := .ordinary
  loader := none
  accessFlags := 33
  super := sup
  interfaces := #[]
  cf := none
  fields := #[]
  methods := #[]
  instanceTypes := #[]
  staticTypes := #[]
  resolved := #[]
  callSites := []
  init := .initialized
  statics := none
  mirror := none

def pool0 : Array CpInfo := pool [(5, u "<init>"), (0, u "()V"), (1, .class_ 10), (1, u "java/lang/Object")] 113

def k0c0 : Code := { maxStack := 0, maxLocals := 1, code := object_method_1_code, exceptionTable := #[], attributes := #[] }
def k0m0 : Method := { name := "<init>", desc := "()V", sig := { parameters := [], returnType := none }, accessFlags := 1, code := some k0c0 }
/-- java/lang/Object -/
def k0 : Class := { plain "java/lang/Object" none with
  accessFlags := 33
  interfaces := #[]
  cf := some (fileOf pool0 8 #[] #[{ accessFlags := 1, nameIndex := 5, descriptorIndex := 6, attributes := #[] }] 33 0 #[] #[])
  fields := #[]
  methods := #[k0m0]
  instanceTypes := #[]
  staticTypes := #[]
  resolved := Array.replicate 124 none
  statics := none }

def pool1 : Array CpInfo := pool [(2, .class_ 4), (1, u "java/lang/Object"), (0, u "<init>"), (0, u "()V"), (0, .integer 65280), (0, .class_ 9), (0, u "java/lang/String"), (0, .methodref 8 11), (0, .nameAndType 5 12), (0, u "([C)V"), (0, .class_ 14), (0, u "com/example/needlework/needlework/LastOccurrence"), (0, .methodref 13 16), (0, .nameAndType 5 17), (0, u "(Ljava/lang/CharSequence;)V"), (0, .methodref 13 19), (0, .nameAndType 20 21), (0, u "of"), (0, u "(C)I"), (0, .class_ 23), (0, u "com/example/needlework/needlework/LastOccurrenceOfPinLaw"), (2, u "law"), (0, u "(IIIII)Z")] 5

def k1m0 : Method := { name := "<init>", desc := "()V", sig := { parameters := [], returnType := none }, accessFlags := 1, code := none }
def k1c1 : Code := { maxStack := 6, maxLocals := 16, code := code, exceptionTable := #[], attributes := #[] }
def k1m1 : Method := { name := "law", desc := "(IIIII)Z", sig := { parameters := [.int, .int, .int, .int, .int], returnType := some .boolean }, accessFlags := 9, code := some k1c1 }
/-- com/example/needlework/needlework/LastOccurrenceOfPinLaw -/
def k1 : Class := { plain "com/example/needlework/needlework/LastOccurrenceOfPinLaw" (some 0) with
  accessFlags := 49
  interfaces := #[]
  cf := some (fileOf pool1 22 #[] #[{ accessFlags := 1, nameIndex := 5, descriptorIndex := 6, attributes := #[] }, { accessFlags := 9, nameIndex := 26, descriptorIndex := 27, attributes := #[] }] 49 2 #[] #[])
  fields := #[]
  methods := #[k1m0, k1m1]
  instanceTypes := #[]
  staticTypes := #[]
  resolved := Array.replicate 33 none
  statics := none }

def pool2 : Array CpInfo := pool [(1, .class_ 2), (0, u "java/io/Serializable"), (0, .class_ 4), (0, u "java/lang/Object")] 2

/-- java/io/Serializable -/
def k2 : Class := { plain "java/io/Serializable" (some 0) with
  accessFlags := 1537
  interfaces := #[]
  cf := some (fileOf pool2 1 #[] #[] 1537 3 #[] #[])
  fields := #[]
  methods := #[]
  instanceTypes := #[]
  staticTypes := #[]
  resolved := Array.replicate 7 none
  statics := none }

def pool3 : Array CpInfo := pool [(1, .class_ 2), (0, u "java/lang/Comparable"), (0, .class_ 4), (0, u "java/lang/Object")] 7

/-- java/lang/Comparable -/
def k3 : Class := { plain "java/lang/Comparable" (some 0) with
  accessFlags := 1537
  interfaces := #[]
  cf := some (fileOf pool3 1 #[] #[] 1537 3 #[] #[])
  fields := #[]
  methods := #[]
  instanceTypes := #[]
  staticTypes := #[]
  resolved := Array.replicate 12 none
  statics := none }

def pool4 : Array CpInfo := pool [(2, .class_ 4), (1, u "java/lang/CharSequence"), (0, u "length"), (0, u "()I"), (38, u "charAt"), (0, u "(I)C"), (0, .class_ 48), (0, u "java/lang/CharSequence$1CodePointIterator"), (10, .class_ 60), (0, u "java/lang/CharSequence$1CharIterator"), (5, .class_ 67), (0, u "java/lang/Object")] 63

def k4m0 : Method := { name := "length", desc := "()I", sig := { parameters := [], returnType := some .int }, accessFlags := 1025, code := none }
def k4m1 : Method := { name := "charAt", desc := "(I)C", sig := { parameters := [.int], returnType := some .char }, accessFlags := 1025, code := none }
/-- java/lang/CharSequence -/
def k4 : Class := { plain "java/lang/CharSequence" (some 0) with
  accessFlags := 1537
  interfaces := #[]
  cf := some (fileOf pool4 2 #[.nestMembers #[47, 59]] #[{ accessFlags := 1025, nameIndex := 5, descriptorIndex := 6, attributes := #[] }, { accessFlags := 1025, nameIndex := 45, descriptorIndex := 46, attributes := #[] }] 1537 66 #[] #[])
  fields := #[]
  methods := #[k4m0, k4m1]
  instanceTypes := #[]
  staticTypes := #[]
  resolved := Array.replicate 131 none
  statics := none }

def pool5 : Array CpInfo := pool [(1, .class_ 2), (0, u "java/lang/constant/Constable"), (0, .class_ 4), (0, u "java/lang/Object")] 6

/-- java/lang/constant/Constable -/
def k5 : Class := { plain "java/lang/constant/Constable" (some 0) with
  accessFlags := 1537
  interfaces := #[]
  cf := some (fileOf pool5 1 #[] #[] 1537 3 #[] #[])
  fields := #[]
  methods := #[]
  instanceTypes := #[]
  staticTypes := #[]
  resolved := Array.replicate 11 none
  statics := none }

def pool6 : Array CpInfo := pool [(1, .class_ 2), (0, u "java/lang/constant/ConstantDesc"), (0, .class_ 4), (0, u "java/lang/Object")] 32

/-- java/lang/constant/ConstantDesc -/
def k6 : Class := { plain "java/lang/constant/ConstantDesc" (some 0) with
  accessFlags := 1537
  interfaces := #[]
  cf := some (fileOf pool6 1 #[] #[] 1537 3 #[] #[])
  fields := #[]
  methods := #[]
  instanceTypes := #[]
  staticTypes := #[]
  resolved := Array.replicate 37 none
  statics := none }

def pool7 : Array CpInfo := pool [(1, .methodref 2 3), (0, .class_ 4), (0, .nameAndType 5 6), (0, u "java/lang/Object"), (0, u "<init>"), (0, u "()V"), (0, .string 8), (0, u ""), (0, .fieldref 10 11), (0, .class_ 12), (0, .nameAndType 13 14), (0, u "java/lang/String"), (0, u "value"), (0, u "[B"), (0, .fieldref 10 16), (0, .nameAndType 17 18), (0, u "coder"), (0, u "B"), (2, u "hash"), (0, u "I"), (2, u "hashIsZero"), (0, u "Z"), (0, .methodref 10 28), (0, .nameAndType 5 29), (0, u "([CIILjava/lang/Void;)V"), (8, .fieldref 10 39), (0, .nameAndType 40 26), (0, u "COMPACT_STRINGS"), (1, .class_ 44), (1, u "java/lang/StringUTF16"), (0, u "compress"), (1, .methodref 42 48), (0, .nameAndType 49 50), (0, u "coderFromArrayLen"), (0, u "([BI)B"), (56, .class_ 109), (1, u "java/lang/StringLatin1"), (32, u "()Z"), (34, .methodref 42 178), (0, .nameAndType 45 179), (0, u "([CII)[B"), (154, u "()I"), (0, .methodref 10 336), (0, .nameAndType 17 337), (0, u "()B"), (25, u "([BI)C"), (27, u "(II)V"), (35, u "(I)C"), (64, .methodref 10 493), (0, .nameAndType 494 142), (0, u "isLatin1"), (0, .methodref 107 496), (0, .nameAndType 497 363), (0, u "charAt"), (0, .methodref 42 496), (2, u "checkIndex"), (5, u "length"), (67, .class_ 576), (0, u "java/lang/CharSequence"), (22, u "CASE_INSENSITIVE_ORDER"), (0, u "Ljava/util/Comparator;"), (409, u "([C)V"), (42, .fieldref 1054 1055), (0, .class_ 1056), (0, .nameAndType 1057 1058), (0, u "jdk/internal/util/Preconditions"), (0, u "SIOOBE_FORMATTER"), (0, u "Ljava/util/function/BiFunction;"), (0, .methodref 1054 1060), (0, .nameAndType 501 1061), (0, u "(IILjava/util/function/BiFunction;)I"), (39, u "serialPersistentFields"), (0, u "[Ljava/io/ObjectStreamField;"), (0, .class_ 1104), (0, u "java/lang/String$CaseInsensitiveComparator"), (1, .class_ 1107), (0, u "java/io/Serializable"), (0, .class_ 1109), (0, u "java/lang/Comparable"), (0, .class_ 1111), (0, u "java/lang/constant/Constable"), (0, .class_ 1113), (0, u "java/lang/constant/ConstantDesc"), (2, u "serialVersionUID"), (0, u "J"), (3, u "REPL"), (0, u "C"), (2, u "LATIN1"), (1, u "UTF16")] 323

def k7m0 : Method := { name := "<init>", desc := "()V", sig := { parameters := [], returnType := none }, accessFlags := 1, code := none }
def k7c1 : Code := { maxStack := 5, maxLocals := 2, code := jdk_42_method_3_code, exceptionTable := #[], attributes := #[] }
def k7m1 : Method := { name := "<init>", desc := "([C)V", sig := { parameters := [(.array .char)], returnType := none }, accessFlags := 1, code := some k7c1 }
def k7c2 : Code := { maxStack := 2, maxLocals := 1, code := jdk_42_method_54_code, exceptionTable := #[], attributes := #[] }
def k7m2 : Method := { name := "length", desc := "()I", sig := { parameters := [], returnType := some .int }, accessFlags := 1, code := some k7c2 }
def k7c3 : Code := { maxStack := 2, maxLocals := 2, code := jdk_42_method_56_code, exceptionTable := #[], attributes := #[] }
def k7m3 : Method := { name := "charAt", desc := "(I)C", sig := { parameters := [.int], returnType := some .char }, accessFlags := 1, code := some k7c3 }
def k7c4 : Code := { maxStack := 4, maxLocals := 6, code := jdk_42_method_149_code, exceptionTable := #[], attributes := #[] }
def k7m4 : Method := { name := "<init>", desc := "([CIILjava/lang/Void;)V", sig := { parameters := [(.array .char), .int, .int, (.object "java/lang/Void")], returnType := none }, accessFlags := 2, code := some k7c4 }
def k7c5 : Code := { maxStack := 1, maxLocals := 1, code := jdk_42_method_152_code, exceptionTable := #[], attributes := #[] }
def k7m5 : Method := { name := "coder", desc := "()B", sig := { parameters := [], returnType := some .byte }, accessFlags := 0, code := some k7c5 }
def k7c6 : Code := { maxStack := 1, maxLocals := 1, code := jdk_42_method_154_code, exceptionTable := #[], attributes := #[] }
def k7m6 : Method := { name := "isLatin1", desc := "()Z", sig := { parameters := [], returnType := some .boolean }, accessFlags := 0, code := some k7c6 }
def k7c7 : Code := { maxStack := 3, maxLocals := 2, code := jdk_42_method_155_code, exceptionTable := #[], attributes := #[] }
def k7m7 : Method := { name := "checkIndex", desc := "(II)V", sig := { parameters := [.int, .int], returnType := none }, accessFlags := 8, code := some k7c7 }
/-- java/lang/String -/
def k7 : Class := { plain "java/lang/String" (some 0) with
  accessFlags := 49
  interfaces := #[2, 3, 4, 5, 6]
  cf := some (fileOf pool7 10 #[.nestMembers #[1103]] #[{ accessFlags := 1, nameIndex := 5, descriptorIndex := 6, attributes := #[] }, { accessFlags := 1, nameIndex := 5, descriptorIndex := 1010, attributes := #[] }, { accessFlags := 1, nameIndex := 507, descriptorIndex := 334, attributes := #[] }, { accessFlags := 1, nameIndex := 497, descriptorIndex := 427, attributes := #[] }, { accessFlags := 2, nameIndex := 5, descriptorIndex := 29, attributes := #[] }, { accessFlags := 0, nameIndex := 17, descriptorIndex := 337, attributes := #[] }, { accessFlags := 0, nameIndex := 494, descriptorIndex := 142, attributes := #[] }, { accessFlags := 8, nameIndex := 501, descriptorIndex := 391, attributes := #[] }] 49 2 #[1106, 1108, 575, 1110, 1112] #[{ accessFlags := 18, nameIndex := 13, descriptorIndex := 14, attributes := #[] }, { accessFlags := 18, nameIndex := 17, descriptorIndex := 18, attributes := #[] }, { accessFlags := 2, nameIndex := 21, descriptorIndex := 22, attributes := #[] }, { accessFlags := 2, nameIndex := 25, descriptorIndex := 26, attributes := #[] }, { accessFlags := 26, nameIndex := 1116, descriptorIndex := 1117, attributes := #[] }, { accessFlags := 24, nameIndex := 40, descriptorIndex := 26, attributes := #[] }, { accessFlags := 26, nameIndex := 1101, descriptorIndex := 1102, attributes := #[] }, { accessFlags := 26, nameIndex := 1121, descriptorIndex := 1122, attributes := #[] }, { accessFlags := 25, nameIndex := 599, descriptorIndex := 600, attributes := #[] }, { accessFlags := 24, nameIndex := 1125, descriptorIndex := 18, attributes := #[] }, { accessFlags := 24, nameIndex := 1127, descriptorIndex := 18, attributes := #[] }])
  fields := #[{ name := "value", type := (.array .byte), accessFlags := 18, slot := 0, constantValue := 0 }, { name := "coder", type := .byte, accessFlags := 18, slot := 1, constantValue := 0 }, { name := "hash", type := .int, accessFlags := 2, slot := 2, constantValue := 0 }, { name := "hashIsZero", type := .boolean, accessFlags := 2, slot := 3, constantValue := 0 }, { name := "serialVersionUID", type := .long, accessFlags := 26, slot := 0, constantValue := 0 }, { name := "COMPACT_STRINGS", type := .boolean, accessFlags := 24, slot := 1, constantValue := 0 }, { name := "serialPersistentFields", type := (.array (.object "java/io/ObjectStreamField")), accessFlags := 26, slot := 2, constantValue := 0 }, { name := "REPL", type := .char, accessFlags := 26, slot := 3, constantValue := 0 }, { name := "CASE_INSENSITIVE_ORDER", type := (.object "java/util/Comparator"), accessFlags := 25, slot := 4, constantValue := 0 }, { name := "LATIN1", type := .byte, accessFlags := 24, slot := 5, constantValue := 0 }, { name := "UTF16", type := .byte, accessFlags := 24, slot := 6, constantValue := 0 }]
  methods := #[k7m0, k7m1, k7m2, k7m3, k7m4, k7m5, k7m6, k7m7]
  instanceTypes := #[(.array .byte), .byte, .int, .boolean]
  staticTypes := #[.long, .boolean, (.array (.object "java/io/ObjectStreamField")), .char, (.object "java/util/Comparator"), .byte, .byte]
  resolved := Array.replicate 1451 none
  statics := some 0 }

def pool8 : Array CpInfo := pool [(3, .class_ 4), (0, u "java/lang/String"), (1, .class_ 8), (1, u "java/lang/Object"), (0, u "<init>"), (0, u "()V"), (0, .methodref 12 13), (0, .class_ 14), (0, .nameAndType 15 16), (0, u "java/lang/StringUTF16"), (0, u "newBytesLength"), (0, u "(I)I"), (3, .integer 1073741823), (23, .fieldref 12 45), (0, .nameAndType 46 47), (0, u "$assertionsDisabled"), (0, u "Z"), (0, .methodref 12 49), (0, .nameAndType 50 51), (0, u "length"), (0, u "([B)I"), (7, .fieldref 12 60), (0, .nameAndType 61 62), (0, u "HI_BYTE_SHIFT"), (0, u "I"), (0, .fieldref 12 64), (0, .nameAndType 65 62), (0, u "LO_BYTE_SHIFT"), (1, .methodref 12 68), (0, .nameAndType 69 70), (0, u "checkIndex"), (0, u "(I[B)V"), (0, .methodref 12 72), (0, .nameAndType 73 74), (0, u "getChar"), (0, u "([BI)C"), (32, .methodref 12 108), (0, .nameAndType 109 110), (0, u "newBytesFor"), (0, u "(I)[B"), (0, .methodref 12 112), (0, .nameAndType 113 114), (0, u "putChar"), (0, u "([BII)V"), (0, .methodref 12 116), (0, .nameAndType 117 118), (0, u "compress"), (0, u "([CI[BII)I"), (0, .methodref 12 120), (0, .nameAndType 121 122), (0, u "toBytes"), (0, u "([CII)[B"), (138, u "coderFromArrayLen"), (0, u "([BI)B"), (106, .class_ 371), (1, u "java/lang/StringUTF16$LinesSpliterator"), (20, u "charAt"), (21, .methodref 3 415), (0, .nameAndType 69 416), (0, u "(II)V"), (13, u "MAX_LENGTH"), (196, .class_ 628), (0, u "java/lang/StringUTF16$CodePointsSpliterator"), (0, .class_ 630), (0, u "java/lang/StringUTF16$CharsSpliterator")] 4

def k8m0 : Method := { name := "<init>", desc := "()V", sig := { parameters := [], returnType := none }, accessFlags := 0, code := none }
def k8c1 : Code := { maxStack := 1, maxLocals := 1, code := jdk_52_method_2_code, exceptionTable := #[], attributes := #[] }
def k8m1 : Method := { name := "newBytesFor", desc := "(I)[B", sig := { parameters := [.int], returnType := some (.array .byte) }, accessFlags := 9, code := some k8c1 }
def k8c2 : Code := { maxStack := 4, maxLocals := 1, code := jdk_52_method_3_code, exceptionTable := #[], attributes := #[] }
def k8m2 : Method := { name := "newBytesLength", desc := "(I)I", sig := { parameters := [.int], returnType := some .int }, accessFlags := 9, code := some k8c2 }
def k8c3 : Code := { maxStack := 4, maxLocals := 3, code := jdk_52_method_4_code, exceptionTable := #[], attributes := #[] }
def k8m3 : Method := { name := "putChar", desc := "([BII)V", sig := { parameters := [(.array .byte), .int, .int], returnType := none }, accessFlags := 8, code := some k8c3 }
def k8c4 : Code := { maxStack := 3, maxLocals := 2, code := jdk_52_method_5_code, exceptionTable := #[], attributes := #[] }
def k8m4 : Method := { name := "getChar", desc := "([BI)C", sig := { parameters := [(.array .byte), .int], returnType := some .char }, accessFlags := 8, code := some k8c4 }
def k8c5 : Code := { maxStack := 2, maxLocals := 1, code := jdk_52_method_6_code, exceptionTable := #[], attributes := #[] }
def k8m5 : Method := { name := "length", desc := "([B)I", sig := { parameters := [(.array .byte)], returnType := some .int }, accessFlags := 9, code := some k8c5 }
def k8c6 : Code := { maxStack := 4, maxLocals := 5, code := jdk_52_method_14_code, exceptionTable := #[], attributes := #[] }
def k8m6 : Method := { name := "toBytes", desc := "([CII)[B", sig := { parameters := [(.array .char), .int, .int], returnType := some (.array .byte) }, accessFlags := 9, code := some k8c6 }
def k8c7 : Code := { maxStack := 2, maxLocals := 2, code := jdk_52_method_15_code, exceptionTable := #[], attributes := #[] }
def k8m7 : Method := { name := "coderFromArrayLen", desc := "([BI)B", sig := { parameters := [(.array .byte), .int], returnType := some .byte }, accessFlags := 8, code := some k8c7 }
def k8c8 : Code := { maxStack := 5, maxLocals := 6, code := jdk_52_method_16_code, exceptionTable := #[], attributes := #[] }
def k8m8 : Method := { name := "compress", desc := "([CII)[B", sig := { parameters := [(.array .char), .int, .int], returnType := some (.array .byte) }, accessFlags := 9, code := some k8c8 }
def k8c9 : Code := { maxStack := 3, maxLocals := 7, code := jdk_52_method_21_code, exceptionTable := #[], attributes := #[] }
def k8m9 : Method := { name := "compress", desc := "([CI[BII)I", sig := { parameters := [(.array .char), .int, (.array .byte), .int, .int], returnType := some .int }, accessFlags := 9, code := some k8c9 }
def k8c10 : Code := { maxStack := 2, maxLocals := 2, code := jdk_52_method_83_code, exceptionTable := #[], attributes := #[] }
def k8m10 : Method := { name := "charAt", desc := "([BI)C", sig := { parameters := [(.array .byte), .int], returnType := some .char }, accessFlags := 9, code := some k8c10 }
def k8c11 : Code := { maxStack := 2, maxLocals := 2, code := jdk_52_method_91_code, exceptionTable := #[], attributes := #[] }
def k8m11 : Method := { name := "checkIndex", desc := "(I[B)V", sig := { parameters := [.int, (.array .byte)], returnType := none }, accessFlags := 9, code := some k8c11 }
/-- java/lang/StringUTF16 -/
def k8 : Class := { plain "java/lang/StringUTF16" (some 0) with
  accessFlags := 48
  interfaces := #[]
  cf := some (fileOf pool8 12 #[.nestMembers #[627, 629, 369]] #[{ accessFlags := 0, nameIndex := 9, descriptorIndex := 10, attributes := #[] }, { accessFlags := 9, nameIndex := 109, descriptorIndex := 110, attributes := #[] }, { accessFlags := 9, nameIndex := 15, descriptorIndex := 16, attributes := #[] }, { accessFlags := 8, nameIndex := 113, descriptorIndex := 114, attributes := #[] }, { accessFlags := 8, nameIndex := 73, descriptorIndex := 74, attributes := #[] }, { accessFlags := 9, nameIndex := 50, descriptorIndex := 51, attributes := #[] }, { accessFlags := 9, nameIndex := 121, descriptorIndex := 122, attributes := #[] }, { accessFlags := 8, nameIndex := 261, descriptorIndex := 262, attributes := #[] }, { accessFlags := 9, nameIndex := 117, descriptorIndex := 122, attributes := #[] }, { accessFlags := 9, nameIndex := 117, descriptorIndex := 118, attributes := #[] }, { accessFlags := 9, nameIndex := 392, descriptorIndex := 74, attributes := #[] }, { accessFlags := 9, nameIndex := 69, descriptorIndex := 70, attributes := #[] }] 48 6 #[] #[{ accessFlags := 26, nameIndex := 61, descriptorIndex := 62, attributes := #[] }, { accessFlags := 26, nameIndex := 65, descriptorIndex := 62, attributes := #[] }, { accessFlags := 24, nameIndex := 430, descriptorIndex := 62, attributes := #[] }, { accessFlags := 4120, nameIndex := 46, descriptorIndex := 47, attributes := #[] }])
  fields := #[{ name := "HI_BYTE_SHIFT", type := .int, accessFlags := 26, slot := 0, constantValue := 0 }, { name := "LO_BYTE_SHIFT", type := .int, accessFlags := 26, slot := 1, constantValue := 0 }, { name := "MAX_LENGTH", type := .int, accessFlags := 24, slot := 2, constantValue := 0 }, { name := "$assertionsDisabled", type := .boolean, accessFlags := 4120, slot := 3, constantValue := 0 }]
  methods := #[k8m0, k8m1, k8m2, k8m3, k8m4, k8m5, k8m6, k8m7, k8m8, k8m9, k8m10, k8m11]
  instanceTypes := #[]
  staticTypes := #[.int, .int, .int, .boolean]
  resolved := Array.replicate 635 none
  statics := some 1 }

def pool9 : Array CpInfo := pool [(1, .class_ 2), (0, u "com/example/needlework/needlework/LastOccurrence"), (0, .methodref 4 5), (0, .class_ 6), (0, .nameAndType 7 8), (0, u "java/lang/Object"), (0, u "<init>"), (0, u "()V"), (2, .class_ 12), (0, u "[I"), (0, .fieldref 1 14), (0, .nameAndType 15 16), (0, u "pages"), (0, u "[[I"), (0, .interfaceMethodref 18 19), (0, .class_ 20), (0, .nameAndType 21 22), (0, u "java/lang/CharSequence"), (0, u "length"), (0, u "()I"), (0, .interfaceMethodref 18 24), (0, .nameAndType 25 26), (0, u "charAt"), (0, u "(I)C"), (0, .methodref 28 29), (0, .class_ 30), (0, .nameAndType 31 32), (0, u "java/util/Arrays"), (0, u "fill"), (0, u "([II)V"), (0, u "PAGE_BITS"), (0, u "I"), (2, u "PAGE_SIZE"), (1, u "PAGE_MASK"), (1, u "(Ljava/lang/CharSequence;)V"), (3, u "of"), (0, u "(C)I")] 2

def k9c0 : Code := { maxStack := 3, maxLocals := 6, code := prog_13_method_1_code, exceptionTable := #[], attributes := #[] }
def k9m0 : Method := { name := "<init>", desc := "(Ljava/lang/CharSequence;)V", sig := { parameters := [(.object "java/lang/CharSequence")], returnType := none }, accessFlags := 0, code := some k9c0 }
def k9c1 : Code := { maxStack := 3, maxLocals := 3, code := prog_13_method_2_code, exceptionTable := #[], attributes := #[] }
def k9m1 : Method := { name := "of", desc := "(C)I", sig := { parameters := [.char], returnType := some .int }, accessFlags := 0, code := some k9c1 }
/-- com/example/needlework/needlework/LastOccurrence -/
def k9 : Class := { plain "com/example/needlework/needlework/LastOccurrence" (some 0) with
  accessFlags := 48
  interfaces := #[]
  cf := some (fileOf pool9 1 #[] #[{ accessFlags := 0, nameIndex := 7, descriptorIndex := 41, attributes := #[] }, { accessFlags := 0, nameIndex := 45, descriptorIndex := 46, attributes := #[] }] 48 4 #[] #[{ accessFlags := 26, nameIndex := 33, descriptorIndex := 34, attributes := #[] }, { accessFlags := 26, nameIndex := 37, descriptorIndex := 34, attributes := #[] }, { accessFlags := 26, nameIndex := 39, descriptorIndex := 34, attributes := #[] }, { accessFlags := 18, nameIndex := 15, descriptorIndex := 16, attributes := #[] }])
  fields := #[{ name := "PAGE_BITS", type := .int, accessFlags := 26, slot := 0, constantValue := 0 }, { name := "PAGE_SIZE", type := .int, accessFlags := 26, slot := 1, constantValue := 0 }, { name := "PAGE_MASK", type := .int, accessFlags := 26, slot := 2, constantValue := 0 }, { name := "pages", type := (.array (.array .int)), accessFlags := 18, slot := 0, constantValue := 0 }]
  methods := #[k9m0, k9m1]
  instanceTypes := #[(.array (.array .int))]
  staticTypes := #[.int, .int, .int]
  resolved := Array.replicate 49 none
  statics := none }

def pool10 : Array CpInfo := pool [(1, .class_ 2), (0, u "java/lang/String"), (1, .class_ 6), (1, u "java/lang/Object"), (0, u "<init>"), (0, u "()V"), (0, .methodref 1 10), (0, .nameAndType 11 12), (0, u "checkIndex"), (0, u "(II)V"), (1, .class_ 16), (1, u "java/lang/StringLatin1"), (36, u "([BI)C"), (67, u "$assertionsDisabled"), (0, u "Z"), (98, .class_ 223), (1, u "java/lang/StringLatin1$LinesSpliterator"), (28, u "charAt"), (137, .class_ 391), (0, u "java/lang/StringLatin1$CharsSpliterator")] 3

def k10m0 : Method := { name := "<init>", desc := "()V", sig := { parameters := [], returnType := none }, accessFlags := 0, code := none }
def k10c1 : Code := { maxStack := 2, maxLocals := 2, code := jdk_43_method_2_code, exceptionTable := #[], attributes := #[] }
def k10m1 : Method := { name := "charAt", desc := "([BI)C", sig := { parameters := [(.array .byte), .int], returnType := some .char }, accessFlags := 9, code := some k10c1 }
/-- java/lang/StringLatin1 -/
def k10 : Class := { plain "java/lang/StringLatin1" (some 0) with
  accessFlags := 48
  interfaces := #[]
  cf := some (fileOf pool10 14 #[.nestMembers #[390, 221]] #[{ accessFlags := 0, nameIndex := 7, descriptorIndex := 8, attributes := #[] }, { accessFlags := 9, nameIndex := 252, descriptorIndex := 53, attributes := #[] }] 48 4 #[] #[{ accessFlags := 4120, nameIndex := 121, descriptorIndex := 122, attributes := #[] }])
  fields := #[{ name := "$assertionsDisabled", type := .boolean, accessFlags := 4120, slot := 0, constantValue := 0 }]
  methods := #[k10m0, k10m1]
  instanceTypes := #[]
  staticTypes := #[.boolean]
  resolved := Array.replicate 395 none
  statics := none }

def pool11 : Array CpInfo := pool [(2, .class_ 4), (1, u "java/lang/Object"), (0, u "<init>"), (0, u "()V"), (17, .class_ 26), (1, u "jdk/internal/util/Preconditions"), (6, u "checkIndex"), (21, .class_ 56), (0, u "jdk/internal/util/Preconditions$4"), (57, .class_ 115), (0, u "jdk/internal/util/Preconditions$1"), (7, u "SIOOBE_FORMATTER"), (0, u "Ljava/util/function/BiFunction;"), (0, .class_ 126), (0, u "jdk/internal/util/Preconditions$2"), (3, u "AIOOBE_FORMATTER"), (0, .class_ 132), (0, u "jdk/internal/util/Preconditions$3"), (3, u "IOOBE_FORMATTER"), (41, u "(IILjava/util/function/BiFunction;)I")] 15

def k11m0 : Method := { name := "<init>", desc := "()V", sig := { parameters := [], returnType := none }, accessFlags := 1, code := none }
def k11c1 : Code := { maxStack := 3, maxLocals := 3, code := jdk_41_method_11_code, exceptionTable := #[], attributes := #[] }
def k11m1 : Method := { name := "checkIndex", desc := "(IILjava/util/function/BiFunction;)I", sig := { parameters := [.int, .int, (.object "java/util/function/BiFunction")], returnType := some .int }, accessFlags := 9, code := some k11c1 }
/-- jdk/internal/util/Preconditions -/
def k11 : Class := { plain "jdk/internal/util/Preconditions" (some 0) with
  accessFlags := 33
  interfaces := #[]
  cf := some (fileOf pool11 24 #[.nestMembers #[55, 131, 125, 114]] #[{ accessFlags := 1, nameIndex := 5, descriptorIndex := 6, attributes := #[] }, { accessFlags := 9, nameIndex := 33, descriptorIndex := 178, attributes := #[] }] 33 2 #[] #[{ accessFlags := 25, nameIndex := 123, descriptorIndex := 124, attributes := #[] }, { accessFlags := 25, nameIndex := 130, descriptorIndex := 124, attributes := #[] }, { accessFlags := 25, nameIndex := 136, descriptorIndex := 124, attributes := #[] }])
  fields := #[{ name := "SIOOBE_FORMATTER", type := (.object "java/util/function/BiFunction"), accessFlags := 25, slot := 0, constantValue := 0 }, { name := "AIOOBE_FORMATTER", type := (.object "java/util/function/BiFunction"), accessFlags := 25, slot := 1, constantValue := 0 }, { name := "IOOBE_FORMATTER", type := (.object "java/util/function/BiFunction"), accessFlags := 25, slot := 2, constantValue := 0 }]
  methods := #[k11m0, k11m1]
  instanceTypes := #[]
  staticTypes := #[(.object "java/util/function/BiFunction"), (.object "java/util/function/BiFunction"), (.object "java/util/function/BiFunction")]
  resolved := Array.replicate 194 none
  statics := some 2 }

def pool12 : Array CpInfo := pool [(2, .class_ 4), (1, u "java/lang/Object"), (0, u "<init>"), (0, u "()V"), (7, .class_ 16), (1, u "java/util/Arrays"), (57, .class_ 76), (1, u "java/util/Arrays$NaturalOrder"), (36, .class_ 115), (1, u "java/util/Arrays$LegacyMergeSort"), (1, u "Z"), (257, .class_ 376), (0, u "java/util/Arrays$ArrayList"), (68, u "$assertionsDisabled"), (269, u "MIN_ARRAY_SORT_GRAN"), (0, u "I"), (2, u "INSERTIONSORT_THRESHOLD"), (120, u "fill"), (4, u "([II)V"), (129, .class_ 976), (0, u "java/util/Arrays$ArrayItr")] 52

def k12m0 : Method := { name := "<init>", desc := "()V", sig := { parameters := [], returnType := none }, accessFlags := 2, code := none }
def k12c1 : Code := { maxStack := 3, maxLocals := 4, code := jdk_65_method_103_code, exceptionTable := #[], attributes := #[] }
def k12m1 : Method := { name := "fill", desc := "([II)V", sig := { parameters := [(.array .int), .int], returnType := none }, accessFlags := 9, code := some k12c1 }
/-- java/util/Arrays -/
def k12 : Class := { plain "java/util/Arrays" (some 0) with
  accessFlags := 49
  interfaces := #[]
  cf := some (fileOf pool12 14 #[.nestMembers #[975, 375, 113, 74]] #[{ accessFlags := 2, nameIndex := 5, descriptorIndex := 6, attributes := #[] }, { accessFlags := 9, nameIndex := 840, descriptorIndex := 845, attributes := #[] }] 49 2 #[] #[{ accessFlags := 26, nameIndex := 715, descriptorIndex := 716, attributes := #[] }, { accessFlags := 26, nameIndex := 719, descriptorIndex := 716, attributes := #[] }, { accessFlags := 4120, nameIndex := 445, descriptorIndex := 117, attributes := #[] }])
  fields := #[{ name := "MIN_ARRAY_SORT_GRAN", type := .int, accessFlags := 26, slot := 0, constantValue := 0 }, { name := "INSERTIONSORT_THRESHOLD", type := .int, accessFlags := 26, slot := 1, constantValue := 0 }, { name := "$assertionsDisabled", type := .boolean, accessFlags := 4120, slot := 2, constantValue := 0 }]
  methods := #[k12m0, k12m1]
  instanceTypes := #[]
  staticTypes := #[.int, .int, .boolean]
  resolved := Array.replicate 1029 none
  statics := none }

def pool13 : Array CpInfo := pool [(9, u "<init>"), (6, .class_ 18), (1, u "java/lang/Object"), (0, u "()V"), (1, .class_ 23), (1, u "jdk/internal/util/ArraysSupport"), (0, u "LOG2_ARRAY_LONG_INDEX_SCALE"), (0, u "I"), (2, u "U"), (0, u "Ljdk/internal/misc/Unsafe;"), (8, u "BIG_ENDIAN"), (0, u "Z"), (8, u "LOG2_BYTE_BIT_SIZE"), (4, u "LOG2_ARRAY_INT_INDEX_SCALE"), (54, u "JLA"), (0, u "Ljdk/internal/access/JavaLangAccess;"), (11, u "LOG2_ARRAY_BOOLEAN_INDEX_SCALE"), (9, u "LOG2_ARRAY_BYTE_INDEX_SCALE"), (5, u "LOG2_ARRAY_CHAR_INDEX_SCALE"), (5, u "LOG2_ARRAY_SHORT_INDEX_SCALE"), (18, u "LOG2_ARRAY_FLOAT_INDEX_SCALE"), (24, u "LOG2_ARRAY_DOUBLE_INDEX_SCALE"), (89, u "T_BOOLEAN"), (2, u "T_CHAR"), (1, u "T_FLOAT"), (1, u "T_DOUBLE"), (1, u "T_BYTE"), (1, u "T_SHORT"), (1, u "T_INT"), (1, u "T_LONG"), (1, u "SOFT_MAX_ARRAY_LENGTH")] 83

def k13m0 : Method := { name := "<init>", desc := "()V", sig := { parameters := [], returnType := none }, accessFlags := 2, code := none }
/-- jdk/internal/util/ArraysSupport -/
def k13 : Class := { plain "jdk/internal/util/ArraysSupport" (some 0) with
  accessFlags := 33
  interfaces := #[]
  cf := some (fileOf pool13 21 #[] #[{ accessFlags := 2, nameIndex := 9, descriptorIndex := 19, attributes := #[] }] 33 16 #[] #[{ accessFlags := 24, nameIndex := 28, descriptorIndex := 29, attributes := #[] }, { accessFlags := 26, nameIndex := 38, descriptorIndex := 39, attributes := #[] }, { accessFlags := 25, nameIndex := 121, descriptorIndex := 25, attributes := #[] }, { accessFlags := 25, nameIndex := 131, descriptorIndex := 25, attributes := #[] }, { accessFlags := 25, nameIndex := 137, descriptorIndex := 25, attributes := #[] }, { accessFlags := 25, nameIndex := 143, descriptorIndex := 25, attributes := #[] }, { accessFlags := 25, nameIndex := 53, descriptorIndex := 25, attributes := #[] }, { accessFlags := 25, nameIndex := 24, descriptorIndex := 25, attributes := #[] }, { accessFlags := 25, nameIndex := 162, descriptorIndex := 25, attributes := #[] }, { accessFlags := 25, nameIndex := 187, descriptorIndex := 25, attributes := #[] }, { accessFlags := 26, nameIndex := 48, descriptorIndex := 25, attributes := #[] }, { accessFlags := 25, nameIndex := 277, descriptorIndex := 25, attributes := #[] }, { accessFlags := 25, nameIndex := 280, descriptorIndex := 25, attributes := #[] }, { accessFlags := 25, nameIndex := 282, descriptorIndex := 25, attributes := #[] }, { accessFlags := 25, nameIndex := 284, descriptorIndex := 25, attributes := #[] }, { accessFlags := 25, nameIndex := 286, descriptorIndex := 25, attributes := #[] }, { accessFlags := 25, nameIndex := 288, descriptorIndex := 25, attributes := #[] }, { accessFlags := 25, nameIndex := 290, descriptorIndex := 25, attributes := #[] }, { accessFlags := 25, nameIndex := 292, descriptorIndex := 25, attributes := #[] }, { accessFlags := 26, nameIndex := 108, descriptorIndex := 109, attributes := #[] }, { accessFlags := 25, nameIndex := 294, descriptorIndex := 25, attributes := #[] }])
  fields := #[{ name := "U", type := (.object "jdk/internal/misc/Unsafe"), accessFlags := 24, slot := 0, constantValue := 0 }, { name := "BIG_ENDIAN", type := .boolean, accessFlags := 26, slot := 1, constantValue := 0 }, { name := "LOG2_ARRAY_BOOLEAN_INDEX_SCALE", type := .int, accessFlags := 25, slot := 2, constantValue := 0 }, { name := "LOG2_ARRAY_BYTE_INDEX_SCALE", type := .int, accessFlags := 25, slot := 3, constantValue := 0 }, { name := "LOG2_ARRAY_CHAR_INDEX_SCALE", type := .int, accessFlags := 25, slot := 4, constantValue := 0 }, { name := "LOG2_ARRAY_SHORT_INDEX_SCALE", type := .int, accessFlags := 25, slot := 5, constantValue := 0 }, { name := "LOG2_ARRAY_INT_INDEX_SCALE", type := .int, accessFlags := 25, slot := 6, constantValue := 0 }, { name := "LOG2_ARRAY_LONG_INDEX_SCALE", type := .int, accessFlags := 25, slot := 7, constantValue := 0 }, { name := "LOG2_ARRAY_FLOAT_INDEX_SCALE", type := .int, accessFlags := 25, slot := 8, constantValue := 0 }, { name := "LOG2_ARRAY_DOUBLE_INDEX_SCALE", type := .int, accessFlags := 25, slot := 9, constantValue := 0 }, { name := "LOG2_BYTE_BIT_SIZE", type := .int, accessFlags := 26, slot := 10, constantValue := 0 }, { name := "T_BOOLEAN", type := .int, accessFlags := 25, slot := 11, constantValue := 0 }, { name := "T_CHAR", type := .int, accessFlags := 25, slot := 12, constantValue := 0 }, { name := "T_FLOAT", type := .int, accessFlags := 25, slot := 13, constantValue := 0 }, { name := "T_DOUBLE", type := .int, accessFlags := 25, slot := 14, constantValue := 0 }, { name := "T_BYTE", type := .int, accessFlags := 25, slot := 15, constantValue := 0 }, { name := "T_SHORT", type := .int, accessFlags := 25, slot := 16, constantValue := 0 }, { name := "T_INT", type := .int, accessFlags := 25, slot := 17, constantValue := 0 }, { name := "T_LONG", type := .int, accessFlags := 25, slot := 18, constantValue := 0 }, { name := "JLA", type := (.object "jdk/internal/access/JavaLangAccess"), accessFlags := 26, slot := 19, constantValue := 0 }, { name := "SOFT_MAX_ARRAY_LENGTH", type := .int, accessFlags := 25, slot := 20, constantValue := 0 }]
  methods := #[k13m0]
  instanceTypes := #[]
  staticTypes := #[(.object "jdk/internal/misc/Unsafe"), .boolean, .int, .int, .int, .int, .int, .int, .int, .int, .int, .int, .int, .int, .int, .int, .int, .int, .int, (.object "jdk/internal/access/JavaLangAccess"), .int]
  resolved := Array.replicate 378 none
  statics := none }

def pool14 : Array CpInfo := pool [(1, u "java/lang/Cloneable"), (0, .class_ 1), (0, u "java/lang/Object"), (0, .class_ 3)] 3

/-- java/lang/Cloneable -/
def k14 : Class := { plain "java/lang/Cloneable" (some 0) with
  accessFlags := 1537
  interfaces := #[]
  cf := some (fileOf pool14 2 #[] #[] 1537 4 #[] #[])
  fields := #[]
  methods := #[]
  instanceTypes := #[]
  staticTypes := #[]
  resolved := Array.replicate 8 none
  statics := none }

/-- the primitive byte -/
def k15 : Class := { plain "byte" none with kind := .primitive 'B', accessFlags := 0x411 }
/-- [B -/
def k16 : Class := { plain "[B" (some 0) with kind := .array 15 .byte, interfaces := #[14, 2], accessFlags := 1041 }

/-- the primitive char -/
def k17 : Class := { plain "char" none with kind := .primitive 'C', accessFlags := 0x411 }
/-- [C -/
def k18 : Class := { plain "[C" (some 0) with kind := .array 17 .char, interfaces := #[14, 2], accessFlags := 1041 }

/-- the primitive int -/
def k19 : Class := { plain "int" none with kind := .primitive 'I', accessFlags := 0x411 }
/-- [I -/
def k20 : Class := { plain "[I" (some 0) with kind := .array 19 .int, interfaces := #[14, 2], accessFlags := 1041 }
/-- [[I -/
def k21 : Class := { plain "[[I" (some 0) with kind := .array 20 (.array .int), interfaces := #[14, 2], accessFlags := 1041 }

def heap : Heap := #[{ cls := 7, slots := #[.long 0, .int 1, .null, .int 0, .null, .int 0, .int 0], vm := .statics 7 },
  { cls := 8, slots := #[.int 0, .int 8, .int 0, .int 1], vm := .statics 8 },
  { cls := 11, slots := #[.null, .null, .null], vm := .statics 11 }]
def classes : Array Class := #[k0, k1, k2, k3, k4, k5, k6, k7, k8, k9, k10, k11, k12, k13, k14, k15, k16, k17, k18, k19, k20, k21]
def interned : List (Array UInt16 × Addr) := []
def slotsUsed : Nat := 14
def theMethod : MethodId := ⟨1, 1⟩
def args0 : Array Value := #[.int 5, .int 6, .int 1, .int 5, .int 0]
def aboutOver (below : List Frame) : State where
  vm := { classes := classes, interned := interned.toArray }
  heap := heap
  slotsUsed := slotsUsed
  threads := #[{ frames := .invoking theMethod args0 :: below }]
def below0 : List Frame := [.native { method := ⟨0, 0⟩, args := #[] }]
def about1 : State := aboutOver below0
def p0 : Program := .bare "" "" ""
def e0 : Env := launch0.env 0 0 0
theorem w_frames : about1.frames = Frame.invoking theMethod args0 :: below0 := rfl
set_option maxRecDepth 65536 in
theorem w_args : argsFit about1.vm theMethod args0 = true := by decide +kernel
set_option maxRecDepth 65536 in
theorem w_heap : heapFits about1 = true := by decide +kernel
set_option maxRecDepth 65536 in
theorem w_runnable : about1.curStatus? = some .runnable := by decide +kernel
set_option maxRecDepth 65536 in
theorem w_alone : about1.alone = true := by decide +kernel
set_option maxRecDepth 65536 in
theorem w_named : about1.methodNamed? x = some theMethod := by decide +kernel
set_option maxRecDepth 65536 in
theorem w_hears : about1.hears theMethod below0 = true := by decide +kernel
set_option maxRecDepth 65536 in
theorem w_ripe : about1.ripe theMethod args0 below0 = true := by decide +kernel
theorem w_running : about1.status = .running := rfl
set_option maxRecDepth 65536 in
theorem w_room : about1.hasRoom e0.platform room_1 = true :=
  launch0.hasRoom_least _ room_1 (by decide +kernel) (by decide +kernel) (by decide +kernel) (by decide +kernel) (by decide +kernel) (by decide +kernel)
theorem allAtoms_all (ts : List Jvm.Cond) (a : Array Jvm.Value) (st : Jvm.State) : (allAtoms ts).before a st = ts.all (fun c => c.before a st) := by
  induction ts with
  | nil => rfl
  | cons c t ih =>
    show (Jvm.Cond.and c (allAtoms t)).before a st = _
    rw [Jvm.Cond.before_and, ih, List.all_cons]
def words1 : List Jvm.Cond := Jvm.Cond.code x code maxLocals ret :: tables_1
/-- a 'code' word, met by the world's own term for the bytes: nothing is compared byte by byte -/
theorem code_word {y : MethodName} {bytes : ByteArray} {mx : Nat} {rt : Option FieldType} {a : Array Value} {s : State} {m : MethodId} {meth : Method} {c : Code} (h1 : s.methodNamed? y = some m) (h2 : s.vm.method? m = some meth) (h3 : meth.code = some c) (h4 : c.code = bytes)
    (h5 : (c.maxLocals == mx && c.exceptionTable.isEmpty && decide (c.maxStack ≤ mostOperands) && decide (meth.sig.returnType = rt) && !meth.locks && decide (parseMethodDescriptor y.desc = some meth.sig)) = true) : (Jvm.Cond.code y bytes mx rt).before a s = true := by
  simp only [Bool.and_eq_true, beq_iff_eq, Bool.not_eq_true', decide_eq_true_eq] at h5
  obtain ⟨⟨⟨⟨⟨g1, g2⟩, g3⟩, g4⟩, g5⟩, g6⟩ := h5
  simp [Cond.before, Cond.holds, Cond.value, h1, h2, h3, h4, g1, g2, g3, g4, g5, g6]
def isCode : Jvm.Cond → Bool
  | .code _ _ _ _ => true
  | _ => false
theorem all_split {L : List Jvm.Cond} {P : Jvm.Cond → Bool} (h1 : L.all (fun c => isCode c || P c) = true) (h2 : ∀ c ∈ L.filter isCode, P c = true) : L.all P = true := by
  refine List.all_eq_true.mpr fun c hc => ?_
  have h := List.all_eq_true.mp h1 c hc
  rcases Bool.eq_false_or_eq_true (isCode c) with hi | hi
  · exact h2 c (List.mem_filter.mpr ⟨hc, hi⟩)
  · simpa [hi] using h
set_option maxRecDepth 65536 in
theorem w_c0 : (Jvm.Cond.code x code maxLocals ret).before args0 about1 = true := code_word (m := ⟨1, 1⟩) (meth := k1m1) (c := k1c1) (by decide +kernel) rfl rfl rfl (by decide +kernel)
set_option maxRecDepth 65536 in
theorem w_c1 : (Jvm.Cond.code ({ cls := "java/lang/String", name := "<init>", desc := "([C)V" } : Jvm.MethodName) jdk_42_method_3_code (2 : Nat) (Option.none : Option Jvm.ClassFile.FieldType)).before args0 about1 = true := code_word (m := ⟨7, 1⟩) (meth := k7m1) (c := k7c1) (by decide +kernel) rfl rfl rfl (by decide +kernel)
set_option maxRecDepth 65536 in
theorem w_c2 : (Jvm.Cond.code ({ cls := "java/lang/String", name := "<init>", desc := "([CIILjava/lang/Void;)V" } : Jvm.MethodName) jdk_42_method_149_code (6 : Nat) (Option.none : Option Jvm.ClassFile.FieldType)).before args0 about1 = true := code_word (m := ⟨7, 4⟩) (meth := k7m4) (c := k7c4) (by decide +kernel) rfl rfl rfl (by decide +kernel)
set_option maxRecDepth 65536 in
theorem w_c3 : (Jvm.Cond.code ({ cls := "java/lang/Object", name := "<init>", desc := "()V" } : Jvm.MethodName) object_method_1_code (1 : Nat) (Option.none : Option Jvm.ClassFile.FieldType)).before args0 about1 = true := code_word (m := ⟨0, 0⟩) (meth := k0m0) (c := k0c0) (by decide +kernel) rfl rfl rfl (by decide +kernel)
set_option maxRecDepth 65536 in
theorem w_c4 : (Jvm.Cond.code ({ cls := "java/lang/StringUTF16", name := "compress", desc := "([CII)[B" } : Jvm.MethodName) jdk_52_method_16_code (6 : Nat) (Option.some (Jvm.ClassFile.FieldType.array Jvm.ClassFile.FieldType.byte))).before args0 about1 = true := code_word (m := ⟨8, 8⟩) (meth := k8m8) (c := k8c8) (by decide +kernel) rfl rfl rfl (by decide +kernel)
set_option maxRecDepth 65536 in
theorem w_c5 : (Jvm.Cond.code ({ cls := "java/lang/StringUTF16", name := "compress", desc := "([CI[BII)I" } : Jvm.MethodName) jdk_52_method_21_code (7 : Nat) (Option.some Jvm.ClassFile.FieldType.int)).before args0 about1 = true := code_word (m := ⟨8, 9⟩) (meth := k8m9) (c := k8c9) (by decide +kernel) rfl rfl rfl (by decide +kernel)
set_option maxRecDepth 65536 in
theorem w_c6 : (Jvm.Cond.code ({ cls := "java/lang/StringUTF16", name := "coderFromArrayLen", desc := "([BI)B" } : Jvm.MethodName) jdk_52_method_15_code (2 : Nat) (Option.some Jvm.ClassFile.FieldType.byte)).before args0 about1 = true := code_word (m := ⟨8, 7⟩) (meth := k8m7) (c := k8c7) (by decide +kernel) rfl rfl rfl (by decide +kernel)
set_option maxRecDepth 65536 in
theorem w_c7 : (Jvm.Cond.code ({ cls := "com/example/needlework/needlework/LastOccurrence", name := "<init>", desc := "(Ljava/lang/CharSequence;)V" } : Jvm.MethodName) prog_13_method_1_code (6 : Nat) (Option.none : Option Jvm.ClassFile.FieldType)).before args0 about1 = true := code_word (m := ⟨9, 0⟩) (meth := k9m0) (c := k9c0) (by decide +kernel) rfl rfl rfl (by decide +kernel)
set_option maxRecDepth 65536 in
theorem w_c8 : (Jvm.Cond.code ({ cls := "java/lang/String", name := "length", desc := "()I" } : Jvm.MethodName) jdk_42_method_54_code (1 : Nat) (Option.some Jvm.ClassFile.FieldType.int)).before args0 about1 = true := code_word (m := ⟨7, 2⟩) (meth := k7m2) (c := k7c2) (by decide +kernel) rfl rfl rfl (by decide +kernel)
set_option maxRecDepth 65536 in
theorem w_c9 : (Jvm.Cond.code ({ cls := "java/lang/String", name := "coder", desc := "()B" } : Jvm.MethodName) jdk_42_method_152_code (1 : Nat) (Option.some Jvm.ClassFile.FieldType.byte)).before args0 about1 = true := code_word (m := ⟨7, 5⟩) (meth := k7m5) (c := k7c5) (by decide +kernel) rfl rfl rfl (by decide +kernel)
set_option maxRecDepth 65536 in
theorem w_c10 : (Jvm.Cond.code ({ cls := "java/lang/String", name := "charAt", desc := "(I)C" } : Jvm.MethodName) jdk_42_method_56_code (2 : Nat) (Option.some Jvm.ClassFile.FieldType.char)).before args0 about1 = true := code_word (m := ⟨7, 3⟩) (meth := k7m3) (c := k7c3) (by decide +kernel) rfl rfl rfl (by decide +kernel)
set_option maxRecDepth 65536 in
theorem w_c11 : (Jvm.Cond.code ({ cls := "java/lang/String", name := "isLatin1", desc := "()Z" } : Jvm.MethodName) jdk_42_method_154_code (1 : Nat) (Option.some Jvm.ClassFile.FieldType.boolean)).before args0 about1 = true := code_word (m := ⟨7, 6⟩) (meth := k7m6) (c := k7c6) (by decide +kernel) rfl rfl rfl (by decide +kernel)
set_option maxRecDepth 65536 in
theorem w_c12 : (Jvm.Cond.code ({ cls := "java/lang/StringLatin1", name := "charAt", desc := "([BI)C" } : Jvm.MethodName) jdk_43_method_2_code (2 : Nat) (Option.some Jvm.ClassFile.FieldType.char)).before args0 about1 = true := code_word (m := ⟨10, 1⟩) (meth := k10m1) (c := k10c1) (by decide +kernel) rfl rfl rfl (by decide +kernel)
set_option maxRecDepth 65536 in
theorem w_c13 : (Jvm.Cond.code ({ cls := "java/lang/String", name := "checkIndex", desc := "(II)V" } : Jvm.MethodName) jdk_42_method_155_code (2 : Nat) (Option.none : Option Jvm.ClassFile.FieldType)).before args0 about1 = true := code_word (m := ⟨7, 7⟩) (meth := k7m7) (c := k7c7) (by decide +kernel) rfl rfl rfl (by decide +kernel)
set_option maxRecDepth 65536 in
theorem w_c14 : (Jvm.Cond.code ({ cls := "jdk/internal/util/Preconditions", name := "checkIndex", desc := "(IILjava/util/function/BiFunction;)I" } : Jvm.MethodName) jdk_41_method_11_code (3 : Nat) (Option.some Jvm.ClassFile.FieldType.int)).before args0 about1 = true := code_word (m := ⟨11, 1⟩) (meth := k11m1) (c := k11c1) (by decide +kernel) rfl rfl rfl (by decide +kernel)
set_option maxRecDepth 65536 in
theorem w_c15 : (Jvm.Cond.code ({ cls := "java/util/Arrays", name := "fill", desc := "([II)V" } : Jvm.MethodName) jdk_65_method_103_code (4 : Nat) (Option.none : Option Jvm.ClassFile.FieldType)).before args0 about1 = true := code_word (m := ⟨12, 1⟩) (meth := k12m1) (c := k12c1) (by decide +kernel) rfl rfl rfl (by decide +kernel)
set_option maxRecDepth 65536 in
theorem w_c16 : (Jvm.Cond.code ({ cls := "com/example/needlework/needlework/LastOccurrence", name := "of", desc := "(C)I" } : Jvm.MethodName) prog_13_method_2_code (3 : Nat) (Option.some Jvm.ClassFile.FieldType.int)).before args0 about1 = true := code_word (m := ⟨9, 1⟩) (meth := k9m1) (c := k9c1) (by decide +kernel) rfl rfl rfl (by decide +kernel)
set_option maxRecDepth 65536 in
theorem w_c17 : (Jvm.Cond.code ({ cls := "java/lang/StringUTF16", name := "toBytes", desc := "([CII)[B" } : Jvm.MethodName) jdk_52_method_14_code (5 : Nat) (Option.some (Jvm.ClassFile.FieldType.array Jvm.ClassFile.FieldType.byte))).before args0 about1 = true := code_word (m := ⟨8, 6⟩) (meth := k8m6) (c := k8c6) (by decide +kernel) rfl rfl rfl (by decide +kernel)
set_option maxRecDepth 65536 in
theorem w_c18 : (Jvm.Cond.code ({ cls := "java/lang/StringUTF16", name := "newBytesFor", desc := "(I)[B" } : Jvm.MethodName) jdk_52_method_2_code (1 : Nat) (Option.some (Jvm.ClassFile.FieldType.array Jvm.ClassFile.FieldType.byte))).before args0 about1 = true := code_word (m := ⟨8, 1⟩) (meth := k8m1) (c := k8c1) (by decide +kernel) rfl rfl rfl (by decide +kernel)
set_option maxRecDepth 65536 in
theorem w_c19 : (Jvm.Cond.code ({ cls := "java/lang/StringUTF16", name := "newBytesLength", desc := "(I)I" } : Jvm.MethodName) jdk_52_method_3_code (1 : Nat) (Option.some Jvm.ClassFile.FieldType.int)).before args0 about1 = true := code_word (m := ⟨8, 2⟩) (meth := k8m2) (c := k8c2) (by decide +kernel) rfl rfl rfl (by decide +kernel)
set_option maxRecDepth 65536 in
theorem w_c20 : (Jvm.Cond.code ({ cls := "java/lang/StringUTF16", name := "putChar", desc := "([BII)V" } : Jvm.MethodName) jdk_52_method_4_code (3 : Nat) (Option.none : Option Jvm.ClassFile.FieldType)).before args0 about1 = true := code_word (m := ⟨8, 3⟩) (meth := k8m3) (c := k8c3) (by decide +kernel) rfl rfl rfl (by decide +kernel)
set_option maxRecDepth 65536 in
theorem w_c21 : (Jvm.Cond.code ({ cls := "java/lang/StringUTF16", name := "getChar", desc := "([BI)C" } : Jvm.MethodName) jdk_52_method_5_code (2 : Nat) (Option.some Jvm.ClassFile.FieldType.char)).before args0 about1 = true := code_word (m := ⟨8, 4⟩) (meth := k8m4) (c := k8c4) (by decide +kernel) rfl rfl rfl (by decide +kernel)
set_option maxRecDepth 65536 in
theorem w_c22 : (Jvm.Cond.code ({ cls := "java/lang/StringUTF16", name := "charAt", desc := "([BI)C" } : Jvm.MethodName) jdk_52_method_83_code (2 : Nat) (Option.some Jvm.ClassFile.FieldType.char)).before args0 about1 = true := code_word (m := ⟨8, 10⟩) (meth := k8m10) (c := k8c10) (by decide +kernel) rfl rfl rfl (by decide +kernel)
set_option maxRecDepth 65536 in
theorem w_c23 : (Jvm.Cond.code ({ cls := "java/lang/StringUTF16", name := "checkIndex", desc := "(I[B)V" } : Jvm.MethodName) jdk_52_method_91_code (2 : Nat) (Option.none : Option Jvm.ClassFile.FieldType)).before args0 about1 = true := code_word (m := ⟨8, 11⟩) (meth := k8m11) (c := k8c11) (by decide +kernel) rfl rfl rfl (by decide +kernel)
set_option maxRecDepth 65536 in
theorem w_c24 : (Jvm.Cond.code ({ cls := "java/lang/StringUTF16", name := "length", desc := "([B)I" } : Jvm.MethodName) jdk_52_method_6_code (1 : Nat) (Option.some Jvm.ClassFile.FieldType.int)).before args0 about1 = true := code_word (m := ⟨8, 5⟩) (meth := k8m5) (c := k8c5) (by decide +kernel) rfl rfl rfl (by decide +kernel)
def codes1 : List Jvm.Cond := [Jvm.Cond.code x code maxLocals ret, Jvm.Cond.code ({ cls := "java/lang/String", name := "<init>", desc := "([C)V" } : Jvm.MethodName) jdk_42_method_3_code (2 : Nat) (Option.none : Option Jvm.ClassFile.FieldType), Jvm.Cond.code ({ cls := "java/lang/String", name := "<init>", desc := "([CIILjava/lang/Void;)V" } : Jvm.MethodName) jdk_42_method_149_code (6 : Nat) (Option.none : Option Jvm.ClassFile.FieldType), Jvm.Cond.code ({ cls := "java/lang/Object", name := "<init>", desc := "()V" } : Jvm.MethodName) object_method_1_code (1 : Nat) (Option.none : Option Jvm.ClassFile.FieldType), Jvm.Cond.code ({ cls := "java/lang/StringUTF16", name := "compress", desc := "([CII)[B" } : Jvm.MethodName) jdk_52_method_16_code (6 : Nat) (Option.some (Jvm.ClassFile.FieldType.array Jvm.ClassFile.FieldType.byte)), Jvm.Cond.code ({ cls := "java/lang/StringUTF16", name := "compress", desc := "([CI[BII)I" } : Jvm.MethodName) jdk_52_method_21_code (7 : Nat) (Option.some Jvm.ClassFile.FieldType.int), Jvm.Cond.code ({ cls := "java/lang/StringUTF16", name := "coderFromArrayLen", desc := "([BI)B" } : Jvm.MethodName) jdk_52_method_15_code (2 : Nat) (Option.some Jvm.ClassFile.FieldType.byte), Jvm.Cond.code ({ cls := "com/example/needlework/needlework/LastOccurrence", name := "<init>", desc := "(Ljava/lang/CharSequence;)V" } : Jvm.MethodName) prog_13_method_1_code (6 : Nat) (Option.none : Option Jvm.ClassFile.FieldType), Jvm.Cond.code ({ cls := "java/lang/String", name := "length", desc := "()I" } : Jvm.MethodName) jdk_42_method_54_code (1 : Nat) (Option.some Jvm.ClassFile.FieldType.int), Jvm.Cond.code ({ cls := "java/lang/String", name := "coder", desc := "()B" } : Jvm.MethodName) jdk_42_method_152_code (1 : Nat) (Option.some Jvm.ClassFile.FieldType.byte), Jvm.Cond.code ({ cls := "java/lang/String", name := "charAt", desc := "(I)C" } : Jvm.MethodName) jdk_42_method_56_code (2 : Nat) (Option.some Jvm.ClassFile.FieldType.char), Jvm.Cond.code ({ cls := "java/lang/String", name := "isLatin1", desc := "()Z" } : Jvm.MethodName) jdk_42_method_154_code (1 : Nat) (Option.some Jvm.ClassFile.FieldType.boolean), Jvm.Cond.code ({ cls := "java/lang/StringLatin1", name := "charAt", desc := "([BI)C" } : Jvm.MethodName) jdk_43_method_2_code (2 : Nat) (Option.some Jvm.ClassFile.FieldType.char), Jvm.Cond.code ({ cls := "java/lang/String", name := "checkIndex", desc := "(II)V" } : Jvm.MethodName) jdk_42_method_155_code (2 : Nat) (Option.none : Option Jvm.ClassFile.FieldType), Jvm.Cond.code ({ cls := "jdk/internal/util/Preconditions", name := "checkIndex", desc := "(IILjava/util/function/BiFunction;)I" } : Jvm.MethodName) jdk_41_method_11_code (3 : Nat) (Option.some Jvm.ClassFile.FieldType.int), Jvm.Cond.code ({ cls := "java/util/Arrays", name := "fill", desc := "([II)V" } : Jvm.MethodName) jdk_65_method_103_code (4 : Nat) (Option.none : Option Jvm.ClassFile.FieldType), Jvm.Cond.code ({ cls := "com/example/needlework/needlework/LastOccurrence", name := "of", desc := "(C)I" } : Jvm.MethodName) prog_13_method_2_code (3 : Nat) (Option.some Jvm.ClassFile.FieldType.int), Jvm.Cond.code ({ cls := "java/lang/StringUTF16", name := "toBytes", desc := "([CII)[B" } : Jvm.MethodName) jdk_52_method_14_code (5 : Nat) (Option.some (Jvm.ClassFile.FieldType.array Jvm.ClassFile.FieldType.byte)), Jvm.Cond.code ({ cls := "java/lang/StringUTF16", name := "newBytesFor", desc := "(I)[B" } : Jvm.MethodName) jdk_52_method_2_code (1 : Nat) (Option.some (Jvm.ClassFile.FieldType.array Jvm.ClassFile.FieldType.byte)), Jvm.Cond.code ({ cls := "java/lang/StringUTF16", name := "newBytesLength", desc := "(I)I" } : Jvm.MethodName) jdk_52_method_3_code (1 : Nat) (Option.some Jvm.ClassFile.FieldType.int), Jvm.Cond.code ({ cls := "java/lang/StringUTF16", name := "putChar", desc := "([BII)V" } : Jvm.MethodName) jdk_52_method_4_code (3 : Nat) (Option.none : Option Jvm.ClassFile.FieldType), Jvm.Cond.code ({ cls := "java/lang/StringUTF16", name := "getChar", desc := "([BI)C" } : Jvm.MethodName) jdk_52_method_5_code (2 : Nat) (Option.some Jvm.ClassFile.FieldType.char), Jvm.Cond.code ({ cls := "java/lang/StringUTF16", name := "charAt", desc := "([BI)C" } : Jvm.MethodName) jdk_52_method_83_code (2 : Nat) (Option.some Jvm.ClassFile.FieldType.char), Jvm.Cond.code ({ cls := "java/lang/StringUTF16", name := "checkIndex", desc := "(I[B)V" } : Jvm.MethodName) jdk_52_method_91_code (2 : Nat) (Option.none : Option Jvm.ClassFile.FieldType), Jvm.Cond.code ({ cls := "java/lang/StringUTF16", name := "length", desc := "([B)I" } : Jvm.MethodName) jdk_52_method_6_code (1 : Nat) (Option.some Jvm.ClassFile.FieldType.int)]
set_option maxRecDepth 65536 in
theorem codes_eq : words1.filter isCode = codes1 := rfl
theorem w_codes : ∀ c ∈ words1.filter isCode, c.before args0 about1 = true := by
  rw [codes_eq]
  intro c hc
  simp only [codes1, List.mem_cons, List.not_mem_nil, or_false] at hc
  rcases hc with rfl | rfl | rfl | rfl | rfl | rfl | rfl | rfl | rfl | rfl | rfl | rfl | rfl | rfl | rfl | rfl | rfl | rfl | rfl | rfl | rfl | rfl | rfl | rfl | rfl
  · exact w_c0
  · exact w_c1
  · exact w_c2
  · exact w_c3
  · exact w_c4
  · exact w_c5
  · exact w_c6
  · exact w_c7
  · exact w_c8
  · exact w_c9
  · exact w_c10
  · exact w_c11
  · exact w_c12
  · exact w_c13
  · exact w_c14
  · exact w_c15
  · exact w_c16
  · exact w_c17
  · exact w_c18
  · exact w_c19
  · exact w_c20
  · exact w_c21
  · exact w_c22
  · exact w_c23
  · exact w_c24
set_option maxRecDepth 65536 in
theorem w_t1 : (words1.take 24).all (fun c => isCode c || c.before args0 about1) = true := by decide +kernel
set_option maxRecDepth 65536 in
theorem w_t2 : ((words1.drop 24).take 24).all (fun c => isCode c || c.before args0 about1) = true := by decide +kernel
set_option maxRecDepth 65536 in
theorem w_t3 : (((words1.drop 24).drop 24).take 24).all (fun c => isCode c || c.before args0 about1) = true := by decide +kernel
set_option maxRecDepth 65536 in
theorem w_t4 : ((((words1.drop 24).drop 24).drop 24).take 24).all (fun c => isCode c || c.before args0 about1) = true := by decide +kernel
set_option maxRecDepth 65536 in
theorem w_t5 : (((((words1.drop 24).drop 24).drop 24).drop 24).take 24).all (fun c => isCode c || c.before args0 about1) = true := by decide +kernel
set_option maxRecDepth 65536 in
theorem w_t6 : (((((words1.drop 24).drop 24).drop 24).drop 24).drop 24).all (fun c => isCode c || c.before args0 about1) = true := by decide +kernel
theorem w_tables : (allAtoms (Jvm.Cond.code x code maxLocals ret :: tables_1)).before args0 about1 = true := by
  rw [allAtoms_all]
  show words1.all (fun c => c.before args0 about1) = true
  refine all_split ?_ w_codes
  rw [← List.take_append_drop 24 words1, List.all_append, w_t1, ← List.take_append_drop 24 (words1.drop 24), List.all_append, w_t2, ← List.take_append_drop 24 ((words1.drop 24).drop 24), List.all_append, w_t3, ← List.take_append_drop 24 (((words1.drop 24).drop 24).drop 24), List.all_append, w_t4, ← List.take_append_drop 24 ((((words1.drop 24).drop 24).drop 24).drop 24), List.all_append, w_t5, w_t6]
  rfl
set_option maxRecDepth 65536 in
theorem w_rest : rest_1_c.before args0 about1 = true := by decide +kernel
set_option maxRecDepth 65536 in
theorem w_case : (Jvm.Cond.and given_1 narrow_1).before args0 about1 = true := by decide +kernel
set_option maxRecDepth 65536 in
theorem w_consts : constsHeld consts_1 about1 := Jvm.Lit.constsHeldB_iff.mp (by decide +kernel)
theorem w_applies : (headSpec (Jvm.Cond.code x code maxLocals ret :: tables_1) room_1).applies x e0.platform about1 = true :=
  (Spec.applies_iff w_frames).mpr ⟨w_running, w_runnable, w_alone, w_named, w_hears, w_ripe, w_room, w_tables⟩
theorem atStart : AtStart classFile x code maxLocals ret World_1 tables_1 room_1 Calls_1 rest_1 Pre_1 launch0 p0 e0 about1 theMethod args0 below0 :=
  ⟨lists_1, trivial, launch0.admits_env _ _ _, launch0.least_env, fairChoices_fair.cas, fairChoices_fair.clock, w_frames, w_args, w_heap, w_applies, ⟨w_consts, trivial⟩, w_rest, w_case⟩
end start1
theorem witness_1 : WitnessClaimed_1 := ⟨start1.p0, start1.e0, start1.about1, start1.theMethod, start1.args0, start1.below0, start1.atStart⟩
end Jvm.Pilot.@@N@@
