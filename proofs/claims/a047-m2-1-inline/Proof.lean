import JvmDerived
import JvmDerived.Pilot.@@N@@Statement
import JvmDerived.Pilot.@@N@@Code
set_option linter.unusedVariables false
set_option linter.unusedSimpArgs false
namespace Jvm.OwnKit
open Jvm Jvm.ClassFile Sem Op Lib Jvm.Free Jvm.Stand Jvm.LawKit Jvm.RoadKit Bundle
abbrev EList := List (String × Nat)
def Dc (B : ByteArray) (pc : Nat) (i : Instr) (n pc' : Nat) : Prop := decode B pc = .ok (i, n) ∧ pc + n = pc'
def Db (B : ByteArray) (pc : Nat) (i : Instr) (o : Int) (pc' tgt : Nat) : Prop := decode B pc = .ok (i, 3) ∧ pc + 3 = pc' ∧ 0 ≤ (pc : Int) + o ∧ ((pc : Int) + o).toNat = tgt
def Go (p : Program) (e : Env) (below : List Frame) (F : Outcome → State → Prop) (T : State) (g : JFrame) : Prop :=
  ∃ s₂ o, Steps p.tables e below (T.setTop g) s₂ ∧ s₂.status = .running ∧ Ended s₂ below o ∧ F o s₂
def Sf (md : Option EList) (Z s' : State) (h : Heap) (x : Addr) : Prop := match md with | none => True | some EL => Safe Z EL s'.vm h x
def Jd (md : Option EList) (Z s s' : State) (h : Heap) : Prop := match md with
  | none => s' = s
  | some EL => ∃ (vm0 : Vm) (k0 : Nat) (a0 : Array Value), s' = s.setVm vm0 ∧ s.Since vm0 k0 ∧ k0 ≤ h.size ∧ CHr Z EL s.vm s.heap vm0 h ∧ EW Z a0 EL
theorem Jd.ext {md : Option EList} {Z s s' : State} {h h' : Heap} (J : Jd md Z s s' h) (E : Ext h h') : Jd md Z s s' h' := by
  cases md with
  | none => exact J
  | some EL => obtain ⟨vm0, k0, a0, rfl, j2, j3, j4, j5⟩ := J; exact ⟨vm0, k0, a0, rfl, j2, Nat.le_trans j3 E.1, j4.trans (CHr.ext E j4.1), j5⟩
theorem Jd.keep {md : Option EList} {Z s s' : State} {h h' : Heap} {ws : List Addr} (J : Jd md Z s s' h) (K : Keep h h' ws) (hs : ∀ x ∈ ws, Sf md Z s' h x) : Jd md Z s s' h' := by
  cases md with
  | none => exact J
  | some EL => obtain ⟨vm0, k0, a0, rfl, j2, j3, j4, j5⟩ := J; exact ⟨vm0, k0, a0, rfl, j2, Nat.le_trans j3 K.1, j4.trans (CHr.keep K hs j4.1), j5⟩
theorem Sf.ext {md : Option EList} {Z s s' : State} {h h' : Heap} {x : Addr} (S : Sf md Z s' h x) (J : Jd md Z s s' h) (E : Ext h h') : Sf md Z s' h' x := by
  cases md with
  | none => trivial
  | some EL => obtain ⟨vm0, k0, a0, rfl, j2, j3, j4, j5⟩ := J; exact Safe.ext E j4.1 S
theorem Sf.keep {md : Option EList} {Z s s' : State} {h h' : Heap} {x : Addr} {ws : List Addr} (S : Sf md Z s' h x) (J : Jd md Z s s' h) (K : Keep h h' ws) (hs : ∀ x ∈ ws, Sf md Z s' h x) : Sf md Z s' h' x := by
  cases md with
  | none => trivial
  | some EL => obtain ⟨vm0, k0, a0, rfl, j2, j3, j4, j5⟩ := J; exact Safe.keep K hs j4.1 S
theorem Sf.new {md : Option EList} {Z s' : State} {h : Heap} {x : Addr} (q : h.size ≤ x) : Sf md Z s' h x := by
  cases md with
  | none => trivial
  | some EL => exact Safe.new q
theorem Ext.tr {h h' h2 : Heap} (A : Ext h h') (B : Ext h' h2) : Ext h h2 := ⟨Nat.le_trans A.1 B.1, fun a c q => B.2 a c (A.2 a c q)⟩
/-- a keep whose written cells were made since -/
theorem Ext.kp {h h' h2 : Heap} {ws : List Addr} (A : Ext h h') (B : Keep h' h2 ws) (q : ∀ x ∈ ws, h.size ≤ x) : Ext h h2 := ⟨Nat.le_trans A.1 B.1, fun a c r => B.2.1 a c (A.2 a c r) fun z => absurd (Array.getElem?_eq_some_iff.mp r).1 (Nat.not_lt.mpr (q a z))⟩
theorem Ext.kp1 {h h' h2 : Heap} {x : Addr} (A : Ext h h') (B : Keep h' h2 [x]) (q : h.size ≤ x) : Ext h h2 := Ext.kp A B (allS q all0)
theorem Ext.of0 {h h' : Heap} (B : Keep h h' []) : Ext h h' := ⟨B.1, fun a c r => B.2.1 a c r nin0⟩
theorem Ext.keep {h h' : Heap} (E : Ext h h') (ws : List Addr) : Keep h h' ws := (Keep.refl h ws).ext E
def Cx (p : Program) (l : Launch) (e : Env) (R : Room) (s : State) (m : MethodId) (args : Array Value) (below : List Frame) (meth : Method) (c : Code) (B : ByteArray) (ML : Nat) (Z : State) (own : String) (n0 : Nat) (md : Option EList) (T : State) (h : Heap) (ws : List Addr) (cells slots : Nat) : Prop :=
  (p.tables.exec = Jvm.exec ∧ c.code = B ∧ c.maxLocals = ML) ∧ T.heap = h ∧ n0 ≤ h.size ∧ ∃ (s' : State) (locs : List Loc), Stand p l e R s' m args below meth c T locs cells slots ∧ Z.Warmed39 s'.vm ∧ s'.vm.findClass own = some m.cls ∧ Fr n0 locs ∧ Jd md Z s s' h ∧ ∀ x ∈ ws, n0 ≤ x ∧ x < h.size ∧ Sf md Z s' h x
section Kit
variable {p : Program} {l : Launch} {e : Env} {R : Room} {s : State} {m : MethodId} {args : Array Value} {below : List Frame} {meth : Method} {c : Code} {B : ByteArray} {ML : Nat} {Z : State} {own : String} {n0 : Nat} {md : Option EList} {T : State} {h : Heap} {ws : List Addr} {cells slots : Nat} {F : Outcome → State → Prop} {pc pc' tgt : Nat} {Ls Ls' : Array Slot} {St : List Value} {a0 : Array Value}
theorem Go.st {T T' : State} {g g' : JFrame} (k : Go p e below F T' g') (q : ∀ t, Steps p.tables e below (T'.setTop g') t → Steps p.tables e below (T.setTop g) t) : Go p e below F T g := by
  obtain ⟨s2, o, h1, h2⟩ := k; exact ⟨s2, o, q _ h1, h2⟩
theorem Go.tr {T T' : State} {g g' : JFrame} (k : Go p e below F T' g') (q : Steps p.tables e below (T.setTop g) (T'.setTop g')) : Go p e below F T g := by
  obtain ⟨s2, o, h1, h2⟩ := k; exact ⟨s2, o, q.trans h1, h2⟩
theorem Cx.mono {c' s' : Nat} (K : Cx p l e R s m args below meth c B ML Z own n0 md T h ws cells slots) (q1 : cells ≤ c') (q2 : slots ≤ s') : Cx p l e R s m args below meth c B ML Z own n0 md T h ws c' s' := by
  obtain ⟨k1, k2, k3, s1, locs, X, r⟩ := K
  exact ⟨k1, k2, k3, s1, locs, X.mono q1 q2, r⟩
theorem Cx.n0le (K : Cx p l e R s m args below meth c B ML Z own n0 md T h ws cells slots) : n0 ≤ h.size := K.2.2.1
theorem Cx.wsge (K : Cx p l e R s m args below meth c B ML Z own n0 md T h ws cells slots) {x : Addr} (q : x ∈ ws) : n0 ≤ x := by obtain ⟨-, -, -, s1, locs, X, r1, r2, r3, r4, r5⟩ := K; exact (r5 x q).1
theorem gAload (K : Cx p l e R s m args below meth c B ML Z own n0 md T h ws cells slots) {k : Nat} {v : Value} (hd : Dc B pc (.aload k) 2 pc') (hl : Ls[k]? = some (.val v)) (hv : v.isRef = true) (r : Go p e below F T (mkF m pc' Ls (v :: St))) : Go p e below F T (mkF m pc Ls St) := by
  obtain ⟨⟨hx, hby, -⟩, -, -, s1, locs, X, -⟩ := K
  obtain ⟨hd, rfl⟩ := hd
  exact r.st fun t q => XS.aload X.here hx rfl (hb hby hd) hl hv q

theorem gAloadN (K : Cx p l e R s m args below meth c B ML Z own n0 md T h ws cells slots) {k : Fin 4} {v : Value} (hd : Dc B pc (.aload_n k) 1 pc') (hl : Ls[k.val]? = some (.val v)) (hv : v.isRef = true) (r : Go p e below F T (mkF m pc' Ls (v :: St))) : Go p e below F T (mkF m pc Ls St) := by
  obtain ⟨⟨hx, hby, -⟩, -, -, s1, locs, X, -⟩ := K
  obtain ⟨hd, rfl⟩ := hd
  exact r.st fun t q => XS.aloadN X.here hx rfl (hb hby hd) hl hv q

theorem gIload (K : Cx p l e R s m args below meth c B ML Z own n0 md T h ws cells slots) {k : Nat} {v : Int32} (hd : Dc B pc (.iload k) 2 pc') (hl : Ls[k]? = some (.val (.int v))) (r : Go p e below F T (mkF m pc' Ls (.int v :: St))) : Go p e below F T (mkF m pc Ls St) := by
  obtain ⟨⟨hx, hby, -⟩, -, -, s1, locs, X, -⟩ := K
  obtain ⟨hd, rfl⟩ := hd
  exact r.st fun t q => XS.iload X.here hx rfl (hb hby hd) hl q

theorem gIloadN (K : Cx p l e R s m args below meth c B ML Z own n0 md T h ws cells slots) {k : Fin 4} {v : Int32} (hd : Dc B pc (.iload_n k) 1 pc') (hl : Ls[k.val]? = some (.val (.int v))) (r : Go p e below F T (mkF m pc' Ls (.int v :: St))) : Go p e below F T (mkF m pc Ls St) := by
  obtain ⟨⟨hx, hby, -⟩, -, -, s1, locs, X, -⟩ := K
  obtain ⟨hd, rfl⟩ := hd
  exact r.st fun t q => XS.iloadN X.here hx rfl (hb hby hd) hl q

theorem gIconst (K : Cx p l e R s m args below meth c B ML Z own n0 md T h ws cells slots) {i : Int} (v : Int32) (hd : Dc B pc (.iconst i) 1 pc') (hv : Int32.ofInt i = v) (r : Go p e below F T (mkF m pc' Ls (.int v :: St))) : Go p e below F T (mkF m pc Ls St) := by
  obtain ⟨⟨hx, hby, -⟩, -, -, s1, locs, X, -⟩ := K
  obtain ⟨hd, rfl⟩ := hd
  exact r.st fun t q => XT.iconstV X.here hx rfl v (hb hby hd) hv q

theorem gBipush (K : Cx p l e R s m args below meth c B ML Z own n0 md T h ws cells slots) {i : Int} (v : Int32) (hd : Dc B pc (.bipush i) 2 pc') (hv : (Int8.ofInt i).toInt32 = v) (r : Go p e below F T (mkF m pc' Ls (.int v :: St))) : Go p e below F T (mkF m pc Ls St) := by
  obtain ⟨⟨hx, hby, -⟩, -, -, s1, locs, X, -⟩ := K
  obtain ⟨hd, rfl⟩ := hd
  exact r.st fun t q => XT.bipushV X.here hx rfl v (hb hby hd) hv q

theorem gSipush (K : Cx p l e R s m args below meth c B ML Z own n0 md T h ws cells slots) {i : Int} (v : Int32) (hd : Dc B pc (.sipush i) 3 pc') (hv : (Int16.ofInt i).toInt32 = v) (r : Go p e below F T (mkF m pc' Ls (.int v :: St))) : Go p e below F T (mkF m pc Ls St) := by
  obtain ⟨⟨hx, hby, -⟩, -, -, s1, locs, X, -⟩ := K
  obtain ⟨hd, rfl⟩ := hd
  exact r.st fun t q => XT.sipushV X.here hx rfl v (hb hby hd) hv q

theorem gNull (K : Cx p l e R s m args below meth c B ML Z own n0 md T h ws cells slots)  (hd : Dc B pc (.aconst_null) 1 pc') (r : Go p e below F T (mkF m pc' Ls (.null :: St))) : Go p e below F T (mkF m pc Ls St) := by
  obtain ⟨⟨hx, hby, -⟩, -, -, s1, locs, X, -⟩ := K
  obtain ⟨hd, rfl⟩ := hd
  exact r.st fun t q => XS.aconstNull X.here hx rfl (hb hby hd) q

theorem gIadd (K : Cx p l e R s m args below meth c B ML Z own n0 md T h ws cells slots) {x y : Int32} (hd : Dc B pc (.iadd) 1 pc') (r : Go p e below F T (mkF m pc' Ls (.int (x + y) :: St))) : Go p e below F T (mkF m pc Ls (.int y :: .int x :: St)) := by
  obtain ⟨⟨hx, hby, -⟩, -, -, s1, locs, X, -⟩ := K
  obtain ⟨hd, rfl⟩ := hd
  exact r.st fun t q => XS.iadd X.here hx rfl (hb hby hd) rfl q

theorem gIsub (K : Cx p l e R s m args below meth c B ML Z own n0 md T h ws cells slots) {x y : Int32} (hd : Dc B pc (.isub) 1 pc') (r : Go p e below F T (mkF m pc' Ls (.int (x - y) :: St))) : Go p e below F T (mkF m pc Ls (.int y :: .int x :: St)) := by
  obtain ⟨⟨hx, hby, -⟩, -, -, s1, locs, X, -⟩ := K
  obtain ⟨hd, rfl⟩ := hd
  exact r.st fun t q => XS.isub X.here hx rfl (hb hby hd) rfl q

theorem gIand (K : Cx p l e R s m args below meth c B ML Z own n0 md T h ws cells slots) {x y : Int32} (hd : Dc B pc (.iand) 1 pc') (r : Go p e below F T (mkF m pc' Ls (.int (x &&& y) :: St))) : Go p e below F T (mkF m pc Ls (.int y :: .int x :: St)) := by
  obtain ⟨⟨hx, hby, -⟩, -, -, s1, locs, X, -⟩ := K
  obtain ⟨hd, rfl⟩ := hd
  exact r.st fun t q => XS.iand X.here hx rfl (hb hby hd) rfl q

theorem gImul (K : Cx p l e R s m args below meth c B ML Z own n0 md T h ws cells slots) {x y : Int32} (hd : Dc B pc (.imul) 1 pc') (r : Go p e below F T (mkF m pc' Ls (.int (x * y) :: St))) : Go p e below F T (mkF m pc Ls (.int y :: .int x :: St)) := by
  obtain ⟨⟨hx, hby, -⟩, -, -, s1, locs, X, -⟩ := K
  obtain ⟨hd, rfl⟩ := hd
  exact r.st fun t q => XS.imul X.here hx rfl (hb hby hd) rfl q

theorem gIshl (K : Cx p l e R s m args below meth c B ML Z own n0 md T h ws cells slots) {x y : Int32} (hd : Dc B pc (.ishl) 1 pc') (r : Go p e below F T (mkF m pc' Ls (.int (x <<< (y &&& 31)) :: St))) : Go p e below F T (mkF m pc Ls (.int y :: .int x :: St)) := by
  obtain ⟨⟨hx, hby, -⟩, -, -, s1, locs, X, -⟩ := K
  obtain ⟨hd, rfl⟩ := hd
  exact r.st fun t q => XT.ishl X.here hx rfl (hb hby hd) rfl q

theorem gIdiv (K : Cx p l e R s m args below meth c B ML Z own n0 md T h ws cells slots) {x y : Int32} (hd : Dc B pc (.idiv) 1 pc') (hy : y ≠ 0) (r : Go p e below F T (mkF m pc' Ls (.int (x / y) :: St))) : Go p e below F T (mkF m pc Ls (.int y :: .int x :: St)) := by
  obtain ⟨⟨hx, hby, -⟩, -, -, s1, locs, X, -⟩ := K
  obtain ⟨hd, rfl⟩ := hd
  exact r.st fun t q => XS.idiv X.here hx rfl (hb hby hd) rfl hy q

theorem gIrem (K : Cx p l e R s m args below meth c B ML Z own n0 md T h ws cells slots) {x y : Int32} (hd : Dc B pc (.irem) 1 pc') (hy : y ≠ 0) (r : Go p e below F T (mkF m pc' Ls (.int (x % y) :: St))) : Go p e below F T (mkF m pc Ls (.int y :: .int x :: St)) := by
  obtain ⟨⟨hx, hby, -⟩, -, -, s1, locs, X, -⟩ := K
  obtain ⟨hd, rfl⟩ := hd
  exact r.st fun t q => iremM X hx rfl (hb hby hd) rfl hy q

theorem gIneg (K : Cx p l e R s m args below meth c B ML Z own n0 md T h ws cells slots) {x : Int32} (hd : Dc B pc (.ineg) 1 pc') (r : Go p e below F T (mkF m pc' Ls (.int (-x) :: St))) : Go p e below F T (mkF m pc Ls (.int x :: St)) := by
  obtain ⟨⟨hx, hby, -⟩, -, -, s1, locs, X, -⟩ := K
  obtain ⟨hd, rfl⟩ := hd
  exact r.st fun t q => XS.ineg X.here hx rfl (hb hby hd) rfl q

theorem gI2c (K : Cx p l e R s m args below meth c B ML Z own n0 md T h ws cells slots) {x : Int32} (hd : Dc B pc (.i2c) 1 pc') (r : Go p e below F T (mkF m pc' Ls (.int x.toUInt32.toUInt16.toUInt32.toInt32 :: St))) : Go p e below F T (mkF m pc Ls (.int x :: St)) := by
  obtain ⟨⟨hx, hby, -⟩, -, -, s1, locs, X, -⟩ := K
  obtain ⟨hd, rfl⟩ := hd
  exact r.st fun t q => XT.i2c X.here hx rfl (hb hby hd) rfl q

theorem gDup (K : Cx p l e R s m args below meth c B ML Z own n0 md T h ws cells slots) {x : Value} (hd : Dc B pc (.dup) 1 pc') (hc : x.category = 1) (r : Go p e below F T (mkF m pc' Ls (x :: x :: St))) : Go p e below F T (mkF m pc Ls (x :: St)) := by
  obtain ⟨⟨hx, hby, -⟩, -, -, s1, locs, X, -⟩ := K
  obtain ⟨hd, rfl⟩ := hd
  exact r.st fun t q => XS.dup X.here hx rfl (hb hby hd) rfl hc q

theorem gPop (K : Cx p l e R s m args below meth c B ML Z own n0 md T h ws cells slots) {x : Value} (hd : Dc B pc (.pop) 1 pc') (hc : x.category = 1) (r : Go p e below F T (mkF m pc' Ls St)) : Go p e below F T (mkF m pc Ls (x :: St)) := by
  obtain ⟨⟨hx, hby, -⟩, -, -, s1, locs, X, -⟩ := K
  obtain ⟨hd, rfl⟩ := hd
  exact r.st fun t q => XT.pop X.here hx rfl (hb hby hd) rfl hc q

theorem gIstore (K : Cx p l e R s m args below meth c B ML Z own n0 md T h ws cells slots) {k : Nat} {x : Int32} (hd : Dc B pc (.istore k) 2 pc') (hl : storeLocals Ls k (.int x) = some Ls') (r : Go p e below F T (mkF m pc' Ls' St)) : Go p e below F T (mkF m pc Ls (.int x :: St)) := by
  obtain ⟨⟨hx, hby, -⟩, -, -, s1, locs, X, -⟩ := K
  obtain ⟨hd, rfl⟩ := hd
  exact r.st fun t q => XS.istore X.here hx rfl (hb hby hd) rfl hl q

theorem gIstoreN (K : Cx p l e R s m args below meth c B ML Z own n0 md T h ws cells slots) {k : Fin 4} {x : Int32} (hd : Dc B pc (.istore_n k) 1 pc') (hl : storeLocals Ls k.val (.int x) = some Ls') (r : Go p e below F T (mkF m pc' Ls' St)) : Go p e below F T (mkF m pc Ls (.int x :: St)) := by
  obtain ⟨⟨hx, hby, -⟩, -, -, s1, locs, X, -⟩ := K
  obtain ⟨hd, rfl⟩ := hd
  exact r.st fun t q => XS.istoreN X.here hx rfl (hb hby hd) rfl hl q

theorem gAstore (K : Cx p l e R s m args below meth c B ML Z own n0 md T h ws cells slots) {k : Nat} {x : Value} (hd : Dc B pc (.astore k) 2 pc') (hv : x.isRef = true) (hl : storeLocals Ls k x = some Ls') (r : Go p e below F T (mkF m pc' Ls' St)) : Go p e below F T (mkF m pc Ls (x :: St)) := by
  obtain ⟨⟨hx, hby, -⟩, -, -, s1, locs, X, -⟩ := K
  obtain ⟨hd, rfl⟩ := hd
  exact r.st fun t q => XS.astore X.here hx rfl (hb hby hd) rfl hv hl q

theorem gAstoreN (K : Cx p l e R s m args below meth c B ML Z own n0 md T h ws cells slots) {k : Fin 4} {x : Value} (hd : Dc B pc (.astore_n k) 1 pc') (hv : x.isRef = true) (hl : storeLocals Ls k.val x = some Ls') (r : Go p e below F T (mkF m pc' Ls' St)) : Go p e below F T (mkF m pc Ls (x :: St)) := by
  obtain ⟨⟨hx, hby, -⟩, -, -, s1, locs, X, -⟩ := K
  obtain ⟨hd, rfl⟩ := hd
  exact r.st fun t q => XS.astoreN X.here hx rfl (hb hby hd) rfl hv hl q

theorem gIinc (K : Cx p l e R s m args below meth c B ML Z own n0 md T h ws cells slots) {k : Nat} {cst : Int} {x : Int32} (v : Int32) (hd : Dc B pc (.iinc k cst) 3 pc') (hv : Int32.ofInt cst = v) (hl : Ls[k]? = some (.val (.int x))) (hl' : storeLocals Ls k (.int (x + v)) = some Ls') (r : Go p e below F T (mkF m pc' Ls' St)) : Go p e below F T (mkF m pc Ls St) := by
  obtain ⟨⟨hx, hby, -⟩, -, -, s1, locs, X, -⟩ := K
  obtain ⟨hd, rfl⟩ := hd
  exact r.st fun t q => XT.iincV X.here hx rfl v (hb hby hd) hv hl hl' q

theorem gIaddV (K : Cx p l e R s m args below meth c B ML Z own n0 md T h ws cells slots) {x y : Int32} (v : Int32) (hd : Dc B pc (.iadd) 1 pc') (hv : x + y = v) (r : Go p e below F T (mkF m pc' Ls (.int v :: St))) : Go p e below F T (mkF m pc Ls (.int y :: .int x :: St)) := by
  obtain ⟨⟨hx, hby, -⟩, -, -, s1, locs, X, -⟩ := K
  obtain ⟨hd, rfl⟩ := hd
  exact r.st fun t q => XS.iadd X.here hx rfl (hb hby hd) rfl (hv ▸ q)

theorem gIsubV (K : Cx p l e R s m args below meth c B ML Z own n0 md T h ws cells slots) {x y : Int32} (v : Int32) (hd : Dc B pc (.isub) 1 pc') (hv : x - y = v) (r : Go p e below F T (mkF m pc' Ls (.int v :: St))) : Go p e below F T (mkF m pc Ls (.int y :: .int x :: St)) := by
  obtain ⟨⟨hx, hby, -⟩, -, -, s1, locs, X, -⟩ := K
  obtain ⟨hd, rfl⟩ := hd
  exact r.st fun t q => XS.isub X.here hx rfl (hb hby hd) rfl (hv ▸ q)

theorem gIshrV (K : Cx p l e R s m args below meth c B ML Z own n0 md T h ws cells slots) {x y : Int32} (v : Int32) (hd : Dc B pc (.ishr) 1 pc') (hv : x >>> (y &&& 31) = v) (r : Go p e below F T (mkF m pc' Ls (.int v :: St))) : Go p e below F T (mkF m pc Ls (.int y :: .int x :: St)) := by
  obtain ⟨⟨hx, hby, -⟩, -, -, s1, locs, X, -⟩ := K
  obtain ⟨hd, rfl⟩ := hd
  exact r.st fun t q => XT.ishr X.here hx rfl (hb hby hd) rfl (hv ▸ q)

theorem gGoto (K : Cx p l e R s m args below meth c B ML Z own n0 md T h ws cells slots)  {o : Int} (hd : Db B pc (.goto o) o pc' tgt) (r : Go p e below F T (mkF m tgt Ls St)) : Go p e below F T (mkF m pc Ls St) := by
  obtain ⟨⟨hx, hby, -⟩, -, -, s1, locs, X, -⟩ := K
  obtain ⟨hd, rfl, ho, hp⟩ := hd
  exact r.st fun t q => XS.goto X.here hx rfl rfl (hb hby hd) ho hp q

theorem gIcmp_eq (K : Cx p l e R s m args below meth c B ML Z own n0 md T h ws cells slots) {x y : Int32} {o : Int} (hd : Db B pc (.if_icmp .eq o) o pc' tgt) (ry : x = y → Go p e below F T (mkF m tgt Ls St)) (rn : ¬ x = y → Go p e below F T (mkF m pc' Ls St)) : Go p e below F T (mkF m pc Ls (.int y :: .int x :: St)) := by
  obtain ⟨⟨hx, hby, -⟩, -, -, s1, locs, X, -⟩ := K
  obtain ⟨hd, rfl, ho, hp⟩ := hd
  by_cases hq : x = y
  · exact (ry hq).st fun t q => XS.icmpYes X.here hx rfl rfl (hb hby hd) rfl (teq hq).1 ho hp q
  · exact (rn hq).st fun t q => XS.icmpNo X.here hx rfl (hb hby hd) rfl (feq hq).1 q

theorem gIf_eq (K : Cx p l e R s m args below meth c B ML Z own n0 md T h ws cells slots) {x : Int32} {o : Int} (hd : Db B pc (.ifCond .eq o) o pc' tgt) (ry : x = (0 : Int32) → Go p e below F T (mkF m tgt Ls St)) (rn : ¬ x = (0 : Int32) → Go p e below F T (mkF m pc' Ls St)) : Go p e below F T (mkF m pc Ls (.int x :: St)) := by
  obtain ⟨⟨hx, hby, -⟩, -, -, s1, locs, X, -⟩ := K
  obtain ⟨hd, rfl, ho, hp⟩ := hd
  by_cases hq : x = (0 : Int32)
  · exact (ry hq).st fun t q => XS.ifYes X.here hx rfl rfl (hb hby hd) rfl ((if0 _ _).trans (teq hq).1) ho hp q
  · exact (rn hq).st fun t q => XS.ifNo X.here hx rfl (hb hby hd) rfl ((if0 _ _).trans (feq hq).1) q

theorem gIcmp_ne (K : Cx p l e R s m args below meth c B ML Z own n0 md T h ws cells slots) {x y : Int32} {o : Int} (hd : Db B pc (.if_icmp .ne o) o pc' tgt) (ry : ¬ x = y → Go p e below F T (mkF m tgt Ls St)) (rn : x = y → Go p e below F T (mkF m pc' Ls St)) : Go p e below F T (mkF m pc Ls (.int y :: .int x :: St)) := by
  obtain ⟨⟨hx, hby, -⟩, -, -, s1, locs, X, -⟩ := K
  obtain ⟨hd, rfl, ho, hp⟩ := hd
  by_cases hq : x = y
  · exact (rn hq).st fun t q => XS.icmpNo X.here hx rfl (hb hby hd) rfl (teq hq).2 q
  · exact (ry hq).st fun t q => XS.icmpYes X.here hx rfl rfl (hb hby hd) rfl (feq hq).2 ho hp q

theorem gIf_ne (K : Cx p l e R s m args below meth c B ML Z own n0 md T h ws cells slots) {x : Int32} {o : Int} (hd : Db B pc (.ifCond .ne o) o pc' tgt) (ry : ¬ x = (0 : Int32) → Go p e below F T (mkF m tgt Ls St)) (rn : x = (0 : Int32) → Go p e below F T (mkF m pc' Ls St)) : Go p e below F T (mkF m pc Ls (.int x :: St)) := by
  obtain ⟨⟨hx, hby, -⟩, -, -, s1, locs, X, -⟩ := K
  obtain ⟨hd, rfl, ho, hp⟩ := hd
  by_cases hq : x = (0 : Int32)
  · exact (rn hq).st fun t q => XS.ifNo X.here hx rfl (hb hby hd) rfl ((if0 _ _).trans (teq hq).2) q
  · exact (ry hq).st fun t q => XS.ifYes X.here hx rfl rfl (hb hby hd) rfl ((if0 _ _).trans (feq hq).2) ho hp q

theorem gIcmp_lt (K : Cx p l e R s m args below meth c B ML Z own n0 md T h ws cells slots) {x y : Int32} {o : Int} (hd : Db B pc (.if_icmp .lt o) o pc' tgt) (ry : x < y → Go p e below F T (mkF m tgt Ls St)) (rn : ¬ x < y → Go p e below F T (mkF m pc' Ls St)) : Go p e below F T (mkF m pc Ls (.int y :: .int x :: St)) := by
  obtain ⟨⟨hx, hby, -⟩, -, -, s1, locs, X, -⟩ := K
  obtain ⟨hd, rfl, ho, hp⟩ := hd
  by_cases hq : x < y
  · exact (ry hq).st fun t q => XS.icmpYes X.here hx rfl rfl (hb hby hd) rfl (tlt hq).1 ho hp q
  · exact (rn hq).st fun t q => XS.icmpNo X.here hx rfl (hb hby hd) rfl (flt hq).1 q

theorem gIf_lt (K : Cx p l e R s m args below meth c B ML Z own n0 md T h ws cells slots) {x : Int32} {o : Int} (hd : Db B pc (.ifCond .lt o) o pc' tgt) (ry : x < (0 : Int32) → Go p e below F T (mkF m tgt Ls St)) (rn : ¬ x < (0 : Int32) → Go p e below F T (mkF m pc' Ls St)) : Go p e below F T (mkF m pc Ls (.int x :: St)) := by
  obtain ⟨⟨hx, hby, -⟩, -, -, s1, locs, X, -⟩ := K
  obtain ⟨hd, rfl, ho, hp⟩ := hd
  by_cases hq : x < (0 : Int32)
  · exact (ry hq).st fun t q => XS.ifYes X.here hx rfl rfl (hb hby hd) rfl ((if0 _ _).trans (tlt hq).1) ho hp q
  · exact (rn hq).st fun t q => XS.ifNo X.here hx rfl (hb hby hd) rfl ((if0 _ _).trans (flt hq).1) q

theorem gIcmp_ge (K : Cx p l e R s m args below meth c B ML Z own n0 md T h ws cells slots) {x y : Int32} {o : Int} (hd : Db B pc (.if_icmp .ge o) o pc' tgt) (ry : ¬ x < y → Go p e below F T (mkF m tgt Ls St)) (rn : x < y → Go p e below F T (mkF m pc' Ls St)) : Go p e below F T (mkF m pc Ls (.int y :: .int x :: St)) := by
  obtain ⟨⟨hx, hby, -⟩, -, -, s1, locs, X, -⟩ := K
  obtain ⟨hd, rfl, ho, hp⟩ := hd
  by_cases hq : x < y
  · exact (rn hq).st fun t q => XS.icmpNo X.here hx rfl (hb hby hd) rfl (tlt hq).2.1 q
  · exact (ry hq).st fun t q => XS.icmpYes X.here hx rfl rfl (hb hby hd) rfl (flt hq).2.1 ho hp q

theorem gIf_ge (K : Cx p l e R s m args below meth c B ML Z own n0 md T h ws cells slots) {x : Int32} {o : Int} (hd : Db B pc (.ifCond .ge o) o pc' tgt) (ry : ¬ x < (0 : Int32) → Go p e below F T (mkF m tgt Ls St)) (rn : x < (0 : Int32) → Go p e below F T (mkF m pc' Ls St)) : Go p e below F T (mkF m pc Ls (.int x :: St)) := by
  obtain ⟨⟨hx, hby, -⟩, -, -, s1, locs, X, -⟩ := K
  obtain ⟨hd, rfl, ho, hp⟩ := hd
  by_cases hq : x < (0 : Int32)
  · exact (rn hq).st fun t q => XS.ifNo X.here hx rfl (hb hby hd) rfl ((if0 _ _).trans (tlt hq).2.1) q
  · exact (ry hq).st fun t q => XS.ifYes X.here hx rfl rfl (hb hby hd) rfl ((if0 _ _).trans (flt hq).2.1) ho hp q

theorem gIcmp_gt (K : Cx p l e R s m args below meth c B ML Z own n0 md T h ws cells slots) {x y : Int32} {o : Int} (hd : Db B pc (.if_icmp .gt o) o pc' tgt) (ry : y < x → Go p e below F T (mkF m tgt Ls St)) (rn : ¬ y < x → Go p e below F T (mkF m pc' Ls St)) : Go p e below F T (mkF m pc Ls (.int y :: .int x :: St)) := by
  obtain ⟨⟨hx, hby, -⟩, -, -, s1, locs, X, -⟩ := K
  obtain ⟨hd, rfl, ho, hp⟩ := hd
  by_cases hq : y < x
  · exact (ry hq).st fun t q => XS.icmpYes X.here hx rfl rfl (hb hby hd) rfl (tlt hq).2.2.1 ho hp q
  · exact (rn hq).st fun t q => XS.icmpNo X.here hx rfl (hb hby hd) rfl (flt hq).2.2.1 q

theorem gIcmp_le (K : Cx p l e R s m args below meth c B ML Z own n0 md T h ws cells slots) {x y : Int32} {o : Int} (hd : Db B pc (.if_icmp .le o) o pc' tgt) (ry : ¬ y < x → Go p e below F T (mkF m tgt Ls St)) (rn : y < x → Go p e below F T (mkF m pc' Ls St)) : Go p e below F T (mkF m pc Ls (.int y :: .int x :: St)) := by
  obtain ⟨⟨hx, hby, -⟩, -, -, s1, locs, X, -⟩ := K
  obtain ⟨hd, rfl, ho, hp⟩ := hd
  by_cases hq : y < x
  · exact (rn hq).st fun t q => XS.icmpNo X.here hx rfl (hb hby hd) rfl (tlt hq).2.2.2 q
  · exact (ry hq).st fun t q => XS.icmpYes X.here hx rfl rfl (hb hby hd) rfl (flt hq).2.2.2 ho hp q

theorem gIf_le (K : Cx p l e R s m args below meth c B ML Z own n0 md T h ws cells slots) {x : Int32} {o : Int} (hd : Db B pc (.ifCond .le o) o pc' tgt) (ry : ¬ (0 : Int32) < x → Go p e below F T (mkF m tgt Ls St)) (rn : (0 : Int32) < x → Go p e below F T (mkF m pc' Ls St)) : Go p e below F T (mkF m pc Ls (.int x :: St)) := by
  obtain ⟨⟨hx, hby, -⟩, -, -, s1, locs, X, -⟩ := K
  obtain ⟨hd, rfl, ho, hp⟩ := hd
  by_cases hq : (0 : Int32) < x
  · exact (rn hq).st fun t q => XS.ifNo X.here hx rfl (hb hby hd) rfl ((if0 _ _).trans (tlt hq).2.2.2) q
  · exact (ry hq).st fun t q => XS.ifYes X.here hx rfl rfl (hb hby hd) rfl ((if0 _ _).trans (flt hq).2.2.2) ho hp q

theorem gIfnull_f (K : Cx p l e R s m args below meth c B ML Z own n0 md T h ws cells slots) {b : Addr} {o : Int} (hd : Db B pc (.ifnull o) o pc' tgt) (r : Go p e below F T (mkF m pc' Ls St)) : Go p e below F T (mkF m pc Ls (.ref b :: St)) := by
  obtain ⟨⟨hx, hby, -⟩, -, -, s1, locs, X, -⟩ := K
  obtain ⟨hd, rfl, ho, hp⟩ := hd
  exact r.st fun t q => XS.ifnullNo X.here hx rfl (hb hby hd) rfl q

theorem gIfnonnull_t (K : Cx p l e R s m args below meth c B ML Z own n0 md T h ws cells slots) {b : Addr} {o : Int} (hd : Db B pc (.ifnonnull o) o pc' tgt) (r : Go p e below F T (mkF m tgt Ls St)) : Go p e below F T (mkF m pc Ls (.ref b :: St)) := by
  obtain ⟨⟨hx, hby, -⟩, -, -, s1, locs, X, -⟩ := K
  obtain ⟨hd, rfl, ho, hp⟩ := hd
  exact r.st fun t q => XT.ifnonnullYes X.here hx rfl rfl (hb hby hd) rfl ho hp q

theorem Cx.same {T' : State} {s1 : State} {locs : List Loc} (K : Cx p l e R s m args below meth c B ML Z own n0 md T h ws cells slots) (X' : Stand p l e R s1 m args below meth c T' locs cells slots) (e' : T'.heap = h) (hZ : Z.Warmed39 s1.vm) (hown : s1.vm.findClass own = some m.cls) (N : Fr n0 locs) (J : Jd md Z s s1 h) (Wq : ∀ x ∈ ws, n0 ≤ x ∧ x < h.size ∧ Sf md Z s1 h x) : Cx p l e R s m args below meth c B ML Z own n0 md T' h ws cells slots :=
  ⟨K.1, e', K.2.2.1, s1, locs, X', hZ, hown, N, J, Wq⟩
theorem gGet (K : Cx p l e R s m args below meth c B ML Z own n0 md T h ws cells slots) {O n d : String} {index : Nat} {a : Addr} {v : Value} (hd : Dc B pc (.getfield index) 3 pc') (w : (Cond.fieldLink own index O n d).before a0 Z = true) (Fd : Fld Z h a O n d v)
    (k : ∀ T', Cx p l e R s m args below meth c B ML Z own n0 md T' h ws cells slots → Go p e below F T' (mkF m pc' Ls (v :: St))) : Go p e below F T (mkF m pc Ls (.ref a :: St)) := by
  have K0 := K
  obtain ⟨⟨hx, hby, hml⟩, eT, hn0, s1, locs, X, hZ, hown, N, J, Wq⟩ := K
  obtain ⟨hd, rfl⟩ := hd
  obtain ⟨T', X', e', st⟩ := getF X hx hZ hown (host := "") (Or.inl w) Via.refl eT Fd (g := mkF m pc Ls (.ref a :: St)) rfl rfl (hb hby hd)
  exact (k T' (K0.same X' e' hZ hown N J Wq)).st st
theorem gGetS (K : Cx p l e R s m args below meth c B ML Z own n0 md T h ws cells slots) {O n d : String} {index : Nat} {v : Value} (hd : Dc B pc (.getstatic index) 3 pc') (w : (Cond.fieldLink own index O n d).before a0 Z = true) (Fd : Sta Z h O n d v)
    (k : ∀ T', Cx p l e R s m args below meth c B ML Z own n0 md T' h ws cells slots → Go p e below F T' (mkF m pc' Ls (v :: St))) : Go p e below F T (mkF m pc Ls St) := by
  have K0 := K
  obtain ⟨⟨hx, hby, hml⟩, eT, hn0, s1, locs, X, hZ, hown, N, J, Wq⟩ := K
  obtain ⟨hd, rfl⟩ := hd
  obtain ⟨T', X', e', st⟩ := getS2 X hx hZ hown (host := "") (Or.inl w) Via.refl eT Fd (g := mkF m pc Ls St) rfl (hb hby hd)
  exact (k T' (K0.same X' e' hZ hown N J Wq)).st st
theorem gInitO (K : Cx p l e R s m args below meth c B ML Z own n0 md T h ws cells slots) {index : Nat} {a : Addr} (hd : Dc B pc (.invokespecial index) 3 pc') (w1 : (Cond.methodLink own index Lib.objectInit).before a0 Z = true) (w2 : (Cond.instanceMethod Lib.objectInit).before a0 Z = true) (w3 : (Cond.code Lib.objectInit ⟨#[0xb1]⟩ 1 none).before a0 Z = true)
    (hsz : Ls.size = ML) (hf : 1 ≤ R.frames) {W : Nat} (hW : (St.map fun v => v.category).sum ≤ W) (hl : W + 12 ≤ R.locals)
    (k : ∀ T', Cx p l e R s m args below meth c B ML Z own n0 md T' h ws cells slots → Go p e below F T' (mkF m pc' Ls St)) : Go p e below F T (mkF m pc Ls (.ref a :: St)) := by
  have K0 := K
  obtain ⟨⟨hx, hby, hml⟩, eT, hn0, s1, locs, X, hZ, hown, N, J, Wq⟩ := K
  obtain ⟨hd, rfl⟩ := hd
  obtain ⟨T', X', e', st⟩ := initO X hx hZ hown w1 w2 w3 eT (g := mkF m pc Ls (.ref a :: St)) rfl (by rw [hml]; exact hsz) rfl (hb hby hd) hf (W := W) (by show 2 * 0 + _ ≤ _; omega) hl
  exact (k T' (K0.same X' e' hZ hown N J Wq)).st st
theorem Cx.grow {T' : State} {h' : Heap} {c' n' : Nat} {s1 : State} {locs : List Loc} (K : Cx p l e R s m args below meth c B ML Z own n0 md T h ws cells slots) (X' : Stand p l e R s1 m args below meth c T' locs c' n') (e' : T'.heap = h') (E : Ext h h') (hlt : h.size < h'.size) (hZ : Z.Warmed39 s1.vm) (hown : s1.vm.findClass own = some m.cls) (N : Fr n0 locs) (J : Jd md Z s s1 h) (Wq : ∀ x ∈ ws, n0 ≤ x ∧ x < h.size ∧ Sf md Z s1 h x) : Cx p l e R s m args below meth c B ML Z own n0 md T' h' (h.size :: ws) c' n' :=
  ⟨K.1, e', Nat.le_trans K.2.2.1 E.1, s1, locs, X', hZ, hown, N, J.ext E, fun x hx => by
    rcases List.mem_cons.mp hx with rfl | hx
    · exact ⟨K.2.2.1, hlt, (Sf.new (Nat.le_refl _)).ext J E⟩
    · obtain ⟨q1, q2, q3⟩ := Wq x hx; exact ⟨q1, Nat.lt_of_lt_of_le q2 E.1, q3.ext J E⟩⟩
theorem gNew (K : Cx p l e R s m args below meth c B ML Z own n0 md T h ws cells slots) {C : String} {index n : Nat} (hd : Dc B pc (.new index) 3 pc') (w : (Cond.classLink own index C).before a0 Z = true) (wi : (Cond.instantiable C n).before a0 Z = true) (wz : (Cond.initialized C).before a0 Z = true) (hc : cells + 1 ≤ R.cells) (hl : slots + n ≤ R.slots)
    (k : ∀ (T' : State) (h' : Heap) (x : Addr), Cx p l e R s m args below meth c B ML Z own n0 md T' h' (x :: ws) (cells + 1) (slots + n) → Ext h h' → x = h.size → Exa Z h' x C → (∀ {O nm d : String} {ty : FieldType}, Laid Z a0 C O nm d → parseFieldDescriptor d = some ty → Fld Z h' x O nm d (defaultValue ty)) → (∀ y ∈ ws, y ≠ x) → Go p e below F T' (mkF m pc' Ls (.ref x :: St))) : Go p e below F T (mkF m pc Ls St) := by
  have K0 := K
  obtain ⟨⟨hx, hby, hml⟩, eT, hn0, s1, locs, X, hZ, hown, N, J, Wq⟩ := K
  obtain ⟨hd, rfl⟩ := hd
  obtain ⟨T', h', X', e', E, A, D, -, st⟩ := newO X hx hZ hown w wi wz eT (g := mkF m pc Ls St) rfl (hb hby hd) hc hl
  exact (k T' h' h.size (K0.grow X' e' E A.lt hZ hown N J Wq) E rfl A D (fun y hy => Nat.ne_of_lt (Wq y hy).2.1)).st st
theorem gNewarr (K : Cx p l e R s m args below meth c B ML Z own n0 md T h ws cells slots) {aty : ArrayType} {n : Int32} (hd : Dc B pc (.newarray aty) 2 pc') (w : (Cond.arrayClass (newarray.typeOf aty)).before a0 Z = true) (hn : ¬ n < 0) (cap : Nat) (hcap : n.toNatClampNeg ≤ cap) (hbb : cap * 8 ≤ 536870912) (hc : cells + 1 ≤ R.cells) (hl : slots + cap ≤ R.slots)
    (k : ∀ (T' : State) (h' : Heap) (x : Addr) (kA : ClassId), Cx p l e R s m args below meth c B ML Z own n0 md T' h' (x :: ws) (cells + 1) (slots + cap) → Ext h h' → x = h.size → Arv Z h' x kA (newarray.typeOf aty) n [] (defaultValue (newarray.typeOf aty)) → (∀ y ∈ ws, y ≠ x) → Go p e below F T' (mkF m pc' Ls (.ref x :: St))) : Go p e below F T (mkF m pc Ls (.int n :: St)) := by
  have K0 := K
  obtain ⟨⟨hx, hby, hml⟩, eT, hn0, s1, locs, X, hZ, hown, N, J, Wq⟩ := K
  obtain ⟨hd, rfl⟩ := hd
  obtain ⟨T', h', cA, X', e', E, A, st⟩ := newP X hx hZ w eT (g := mkF m pc Ls (.int n :: St)) rfl (hb hby hd) rfl hn hcap hbb hc hl
  exact (k T' h' h.size cA (K0.grow X' e' E A.lt hZ hown N J Wq) E rfl (Arv.new A hn) (fun y hy => Nat.ne_of_lt (Wq y hy).2.1)).st st
theorem Cx.wrote {T' : State} {h' : Heap} {s1 : State} {locs : List Loc} {a : Addr} {sl : Nat} {v : Value} (K : Cx p l e R s m args below meth c B ML Z own n0 md T h ws cells slots) (X' : Stand p l e R s1 m args below meth c T' (locs ++ [⟨a, sl⟩]) cells slots) (e' : T'.heap = h') (W : Wr h h' a sl v) (hm : a ∈ ws) (hZ : Z.Warmed39 s1.vm) (hown : s1.vm.findClass own = some m.cls) (N : Fr n0 locs) (J : Jd md Z s s1 h) (Wq : ∀ x ∈ ws, n0 ≤ x ∧ x < h.size ∧ Sf md Z s1 h x) : Cx p l e R s m args below meth c B ML Z own n0 md T' h' ws cells slots :=
  have hs : ∀ x ∈ [a], Sf md Z s1 h x := allS (Wq a hm).2.2 all0
  ⟨K.1, e', by rw [W.size]; exact K.2.2.1, s1, _, X', hZ, hown, Fr.snoc X' N (Wq a hm).1, J.keep (Keep.of_wr W) hs, fun x hx => by
    obtain ⟨q1, q2, q3⟩ := Wq x hx; exact ⟨q1, by rw [W.size]; exact q2, q3.keep J (Keep.of_wr W) hs⟩⟩
theorem gPut (K : Cx p l e R s m args below meth c B ML Z own n0 md T h ws cells slots) {O n d C : String} {index kk : Nat} {ty : FieldType} {a : Addr} {v old : Value} (hd : Dc B pc (.putfield index) 3 pc') (w : (Cond.fieldLink own index O n d).before a0 Z = true) (hm : a ∈ ws) (Fd : Fld Z h a O n d old) (E : Exa Z h a C)
    (L : (Cond.lays C O n d).before a0 Z = true ∨ ((Cond.laysFinal C O n d).before a0 Z = true ∧ own = O ∧ meth.name = "<init>")) (wi : (Cond.instantiable C kk).before a0 Z = true) (hty : parseFieldDescriptor d = some ty) (hn : narrow ty v = v) (hf : fits ty v = true)
    (k : ∀ (T' : State) (h' : Heap), Cx p l e R s m args below meth c B ML Z own n0 md T' h' ws cells slots → Wr h h' a (RoadKit.slotOf Z O n d) v → Fld Z h' a O n d v → Go p e below F T' (mkF m pc' Ls St)) : Go p e below F T (mkF m pc Ls (v :: .ref a :: St)) := by
  have K0 := K
  obtain ⟨⟨hx, hby, hml⟩, eT, hn0, s1, locs, X, hZ, hown, N, J, Wq⟩ := K
  obtain ⟨hd, rfl⟩ := hd
  obtain ⟨T', h', X', e', W, st⟩ := putF X hx hZ hown (host := "") (Or.inl w) Via.refl eT Fd E L wi hty hn hf (g := mkF m pc Ls (v :: .ref a :: St)) rfl rfl (hb hby hd)
  exact (k T' h' (K0.wrote X' e' W hm hZ hown N J Wq) W (Fd.same W)).st st
theorem nar_c {x : Int32} (h0 : ¬ x < 0) (h1 : ¬ (65535 : Int32) < x) : nar .char x = x := by
  have q := rng32 x
  have a0 : 0 ≤ x.toInt := by rw [Int32.lt_iff_toInt_lt] at h0; simpa using h0
  have a1 : x.toInt ≤ 65535 := by rw [Int32.lt_iff_toInt_lt] at h1; have : (65535 : Int32).toInt = 65535 := by decide
                                  omega
  apply Int32.toInt_inj.mp
  show (x.toUInt32.toUInt16.toUInt32.toInt32).toInt = x.toInt
  have := c_i2c x
  omega
theorem getD_push {vs : List Value} {v dv : Value} {i : Nat} (q : ¬ vs.length = i) : (vs ++ [v]).getD i dv = vs.getD i dv := by
  rw [List.getD_eq_getElem?_getD, List.getD_eq_getElem?_getD]
  by_cases e2 : i < vs.length
  · rw [List.getElem?_append_left e2]
  · rw [List.getElem?_eq_none (by simp; omega), List.getElem?_eq_none (by omega)]
theorem getD_last {vs : List Value} {v dv : Value} : (vs ++ [v]).getD vs.length dv = v := by
  rw [List.getD_eq_getElem?_getD]; simp
theorem arv_push {cl : Cell} {a : Addr} {kA : ClassId} {ty : FieldType} {z j : Int32} {vs : List Value} {dv v : Value} {h' : Heap} (A : Arr Z h a cl ty) (q1 : cl.cls = kA) (S : cl.slots.size = z.toNatClampNeg) (q3 : ¬ z < 0) (H : Has cl vs dv) (G : ∀ i, i < cl.slots.size → fits ty (vs.getD i dv) = true) (hv : fits ty v = true) (W : Wr h h' a j.toNatClampNeg v) (hj : j.toNatClampNeg = vs.length) : Arv Z h' a kA ty z (vs ++ [v]) dv := by
  refine ⟨cl.setSlot j.toNatClampNeg v, A.same W, q1, ?_, q3, ?_, ?_⟩
  · rw [← S]; simp [Cell.setSlot]
  · intro i hi
    have hi' : i < cl.slots.size := by simpa [Cell.setSlot] using hi
    have h9 := H i hi'
    simp only [Cell.setSlot]
    rw [hj]
    by_cases e1 : vs.length = i
    · subst e1; rw [getD_last]; simp [hi']
    · rw [Array.getElem?_setIfInBounds_ne e1, h9, getD_push e1]
  · intro i hi
    have hi' : i < cl.slots.size := by simpa [Cell.setSlot] using hi
    by_cases e1 : vs.length = i
    · subst e1; rw [getD_last]; exact hv
    · rw [getD_push e1]; exact G i hi'

/-! ## arrays -/
theorem gCastore (K : Cx p l e R s m args below meth c B ML Z own n0 md T h ws cells slots) {a : Addr} {kA : ClassId} {z j x : Int32} {vs : List Value} {dv : Value} (hd : Dc B pc .castore 1 pc') (hm : a ∈ ws) (A : Arv Z h a kA .char z vs dv) (hj : j.toNatClampNeg = vs.length) (hlt : ¬ j < 0 ∧ j < z) (hx0 : ¬ x < 0) (hx1 : ¬ (65535 : Int32) < x)
    (k : ∀ (T' : State) (h' : Heap), Cx p l e R s m args below meth c B ML Z own n0 md T' h' ws cells slots → Keep h h' [a] → Arv Z h' a kA .char z (vs ++ [.int x]) dv → Go p e below F T' (mkF m pc' Ls St)) : Go p e below F T (mkF m pc Ls (.int x :: .int j :: .ref a :: St)) := by
  have K0 := K
  obtain ⟨⟨hx, hby, hml⟩, eT, hn0, s1, locs, X, hZ, hown, N, J, Wq⟩ := K
  obtain ⟨hd, rfl⟩ := hd
  obtain ⟨cl, A1, A2, A3, A4, A5, A6⟩ := A
  obtain ⟨T', h', X', e', W, st⟩ := stC X hx hZ eT A1 (inb_of A3 hlt) (x := x) (g := mkF m pc Ls (.int x :: .int j :: .ref a :: St)) rfl rfl (hb hby hd)
  rw [nar_c hx0 hx1] at W
  have hf : fits .char (.int x) = true := by rw [← nar_c hx0 hx1]; exact fits_nar_char x
  exact (k T' h' (K0.wrote X' e' W hm hZ hown N J Wq) (Keep.of_wr W) (arv_push A1 A2 A3 A4 A5 A6 hf W hj)).st st
theorem gBastoreAt (K : Cx p l e R s m args below meth c B ML Z own n0 md T h ws cells slots) {a : Addr} {kA : ClassId} {z j x : Int32} {vs : List Value} {dv : Value} (hd : Dc B pc .bastore 1 pc') (hm : a ∈ ws) (A : Arv Z h a kA .byte z vs dv) (i : Nat) (hj : j.toNatClampNeg = i) (hi : i < vs.length) (hlt : ¬ j < 0 ∧ j < z)
    (k : ∀ (T' : State) (h' : Heap), Cx p l e R s m args below meth c B ML Z own n0 md T' h' ws cells slots → Keep h h' [a] → Arv Z h' a kA .byte z (vs.set i (.int (nar .byte x))) dv → Go p e below F T' (mkF m pc' Ls St)) : Go p e below F T (mkF m pc Ls (.int x :: .int j :: .ref a :: St)) := by
  have K0 := K
  obtain ⟨⟨hx, hby, hml⟩, eT, hn0, s1, locs, X, hZ, hown, N, J, Wq⟩ := K
  obtain ⟨hd, rfl⟩ := hd
  obtain ⟨cl, A1, A2, A3, A4, A5, A6⟩ := A
  obtain ⟨T', h', X', e', W, st⟩ := stB X hx hZ eT A1 (inb_of A3 hlt) (x := x) (g := mkF m pc Ls (.int x :: .int j :: .ref a :: St)) rfl rfl (hb hby hd)
  exact (k T' h' (K0.wrote X' e' W hm hZ hown N J Wq) (Keep.of_wr W) (Arv.set A1 A2 A3 A4 A5 A6 (fits_nar_byte x) W i hj hi)).st st
theorem gBaload (K : Cx p l e R s m args below meth c B ML Z own n0 md T h ws cells slots) {a : Addr} {kA : ClassId} {z j : Int32} {vs : List Value} {dv v : Value} (hd : Dc B pc .baload 1 pc') (A : Arv Z h a kA .byte z vs dv) (hlt : ¬ j < 0 ∧ j < z) (hv : vs.getD j.toNatClampNeg dv = v) (r : Go p e below F T (mkF m pc' Ls (v :: St))) : Go p e below F T (mkF m pc Ls (.int j :: .ref a :: St)) := by
  obtain ⟨⟨hx, hby, hml⟩, eT, hn0, s1, locs, X, hZ, hown, N, J, Wq⟩ := K
  obtain ⟨hd, rfl⟩ := hd
  obtain ⟨cl, A1, A2, A3, A4, A5, A6⟩ := A
  exact r.st fun t q => X.baloadBytes hx (by rw [eT]; exact A1.1) (State.isArrayOf_alike hZ.alike A1.2.1) A1.2.2 (inb_of A3 hlt) (A5.at (inb_of A3 hlt) hv) (g := mkF m pc Ls (.int j :: .ref a :: St)) rfl rfl (hb hby hd) t q
theorem gLen (K : Cx p l e R s m args below meth c B ML Z own n0 md T h ws cells slots) {a : Addr} {kA : ClassId} {z : Int32} {vs : List Value} {dv : Value} {ty : FieldType} (hd : Dc B pc .arraylength 1 pc') (A : Arv Z h a kA ty z vs dv) (r : Go p e below F T (mkF m pc' Ls (.int z :: St))) : Go p e below F T (mkF m pc Ls (.ref a :: St)) := by
  obtain ⟨⟨hx, hby, hml⟩, eT, hn0, s1, locs, X, hZ, hown, N, J, Wq⟩ := K
  obtain ⟨hd, rfl⟩ := hd
  obtain ⟨cl, A1, A2, A3, A4, A5, A6⟩ := A
  exact r.st fun t q => X.arraylength hx (by rw [eT]; exact A1.1) (State.isArrayOf_alike hZ.alike A1.2.1) (g := mkF m pc Ls (.ref a :: St)) rfl rfl (hb hby hd) t (by rw [len_of A3 A4]; exact q)
/-! ## calls -/
abbrev PreC (R : Room) (h : Heap) (as' : Array Value) (kc ks : Nat) : Pt → Array Value → Prop := fun A a => a = as' ∧ A.U.heap = h ∧ A.cells + kc ≤ R.cells ∧ A.slots + ks ≤ R.slots
abbrev PostC (Q : Option Value → Heap → List Loc → Prop) (kc ks : Nat) : Pt → Array Value → Option Value → Pt → Prop := fun A _ v B => ∃ L, Q v B.U.heap L ∧ B.locs = A.locs ++ L ∧ B.cells = A.cells + kc ∧ B.slots = A.slots + ks
def Cal (md : Option EList) (l : Launch) (R : Room) (p : Program) (e : Env) (below : List Frame) (args : Array Value) (y : MethodName) (len W : Nat) (Z : State) (n0 : Nat) (h : Heap) (wsC : List Addr) (as' : Array Value) (kc ks : Nat) (QQ : Option Value → Heap → Prop) : Prop := match md with
  | none => ∀ s' : State, Z.Warmed39 s'.vm → Back l R p e below s' args y len W (PreC R h as' kc ks) (PostC (fun v h' L => QQ v h' ∧ Keep h h' wsC ∧ Fr n0 L) kc ks)
  | some EL => ∀ (s : State) (vm0 : Vm) (a0 : Array Value), Z.Warmed39 vm0 → EW Z a0 EL → CHv Z EL vm0 h → (∀ x ∈ wsC, x < h.size ∧ Safe Z EL vm0 h x) →
      BackS l R p e below (s.setVm vm0) args y len W (PreC R h as' kc ks) (fun A a v B => PostC (fun v h' L => QQ v h' ∧ Keep h h' wsC ∧ Fr n0 L) kc ks A a v B ∧ CHr Z EL vm0 h B.U.vm B.U.heap)
theorem Cal.ofBack {y : MethodName} {len W kc ks : Nat} {wsC : List Addr} {as' : Array Value} {Q : Option Value → Heap → List Loc → Prop} {QQ : Option Value → Heap → Prop}
    (hB : ∀ s' : State, Z.Warmed39 s'.vm → Back l R p e below s' args y len W (PreC R h as' kc ks) (PostC Q kc ks)) (hQ : ∀ v h' L, Q v h' L → QQ v h' ∧ Keep h h' wsC ∧ Fr n0 L) : Cal md l R p e below args y len W Z n0 h wsC as' kc ks QQ := by
  cases md with
  | none =>
    intro s' hZ m meth c A g ig mk a X hg hsize hdg hW hn hp
    obtain ⟨v, B, X', ⟨L, q, b⟩, st⟩ := hB s' hZ m meth c A g ig mk a X hg hsize hdg hW hn hp
    exact ⟨v, B, X', ⟨L, hQ _ _ _ q, b⟩, st⟩
  | some EL =>
    intro s vm0 a0 hZ hE H hs m meth c A g ig mk a X hg hsize hdg hW hn hp
    obtain ⟨v, B, X', ⟨L, q, b⟩, st⟩ := hB (s.setVm vm0) hZ m meth c A g ig mk a X hg hsize hdg hW hn hp
    obtain ⟨q1, q2, q3⟩ := hQ _ _ _ q
    have C1 := CHr.keep q2 (fun x hx => (hs x hx).2) H
    exact ⟨v, B, X'.retabled X'.warmed.wide, X'.warmed.since _, by rw [hp.2.1]; exact q2.1, ⟨⟨L, ⟨q1, q2, q3⟩, b⟩, C1.trans (CHv.at X' hZ hE C1.1)⟩, st⟩
/-- a contract: what a body does from the heap h0, writing at most into ws and into what it makes -/
def ConN (l : Launch) (y : MethodName) (bytes : ByteArray) (maxL : Nat) (ret : Option FieldType) (wl : List Cond) (rm : Room) (Z : State) (n0 : Nat) (h0 : Heap) (ws : List Addr) (as' : Array Value) (QQ : Option Value → Heap → Prop) : Prop :=
  MetFree l y (head1 (Cond.code y bytes maxL ret :: wl) rm) (fun a U => a = as' ∧ Z.Warmed39 U.vm ∧ U.heap = h0) (fun _ _ _ _ _ => True) (fun _ U o U' => ∃ v L, o = .returned v ∧ (QQ v U'.heap ∧ Keep h0 U'.heap ws ∧ Fr n0 L) ∧ FrameEnd U o U' L rm.cells rm.slots)
def ConW (EL : EList) (l : Launch) (y : MethodName) (bytes : ByteArray) (maxL : Nat) (ret : Option FieldType) (wl : List Cond) (rm : Room) (Z : State) (n0 : Nat) (h0 : Heap) (ws : List Addr) (as' : Array Value) (QQ : Option Value → Heap → Prop) : Prop :=
  MetFree l y (head1 (Cond.code y bytes maxL ret :: wl) rm) (fun a U => a = as' ∧ Z.Warmed39 U.vm ∧ U.heap = h0 ∧ CHv Z EL U.vm h0 ∧ ∀ x ∈ ws, Safe Z EL U.vm h0 x) (fun _ _ _ _ _ => True) (fun _ U o U' => ∃ v L, o = .returned v ∧ (QQ v U'.heap ∧ Keep h0 U'.heap ws ∧ Fr n0 L) ∧ CHr Z EL U.vm U.heap U'.vm U'.heap ∧ ReturnedEndW U o U' L rm.cells rm.slots)
def Con (md : Option EList) (l : Launch) (y : MethodName) (bytes : ByteArray) (maxL : Nat) (ret : Option FieldType) (wl : List Cond) (rm : Room) (Z : State) (n0 : Nat) (h0 : Heap) (ws : List Addr) (as' : Array Value) (QQ : Option Value → Heap → Prop) : Prop := match md with
  | none => ConN l y bytes maxL ret wl rm Z n0 h0 ws as' QQ
  | some EL => ConW EL l y bytes maxL ret wl rm Z n0 h0 ws as' QQ
theorem Con.asN {y : MethodName} {bytes : ByteArray} {maxL : Nat} {ret : Option FieldType} {wl : List Cond} {rm : Room} {as' : Array Value} {QQ : Option Value → Heap → Prop} (C : Con none l y bytes maxL ret wl rm Z n0 h ws as' QQ) :
    MetFree l y (head1 (Cond.code y bytes maxL ret :: wl) rm) (fun a U => a = as' ∧ Z.Warmed39 U.vm ∧ U.heap = h) (fun _ _ _ _ _ => True) (fun _ U o U' => ∃ v L, o = .returned v ∧ (QQ v U'.heap ∧ Keep h U'.heap ws ∧ Fr n0 L) ∧ FrameEnd U o U' L rm.cells rm.slots) := C
theorem Con.asW {EL : EList} {y : MethodName} {bytes : ByteArray} {maxL : Nat} {ret : Option FieldType} {wl : List Cond} {rm : Room} {as' : Array Value} {QQ : Option Value → Heap → Prop} (C : Con (some EL) l y bytes maxL ret wl rm Z n0 h ws as' QQ) :
    MetFree l y (head1 (Cond.code y bytes maxL ret :: wl) rm) (fun a U => a = as' ∧ Z.Warmed39 U.vm ∧ U.heap = h ∧ CHv Z EL U.vm h ∧ ∀ x ∈ ws, Safe Z EL U.vm h x) (fun _ _ _ _ _ => True) (fun _ U o U' => ∃ v L, o = .returned v ∧ (QQ v U'.heap ∧ Keep h U'.heap ws ∧ Fr n0 L) ∧ CHr Z EL U.vm U.heap U'.vm U'.heap ∧ ReturnedEndW U o U' L rm.cells rm.slots) := C
theorem Cal.ofN {y : MethodName} {bytes : ByteArray} {maxL : Nat} {ret : Option FieldType} {rm : Room} {len W : Nat} {wsC : List Addr} {as' : Array Value} {QQ : Option Value → Heap → Prop} (hM : Con none l y bytes maxL ret [] rm Z n0 h wsC as' QQ) (wc : (Cond.code y bytes maxL ret).before a0 Z = true) (wz : (Cond.initialized y.cls).before a0 Z = true) (hf : rm.frames + 1 ≤ R.frames) (hl : W + (maxL + 11) + rm.locals ≤ R.locals) :
    Cal md l R p e below args y len W Z n0 h wsC as' rm.cells rm.slots QQ :=
  Cal.ofBack (fun s' hZ => backOf (Q := fun v h' L => QQ v h' ∧ Keep h h' wsC ∧ Fr n0 L) hM.asN hZ wc wz hf hl) (fun _ _ _ q => q)
theorem Cal.ofW {EL : EList} {y : MethodName} {bytes : ByteArray} {maxL : Nat} {ret : Option FieldType} {rm : Room} {len W : Nat} {wsC : List Addr} {as' : Array Value} {QQ : Option Value → Heap → Prop} (hM : Con (some EL) l y bytes maxL ret [] rm Z n0 h wsC as' QQ) (wc : (Cond.code y bytes maxL ret).before a0 Z = true) (wz : (Cond.initialized y.cls).before a0 Z = true) (hf : rm.frames + 1 ≤ R.frames) (hl : W + (maxL + 11) + rm.locals ≤ R.locals) :
    Cal (some EL) l R p e below args y len W Z n0 h wsC as' rm.cells rm.slots QQ := fun s vm0 a1 hZ hEL H hs =>
  BackS.of_freeW (bytes := bytes) (maxL := maxL) (ret := ret) (E := fun _ first o t L k n => k = rm.cells ∧ n = rm.slots ∧ (∃ v, o = .returned v ∧ QQ v t.heap ∧ Keep h t.heap wsC ∧ Fr n0 L) ∧ CHr Z EL first.vm first.heap t.vm t.heap) hM.asW hf hl
    (fun m meth c A a Y hp => have hU : Z.Warmed39 A.U.vm := wtrans (s := s.setVm vm0) hZ Y.warmed
      ⟨by show (Cond.and _ .tt).before a A.U = true; rw [Cond.before_and, mv hU wc]; rfl, mv hU wc, mv hU wz, hp.2.2.1, hp.2.2.2⟩)
    (fun m meth c A a g mk Y hp => ⟨hp.1, wtrans (s := s.setVm vm0) hZ Y.warmed, hp.2.1, (CHv.at Y hZ hEL H).1, fun x hx => (CHv.at Y hZ hEL H).safe (hs x hx).1 (hs x hx).2⟩) (fun _ _ _ _ _ _ _ _ _ => trivial)
    (fun _ _ _ _ ⟨v, L, h1, h2, h3, h4⟩ => ⟨L, _, _, h4, rfl, rfl, ⟨v, h1, h2⟩, h3⟩)
    (fun m meth c A a g mk v t L k n Y hp _ _ ⟨e1, e2, ⟨v', e3, e4⟩, e5⟩ => by
      cases e3; subst e1 e2
      refine ⟨⟨L, e4, rfl, rfl, rfl⟩, (CHv.at Y hZ hEL H).trans ?_⟩
      rw [← hp.2.1]; exact e5)
/-- behind a call in the narrow family -/
theorem Cx.backN {s1 : State} {locs : List Loc} {Bp : Pt} {L : List Loc} {wsC : List Addr} {kc ks : Nat} (K : Cx p l e R s m args below meth c B ML Z own n0 none T h ws cells slots) (X' : Stand p l e R s1 m args below meth c Bp.U Bp.locs Bp.cells Bp.slots) (hZ : Z.Warmed39 s1.vm) (hown : s1.vm.findClass own = some m.cls) (N : Fr n0 locs) (J : Jd none Z s s1 h) (Wq : ∀ x ∈ ws, n0 ≤ x ∧ x < h.size ∧ Sf none Z s1 h x) (Kp : Keep h Bp.U.heap wsC) (NL : Fr n0 L) (b1 : Bp.locs = locs ++ L) (b2 : Bp.cells = cells + kc) (b3 : Bp.slots = slots + ks) : Cx p l e R s m args below meth c B ML Z own n0 none Bp.U Bp.U.heap ws (cells + kc) (slots + ks) := by
  obtain ⟨U, lo, ce, sl⟩ := Bp
  dsimp only [Pt.U, Pt.locs, Pt.cells, Pt.slots] at *
  subst b1 b2 b3
  exact ⟨K.1, rfl, Nat.le_trans K.2.2.1 Kp.1, s1, _, X', hZ, hown, Fr.app N NL, J, fun x hx => ⟨(Wq x hx).1, Nat.lt_of_lt_of_le (Wq x hx).2.1 Kp.1, trivial⟩⟩
/-- behind a call in the wide family -/
theorem Cx.backW {EL : EList} {vm0 : Vm} {k0 : Nat} {locs : List Loc} {Bp : Pt} {L : List Loc} {wsC : List Addr} {kc ks : Nat} {a1 : Array Value} (K : Cx p l e R s m args below meth c B ML Z own n0 (some EL) T h ws cells slots) (X' : Stand p l e R ((s.setVm vm0).setVm Bp.U.vm) m args below meth c Bp.U Bp.locs Bp.cells Bp.slots) (hZ : Z.Warmed39 vm0) (hown : vm0.findClass own = some m.cls) (N : Fr n0 locs) (hS : s.Since vm0 k0) (hk : k0 ≤ h.size) (hC : CHr Z EL s.vm s.heap vm0 h) (hE : EW Z a1 EL) (Wq : ∀ x ∈ ws, n0 ≤ x ∧ x < h.size ∧ Safe Z EL vm0 h x) (hS2 : (s.setVm vm0).Since Bp.U.vm Bp.U.heap.size) (Kp : Keep h Bp.U.heap wsC) (NL : Fr n0 L) (b1 : Bp.locs = locs ++ L) (b2 : Bp.cells = cells + kc) (b3 : Bp.slots = slots + ks) (C2 : CHr Z EL vm0 h Bp.U.vm Bp.U.heap) : Cx p l e R s m args below meth c B ML Z own n0 (some EL) Bp.U Bp.U.heap ws (cells + kc) (slots + ks) := by
  obtain ⟨U, lo, ce, sl⟩ := Bp
  dsimp only [Pt.U, Pt.locs, Pt.cells, Pt.slots] at *
  subst b1 b2 b3
  refine ⟨K.1, rfl, Nat.le_trans K.2.2.1 Kp.1, s.setVm U.vm, _, X', State.Warmed39.trans (t := s.setVm vm0) hZ hS2.1, ?_, Fr.app N NL, ⟨U.vm, U.heap.size, a1, rfl, hS.trans hS2 (Nat.le_trans hk Kp.1), Nat.le_refl _, hC.trans C2, hE⟩, fun x hx => ⟨(Wq x hx).1, Nat.lt_of_lt_of_le (Wq x hx).2.1 Kp.1, C2.safe (Wq x hx).2.1 (Wq x hx).2.2⟩⟩
  show U.vm.findClass own = _
  rw [hS2.1.alike.findClass]; exact hown
theorem gCallS (K : Cx p l e R s m args below meth c B ML Z own n0 md T h ws cells slots) {index : Nat} {y : MethodName} {bytes : ByteArray} {maxL : Nat} {ret : Option FieldType} {wsC : List Addr} {kc ks W : Nat} {QQ : Option Value → Heap → Prop} (argsL rest : List Value)
    (hd : Dc B pc (.invokestatic index) 3 pc') (w1 : (Cond.methodLink own index y).before a0 Z = true) (w2 : (Cond.static y).before a0 Z = true) (w3 : (Cond.initialized y.cls).before a0 Z = true) (w4 : (Cond.code y bytes maxL ret).before a0 Z = true)
    (hC : Cal md l R p e below args y 3 W Z n0 h wsC argsL.toArray kc ks QQ) (hws : ∀ x ∈ wsC, x ∈ ws) {ps : List FieldType} {rt : Option FieldType} (hpd : parseMethodDescriptor y.desc = some ⟨ps, rt⟩) (hpl : argsL.length = ps.length) (hst : St = argsL.reverse ++ rest) (hW : (rest.map fun v => v.category).sum ≤ W) (hsz : Ls.size = ML) (hc : cells + kc ≤ R.cells) (hs : slots + ks ≤ R.slots) (hy : y.cls ≠ "java/lang/invoke/MethodHandle" ∧ y.cls ≠ "java/lang/invoke/VarHandle")
    (k : ∀ (v : Option Value) (T' : State) (h' : Heap), Cx p l e R s m args below meth c B ML Z own n0 md T' h' ws (cells + kc) (slots + ks) → Keep h h' wsC → QQ v h' → Go p e below F T' (mkF m pc' Ls (v.toList ++ rest))) : Go p e below F T (mkF m pc Ls St) := by
  have K0 := K
  obtain ⟨⟨hx, hby, hml⟩, eT, hn0, s1, locs, X, hZ, hown, N, J, Wq⟩ := K
  obtain ⟨hd, rfl⟩ := hd
  cases md with
  | none =>
    obtain ⟨v, vm1, Bp, -, X', ⟨L, ⟨q1, q2, q3⟩, b1, b2, b3⟩, st⟩ := Jvm.LawKit.callS X hx hown (mvT hZ w1) (mvT hZ w2) (mvT hZ w3) (mvT hZ w4) hy (hC s1 hZ) (g := mkF m pc Ls St) rfl (by rw [hml]; exact hsz) (lenOf hpd hpl) hst (by show 2 * 0 + _ ≤ _; omega) (hb hby hd) (fun _ _ => ⟨rfl, eT, hc, hs⟩)
    exact (k v Bp.U Bp.U.heap (K0.backN X' hZ hown N J Wq q2 q3 b1 b2 b3) q2 q1).st st
  | some EL =>
    obtain ⟨vm0, k0, a1, rfl, j2, j3, j4, j5⟩ := J
    obtain ⟨v, vm1, Bp, -, X', S2, -, ⟨⟨L, ⟨q1, q2, q3⟩, b1, b2, b3⟩, C2⟩, st⟩ := callSS X hx hown (mvT hZ w1) (mvT hZ w2) (mvT hZ w3) (mvT hZ w4) hy (hC s vm0 a1 hZ j5 j4.1 (fun x hx => (Wq x (hws x hx)).2)) (g := mkF m pc Ls St) rfl (by rw [hml]; exact hsz) (lenOf hpd hpl) hst (by show 2 * 0 + _ ≤ _; omega) (hb hby hd) (fun _ _ => ⟨rfl, eT, hc, hs⟩)
    exact (k v Bp.U Bp.U.heap (K0.backW X' hZ hown N j2 j3 j4 j5 Wq S2 q2 q3 b1 b2 b3 C2) q2 q1).tr st
theorem gCallI (K : Cx p l e R s m args below meth c B ML Z own n0 md T h ws cells slots) {index : Nat} {y : MethodName} {bytes : ByteArray} {maxL : Nat} {wsC : List Addr} {kc ks W : Nat} {QQ : Option Value → Heap → Prop} (a : Addr) (argsL rest : List Value)
    (hd : Dc B pc (.invokespecial index) 3 pc') (hy1 : y.name = "<init>") (w1 : (Cond.methodLink own index y).before a0 Z = true) (w2 : (Cond.instanceMethod y).before a0 Z = true) (w4 : (Cond.code y bytes maxL none).before a0 Z = true)
    (hC : Cal md l R p e below args y 3 W Z n0 h wsC (.ref a :: argsL).toArray kc ks QQ) (hws : ∀ x ∈ wsC, x ∈ ws) {ps : List FieldType} {rt : Option FieldType} (hpd : parseMethodDescriptor y.desc = some ⟨ps, rt⟩) (hpl : argsL.length = ps.length) (hst : St = argsL.reverse ++ .ref a :: rest) (hW : (rest.map fun v => v.category).sum ≤ W) (hsz : Ls.size = ML) (hc : cells + kc ≤ R.cells) (hs : slots + ks ≤ R.slots) (hy : y.cls ≠ "java/lang/invoke/MethodHandle" ∧ y.cls ≠ "java/lang/invoke/VarHandle")
    (k : ∀ (v : Option Value) (T' : State) (h' : Heap), Cx p l e R s m args below meth c B ML Z own n0 md T' h' ws (cells + kc) (slots + ks) → Keep h h' wsC → QQ v h' → Go p e below F T' (mkF m pc' Ls (v.toList ++ rest))) : Go p e below F T (mkF m pc Ls St) := by
  have K0 := K
  obtain ⟨⟨hx, hby, hml⟩, eT, hn0, s1, locs, X, hZ, hown, N, J, Wq⟩ := K
  obtain ⟨hd, rfl⟩ := hd
  cases md with
  | none =>
    obtain ⟨v, vm1, Bp, -, X', ⟨L, ⟨q1, q2, q3⟩, b1, b2, b3⟩, st⟩ := X.specialBack hx hy1 hown (mvT hZ w1) (mvT hZ w2) (mvT hZ w4) hy (hC s1 hZ) (g := mkF m pc Ls St) rfl (by rw [hml]; exact hsz) (Steps.refl _) (lenOf hpd hpl) hst (by show 2 * 0 + _ ≤ _; omega) (hb hby hd) (fun _ _ => ⟨rfl, eT, hc, hs⟩)
    exact (k v Bp.U Bp.U.heap (K0.backN X' hZ hown N J Wq q2 q3 b1 b2 b3) q2 q1).tr st
  | some EL =>
    obtain ⟨vm0, k0, a1, rfl, j2, j3, j4, j5⟩ := J
    obtain ⟨v, vm1, Bp, -, X', S2, -, ⟨⟨L, ⟨q1, q2, q3⟩, b1, b2, b3⟩, C2⟩, st⟩ := X.specialBackS hx hy1 hown (mvT hZ w1) (mvT hZ w2) (mvT hZ w4) hy (hC s vm0 a1 hZ j5 j4.1 (fun x hx => (Wq x (hws x hx)).2)) (g := mkF m pc Ls St) rfl (by rw [hml]; exact hsz) (Steps.refl _) (lenOf hpd hpl) hst (by show 2 * 0 + _ ≤ _; omega) (hb hby hd) (fun _ _ => ⟨rfl, eT, hc, hs⟩)
    exact (k v Bp.U Bp.U.heap (K0.backW X' hZ hown N j2 j3 j4 j5 Wq S2 q2 q3 b1 b2 b3 C2) q2 q1).tr st
theorem gCallV (K : Cx p l e R s m args below meth c B ML Z own n0 md T h ws cells slots) {index : Nat} {C : String} {y : MethodName} {wsC : List Addr} {kc ks W : Nat} {QQ : Option Value → Heap → Prop} (a : Addr) (argsL rest : List Value)
    (hd : Dc B pc (.invokevirtual index) 3 pc') (w1 : (Cond.methodLink own index y).before a0 Z = true) (w2 : (Cond.declares y).before a0 Z = true) (w3 : (Cond.selects C y y).before a0 Z = true) (w4 : (Cond.instanceMethod y).before a0 Z = true)
    (hC : Cal md l R p e below args y 3 W Z n0 h wsC (.ref a :: argsL).toArray kc ks QQ) (E : Exa Z h a C) (hws : ∀ x ∈ wsC, x ∈ ws) {ps : List FieldType} {rt : Option FieldType} (hpd : parseMethodDescriptor y.desc = some ⟨ps, rt⟩) (hpl : argsL.length = ps.length) (hst : St = argsL.reverse ++ .ref a :: rest) (hW : (rest.map fun v => v.category).sum ≤ W) (hsz : Ls.size = ML) (hc : cells + kc ≤ R.cells) (hs : slots + ks ≤ R.slots) (hy : y.cls ≠ "java/lang/invoke/MethodHandle" ∧ y.cls ≠ "java/lang/invoke/VarHandle")
    (k : ∀ (v : Option Value) (T' : State) (h' : Heap), Cx p l e R s m args below meth c B ML Z own n0 md T' h' ws (cells + kc) (slots + ks) → Keep h h' wsC → QQ v h' → Go p e below F T' (mkF m pc' Ls (v.toList ++ rest))) : Go p e below F T (mkF m pc Ls St) := by
  have K0 := K
  obtain ⟨⟨hx, hby, hml⟩, eT, hn0, s1, locs, X, hZ, hown, N, J, Wq⟩ := K
  obtain ⟨hd, rfl⟩ := hd
  obtain ⟨cq, kq, qa, -, qc⟩ := isOf hZ eT E
  cases md with
  | none =>
    obtain ⟨v, vm1, Bp, -, X', ⟨L, ⟨q1, q2, q3⟩, b1, b2, b3⟩, st⟩ := X.virtualBack hx hown (mvT hZ w1) (mvT hZ w2) (notFace_of_selects (args := #[]) (mvT hZ w3)) (mvT hZ w3) (mvT hZ w4) hy (hC s1 hZ) qa qc (g := mkF m pc Ls St) rfl (by rw [hml]; exact hsz) (Steps.refl _) (lenOf hpd hpl) hst (by show 2 * 0 + _ ≤ _; omega) (hb hby hd) (fun _ _ => ⟨rfl, eT, hc, hs⟩)
    exact (k v Bp.U Bp.U.heap (K0.backN X' hZ hown N J Wq q2 q3 b1 b2 b3) q2 q1).tr st
  | some EL =>
    obtain ⟨vm0, k0, a1, rfl, j2, j3, j4, j5⟩ := J
    obtain ⟨v, vm1, Bp, -, X', S2, -, ⟨⟨L, ⟨q1, q2, q3⟩, b1, b2, b3⟩, C2⟩, st⟩ := X.virtualBackS hx hown (mvT hZ w1) (mvT hZ w2) (notFace_of_selects (args := #[]) (mvT hZ w3)) (mvT hZ w3) (mvT hZ w4) hy (hC s vm0 a1 hZ j5 j4.1 (fun x hx => (Wq x (hws x hx)).2)) qa qc (g := mkF m pc Ls St) rfl (by rw [hml]; exact hsz) (Steps.refl _) (lenOf hpd hpl) hst (by show 2 * 0 + _ ≤ _; omega) (hb hby hd) (fun _ _ => ⟨rfl, eT, hc, hs⟩)
    exact (k v Bp.U Bp.U.heap (K0.backW X' hZ hown N j2 j3 j4 j5 Wq S2 q2 q3 b1 b2 b3 C2) q2 q1).tr st
/-! ## the end, the entry -/
def End (md : Option EList) (s Z : State) (n0 : Nat) (h0 : Heap) (ws : List Addr) (kc ks : Nat) (QQ : Option Value → Heap → Prop) : Outcome → State → Prop := match md with
  | none => fun o t => ∃ v L, o = .returned v ∧ (QQ v t.heap ∧ Keep h0 t.heap ws ∧ Fr n0 L) ∧ FrameEnd s o t L kc ks
  | some EL => fun o t => ∃ v L, o = .returned v ∧ (QQ v t.heap ∧ Keep h0 t.heap ws ∧ Fr n0 L) ∧ CHr Z EL s.vm s.heap t.vm t.heap ∧ ReturnedEndW s o t L kc ks
theorem sbn_mono {s t : State} {L : List Loc} {k n k' n' : Nat} (h : s.sameButNew t L k n) (a : k ≤ k') (b : n ≤ n') : s.sameButNew t L k' n' := h.mono a b
theorem gEnd {g : JFrame} {h0 : Heap} {wsA : List Addr} {kc ks : Nat} {QQ : Option Value → Heap → Prop} {v : Option Value} (K : Cx p l e R s m args below meth c B ML Z own n0 md T h ws cells slots) (hlk : meth.locks = false) (hv : meth.sig.returnType = none → v = none)
    (st : ∀ {s1 : State} {locs : List Loc} {fs : List Frame}, Stand p l e R s1 m args below meth c T locs cells slots → (∀ (f : JFrame) (acts : List Action), f.method = m → f.locked = none → f.entered = [] → (doReturn e (T.setTop f) acts v).1 = T.setFrames fs) → Steps p.tables e below (T.setTop g) (T.setFrames fs))
    (Kp : Keep h0 h wsA) (hc : cells ≤ kc) (hs : slots ≤ ks) (hq : QQ v h) : Go p e below (End md s Z n0 h0 wsA kc ks QQ) T g := by
  obtain ⟨⟨hx, hby, hml⟩, eT, hn0, s1, locs, X, hZ, hown, N, J, Wq⟩ := K
  subst eT
  cases md with
  | none =>
    cases J
    obtain ⟨fs, hr, hrun, hended, hW, hsame⟩ := X.leave (v := v) hv hlk
    exact ⟨_, _, st X hr, hrun, hended, v, locs, rfl, ⟨hq, Kp, N⟩, ⟨_, rfl⟩, hW, sbn_mono hsame hc hs⟩
  | some EL =>
    obtain ⟨vm0, k0, a1, rfl, j2, j3, j4, j5⟩ := J
    obtain ⟨fs, hr, hrun, hended, hW⟩ := X.leaveW j2 j3 (v := v) hv hlk
    refine ⟨_, _, st X hr, hrun, hended, v, locs, rfl, ⟨hq, Kp, N⟩, (show CHr Z EL s.vm s.heap T.vm T.heap from j4.trans (CHv.at X hZ j5 j4.1)), ?_⟩
    obtain ⟨w1, w2, w3, w4⟩ := hW
    exact ⟨w1, w2, w3, sbn_mono w4 hc hs⟩
theorem Cal.mono {y : MethodName} {len W kc ks kc' ks' : Nat} {wsC : List Addr} {as' : Array Value} {QQ QQ' : Option Value → Heap → Prop} (C : Cal md l R p e below args y len W Z n0 h wsC as' kc ks QQ) (h1 : kc ≤ kc') (h2 : ks ≤ ks') (hq : ∀ v h', QQ v h' → QQ' v h') : Cal md l R p e below args y len W Z n0 h wsC as' kc' ks' QQ' := by
  cases md with
  | none =>
    intro s' hZ m meth c A g ig mk a X hg hsize hdg hW hn hp
    obtain ⟨v, ⟨U, lo, ce, sl⟩, X', ⟨L, ⟨q1, q2, q3⟩, b1, b2, b3⟩, st⟩ := C s' hZ m meth c A g ig mk a X hg hsize hdg hW hn ⟨hp.1, hp.2.1, by have := hp.2.2.1; omega, by have := hp.2.2.2; omega⟩
    dsimp only [Pt.U, Pt.locs, Pt.cells, Pt.slots] at *
    exact ⟨v, ⟨U, lo, A.cells + kc', A.slots + ks'⟩, X'.mono (by rw [b2]; exact Nat.add_le_add_left h1 _) (by rw [b3]; exact Nat.add_le_add_left h2 _), ⟨L, ⟨hq _ _ q1, q2, q3⟩, b1, rfl, rfl⟩, st⟩
  | some EL =>
    intro s vm0 a0 hZ hE H hs m meth c A g ig mk a X hg hsize hdg hW hn hp
    obtain ⟨v, ⟨U, lo, ce, sl⟩, X', S2, gr, ⟨⟨L, ⟨q1, q2, q3⟩, b1, b2, b3⟩, C2⟩, st⟩ := C s vm0 a0 hZ hE H hs m meth c A g ig mk a X hg hsize hdg hW hn ⟨hp.1, hp.2.1, by have := hp.2.2.1; omega, by have := hp.2.2.2; omega⟩
    dsimp only [Pt.U, Pt.locs, Pt.cells, Pt.slots] at *
    exact ⟨v, ⟨U, lo, A.cells + kc', A.slots + ks'⟩, X'.mono (by rw [b2]; exact Nat.add_le_add_left h1 _) (by rw [b3]; exact Nat.add_le_add_left h2 _), S2, gr, ⟨⟨L, ⟨hq _ _ q1, q2, q3⟩, b1, rfl, rfl⟩, C2⟩, st⟩

theorem gRetI {h0 : Heap} {wsA : List Addr} {kc ks : Nat} {QQ : Option Value → Heap → Prop} {t : FieldType} {z : Int32} (K : Cx p l e R s m args below meth c B ML Z own n0 md T h ws cells slots) (hlk : meth.locks = false) (hret : meth.sig.returnType = some t) (ht : t = .int ∨ t = .boolean ∨ t = .byte ∨ t = .char ∨ t = .short) (hd : Dc B pc .ireturn 1 pc') (hn : narrow t (.int z) = .int z) (Kp : Keep h0 h wsA) (hc : cells ≤ kc) (hs : slots ≤ ks) (hq : QQ (some (.int z)) h) : Go p e below (End md s Z n0 h0 wsA kc ks QQ) T (mkF m pc Ls (.int z :: St)) :=
  gEnd K hlk (fun q => by rw [hret] at q; cases q) (fun X hr => retOut X K.1.1 hret hn (Or.inl ⟨rfl, ht, _, rfl⟩) (hb K.1.2.1 hd.1) hr) Kp hc hs hq
theorem gRetA {h0 : Heap} {wsA : List Addr} {kc ks : Nat} {QQ : Option Value → Heap → Prop} {t : FieldType} {w : Value} (K : Cx p l e R s m args below meth c B ML Z own n0 md T h ws cells slots) (hlk : meth.locks = false) (hret : meth.sig.returnType = some t) (ht : t.isReference = true) (hw : w.isRef = true) (hd : Dc B pc .areturn 1 pc') (Kp : Keep h0 h wsA) (hc : cells ≤ kc) (hs : slots ≤ ks) (hq : QQ (some w) h) : Go p e below (End md s Z n0 h0 wsA kc ks QQ) T (mkF m pc Ls (w :: St)) :=
  gEnd K hlk (fun q => by rw [hret] at q; cases q) (fun X hr => retOut X K.1.1 hret (by cases t <;> cases w <;> simp_all [FieldType.isReference, Value.isRef, narrow]) (Or.inr (Or.inr (Or.inr (Or.inr ⟨rfl, ht, hw⟩)))) (hb K.1.2.1 hd.1) hr) Kp hc hs hq
theorem gRetV {h0 : Heap} {wsA : List Addr} {kc ks : Nat} {QQ : Option Value → Heap → Prop} (K : Cx p l e R s m args below meth c B ML Z own n0 md T h ws cells slots) (hlk : meth.locks = false) (hret : meth.sig.returnType = none) (hd : Dc B pc .return_ 1 pc') (Kp : Keep h0 h wsA) (hc : cells ≤ kc) (hs : slots ≤ ks) (hq : QQ none h) : Go p e below (End md s Z n0 h0 wsA kc ks QQ) T (mkF m pc Ls []) :=
  gEnd K hlk (fun _ => rfl) (fun X hr => X.returnOut K.1.1 hret (hb K.1.2.1 hd.1) hr) Kp hc hs hq
def Ew (md : Option EList) (Z : State) : Prop := match md with | none => True | some EL => ∃ a0, EW Z a0 EL
theorem Con.introF {y : MethodName} {bytes : ByteArray} {maxL : Nat} {ret : Option FieldType} {wl : List Cond} {rm : Room} {h0 : Heap} {as' : Array Value} {QQ : Option Value → Heap → Prop} (hpn : plainFor y = true) (Z0 : n0 ≤ h0.size) (hws : ∀ x ∈ ws, n0 ≤ x ∧ x < h0.size) (hE : Ew md Z) (Ls0 : Array Slot) (hef : ∀ m, entryFrame m as' maxL = mkF m 0 Ls0 [])
    (body : ∀ p e s m below meth c T, meth.locks = false → meth.sig.returnType = ret → meth.name = y.name → Cx p l e rm s m as' below meth c bytes maxL Z y.cls n0 md T h0 ws 0 0 → Go p e below (End md s Z n0 h0 ws rm.cells rm.slots QQ) T (mkF m 0 Ls0 [])) : Con md l y bytes maxL ret wl rm Z n0 h0 ws as' QQ := by
  cases md with
  | none =>
    show ConN l y bytes maxL ret wl rm Z n0 h0 ws as' QQ
    unfold ConN
    refine MetFree.of_bodySF hpn hisR ?_
    intro p e s m args below meth c s₁ Bd hml0 hP hK
    obtain ⟨ha, hZ, hh⟩ := hP
    subst ha
    have G := body p e s m below meth c s₁ Bd.notSynchronized Bd.returns (name_of_methodNamed Bd.named Bd.method).1 ⟨⟨Bd.exec, Bd.bytes, hml0⟩, by rw [← hh, Bd.state]; rfl, Z0, s, [], Stand.of_body Bd, hZ, findClass_of_methodNamed Bd.named, Fr.nil n0, rfl, fun x hx => ⟨(hws x hx).1, (hws x hx).2, trivial⟩⟩
    rw [← hef m] at G
    exact G
  | some EL =>
    obtain ⟨a1, hE⟩ := hE
    show ConW EL l y bytes maxL ret wl rm Z n0 h0 ws as' QQ
    unfold ConW
    refine MetFree.of_bodySF hpn hisR ?_
    intro p e s m args below meth c s₁ Bd hml0 hP hK
    obtain ⟨ha, hZ, hh, H, hsf⟩ := hP
    subst ha
    have G := body p e s m below meth c s₁ Bd.notSynchronized Bd.returns (name_of_methodNamed Bd.named Bd.method).1 ⟨⟨Bd.exec, Bd.bytes, hml0⟩, by rw [← hh, Bd.state]; rfl, Z0, s, [], Stand.of_body Bd, hZ, findClass_of_methodNamed Bd.named, Fr.nil n0, ⟨s.vm, s.heap.size, a1, rfl, (State.WarmedH.refl s).since _, by rw [hh]; exact Nat.le_refl _, by rw [hh]; exact CHr.refl H, hE⟩, fun x hx => ⟨(hws x hx).1, (hws x hx).2, hsf x hx⟩⟩
    rw [← hef m] at G
    exact G
theorem Con.intro {y : MethodName} {bytes : ByteArray} {maxL : Nat} {ret : Option FieldType} {wl : List Cond} {rm : Room} {h0 : Heap} {as' : Array Value} {QQ : Option Value → Heap → Prop} (hpn : plainName y.cls = true) (Z0 : n0 ≤ h0.size) (hws : ∀ x ∈ ws, n0 ≤ x ∧ x < h0.size) (hE : Ew md Z) (Ls0 : Array Slot) (hef : ∀ m, entryFrame m as' maxL = mkF m 0 Ls0 [])
    (body : ∀ p e s m below meth c T, meth.locks = false → meth.sig.returnType = ret → meth.name = y.name → Cx p l e rm s m as' below meth c bytes maxL Z y.cls n0 md T h0 ws 0 0 → Go p e below (End md s Z n0 h0 ws rm.cells rm.slots QQ) T (mkF m 0 Ls0 [])) : Con md l y bytes maxL ret wl rm Z n0 h0 ws as' QQ :=
  Con.introF (plainFor_of_name hpn) Z0 hws hE Ls0 hef body
theorem EW.re {a1 a2 : Array Value} {EL : EList} (E : EW Z a1 EL) : EW Z a2 EL := fun q hq => by
  obtain ⟨t, w, h⟩ := E q hq
  exact ⟨t, mvS (s := Z) (vm0 := Z.vm) (State.Warmed39.refl Z) w, h⟩
theorem gLdc {EL : EList} (K : Cx p l e R s m args below meth c B ML Z own n0 (some EL) T h ws cells slots) {index : Nat} {text : String} (hd : Dc B pc (.ldc index) 2 pc') (w : (Cond.stringLink own index text).before a0 Z = true) (wS : ∀ a ∈ Bundle.stringAtoms, a.before a0 Z = true) (hmem : (own, index) ∈ EL)
    {vs : List Value} {z : Int32} (ht : (∀ c ∈ text.toList, c.toNat < 256) ∧ text.toList.map (fun c => Value.int (Jvm.Lit.byteI c.toNat.toUInt16)) = vs) (hz : ¬ z < 0) (hl : z.toNatClampNeg = vs.length) (n : Nat) (hn : 4 * text.toList.length ≤ n) (hbig : n ≤ 536870912) (hc : cells + 2 ≤ R.cells) (hs : slots + (n + 4) ≤ R.slots)
    (k : ∀ (T' : State) (h' : Heap) (a b : Addr) (kA : ClassId), Cx p l e R s m args below meth c B ML Z own n0 (some EL) T' h' ws (cells + 2) (slots + (n + 4)) → Ext h h' → Exa Z h' a "java/lang/String" → Fld Z h' a "java/lang/String" "coder" "B" (.int 0) → Fld Z h' a "java/lang/String" "value" "[B" (.ref b) → Arv Z h' b kA .byte z vs (.int 0) → (∀ x ∈ ws, x ≠ a ∧ x ≠ b) → Go p e below F T' (mkF m pc' Ls (.ref a :: St))) : Go p e below F T (mkF m pc Ls St) := by
  have K0 := K
  obtain ⟨⟨hx, hby, hml⟩, eT, hn0, s1, locs, X, hZ, hown, N, J, Wq⟩ := K
  obtain ⟨hd, rfl⟩ := hd
  obtain ⟨vm0, k0, a1, rfl, j2, j3, j4, j5⟩ := J
  obtain ⟨a, T', h', k1, b, kA, X', e', E, S', hk', hZ', hown', f1, f2, f3, f4, -, -, C2, -, hne, st⟩ := ldcCH X hx hZ hown w wS eT j2 j3 (EW.re j5) hmem j4.1 ht hz hl (g := mkF m pc Ls St) rfl (hb hby hd) hn hbig hc hs
  exact (k T' h' a b kA ⟨K0.1, e', Nat.le_trans hn0 E.1, _, locs, X', hZ', hown', N, ⟨T'.vm, k1, a1, rfl, S', hk', j4.trans C2, j5⟩, fun x hx => ⟨(Wq x hx).1, Nat.lt_of_lt_of_le (Wq x hx).2.1 E.1, C2.safe (Wq x hx).2.1 (Wq x hx).2.2⟩⟩ E f1 f2 f3 f4 (fun x hx => hne x (C2.safe (Wq x hx).2.1 (Wq x hx).2.2))).st st
theorem Sta.kp {C n d : String} {v : Value} {h' : Heap} (Fd : Sta Z h C n d v) (K : Keep h h' ws) (hn : ∀ x ∈ ws, ∀ cell : Cell, h[x]? = some cell → cell.vm.isStatics = false) : Sta Z h' C n d v := by
  obtain ⟨cf, i, k, f, st, cell, h1, h2, h3, h4, h5, h6, h7⟩ := Fd
  exact ⟨cf, i, k, f, st, cell, h1, h2, h3, h4, K.2.1 st cell h5 (fun q => by have := hn st q cell h5; rw [h6] at this; cases this), h6, h7⟩
theorem i_eq {a b : Int32} (q : a.toInt = b.toInt) : a = b := Int32.toInt_inj.mp q
theorem and255c (x : Int32) : ¬ (x &&& 255).toUInt32.toUInt16.toUInt32.toInt32 < 0 ∧ ¬ (255 : Int32) < (x &&& 255).toUInt32.toUInt16.toUInt32.toInt32 := by
  have h1 := c_and x 255 (by decide)
  have h2 := c_i2c (x &&& 255)
  rw [Int32.lt_iff_toInt_lt, Int32.lt_iff_toInt_lt]
  have e1 : (255 : Int32).toInt = 255 := by decide
  have e2 : (0 : Int32).toInt = 0 := by decide
  omega
theorem ch_up {x : Int32} (q : ¬ (255 : Int32) < x) : ¬ (65535 : Int32) < x := by
  rw [Int32.lt_iff_toInt_lt] at q ⊢
  have e1 : (255 : Int32).toInt = 255 := by decide
  have e2 : (65535 : Int32).toInt = 65535 := by decide
  omega
theorem allI0 {P : Int32 → Prop} : ∀ x ∈ ([] : List Int32), P x := fun _ q => nomatch q
theorem allI {P : Int32 → Prop} {y : Int32} {L : List Int32} (q : P y) (r : ∀ x ∈ L, P x) : ∀ x ∈ y :: L, P x := fun x z => (List.mem_cons.mp z).elim (fun u => u ▸ q) (r x)
theorem gLdcI (K : Cx p l e R s m args below meth c B ML Z own n0 md T h ws cells slots) {index : Nat} (v : Int32) (hd : Dc B pc (.ldc index) 2 pc') (w : (Cond.constant own index v).before a0 Z = true) (r : Go p e below F T (mkF m pc' Ls (.int v :: St))) : Go p e below F T (mkF m pc Ls St) := by
  obtain ⟨⟨hx, hby, hml⟩, eT, hn0, s1, locs, X, hZ, hown, -⟩ := K
  obtain ⟨hd, rfl⟩ := hd
  exact r.st fun t q => X.ldcI hx hown (mvT hZ w) (g := mkF m pc Ls St) rfl (hb hby hd) q
theorem hasL_of {cl : Cell} {dv : Value} : ∀ (vs : List Value) (i : Nat), (∀ j, j < vs.length → cl.slots[i + j]? = some (vs.getD j dv)) → HasL cl i vs
  | [], _, _ => trivial
  | v :: r, i, H => ⟨H 0 (Nat.zero_lt_succ _), hasL_of r (i + 1) fun j hj => by have := H (j + 1) (Nat.succ_lt_succ hj); rw [Nat.add_right_comm] ; exact this⟩
theorem narrow_c {x : Int32} (q : ¬ x < 0 ∧ ¬ (255 : Int32) < x) : narrow .char (.int x) = .int x := by
  show Value.int (nar .char x) = _
  rw [nar_c q.1 (ch_up q.2)]
theorem ofNat_toInt {k : Nat} (q : k < 2147483648) : (Int32.ofNat k).toInt = k := len_toInt (by omega)
theorem ofNat_lt {k n : Nat} (hk : k < 2147483648) (hn : n < 2147483648) (q : Int32.ofNat k < Int32.ofNat n) : k < n := by
  rw [Int32.lt_iff_toInt_lt, ofNat_toInt hk, ofNat_toInt hn] at q; omega
theorem ofNat_nn {k : Nat} (q : k < 2147483648) : ¬ Int32.ofNat k < 0 := by
  rw [Int32.lt_iff_toInt_lt, ofNat_toInt q]
  have : (0 : Int32).toInt = 0 := by decide
  omega
theorem ofNat_ltI {k n : Nat} (hk : k < n) (hn : n < 2147483648) : Int32.ofNat k < Int32.ofNat n := by
  rw [Int32.lt_iff_toInt_lt, ofNat_toInt (by omega), ofNat_toInt hn]; omega
theorem ofNat_ne {k n : Nat} (hk : k < n) (hn : n < 2147483648) : ¬ Int32.ofNat k = Int32.ofNat n := fun q => by
  have := congrArg Int32.toInt q
  rw [ofNat_toInt (by omega), ofNat_toInt hn] at this; omega
theorem ofNat_clamp {k : Nat} (q : k < 2147483648) : (Int32.ofNat k).toNatClampNeg = k := by
  simp only [Int32.toNatClampNeg, ofNat_toInt q]; rfl
theorem shr1 {k : Nat} (q : k < 1073741824) : Int32.ofNat (2 * k) >>> ((1 : Int32) &&& 31) = Int32.ofNat k := by
  apply i_eq
  rw [c_ishr _ 1 1 (by decide), ofNat_toInt (by omega), ofNat_toInt (by omega)]
  have : ((2 ^ 1 : Nat) : Int) = 2 := by decide
  omega
theorem shr0 (x : Int32) : x >>> ((0 : Int32) &&& 31) = x := by
  apply i_eq
  rw [c_ishr _ 0 0 (by decide)]
  have : ((2 ^ 0 : Nat) : Int) = 1 := by decide
  omega
theorem nar_b2 (x : Int32) : nar .byte x.toInt8.toInt32 = x.toInt8.toInt32 := by
  apply i_eq
  show (x.toInt8.toInt32.toInt8.toInt32).toInt = _
  have h1 := c_i2b x.toInt8.toInt32
  have h2 := c_i2b x
  omega
theorem ofNat_sub {a b : Nat} (h : b ≤ a) (ha : a < 2147483648) : Int32.ofNat a - Int32.ofNat b = Int32.ofNat (a - b) := by
  apply i_eq
  have h1 := c_isub (Int32.ofNat a) (Int32.ofNat b)
  have h2 := rng32 (Int32.ofNat a - Int32.ofNat b)
  rw [ofNat_toInt ha, ofNat_toInt (by omega)] at h1
  rw [ofNat_toInt (by omega)]; omega
theorem ofNat_add {a b : Nat} (ha : a + b < 2147483648) : Int32.ofNat a + Int32.ofNat b = Int32.ofNat (a + b) := by
  apply i_eq
  have h1 := c_iadd (Int32.ofNat a) (Int32.ofNat b)
  have h2 := rng32 (Int32.ofNat a + Int32.ofNat b)
  rw [ofNat_toInt (by omega), ofNat_toInt (by omega)] at h1
  rw [ofNat_toInt (by omega)]; omega
theorem ofNat_nlt {k n : Nat} (hk : n ≤ k) (hk' : k < 2147483648) : ¬ Int32.ofNat k < Int32.ofNat n := by
  rw [Int32.lt_iff_toInt_lt, ofNat_toInt hk', ofNat_toInt (by omega)]; omega
theorem gCopy (K : Cx p l e R s m args below meth c B ML Z own n0 md T h ws cells slots) {index : Nat} {a b : Addr} {kA kB : ClassId} {z z' sp dp nn : Int32} {vs vd us : List Value} {dv dd : Value} (hd : Dc B pc (.invokestatic index) 3 pc')
    (w1 : (Cond.methodLink own index Jvm.Stand.acN).before a0 Z = true) (w2 : (Cond.native Jvm.Stand.acN).before a0 Z = true) (w3 : (Cond.static Jvm.Stand.acN).before a0 Z = true) (w4 : (Cond.initialized "java/lang/System").before a0 Z = true) (hm : b ∈ ws) (A : Arv Z h a kA .byte z vs dv) (A' : Arv Z h b kB .byte z' vd dd)
    (h1 : ¬ sp < 0) (h2 : ¬ dp < 0) (h3 : ¬ nn < 0) (h4 : sp.toNatClampNeg + nn.toNatClampNeg ≤ z.toNatClampNeg) (h5 : dp.toNatClampNeg + nn.toNatClampNeg ≤ z'.toNatClampNeg)
    (hus : us = (List.range nn.toNatClampNeg).map fun i => vs.getD (sp.toNatClampNeg + i) dv) (hl : dp.toNatClampNeg + nn.toNatClampNeg ≤ vd.length) (hsz : Ls.size = ML) (hf : 1 ≤ R.frames) {W : Nat} (hW : (St.map fun v => v.category).sum ≤ W) (hlo : W + (nativeFrameWords "java/lang/System" "arraycopy" 5 + 11) ≤ R.locals)
    (k : ∀ (T' : State) (h' : Heap), Cx p l e R s m args below meth c B ML Z own n0 md T' h' ws cells slots → Keep h h' [b] → Arv Z h' b kB .byte z' (vd.take dp.toNatClampNeg ++ us ++ vd.drop (dp.toNatClampNeg + nn.toNatClampNeg)) dd → Go p e below F T' (mkF m pc' Ls St)) : Go p e below F T (mkF m pc Ls (.int nn :: .int dp :: .ref b :: .int sp :: .ref a :: St)) := by
  have K0 := K
  obtain ⟨⟨hx, hby, hml⟩, eT, hn0, s1, locs, X, hZ, hown, N, J, Wq⟩ := K
  obtain ⟨hd, rfl⟩ := hd
  obtain ⟨T', h', L, X', e', N', Kp, A2, st⟩ := cpA X hx hZ hown w1 w2 w3 w4 eT A A' (Or.inl ⟨rfl, rfl⟩) h1 h2 h3 h4 h5 hus hl N (Wq b hm).1 (g := mkF m pc Ls (.int nn :: .int dp :: .ref b :: .int sp :: .ref a :: St)) rfl (by rw [hml]; exact hsz) rfl (hb hby hd) hf (W := W) (by show 2 * 0 + _ ≤ _; omega) hlo
  have hs : ∀ x ∈ [b], Sf md Z s1 h x := allS (Wq b hm).2.2 all0
  exact (k T' h' ⟨K0.1, e', Nat.le_trans K0.2.2.1 Kp.1, s1, L, X', hZ, hown, N', J.keep Kp hs, fun x hx => by
    obtain ⟨q1, q2, q3⟩ := Wq x hx; exact ⟨q1, Nat.lt_of_lt_of_le q2 Kp.1, q3.keep J Kp hs⟩⟩ Kp A2).st st
theorem range_take {vs : List Value} {d : Value} {t : Nat} (h : t ≤ vs.length) : vs.take t = (List.range t).map fun i => vs.getD (0 + i) d := by
  apply List.ext_getElem
  · simp; omega
  · intro i h1 h2
    simp at h1 h2 ⊢
    rw [List.getElem?_eq_getElem (by omega)]; rfl
theorem wd {tb : List Cond} {a0 : Array Value} {Z : State} (hw : ∀ d ∈ tb, d.before a0 Z = true) (i : Nat) {d : Cond} (h : tb[i]? = some d) : d.before a0 Z = true := hw d (List.mem_of_getElem? h)
theorem me {α : Type} {L : List α} (i : Nat) {a : α} (h : L[i]? = some a) : a ∈ L := List.mem_of_getElem? h

/-! ## calls that select another body, super calls, fresh cells of a narrow callee in the wide family -/
theorem decl_of {a0 : Array Value} {y : MethodName} {bytes : ByteArray} {maxL : Nat} {ret : Option FieldType} (wi : (Cond.instanceMethod y).before a0 Z = true) (wc : (Cond.code y bytes maxL ret).before a0 Z = true) : (Cond.declares y).before a0 Z = true := by
  obtain ⟨mk, methM, hnamed, hmethM, hstM, habM⟩ := Cond.instanceMethod_spec wi
  obtain ⟨m2, cM, q1, -, -, -, -, -, -, hsig⟩ := Cond.code_spec hnamed wc
  cases hmethM.symm.trans q1
  show (Cond.declares y).holds _ _ _ _ _ = true
  simp [Cond.holds, Cond.value, hnamed, hmethM, hstM, hsig]
theorem face_of {a0 : Array Value} {C : String} {w z y : MethodName} (ws : (Cond.selects C w z).before a0 Z = true) (hz : z.cls = y.cls) : ∃ c k, Z.vm.findClass y.cls = some c ∧ Z.vm.classes[c]? = some k ∧ k.isInterface = false := by
  obtain ⟨c, r, m, -, -, hn, -, mk, h1, h2⟩ := Cond.selects_spec ws
  exact ⟨m.cls, mk, hz ▸ findClass_of_methodNamed hn, h1, h2⟩
theorem same_of {a0 : Array Value} {C : String} {w z y : MethodName} (wi : (Cond.instanceMethod y).before a0 Z = true) (ws : (Cond.selects C w z).before a0 Z = true) (hz : z.cls = y.cls) (hy : y.cls ≠ "java/lang/invoke/MethodHandle" ∧ y.cls ≠ "java/lang/invoke/VarHandle") : (Cond.sameMethod y.cls y.cls y.name y.desc).before a0 Z = true := by
  obtain ⟨mk, methM, hnamed, hmethM, hstM, habM⟩ := Cond.instanceMethod_spec wi
  obtain ⟨c, k, h1, h2, h3⟩ := face_of ws hz
  have hf := State.methodFound?_of_named hnamed hy
  show (Cond.sameMethod y.cls y.cls y.name y.desc).holds _ _ _ _ _ = true
  simp [Cond.holds, Cond.value, h1, hf, show Z.methodNamed? ⟨y.cls, y.name, y.desc⟩ = some mk from hnamed, h2, h3]
theorem nface_of {s' : State} {a0 : Array Value} {C : String} {w z y : MethodName} (ws : (Cond.selects C w z).before a0 s' = true) (hz : z.cls = y.cls) : NotFace s' y := fun r0 hr => by
  obtain ⟨c, r, m, -, -, hn, -, mk, h1, h2⟩ := Cond.selects_spec ws
  have e1 := findClass_of_methodNamed hn
  have e2 := findClass_of_methodNamed hr
  rw [hz] at e1
  have e3 : m.cls = r0.cls := Option.some.inj (e1.symm.trans e2)
  exact ⟨mk, e3 ▸ h1, h2⟩
theorem gCallVS (K : Cx p l e R s m args below meth c B ML Z own n0 md T h ws cells slots) {index : Nat} {C Cz : String} {y z wz zz : MethodName} {wsC : List Addr} {kc ks W : Nat} {QQ : Option Value → Heap → Prop} (a : Addr) (argsL rest : List Value)
    (hd : Dc B pc (.invokevirtual index) 3 pc') (w1 : (Cond.methodLink own index y).before a0 Z = true) (w2 : (Cond.declares y).before a0 Z = true) (w3 : (Cond.selects C y z).before a0 Z = true) (w4 : (Cond.instanceMethod z).before a0 Z = true) (w5 : (Cond.selects Cz wz zz).before a0 Z = true) (hz : zz.cls = y.cls)
    (hC : Cal md l R p e below args z 3 W Z n0 h wsC (.ref a :: argsL).toArray kc ks QQ) (E : Exa Z h a C) (hws : ∀ x ∈ wsC, x ∈ ws) {ps : List FieldType} {rt : Option FieldType} (hpd : parseMethodDescriptor y.desc = some ⟨ps, rt⟩) (hpl : argsL.length = ps.length) (hst : St = argsL.reverse ++ .ref a :: rest) (hW : (rest.map fun v => v.category).sum ≤ W) (hsz : Ls.size = ML) (hc : cells + kc ≤ R.cells) (hs : slots + ks ≤ R.slots) (hy : y.cls ≠ "java/lang/invoke/MethodHandle" ∧ y.cls ≠ "java/lang/invoke/VarHandle")
    (k : ∀ (v : Option Value) (T' : State) (h' : Heap), Cx p l e R s m args below meth c B ML Z own n0 md T' h' ws (cells + kc) (slots + ks) → Keep h h' wsC → QQ v h' → Go p e below F T' (mkF m pc' Ls (v.toList ++ rest))) : Go p e below F T (mkF m pc Ls St) := by
  have K0 := K
  obtain ⟨⟨hx, hby, hml⟩, eT, hn0, s1, locs, X, hZ, hown, N, J, Wq⟩ := K
  obtain ⟨hd, rfl⟩ := hd
  obtain ⟨cq, kq, qa, -, qc⟩ := isOf hZ eT E
  cases md with
  | none =>
    obtain ⟨v, vm1, Bp, -, X', ⟨L, ⟨q1, q2, q3⟩, b1, b2, b3⟩, st⟩ := X.virtualBack hx hown (mvT hZ w1) (mvT hZ w2) (nface_of (a0 := #[]) (mvT hZ w5) hz) (mvT hZ w3) (mvT hZ w4) hy (hC s1 hZ) qa qc (g := mkF m pc Ls St) rfl (by rw [hml]; exact hsz) (Steps.refl _) (lenOf hpd hpl) hst (by show 2 * 0 + _ ≤ _; omega) (hb hby hd) (fun _ _ => ⟨rfl, eT, hc, hs⟩)
    exact (k v Bp.U Bp.U.heap (K0.backN X' hZ hown N J Wq q2 q3 b1 b2 b3) q2 q1).tr st
  | some EL =>
    obtain ⟨vm0, k0, a1, rfl, j2, j3, j4, j5⟩ := J
    obtain ⟨v, vm1, Bp, -, X', S2, -, ⟨⟨L, ⟨q1, q2, q3⟩, b1, b2, b3⟩, C2⟩, st⟩ := X.virtualBackS hx hown (mvT hZ w1) (mvT hZ w2) (nface_of (a0 := #[]) (mvT hZ w5) hz) (mvT hZ w3) (mvT hZ w4) hy (hC s vm0 a1 hZ j5 j4.1 (fun x hx => (Wq x (hws x hx)).2)) qa qc (g := mkF m pc Ls St) rfl (by rw [hml]; exact hsz) (Steps.refl _) (lenOf hpd hpl) hst (by show 2 * 0 + _ ≤ _; omega) (hb hby hd) (fun _ _ => ⟨rfl, eT, hc, hs⟩)
    exact (k v Bp.U Bp.U.heap (K0.backW X' hZ hown N j2 j3 j4 j5 Wq S2 q2 q3 b1 b2 b3 C2) q2 q1).tr st
theorem gCallU (K : Cx p l e R s m args below meth c B ML Z own n0 none T h ws cells slots) {index : Nat} {C : String} {y : MethodName} {bytes : ByteArray} {maxL : Nat} {ret : Option FieldType} {wsC : List Addr} {kc ks W : Nat} {QQ : Option Value → Heap → Prop} (a : Addr) (argsL rest : List Value)
    (hd : Dc B pc (.invokespecial index) 3 pc') (hn1 : y.name ≠ "<init>") (w1 : (Cond.methodLink own index y).before a0 Z = true) (w2 : (Cond.sameMethod y.cls y.cls y.name y.desc).before a0 Z = true) (w3 : (Cond.instanceMethod y).before a0 Z = true) (w4 : (Cond.superclass own y.cls).before a0 Z = true) (w5 : (Cond.code y bytes maxL ret).before a0 Z = true)
    (hC : Cal none l R p e below args y 3 W Z n0 h wsC (.ref a :: argsL).toArray kc ks QQ) (E : Exa Z h a C) (hws : ∀ x ∈ wsC, x ∈ ws) {ps : List FieldType} {rt : Option FieldType} (hpd : parseMethodDescriptor y.desc = some ⟨ps, rt⟩) (hpl : argsL.length = ps.length) (hst : St = argsL.reverse ++ .ref a :: rest) (hW : (rest.map fun v => v.category).sum ≤ W) (hsz : Ls.size = ML) (hc : cells + kc ≤ R.cells) (hs : slots + ks ≤ R.slots)
    (k : ∀ (v : Option Value) (T' : State) (h' : Heap), Cx p l e R s m args below meth c B ML Z own n0 none T' h' ws (cells + kc) (slots + ks) → Keep h h' wsC → QQ v h' → Go p e below F T' (mkF m pc' Ls (v.toList ++ rest))) : Go p e below F T (mkF m pc Ls St) := by
  have K0 := K
  obtain ⟨⟨hx, hby, hml⟩, eT, hn0, s1, locs, X, hZ, hown, N, J, Wq⟩ := K
  obtain ⟨hd, rfl⟩ := hd
  obtain ⟨v, vm1, Bp, -, X', ⟨L, ⟨q1, q2, q3⟩, b1, b2, b3⟩, st⟩ := superBack X hx hZ hown w1 w2 w3 w4 hn1 (hC s1 hZ) eT (Ins.self E) (g := mkF m pc Ls St) rfl (by rw [hml]; exact hsz) w5 (lenOf hpd hpl) hst (by show 2 * 0 + _ ≤ _; omega) (hb hby hd) (fun _ _ => ⟨rfl, eT, hc, hs⟩)
  exact (k v Bp.U Bp.U.heap (K0.backN X' hZ hown N J Wq q2 q3 b1 b2 b3) q2 q1).tr st
def CalF (EL : EList) (l : Launch) (R : Room) (p : Program) (e : Env) (below : List Frame) (args : Array Value) (y : MethodName) (len W : Nat) (Z : State) (n0 : Nat) (h : Heap) (wsC : List Addr) (as' : Array Value) (kc ks : Nat) (QQ : Option Value → Heap → Prop) : Prop :=
  ∀ (s : State) (vm0 : Vm) (a0 : Array Value), Z.Warmed39 vm0 → EW Z a0 EL → CHv Z EL vm0 h → (∀ x ∈ wsC, x < h.size ∧ Safe Z EL vm0 h x) →
      BackS l R p e below (s.setVm vm0) args y len W (PreC R h as' kc ks) (fun A a v B => PostC (fun v h' L => QQ v h' ∧ Keep h h' wsC ∧ Fr n0 L) kc ks A a v B ∧ CHr Z EL vm0 h B.U.vm B.U.heap ∧ ∀ y, h.size ≤ y → y < B.U.heap.size → Safe Z EL B.U.vm B.U.heap y)
theorem CalF.ofN {EL : EList} {y : MethodName} {bytes : ByteArray} {maxL : Nat} {ret : Option FieldType} {rm : Room} {len W : Nat} {wsC : List Addr} {as' : Array Value} {QQ : Option Value → Heap → Prop} (hM : Con none l y bytes maxL ret [] rm Z n0 h wsC as' QQ) (wc : (Cond.code y bytes maxL ret).before a0 Z = true) (wz : (Cond.initialized y.cls).before a0 Z = true) (hf : rm.frames + 1 ≤ R.frames) (hl : W + (maxL + 11) + rm.locals ≤ R.locals) :
    CalF EL l R p e below args y len W Z n0 h wsC as' rm.cells rm.slots QQ := by
  intro s vm0 a0 hZ hE H hs m meth c A g ig mk a X hg hsize hdg hW hn hp
  obtain ⟨v, B, X', ⟨L, ⟨q1, q2, q3⟩, b⟩, st⟩ := backOf (Q := fun v h' L => QQ v h' ∧ Keep h h' wsC ∧ Fr n0 L) hM.asN (show Z.Warmed39 (s.setVm vm0).vm from hZ) wc wz hf hl m meth c A g ig mk a X hg hsize hdg hW hn hp
  have C0 := CHv.keepStep q2 (fun x hx => (hs x hx).2) H
  have C1 := CHr.keep q2 (fun x hx => (hs x hx).2) H
  have C3 := CHv.at X' hZ hE C1.1
  refine ⟨v, B, X'.retabled X'.warmed.wide, X'.warmed.since _, by rw [hp.2.1]; exact q2.1, ⟨⟨L, ⟨q1, q2, q3⟩, b⟩, C1.trans C3, fun y hy1 hy2 hb => ?_⟩, st⟩
  rcases C3.2.2 y hb with q | q
  · obtain ⟨cell, r⟩ := (C0.2 y q).there
    have := (Array.getElem?_eq_some_iff.mp r).1
    omega
  · omega
theorem gCallIF {EL : EList} (K : Cx p l e R s m args below meth c B ML Z own n0 (some EL) T h ws cells slots) {index : Nat} {y : MethodName} {bytes : ByteArray} {maxL : Nat} {wsC : List Addr} {kc ks W : Nat} {QQ : Option Value → Heap → Prop} (a : Addr) (argsL rest : List Value)
    (hd : Dc B pc (.invokespecial index) 3 pc') (hy1 : y.name = "<init>") (w1 : (Cond.methodLink own index y).before a0 Z = true) (w2 : (Cond.instanceMethod y).before a0 Z = true) (w4 : (Cond.code y bytes maxL none).before a0 Z = true)
    (hC : CalF EL l R p e below args y 3 W Z n0 h wsC (.ref a :: argsL).toArray kc ks QQ) (hws : ∀ x ∈ wsC, x ∈ ws) {ps : List FieldType} {rt : Option FieldType} (hpd : parseMethodDescriptor y.desc = some ⟨ps, rt⟩) (hpl : argsL.length = ps.length) (hst : St = argsL.reverse ++ .ref a :: rest) (hW : (rest.map fun v => v.category).sum ≤ W) (hsz : Ls.size = ML) (hc : cells + kc ≤ R.cells) (hs : slots + ks ≤ R.slots) (hy : y.cls ≠ "java/lang/invoke/MethodHandle" ∧ y.cls ≠ "java/lang/invoke/VarHandle")
    (k : ∀ (v : Option Value) (T' : State) (h' : Heap), Cx p l e R s m args below meth c B ML Z own n0 (some EL) T' h' ws (cells + kc) (slots + ks) → Keep h h' wsC → QQ v h' → (∀ z, h.size ≤ z → z < h'.size → Cx p l e R s m args below meth c B ML Z own n0 (some EL) T' h' (z :: ws) (cells + kc) (slots + ks)) → Go p e below F T' (mkF m pc' Ls (v.toList ++ rest))) : Go p e below F T (mkF m pc Ls St) := by
  have K0 := K
  obtain ⟨⟨hx, hby, hml⟩, eT, hn0, s1, locs, X, hZ, hown, N, J, Wq⟩ := K
  obtain ⟨hd, rfl⟩ := hd
  obtain ⟨vm0, k0, a1, rfl, j2, j3, j4, j5⟩ := J
  obtain ⟨v, vm1, Bp, -, X', S2, -, ⟨⟨L, ⟨q1, q2, q3⟩, b1, b2, b3⟩, C2, SF⟩, st⟩ := X.specialBackS hx hy1 hown (mvT hZ w1) (mvT hZ w2) (mvT hZ w4) hy (hC s vm0 a1 hZ j5 j4.1 (fun x hx => (Wq x (hws x hx)).2)) (g := mkF m pc Ls St) rfl (by rw [hml]; exact hsz) (Steps.refl _) (lenOf hpd hpl) hst (by show 2 * 0 + _ ≤ _; omega) (hb hby hd) (fun _ _ => ⟨rfl, eT, hc, hs⟩)
  refine (k v Bp.U Bp.U.heap (K0.backW X' hZ hown N j2 j3 j4 j5 Wq S2 q2 q3 b1 b2 b3 C2) q2 q1 (fun z z1 z2 => ?_)).tr st
  obtain ⟨U, lo, ce, sl⟩ := Bp
  dsimp only [Pt.U, Pt.locs, Pt.cells, Pt.slots] at *
  subst b1 b2 b3
  refine ⟨K0.1, rfl, Nat.le_trans K0.2.2.1 q2.1, s.setVm U.vm, _, X', State.Warmed39.trans (t := s.setVm vm0) hZ S2.1, ?_, Fr.app N q3, ⟨U.vm, U.heap.size, a1, rfl, j2.trans S2 (Nat.le_trans j3 q2.1), Nat.le_refl _, j4.trans C2, j5⟩, fun x hx => ?_⟩
  · show U.vm.findClass own = _
    rw [S2.1.alike.findClass]; exact hown
  · rcases List.mem_cons.mp hx with rfl | hx
    · exact ⟨Nat.le_trans hn0 z1, z2, SF x z1 z2⟩
    · exact ⟨(Wq x hx).1, Nat.lt_of_lt_of_le (Wq x hx).2.1 q2.1, C2.safe (Wq x hx).2.1 (Wq x hx).2.2⟩
theorem Ext.kpL {h h' h2 : Heap} {x y : Addr} (A : Ext h h') (B : Keep h' h2 [x, y]) (q : h.size ≤ x) (r : h.size ≤ y) : Ext h h2 := Ext.kp A B (allS q (allS r all0))

end Kit
end Jvm.OwnKit

/- laws to paste: Road.backV, Road.chN, Road.lenW, Road.codOf (cut by pick.py; bodies as the Statement names them) -/
namespace Jvm.Pilot.@@N@@
namespace StrChars
open Jvm Sem ClassFile Op Lib Jvm.Stand Jvm.Free.XT Jvm.Free.ALB Jvm.Free.JM Jvm.Free
open Jvm.Lib.Cold (StaticIs)
/-- a char array whose places are chars -/
def Ch (a : Addr) (A : Cell) (U : State) : Prop := Arr .char a A U ∧ Typed .char A
theorem Ch.mv {a : Addr} {A : Cell} {U U' : State} (h : Ch a A U) (hal : U.vm.Alike U'.vm) (hh : U'.heap = U.heap) : Ch a A U' := ⟨h.1.mv hal hh, h.2⟩
theorem Ch.keep {a : Addr} {A : Cell} {U U' : State} (h : Ch a A U) (hal : U.vm.Alike U'.vm) (hk : U'.heap[a]? = some A) : Ch a A U' := ⟨h.1.keep hal hk, h.2⟩
/-- what place i of a char[]'s cell holds -/
def cv (A : Cell) (i : Nat) : Int32 := match A.slots[i]? with | some (.int x) => x | _ => 0
theorem Ch.get {a : Addr} {A : Cell} {U : State} (h : Ch a A U) {i : Nat} (hi : i < A.slots.size) : A.slots[i]? = some (.int (cv A i)) := by
  have e := Array.getElem?_eq_getElem hi
  have f := h.2 i _ e
  unfold cv; rw [e]
  generalize A.slots[i] = v at f
  cases v <;> simp [fits] at f ⊢
/-- the byte that i2b leaves of a char -/
def lo8 (x : Int32) : Int32 := x.toInt8.toInt32
theorem fits_lo8 (y : Int32) : fits .byte (.int (lo8 y)) = true := by
  have h1 := y.toInt8.le_toInt
  have h2 := y.toInt8.toInt_lt
  simp only [lo8, fits, Bool.and_eq_true, decide_eq_true_eq, Int32.le_iff_toInt_le, Int8.toInt_toInt32, show (-128 : Int32).toInt = -128 from by decide, show (127 : Int32).toInt = 127 from by decide]
  omega
/-- A' is A but that each place j of lo .. hi - 1 holds f j -/
def Laid (A A' : Cell) (lo hi : Nat) (f : Nat → Value) : Prop := A'.cls = A.cls ∧ A'.vm = A.vm ∧ A'.slots.size = A.slots.size ∧ ∀ i, A'.slots[i]? = if lo ≤ i ∧ i < hi then some (f i) else A.slots[i]?
theorem Laid.zero (A : Cell) (lo : Nat) (f : Nat → Value) : Laid A A lo (lo + 0) f := ⟨rfl, rfl, rfl, fun i => by rw [if_neg (by omega)]⟩
theorem Laid.step {A Ak : Cell} {lo k : Nat} {f : Nat → Value} {v : Value} (h : Laid A Ak lo k f) (hlo : lo ≤ k) (hk : k < Ak.slots.size) (hv : v = f k) : Laid A (Ak.setSlot k v) lo (k + 1) f := by
  refine ⟨h.1, h.2.1, by simpa [Cell.setSlot] using h.2.2.1, fun i => ?_⟩
  by_cases e : k = i
  · subst e; rw [Cell.slots_setSlot_self v hk, if_pos (by omega), hv]
  · rw [Cell.slots_setSlot_ne v e, h.2.2.2 i]
    by_cases q : lo ≤ i ∧ i < k
    · rw [if_pos q, if_pos (by omega)]
    · rw [if_neg q, if_neg (by omega)]
def U16 : String := "java/lang/StringUTF16"
namespace Cmp5
def yN : MethodName := ⟨"java/lang/StringUTF16", "compress", "([CI[BII)I"⟩
abbrev yB : ByteArray := jdk_52_method_21_code
theorem d0 : decode yB 0 = .ok (.iconst 0, 1) := by decide +kernel
theorem d1 : decode yB 1 = .ok (.istore 5, 2) := by decide +kernel
theorem d3 : decode yB 3 = .ok (.iload 5, 2) := by decide +kernel
theorem d5 : decode yB 5 = .ok (.iload 4, 2) := by decide +kernel
theorem d7 : decode yB 7 = .ok (.if_icmp (.ge) 37, 3) := by decide +kernel
theorem d10 : decode yB 10 = .ok (.aload_n 0, 1) := by decide +kernel
theorem d11 : decode yB 11 = .ok (.iload_n 1, 1) := by decide +kernel
theorem d12 : decode yB 12 = .ok (.caload, 1) := by decide +kernel
theorem d13 : decode yB 13 = .ok (.istore 6, 2) := by decide +kernel
theorem d15 : decode yB 15 = .ok (.iload 6, 2) := by decide +kernel
theorem d17 : decode yB 17 = .ok (.sipush 255, 3) := by decide +kernel
theorem d20 : decode yB 20 = .ok (.if_icmp (.le) 6, 3) := by decide +kernel
theorem d26 : decode yB 26 = .ok (.aload_n 2, 1) := by decide +kernel
theorem d27 : decode yB 27 = .ok (.iload_n 3, 1) := by decide +kernel
theorem d28 : decode yB 28 = .ok (.iload 6, 2) := by decide +kernel
theorem d30 : decode yB 30 = .ok (.i2b, 1) := by decide +kernel
theorem d31 : decode yB 31 = .ok (.bastore, 1) := by decide +kernel
theorem d32 : decode yB 32 = .ok (.iinc 1 1, 3) := by decide +kernel
theorem d35 : decode yB 35 = .ok (.iinc 3 1, 3) := by decide +kernel
theorem d38 : decode yB 38 = .ok (.iinc 5 1, 3) := by decide +kernel
theorem d41 : decode yB 41 = .ok (.goto (-38), 3) := by decide +kernel
theorem d44 : decode yB 44 = .ok (.iload 4, 2) := by decide +kernel
theorem d46 : decode yB 46 = .ok (.ireturn, 1) := by decide +kernel
def site : List Cond := []
def tab : Cond := tabOf yN yB 7 (some .int) site
def P (b : Addr) (A : Cell) (d : Addr) (B : Cell) (o q len : Nat) (args : Array Value) (s : State) : Prop := args = #[.ref b, .int (Int32.ofNat o), .ref d, .int (Int32.ofNat q), .int (Int32.ofNat len)] ∧ Ch b A s ∧ Arr .byte d B s ∧ b ≠ d ∧ o + len ≤ A.slots.size ∧ q + len ≤ B.slots.size ∧ ∀ i, i < len → ¬ 255 < cv A (o + i)
def E (b : Addr) (A : Cell) (d : Addr) (B : Cell) (o q len : Nat) (r : Option Value) (s u : State) : Prop := r = some (.int (Int32.ofNat len)) ∧ ∃ B', Put d B' s u ∧ Laid B B' q (q + len) (fun j => Value.int (lo8 (cv A (o + (j - q)))))
/-- no char of the range above 255: len; the places written hold each char's low byte -/
theorem law (l : Launch) (b : Addr) (A : Cell) (d : Addr) (B : Cell) (o q len : Nat) : Law l yN 5 5 0 0 yB 7 (some .int) site (P b A d B o q len) (E b A d B o q len) (copyLocs d q len) 0 0 := by
  refine Law.of_walk (plainFor_of_name (by decide +kernel)) (by decide +kernel) (by decide +kernel) (by decide) (fun _ _ h => by rw [h.1]; rfl) (fun _ U U' hal hh h => ⟨h.1, h.2.1.mv hal hh, h.2.2.1.mv hal hh, h.2.2.2⟩) (fun r U U' V V' h1 hal h2 h => ⟨h.1, h.2.elim fun B' q => ⟨B', q.1.mv h1 h2, q.2⟩⟩) ?_
  intro p e s m args below meth c s₁ X0 hexec hbytes hml hret hlk hnm hown hh0 W hP
  obtain ⟨rfl, hA, hB, hne, l1, l2, hp⟩ := hP
  have c1 : Steps p.tables e below (s₁.setTop (entryFrame m #[.ref b, .int (Int32.ofNat o), .ref d, .int (Int32.ofNat q), .int (Int32.ofNat len)] 7)) (s₁.setTop (mkF m 0 #[.val (.ref b), .val (.int (Int32.ofNat o)), .val (.ref d), .val (.int (Int32.ofNat q)), .val (.int (Int32.ofNat len)), .unset, .unset] [])) := entry rfl
  have hA0 := hA.1.mv X0.warmed.alike hh0
  have hB0 := hB.mv X0.warmed.alike hh0
  have a31 := hA.1.2.2.2
  have c2 : Steps p.tables e below (s₁.setTop (entryFrame m #[.ref b, .int (Int32.ofNat o), .ref d, .int (Int32.ofNat q), .int (Int32.ofNat len)] 7)) (s₁.setTop (mkF m 3 #[.val (.ref b), .val (.int (Int32.ofNat o)), .val (.ref d), .val (.int (Int32.ofNat q)), .val (.int (Int32.ofNat len)), .val (.int 0), .unset] [])) := c1.trans (by
    refine iconstV X0.here hexec rfl 0 (hb hbytes d0) (by decide) ?_
    refine XS.istore X0.here hexec rfl (hb hbytes d1) rfl rfl ?_
    exact Steps.refl _)
  have loop : ∀ (r i : Nat), i + r = len → ∀ (z : Slot), (z = .unset ∨ ∃ w, z = .val w ∧ w.category = 1) → ∀ (Tl : State) (Bk : Cell), Stand p l e { frames := 0, locals := 0, cells := 0, slots := 0 } s m #[.ref b, .int (Int32.ofNat o), .ref d, .int (Int32.ofNat q), .int (Int32.ofNat len)] below meth c Tl ([] ++ copyLocs d q i) 0 0 → Put d Bk s₁ Tl → Laid B Bk q (q + i) (fun j => Value.int (lo8 (cv A (o + (j - q))))) →
      Steps p.tables e below (s₁.setTop (entryFrame m #[.ref b, .int (Int32.ofNat o), .ref d, .int (Int32.ofNat q), .int (Int32.ofNat len)] 7)) (Tl.setTop (mkF m 3 #[.val (.ref b), .val (.int (Int32.ofNat (o + i))), .val (.ref d), .val (.int (Int32.ofNat (q + i))), .val (.int (Int32.ofNat len)), .val (.int (Int32.ofNat i)), z] [])) → ∃ (T' : State) (B' : Cell) (z' : Slot), Stand p l e { frames := 0, locals := 0, cells := 0, slots := 0 } s m #[.ref b, .int (Int32.ofNat o), .ref d, .int (Int32.ofNat q), .int (Int32.ofNat len)] below meth c T' ([] ++ copyLocs d q len) 0 0 ∧ Put d B' s₁ T' ∧ Laid B B' q (q + len) (fun j => Value.int (lo8 (cv A (o + (j - q))))) ∧
      Steps p.tables e below (s₁.setTop (entryFrame m #[.ref b, .int (Int32.ofNat o), .ref d, .int (Int32.ofNat q), .int (Int32.ofNat len)] 7)) (T'.setTop (mkF m 3 #[.val (.ref b), .val (.int (Int32.ofNat (o + len))), .val (.ref d), .val (.int (Int32.ofNat (q + len))), .val (.int (Int32.ofNat len)), .val (.int (Int32.ofNat len)), z'] [])) := by
    intro r
    induction r with
    | zero =>
      intro i hi z hz Tl Bk Xl pl fl cl
      have hil : i = len := by omega
      rw [hil] at Xl fl cl
      exact ⟨Tl, Bk, z, Xl, pl, fl, cl⟩
    | succ r ih =>
      intro i hi z hz Tl Bk Xl pl fl cl
      have all := X0.warmed.alike.symm.trans Xl.warmed.alike
      have hAl := hA0.keep all (pl.other hne hA0.1)
      have hBk := hB0.like all pl.1 fl.1 fl.2.1 fl.2.2.1
      have hlt : q + i < Bk.slots.size := by rw [fl.2.2.1]; omega
      have c3 : Steps p.tables e below (s₁.setTop (entryFrame m #[.ref b, .int (Int32.ofNat o), .ref d, .int (Int32.ofNat q), .int (Int32.ofNat len)] 7)) (Tl.setTop (mkF m 12 #[.val (.ref b), .val (.int (Int32.ofNat (o + i))), .val (.ref d), .val (.int (Int32.ofNat (q + i))), .val (.int (Int32.ofNat len)), .val (.int (Int32.ofNat i)), z] [.int (Int32.ofNat (o + i)), .ref b])) := cl.trans (by
        refine XS.iload Xl.here hexec rfl (hb hbytes d3) rfl ?_
        refine XS.iload Xl.here hexec rfl (hb hbytes d5) rfl ?_
        refine XS.icmpNo Xl.here hexec rfl (hb hbytes d7) rfl (ii_ge_f (lt32 (by omega) (by omega))) ?_
        refine XS.aloadN Xl.here hexec rfl (hb hbytes d10) rfl rfl ?_
        refine XS.iloadN Xl.here hexec rfl (hb hbytes d11) rfl ?_
        exact Steps.refl _)
      have c4 : Steps p.tables e below (s₁.setTop (entryFrame m #[.ref b, .int (Int32.ofNat o), .ref d, .int (Int32.ofNat q), .int (Int32.ofNat len)] 7)) (Tl.setTop (mkF m 13 #[.val (.ref b), .val (.int (Int32.ofNat (o + i))), .val (.ref d), .val (.int (Int32.ofNat (q + i))), .val (.int (Int32.ofNat len)), .val (.int (Int32.ofNat i)), z] [.int (cv A (o + i))])) := c3.trans (by
        refine Xl.aget hexec hAl rfl (hA.get (i := o + i) (by omega)) rfl rfl (hb hbytes d12) ?_
        exact Steps.refl _)
      have c5 : Steps p.tables e below (s₁.setTop (entryFrame m #[.ref b, .int (Int32.ofNat o), .ref d, .int (Int32.ofNat q), .int (Int32.ofNat len)] 7)) (Tl.setTop (mkF m 15 #[.val (.ref b), .val (.int (Int32.ofNat (o + i))), .val (.ref d), .val (.int (Int32.ofNat (q + i))), .val (.int (Int32.ofNat len)), .val (.int (Int32.ofNat i)), .val (.int (cv A (o + i)))] [])) := c4.trans (by
        refine XS.istoreS Xl.here hexec rfl (hb hbytes d13) rfl rfl hz ?_
        exact Steps.refl _)
      have c6 : Steps p.tables e below (s₁.setTop (entryFrame m #[.ref b, .int (Int32.ofNat o), .ref d, .int (Int32.ofNat q), .int (Int32.ofNat len)] 7)) (Tl.setTop (mkF m 31 #[.val (.ref b), .val (.int (Int32.ofNat (o + i))), .val (.ref d), .val (.int (Int32.ofNat (q + i))), .val (.int (Int32.ofNat len)), .val (.int (Int32.ofNat i)), .val (.int (cv A (o + i)))] [.int (lo8 (cv A (o + i))), .int (Int32.ofNat (q + i)), .ref d])) := c5.trans (by
        refine XS.iload Xl.here hexec rfl (hb hbytes d15) rfl ?_
        refine sipushV Xl.here hexec rfl 255 (hb hbytes d17) (by decide) ?_
        refine XS.icmpYes Xl.here hexec rfl (pc0 := 20) rfl (hb hbytes d20) rfl (ii_le_t (hp i (by omega))) (by decide) rfl ?_
        refine XS.aloadN Xl.here hexec rfl (hb hbytes d26) rfl rfl ?_
        refine XS.iloadN Xl.here hexec rfl (hb hbytes d27) rfl ?_
        refine XS.iload Xl.here hexec rfl (hb hbytes d28) rfl ?_
        refine i2b Xl.here hexec rfl (hb hbytes d30) rfl ?_
        exact Steps.refl _)
      obtain ⟨T7, X7, p7, st7⟩ := Xl.aput hexec hBk rfl hlt rfl (fits_lo8 (cv A (o + i))) (g := (mkF m 31 #[.val (.ref b), .val (.int (Int32.ofNat (o + i))), .val (.ref d), .val (.int (Int32.ofNat (q + i))), .val (.int (Int32.ofNat len)), .val (.int (Int32.ofNat i)), .val (.int (cv A (o + i)))] [.int (lo8 (cv A (o + i))), .int (Int32.ofNat (q + i)), .ref d])) rfl (rest := []) rfl (hb hbytes d31)
      have c8 : Steps p.tables e below (s₁.setTop (entryFrame m #[.ref b, .int (Int32.ofNat o), .ref d, .int (Int32.ofNat q), .int (Int32.ofNat len)] 7)) (T7.setTop (mkF m 32 #[.val (.ref b), .val (.int (Int32.ofNat (o + i))), .val (.ref d), .val (.int (Int32.ofNat (q + i))), .val (.int (Int32.ofNat len)), .val (.int (Int32.ofNat i)), .val (.int (cv A (o + i)))] [])) := c6.trans (st7 _ (Steps.refl _))
      have c9 : Steps p.tables e below (s₁.setTop (entryFrame m #[.ref b, .int (Int32.ofNat o), .ref d, .int (Int32.ofNat q), .int (Int32.ofNat len)] 7)) (T7.setTop (mkF m 3 #[.val (.ref b), .val (.int (Int32.ofNat (o + i) + 1)), .val (.ref d), .val (.int (Int32.ofNat (q + i) + 1)), .val (.int (Int32.ofNat len)), .val (.int (Int32.ofNat i + 1)), .val (.int (cv A (o + i)))] [])) := c8.trans (by
        refine iincV X7.here hexec rfl 1 (hb hbytes d32) (by decide) rfl rfl ?_
        refine iincV X7.here hexec rfl 1 (hb hbytes d35) (by decide) rfl rfl ?_
        refine iincV X7.here hexec rfl 1 (hb hbytes d38) (by decide) rfl rfl ?_
        refine XS.goto X7.here hexec rfl (pc0 := 41) rfl (hb hbytes d41) (by decide) rfl ?_
        exact Steps.refl _)
      have c10 : Steps p.tables e below (s₁.setTop (entryFrame m #[.ref b, .int (Int32.ofNat o), .ref d, .int (Int32.ofNat q), .int (Int32.ofNat len)] 7)) (T7.setTop (mkF m 3 #[.val (.ref b), .val (.int (Int32.ofNat (o + (i + 1)))), .val (.ref d), .val (.int (Int32.ofNat (q + (i + 1)))), .val (.int (Int32.ofNat len)), .val (.int (Int32.ofNat (i + 1))), .val (.int (cv A (o + i)))] [])) := by
        have := c9
        rw [succ32, succ32, succ32] at this
        exact this
      exact ih (i + 1) (by omega) _ (Or.inr ⟨_, rfl, rfl⟩) T7 _ (by rw [copyLocs_step, ← List.append_assoc]; exact X7) (pl.trans p7) (fl.step (by omega) hlt (by simp)) c10
  obtain ⟨T9, B9, z9, X9, p9, f9, g9⟩ := loop len 0 (by omega) .unset (Or.inl rfl) s₁ B (by simpa [copyLocs] using X0) ⟨hB0.1, fun _ _ => rfl, rfl⟩ (Laid.zero _ _ _) c2
  have c11 : Steps p.tables e below (s₁.setTop (entryFrame m #[.ref b, .int (Int32.ofNat o), .ref d, .int (Int32.ofNat q), .int (Int32.ofNat len)] 7)) (T9.setTop (mkF m 46 #[.val (.ref b), .val (.int (Int32.ofNat (o + len))), .val (.ref d), .val (.int (Int32.ofNat (q + len))), .val (.int (Int32.ofNat len)), .val (.int (Int32.ofNat len)), z9] [.int (Int32.ofNat len)])) := g9.trans (by
    refine XS.iload X9.here hexec rfl (hb hbytes d3) rfl ?_
    refine XS.iload X9.here hexec rfl (hb hbytes d5) rfl ?_
    refine XS.icmpYes X9.here hexec rfl (pc0 := 7) rfl (hb hbytes d7) rfl (ii_ge_t (nlt32 (by omega) (Nat.le_refl _))) (by decide) rfl ?_
    refine XS.iload X9.here hexec rfl (hb hbytes d44) rfl ?_
    exact Steps.refl _)
  exact ⟨T9, some (.int (Int32.ofNat len)), _, _, _, X9, by simp, rfl, rfl, (fun h => by cases h), ⟨rfl, B9, p9.from hh0, f9⟩, fun fs hl => c11.trans (X9.ireturnOut hexec hret rfl (Or.inl rfl) (hb hbytes d46) hl)⟩
end Cmp5
namespace Cmp3
def yN : MethodName := ⟨"java/lang/StringUTF16", "compress", "([CII)[B"⟩
abbrev yB : ByteArray := jdk_52_method_16_code
theorem d0 : decode yB 0 = .ok (.iload_n 2, 1) := by decide +kernel
theorem d1 : decode yB 1 = .ok (.newarray .byte, 2) := by decide +kernel
theorem d3 : decode yB 3 = .ok (.astore_n 3, 1) := by decide +kernel
theorem d4 : decode yB 4 = .ok (.aload_n 0, 1) := by decide +kernel
theorem d5 : decode yB 5 = .ok (.iload_n 1, 1) := by decide +kernel
theorem d6 : decode yB 6 = .ok (.aload_n 3, 1) := by decide +kernel
theorem d7 : decode yB 7 = .ok (.iconst 0, 1) := by decide +kernel
theorem d8 : decode yB 8 = .ok (.iload_n 2, 1) := by decide +kernel
theorem d9 : decode yB 9 = .ok (.invokestatic 115, 3) := by decide +kernel
theorem d12 : decode yB 12 = .ok (.istore 4, 2) := by decide +kernel
theorem d14 : decode yB 14 = .ok (.iload 4, 2) := by decide +kernel
theorem d16 : decode yB 16 = .ok (.iload_n 2, 1) := by decide +kernel
theorem d17 : decode yB 17 = .ok (.if_icmp (.eq) 40, 3) := by decide +kernel
theorem d57 : decode yB 57 = .ok (.aload_n 3, 1) := by decide +kernel
theorem d58 : decode yB 58 = .ok (.areturn, 1) := by decide +kernel
def site : List Cond := [.arrayClass .byte, Cmp5.tab] ++ staticW U16 115 Cmp5.yN
def tab : Cond := tabOf yN yB 6 (some (.array .byte)) site
def P (b : Addr) (A : Cell) (o len : Nat) (args : Array Value) (s : State) : Prop := args = #[.ref b, .int (Int32.ofNat o), .int (Int32.ofNat len)] ∧ Ch b A s ∧ o + len ≤ A.slots.size ∧ len ≤ 536870912 ∧ ∀ i, i < len → ¬ 255 < cv A (o + i)
def E (b : Addr) (A : Cell) (o len : Nat) (r : Option Value) (s u : State) : Prop := NewArr .byte "[B" len (fun j => .int (lo8 (cv A (o + j)))) r s u ∧ u.heap.size = s.heap.size + 1
/-- no char of the range above 255: a new byte[] of their low bytes -/
theorem law (l : Launch) (b : Addr) (A : Cell) (o len : Nat) : Law l yN 3 3 1 18 yB 6 (some (.array .byte)) site (P b A o len) (E b A o len) [] 1 len := by
  refine Law.of_walk (plainFor_of_name (by decide +kernel)) (by decide +kernel) (by decide +kernel) (by decide) (fun _ _ h => by rw [h.1]; rfl) (fun _ U U' hal hh h => ⟨h.1, h.2.1.mv hal hh, h.2.2⟩) (fun r U U' V V' h1 hal h2 h => ⟨NewArr.mv r U U' V V' h1 hal h2 h.1, by rw [h1, h2]; exact h.2⟩) ?_
  intro p e s m args below meth c s₁ X0 hexec hbytes hml hret hlk hnm hown hh0 W hP
  obtain ⟨rfl, hA, l1, l2, hp⟩ := hP
  have a31 := hA.1.2.2.2
  have c1 : Steps p.tables e below (s₁.setTop (entryFrame m #[.ref b, .int (Int32.ofNat o), .int (Int32.ofNat len)] 6)) (s₁.setTop (mkF m 0 #[.val (.ref b), .val (.int (Int32.ofNat o)), .val (.int (Int32.ofNat len)), .unset, .unset, .unset] [])) := entry rfl
  have c2 : Steps p.tables e below (s₁.setTop (entryFrame m #[.ref b, .int (Int32.ofNat o), .int (Int32.ofNat len)] 6)) (s₁.setTop (mkF m 1 #[.val (.ref b), .val (.int (Int32.ofNat o)), .val (.int (Int32.ofNat len)), .unset, .unset, .unset] [.int (Int32.ofNat len)])) := c1.trans (by
    refine XS.iloadN X0.here hexec rfl (hb hbytes d0) rfl ?_
    exact Steps.refl _)
  obtain ⟨T3, B3, X3, ba3, bs3, bv3, bh3, bf3, st3⟩ := X0.anew hexec (atype := .byte) (wk W (.arrayClass .byte)) rfl (by show len * 1 ≤ _; omega) (by omega) (g := (mkF m 1 #[.val (.ref b), .val (.int (Int32.ofNat o)), .val (.int (Int32.ofNat len)), .unset, .unset, .unset] [.int (Int32.ofNat len)])) rfl (hb hbytes d1) (rest := []) rfl (Nat.le_refl _) (by show 0 + len ≤ len; omega)
  rw [hh0] at ba3 st3
  have kp3 : XT.Kept s T3 := (XT.Kept.of_eq hh0).push bh3
  have hA3 := hA.keep X3.warmed.alike (kp3 _ _ hA.1.1)
  have hne : b ≠ s.heap.size := hA.1.ne
  have c4 : Steps p.tables e below (s₁.setTop (entryFrame m #[.ref b, .int (Int32.ofNat o), .int (Int32.ofNat len)] 6)) (T3.setTop (mkF m 3 #[.val (.ref b), .val (.int (Int32.ofNat o)), .val (.int (Int32.ofNat len)), .unset, .unset, .unset] [.ref s.heap.size])) := c2.trans (st3 _ (Steps.refl _))
  have c5 : Steps p.tables e below (s₁.setTop (entryFrame m #[.ref b, .int (Int32.ofNat o), .int (Int32.ofNat len)] 6)) (T3.setTop (mkF m 9 #[.val (.ref b), .val (.int (Int32.ofNat o)), .val (.int (Int32.ofNat len)), .val (.ref s.heap.size), .unset, .unset] [.int (Int32.ofNat len), .int 0, .ref s.heap.size, .int (Int32.ofNat o), .ref b])) := c4.trans (by
    refine XS.astoreN X3.here hexec rfl (hb hbytes d3) rfl rfl rfl ?_
    refine XS.aloadN X3.here hexec rfl (hb hbytes d4) rfl rfl ?_
    refine XS.iloadN X3.here hexec rfl (hb hbytes d5) rfl ?_
    refine XS.aloadN X3.here hexec rfl (hb hbytes d6) rfl rfl ?_
    refine iconstV X3.here hexec rfl 0 (hb hbytes d7) (by decide) ?_
    refine XS.iloadN X3.here hexec rfl (hb hbytes d8) rfl ?_
    exact Steps.refl _)
  obtain ⟨v6, T6, X6, E6, g6⟩ := X3.callS hexec (Cmp5.law l b A s.heap.size B3 o 0 len) hown (wks W (staticW U16 115 Cmp5.yN)) (wk W Cmp5.tab) (W := 0) (Nat.le_of_ble_eq_true rfl) (Nat.le_of_ble_eq_true rfl) (Nat.le_refl _) (by show 0 + len + 0 ≤ len; omega) (g := (mkF m 9 #[.val (.ref b), .val (.int (Int32.ofNat o)), .val (.int (Int32.ofNat len)), .val (.ref s.heap.size), .unset, .unset] [.int (Int32.ofNat len), .int (Int32.ofNat 0), .ref s.heap.size, .int (Int32.ofNat o), .ref b])) rfl (by rw [hml]; rfl) c5 (argsL := [.ref b, .int (Int32.ofNat o), .ref s.heap.size, .int (Int32.ofNat 0), .int (Int32.ofNat len)]) (rest := []) rfl rfl (by show 2 * 0 + 0 ≤ _; decide) (hb hbytes d9) (⟨rfl, hA3, ba3, hne, l1, by rw [bs3]; simp, hp⟩)
  obtain ⟨rfl, B6, p6, f6⟩ := E6
  have c7 : Steps p.tables e below (s₁.setTop (entryFrame m #[.ref b, .int (Int32.ofNat o), .int (Int32.ofNat len)] 6)) (T6.setTop (mkF m 12 #[.val (.ref b), .val (.int (Int32.ofNat o)), .val (.int (Int32.ofNat len)), .val (.ref s.heap.size), .unset, .unset] [.int (Int32.ofNat len)])) := g6
  have c8 : Steps p.tables e below (s₁.setTop (entryFrame m #[.ref b, .int (Int32.ofNat o), .int (Int32.ofNat len)] 6)) (T6.setTop (mkF m 58 #[.val (.ref b), .val (.int (Int32.ofNat o)), .val (.int (Int32.ofNat len)), .val (.ref s.heap.size), .val (.int (Int32.ofNat len)), .unset] [.ref s.heap.size])) := c7.trans (by
    refine XS.istore X6.here hexec rfl (hb hbytes d12) rfl rfl ?_
    refine XS.iload X6.here hexec rfl (hb hbytes d14) rfl ?_
    refine XS.iloadN X6.here hexec rfl (hb hbytes d16) rfl ?_
    refine XS.icmpYes X6.here hexec rfl (pc0 := 17) rfl (hb hbytes d17) rfl (ii_eq_t rfl) (by decide) rfl ?_
    refine XS.aloadN X6.here hexec rfl (hb hbytes d57) rfl rfl ?_
    exact Steps.refl _)
  have X8 := X6.wide (L' := []) (cells' := 1) (slots' := len) (fun x hx hlt => by
    simp only [List.nil_append, copyLocs, List.mem_map, List.mem_range] at hx
    obtain ⟨i, -, rfl⟩ := hx
    exact absurd hlt (Nat.lt_irrefl _)) (Nat.le_refl _) (by omega)
  exact ⟨T6, some (.ref s.heap.size), _, _, _, X8, rfl, rfl, rfl, (fun h => by cases h), ⟨⟨rfl, B6, ba3.like (X3.warmed.alike.symm.trans X6.warmed.alike) p6.1 f6.1 f6.2.1 f6.2.2.1, f6.2.1.trans bv3, by rw [X6.warmed.alike.findClass, f6.1]; exact bf3, by rw [f6.2.2.1, bs3]; simp, fun j hj => by rw [f6.2.2.2 j, if_pos (by omega)]; rfl, kp3.put p6 (Nat.le_refl _)⟩, by rw [p6.2.2, bh3, hh0]; simp⟩, fun fs hl => c8.trans (X8.areturnOut hexec rfl hret rfl (hb hbytes d58) hl)⟩
end Cmp3
namespace CodL
def yN : MethodName := ⟨"java/lang/StringUTF16", "coderFromArrayLen", "([BI)B"⟩
abbrev yB : ByteArray := jdk_52_method_15_code
theorem d0 : decode yB 0 = .ok (.iload_n 1, 1) := by decide +kernel
theorem d1 : decode yB 1 = .ok (.aload_n 0, 1) := by decide +kernel
theorem d2 : decode yB 2 = .ok (.arraylength, 1) := by decide +kernel
theorem d3 : decode yB 3 = .ok (.isub, 1) := by decide +kernel
theorem d4 : decode yB 4 = .ok (.bipush 31, 2) := by decide +kernel
theorem d6 : decode yB 6 = .ok (.iushr, 1) := by decide +kernel
theorem d7 : decode yB 7 = .ok (.i2b, 1) := by decide +kernel
theorem d8 : decode yB 8 = .ok (.ireturn, 1) := by decide +kernel
def site : List Cond := []
def tab : Cond := tabOf yN yB 2 (some .byte) site
def P (d : Addr) (B : Cell) (args : Array Value) (s : State) : Prop := args = #[.ref d, .int (Int32.ofNat B.slots.size)] ∧ Arr .byte d B s
def E (r : Option Value) (s u : State) : Prop := XT.PureE (some (.int 0)) r s u
/-- an array as long as the number of chars: LATIN1 -/
theorem law (l : Launch) (d : Addr) (B : Cell) : Law l yN 2 2 0 0 yB 2 (some .byte) site (P d B) E [] 0 0 := by
  refine Law.of_walk (plainFor_of_name (by decide +kernel)) (by decide +kernel) (by decide +kernel) (by decide) (fun _ _ h => by rw [h.1]; rfl) (fun _ U U' hal hh h => ⟨h.1, h.2.mv hal hh⟩) (fun r U U' V V' h1 hal h2 h => XT.PureE.mv r U U' V V' h1 hal h2 h) ?_
  intro p e s m args below meth c s₁ X0 hexec hbytes hml hret hlk hnm hown hh0 W hP
  obtain ⟨rfl, hB⟩ := hP
  have hB0 := hB.mv X0.warmed.alike hh0
  have c1 : Steps p.tables e below (s₁.setTop (entryFrame m #[.ref d, .int (Int32.ofNat B.slots.size)] 2)) (s₁.setTop (mkF m 0 #[.val (.ref d), .val (.int (Int32.ofNat B.slots.size))] [])) := entry rfl
  have c2 : Steps p.tables e below (s₁.setTop (entryFrame m #[.ref d, .int (Int32.ofNat B.slots.size)] 2)) (s₁.setTop (mkF m 2 #[.val (.ref d), .val (.int (Int32.ofNat B.slots.size))] [.ref d, .int (Int32.ofNat B.slots.size)])) := c1.trans (by
    refine XS.iloadN X0.here hexec rfl (hb hbytes d0) rfl ?_
    refine XS.aloadN X0.here hexec rfl (hb hbytes d1) rfl rfl ?_
    exact Steps.refl _)
  have c3 : Steps p.tables e below (s₁.setTop (entryFrame m #[.ref d, .int (Int32.ofNat B.slots.size)] 2)) (s₁.setTop (mkF m 8 #[.val (.ref d), .val (.int (Int32.ofNat B.slots.size))] [.int (lo8 (ushr (Int32.ofNat B.slots.size - Int32.ofNat B.slots.size) 31))])) := c2.trans (by
    refine X0.alen hexec hB0 rfl rfl (hb hbytes d2) ?_
    refine XS.isub X0.here hexec rfl (hb hbytes d3) rfl ?_
    refine bipushV X0.here hexec rfl 31 (hb hbytes d4) (by decide) ?_
    refine iushr X0.here hexec rfl (hb hbytes d6) rfl ?_
    refine i2b X0.here hexec rfl (hb hbytes d7) rfl ?_
    exact Steps.refl _)
  have e0 : lo8 (ushr (Int32.ofNat B.slots.size - Int32.ofNat B.slots.size) 31) = 0 := by rw [Int32.sub_self]; decide
  rw [e0] at c3
  exact ⟨s₁, some (.int 0), _, _, _, X0, rfl, rfl, rfl, (fun h => by cases h), ⟨rfl, hh0⟩, fun fs hl => c3.trans (X0.ireturnOut hexec hret rfl (Or.inr (Or.inr (Or.inl rfl))) (hb hbytes d8) hl)⟩
end CodL
/-- the String at a is Latin-1 over a new byte[] (the heap's one new cell): the low bytes of the len chars of A from o on; every cell but a is kept -/
def Got (a : Addr) (D : Cell) (fV fC : Field) (A : Cell) (o len : Nat) (r : Option Value) (s u : State) : Prop := r = none ∧ ∃ D' V : Cell, Blank "java/lang/String" a D' u ∧ Same D D' [fV.slot, fC.slot] ∧ D'.slots[fV.slot]? = some (.ref s.heap.size) ∧ D'.slots[fC.slot]? = some (.int 0) ∧ Arr .byte s.heap.size V u ∧ V.vm = .none ∧ u.vm.findClass "[B" = some V.cls ∧ V.slots.size = len ∧ (∀ j, j < len → V.slots[j]? = some (.int (lo8 (cv A (o + j))))) ∧ (∀ (y : Addr) (c : Cell), y ≠ a → s.heap[y]? = some c → u.heap[y]? = some c) ∧ u.heap.size = s.heap.size + 1
theorem Got.mv {a : Addr} {D A : Cell} {fV fC : Field} {o len : Nat} : ∀ r (U U' V V' : State), U'.heap = U.heap → V.vm.Alike V'.vm → V'.heap = V.heap → Got a D fV fC A o len r U V → Got a D fV fC A o len r U' V' :=
  fun r U U' V V' h1 hal h2 ⟨e0, D', X, a1, a2, a3, a4, a5, a6, a7, a8, a9, a10, a11⟩ => ⟨e0, D', X, a1.mv hal h2, a2, by rw [h1]; exact a3, a4, by rw [h1]; exact a5.mv hal h2, a6, by rw [hal.findClass]; exact a7, a8, a9, by rw [h1, h2]; exact a10, by rw [h1, h2]; exact a11⟩
namespace New4
def yN : MethodName := ⟨"java/lang/String", "<init>", "([CIILjava/lang/Void;)V"⟩
abbrev yB : ByteArray := jdk_42_method_149_code
theorem d0 : decode yB 0 = .ok (.aload_n 0, 1) := by decide +kernel
theorem d1 : decode yB 1 = .ok (.invokespecial 1, 3) := by decide +kernel
theorem d4 : decode yB 4 = .ok (.iload_n 3, 1) := by decide +kernel
theorem d5 : decode yB 5 = .ok (.ifCond (.ne) 22, 3) := by decide +kernel
theorem d27 : decode yB 27 = .ok (.getstatic 38, 3) := by decide +kernel
theorem d30 : decode yB 30 = .ok (.ifCond (.eq) 28, 3) := by decide +kernel
theorem d33 : decode yB 33 = .ok (.aload_n 1, 1) := by decide +kernel
theorem d34 : decode yB 34 = .ok (.iload_n 2, 1) := by decide +kernel
theorem d35 : decode yB 35 = .ok (.iload_n 3, 1) := by decide +kernel
theorem d36 : decode yB 36 = .ok (.invokestatic 177, 3) := by decide +kernel
theorem d39 : decode yB 39 = .ok (.astore 5, 2) := by decide +kernel
theorem d41 : decode yB 41 = .ok (.aload_n 0, 1) := by decide +kernel
theorem d42 : decode yB 42 = .ok (.aload 5, 2) := by decide +kernel
theorem d44 : decode yB 44 = .ok (.iload_n 3, 1) := by decide +kernel
theorem d45 : decode yB 45 = .ok (.invokestatic 47, 3) := by decide +kernel
theorem d48 : decode yB 48 = .ok (.putfield 15, 3) := by decide +kernel
theorem d51 : decode yB 51 = .ok (.aload_n 0, 1) := by decide +kernel
theorem d52 : decode yB 52 = .ok (.aload 5, 2) := by decide +kernel
theorem d54 : decode yB 54 = .ok (.putfield 9, 3) := by decide +kernel
theorem d57 : decode yB 57 = .ok (.return_, 1) := by decide +kernel
def site : List Cond := [.fieldLink "java/lang/String" 38 "java/lang/String" "COMPACT_STRINGS" "Z", Cmp3.tab, CodL.tab, .laysFinal "java/lang/String" "java/lang/String" "value" "[B", .fieldLink "java/lang/String" 9 "java/lang/String" "value" "[B", .laysFinal "java/lang/String" "java/lang/String" "coder" "B", .fieldLink "java/lang/String" 15 "java/lang/String" "coder" "B"] ++ objW "java/lang/String" 1 ++ staticW "java/lang/String" 177 Cmp3.yN ++ staticW "java/lang/String" 47 CodL.yN
def tab : Cond := tabOf yN yB 6 none site
def P (a : Addr) (D : Cell) (fV fC : Field) (b : Addr) (A : Cell) (z : Int32) (o len : Nat) (args : Array Value) (s : State) : Prop := args = #[.ref a, .ref b, .int (Int32.ofNat o), .int (Int32.ofNat len), .null] ∧ Blank "java/lang/String" a D s ∧ Found "java/lang/String" "value" "[B" fV s ∧ Found "java/lang/String" "coder" "B" fC s ∧ Ch b A s ∧ StaticIs s "java/lang/String" "COMPACT_STRINGS" "Z" (.int z) ∧ ¬ z = 0 ∧ 0 < len ∧ o + len ≤ A.slots.size ∧ len ≤ 536870912 ∧ ∀ i, i < len → ¬ 255 < cv A (o + i)
def E (a : Addr) (D : Cell) (fV fC : Field) (A : Cell) (o len : Nat) (r : Option Value) (s u : State) : Prop := Got a D fV fC A o len r s u
/-- len > 0, no char of the range above 255: a Latin-1 String of their low bytes -/
theorem law (l : Launch) (a : Addr) (D : Cell) (fV fC : Field) (b : Addr) (A : Cell) (z : Int32) (o len : Nat) : Law l yN 5 4 2 35 yB 6 none site (P a D fV fC b A z o len) (E a D fV fC A o len) [⟨a, fC.slot⟩, ⟨a, fV.slot⟩] 1 len := by
  refine Law.of_walk (plainFor_of_name (by decide +kernel)) (by decide +kernel) (by decide +kernel) (by decide) (fun _ _ h => by rw [h.1]; rfl) (fun _ U U' hal hh h => ⟨h.1, h.2.1.mv hal hh, h.2.2.1.al hal, h.2.2.2.1.al hal, h.2.2.2.2.1.mv hal hh, h.2.2.2.2.2.1.there hal hh, h.2.2.2.2.2.2⟩) (fun r U U' V V' h1 hal h2 h => Got.mv r U U' V V' h1 hal h2 h) ?_
  intro p e s m args below meth c s₁ X0 hexec hbytes hml hret hlk hnm hown hh0 W hP
  obtain ⟨rfl, hB, f1, f2, hA, s1, hz, l0, l1, l2, hp⟩ := hP
  have a31 := hA.1.2.2.2
  have c1 : Steps p.tables e below (s₁.setTop (entryFrame m #[.ref a, .ref b, .int (Int32.ofNat o), .int (Int32.ofNat len), .null] 6)) (s₁.setTop (mkF m 0 #[.val (.ref a), .val (.ref b), .val (.int (Int32.ofNat o)), .val (.int (Int32.ofNat len)), .val .null, .unset] [])) := entry rfl
  have c2 : Steps p.tables e below (s₁.setTop (entryFrame m #[.ref a, .ref b, .int (Int32.ofNat o), .int (Int32.ofNat len), .null] 6)) (s₁.setTop (mkF m 1 #[.val (.ref a), .val (.ref b), .val (.int (Int32.ofNat o)), .val (.int (Int32.ofNat len)), .val .null, .unset] [.ref a])) := c1.trans (by
    refine XS.aloadN X0.here hexec rfl (hb hbytes d0) rfl rfl ?_
    exact Steps.refl _)
  obtain ⟨T3, X3, q3, st3⟩ := X0.oinit hexec hown (wks W (objW "java/lang/String" 1)) (g := (mkF m 1 #[.val (.ref a), .val (.ref b), .val (.int (Int32.ofNat o)), .val (.int (Int32.ofNat len)), .val .null, .unset] [.ref a])) rfl (by rw [hml]; rfl) (rest := []) rfl (hb hbytes d1) (W := 0) (by show 2 * 0 + 0 ≤ _; decide) (Nat.le_of_ble_eq_true rfl) (Nat.le_of_ble_eq_true rfl)
  have hh3 := q3.trans hh0
  have c4 : Steps p.tables e below (s₁.setTop (entryFrame m #[.ref a, .ref b, .int (Int32.ofNat o), .int (Int32.ofNat len), .null] 6)) (T3.setTop (mkF m 27 #[.val (.ref a), .val (.ref b), .val (.int (Int32.ofNat o)), .val (.int (Int32.ofNat len)), .val .null, .unset] [])) := (c2.trans (st3 _ (Steps.refl _))).trans (by
    refine XS.iloadN X3.here hexec rfl (hb hbytes d4) rfl ?_
    refine XS.ifYes X3.here hexec rfl (pc0 := 5) rfl (hb hbytes d5) rfl (i0_ne_t (nz32 (by omega) l0)) (by decide) rfl ?_
    exact Steps.refl _)
  obtain ⟨T5, X5, q5, st5⟩ := X3.sget hexec hown (wk W (.fieldLink "java/lang/String" 38 "java/lang/String" "COMPACT_STRINGS" "Z")) s1 (fun _ _ h => by rw [hh3]; exact h) (g := (mkF m 27 #[.val (.ref a), .val (.ref b), .val (.int (Int32.ofNat o)), .val (.int (Int32.ofNat len)), .val .null, .unset] [])) rfl (hb hbytes d27)
  have hh5 := q5.trans hh3
  have c6 : Steps p.tables e below (s₁.setTop (entryFrame m #[.ref a, .ref b, .int (Int32.ofNat o), .int (Int32.ofNat len), .null] 6)) (T5.setTop (mkF m 30 #[.val (.ref a), .val (.ref b), .val (.int (Int32.ofNat o)), .val (.int (Int32.ofNat len)), .val .null, .unset] [.int z])) := c4.trans (st5 _ (Steps.refl _))
  have c7 : Steps p.tables e below (s₁.setTop (entryFrame m #[.ref a, .ref b, .int (Int32.ofNat o), .int (Int32.ofNat len), .null] 6)) (T5.setTop (mkF m 36 #[.val (.ref a), .val (.ref b), .val (.int (Int32.ofNat o)), .val (.int (Int32.ofNat len)), .val .null, .unset] [.int (Int32.ofNat len), .int (Int32.ofNat o), .ref b])) := c6.trans (by
    refine XS.ifNo X5.here hexec rfl (hb hbytes d30) rfl (i0_eq_f hz) ?_
    refine XS.aloadN X5.here hexec rfl (hb hbytes d33) rfl rfl ?_
    refine XS.iloadN X5.here hexec rfl (hb hbytes d34) rfl ?_
    refine XS.iloadN X5.here hexec rfl (hb hbytes d35) rfl ?_
    exact Steps.refl _)
  obtain ⟨v8, T8, X8, E8, g8⟩ := X5.callS hexec (Cmp3.law l b A o len) hown (wks W (staticW "java/lang/String" 177 Cmp3.yN)) (wk W Cmp3.tab) (W := 0) (Nat.le_of_ble_eq_true rfl) (Nat.le_of_ble_eq_true rfl) (Nat.le_refl _) (by show 0 + len ≤ len; omega) (g := (mkF m 36 #[.val (.ref a), .val (.ref b), .val (.int (Int32.ofNat o)), .val (.int (Int32.ofNat len)), .val .null, .unset] [.int (Int32.ofNat len), .int (Int32.ofNat o), .ref b])) rfl (by rw [hml]; rfl) c7 (argsL := [.ref b, .int (Int32.ofNat o), .int (Int32.ofNat len)]) (rest := []) rfl rfl (by show 2 * 0 + 0 ≤ _; decide) (hb hbytes d36) (⟨rfl, hA.mv X5.warmed.alike hh5, l1, l2, hp⟩)
  obtain ⟨e8, z8⟩ := E8
  obtain ⟨rfl, N, n1, n2, n3, n4, n5, n6⟩ := NewArr.mv _ T5 s _ _ hh5.symm (Vm.Alike.refl _) rfl e8
  rw [hh5] at z8
  have hB1 := hB.keep X8.warmed.alike (n6 _ _ hB.1)
  have hne : s.heap.size ≠ a := (Nat.ne_of_lt (Array.getElem?_eq_some_iff.mp hB.1).1).symm
  have c9 : Steps p.tables e below (s₁.setTop (entryFrame m #[.ref a, .ref b, .int (Int32.ofNat o), .int (Int32.ofNat len), .null] 6)) (T8.setTop (mkF m 39 #[.val (.ref a), .val (.ref b), .val (.int (Int32.ofNat o)), .val (.int (Int32.ofNat len)), .val .null, .unset] [.ref s.heap.size])) := g8
  have c10 : Steps p.tables e below (s₁.setTop (entryFrame m #[.ref a, .ref b, .int (Int32.ofNat o), .int (Int32.ofNat len), .null] 6)) (T8.setTop (mkF m 45 #[.val (.ref a), .val (.ref b), .val (.int (Int32.ofNat o)), .val (.int (Int32.ofNat len)), .val .null, .val (.ref s.heap.size)] [.int (Int32.ofNat N.slots.size), .ref s.heap.size, .ref a])) := by
    have hc : Steps p.tables e below (s₁.setTop (entryFrame m #[.ref a, .ref b, .int (Int32.ofNat o), .int (Int32.ofNat len), .null] 6)) (T8.setTop (mkF m 45 #[.val (.ref a), .val (.ref b), .val (.int (Int32.ofNat o)), .val (.int (Int32.ofNat len)), .val .null, .val (.ref s.heap.size)] [.int (Int32.ofNat len), .ref s.heap.size, .ref a])) := c9.trans (by
      refine XS.astore X8.here hexec rfl (hb hbytes d39) rfl rfl rfl ?_
      refine XS.aloadN X8.here hexec rfl (hb hbytes d41) rfl rfl ?_
      refine XS.aload X8.here hexec rfl (hb hbytes d42) rfl rfl ?_
      refine XS.iloadN X8.here hexec rfl (hb hbytes d44) rfl ?_
      exact Steps.refl _)
    rw [n4]; exact hc
  obtain ⟨v11, T11, X11, E11, g11⟩ := X8.callS hexec (CodL.law l s.heap.size N) hown (wks W (staticW "java/lang/String" 47 CodL.yN)) (wk W CodL.tab) (W := 1) (Nat.le_of_ble_eq_true rfl) (Nat.le_of_ble_eq_true rfl) (Nat.le_refl _) (by show 0 + len + 0 ≤ len; omega) (g := (mkF m 45 #[.val (.ref a), .val (.ref b), .val (.int (Int32.ofNat o)), .val (.int (Int32.ofNat len)), .val .null, .val (.ref s.heap.size)] [.int (Int32.ofNat N.slots.size), .ref s.heap.size, .ref a])) rfl (by rw [hml]; rfl) c10 (argsL := [.ref s.heap.size, .int (Int32.ofNat N.slots.size)]) (rest := [.ref a]) rfl rfl (by show 2 * 0 + (1 + 0) ≤ _; decide) (hb hbytes d45) (⟨rfl, n1⟩)
  obtain ⟨rfl, q11⟩ := E11
  have hB11 := hB1.mv (X8.warmed.alike.symm.trans X11.warmed.alike) q11
  have c12 : Steps p.tables e below (s₁.setTop (entryFrame m #[.ref a, .ref b, .int (Int32.ofNat o), .int (Int32.ofNat len), .null] 6)) (T11.setTop (mkF m 48 #[.val (.ref a), .val (.ref b), .val (.int (Int32.ofNat o)), .val (.int (Int32.ofNat len)), .val .null, .val (.ref s.heap.size)] [.int 0, .ref a])) := g11
  obtain ⟨T13, X13, p13, bl13, sl13, st13⟩ := X11.finit hexec hown (wk W (.fieldLink "java/lang/String" 15 "java/lang/String" "coder" "B")) (Or.inr ⟨_, (wk W (.laysFinal "java/lang/String" "java/lang/String" "coder" "B"))⟩) (Or.inl ⟨rfl, hnm⟩) f2 (Or.inl rfl) hB11 (t := .byte) (by decide +kernel) rfl (g := (mkF m 48 #[.val (.ref a), .val (.ref b), .val (.int (Int32.ofNat o)), .val (.int (Int32.ofNat len)), .val .null, .val (.ref s.heap.size)] [.int 0, .ref a])) rfl (rest := []) rfl (hb hbytes d48)
  have c14 : Steps p.tables e below (s₁.setTop (entryFrame m #[.ref a, .ref b, .int (Int32.ofNat o), .int (Int32.ofNat len), .null] 6)) (T13.setTop (mkF m 54 #[.val (.ref a), .val (.ref b), .val (.int (Int32.ofNat o)), .val (.int (Int32.ofNat len)), .val .null, .val (.ref s.heap.size)] [.ref s.heap.size, .ref a])) := (c12.trans (st13 _ (Steps.refl _))).trans (by
    refine XS.aloadN X13.here hexec rfl (hb hbytes d51) rfl rfl ?_
    refine XS.aload X13.here hexec rfl (hb hbytes d52) rfl rfl ?_
    exact Steps.refl _)
  obtain ⟨T15, X15, p15, bl15, sl15, st15⟩ := X13.finit hexec hown (wk W (.fieldLink "java/lang/String" 9 "java/lang/String" "value" "[B")) (Or.inr ⟨_, (wk W (.laysFinal "java/lang/String" "java/lang/String" "value" "[B"))⟩) (Or.inl ⟨rfl, hnm⟩) f1 (Or.inl rfl) bl13 (t := (.array .byte)) (by decide +kernel) rfl (g := (mkF m 54 #[.val (.ref a), .val (.ref b), .val (.int (Int32.ofNat o)), .val (.int (Int32.ofNat len)), .val .null, .val (.ref s.heap.size)] [.ref s.heap.size, .ref a])) rfl (rest := []) rfl (hb hbytes d54)
  have c16 : Steps p.tables e below (s₁.setTop (entryFrame m #[.ref a, .ref b, .int (Int32.ofNat o), .int (Int32.ofNat len), .null] 6)) (T15.setTop (mkF m 57 #[.val (.ref a), .val (.ref b), .val (.int (Int32.ofNat o)), .val (.int (Int32.ofNat len)), .val .null, .val (.ref s.heap.size)] [])) := c14.trans (st15 _ (Steps.refl _))
  have ap := apart (Or.inr ⟨_, (wk W (.laysFinal "java/lang/String" "java/lang/String" "value" "[B"))⟩) (Or.inr ⟨_, (wk W (.laysFinal "java/lang/String" "java/lang/String" "coder" "B"))⟩) f1 f2 (t₁ := .array .byte) (t₂ := .byte) (by decide +kernel) (by decide +kernel) (by decide)
  have al := X8.warmed.alike.symm.trans X15.warmed.alike
  have n7 : T11.heap[s.heap.size]? = some N := by rw [q11]; exact n1.1
  exact ⟨T15, none, _, _, _, X15, by simp, rfl, by omega, (fun _ => rfl), ⟨rfl, _, N, bl15, ((Same.refl D _).set _ (by simp)).set _ (by simp), sl15, (Cell.slots_setSlot_ne _ ap).trans sl13, n1.keep al (p15.other hne (p13.other hne n7)), n2, by rw [al.findClass]; exact n3, n4, n5, fun y c h1 h2 => p15.other h1 (p13.other h1 (by rw [q11]; exact n6 y c h2)), by rw [p15.2.2, p13.2.2, q11]; exact z8⟩, fun fs hl => c16.trans (X15.returnOut hexec hret (hb hbytes d57) hl)⟩
end New4
namespace New1
def yN : MethodName := ⟨"java/lang/String", "<init>", "([C)V"⟩
abbrev yB : ByteArray := jdk_42_method_3_code
theorem d0 : decode yB 0 = .ok (.aload_n 0, 1) := by decide +kernel
theorem d1 : decode yB 1 = .ok (.aload_n 1, 1) := by decide +kernel
theorem d2 : decode yB 2 = .ok (.iconst 0, 1) := by decide +kernel
theorem d3 : decode yB 3 = .ok (.aload_n 1, 1) := by decide +kernel
theorem d4 : decode yB 4 = .ok (.arraylength, 1) := by decide +kernel
theorem d5 : decode yB 5 = .ok (.aconst_null, 1) := by decide +kernel
theorem d6 : decode yB 6 = .ok (.invokespecial 27, 3) := by decide +kernel
theorem d9 : decode yB 9 = .ok (.return_, 1) := by decide +kernel
def site : List Cond := [New4.tab] ++ initW "java/lang/String" 27 New4.yN
def tab : Cond := tabOf yN yB 2 none site
def P (a : Addr) (D : Cell) (fV fC : Field) (b : Addr) (A : Cell) (z : Int32) (args : Array Value) (s : State) : Prop := args = #[.ref a, .ref b] ∧ Blank "java/lang/String" a D s ∧ Found "java/lang/String" "value" "[B" fV s ∧ Found "java/lang/String" "coder" "B" fC s ∧ Ch b A s ∧ StaticIs s "java/lang/String" "COMPACT_STRINGS" "Z" (.int z) ∧ ¬ z = 0 ∧ 0 < A.slots.size ∧ A.slots.size ≤ 536870912 ∧ ∀ i, i < A.slots.size → ¬ 255 < cv A i
def E (a : Addr) (D : Cell) (fV fC : Field) (A : Cell) (r : Option Value) (s u : State) : Prop := Got a D fV fC A 0 A.slots.size r s u
/-- new String(chars), not empty, no char above 255: a Latin-1 String of their low bytes -/
theorem law (l : Launch) (a : Addr) (D : Cell) (fV fC : Field) (b : Addr) (A : Cell) (z : Int32) : Law l yN 2 1 3 52 yB 2 none site (P a D fV fC b A z) (E a D fV fC A) [⟨a, fC.slot⟩, ⟨a, fV.slot⟩] 1 A.slots.size := by
  refine Law.of_walk (plainFor_of_name (by decide +kernel)) (by decide +kernel) (by decide +kernel) (by decide) (fun _ _ h => by rw [h.1]; rfl) (fun _ U U' hal hh h => ⟨h.1, h.2.1.mv hal hh, h.2.2.1.al hal, h.2.2.2.1.al hal, h.2.2.2.2.1.mv hal hh, h.2.2.2.2.2.1.there hal hh, h.2.2.2.2.2.2⟩) (fun r U U' V V' h1 hal h2 h => Got.mv r U U' V V' h1 hal h2 h) ?_
  intro p e s m args below meth c s₁ X0 hexec hbytes hml hret hlk hnm hown hh0 W hP
  obtain ⟨rfl, hB, f1, f2, hA, s1, hz, l0, l2, hp⟩ := hP
  have c1 : Steps p.tables e below (s₁.setTop (entryFrame m #[.ref a, .ref b] 2)) (s₁.setTop (mkF m 0 #[.val (.ref a), .val (.ref b)] [])) := entry rfl
  have c2 : Steps p.tables e below (s₁.setTop (entryFrame m #[.ref a, .ref b] 2)) (s₁.setTop (mkF m 6 #[.val (.ref a), .val (.ref b)] [.null, .int (Int32.ofNat A.slots.size), .int 0, .ref b, .ref a])) := c1.trans (by
    refine XS.aloadN X0.here hexec rfl (hb hbytes d0) rfl rfl ?_
    refine XS.aloadN X0.here hexec rfl (hb hbytes d1) rfl rfl ?_
    refine iconstV X0.here hexec rfl 0 (hb hbytes d2) (by decide) ?_
    refine XS.aloadN X0.here hexec rfl (hb hbytes d3) rfl rfl ?_
    refine X0.alen hexec (hA.1.mv X0.warmed.alike hh0) rfl rfl (hb hbytes d4) ?_
    refine XS.aconstNull X0.here hexec rfl (hb hbytes d5) ?_
    exact Steps.refl _)
  obtain ⟨v3, T3, X3, E3, g3⟩ := X0.callN hexec (New4.law l a D fV fC b A z 0 A.slots.size) rfl hown (wks W (initW "java/lang/String" 27 New4.yN)) (W New4.tab (by simp only [site, List.mem_cons, List.mem_append, true_or, or_true])) (W := 0) (Nat.le_of_ble_eq_true rfl) (Nat.le_of_ble_eq_true rfl) (Nat.le_refl _) (by show 0 + A.slots.size ≤ A.slots.size; omega) (g := (mkF m 6 #[.val (.ref a), .val (.ref b)] [.null, .int (Int32.ofNat A.slots.size), .int (Int32.ofNat 0), .ref b, .ref a])) rfl (by rw [hml]; rfl) c2 (argsL := [.ref b, .int (Int32.ofNat 0), .int (Int32.ofNat A.slots.size), .null]) (rest := []) rfl rfl (by show 2 * 0 + 0 ≤ _; decide) (hb hbytes d6) (⟨rfl, hB.mv X0.warmed.alike hh0, f1.al X0.warmed.alike, f2.al X0.warmed.alike, hA.mv X0.warmed.alike hh0, s1.there X0.warmed.alike hh0, hz, l0, by omega, l2, fun i hi => by rw [Nat.zero_add]; exact hp i hi⟩)
  have e0 := Got.mv _ s₁ s _ _ hh0.symm (Vm.Alike.refl _) rfl E3
  obtain rfl := e0.1
  have c4 : Steps p.tables e below (s₁.setTop (entryFrame m #[.ref a, .ref b] 2)) (T3.setTop (mkF m 9 #[.val (.ref a), .val (.ref b)] [])) := g3
  exact ⟨T3, none, _, _, _, X3, by simp, rfl, by omega, (fun _ => rfl), e0, fun fs hl => c4.trans (X3.returnOut hexec hret (hb hbytes d9) hl)⟩
theorem pays {l : Launch} {R : Room} {p : Program} {e : Env} {below : List Frame} {s : State} {sargs : Array Value} {len W : Nat} (a : Addr) (D : Cell) (fV fC : Field) (b : Addr) (A : Cell) (z : Int32) (htab : tab.before sargs s = true) (hfr : 4 ≤ R.frames) (hlo : W + 65 ≤ R.locals) :
    Back l R p e below s sargs yN len W (fun A₁ a₁ => A₁.cells + 1 ≤ R.cells ∧ A₁.slots + A.slots.size ≤ R.slots ∧ P a D fV fC b A z a₁ A₁.U) (fun A₁ _ v₁ B₁ => E a D fV fC A v₁ A₁.U B₁.U ∧ B₁.locs = A₁.locs ++ [⟨a, fC.slot⟩, ⟨a, fV.slot⟩] ∧ B₁.cells = A₁.cells + 1 ∧ B₁.slots = A₁.slots + A.slots.size) :=
  (law l a D fV fC b A z).pays htab hfr (by omega)
end New1
/-- the byte, read back as charAt reads it, is the char -/
theorem lo8_mask {x : Int32} (h0 : ¬ x < 0) (h1 : ¬ 255 < x) : lo8 x &&& 255 = x := by
  have t : ∀ k : Fin 256, lo8 (Int32.ofNat k.val) &&& 255 = Int32.ofNat k.val := by decide +kernel
  rw [Int32.lt_iff_toInt_lt] at h0 h1
  have e0 : (0 : Int32).toInt = 0 := rfl
  have e1 : (255 : Int32).toInt = 255 := rfl
  obtain ⟨k, hk⟩ : ∃ k : Nat, x.toInt = k := ⟨x.toInt.toNat, by omega⟩
  have hx : x = Int32.ofNat k := Int32.toInt_inj.mp (by rw [hk, Int32.toInt_ofNat_small (by omega)])
  rw [hx]
  exact t ⟨k, by omega⟩
end StrChars
namespace StrChars.Road
open Jvm Sem ClassFile Op Lib Jvm.Stand Jvm.Free Jvm.Free.XT
open Jvm.Lib.Cold (StaticIs)
abbrev ST : String := "java/lang/String"
/-- every table word that New1's law asks, flat -/
abbrev words : List Jvm.Cond := [.code New1.yN New1.yB 2 none, .initialized ST, .methodLink ST 27 New4.yN, .instanceMethod New4.yN,
  .code New4.yN New4.yB 6 none, .fieldLink ST 38 ST "COMPACT_STRINGS" "Z", .laysFinal ST ST "value" "[B", .fieldLink ST 9 ST "value" "[B", .laysFinal ST ST "coder" "B", .fieldLink ST 15 ST "coder" "B",
  .methodLink ST 1 Lib.objectInit, .instanceMethod Lib.objectInit, .code Lib.objectInit ⟨#[0xb1]⟩ 1 none, .methodLink ST 177 Cmp3.yN, .static Cmp3.yN, .methodLink ST 47 CodL.yN, .static CodL.yN,
  .code Cmp3.yN Cmp3.yB 6 (some (.array .byte)), .initialized U16, .arrayClass .byte, .methodLink U16 115 Cmp5.yN, .static Cmp5.yN, .code Cmp5.yN Cmp5.yB 7 (some .int), .code CodL.yN CodL.yB 2 (some .byte)]
theorem tab_of {a : Array Value} {s : State} (h : ∀ w ∈ words, w.before a s = true) : New1.tab.before a s = true := by
  have h5 : Cmp5.tab.before a s = true := unparts (wk h (.code Cmp5.yN Cmp5.yB 7 (some .int))) (wks h (.initialized Cmp5.yN.cls :: Cmp5.site))
  have hc : CodL.tab.before a s = true := unparts (wk h (.code CodL.yN CodL.yB 2 (some .byte))) (wks h (.initialized CodL.yN.cls :: CodL.site))
  have q5 : ∀ w ∈ Cmp5.tab :: words, w.before a s = true := fun w hw => (List.mem_cons.mp hw).elim (fun e => e ▸ h5) (h w)
  have h3 : Cmp3.tab.before a s = true := unparts (wk q5 (.code Cmp3.yN Cmp3.yB 6 (some (.array .byte)))) (wks q5 (.initialized Cmp3.yN.cls :: Cmp3.site))
  have q3 : ∀ w ∈ Cmp3.tab :: CodL.tab :: words, w.before a s = true := fun w hw => (List.mem_cons.mp hw).elim (fun e => e ▸ h3) fun hw => (List.mem_cons.mp hw).elim (fun e => e ▸ hc) (h w)
  have h4 : New4.tab.before a s = true := unparts (wk q3 (.code New4.yN New4.yB 6 none)) (wks q3 (.initialized New4.yN.cls :: New4.site))
  have q4 : ∀ w ∈ New4.tab :: words, w.before a s = true := fun w hw => (List.mem_cons.mp hw).elim (fun e => e ▸ h4) (h w)
  exact unparts (wk q4 (.code New1.yN New1.yB 2 none)) (wks q4 (.initialized New1.yN.cls :: New1.site))
/-- the words ride from the start Z to the walk's own state -/
theorem moved {Z s : State} {a0 args : Array Value} (hZ : Z.Warmed39 s.vm) (hw : ∀ d ∈ words, d.before a0 Z = true) : ∀ d ∈ words, d.before args s = true := fun d hd => by
  have q := hw d hd
  have t : ∀ d ∈ words, d = .arrayClass .byte ∨ (d.onTables && d.keepsFace) = true := by decide +kernel
  rcases t d hd with rfl | t
  · exact RoadKit.mvA hZ q
  · exact RoadKit.mv hZ q t
/-- WHAT COMES BACK, over the tables of the start Z: h the heap at the call, h' behind it -/
def Q (Z : State) (x : Addr) (A : Cell) (h : Heap) (v : Option Value) (h' : Heap) (L : List Loc) : Prop := v = none ∧ (∀ y ∈ L, y.base = x) ∧ RoadKit.Keep h h' [x] ∧ h'.size = h.size + 1 ∧ RoadKit.Exa Z h' x ST ∧ RoadKit.Fld Z h' x ST "value" "[B" (.ref h.size) ∧ RoadKit.Fld Z h' x ST "coder" "B" (.int 0) ∧
  (∃ V : Cell, RoadKit.Arr Z h' h.size V .byte ∧ V.vm = .none ∧ Z.vm.findClass "[B" = some V.cls ∧ V.slots.size = A.slots.size ∧ ∀ j, j < A.slots.size → V.slots[j]? = some (.int (lo8 (cv A j)))) ∧
  ∀ (O n d : String) (w : Value), RoadKit.Fld Z h x O n d w → RoadKit.slotOf Z O n d ≠ RoadKit.slotOf Z ST "value" "[B" → RoadKit.slotOf Z O n d ≠ RoadKit.slotOf Z ST "coder" "B" → RoadKit.Fld Z h' x O n d w
/-- **new String(chars) AT A CALL, IN THE ROAD'S FORM**: for specialBack behind newO: x the fresh String, b the char[] with the cell A -/
theorem back {p : Program} {l : Launch} {e : Env} {R : Room} {s : State} {args : Array Value} {below : List Frame} {len W : Nat} {Z : State} {a0 : Array Value} {h : Heap} (hZ : Z.Warmed39 s.vm) (hw : ∀ d ∈ words, d.before a0 Z = true) {kI : Nat} (wi : (Jvm.Cond.instantiable ST kI).before a0 Z = true)
    {x b : Addr} {A : Cell} {z : Int32} {v0 c0 : Value} (E : RoadKit.Exa Z h x ST) (V : RoadKit.Fld Z h x ST "value" "[B" v0) (C : RoadKit.Fld Z h x ST "coder" "B" c0) (K : RoadKit.Arr Z h b A .char) (hty : Typed .char A) (S : RoadKit.Sta Z h ST "COMPACT_STRINGS" "Z" (.int z)) (hz : ¬ z = 0)
    (l0 : 0 < A.slots.size) (l2 : A.slots.size ≤ 536870912) (hp : ∀ i, i < A.slots.size → ¬ 255 < cv A i) (hfr : 4 ≤ R.frames) (hlo : W + 65 ≤ R.locals) :
    Back l R p e below s args New1.yN len W (fun P a => a = #[.ref x, .ref b] ∧ P.U.heap = h ∧ P.cells + 1 ≤ R.cells ∧ P.slots + A.slots.size ≤ R.slots)
      (fun P _ v B => ∃ L, Q Z x A h v B.U.heap L ∧ B.locs = P.locs ++ L ∧ B.cells = P.cells + 1 ∧ B.slots = P.slots + A.slots.size) := by
  intro m meth c P g ig mk a X hg hsize hdg hW hn hp'
  obtain ⟨rfl, rfl, r1, r2⟩ := hp'
  have al : Z.vm.Alike P.U.vm := hZ.alike.trans X.warmed.alike
  obtain ⟨D, cfV, kV, iV, fV, hD, gV, stV, knV, obV, asV, slV⟩ := id V
  obtain ⟨D', cfC, kC, iC, fC, hD', gC, stC, -, -, asC, slC⟩ := id C
  cases hD.symm.trans hD'
  obtain ⟨D2, kD, e1, e2, e3, e4, e5⟩ := id E
  cases hD.symm.trans e1
  obtain ⟨c2, k2, i1, i2, i3, -⟩ := Cond.instantiable_spec wi
  cases e2.symm.trans i1
  cases e3.symm.trans i2
  obtain ⟨kU, u1, u2⟩ := al.2.2 _ _ e3
  have hB : Blank ST x D P.U := ⟨hD, ⟨knV, fun q hq => by rw [hq] at obV; cases obV⟩, by rw [al.findClass]; exact e2, kU, u1, by rw [u2]; exact i3, by rw [u2]; exact e5 i3⟩
  have F1 : Found ST "value" "[B" fV P.U := ⟨SBG.found_only al ⟨cfV, kV, iV, gV⟩, stV⟩
  have F2 : Found ST "coder" "B" fC P.U := ⟨SBG.found_only al ⟨cfC, kC, iC, gC⟩, stC⟩
  have hA : Ch b A P.U := ⟨⟨K.1, State.isArrayOf_alike al K.2.1, K.2.2, by omega⟩, hty⟩
  have hS : StaticIs P.U ST "COMPACT_STRINGS" "Z" (.int z) := by
    obtain ⟨cfS, iS, kS, fS, st, cS, t1, t2, t3, t4, t5, t6, t7⟩ := S
    exact StaticIs.there (s := { Z with heap := P.U.heap }) ⟨cfS, iS, kS, fS, st, cS, t1, t2, t3, t4, t5, (fun q => by rw [q] at t6; cases t6), t7⟩ al rfl
  obtain ⟨v, B, X', ⟨⟨hv, E', V', q1, q2, q3, q4, q5, q6, q7, q8, q9, q10, q11⟩, hl, hc, hs⟩, st⟩ := New1.pays x D fV fC b A z (tab_of (moved hZ hw)) hfr hlo m meth c P g ig mk _ X hg hsize hdg hW hn ⟨r1, r2, rfl, hB, F1, F2, hA, hS, hz, l0, l2, hp⟩
  have al' : Z.vm.Alike B.U.vm := hZ.alike.trans X'.warmed.alike
  have hsz : E'.slots.size = D.slots.size := by
    obtain ⟨-, -, -, kB, w1, w2, w3⟩ := q1
    obtain ⟨kB', y1, y2⟩ := al'.2.2 _ _ e3
    rw [q2.2.1] at w1
    cases w1.symm.trans y1
    rw [w3, e5 i3, y2]
  refine ⟨v, B, X', ⟨_, ⟨hv, ?_, ⟨by omega, fun y cy hy hn' => q10 y cy (by simpa using hn') hy, fun y cy hy => ?_⟩, q11, ⟨E', _, q1.1, by rw [q2.2.1]; exact e2, by rw [q2.2.1]; exact e3, by rw [q2.1]; exact obV, fun _ => by rw [hsz]; exact e5 i3⟩,
    ⟨E', cfV, kV, iV, fV, q1.1, gV, stV, by rw [q2.1]; exact knV, by rw [q2.1]; exact obV, by rw [q2.2.1]; exact asV, q3⟩, ⟨E', cfC, kC, iC, fC, q1.1, gC, stC, by rw [q2.1]; exact knV, by rw [q2.1]; exact obV, by rw [q2.2.1]; exact asC, q4⟩,
    ⟨V', ⟨q5.1, State.isArrayOf_alike al'.symm q5.2.1, q5.2.2.1⟩, q6, by rw [← al'.findClass]; exact q7, q8, fun j hj => by have := q9 j hj; rwa [Nat.zero_add] at this⟩, fun O n d w F n1 n2 => ?_⟩, hl, hc, hs⟩, st⟩
  · intro y hy
    simp only [List.mem_cons, List.not_mem_nil, or_false] at hy
    rcases hy with rfl | rfl <;> rfl
  · by_cases q : y = x
    · subst q
      cases hD.symm.trans hy
      exact ⟨E', q1.1, q2.2.1, q2.1, hsz⟩
    · exact ⟨cy, q10 y cy q hy, rfl, rfl, rfl⟩
  · obtain ⟨D3, cf, k, i, f, g1, g2, g3, g4, g5, g6, g7⟩ := F
    cases hD.symm.trans g1
    simp only [RoadKit.slotOf, g2, gV, gC, Option.map_some, Option.getD_some] at n1 n2
    exact ⟨E', cf, k, i, f, q1.1, g2, g3, by rw [q2.1]; exact g4, by rw [q2.1]; exact g5, by rw [q2.2.1]; exact g6, by rw [q2.2.2 f.slot (by simp [n1, n2])]; exact g7⟩
end StrChars.Road
namespace StrChars.Road
open Jvm Sem ClassFile Op Lib Jvm.Stand Jvm.Free Jvm.Free.XT
/-- WHAT COMES BACK, the byte[] as a list of values -/
def QA (Z : State) (x : Addr) (zn : Int32) (cs : List Int32) (h : Heap) (v : Option Value) (h' : Heap) (L : List Loc) : Prop := v = none ∧ (∀ y ∈ L, y.base = x) ∧ RoadKit.Keep h h' [x] ∧ h'.size = h.size + 1 ∧ RoadKit.Exa Z h' x ST ∧ RoadKit.Fld Z h' x ST "value" "[B" (.ref h.size) ∧ RoadKit.Fld Z h' x ST "coder" "B" (.int 0) ∧
  (∃ kb, Z.vm.findClass "[B" = some kb ∧ RoadKit.Arv Z h' h.size kb .byte zn (cs.map fun c => .int (lo8 c)) (.int 0)) ∧
  ∀ (O n d : String) (w : Value), RoadKit.Fld Z h x O n d w → RoadKit.slotOf Z O n d ≠ RoadKit.slotOf Z ST "value" "[B" → RoadKit.slotOf Z O n d ≠ RoadKit.slotOf Z ST "coder" "B" → RoadKit.Fld Z h' x O n d w
/-- **new String(chars) AT A CALL, THE ARRAYS AS LISTS**: the char[] at b holds cs, not empty, no char above 255 -/
theorem backArv {p : Program} {l : Launch} {e : Env} {R : Room} {s : State} {args : Array Value} {below : List Frame} {len W : Nat} {Z : State} {a0 : Array Value} {h : Heap} (hZ : Z.Warmed39 s.vm) (hw : ∀ d ∈ words, d.before a0 Z = true) {kI : Nat} (wi : (Jvm.Cond.instantiable ST kI).before a0 Z = true)
    {x b : Addr} {k : ClassId} {zn z : Int32} {cs : List Int32} {dv v0 c0 : Value} (E : RoadKit.Exa Z h x ST) (V : RoadKit.Fld Z h x ST "value" "[B" v0) (C : RoadKit.Fld Z h x ST "coder" "B" c0) (K : RoadKit.Arv Z h b k .char zn (cs.map Value.int) dv) (S : RoadKit.Sta Z h ST "COMPACT_STRINGS" "Z" (.int z)) (hz : ¬ z = 0)
    (hlen : zn.toNatClampNeg = cs.length) (h0 : 0 < cs.length) (hbig : cs.length ≤ 536870912) (hall : ∀ c ∈ cs, ¬ 255 < c) (hfr : 4 ≤ R.frames) (hlo : W + 65 ≤ R.locals) :
    Back l R p e below s args New1.yN len W (fun P a => a = #[.ref x, .ref b] ∧ P.U.heap = h ∧ P.cells + 1 ≤ R.cells ∧ P.slots + cs.length ≤ R.slots)
      (fun P _ v B => ∃ L, QA Z x zn cs h v B.U.heap L ∧ B.locs = P.locs ++ L ∧ B.cells = P.cells + 1 ∧ B.slots = P.slots + cs.length) := by
  obtain ⟨A, K1, K2, K3, K4, K5, K6⟩ := K
  have e : A.slots.size = cs.length := K3.trans hlen
  have hat : ∀ (i : Nat) (hi : i < cs.length), A.slots[i]? = some (.int cs[i]) := fun i hi => by rw [K5 i (by omega)]; simp [List.getD_eq_getElem?_getD, hi]
  have hcv : ∀ (i : Nat) (hi : i < cs.length), cv A i = cs[i] := fun i hi => by unfold cv; rw [hat i hi]
  have hty : Typed .char A := fun i v hv => by
    have hi : i < A.slots.size := (Array.getElem?_eq_some_iff.mp hv).1
    have q := K5 i hi
    rw [hv] at q
    rw [Option.some.inj q]
    exact K6 i hi
  refine Back.mono (back hZ hw wi E V C K1 hty S hz (by omega) (by omega) (fun i hi => by rw [hcv i (by omega)]; exact hall _ (List.getElem_mem _)) hfr hlo) (fun P a hp => ⟨hp.1, hp.2.1, hp.2.2.1, by rw [e]; exact hp.2.2.2⟩) (fun P a v B hp hq => ?_)
  obtain ⟨L, ⟨q1, q2, q3, q4, q5, q6, q7, ⟨V', v1, v2, v3, v4, v5⟩, q9⟩, hl, hc, hs⟩ := hq
  refine ⟨L, ⟨q1, q2, q3, q4, q5, q6, q7, ⟨V'.cls, v3, V', v1, rfl, by rw [v4, e, hlen], K4, fun i hi => ?_, fun i hi => ?_⟩, q9⟩, hl, hc, by rw [hs, e]⟩
  · have hi' : i < cs.length := by omega
    rw [v5 i (by omega), hcv i hi']; simp [List.getD_eq_getElem?_getD, hi']
  · have hi' : i < cs.length := by omega
    simp only [List.getD_eq_getElem?_getD, List.getElem?_map, List.getElem?_eq_getElem hi', Option.map_some, Option.getD_some]
    exact fits_lo8 _
end StrChars.Road
namespace StrChars.Road
open Jvm Sem ClassFile Op Lib Jvm.Stand Jvm.Free Jvm.Free.XT
/-- WHAT COMES BACK, in the writer's own shape -/
def QV (Z : State) (x : Addr) (N : Int32) (bs : List Int32) (h : Heap) (n0 : Nat) (v : Option Value) (h' : Heap) (L : List Loc) : Prop := v = none ∧ RoadKit.Fr n0 L ∧ RoadKit.Keep h h' [x] ∧ RoadKit.Exa Z h' x ST ∧ RoadKit.Fld Z h' x ST "coder" "B" (.int 0) ∧
  ∃ (t : Addr) (kb : ClassId), n0 ≤ t ∧ h.size ≤ t ∧ ¬ t = x ∧ RoadKit.Fld Z h' x ST "value" "[B" (.ref t) ∧ RoadKit.Arv Z h' t kb .byte N (bs.map Value.int) (.int 0)
/-- **new String(chars) AT A CALL, FOR THE WRITER**: a char[] of n known ints, each 0 to 255 -/
theorem backV {p : Program} {l : Launch} {e : Env} {R : Room} {s : State} {args : Array Value} {below : List Frame} {len W : Nat} {Z : State} {a0 : Array Value} {h : Heap} (hZ : Z.Warmed39 s.vm) (hw : ∀ d ∈ words, d.before a0 Z = true) {kI : Nat} (wi : (Jvm.Cond.instantiable ST kI).before a0 Z = true)
    {x b : Addr} {kC : ClassId} {cs bs : List Int32} {d v0 c0 : Value} {z N : Int32} {n n0 : Nat} (hx0 : n0 ≤ x) (hh0 : n0 ≤ h.size) (E : RoadKit.Exa Z h x ST) (V : RoadKit.Fld Z h x ST "value" "[B" v0) (C : RoadKit.Fld Z h x ST "coder" "B" c0) (K : RoadKit.Arv Z h b kC .char N (cs.map Value.int) d) (S : RoadKit.Sta Z h ST "COMPACT_STRINGS" "Z" (.int z)) (hz : ¬ z = 0)
    (hn : cs.length = n) (hN : N = Int32.ofNat n) (l0 : 0 < n) (l2 : n ≤ 4000) (hp : ∀ c ∈ cs, ¬ c < 0 ∧ ¬ (255 : Int32) < c) (hb : bs = cs.map (fun c => c.toInt8.toInt32)) (hfr : 4 ≤ R.frames) (hlo : W + 65 ≤ R.locals) :
    Back l R p e below s args (⟨"java/lang/String", "<init>", "([C)V"⟩ : MethodName) len W (fun P a => a = #[.ref x, .ref b] ∧ P.U.heap = h ∧ P.cells + 1 ≤ R.cells ∧ P.slots + n ≤ R.slots)
      (fun P _ v B => ∃ L, QV Z x N bs h n0 v B.U.heap L ∧ B.locs = P.locs ++ L ∧ B.cells = P.cells + 1 ∧ B.slots = P.slots + n) := by
  subst hn hN hb
  refine Back.mono (backArv hZ hw wi E V C K S hz (n32 (by omega)) l0 (by omega) (fun c hc => (hp c hc).2) hfr hlo) (fun P a hp => hp) (fun P a v B hp hq => ?_)
  obtain ⟨L, ⟨q1, q2, q3, q4, q5, q6, q7, ⟨kb, v1, v2⟩, q9⟩, hl, hc, hs⟩ := hq
  exact ⟨L, ⟨q1, fun y hy => by rw [q2 y hy]; exact hx0, q3, q5, q7, h.size, kb, hh0, Nat.le_refl _, Nat.ne_of_gt E.lt, q6, by rw [List.map_map]; exact v2⟩, hl, hc, hs⟩
end StrChars.Road
namespace StrChars
open Jvm Sem ClassFile Op Lib Jvm.Stand Jvm.Free.XT Jvm.Free.ALB Jvm.Free.JM Jvm.Free
open Jvm.Lib.Cold (StaticIs)
def hi8 (x : Int32) : Int32 := lo8 (x >>> ((8 : Int32) &&& 31))
/-- what StringUTF16.getChar makes of two bytes -/
def pairCh (u v : Int32) : Int32 := (((u &&& 255) <<< ((0 : Int32) &&& 31)) ||| ((v &&& 255) <<< ((8 : Int32) &&& 31))).toUInt32.toUInt16.toUInt32.toInt32
theorem shr0 (c : Int32) : c >>> ((0 : Int32) &&& 31) = c := by
  have e : ((0 : Int32) &&& 31) = 0 := by decide
  rw [e]
  apply Int32.toBitVec_inj.mp
  rw [Int32.toBitVec_shiftRight]
  have e1 : ((0 : Int32).toBitVec.smod 32) = 0#32 := by decide
  rw [e1, BitVec.sshiftRight_eq']
  exact BitVec.sshiftRight_zero
theorem lo8_and (x : Int32) : (lo8 x &&& 255).toBitVec.toNat = x.toBitVec.toNat % 256 := by
  have h : (lo8 x).toBitVec = (x.toBitVec.signExtend 8).signExtend 32 := by rw [lo8, Int8.toBitVec_toInt32, Int32.toBitVec_toInt8]
  rw [Int32.toBitVec_and, BitVec.toNat_and, h]
  have e : ((x.toBitVec.signExtend 8).signExtend 32).toNat % 256 = x.toBitVec.toNat % 256 := by
    rw [BitVec.toNat_signExtend]
    have hlt := x.toBitVec.isLt
    simp only [BitVec.toNat_setWidth, BitVec.toNat_signExtend]
    split <;> split <;> omega
  rw [← e]
  exact Nat.and_two_pow_sub_one_eq_mod _ 8
theorem pair_says {c : Int32} (h0 : ¬ c < 0) (h1 : ¬ 65535 < c) : pairCh (lo8 c) (hi8 c) = c := by
  rw [Int32.lt_iff_toInt_lt] at h0 h1
  have e0 : (0 : Int32).toInt = 0 := rfl
  have e1 : (65535 : Int32).toInt = 65535 := rfl
  have hc : c.toInt = c.toBitVec.toNat := by
    have := c.toBitVec.isLt
    have e : c.toInt = c.toBitVec.toInt := rfl
    rw [e] at h0 h1
    rw [e]
    rw [BitVec.toInt_eq_toNat_cond] at h0 h1 ⊢
    split at h0 <;> split <;> omega
  have hn : c.toBitVec.toNat < 65536 := by omega
  have a1 := lo8_and c
  have a2 : (hi8 c &&& 255).toBitVec.toNat = c.toBitVec.toNat / 256 := by
    rw [hi8, lo8_and]
    have e : ((8 : Int32) &&& 31) = 8 := by decide
    rw [e, Int32.toBitVec_shiftRight]
    have e2 : ((8 : Int32).toBitVec.smod 32) = 8#32 := by decide
    rw [e2, BitVec.sshiftRight_eq', BitVec.toNat_sshiftRight_of_msb_false (by rw [BitVec.msb_eq_false_iff_two_mul_lt]; omega)]
    show c.toBitVec.toNat >>> 8 % 256 = _
    rw [Nat.shiftRight_eq_div_pow]
    omega
  unfold pairCh
  apply Int32.toBitVec_inj.mp
  apply BitVec.eq_of_toNat_eq
  have f0 : ((0 : Int32) &&& 31) = 0 := by decide
  have f8 : ((8 : Int32) &&& 31) = 8 := by decide
  rw [f0, f8]
  have g : (((lo8 c &&& 255) <<< (0 : Int32)) ||| ((hi8 c &&& 255) <<< (8 : Int32))).toBitVec.toNat = c.toBitVec.toNat := by
    rw [Int32.toBitVec_or, Int32.toBitVec_shiftLeft, Int32.toBitVec_shiftLeft]
    have s0 : ((0 : Int32).toBitVec.smod 32) = 0#32 := by decide
    have s8 : ((8 : Int32).toBitVec.smod 32) = 8#32 := by decide
    rw [s0, s8, BitVec.toNat_or]
    simp only [BitVec.shiftLeft_eq', BitVec.toNat_shiftLeft, a1, a2]
    show (c.toBitVec.toNat % 256) <<< 0 % 2 ^ 32 ||| (c.toBitVec.toNat / 256) <<< 8 % 2 ^ 32 = _
    rw [Nat.shiftLeft_zero, Nat.mod_eq_of_lt (show c.toBitVec.toNat % 256 < 2 ^ 32 by omega), Nat.mod_eq_of_lt (show (c.toBitVec.toNat / 256) <<< 8 < 2 ^ 32 by rw [Nat.shiftLeft_eq]; omega), Nat.or_comm, ← Nat.shiftLeft_add_eq_or_of_lt (by omega), Nat.shiftLeft_eq]
    omega
  show BitVec.toNat (((((lo8 c &&& 255) <<< (0 : Int32)) ||| ((hi8 c &&& 255) <<< (8 : Int32))).toBitVec.setWidth 16).setWidth 32) = _
  rw [BitVec.toNat_setWidth, BitVec.toNat_setWidth, g]
  omega
end StrChars
namespace StrChars
open Jvm Sem ClassFile Op Lib Jvm.Stand Jvm.Free.XT Jvm.Free.ALB Jvm.Free.JM Jvm.Free
open Jvm.Lib.Cold (StaticIs)
theorem shr1 {n : Nat} (h : 2 * n < 2 ^ 31) : Int32.ofNat (2 * n) >>> ((1 : Int32) &&& 31) = Int32.ofNat n := by
  have e : ((1 : Int32) &&& 31) = 1 := by decide
  rw [e]
  apply Int32.toBitVec_inj.mp
  rw [Int32.toBitVec_shiftRight]
  have e1 : ((1 : Int32).toBitVec.smod 32) = 1#32 := by decide
  have hm : (BitVec.ofNat 32 (2 * n)).toNat = 2 * n := by rw [BitVec.toNat_ofNat, Nat.mod_eq_of_lt (by omega)]
  rw [e1, BitVec.sshiftRight_eq']
  apply BitVec.eq_of_toNat_eq
  show ((BitVec.ofNat 32 (2 * n)).sshiftRight 1).toNat = (BitVec.ofNat 32 n).toNat
  rw [BitVec.toNat_sshiftRight_of_msb_false (by rw [BitVec.msb_eq_false_iff_two_mul_lt, hm]; omega), hm, BitVec.toNat_ofNat, Nat.shiftRight_eq_div_pow]
  omega
/-- charAt's cast of a byte read back -/
def chr8 (u : Int32) : Int32 := (u &&& 255).toUInt32.toUInt16.toUInt32.toInt32
theorem chr8_lo8 {c : Int32} (h0 : ¬ c < 0) (h1 : ¬ 255 < c) : chr8 (lo8 c) = c := by
  have t : ∀ k : Fin 256, (Int32.ofNat k.val).toUInt32.toUInt16.toUInt32.toInt32 = Int32.ofNat k.val := by decide +kernel
  unfold chr8
  rw [lo8_mask h0 h1]
  rw [Int32.lt_iff_toInt_lt] at h0 h1
  have e0 : (0 : Int32).toInt = 0 := rfl
  have e1 : (255 : Int32).toInt = 255 := rfl
  obtain ⟨k, hk⟩ : ∃ k : Nat, c.toInt = k := ⟨c.toInt.toNat, by omega⟩
  have hx : c = Int32.ofNat k := Int32.toInt_inj.mp (by rw [hk, Int32.toInt_ofNat_small (by omega)])
  rw [hx]
  exact t ⟨k, by omega⟩
theorem narrow_ch {c : Int32} (h0 : ¬ c < 0) (h1 : ¬ 65535 < c) : narrow .char (.int c) = .int c := by
  have q : narrow .char (.int (pairCh (lo8 c) (hi8 c))) = .int (pairCh (lo8 c) (hi8 c)) := narrow_c _
  rwa [pair_says h0 h1] at q
/-- the array's cell V codes the n chars f 0 .. f (n - 1) by the coder cd, as the JDK does: coder 1 just where some char is above 255 -/
def Cod (cd : Int32) (n : Nat) (f : Nat → Int32) (V : Cell) : Prop := (cd = 0 ∧ V.slots.size = n ∧ ∀ j, j < n → V.slots[j]? = some (.int (lo8 (f j))) ∧ ¬ 255 < f j) ∨ (cd = 1 ∧ V.slots.size = 2 * n ∧ (∀ j, j < n → V.slots[2 * j]? = some (.int (lo8 (f j))) ∧ V.slots[2 * j + 1]? = some (.int (hi8 (f j)))) ∧ ∃ j, j < n ∧ 255 < f j)
theorem Cod.cd {cd : Int32} {n : Nat} {f : Nat → Int32} {V : Cell} (h : Cod cd n f V) : cd = 0 ∨ cd = 1 := h.imp (fun q => q.1) fun q => q.1
theorem Cod.len {cd : Int32} {n : Nat} {f : Nat → Int32} {V : Cell} (h : Cod cd n f V) (hs : V.slots.size < 2 ^ 31) : Int32.ofNat V.slots.size >>> (cd &&& 31) = Int32.ofNat n := by
  rcases h with ⟨rfl, h, -⟩ | ⟨rfl, h, -⟩
  · rw [shr0, h]
  · rw [h, shr1 (by omega)]
/-- **x is a String of the n chars f 0 .. f (n - 1)**, Latin-1 or UTF-16; its array at t has the cell V -/
def Txt (x t : Addr) (V : Cell) (cd : Int32) (n : Nat) (f : Nat → Int32) (U : State) : Prop := Exact "java/lang/String" x U ∧ Has x "java/lang/String" "value" "[B" (.ref t) U ∧ Has x "java/lang/String" "coder" "B" (.int cd) U ∧ XT.Arr .byte t V U ∧ Cod cd n f V ∧ ∀ j, j < n → ¬ f j < 0 ∧ ¬ 65535 < f j
theorem Txt.mv {x t : Addr} {V : Cell} {cd : Int32} {n : Nat} {f : Nat → Int32} {U U' : State} (h : Txt x t V cd n f U) (hal : U.vm.Alike U'.vm) (hh : U'.heap = U.heap) : Txt x t V cd n f U' := ⟨h.1.mv hal hh, h.2.1.mv hal hh, h.2.2.1.mv hal hh, h.2.2.2.1.mv hal hh, h.2.2.2.2⟩
namespace Cdr
def yN : MethodName := ⟨"java/lang/String", "coder", "()B"⟩
abbrev yB : ByteArray := jdk_42_method_152_code
theorem d0 : decode yB 0 = .ok (.getstatic 38, 3) := by decide +kernel
theorem d3 : decode yB 3 = .ok (.ifCond (.eq) 10, 3) := by decide +kernel
theorem d6 : decode yB 6 = .ok (.aload_n 0, 1) := by decide +kernel
theorem d7 : decode yB 7 = .ok (.getfield 15, 3) := by decide +kernel
theorem d10 : decode yB 10 = .ok (.goto 4, 3) := by decide +kernel
theorem d14 : decode yB 14 = .ok (.ireturn, 1) := by decide +kernel
def site : List Cond := [.fieldLink "java/lang/String" 38 "java/lang/String" "COMPACT_STRINGS" "Z", .fieldLink "java/lang/String" 15 "java/lang/String" "coder" "B"]
def tab : Cond := tabOf yN yB 1 (some .byte) site
def P (x : Addr) (cd z : Int32) (args : Array Value) (s : State) : Prop := args = #[.ref x] ∧ Has x "java/lang/String" "coder" "B" (.int cd) s ∧ (cd = 0 ∨ cd = 1) ∧ StaticIs s "java/lang/String" "COMPACT_STRINGS" "Z" (.int z) ∧ ¬ z = 0
def E (cd : Int32) (r : Option Value) (s u : State) : Prop := XT.PureE (some (.int cd)) r s u
theorem law (l : Launch) (x : Addr) (cd z : Int32) : Law l yN 1 0 0 0 yB 1 (some .byte) site (P x cd z) (E cd) [] 0 0 := by
  refine Law.of_walk (plainFor_of_name (by decide +kernel)) (by decide +kernel) (by decide +kernel) (by decide) (fun _ _ h => by rw [h.1]; rfl) (fun _ U U' hal hh h => ⟨h.1, h.2.1.mv hal hh, h.2.2.1, h.2.2.2.1.there hal hh, h.2.2.2.2⟩) (fun r U U' V V' h1 hal h2 h => XT.PureE.mv r U U' V V' h1 hal h2 h) ?_
  intro p e s m args below meth c s₁ X0 hexec hbytes hml hret hlk hnm hown hh0 W hP
  obtain ⟨rfl, hx, hc, s1, hz⟩ := hP
  have c1 : Steps p.tables e below (s₁.setTop (entryFrame m #[.ref x] 1)) (s₁.setTop (mkF m 0 #[.val (.ref x)] [])) := entry rfl
  obtain ⟨T2, X2, q2, st2⟩ := X0.sget hexec hown (wk W (.fieldLink "java/lang/String" 38 "java/lang/String" "COMPACT_STRINGS" "Z")) s1 (fun _ _ h => by rw [hh0]; exact h) (g := (mkF m 0 #[.val (.ref x)] [])) rfl (hb hbytes d0)
  have hh2 := q2.trans hh0
  have c3 : Steps p.tables e below (s₁.setTop (entryFrame m #[.ref x] 1)) (T2.setTop (mkF m 7 #[.val (.ref x)] [.ref x])) := (c1.trans (st2 _ (Steps.refl _))).trans (by
    refine XS.ifNo X2.here hexec rfl (hb hbytes d3) rfl (i0_eq_f hz) ?_
    refine XS.aloadN X2.here hexec rfl (hb hbytes d6) rfl rfl ?_
    exact Steps.refl _)
  obtain ⟨T4, X4, q4, st4⟩ := X2.hget hexec hown (wk W (.fieldLink "java/lang/String" 15 "java/lang/String" "coder" "B")) (hx.mv X2.warmed.alike hh2) (g := (mkF m 7 #[.val (.ref x)] [.ref x])) rfl (rest := []) rfl (hb hbytes d7)
  have c5 : Steps p.tables e below (s₁.setTop (entryFrame m #[.ref x] 1)) (T4.setTop (mkF m 14 #[.val (.ref x)] [.int cd])) := (c3.trans (st4 _ (Steps.refl _))).trans (by
    refine XS.goto X4.here hexec rfl (pc0 := 10) rfl (hb hbytes d10) (by decide) rfl ?_
    exact Steps.refl _)
  exact ⟨T4, some (.int cd), _, _, _, X4, rfl, rfl, rfl, (fun h => by cases h), ⟨rfl, q4.trans hh2⟩, fun fs hl => c5.trans (X4.ireturnOut hexec hret (by rcases hc with rfl | rfl <;> rfl) (Or.inr (Or.inr (Or.inl rfl))) (hb hbytes d14) hl)⟩
end Cdr
namespace Len
def yN : MethodName := ⟨"java/lang/String", "length", "()I"⟩
abbrev yB : ByteArray := jdk_42_method_54_code
theorem d0 : decode yB 0 = .ok (.aload_n 0, 1) := by decide +kernel
theorem d1 : decode yB 1 = .ok (.getfield 9, 3) := by decide +kernel
theorem d4 : decode yB 4 = .ok (.arraylength, 1) := by decide +kernel
theorem d5 : decode yB 5 = .ok (.aload_n 0, 1) := by decide +kernel
theorem d6 : decode yB 6 = .ok (.invokevirtual 335, 3) := by decide +kernel
theorem d9 : decode yB 9 = .ok (.ishr, 1) := by decide +kernel
theorem d10 : decode yB 10 = .ok (.ireturn, 1) := by decide +kernel
def site : List Cond := [.fieldLink "java/lang/String" 9 "java/lang/String" "value" "[B", Cdr.tab] ++ virtW "java/lang/String" 335 "java/lang/String" Cdr.yN Cdr.yN
def tab : Cond := tabOf yN yB 1 (some .int) site
def P (x t : Addr) (V : Cell) (cd : Int32) (n : Nat) (f : Nat → Int32) (z : Int32) (args : Array Value) (s : State) : Prop := args = #[.ref x] ∧ Txt x t V cd n f s ∧ StaticIs s "java/lang/String" "COMPACT_STRINGS" "Z" (.int z) ∧ ¬ z = 0
def E (n : Nat) (r : Option Value) (s u : State) : Prop := XT.PureE (some (.int (Int32.ofNat n))) r s u
/-- length() of a String of n chars, in either coding -/
theorem law (l : Launch) (x t : Addr) (V : Cell) (cd : Int32) (n : Nat) (f : Nat → Int32) (z : Int32) : Law l yN 1 0 1 13 yB 1 (some .int) site (P x t V cd n f z) (E n) [] 0 0 := by
  refine Law.of_walk (plainFor_of_name (by decide +kernel)) (by decide +kernel) (by decide +kernel) (by decide) (fun _ _ h => by rw [h.1]; rfl) (fun _ U U' hal hh h => ⟨h.1, h.2.1.mv hal hh, h.2.2.1.there hal hh, h.2.2.2⟩) (fun r U U' V V' h1 hal h2 h => XT.PureE.mv r U U' V V' h1 hal h2 h) ?_
  intro p e s m args below meth c s₁ X0 hexec hbytes hml hret hlk hnm hown hh0 W hP
  obtain ⟨rfl, hx, s1, hz⟩ := hP
  have v31 := hx.2.2.2.1.2.2.2
  have c1 : Steps p.tables e below (s₁.setTop (entryFrame m #[.ref x] 1)) (s₁.setTop (mkF m 1 #[.val (.ref x)] [.ref x])) := Steps.trans (entry rfl) (by
    show Steps p.tables e below (s₁.setTop (mkF m 0 #[.val (.ref x)] [])) _
    refine XS.aloadN X0.here hexec rfl (hb hbytes d0) rfl rfl ?_
    exact Steps.refl _)
  obtain ⟨T2, X2, q2, st2⟩ := X0.hget hexec hown (wk W (.fieldLink "java/lang/String" 9 "java/lang/String" "value" "[B")) (hx.mv X0.warmed.alike hh0).2.1 (g := (mkF m 1 #[.val (.ref x)] [.ref x])) rfl (rest := []) rfl (hb hbytes d1)
  have hh2 := q2.trans hh0
  have hx2 := hx.mv X2.warmed.alike hh2
  have c3 : Steps p.tables e below (s₁.setTop (entryFrame m #[.ref x] 1)) (T2.setTop (mkF m 6 #[.val (.ref x)] [.ref x, .int (Int32.ofNat V.slots.size)])) := (c1.trans (st2 _ (Steps.refl _))).trans (by
    refine X2.alen hexec hx2.2.2.2.1 rfl rfl (hb hbytes d4) ?_
    refine XS.aloadN X2.here hexec rfl (hb hbytes d5) rfl rfl ?_
    exact Steps.refl _)
  obtain ⟨v4, T4, X4, E4, g4⟩ := X2.callV hexec (Cdr.law l x cd z) hown (wks W (virtW "java/lang/String" 335 "java/lang/String" Cdr.yN Cdr.yN)) rfl (by decide) (wk W Cdr.tab) (W := 1) (Nat.le_of_ble_eq_true rfl) (Nat.le_of_ble_eq_true rfl) (Nat.le_refl _) (Nat.le_refl _) (hx2.1.fc X2.warmed.alike) hx2.1.is (g := (mkF m 6 #[.val (.ref x)] [.ref x, .int (Int32.ofNat V.slots.size)])) rfl (by rw [hml]; rfl) c3 (argsL := []) (rest := [.int (Int32.ofNat V.slots.size)]) rfl rfl (by show 2 * 0 + (1 + 0) ≤ _; decide) (hb hbytes d6) (⟨rfl, hx2.2.2.1, hx.2.2.2.2.1.cd, s1.there X2.warmed.alike hh2, hz⟩)
  obtain ⟨rfl, q4⟩ := E4
  have c5 : Steps p.tables e below (s₁.setTop (entryFrame m #[.ref x] 1)) (T4.setTop (mkF m 10 #[.val (.ref x)] [.int (Int32.ofNat V.slots.size >>> (cd &&& 31))])) := Steps.trans g4 (by
    refine ishr X4.here hexec rfl (hb hbytes d9) rfl ?_
    exact Steps.refl _)
  rw [hx.2.2.2.2.1.len v31] at c5
  exact ⟨T4, some (.int (Int32.ofNat n)), _, _, _, X4, rfl, rfl, rfl, (fun h => by cases h), ⟨rfl, q4.trans hh2⟩, fun fs hl => c5.trans (X4.ireturnOut hexec hret rfl (Or.inl rfl) (hb hbytes d10) hl)⟩
theorem pays {l : Launch} {R : Room} {p : Program} {e : Env} {below : List Frame} {s : State} {sargs : Array Value} {len W : Nat} (x t : Addr) (V : Cell) (cd : Int32) (n : Nat) (f : Nat → Int32) (z : Int32) (htab : tab.before sargs s = true) (hfr : 2 ≤ R.frames) (hlo : W + 25 ≤ R.locals) :
    Back l R p e below s sargs yN len W (fun A₁ a₁ => A₁.cells + 0 ≤ R.cells ∧ A₁.slots + 0 ≤ R.slots ∧ P x t V cd n f z a₁ A₁.U) (fun A₁ _ v₁ B₁ => E n v₁ A₁.U B₁.U ∧ B₁.locs = A₁.locs ++ [] ∧ B₁.cells = A₁.cells + 0 ∧ B₁.slots = A₁.slots + 0) :=
  (law l x t V cd n f z).pays htab hfr (by omega)
end Len
namespace IsL
def yN : MethodName := ⟨"java/lang/String", "isLatin1", "()Z"⟩
abbrev yB : ByteArray := jdk_42_method_154_code
theorem d0 : decode yB 0 = .ok (.getstatic 38, 3) := by decide +kernel
theorem d3 : decode yB 3 = .ok (.ifCond (.eq) 14, 3) := by decide +kernel
theorem d6 : decode yB 6 = .ok (.aload_n 0, 1) := by decide +kernel
theorem d7 : decode yB 7 = .ok (.getfield 15, 3) := by decide +kernel
theorem d10 : decode yB 10 = .ok (.ifCond (.ne) 7, 3) := by decide +kernel
theorem d13 : decode yB 13 = .ok (.iconst 1, 1) := by decide +kernel
theorem d14 : decode yB 14 = .ok (.goto 4, 3) := by decide +kernel
theorem d17 : decode yB 17 = .ok (.iconst 0, 1) := by decide +kernel
theorem d18 : decode yB 18 = .ok (.ireturn, 1) := by decide +kernel
def site : List Cond := [.fieldLink "java/lang/String" 38 "java/lang/String" "COMPACT_STRINGS" "Z", .fieldLink "java/lang/String" 15 "java/lang/String" "coder" "B"]
def tab : Cond := tabOf yN yB 1 (some .boolean) site
def P (x : Addr) (cd z : Int32) (args : Array Value) (s : State) : Prop := args = #[.ref x] ∧ Has x "java/lang/String" "coder" "B" (.int cd) s ∧ (cd = 0 ∨ cd = 1) ∧ StaticIs s "java/lang/String" "COMPACT_STRINGS" "Z" (.int z) ∧ ¬ z = 0
def E (cd : Int32) (r : Option Value) (s u : State) : Prop := XT.PureE (some (.int (1 - cd))) r s u
theorem law (l : Launch) (x : Addr) (cd z : Int32) : Law l yN 1 0 0 0 yB 1 (some .boolean) site (P x cd z) (E cd) [] 0 0 := by
  refine Law.of_walk (plainFor_of_name (by decide +kernel)) (by decide +kernel) (by decide +kernel) (by decide) (fun _ _ h => by rw [h.1]; rfl) (fun _ U U' hal hh h => ⟨h.1, h.2.1.mv hal hh, h.2.2.1, h.2.2.2.1.there hal hh, h.2.2.2.2⟩) (fun r U U' V V' h1 hal h2 h => XT.PureE.mv r U U' V V' h1 hal h2 h) ?_
  intro p e s m args below meth c s₁ X0 hexec hbytes hml hret hlk hnm hown hh0 W hP
  obtain ⟨rfl, hx, hc, s1, hz⟩ := hP
  have c1 : Steps p.tables e below (s₁.setTop (entryFrame m #[.ref x] 1)) (s₁.setTop (mkF m 0 #[.val (.ref x)] [])) := entry rfl
  obtain ⟨T2, X2, q2, st2⟩ := X0.sget hexec hown (wk W (.fieldLink "java/lang/String" 38 "java/lang/String" "COMPACT_STRINGS" "Z")) s1 (fun _ _ h => by rw [hh0]; exact h) (g := (mkF m 0 #[.val (.ref x)] [])) rfl (hb hbytes d0)
  have hh2 := q2.trans hh0
  have c3 : Steps p.tables e below (s₁.setTop (entryFrame m #[.ref x] 1)) (T2.setTop (mkF m 7 #[.val (.ref x)] [.ref x])) := (c1.trans (st2 _ (Steps.refl _))).trans (by
    refine XS.ifNo X2.here hexec rfl (hb hbytes d3) rfl (i0_eq_f hz) ?_
    refine XS.aloadN X2.here hexec rfl (hb hbytes d6) rfl rfl ?_
    exact Steps.refl _)
  obtain ⟨T4, X4, q4, st4⟩ := X2.hget hexec hown (wk W (.fieldLink "java/lang/String" 15 "java/lang/String" "coder" "B")) (hx.mv X2.warmed.alike hh2) (g := (mkF m 7 #[.val (.ref x)] [.ref x])) rfl (rest := []) rfl (hb hbytes d7)
  have c5 : Steps p.tables e below (s₁.setTop (entryFrame m #[.ref x] 1)) (T4.setTop (mkF m 10 #[.val (.ref x)] [.int cd])) := c3.trans (st4 _ (Steps.refl _))
  have c6 : Steps p.tables e below (s₁.setTop (entryFrame m #[.ref x] 1)) (T4.setTop (mkF m 18 #[.val (.ref x)] [.int (1 - cd)])) := by
    rcases hc with rfl | rfl
    · exact c5.trans (by
        refine XS.ifNo X4.here hexec rfl (hb hbytes d10) rfl (i0_ne_f rfl) ?_
        refine iconstV X4.here hexec rfl 1 (hb hbytes d13) (by decide) ?_
        refine XS.goto X4.here hexec rfl (pc0 := 14) rfl (hb hbytes d14) (by decide) rfl ?_
        exact Steps.refl _)
    · exact c5.trans (by
        refine XS.ifYes X4.here hexec rfl (pc0 := 10) rfl (hb hbytes d10) rfl (i0_ne_t (by decide)) (by decide) rfl ?_
        refine iconstV X4.here hexec rfl 0 (hb hbytes d17) (by decide) ?_
        exact Steps.refl _)
  exact ⟨T4, some (.int (1 - cd)), _, _, _, X4, rfl, rfl, rfl, (fun h => by cases h), ⟨rfl, q4.trans hh2⟩, fun fs hl => c6.trans (X4.ireturnOut hexec hret (by rcases hc with rfl | rfl <;> rfl) (Or.inr (Or.inl rfl)) (hb hbytes d18) hl)⟩
end IsL
namespace LChA
def yN : MethodName := ⟨"java/lang/StringLatin1", "charAt", "([BI)C"⟩
abbrev yB : ByteArray := jdk_43_method_2_code
theorem d0 : decode yB 0 = .ok (.iload_n 1, 1) := by decide +kernel
theorem d1 : decode yB 1 = .ok (.aload_n 0, 1) := by decide +kernel
theorem d2 : decode yB 2 = .ok (.arraylength, 1) := by decide +kernel
theorem d3 : decode yB 3 = .ok (.invokestatic 9, 3) := by decide +kernel
theorem d6 : decode yB 6 = .ok (.aload_n 0, 1) := by decide +kernel
theorem d7 : decode yB 7 = .ok (.iload_n 1, 1) := by decide +kernel
theorem d8 : decode yB 8 = .ok (.baload, 1) := by decide +kernel
theorem d9 : decode yB 9 = .ok (.sipush 255, 3) := by decide +kernel
theorem d12 : decode yB 12 = .ok (.iand, 1) := by decide +kernel
theorem d13 : decode yB 13 = .ok (.i2c, 1) := by decide +kernel
theorem d14 : decode yB 14 = .ok (.ireturn, 1) := by decide +kernel
def site : List Cond := [JO.Str_checkIndex.tab] ++ staticW "java/lang/StringLatin1" 9 JO.Str_checkIndex.yN
def tab : Cond := tabOf yN yB 2 (some .char) site
def P (t : Addr) (V : Cell) (i : Nat) (u : Int32) (fm : Value) (args : Array Value) (s : State) : Prop := args = #[.ref t, .int (Int32.ofNat i)] ∧ XT.Arr .byte t V s ∧ V.slots[i]? = some (.int u) ∧ (StaticIs s "jdk/internal/util/Preconditions" "SIOOBE_FORMATTER" "Ljava/util/function/BiFunction;" fm ∧ fm.isRef = true)
def E (u : Int32) (r : Option Value) (s w : State) : Prop := XT.PureE (some (.int (chr8 u))) r s w
theorem law (l : Launch) (t : Addr) (V : Cell) (i : Nat) (u : Int32) (fm : Value) : Law l yN 2 2 2 27 yB 2 (some .char) site (P t V i u fm) (E u) [] 0 0 := by
  refine Law.of_walk (plainFor_of_name (by decide +kernel)) (by decide +kernel) (by decide +kernel) (by decide) (fun _ _ h => by rw [h.1]; rfl) (fun _ U U' hal hh h => ⟨h.1, h.2.1.mv hal hh, h.2.2.1, h.2.2.2.1.there hal hh, h.2.2.2.2⟩) (fun r U U' V V' h1 hal h2 h => XT.PureE.mv r U U' V V' h1 hal h2 h) ?_
  intro p e s m args below meth c s₁ X0 hexec hbytes hml hret hlk hnm hown hh0 W hP
  obtain ⟨rfl, hV, hu, s1, rf⟩ := hP
  have v31 := hV.2.2.2
  have hi : i < V.slots.size := (Array.getElem?_eq_some_iff.mp hu).1
  have c1 : Steps p.tables e below (s₁.setTop (entryFrame m #[.ref t, .int (Int32.ofNat i)] 2)) (s₁.setTop (mkF m 0 #[.val (.ref t), .val (.int (Int32.ofNat i))] [])) := entry rfl
  have c2 : Steps p.tables e below (s₁.setTop (entryFrame m #[.ref t, .int (Int32.ofNat i)] 2)) (s₁.setTop (mkF m 3 #[.val (.ref t), .val (.int (Int32.ofNat i))] [.int (Int32.ofNat V.slots.size), .int (Int32.ofNat i)])) := c1.trans (by
    refine XS.iloadN X0.here hexec rfl (hb hbytes d0) rfl ?_
    refine XS.aloadN X0.here hexec rfl (hb hbytes d1) rfl rfl ?_
    refine X0.alen hexec (hV.mv X0.warmed.alike hh0) rfl rfl (hb hbytes d2) ?_
    exact Steps.refl _)
  obtain ⟨v3, T3, X3, E3, g3⟩ := X0.callS hexec (JO.Str_checkIndex.law l (Int32.ofNat i) (Int32.ofNat V.slots.size) fm) hown (wks W (staticW "java/lang/StringLatin1" 9 JO.Str_checkIndex.yN)) (wk W JO.Str_checkIndex.tab) (W := 0) (Nat.le_of_ble_eq_true rfl) (Nat.le_of_ble_eq_true rfl) (Nat.le_refl _) (Nat.le_refl _) (g := (mkF m 3 #[.val (.ref t), .val (.int (Int32.ofNat i))] [.int (Int32.ofNat V.slots.size), .int (Int32.ofNat i)])) rfl (by rw [hml]; rfl) c2 (argsL := [.int (Int32.ofNat i), .int (Int32.ofNat V.slots.size)]) (rest := []) rfl rfl (by show 2 * 0 + 0 ≤ _; decide) (hb hbytes d3) (⟨rfl, rf, s1.there X0.warmed.alike hh0, Int32.ofNat_not_neg (by omega), lt32 v31 hi⟩)
  obtain ⟨rfl, q3⟩ := E3
  have hh3 := q3.trans hh0
  have c4 : Steps p.tables e below (s₁.setTop (entryFrame m #[.ref t, .int (Int32.ofNat i)] 2)) (T3.setTop (mkF m 14 #[.val (.ref t), .val (.int (Int32.ofNat i))] [.int (chr8 u)])) := Steps.trans g3 (by
    refine XS.aloadN X3.here hexec rfl (hb hbytes d6) rfl rfl ?_
    refine XS.iloadN X3.here hexec rfl (hb hbytes d7) rfl ?_
    refine X3.aget hexec (hV.mv X3.warmed.alike hh3) rfl hu rfl rfl (hb hbytes d8) ?_
    refine sipushV X3.here hexec rfl 255 (hb hbytes d9) (by decide) ?_
    refine XS.iand X3.here hexec rfl (hb hbytes d12) rfl ?_
    refine i2c X3.here hexec rfl (hb hbytes d13) rfl ?_
    exact Steps.refl _)
  exact ⟨T3, some (.int (chr8 u)), _, _, _, X3, rfl, rfl, rfl, (fun h => by cases h), ⟨rfl, hh3⟩, fun fs hl => c4.trans (X3.ireturnOut hexec hret (narrow_c _) (Or.inr (Or.inr (Or.inr (Or.inl rfl)))) (hb hbytes d14) hl)⟩
end LChA
end StrChars
namespace StrChars.Road
open Jvm Sem ClassFile Op Lib Jvm.Stand Jvm.Free Jvm.Free.XT
open Jvm.Lib.Cold (StaticIs)
theorem consq {a : Array Value} {s : State} {c : Jvm.Cond} {L : List Jvm.Cond} (h0 : c.before a s = true) (h : ∀ w ∈ L, w.before a s = true) : ∀ w ∈ c :: L, w.before a s = true := fun w hw => (List.mem_cons.mp hw).elim (fun e => e ▸ h0) (h w)
/-- the words of String.length(), either coding -/
abbrev wordsLen : List Jvm.Cond := [.code Len.yN Len.yB 1 (some .int), .initialized ST, .fieldLink ST 9 ST "value" "[B", .fieldLink ST 38 ST "COMPACT_STRINGS" "Z", .fieldLink ST 15 ST "coder" "B", .code Cdr.yN Cdr.yB 1 (some .byte), .methodLink ST 335 Cdr.yN, .declares Cdr.yN, .selects ST Cdr.yN Cdr.yN, .instanceMethod Cdr.yN]
theorem tabLen_of {a : Array Value} {s : State} (h : ∀ w ∈ wordsLen, w.before a s = true) : Len.tab.before a s = true := by
  have hc : Cdr.tab.before a s = true := unparts (wk h (.code Cdr.yN Cdr.yB 1 (some .byte))) (wks h (.initialized Cdr.yN.cls :: Cdr.site))
  have q := consq hc h
  exact unparts (wk q (.code Len.yN Len.yB 1 (some .int))) (wks q (.initialized Len.yN.cls :: Len.site))
theorem movedLen {Z s : State} {a0 args : Array Value} (hZ : Z.Warmed39 s.vm) (hw : ∀ d ∈ wordsLen, d.before a0 Z = true) : ∀ d ∈ wordsLen, d.before args s = true := fun d hd => by
  have q := hw d hd
  have t : ∀ d ∈ wordsLen, d = .arrayClass .byte ∨ (d.onTables && d.keepsFace) = true := by decide +kernel
  rcases t d hd with rfl | t
  · exact RoadKit.mvA hZ q
  · exact RoadKit.mv hZ q t
/-- the bytes of the chars cs, low before high -/
def wideBytes : List Int32 → List Value
  | [] => []
  | c :: cs => .int (lo8 c) :: .int (hi8 c) :: wideBytes cs
theorem wide_lo (d : Value) : ∀ (cs : List Int32) (j : Nat), j < cs.length → (wideBytes cs).getD (2 * j) d = .int (lo8 (cs.getD j 0))
  | [], j, h => absurd h (Nat.not_lt_zero j)
  | c :: cs, 0, _ => rfl
  | c :: cs, j + 1, h => by
    have q := wide_lo d cs j (by simpa using h)
    rw [show 2 * (j + 1) = 2 * j + 1 + 1 from by omega]
    simpa [wideBytes] using q
theorem wide_hi (d : Value) : ∀ (cs : List Int32) (j : Nat), j < cs.length → (wideBytes cs).getD (2 * j + 1) d = .int (hi8 (cs.getD j 0))
  | [], j, h => absurd h (Nat.not_lt_zero j)
  | c :: cs, 0, _ => rfl
  | c :: cs, j + 1, h => by
    have q := wide_hi d cs j (by simpa using h)
    rw [show 2 * (j + 1) + 1 = 2 * j + 1 + 1 + 1 from by omega]
    simpa [wideBytes] using q
theorem low_at (d : Value) (cs : List Int32) (j : Nat) (h : j < cs.length) : (cs.map fun c => Value.int (lo8 c)).getD j d = .int (lo8 (cs.getD j 0)) := by
  simp [List.getD_eq_getElem?_getD, h]
/-- an array of N2 bytes vs codes the chars cs by the coder cd -/
def CodA (cs : List Int32) (cd N2 : Int32) (vs : List Value) : Prop := (cd = 0 ∧ N2 = Int32.ofNat cs.length ∧ vs = (cs.map fun c => Value.int (lo8 c)) ∧ ∀ c ∈ cs, ¬ 255 < c) ∨ (cd = 1 ∧ N2 = Int32.ofNat (2 * cs.length) ∧ vs = wideBytes cs ∧ ∃ c ∈ cs, 255 < c)
theorem CodA.cod {cs : List Int32} {cd N2 : Int32} {vs : List Value} {V : Cell} (h : CodA cs cd N2 vs) (hn : 2 * cs.length < 2 ^ 31) (hs : V.slots.size = N2.toNatClampNeg) (hv : RoadKit.Has V vs (.int 0)) : Cod cd cs.length (fun j => cs.getD j 0) V := by
  rcases h with ⟨rfl, rfl, rfl, h⟩ | ⟨rfl, rfl, rfl, c, hc, hw⟩
  · rw [n32 (by omega)] at hs
    exact Or.inl ⟨rfl, hs, fun j hj => ⟨by rw [hv j (by omega), low_at _ _ _ hj], by
      have e : cs.getD j 0 = cs[j] := by simp [List.getD_eq_getElem?_getD, hj]
      show ¬ 255 < cs.getD j 0
      rw [e]; exact h _ (List.getElem_mem _)⟩⟩
  · rw [n32 (by omega)] at hs
    obtain ⟨j, hj, rfl⟩ := List.getElem_of_mem hc
    exact Or.inr ⟨rfl, hs, fun j hj => ⟨by rw [hv _ (by omega), wide_lo _ _ _ hj], by rw [hv _ (by omega), wide_hi _ _ _ hj]⟩, j, hj, by
      have e : cs.getD j 0 = cs[j] := by simp [List.getD_eq_getElem?_getD, hj]
      show 255 < cs.getD j 0
      rw [e]; exact hw⟩
/-- an object of exactly java/lang/String, its two fields found: as the laws ask it -/
theorem strObj {Z U : State} {a0 : Array Value} {kI : Nat} (wi : (Jvm.Cond.instantiable ST kI).before a0 Z = true) (al : Z.vm.Alike U.vm) {x : Addr} {v0 c0 : Value} (E : RoadKit.Exa Z U.heap x ST) (V : RoadKit.Fld Z U.heap x ST "value" "[B" v0) (C : RoadKit.Fld Z U.heap x ST "coder" "B" c0) :
    ∃ (D : Cell) (fV fC : Field), Blank ST x D U ∧ Found ST "value" "[B" fV U ∧ Found ST "coder" "B" fC U ∧ D.slots[fV.slot]? = some v0 ∧ D.slots[fC.slot]? = some c0 ∧ RoadKit.slotOf Z ST "value" "[B" = fV.slot ∧ RoadKit.slotOf Z ST "coder" "B" = fC.slot := by
  obtain ⟨D, cfV, kV, iV, fV, hD, gV, stV, knV, obV, asV, slV⟩ := V
  obtain ⟨D', cfC, kC, iC, fC, hD', gC, stC, -, -, asC, slC⟩ := C
  cases hD.symm.trans hD'
  obtain ⟨D2, kD, e1, e2, e3, e4, e5⟩ := E
  cases hD.symm.trans e1
  obtain ⟨c2, k2, i1, i2, i3, -⟩ := Cond.instantiable_spec wi
  cases e2.symm.trans i1
  cases e3.symm.trans i2
  obtain ⟨kU, u1, u2⟩ := al.2.2 _ _ e3
  exact ⟨D, fV, fC, ⟨hD, ⟨knV, fun q hq => by rw [hq] at obV; cases obV⟩, by rw [al.findClass]; exact e2, kU, u1, by rw [u2]; exact i3, by rw [u2]; exact e5 i3⟩, ⟨SBG.found_only al ⟨cfV, kV, iV, gV⟩, stV⟩, ⟨SBG.found_only al ⟨cfC, kC, iC, gC⟩, stC⟩, slV, slC, by simp [RoadKit.slotOf, gV], by simp [RoadKit.slotOf, gC]⟩
theorem sta_is {Z U : State} (al : Z.vm.Alike U.vm) {C n d : String} {v : Value} (S : RoadKit.Sta Z U.heap C n d v) : StaticIs U C n d v := by
  obtain ⟨cfS, iS, kS, fS, st, cS, t1, t2, t3, t4, t5, t6, t7⟩ := S
  exact StaticIs.there (s := { Z with heap := U.heap }) ⟨cfS, iS, kS, fS, st, cS, t1, t2, t3, t4, t5, (fun q => by rw [q] at t6; cases t6), t7⟩ al rfl
/-- **length() OF SUCH A STRING** -/
theorem lenW {p : Program} {l : Launch} {e : Env} {R : Room} {s : State} {args : Array Value} {below : List Frame} {len W : Nat} {Z : State} {a0 : Array Value} {h : Heap} (hZ : Z.Warmed39 s.vm) (hw : ∀ d ∈ wordsLen, d.before a0 Z = true) {kI : Nat} (wi : (Jvm.Cond.instantiable ST kI).before a0 Z = true)
    {x t : Addr} {kb : ClassId} {cs : List Int32} {cd N2 z : Int32} {vs : List Value} (E : RoadKit.Exa Z h x ST) (V : RoadKit.Fld Z h x ST "value" "[B" (.ref t)) (C : RoadKit.Fld Z h x ST "coder" "B" (.int cd)) (K : RoadKit.Arv Z h t kb .byte N2 vs (.int 0)) (hc : CodA cs cd N2 vs) (hb : ∀ c ∈ cs, ¬ c < 0 ∧ ¬ (65535 : Int32) < c)
    (S : RoadKit.Sta Z h ST "COMPACT_STRINGS" "Z" (.int z)) (hz : ¬ z = 0) (l2 : cs.length ≤ 4000) (hfr : 2 ≤ R.frames) (hlo : W + 25 ≤ R.locals) :
    Back l R p e below s args (⟨"java/lang/String", "length", "()I"⟩ : MethodName) len W (fun P a => a = #[.ref x] ∧ P.U.heap = h ∧ P.cells + 0 ≤ R.cells ∧ P.slots + 0 ≤ R.slots)
      (fun P _ v B => ∃ L, (v = some (.int (Int32.ofNat cs.length)) ∧ L = [] ∧ B.U.heap = h) ∧ B.locs = P.locs ++ L ∧ B.cells = P.cells + 0 ∧ B.slots = P.slots + 0) := by
  obtain ⟨A, K1, K2, K3, K4, K5, K6⟩ := K
  have hcod := hc.cod (by omega) K3 K5
  intro m meth c P g ig mk a X hg hsize hdg hW hn hp'
  obtain ⟨rfl, rfl, r1, r2⟩ := hp'
  have al : Z.vm.Alike P.U.vm := hZ.alike.trans X.warmed.alike
  obtain ⟨D, fV, fC, hB, F1, F2, g1, g2, -, -⟩ := strObj wi al E V C
  have hx : Txt x t A cd cs.length (fun j => cs.getD j 0) P.U := ⟨⟨_, hB.2.2.1, D, hB.1, rfl, by cases q : D.vm <;> first | rfl | exact absurd q (hB.2.1.2 _)⟩, Has.of hB F1 g1, Has.of hB F2 g2, ⟨K1.1, State.isArrayOf_alike al K1.2.1, K1.2.2, by rcases hcod with ⟨-, q, -⟩ | ⟨-, q, -⟩ <;> omega⟩, hcod, fun j hj => by
    have e : cs.getD j 0 = cs[j] := by simp [List.getD_eq_getElem?_getD, hj]
    show ¬ cs.getD j 0 < 0 ∧ ¬ 65535 < cs.getD j 0
    rw [e]; exact hb _ (List.getElem_mem _)⟩
  obtain ⟨v, B, X', ⟨⟨hv, hh⟩, hl, hk, hs⟩, st⟩ := Len.pays x t A cd cs.length (fun j => cs.getD j 0) z (tabLen_of (movedLen hZ hw)) hfr hlo m meth c P g ig mk _ X hg hsize hdg hW hn ⟨r1, r2, rfl, hx, sta_is al S, hz⟩
  exact ⟨v, B, X', ⟨[], ⟨hv, rfl, hh⟩, hl, hk, hs⟩, st⟩
end StrChars.Road
namespace StrChars.Road
open Jvm Sem ClassFile Op Lib Jvm.Stand Jvm.Free Jvm.Free.XT
open Jvm.Lib.Cold (StaticIs)
/-- the road's facts of a String, as the laws ask it -/
theorem txt_of {Z U : State} {a0 : Array Value} {kI : Nat} (wi : (Jvm.Cond.instantiable ST kI).before a0 Z = true) (al : Z.vm.Alike U.vm) {x t : Addr} {kb : ClassId} {cs : List Int32} {cd N2 : Int32} {vs : List Value} (E : RoadKit.Exa Z U.heap x ST) (V : RoadKit.Fld Z U.heap x ST "value" "[B" (.ref t)) (C : RoadKit.Fld Z U.heap x ST "coder" "B" (.int cd)) (K : RoadKit.Arv Z U.heap t kb .byte N2 vs (.int 0)) (hc : CodA cs cd N2 vs) (hb : ∀ c ∈ cs, ¬ c < 0 ∧ ¬ (65535 : Int32) < c) (l2 : cs.length ≤ 4000) :
    ∃ A, Txt x t A cd cs.length (fun j => cs.getD j 0) U := by
  obtain ⟨A, K1, K2, K3, K4, K5, K6⟩ := K
  have hcod := hc.cod (by omega) K3 K5
  obtain ⟨D, fV, fC, hB, F1, F2, g1, g2, -, -⟩ := strObj wi al E V C
  exact ⟨A, ⟨_, hB.2.2.1, D, hB.1, rfl, by cases q : D.vm <;> first | rfl | exact absurd q (hB.2.1.2 _)⟩, Has.of hB F1 g1, Has.of hB F2 g2, ⟨K1.1, State.isArrayOf_alike al K1.2.1, K1.2.2, by rcases hcod with ⟨-, q, -⟩ | ⟨-, q, -⟩ <;> omega⟩, hcod, fun j hj => by
    have e : cs.getD j 0 = cs[j] := by simp [List.getD_eq_getElem?_getD, hj]
    show ¬ cs.getD j 0 < 0 ∧ ¬ 65535 < cs.getD j 0
    rw [e]; exact hb _ (List.getElem_mem _)⟩
end StrChars.Road
namespace StrChars
open Jvm Sem ClassFile Op Lib Jvm.Stand Jvm.Free.XT Jvm.Free.ALB Jvm.Free.JM Jvm.Free
open Jvm.Lib.Cold (StaticIs)
namespace ChN
def yN : MethodName := ⟨"java/lang/String", "charAt", "(I)C"⟩
abbrev yB : ByteArray := jdk_42_method_56_code
theorem d0 : decode yB 0 = .ok (.aload_n 0, 1) := by decide +kernel
theorem d1 : decode yB 1 = .ok (.invokevirtual 492, 3) := by decide +kernel
theorem d4 : decode yB 4 = .ok (.ifCond (.eq) 12, 3) := by decide +kernel
theorem d7 : decode yB 7 = .ok (.aload_n 0, 1) := by decide +kernel
theorem d8 : decode yB 8 = .ok (.getfield 9, 3) := by decide +kernel
theorem d11 : decode yB 11 = .ok (.iload_n 1, 1) := by decide +kernel
theorem d12 : decode yB 12 = .ok (.invokestatic 495, 3) := by decide +kernel
theorem d15 : decode yB 15 = .ok (.ireturn, 1) := by decide +kernel
def site : List Cond := [.fieldLink "java/lang/String" 9 "java/lang/String" "value" "[B", IsL.tab, LChA.tab] ++ virtW "java/lang/String" 492 "java/lang/String" IsL.yN IsL.yN ++ staticW "java/lang/String" 495 LChA.yN
def tab : Cond := tabOf yN yB 2 (some .char) site
def P (x t : Addr) (V : Cell) (n : Nat) (f : Nat → Int32) (z : Int32) (fm : Value) (i : Nat) (args : Array Value) (s : State) : Prop := args = #[.ref x, .int (Int32.ofNat i)] ∧ Txt x t V 0 n f s ∧ i < n ∧ StaticIs s "java/lang/String" "COMPACT_STRINGS" "Z" (.int z) ∧ ¬ z = 0 ∧ StaticIs s "jdk/internal/util/Preconditions" "SIOOBE_FORMATTER" "Ljava/util/function/BiFunction;" fm ∧ fm.isRef = true
def E (f : Nat → Int32) (i : Nat) (r : Option Value) (s u : State) : Prop := XT.PureE (some (.int (f i))) r s u
/-- charAt(i) of a Latin-1 String of n chars, i < n: f i -/
theorem law (l : Launch) (x t : Addr) (V : Cell) (n : Nat) (f : Nat → Int32) (z : Int32) (fm : Value) (i : Nat) : Law l yN 2 1 3 40 yB 2 (some .char) site (P x t V n f z fm i) (E f i) [] 0 0 := by
  refine Law.of_walk (plainFor_of_name (by decide +kernel)) (by decide +kernel) (by decide +kernel) (by decide) (fun _ _ h => by rw [h.1]; rfl) (fun _ U U' hal hh h => ⟨h.1, h.2.1.mv hal hh, h.2.2.1, h.2.2.2.1.there hal hh, h.2.2.2.2.1, h.2.2.2.2.2.1.there hal hh, h.2.2.2.2.2.2⟩) (fun r U U' V V' h1 hal h2 h => XT.PureE.mv r U U' V V' h1 hal h2 h) ?_
  intro p e s m args below meth c s₁ X0 hexec hbytes hml hret hlk hnm hown hh0 W hP
  obtain ⟨rfl, hx, hi, s1, hz, s3, rf⟩ := hP
  have v31 := hx.2.2.2.1.2.2.2
  have hr := hx.2.2.2.2.2 i hi
  have hx0 := hx.mv X0.warmed.alike hh0
  have c1 : Steps p.tables e below (s₁.setTop (entryFrame m #[.ref x, .int (Int32.ofNat i)] 2)) (s₁.setTop (mkF m 1 #[.val (.ref x), .val (.int (Int32.ofNat i))] [.ref x])) := Steps.trans (entry rfl) (by
    show Steps p.tables e below (s₁.setTop (mkF m 0 #[.val (.ref x), .val (.int (Int32.ofNat i))] [])) _
    refine XS.aloadN X0.here hexec rfl (hb hbytes d0) rfl rfl ?_
    exact Steps.refl _)
  obtain ⟨v2, T2, X2, E2, g2⟩ := X0.callV hexec (IsL.law l x 0 z) hown (wks W (virtW "java/lang/String" 492 "java/lang/String" IsL.yN IsL.yN)) rfl (by decide) (wk W IsL.tab) (W := 0) (Nat.le_of_ble_eq_true rfl) (Nat.le_of_ble_eq_true rfl) (Nat.le_refl _) (Nat.le_refl _) (hx0.1.fc X0.warmed.alike) hx0.1.is (g := (mkF m 1 #[.val (.ref x), .val (.int (Int32.ofNat i))] [.ref x])) rfl (by rw [hml]; rfl) c1 (argsL := []) (rest := []) rfl rfl (by show 2 * 0 + 0 ≤ _; decide) (hb hbytes d1) (⟨rfl, hx0.2.2.1, hx.2.2.2.2.1.cd, s1.there X0.warmed.alike hh0, hz⟩)
  obtain ⟨rfl, q2⟩ := E2
  have hh2 := q2.trans hh0
  have hx2 := hx.mv X2.warmed.alike hh2
  obtain ⟨-, k1, k2⟩ | ⟨k0, -⟩ := hx.2.2.2.2.1
  · have c3 : Steps p.tables e below (s₁.setTop (entryFrame m #[.ref x, .int (Int32.ofNat i)] 2)) (T2.setTop (mkF m 8 #[.val (.ref x), .val (.int (Int32.ofNat i))] [.ref x])) := Steps.trans g2 (by
      refine XS.ifNo X2.here hexec rfl (hb hbytes d4) rfl (i0_eq_f (by decide)) ?_
      refine XS.aloadN X2.here hexec rfl (hb hbytes d7) rfl rfl ?_
      exact Steps.refl _)
    obtain ⟨T4, X4, q4, st4⟩ := X2.hget hexec hown (wk W (.fieldLink "java/lang/String" 9 "java/lang/String" "value" "[B")) hx2.2.1 (g := (mkF m 8 #[.val (.ref x), .val (.int (Int32.ofNat i))] [.ref x])) rfl (rest := []) rfl (hb hbytes d8)
    have hh4 := q4.trans hh2
    have c5 : Steps p.tables e below (s₁.setTop (entryFrame m #[.ref x, .int (Int32.ofNat i)] 2)) (T4.setTop (mkF m 12 #[.val (.ref x), .val (.int (Int32.ofNat i))] [.int (Int32.ofNat i), .ref t])) := (c3.trans (st4 _ (Steps.refl _))).trans (by
      refine XS.iloadN X4.here hexec rfl (hb hbytes d11) rfl ?_
      exact Steps.refl _)
    obtain ⟨v6, T6, X6, E6, g6⟩ := X4.callS hexec (LChA.law l t V i (lo8 (f i)) fm) hown (wks W (staticW "java/lang/String" 495 LChA.yN)) (wk W LChA.tab) (W := 0) (Nat.le_of_ble_eq_true rfl) (Nat.le_of_ble_eq_true rfl) (Nat.le_refl _) (Nat.le_refl _) (g := (mkF m 12 #[.val (.ref x), .val (.int (Int32.ofNat i))] [.int (Int32.ofNat i), .ref t])) rfl (by rw [hml]; rfl) c5 (argsL := [.ref t, .int (Int32.ofNat i)]) (rest := []) rfl rfl (by show 2 * 0 + 0 ≤ _; decide) (hb hbytes d12) (⟨rfl, hx.2.2.2.1.mv X4.warmed.alike hh4, (k2 i hi).1, s3.there X4.warmed.alike hh4, rf⟩)
    obtain ⟨rfl, q6⟩ := E6
    rw [chr8_lo8 hr.1 (k2 i hi).2] at g6
    exact ⟨T6, some (.int (f i)), _, _, _, X6, rfl, rfl, rfl, (fun h => by cases h), ⟨rfl, q6.trans hh4⟩, fun fs hl => Steps.trans g6 (X6.ireturnOut hexec hret (narrow_ch hr.1 hr.2) (Or.inr (Or.inr (Or.inr (Or.inl rfl)))) (hb hbytes d15) hl)⟩
  · exact absurd k0 (by decide)
theorem pays {l : Launch} {R : Room} {p : Program} {e : Env} {below : List Frame} {s : State} {sargs : Array Value} {len W : Nat} (x t : Addr) (V : Cell) (n : Nat) (f : Nat → Int32) (z : Int32) (fm : Value) (i : Nat) (htab : tab.before sargs s = true) (hfr : 4 ≤ R.frames) (hlo : W + 53 ≤ R.locals) :
    Back l R p e below s sargs yN len W (fun A₁ a₁ => A₁.cells + 0 ≤ R.cells ∧ A₁.slots + 0 ≤ R.slots ∧ P x t V n f z fm i a₁ A₁.U) (fun A₁ _ v₁ B₁ => E f i v₁ A₁.U B₁.U ∧ B₁.locs = A₁.locs ++ [] ∧ B₁.cells = A₁.cells + 0 ∧ B₁.slots = A₁.slots + 0) :=
  (law l x t V n f z fm i).pays htab hfr (by omega)
end ChN
end StrChars
namespace StrChars.Road
open Jvm Sem ClassFile Op Lib Jvm.Stand Jvm.Free Jvm.Free.XT
open Jvm.Lib.Cold (StaticIs)
/-- the words of String.charAt(int), the Latin-1 road alone -/
abbrev wordsChN : List Jvm.Cond := [.code ChN.yN ChN.yB 2 (some .char), .initialized ST, .fieldLink ST 9 ST "value" "[B", .fieldLink ST 38 ST "COMPACT_STRINGS" "Z", .fieldLink ST 15 ST "coder" "B", .code IsL.yN IsL.yB 1 (some .boolean), .methodLink ST 492 IsL.yN, .declares IsL.yN, .selects ST IsL.yN IsL.yN, .instanceMethod IsL.yN,
  .methodLink ST 495 LChA.yN, .static LChA.yN, .code LChA.yN LChA.yB 2 (some .char), .initialized "java/lang/StringLatin1", .methodLink "java/lang/StringLatin1" 9 JO.Str_checkIndex.yN, .static JO.Str_checkIndex.yN, .code JO.Str_checkIndex.yN JO.Str_checkIndex.yB 2 none,
  .fieldLink ST 1053 "jdk/internal/util/Preconditions" "SIOOBE_FORMATTER" "Ljava/util/function/BiFunction;", .methodLink ST 1059 JC.PreCheck.yN, .static JC.PreCheck.yN, .code JC.PreCheck.yN JC.PreCheck.yB 3 (some .int), .initialized "jdk/internal/util/Preconditions"]
theorem tabChN_of {a : Array Value} {s : State} (h : ∀ w ∈ wordsChN, w.before a s = true) : ChN.tab.before a s = true := by
  have hp : JC.PreCheck.tab.before a s = true := unparts (wk h (.code JC.PreCheck.yN JC.PreCheck.yB 3 (some .int))) (wks h (.initialized JC.PreCheck.yN.cls :: JC.PreCheck.site))
  have qk := consq hp h
  have hk : JO.Str_checkIndex.tab.before a s = true := unparts (wk qk (.code JO.Str_checkIndex.yN JO.Str_checkIndex.yB 2 none)) (wks qk (.initialized JO.Str_checkIndex.yN.cls :: JO.Str_checkIndex.site))
  have ql := consq hk h
  have hl : LChA.tab.before a s = true := unparts (wk ql (.code LChA.yN LChA.yB 2 (some .char))) (wks ql (.initialized LChA.yN.cls :: LChA.site))
  have hi : IsL.tab.before a s = true := unparts (wk h (.code IsL.yN IsL.yB 1 (some .boolean))) (wks h (.initialized IsL.yN.cls :: IsL.site))
  have q := consq hi (consq hl h)
  exact unparts (wk q (.code ChN.yN ChN.yB 2 (some .char))) (wks q (.initialized ChN.yN.cls :: ChN.site))
theorem movedChN {Z s : State} {a0 args : Array Value} (hZ : Z.Warmed39 s.vm) (hw : ∀ d ∈ wordsChN, d.before a0 Z = true) : ∀ d ∈ wordsChN, d.before args s = true := fun d hd => by
  have t : ∀ d ∈ wordsChN, (d.onTables && d.keepsFace) = true := by decide +kernel
  exact RoadKit.mv hZ (hw d hd) (t d hd)
/-- **charAt(i) OF A LATIN-1 STRING**, i < n: the char -/
theorem chN {p : Program} {l : Launch} {e : Env} {R : Room} {s : State} {args : Array Value} {below : List Frame} {len W : Nat} {Z : State} {a0 : Array Value} {h : Heap} (hZ : Z.Warmed39 s.vm) (hw : ∀ d ∈ wordsChN, d.before a0 Z = true) {kI : Nat} (wi : (Jvm.Cond.instantiable ST kI).before a0 Z = true)
    {x t : Addr} {kb : ClassId} {cs : List Int32} {N2 z : Int32} {vs : List Value} {fm : Value} {i : Nat} {j : Int32} (E : RoadKit.Exa Z h x ST) (V : RoadKit.Fld Z h x ST "value" "[B" (.ref t)) (C : RoadKit.Fld Z h x ST "coder" "B" (.int 0)) (K : RoadKit.Arv Z h t kb .byte N2 vs (.int 0)) (hc : CodA cs 0 N2 vs) (hb : ∀ c ∈ cs, ¬ c < 0 ∧ ¬ (65535 : Int32) < c)
    (S : RoadKit.Sta Z h ST "COMPACT_STRINGS" "Z" (.int z)) (hz : ¬ z = 0) (F : RoadKit.Sta Z h "jdk/internal/util/Preconditions" "SIOOBE_FORMATTER" "Ljava/util/function/BiFunction;" fm) (rf : fm.isRef = true) (l2 : cs.length ≤ 4000) (hi : i < cs.length) (hj : j = Int32.ofNat i) (hfr : 4 ≤ R.frames) (hlo : W + 53 ≤ R.locals) :
    Back l R p e below s args (⟨"java/lang/String", "charAt", "(I)C"⟩ : MethodName) len W (fun P a => a = #[.ref x, .int j] ∧ P.U.heap = h ∧ P.cells + 0 ≤ R.cells ∧ P.slots + 0 ≤ R.slots)
      (fun P _ v B => ∃ L, (v = some (.int (cs.getD i 0)) ∧ L = [] ∧ B.U.heap = h) ∧ B.locs = P.locs ++ L ∧ B.cells = P.cells + 0 ∧ B.slots = P.slots + 0) := by
  subst hj
  intro m meth c P g ig mk a X hg hsize hdg hW hn hp'
  obtain ⟨rfl, rfl, r1, r2⟩ := hp'
  have al : Z.vm.Alike P.U.vm := hZ.alike.trans X.warmed.alike
  obtain ⟨A, hx⟩ := txt_of wi al E V C K hc hb l2
  obtain ⟨v, B, X', ⟨⟨hv, hh⟩, hl, hk, hs⟩, st⟩ := ChN.pays x t A cs.length (fun j => cs.getD j 0) z fm i (tabChN_of (movedChN hZ hw)) hfr hlo m meth c P g ig mk _ X hg hsize hdg hW hn ⟨r1, r2, rfl, hx, hi, sta_is al S, hz, sta_is al F, rf⟩
  exact ⟨v, B, X', ⟨[], ⟨hv, rfl, hh⟩, hl, hk, hs⟩, st⟩
/-- what backV says of its String, as the contracts of this text ask it: cs's low bytes, coder 0 -/
theorem codOf {cs : List Int32} {n : Nat} (hn : cs.length = n) (hb : ∀ c ∈ cs, ¬ 255 < c) : CodA cs 0 (Int32.ofNat n) ((cs.map lo8).map Value.int) := Or.inl ⟨rfl, by rw [hn], by simp [List.map_map, Function.comp_def], hb⟩
end StrChars.Road
end Jvm.Pilot.@@N@@

namespace Jvm.Pilot.@@N@@
open Jvm Jvm.ClassFile Sem Op Lib Jvm.Free Jvm.Stand Jvm.LawKit Jvm.RoadKit Bundle Jvm.OwnKit Jvm.Pilot.@@N@@.Jvm.D
theorem b1_0 : Dc jdk_42_method_149_code 0 (.aload_n 0) 1 1 := ⟨by decide +kernel, rfl⟩
theorem b1_1 : Dc jdk_42_method_149_code 1 (.invokespecial 1) 3 4 := ⟨by decide +kernel, rfl⟩
theorem b1_4 : Dc jdk_42_method_149_code 4 (.iload_n 3) 1 5 := ⟨by decide +kernel, rfl⟩
theorem b1_5 : Db jdk_42_method_149_code 5 (.ifCond .ne 22) (22) 8 27 := ⟨by decide +kernel, rfl, by decide, by decide⟩
theorem b1_8 : Dc jdk_42_method_149_code 8 (.aload_n 0) 1 9 := ⟨by decide +kernel, rfl⟩
theorem b1_9 : Dc jdk_42_method_149_code 9 (.ldc 7) 2 11 := ⟨by decide +kernel, rfl⟩
theorem b1_11 : Dc jdk_42_method_149_code 11 (.getfield 9) 3 14 := ⟨by decide +kernel, rfl⟩
theorem b1_14 : Dc jdk_42_method_149_code 14 (.putfield 9) 3 17 := ⟨by decide +kernel, rfl⟩
theorem b1_17 : Dc jdk_42_method_149_code 17 (.aload_n 0) 1 18 := ⟨by decide +kernel, rfl⟩
theorem b1_18 : Dc jdk_42_method_149_code 18 (.ldc 7) 2 20 := ⟨by decide +kernel, rfl⟩
theorem b1_20 : Dc jdk_42_method_149_code 20 (.getfield 15) 3 23 := ⟨by decide +kernel, rfl⟩
theorem b1_23 : Dc jdk_42_method_149_code 23 (.putfield 15) 3 26 := ⟨by decide +kernel, rfl⟩
theorem b1_26 : Dc jdk_42_method_149_code 26 (.return_) 1 27 := ⟨by decide +kernel, rfl⟩
theorem b0_0 : Dc jdk_42_method_3_code 0 (.aload_n 0) 1 1 := ⟨by decide +kernel, rfl⟩
theorem b0_1 : Dc jdk_42_method_3_code 1 (.aload_n 1) 1 2 := ⟨by decide +kernel, rfl⟩
theorem b0_2 : Dc jdk_42_method_3_code 2 (.iconst 0) 1 3 := ⟨by decide +kernel, rfl⟩
theorem b0_3 : Dc jdk_42_method_3_code 3 (.aload_n 1) 1 4 := ⟨by decide +kernel, rfl⟩
theorem b0_4 : Dc jdk_42_method_3_code 4 (.arraylength) 1 5 := ⟨by decide +kernel, rfl⟩
theorem b0_5 : Dc jdk_42_method_3_code 5 (.aconst_null) 1 6 := ⟨by decide +kernel, rfl⟩
theorem b0_6 : Dc jdk_42_method_3_code 6 (.invokespecial 27) 3 9 := ⟨by decide +kernel, rfl⟩
theorem b0_9 : Dc jdk_42_method_3_code 9 (.return_) 1 10 := ⟨by decide +kernel, rfl⟩
theorem b7_0 : Dc jdk_30_method_1_code 0 (.aload_n 0) 1 1 := ⟨by decide +kernel, rfl⟩
theorem b7_1 : Dc jdk_30_method_1_code 1 (.invokespecial 1) 3 4 := ⟨by decide +kernel, rfl⟩
theorem b7_4 : Dc jdk_30_method_1_code 4 (.return_) 1 5 := ⟨by decide +kernel, rfl⟩
theorem b8_0 : Dc jdk_31_method_11_code 0 (.aload_n 0) 1 1 := ⟨by decide +kernel, rfl⟩
theorem b8_1 : Db jdk_31_method_11_code 1 (.ifnonnull 12) (12) 4 13 := ⟨by decide +kernel, rfl, by decide, by decide⟩
theorem b8_13 : Dc jdk_31_method_11_code 13 (.aload_n 0) 1 14 := ⟨by decide +kernel, rfl⟩
theorem b8_14 : Dc jdk_31_method_11_code 14 (.areturn) 1 15 := ⟨by decide +kernel, rfl⟩
theorem b15_0 : Dc jdk_42_method_152_code 0 (.getstatic 38) 3 3 := ⟨by decide +kernel, rfl⟩
theorem b15_3 : Db jdk_42_method_152_code 3 (.ifCond .eq 10) (10) 6 13 := ⟨by decide +kernel, rfl, by decide, by decide⟩
theorem b15_6 : Dc jdk_42_method_152_code 6 (.aload_n 0) 1 7 := ⟨by decide +kernel, rfl⟩
theorem b15_7 : Dc jdk_42_method_152_code 7 (.getfield 15) 3 10 := ⟨by decide +kernel, rfl⟩
theorem b15_10 : Db jdk_42_method_152_code 10 (.goto 4) (4) 13 14 := ⟨by decide +kernel, rfl, by decide, by decide⟩
theorem b15_14 : Dc jdk_42_method_152_code 14 (.ireturn) 1 15 := ⟨by decide +kernel, rfl⟩
theorem b23_0 : Dc jdk_68_method_68_code 0 (.getstatic 18) 3 3 := ⟨by decide +kernel, rfl⟩
theorem b23_3 : Db jdk_68_method_68_code 3 (.ifCond .eq 14) (14) 6 17 := ⟨by decide +kernel, rfl, by decide, by decide⟩
theorem b23_6 : Dc jdk_68_method_68_code 6 (.aload_n 0) 1 7 := ⟨by decide +kernel, rfl⟩
theorem b23_7 : Dc jdk_68_method_68_code 7 (.getfield 22) 3 10 := ⟨by decide +kernel, rfl⟩
theorem b23_10 : Db jdk_68_method_68_code 10 (.ifCond .ne 7) (7) 13 17 := ⟨by decide +kernel, rfl, by decide, by decide⟩
theorem b23_13 : Dc jdk_68_method_68_code 13 (.iconst 1) 1 14 := ⟨by decide +kernel, rfl⟩
theorem b23_14 : Db jdk_68_method_68_code 14 (.goto 4) (4) 17 18 := ⟨by decide +kernel, rfl, by decide, by decide⟩
theorem b23_18 : Dc jdk_68_method_68_code 18 (.ireturn) 1 19 := ⟨by decide +kernel, rfl⟩
theorem b28_0 : Dc jdk_68_method_64_code 0 (.aload_n 0) 1 1 := ⟨by decide +kernel, rfl⟩
theorem b28_1 : Dc jdk_68_method_64_code 1 (.getfield 15) 3 4 := ⟨by decide +kernel, rfl⟩
theorem b28_4 : Dc jdk_68_method_64_code 4 (.areturn) 1 5 := ⟨by decide +kernel, rfl⟩
theorem b30_0 : Dc jdk_68_method_6_code 0 (.aload_n 0) 1 1 := ⟨by decide +kernel, rfl⟩
theorem b30_1 : Dc jdk_68_method_6_code 1 (.getfield 79) 3 4 := ⟨by decide +kernel, rfl⟩
theorem b30_4 : Dc jdk_68_method_6_code 4 (.ireturn) 1 5 := ⟨by decide +kernel, rfl⟩
theorem b29_0 : Dc jdk_67_method_93_code 0 (.aload_n 0) 1 1 := ⟨by decide +kernel, rfl⟩
theorem b29_1 : Dc jdk_67_method_93_code 1 (.invokespecial 343) 3 4 := ⟨by decide +kernel, rfl⟩
theorem b29_4 : Dc jdk_67_method_93_code 4 (.ireturn) 1 5 := ⟨by decide +kernel, rfl⟩
theorem b16_0 : Dc jdk_68_method_9_code 0 (.aload_n 0) 1 1 := ⟨by decide +kernel, rfl⟩
theorem b16_1 : Dc jdk_68_method_9_code 1 (.getfield 15) 3 4 := ⟨by decide +kernel, rfl⟩
theorem b16_4 : Dc jdk_68_method_9_code 4 (.arraylength) 1 5 := ⟨by decide +kernel, rfl⟩
theorem b16_5 : Dc jdk_68_method_9_code 5 (.aload_n 0) 1 6 := ⟨by decide +kernel, rfl⟩
theorem b16_6 : Dc jdk_68_method_9_code 6 (.getfield 22) 3 9 := ⟨by decide +kernel, rfl⟩
theorem b16_9 : Dc jdk_68_method_9_code 9 (.ishr) 1 10 := ⟨by decide +kernel, rfl⟩
theorem b16_10 : Dc jdk_68_method_9_code 10 (.istore_n 2) 1 11 := ⟨by decide +kernel, rfl⟩
theorem b16_11 : Dc jdk_68_method_9_code 11 (.iload_n 1) 1 12 := ⟨by decide +kernel, rfl⟩
theorem b16_12 : Dc jdk_68_method_9_code 12 (.iload_n 2) 1 13 := ⟨by decide +kernel, rfl⟩
theorem b16_13 : Dc jdk_68_method_9_code 13 (.isub) 1 14 := ⟨by decide +kernel, rfl⟩
theorem b16_14 : Db jdk_68_method_9_code 14 (.ifCond .le 24) (24) 17 38 := ⟨by decide +kernel, rfl, by decide, by decide⟩
theorem b16_38 : Dc jdk_68_method_9_code 38 (.return_) 1 39 := ⟨by decide +kernel, rfl⟩
theorem b6_0 : Dc prog_28_method_1_code 0 (.aload_n 0) 1 1 := ⟨by decide +kernel, rfl⟩
theorem b6_1 : Dc prog_28_method_1_code 1 (.invokespecial 1) 3 4 := ⟨by decide +kernel, rfl⟩
theorem b6_4 : Dc prog_28_method_1_code 4 (.aload_n 1) 1 5 := ⟨by decide +kernel, rfl⟩
theorem b6_5 : Dc prog_28_method_1_code 5 (.ldc 7) 2 7 := ⟨by decide +kernel, rfl⟩
theorem b6_7 : Dc prog_28_method_1_code 7 (.invokestatic 9) 3 10 := ⟨by decide +kernel, rfl⟩
theorem b6_10 : Dc prog_28_method_1_code 10 (.pop) 1 11 := ⟨by decide +kernel, rfl⟩
theorem b6_11 : Dc prog_28_method_1_code 11 (.iload_n 2) 1 12 := ⟨by decide +kernel, rfl⟩
theorem b6_12 : Dc prog_28_method_1_code 12 (.iconst 1) 1 13 := ⟨by decide +kernel, rfl⟩
theorem b6_13 : Db prog_28_method_1_code 13 (.if_icmp .lt 9) (9) 16 22 := ⟨by decide +kernel, rfl, by decide, by decide⟩
theorem b6_16 : Dc prog_28_method_1_code 16 (.iload_n 2) 1 17 := ⟨by decide +kernel, rfl⟩
theorem b6_17 : Dc prog_28_method_1_code 17 (.ldc 17) 2 19 := ⟨by decide +kernel, rfl⟩
theorem b6_19 : Db prog_28_method_1_code 19 (.if_icmp .le 13) (13) 22 32 := ⟨by decide +kernel, rfl, by decide, by decide⟩
theorem b6_32 : Dc prog_28_method_1_code 32 (.aload_n 0) 1 33 := ⟨by decide +kernel, rfl⟩
theorem b6_33 : Dc prog_28_method_1_code 33 (.aload_n 1) 1 34 := ⟨by decide +kernel, rfl⟩
theorem b6_34 : Dc prog_28_method_1_code 34 (.putfield 25) 3 37 := ⟨by decide +kernel, rfl⟩
theorem b6_37 : Dc prog_28_method_1_code 37 (.aload_n 0) 1 38 := ⟨by decide +kernel, rfl⟩
theorem b6_38 : Dc prog_28_method_1_code 38 (.iload_n 2) 1 39 := ⟨by decide +kernel, rfl⟩
theorem b6_39 : Dc prog_28_method_1_code 39 (.putfield 28) 3 42 := ⟨by decide +kernel, rfl⟩
theorem b6_42 : Dc prog_28_method_1_code 42 (.return_) 1 43 := ⟨by decide +kernel, rfl⟩
theorem b11_0 : Dc jdk_68_method_2_code 0 (.aload_n 0) 1 1 := ⟨by decide +kernel, rfl⟩
theorem b11_1 : Dc jdk_68_method_2_code 1 (.invokespecial 3) 3 4 := ⟨by decide +kernel, rfl⟩
theorem b11_4 : Dc jdk_68_method_2_code 4 (.getstatic 18) 3 7 := ⟨by decide +kernel, rfl⟩
theorem b11_7 : Db jdk_68_method_2_code 7 (.ifCond .eq 18) (18) 10 25 := ⟨by decide +kernel, rfl, by decide, by decide⟩
theorem b11_10 : Dc jdk_68_method_2_code 10 (.aload_n 0) 1 11 := ⟨by decide +kernel, rfl⟩
theorem b11_11 : Dc jdk_68_method_2_code 11 (.iload_n 1) 1 12 := ⟨by decide +kernel, rfl⟩
theorem b11_12 : Dc jdk_68_method_2_code 12 (.newarray .byte) 2 14 := ⟨by decide +kernel, rfl⟩
theorem b11_14 : Dc jdk_68_method_2_code 14 (.putfield 15) 3 17 := ⟨by decide +kernel, rfl⟩
theorem b11_17 : Dc jdk_68_method_2_code 17 (.aload_n 0) 1 18 := ⟨by decide +kernel, rfl⟩
theorem b11_18 : Dc jdk_68_method_2_code 18 (.iconst 0) 1 19 := ⟨by decide +kernel, rfl⟩
theorem b11_19 : Dc jdk_68_method_2_code 19 (.putfield 22) 3 22 := ⟨by decide +kernel, rfl⟩
theorem b11_22 : Db jdk_68_method_2_code 22 (.goto 16) (16) 25 38 := ⟨by decide +kernel, rfl, by decide, by decide⟩
theorem b11_38 : Dc jdk_68_method_2_code 38 (.return_) 1 39 := ⟨by decide +kernel, rfl⟩
theorem b10_0 : Dc jdk_67_method_1_code 0 (.aload_n 0) 1 1 := ⟨by decide +kernel, rfl⟩
theorem b10_1 : Dc jdk_67_method_1_code 1 (.bipush 16) 2 3 := ⟨by decide +kernel, rfl⟩
theorem b10_3 : Dc jdk_67_method_1_code 3 (.invokespecial 1) 3 6 := ⟨by decide +kernel, rfl⟩
theorem b10_6 : Dc jdk_67_method_1_code 6 (.return_) 1 7 := ⟨by decide +kernel, rfl⟩
theorem b18_0 : Dc jdk_68_method_71_code 0 (.getstatic 18) 3 3 := ⟨by decide +kernel, rfl⟩
theorem b18_3 : Db jdk_68_method_71_code 3 (.ifCond .eq 18) (18) 6 21 := ⟨by decide +kernel, rfl, by decide, by decide⟩
theorem b18_6 : Dc jdk_68_method_71_code 6 (.aload_n 0) 1 7 := ⟨by decide +kernel, rfl⟩
theorem b18_7 : Dc jdk_68_method_71_code 7 (.getfield 22) 3 10 := ⟨by decide +kernel, rfl⟩
theorem b18_10 : Dc jdk_68_method_71_code 10 (.aload_n 1) 1 11 := ⟨by decide +kernel, rfl⟩
theorem b18_11 : Dc jdk_68_method_71_code 11 (.invokevirtual 40) 3 14 := ⟨by decide +kernel, rfl⟩
theorem b18_14 : Db jdk_68_method_71_code 14 (.if_icmp .eq 7) (7) 17 21 := ⟨by decide +kernel, rfl, by decide, by decide⟩
theorem b18_21 : Dc jdk_68_method_71_code 21 (.return_) 1 22 := ⟨by decide +kernel, rfl⟩
theorem b19_0 : Dc jdk_42_method_147_code 0 (.aload_n 0) 1 1 := ⟨by decide +kernel, rfl⟩
theorem b19_1 : Dc jdk_42_method_147_code 1 (.invokevirtual 335) 3 4 := ⟨by decide +kernel, rfl⟩
theorem b19_4 : Dc jdk_42_method_147_code 4 (.iload_n 3) 1 5 := ⟨by decide +kernel, rfl⟩
theorem b19_5 : Db jdk_42_method_147_code 5 (.if_icmp .ne 23) (23) 8 28 := ⟨by decide +kernel, rfl, by decide, by decide⟩
theorem b19_8 : Dc jdk_42_method_147_code 8 (.aload_n 0) 1 9 := ⟨by decide +kernel, rfl⟩
theorem b19_9 : Dc jdk_42_method_147_code 9 (.getfield 9) 3 12 := ⟨by decide +kernel, rfl⟩
theorem b19_12 : Dc jdk_42_method_147_code 12 (.iconst 0) 1 13 := ⟨by decide +kernel, rfl⟩
theorem b19_13 : Dc jdk_42_method_147_code 13 (.aload_n 1) 1 14 := ⟨by decide +kernel, rfl⟩
theorem b19_14 : Dc jdk_42_method_147_code 14 (.iload_n 2) 1 15 := ⟨by decide +kernel, rfl⟩
theorem b19_15 : Dc jdk_42_method_147_code 15 (.iload_n 3) 1 16 := ⟨by decide +kernel, rfl⟩
theorem b19_16 : Dc jdk_42_method_147_code 16 (.ishl) 1 17 := ⟨by decide +kernel, rfl⟩
theorem b19_17 : Dc jdk_42_method_147_code 17 (.aload_n 0) 1 18 := ⟨by decide +kernel, rfl⟩
theorem b19_18 : Dc jdk_42_method_147_code 18 (.getfield 9) 3 21 := ⟨by decide +kernel, rfl⟩
theorem b19_21 : Dc jdk_42_method_147_code 21 (.arraylength) 1 22 := ⟨by decide +kernel, rfl⟩
theorem b19_22 : Dc jdk_42_method_147_code 22 (.invokestatic 212) 3 25 := ⟨by decide +kernel, rfl⟩
theorem b19_25 : Db jdk_42_method_147_code 25 (.goto 18) (18) 28 43 := ⟨by decide +kernel, rfl, by decide, by decide⟩
theorem b19_43 : Dc jdk_42_method_147_code 43 (.return_) 1 44 := ⟨by decide +kernel, rfl⟩
theorem b17_0 : Dc jdk_68_method_73_code 0 (.aload_n 0) 1 1 := ⟨by decide +kernel, rfl⟩
theorem b17_1 : Dc jdk_68_method_73_code 1 (.aload_n 2) 1 2 := ⟨by decide +kernel, rfl⟩
theorem b17_2 : Dc jdk_68_method_73_code 2 (.invokevirtual 397) 3 5 := ⟨by decide +kernel, rfl⟩
theorem b17_5 : Dc jdk_68_method_73_code 5 (.aload_n 2) 1 6 := ⟨by decide +kernel, rfl⟩
theorem b17_6 : Dc jdk_68_method_73_code 6 (.aload_n 0) 1 7 := ⟨by decide +kernel, rfl⟩
theorem b17_7 : Dc jdk_68_method_73_code 7 (.getfield 15) 3 10 := ⟨by decide +kernel, rfl⟩
theorem b17_10 : Dc jdk_68_method_73_code 10 (.iload_n 1) 1 11 := ⟨by decide +kernel, rfl⟩
theorem b17_11 : Dc jdk_68_method_73_code 11 (.aload_n 0) 1 12 := ⟨by decide +kernel, rfl⟩
theorem b17_12 : Dc jdk_68_method_73_code 12 (.getfield 22) 3 15 := ⟨by decide +kernel, rfl⟩
theorem b17_15 : Dc jdk_68_method_73_code 15 (.invokevirtual 399) 3 18 := ⟨by decide +kernel, rfl⟩
theorem b17_18 : Dc jdk_68_method_73_code 18 (.return_) 1 19 := ⟨by decide +kernel, rfl⟩
theorem b13_0 : Dc jdk_68_method_22_code 0 (.aload_n 1) 1 1 := ⟨by decide +kernel, rfl⟩
theorem b13_1 : Db jdk_68_method_22_code 1 (.ifnonnull 8) (8) 4 9 := ⟨by decide +kernel, rfl, by decide, by decide⟩
theorem b13_9 : Dc jdk_68_method_22_code 9 (.aload_n 1) 1 10 := ⟨by decide +kernel, rfl⟩
theorem b13_10 : Dc jdk_68_method_22_code 10 (.invokevirtual 32) 3 13 := ⟨by decide +kernel, rfl⟩
theorem b13_13 : Dc jdk_68_method_22_code 13 (.istore_n 2) 1 14 := ⟨by decide +kernel, rfl⟩
theorem b13_14 : Dc jdk_68_method_22_code 14 (.aload_n 0) 1 15 := ⟨by decide +kernel, rfl⟩
theorem b13_15 : Dc jdk_68_method_22_code 15 (.aload_n 0) 1 16 := ⟨by decide +kernel, rfl⟩
theorem b13_16 : Dc jdk_68_method_22_code 16 (.getfield 79) 3 19 := ⟨by decide +kernel, rfl⟩
theorem b13_19 : Dc jdk_68_method_22_code 19 (.iload_n 2) 1 20 := ⟨by decide +kernel, rfl⟩
theorem b13_20 : Dc jdk_68_method_22_code 20 (.iadd) 1 21 := ⟨by decide +kernel, rfl⟩
theorem b13_21 : Dc jdk_68_method_22_code 21 (.invokevirtual 100) 3 24 := ⟨by decide +kernel, rfl⟩
theorem b13_24 : Dc jdk_68_method_22_code 24 (.aload_n 0) 1 25 := ⟨by decide +kernel, rfl⟩
theorem b13_25 : Dc jdk_68_method_22_code 25 (.aload_n 0) 1 26 := ⟨by decide +kernel, rfl⟩
theorem b13_26 : Dc jdk_68_method_22_code 26 (.getfield 79) 3 29 := ⟨by decide +kernel, rfl⟩
theorem b13_29 : Dc jdk_68_method_22_code 29 (.aload_n 1) 1 30 := ⟨by decide +kernel, rfl⟩
theorem b13_30 : Dc jdk_68_method_22_code 30 (.invokevirtual 208) 3 33 := ⟨by decide +kernel, rfl⟩
theorem b13_33 : Dc jdk_68_method_22_code 33 (.aload_n 0) 1 34 := ⟨by decide +kernel, rfl⟩
theorem b13_34 : Dc jdk_68_method_22_code 34 (.dup) 1 35 := ⟨by decide +kernel, rfl⟩
theorem b13_35 : Dc jdk_68_method_22_code 35 (.getfield 79) 3 38 := ⟨by decide +kernel, rfl⟩
theorem b13_38 : Dc jdk_68_method_22_code 38 (.iload_n 2) 1 39 := ⟨by decide +kernel, rfl⟩
theorem b13_39 : Dc jdk_68_method_22_code 39 (.iadd) 1 40 := ⟨by decide +kernel, rfl⟩
theorem b13_40 : Dc jdk_68_method_22_code 40 (.putfield 79) 3 43 := ⟨by decide +kernel, rfl⟩
theorem b13_43 : Dc jdk_68_method_22_code 43 (.aload_n 0) 1 44 := ⟨by decide +kernel, rfl⟩
theorem b13_44 : Dc jdk_68_method_22_code 44 (.areturn) 1 45 := ⟨by decide +kernel, rfl⟩
theorem b12_0 : Dc jdk_67_method_7_code 0 (.aload_n 0) 1 1 := ⟨by decide +kernel, rfl⟩
theorem b12_1 : Dc jdk_67_method_7_code 1 (.aload_n 1) 1 2 := ⟨by decide +kernel, rfl⟩
theorem b12_2 : Dc jdk_67_method_7_code 2 (.invokespecial 29) 3 5 := ⟨by decide +kernel, rfl⟩
theorem b12_5 : Dc jdk_67_method_7_code 5 (.pop) 1 6 := ⟨by decide +kernel, rfl⟩
theorem b12_6 : Dc jdk_67_method_7_code 6 (.aload_n 0) 1 7 := ⟨by decide +kernel, rfl⟩
theorem b12_7 : Dc jdk_67_method_7_code 7 (.areturn) 1 8 := ⟨by decide +kernel, rfl⟩
theorem b22_0 : Dc jdk_33_method_13_code 0 (.iconst 1) 1 1 := ⟨by decide +kernel, rfl⟩
theorem b22_1 : Dc jdk_33_method_13_code 1 (.istore_n 1) 1 2 := ⟨by decide +kernel, rfl⟩
theorem b22_2 : Dc jdk_33_method_13_code 2 (.iload_n 0) 1 3 := ⟨by decide +kernel, rfl⟩
theorem b22_3 : Db jdk_33_method_13_code 3 (.ifCond .lt 8) (8) 6 11 := ⟨by decide +kernel, rfl, by decide, by decide⟩
theorem b22_6 : Dc jdk_33_method_13_code 6 (.iconst 0) 1 7 := ⟨by decide +kernel, rfl⟩
theorem b22_7 : Dc jdk_33_method_13_code 7 (.istore_n 1) 1 8 := ⟨by decide +kernel, rfl⟩
theorem b22_8 : Dc jdk_33_method_13_code 8 (.iload_n 0) 1 9 := ⟨by decide +kernel, rfl⟩
theorem b22_9 : Dc jdk_33_method_13_code 9 (.ineg) 1 10 := ⟨by decide +kernel, rfl⟩
theorem b22_10 : Dc jdk_33_method_13_code 10 (.istore_n 0) 1 11 := ⟨by decide +kernel, rfl⟩
theorem b22_11 : Dc jdk_33_method_13_code 11 (.bipush (-10)) 2 13 := ⟨by decide +kernel, rfl⟩
theorem b22_13 : Dc jdk_33_method_13_code 13 (.istore_n 2) 1 14 := ⟨by decide +kernel, rfl⟩
theorem b22_14 : Dc jdk_33_method_13_code 14 (.iconst 1) 1 15 := ⟨by decide +kernel, rfl⟩
theorem b22_15 : Dc jdk_33_method_13_code 15 (.istore_n 3) 1 16 := ⟨by decide +kernel, rfl⟩
theorem b22_16 : Dc jdk_33_method_13_code 16 (.iload_n 3) 1 17 := ⟨by decide +kernel, rfl⟩
theorem b22_17 : Dc jdk_33_method_13_code 17 (.bipush 10) 2 19 := ⟨by decide +kernel, rfl⟩
theorem b22_19 : Db jdk_33_method_13_code 19 (.if_icmp .ge 23) (23) 22 42 := ⟨by decide +kernel, rfl, by decide, by decide⟩
theorem b22_22 : Dc jdk_33_method_13_code 22 (.iload_n 0) 1 23 := ⟨by decide +kernel, rfl⟩
theorem b22_23 : Dc jdk_33_method_13_code 23 (.iload_n 2) 1 24 := ⟨by decide +kernel, rfl⟩
theorem b22_24 : Db jdk_33_method_13_code 24 (.if_icmp .le 7) (7) 27 31 := ⟨by decide +kernel, rfl, by decide, by decide⟩
theorem b22_27 : Dc jdk_33_method_13_code 27 (.iload_n 3) 1 28 := ⟨by decide +kernel, rfl⟩
theorem b22_28 : Dc jdk_33_method_13_code 28 (.iload_n 1) 1 29 := ⟨by decide +kernel, rfl⟩
theorem b22_29 : Dc jdk_33_method_13_code 29 (.iadd) 1 30 := ⟨by decide +kernel, rfl⟩
theorem b22_30 : Dc jdk_33_method_13_code 30 (.ireturn) 1 31 := ⟨by decide +kernel, rfl⟩
theorem b22_31 : Dc jdk_33_method_13_code 31 (.bipush 10) 2 33 := ⟨by decide +kernel, rfl⟩
theorem b22_33 : Dc jdk_33_method_13_code 33 (.iload_n 2) 1 34 := ⟨by decide +kernel, rfl⟩
theorem b22_34 : Dc jdk_33_method_13_code 34 (.imul) 1 35 := ⟨by decide +kernel, rfl⟩
theorem b22_35 : Dc jdk_33_method_13_code 35 (.istore_n 2) 1 36 := ⟨by decide +kernel, rfl⟩
theorem b22_36 : Dc jdk_33_method_13_code 36 (.iinc 3 1) 3 39 := ⟨by decide +kernel, rfl⟩
theorem b22_39 : Db jdk_33_method_13_code 39 (.goto (-23)) (-23) 42 16 := ⟨by decide +kernel, rfl, by decide, by decide⟩
theorem b24_0 : Dc jdk_33_method_12_code 0 (.iload_n 1) 1 1 := ⟨by decide +kernel, rfl⟩
theorem b24_1 : Dc jdk_33_method_12_code 1 (.istore 5) 2 3 := ⟨by decide +kernel, rfl⟩
theorem b24_3 : Dc jdk_33_method_12_code 3 (.iload_n 0) 1 4 := ⟨by decide +kernel, rfl⟩
theorem b24_4 : Db jdk_33_method_12_code 4 (.ifCond .ge 7) (7) 7 11 := ⟨by decide +kernel, rfl, by decide, by decide⟩
theorem b24_11 : Dc jdk_33_method_12_code 11 (.iconst 0) 1 12 := ⟨by decide +kernel, rfl⟩
theorem b24_12 : Dc jdk_33_method_12_code 12 (.istore 6) 2 14 := ⟨by decide +kernel, rfl⟩
theorem b24_14 : Dc jdk_33_method_12_code 14 (.iload 6) 2 16 := ⟨by decide +kernel, rfl⟩
theorem b24_16 : Db jdk_33_method_12_code 16 (.ifCond .ne 6) (6) 19 22 := ⟨by decide +kernel, rfl, by decide, by decide⟩
theorem b24_19 : Dc jdk_33_method_12_code 19 (.iload_n 0) 1 20 := ⟨by decide +kernel, rfl⟩
theorem b24_20 : Dc jdk_33_method_12_code 20 (.ineg) 1 21 := ⟨by decide +kernel, rfl⟩
theorem b24_21 : Dc jdk_33_method_12_code 21 (.istore_n 0) 1 22 := ⟨by decide +kernel, rfl⟩
theorem b24_22 : Dc jdk_33_method_12_code 22 (.iload_n 0) 1 23 := ⟨by decide +kernel, rfl⟩
theorem b24_23 : Dc jdk_33_method_12_code 23 (.bipush (-100)) 2 25 := ⟨by decide +kernel, rfl⟩
theorem b24_25 : Db jdk_33_method_12_code 25 (.if_icmp .gt 47) (47) 28 72 := ⟨by decide +kernel, rfl, by decide, by decide⟩
theorem b24_72 : Dc jdk_33_method_12_code 72 (.aload_n 2) 1 73 := ⟨by decide +kernel, rfl⟩
theorem b24_73 : Dc jdk_33_method_12_code 73 (.iinc 5 (-1)) 3 76 := ⟨by decide +kernel, rfl⟩
theorem b24_76 : Dc jdk_33_method_12_code 76 (.iload 5) 2 78 := ⟨by decide +kernel, rfl⟩
theorem b24_78 : Dc jdk_33_method_12_code 78 (.getstatic 83) 3 81 := ⟨by decide +kernel, rfl⟩
theorem b24_81 : Dc jdk_33_method_12_code 81 (.iload_n 0) 1 82 := ⟨by decide +kernel, rfl⟩
theorem b24_82 : Dc jdk_33_method_12_code 82 (.ineg) 1 83 := ⟨by decide +kernel, rfl⟩
theorem b24_83 : Dc jdk_33_method_12_code 83 (.baload) 1 84 := ⟨by decide +kernel, rfl⟩
theorem b24_84 : Dc jdk_33_method_12_code 84 (.bastore) 1 85 := ⟨by decide +kernel, rfl⟩
theorem b24_85 : Dc jdk_33_method_12_code 85 (.iload_n 0) 1 86 := ⟨by decide +kernel, rfl⟩
theorem b24_86 : Dc jdk_33_method_12_code 86 (.bipush (-9)) 2 88 := ⟨by decide +kernel, rfl⟩
theorem b24_88 : Db jdk_33_method_12_code 88 (.if_icmp .ge 16) (16) 91 104 := ⟨by decide +kernel, rfl, by decide, by decide⟩
theorem b24_104 : Dc jdk_33_method_12_code 104 (.iload 6) 2 106 := ⟨by decide +kernel, rfl⟩
theorem b24_106 : Db jdk_33_method_12_code 106 (.ifCond .eq 12) (12) 109 118 := ⟨by decide +kernel, rfl, by decide, by decide⟩
theorem b24_118 : Dc jdk_33_method_12_code 118 (.iload 5) 2 120 := ⟨by decide +kernel, rfl⟩
theorem b24_120 : Dc jdk_33_method_12_code 120 (.ireturn) 1 121 := ⟨by decide +kernel, rfl⟩
theorem b24_91 : Dc jdk_33_method_12_code 91 (.aload_n 2) 1 92 := ⟨by decide +kernel, rfl⟩
theorem b24_92 : Dc jdk_33_method_12_code 92 (.iinc 5 (-1)) 3 95 := ⟨by decide +kernel, rfl⟩
theorem b24_95 : Dc jdk_33_method_12_code 95 (.iload 5) 2 97 := ⟨by decide +kernel, rfl⟩
theorem b24_97 : Dc jdk_33_method_12_code 97 (.getstatic 87) 3 100 := ⟨by decide +kernel, rfl⟩
theorem b24_100 : Dc jdk_33_method_12_code 100 (.iload_n 0) 1 101 := ⟨by decide +kernel, rfl⟩
theorem b24_101 : Dc jdk_33_method_12_code 101 (.ineg) 1 102 := ⟨by decide +kernel, rfl⟩
theorem b24_102 : Dc jdk_33_method_12_code 102 (.baload) 1 103 := ⟨by decide +kernel, rfl⟩
theorem b24_103 : Dc jdk_33_method_12_code 103 (.bastore) 1 104 := ⟨by decide +kernel, rfl⟩
theorem b24_28 : Dc jdk_33_method_12_code 28 (.iload_n 0) 1 29 := ⟨by decide +kernel, rfl⟩
theorem b24_29 : Dc jdk_33_method_12_code 29 (.bipush 100) 2 31 := ⟨by decide +kernel, rfl⟩
theorem b24_31 : Dc jdk_33_method_12_code 31 (.idiv) 1 32 := ⟨by decide +kernel, rfl⟩
theorem b24_32 : Dc jdk_33_method_12_code 32 (.istore_n 3) 1 33 := ⟨by decide +kernel, rfl⟩
theorem b24_33 : Dc jdk_33_method_12_code 33 (.iload_n 3) 1 34 := ⟨by decide +kernel, rfl⟩
theorem b24_34 : Dc jdk_33_method_12_code 34 (.bipush 100) 2 36 := ⟨by decide +kernel, rfl⟩
theorem b24_36 : Dc jdk_33_method_12_code 36 (.imul) 1 37 := ⟨by decide +kernel, rfl⟩
theorem b24_37 : Dc jdk_33_method_12_code 37 (.iload_n 0) 1 38 := ⟨by decide +kernel, rfl⟩
theorem b24_38 : Dc jdk_33_method_12_code 38 (.isub) 1 39 := ⟨by decide +kernel, rfl⟩
theorem b24_39 : Dc jdk_33_method_12_code 39 (.istore 4) 2 41 := ⟨by decide +kernel, rfl⟩
theorem b24_41 : Dc jdk_33_method_12_code 41 (.iload_n 3) 1 42 := ⟨by decide +kernel, rfl⟩
theorem b24_42 : Dc jdk_33_method_12_code 42 (.istore_n 0) 1 43 := ⟨by decide +kernel, rfl⟩
theorem b24_43 : Dc jdk_33_method_12_code 43 (.aload_n 2) 1 44 := ⟨by decide +kernel, rfl⟩
theorem b24_44 : Dc jdk_33_method_12_code 44 (.iinc 5 (-1)) 3 47 := ⟨by decide +kernel, rfl⟩
theorem b24_47 : Dc jdk_33_method_12_code 47 (.iload 5) 2 49 := ⟨by decide +kernel, rfl⟩
theorem b24_49 : Dc jdk_33_method_12_code 49 (.getstatic 83) 3 52 := ⟨by decide +kernel, rfl⟩
theorem b24_52 : Dc jdk_33_method_12_code 52 (.iload 4) 2 54 := ⟨by decide +kernel, rfl⟩
theorem b24_54 : Dc jdk_33_method_12_code 54 (.baload) 1 55 := ⟨by decide +kernel, rfl⟩
theorem b24_55 : Dc jdk_33_method_12_code 55 (.bastore) 1 56 := ⟨by decide +kernel, rfl⟩
theorem b24_56 : Dc jdk_33_method_12_code 56 (.aload_n 2) 1 57 := ⟨by decide +kernel, rfl⟩
theorem b24_57 : Dc jdk_33_method_12_code 57 (.iinc 5 (-1)) 3 60 := ⟨by decide +kernel, rfl⟩
theorem b24_60 : Dc jdk_33_method_12_code 60 (.iload 5) 2 62 := ⟨by decide +kernel, rfl⟩
theorem b24_62 : Dc jdk_33_method_12_code 62 (.getstatic 87) 3 65 := ⟨by decide +kernel, rfl⟩
theorem b24_65 : Dc jdk_33_method_12_code 65 (.iload 4) 2 67 := ⟨by decide +kernel, rfl⟩
theorem b24_67 : Dc jdk_33_method_12_code 67 (.baload) 1 68 := ⟨by decide +kernel, rfl⟩
theorem b24_68 : Dc jdk_33_method_12_code 68 (.bastore) 1 69 := ⟨by decide +kernel, rfl⟩
theorem b24_69 : Db jdk_33_method_12_code 69 (.goto (-47)) (-47) 72 22 := ⟨by decide +kernel, rfl, by decide, by decide⟩
theorem b21_0 : Dc jdk_68_method_32_code 0 (.aload_n 0) 1 1 := ⟨by decide +kernel, rfl⟩
theorem b21_1 : Dc jdk_68_method_32_code 1 (.getfield 79) 3 4 := ⟨by decide +kernel, rfl⟩
theorem b21_4 : Dc jdk_68_method_32_code 4 (.istore_n 2) 1 5 := ⟨by decide +kernel, rfl⟩
theorem b21_5 : Dc jdk_68_method_32_code 5 (.iload_n 2) 1 6 := ⟨by decide +kernel, rfl⟩
theorem b21_6 : Dc jdk_68_method_32_code 6 (.iload_n 1) 1 7 := ⟨by decide +kernel, rfl⟩
theorem b21_7 : Dc jdk_68_method_32_code 7 (.invokestatic 245) 3 10 := ⟨by decide +kernel, rfl⟩
theorem b21_10 : Dc jdk_68_method_32_code 10 (.iadd) 1 11 := ⟨by decide +kernel, rfl⟩
theorem b21_11 : Dc jdk_68_method_32_code 11 (.istore_n 3) 1 12 := ⟨by decide +kernel, rfl⟩
theorem b21_12 : Dc jdk_68_method_32_code 12 (.aload_n 0) 1 13 := ⟨by decide +kernel, rfl⟩
theorem b21_13 : Dc jdk_68_method_32_code 13 (.iload_n 3) 1 14 := ⟨by decide +kernel, rfl⟩
theorem b21_14 : Dc jdk_68_method_32_code 14 (.invokevirtual 100) 3 17 := ⟨by decide +kernel, rfl⟩
theorem b21_17 : Dc jdk_68_method_32_code 17 (.aload_n 0) 1 18 := ⟨by decide +kernel, rfl⟩
theorem b21_18 : Dc jdk_68_method_32_code 18 (.invokevirtual 83) 3 21 := ⟨by decide +kernel, rfl⟩
theorem b21_21 : Db jdk_68_method_32_code 21 (.ifCond .eq 16) (16) 24 37 := ⟨by decide +kernel, rfl, by decide, by decide⟩
theorem b21_24 : Dc jdk_68_method_32_code 24 (.iload_n 1) 1 25 := ⟨by decide +kernel, rfl⟩
theorem b21_25 : Dc jdk_68_method_32_code 25 (.iload_n 3) 1 26 := ⟨by decide +kernel, rfl⟩
theorem b21_26 : Dc jdk_68_method_32_code 26 (.aload_n 0) 1 27 := ⟨by decide +kernel, rfl⟩
theorem b21_27 : Dc jdk_68_method_32_code 27 (.getfield 15) 3 30 := ⟨by decide +kernel, rfl⟩
theorem b21_30 : Dc jdk_68_method_32_code 30 (.invokestatic 248) 3 33 := ⟨by decide +kernel, rfl⟩
theorem b21_33 : Dc jdk_68_method_32_code 33 (.pop) 1 34 := ⟨by decide +kernel, rfl⟩
theorem b21_34 : Db jdk_68_method_32_code 34 (.goto 14) (14) 37 48 := ⟨by decide +kernel, rfl, by decide, by decide⟩
theorem b21_48 : Dc jdk_68_method_32_code 48 (.aload_n 0) 1 49 := ⟨by decide +kernel, rfl⟩
theorem b21_49 : Dc jdk_68_method_32_code 49 (.iload_n 3) 1 50 := ⟨by decide +kernel, rfl⟩
theorem b21_50 : Dc jdk_68_method_32_code 50 (.putfield 79) 3 53 := ⟨by decide +kernel, rfl⟩
theorem b21_53 : Dc jdk_68_method_32_code 53 (.aload_n 0) 1 54 := ⟨by decide +kernel, rfl⟩
theorem b21_54 : Dc jdk_68_method_32_code 54 (.areturn) 1 55 := ⟨by decide +kernel, rfl⟩
theorem b20_0 : Dc jdk_67_method_15_code 0 (.aload_n 0) 1 1 := ⟨by decide +kernel, rfl⟩
theorem b20_1 : Dc jdk_67_method_15_code 1 (.iload_n 1) 1 2 := ⟨by decide +kernel, rfl⟩
theorem b20_2 : Dc jdk_67_method_15_code 2 (.invokespecial 53) 3 5 := ⟨by decide +kernel, rfl⟩
theorem b20_5 : Dc jdk_67_method_15_code 5 (.pop) 1 6 := ⟨by decide +kernel, rfl⟩
theorem b20_6 : Dc jdk_67_method_15_code 6 (.aload_n 0) 1 7 := ⟨by decide +kernel, rfl⟩
theorem b20_7 : Dc jdk_67_method_15_code 7 (.areturn) 1 8 := ⟨by decide +kernel, rfl⟩
theorem b33_0 : Dc jdk_65_method_131_code 0 (.iload_n 1) 1 1 := ⟨by decide +kernel, rfl⟩
theorem b33_1 : Dc jdk_65_method_131_code 1 (.iload_n 0) 1 2 := ⟨by decide +kernel, rfl⟩
theorem b33_2 : Db jdk_65_method_131_code 2 (.if_icmp .ge 35) (35) 5 37 := ⟨by decide +kernel, rfl, by decide, by decide⟩
theorem b33_37 : Dc jdk_65_method_131_code 37 (.return_) 1 38 := ⟨by decide +kernel, rfl⟩
theorem b34_0 : Dc jdk_29_method_69_code 0 (.iload_n 0) 1 1 := ⟨by decide +kernel, rfl⟩
theorem b34_1 : Dc jdk_29_method_69_code 1 (.iload_n 1) 1 2 := ⟨by decide +kernel, rfl⟩
theorem b34_2 : Db jdk_29_method_69_code 2 (.if_icmp .gt 7) (7) 5 9 := ⟨by decide +kernel, rfl, by decide, by decide⟩
theorem b34_9 : Dc jdk_29_method_69_code 9 (.iload_n 1) 1 10 := ⟨by decide +kernel, rfl⟩
theorem b34_10 : Dc jdk_29_method_69_code 10 (.ireturn) 1 11 := ⟨by decide +kernel, rfl⟩
theorem b32_0 : Dc jdk_65_method_133_code 0 (.iload_n 1) 1 1 := ⟨by decide +kernel, rfl⟩
theorem b32_1 : Dc jdk_65_method_133_code 1 (.iload_n 2) 1 2 := ⟨by decide +kernel, rfl⟩
theorem b32_2 : Dc jdk_65_method_133_code 2 (.invokestatic 343) 3 5 := ⟨by decide +kernel, rfl⟩
theorem b32_5 : Dc jdk_65_method_133_code 5 (.iload_n 2) 1 6 := ⟨by decide +kernel, rfl⟩
theorem b32_6 : Dc jdk_65_method_133_code 6 (.iload_n 1) 1 7 := ⟨by decide +kernel, rfl⟩
theorem b32_7 : Dc jdk_65_method_133_code 7 (.isub) 1 8 := ⟨by decide +kernel, rfl⟩
theorem b32_8 : Dc jdk_65_method_133_code 8 (.istore_n 3) 1 9 := ⟨by decide +kernel, rfl⟩
theorem b32_9 : Dc jdk_65_method_133_code 9 (.iload_n 3) 1 10 := ⟨by decide +kernel, rfl⟩
theorem b32_10 : Dc jdk_65_method_133_code 10 (.newarray .byte) 2 12 := ⟨by decide +kernel, rfl⟩
theorem b32_12 : Dc jdk_65_method_133_code 12 (.astore 4) 2 14 := ⟨by decide +kernel, rfl⟩
theorem b32_14 : Dc jdk_65_method_133_code 14 (.aload_n 0) 1 15 := ⟨by decide +kernel, rfl⟩
theorem b32_15 : Dc jdk_65_method_133_code 15 (.iload_n 1) 1 16 := ⟨by decide +kernel, rfl⟩
theorem b32_16 : Dc jdk_65_method_133_code 16 (.aload 4) 2 18 := ⟨by decide +kernel, rfl⟩
theorem b32_18 : Dc jdk_65_method_133_code 18 (.iconst 0) 1 19 := ⟨by decide +kernel, rfl⟩
theorem b32_19 : Dc jdk_65_method_133_code 19 (.aload_n 0) 1 20 := ⟨by decide +kernel, rfl⟩
theorem b32_20 : Dc jdk_65_method_133_code 20 (.arraylength) 1 21 := ⟨by decide +kernel, rfl⟩
theorem b32_21 : Dc jdk_65_method_133_code 21 (.iload_n 1) 1 22 := ⟨by decide +kernel, rfl⟩
theorem b32_22 : Dc jdk_65_method_133_code 22 (.isub) 1 23 := ⟨by decide +kernel, rfl⟩
theorem b32_23 : Dc jdk_65_method_133_code 23 (.iload_n 3) 1 24 := ⟨by decide +kernel, rfl⟩
theorem b32_24 : Dc jdk_65_method_133_code 24 (.invokestatic 304) 3 27 := ⟨by decide +kernel, rfl⟩
theorem b32_27 : Dc jdk_65_method_133_code 27 (.invokestatic 150) 3 30 := ⟨by decide +kernel, rfl⟩
theorem b32_30 : Dc jdk_65_method_133_code 30 (.aload 4) 2 32 := ⟨by decide +kernel, rfl⟩
theorem b32_32 : Dc jdk_65_method_133_code 32 (.areturn) 1 33 := ⟨by decide +kernel, rfl⟩
theorem b31_0 : Dc jdk_65_method_132_code 0 (.iload_n 1) 1 1 := ⟨by decide +kernel, rfl⟩
theorem b31_1 : Db jdk_65_method_132_code 1 (.ifCond .ne 9) (9) 4 10 := ⟨by decide +kernel, rfl, by decide, by decide⟩
theorem b31_4 : Dc jdk_65_method_132_code 4 (.iload_n 2) 1 5 := ⟨by decide +kernel, rfl⟩
theorem b31_5 : Dc jdk_65_method_132_code 5 (.aload_n 0) 1 6 := ⟨by decide +kernel, rfl⟩
theorem b31_6 : Dc jdk_65_method_132_code 6 (.arraylength) 1 7 := ⟨by decide +kernel, rfl⟩
theorem b31_7 : Db jdk_65_method_132_code 7 (.if_icmp .eq 10) (10) 10 17 := ⟨by decide +kernel, rfl, by decide, by decide⟩
theorem b31_10 : Dc jdk_65_method_132_code 10 (.aload_n 0) 1 11 := ⟨by decide +kernel, rfl⟩
theorem b31_11 : Dc jdk_65_method_132_code 11 (.iload_n 1) 1 12 := ⟨by decide +kernel, rfl⟩
theorem b31_12 : Dc jdk_65_method_132_code 12 (.iload_n 2) 1 13 := ⟨by decide +kernel, rfl⟩
theorem b31_13 : Dc jdk_65_method_132_code 13 (.invokestatic 339) 3 16 := ⟨by decide +kernel, rfl⟩
theorem b31_16 : Dc jdk_65_method_132_code 16 (.areturn) 1 17 := ⟨by decide +kernel, rfl⟩
theorem b27_0 : Dc jdk_42_method_150_code 0 (.aload_n 0) 1 1 := ⟨by decide +kernel, rfl⟩
theorem b27_1 : Dc jdk_42_method_150_code 1 (.invokespecial 1) 3 4 := ⟨by decide +kernel, rfl⟩
theorem b27_4 : Dc jdk_42_method_150_code 4 (.aload_n 1) 1 5 := ⟨by decide +kernel, rfl⟩
theorem b27_5 : Dc jdk_42_method_150_code 5 (.invokevirtual 552) 3 8 := ⟨by decide +kernel, rfl⟩
theorem b27_8 : Dc jdk_42_method_150_code 8 (.astore_n 3) 1 9 := ⟨by decide +kernel, rfl⟩
theorem b27_9 : Dc jdk_42_method_150_code 9 (.aload_n 1) 1 10 := ⟨by decide +kernel, rfl⟩
theorem b27_10 : Dc jdk_42_method_150_code 10 (.invokevirtual 549) 3 13 := ⟨by decide +kernel, rfl⟩
theorem b27_13 : Dc jdk_42_method_150_code 13 (.istore 4) 2 15 := ⟨by decide +kernel, rfl⟩
theorem b27_15 : Dc jdk_42_method_150_code 15 (.aload_n 1) 1 16 := ⟨by decide +kernel, rfl⟩
theorem b27_16 : Dc jdk_42_method_150_code 16 (.invokevirtual 1047) 3 19 := ⟨by decide +kernel, rfl⟩
theorem b27_19 : Db jdk_42_method_150_code 19 (.ifCond .eq 22) (22) 22 41 := ⟨by decide +kernel, rfl, by decide, by decide⟩
theorem b27_22 : Dc jdk_42_method_150_code 22 (.aload_n 0) 1 23 := ⟨by decide +kernel, rfl⟩
theorem b27_23 : Dc jdk_42_method_150_code 23 (.iconst 0) 1 24 := ⟨by decide +kernel, rfl⟩
theorem b27_24 : Dc jdk_42_method_150_code 24 (.putfield 15) 3 27 := ⟨by decide +kernel, rfl⟩
theorem b27_27 : Dc jdk_42_method_150_code 27 (.aload_n 0) 1 28 := ⟨by decide +kernel, rfl⟩
theorem b27_28 : Dc jdk_42_method_150_code 28 (.aload_n 3) 1 29 := ⟨by decide +kernel, rfl⟩
theorem b27_29 : Dc jdk_42_method_150_code 29 (.iconst 0) 1 30 := ⟨by decide +kernel, rfl⟩
theorem b27_30 : Dc jdk_42_method_150_code 30 (.iload 4) 2 32 := ⟨by decide +kernel, rfl⟩
theorem b27_32 : Dc jdk_42_method_150_code 32 (.invokestatic 54) 3 35 := ⟨by decide +kernel, rfl⟩
theorem b27_35 : Dc jdk_42_method_150_code 35 (.putfield 9) 3 38 := ⟨by decide +kernel, rfl⟩
theorem b27_38 : Db jdk_42_method_150_code 38 (.goto 59) (59) 41 97 := ⟨by decide +kernel, rfl, by decide, by decide⟩
theorem b27_97 : Dc jdk_42_method_150_code 97 (.return_) 1 98 := ⟨by decide +kernel, rfl⟩
theorem b26_0 : Dc jdk_42_method_53_code 0 (.aload_n 0) 1 1 := ⟨by decide +kernel, rfl⟩
theorem b26_1 : Dc jdk_42_method_53_code 1 (.aload_n 1) 1 2 := ⟨by decide +kernel, rfl⟩
theorem b26_2 : Dc jdk_42_method_53_code 2 (.aconst_null) 1 3 := ⟨by decide +kernel, rfl⟩
theorem b26_3 : Dc jdk_42_method_53_code 3 (.invokespecial 489) 3 6 := ⟨by decide +kernel, rfl⟩
theorem b26_6 : Dc jdk_42_method_53_code 6 (.return_) 1 7 := ⟨by decide +kernel, rfl⟩
theorem b25_0 : Dc jdk_67_method_42_code 0 (.new 18) 3 3 := ⟨by decide +kernel, rfl⟩
theorem b25_3 : Dc jdk_67_method_42_code 3 (.dup) 1 4 := ⟨by decide +kernel, rfl⟩
theorem b25_4 : Dc jdk_67_method_42_code 4 (.aload_n 0) 1 5 := ⟨by decide +kernel, rfl⟩
theorem b25_5 : Dc jdk_67_method_42_code 5 (.invokespecial 137) 3 8 := ⟨by decide +kernel, rfl⟩
theorem b25_8 : Dc jdk_67_method_42_code 8 (.areturn) 1 9 := ⟨by decide +kernel, rfl⟩
theorem b9_0 : Dc prog_28_method_4_code 0 (.new 34) 3 3 := ⟨by decide +kernel, rfl⟩
theorem b9_3 : Dc prog_28_method_4_code 3 (.dup) 1 4 := ⟨by decide +kernel, rfl⟩
theorem b9_4 : Dc prog_28_method_4_code 4 (.invokespecial 36) 3 7 := ⟨by decide +kernel, rfl⟩
theorem b9_7 : Dc prog_28_method_4_code 7 (.aload_n 0) 1 8 := ⟨by decide +kernel, rfl⟩
theorem b9_8 : Dc prog_28_method_4_code 8 (.getfield 25) 3 11 := ⟨by decide +kernel, rfl⟩
theorem b9_11 : Dc prog_28_method_4_code 11 (.invokevirtual 39) 3 14 := ⟨by decide +kernel, rfl⟩
theorem b9_14 : Dc prog_28_method_4_code 14 (.ldc 92) 2 16 := ⟨by decide +kernel, rfl⟩
theorem b9_16 : Dc prog_28_method_4_code 16 (.invokevirtual 39) 3 19 := ⟨by decide +kernel, rfl⟩
theorem b9_19 : Dc prog_28_method_4_code 19 (.aload_n 0) 1 20 := ⟨by decide +kernel, rfl⟩
theorem b9_20 : Dc prog_28_method_4_code 20 (.getfield 28) 3 23 := ⟨by decide +kernel, rfl⟩
theorem b9_23 : Dc prog_28_method_4_code 23 (.invokevirtual 94) 3 26 := ⟨by decide +kernel, rfl⟩
theorem b9_26 : Dc prog_28_method_4_code 26 (.invokevirtual 43) 3 29 := ⟨by decide +kernel, rfl⟩
theorem b9_29 : Dc prog_28_method_4_code 29 (.areturn) 1 30 := ⟨by decide +kernel, rfl⟩
theorem b40_0 : Dc method_3_code 0 (.iload 4) 2 2 := ⟨by decide +kernel, rfl⟩
theorem b40_2 : Dc method_3_code 2 (.iload_n 3) 1 3 := ⟨by decide +kernel, rfl⟩
theorem b40_3 : Db method_3_code 3 (.if_icmp .lt 5) (5) 6 8 := ⟨by decide +kernel, rfl, by decide, by decide⟩
theorem b40_8 : Dc method_3_code 8 (.bipush 48) 2 10 := ⟨by decide +kernel, rfl⟩
theorem b40_10 : Dc method_3_code 10 (.iload_n 2) 1 11 := ⟨by decide +kernel, rfl⟩
theorem b40_11 : Dc method_3_code 11 (.iload 5) 2 13 := ⟨by decide +kernel, rfl⟩
theorem b40_13 : Dc method_3_code 13 (.idiv) 1 14 := ⟨by decide +kernel, rfl⟩
theorem b40_14 : Dc method_3_code 14 (.bipush 10) 2 16 := ⟨by decide +kernel, rfl⟩
theorem b40_16 : Dc method_3_code 16 (.irem) 1 17 := ⟨by decide +kernel, rfl⟩
theorem b40_17 : Dc method_3_code 17 (.iadd) 1 18 := ⟨by decide +kernel, rfl⟩
theorem b40_18 : Dc method_3_code 18 (.i2c) 1 19 := ⟨by decide +kernel, rfl⟩
theorem b40_19 : Dc method_3_code 19 (.istore 6) 2 21 := ⟨by decide +kernel, rfl⟩
theorem b40_21 : Dc method_3_code 21 (.aload_n 0) 1 22 := ⟨by decide +kernel, rfl⟩
theorem b40_22 : Dc method_3_code 22 (.iload_n 1) 1 23 := ⟨by decide +kernel, rfl⟩
theorem b40_23 : Dc method_3_code 23 (.iload_n 3) 1 24 := ⟨by decide +kernel, rfl⟩
theorem b40_24 : Dc method_3_code 24 (.iadd) 1 25 := ⟨by decide +kernel, rfl⟩
theorem b40_25 : Dc method_3_code 25 (.iconst 1) 1 26 := ⟨by decide +kernel, rfl⟩
theorem b40_26 : Dc method_3_code 26 (.isub) 1 27 := ⟨by decide +kernel, rfl⟩
theorem b40_27 : Dc method_3_code 27 (.iload 4) 2 29 := ⟨by decide +kernel, rfl⟩
theorem b40_29 : Dc method_3_code 29 (.isub) 1 30 := ⟨by decide +kernel, rfl⟩
theorem b40_30 : Dc method_3_code 30 (.invokevirtual 27) 3 33 := ⟨by decide +kernel, rfl⟩
theorem b40_33 : Dc method_3_code 33 (.iload 6) 2 35 := ⟨by decide +kernel, rfl⟩
theorem b40_35 : Db method_3_code 35 (.if_icmp .ne 7) (7) 38 42 := ⟨by decide +kernel, rfl, by decide, by decide⟩
theorem b40_38 : Dc method_3_code 38 (.iconst 1) 1 39 := ⟨by decide +kernel, rfl⟩
theorem b40_39 : Db method_3_code 39 (.goto 4) (4) 42 43 := ⟨by decide +kernel, rfl, by decide, by decide⟩
theorem b40_43 : Dc method_3_code 43 (.ireturn) 1 44 := ⟨by decide +kernel, rfl⟩
theorem b40_6 : Dc method_3_code 6 (.iconst 1) 1 7 := ⟨by decide +kernel, rfl⟩
theorem b40_7 : Dc method_3_code 7 (.ireturn) 1 8 := ⟨by decide +kernel, rfl⟩
theorem L_0 : Dc code 0 (.iload_n 3) 1 1 := ⟨at_0, rfl⟩
theorem L_1 : Dc code 1 (.iconst 3) 1 2 := ⟨at_1, rfl⟩
theorem L_2 : Dc code 2 (.iand) 1 3 := ⟨at_2, rfl⟩
theorem L_3 : Dc code 3 (.istore 5) 2 5 := ⟨at_3, rfl⟩
theorem L_5 : Dc code 5 (.iload_n 0) 1 6 := ⟨at_5, rfl⟩
theorem L_6 : Dc code 6 (.sipush 255) 3 9 := ⟨at_6, rfl⟩
theorem L_9 : Dc code 9 (.iand) 1 10 := ⟨at_9, rfl⟩
theorem L_10 : Dc code 10 (.i2c) 1 11 := ⟨at_10, rfl⟩
theorem L_11 : Dc code 11 (.istore 6) 2 13 := ⟨at_11, rfl⟩
theorem L_13 : Dc code 13 (.iload_n 1) 1 14 := ⟨at_13, rfl⟩
theorem L_14 : Dc code 14 (.sipush 255) 3 17 := ⟨at_14, rfl⟩
theorem L_17 : Dc code 17 (.iand) 1 18 := ⟨at_17, rfl⟩
theorem L_18 : Dc code 18 (.i2c) 1 19 := ⟨at_18, rfl⟩
theorem L_19 : Dc code 19 (.istore 7) 2 21 := ⟨at_19, rfl⟩
theorem L_21 : Dc code 21 (.iload_n 2) 1 22 := ⟨at_21, rfl⟩
theorem L_22 : Dc code 22 (.sipush 255) 3 25 := ⟨at_22, rfl⟩
theorem L_25 : Dc code 25 (.iand) 1 26 := ⟨at_25, rfl⟩
theorem L_26 : Dc code 26 (.i2c) 1 27 := ⟨at_26, rfl⟩
theorem L_27 : Dc code 27 (.istore 8) 2 29 := ⟨at_27, rfl⟩
theorem L_111 : Dc code 111 (.new 7) 3 114 := ⟨at_111, rfl⟩
theorem L_114 : Dc code 114 (.dup) 1 115 := ⟨at_114, rfl⟩
theorem L_115 : Dc code 115 (.aload 9) 2 117 := ⟨at_115, rfl⟩
theorem L_117 : Dc code 117 (.invokespecial 9) 3 120 := ⟨at_117, rfl⟩
theorem L_120 : Dc code 120 (.astore 10) 2 122 := ⟨at_120, rfl⟩
theorem L_122 : Dc code 122 (.iload 4) 2 124 := ⟨at_122, rfl⟩
theorem L_124 : Dc code 124 (.ldc 12) 2 126 := ⟨at_124, rfl⟩
theorem L_126 : Dc code 126 (.iand) 1 127 := ⟨at_126, rfl⟩
theorem L_127 : Dc code 127 (.ldc 13) 2 129 := ⟨at_127, rfl⟩
theorem L_129 : Dc code 129 (.irem) 1 130 := ⟨at_129, rfl⟩
theorem L_130 : Dc code 130 (.iconst 1) 1 131 := ⟨at_130, rfl⟩
theorem L_131 : Dc code 131 (.iadd) 1 132 := ⟨at_131, rfl⟩
theorem L_132 : Dc code 132 (.istore 11) 2 134 := ⟨at_132, rfl⟩
theorem L_134 : Dc code 134 (.new 14) 3 137 := ⟨at_134, rfl⟩
theorem L_137 : Dc code 137 (.dup) 1 138 := ⟨at_137, rfl⟩
theorem L_138 : Dc code 138 (.aload 10) 2 140 := ⟨at_138, rfl⟩
theorem L_140 : Dc code 140 (.iload 11) 2 142 := ⟨at_140, rfl⟩
theorem L_142 : Dc code 142 (.invokespecial 16) 3 145 := ⟨at_142, rfl⟩
theorem L_145 : Dc code 145 (.invokevirtual 19) 3 148 := ⟨at_145, rfl⟩
theorem L_148 : Dc code 148 (.astore 12) 2 150 := ⟨at_148, rfl⟩
theorem L_207 : Dc code 207 (.aload 12) 2 209 := ⟨at_207, rfl⟩
theorem L_209 : Db code 209 (.ifnull 18) (18) 212 227 := ⟨at_209, rfl, by decide, by decide⟩
theorem L_212 : Dc code 212 (.aload 12) 2 214 := ⟨at_212, rfl⟩
theorem L_214 : Dc code 214 (.invokevirtual 23) 3 217 := ⟨at_214, rfl⟩
theorem L_217 : Dc code 217 (.iload 5) 2 219 := ⟨at_217, rfl⟩
theorem L_219 : Dc code 219 (.iconst 1) 1 220 := ⟨at_219, rfl⟩
theorem L_220 : Dc code 220 (.iadd) 1 221 := ⟨at_220, rfl⟩
theorem L_221 : Dc code 221 (.iload 13) 2 223 := ⟨at_221, rfl⟩
theorem L_223 : Dc code 223 (.iadd) 1 224 := ⟨at_223, rfl⟩
theorem L_224 : Db code 224 (.if_icmp .eq 5) (5) 227 229 := ⟨at_224, rfl, by decide, by decide⟩
theorem L_285 : Dc code 285 (.aload 12) 2 287 := ⟨at_285, rfl⟩
theorem L_287 : Dc code 287 (.iload 5) 2 289 := ⟨at_287, rfl⟩
theorem L_289 : Dc code 289 (.invokevirtual 27) 3 292 := ⟨at_289, rfl⟩
theorem L_292 : Dc code 292 (.bipush 58) 2 294 := ⟨at_292, rfl⟩
theorem L_294 : Db code 294 (.if_icmp .eq 5) (5) 297 299 := ⟨at_294, rfl, by decide, by decide⟩
theorem L_299 : Dc code 299 (.iload 5) 2 301 := ⟨at_299, rfl⟩
theorem L_301 : Dc code 301 (.iconst 1) 1 302 := ⟨at_301, rfl⟩
theorem L_302 : Dc code 302 (.iadd) 1 303 := ⟨at_302, rfl⟩
theorem L_303 : Dc code 303 (.istore 14) 2 305 := ⟨at_303, rfl⟩
theorem L_305 : Dc code 305 (.aload 12) 2 307 := ⟨at_305, rfl⟩
theorem L_307 : Dc code 307 (.iload 14) 2 309 := ⟨at_307, rfl⟩
theorem L_309 : Dc code 309 (.iload 11) 2 311 := ⟨at_309, rfl⟩
theorem L_311 : Dc code 311 (.iload 13) 2 313 := ⟨at_311, rfl⟩
theorem L_313 : Dc code 313 (.iconst 0) 1 314 := ⟨at_313, rfl⟩
theorem L_314 : Dc code 314 (.iconst 1) 1 315 := ⟨at_314, rfl⟩
theorem L_315 : Dc code 315 (.invokestatic 31) 3 318 := ⟨at_315, rfl⟩
theorem L_318 : Db code 318 (.ifCond .eq 77) (77) 321 395 := ⟨at_318, rfl, by decide, by decide⟩
theorem L_321 : Dc code 321 (.aload 12) 2 323 := ⟨at_321, rfl⟩
theorem L_323 : Dc code 323 (.iload 14) 2 325 := ⟨at_323, rfl⟩
theorem L_325 : Dc code 325 (.iload 11) 2 327 := ⟨at_325, rfl⟩
theorem L_327 : Dc code 327 (.iload 13) 2 329 := ⟨at_327, rfl⟩
theorem L_329 : Dc code 329 (.iconst 1) 1 330 := ⟨at_329, rfl⟩
theorem L_330 : Dc code 330 (.bipush 10) 2 332 := ⟨at_330, rfl⟩
theorem L_332 : Dc code 332 (.invokestatic 31) 3 335 := ⟨at_332, rfl⟩
theorem L_335 : Db code 335 (.ifCond .eq 60) (60) 338 395 := ⟨at_335, rfl, by decide, by decide⟩
theorem L_338 : Dc code 338 (.aload 12) 2 340 := ⟨at_338, rfl⟩
theorem L_340 : Dc code 340 (.iload 14) 2 342 := ⟨at_340, rfl⟩
theorem L_342 : Dc code 342 (.iload 11) 2 344 := ⟨at_342, rfl⟩
theorem L_344 : Dc code 344 (.iload 13) 2 346 := ⟨at_344, rfl⟩
theorem L_346 : Dc code 346 (.iconst 2) 1 347 := ⟨at_346, rfl⟩
theorem L_347 : Dc code 347 (.bipush 100) 2 349 := ⟨at_347, rfl⟩
theorem L_349 : Dc code 349 (.invokestatic 31) 3 352 := ⟨at_349, rfl⟩
theorem L_352 : Db code 352 (.ifCond .eq 43) (43) 355 395 := ⟨at_352, rfl, by decide, by decide⟩
theorem L_355 : Dc code 355 (.aload 12) 2 357 := ⟨at_355, rfl⟩
theorem L_357 : Dc code 357 (.iload 14) 2 359 := ⟨at_357, rfl⟩
theorem L_359 : Dc code 359 (.iload 11) 2 361 := ⟨at_359, rfl⟩
theorem L_361 : Dc code 361 (.iload 13) 2 363 := ⟨at_361, rfl⟩
theorem L_363 : Dc code 363 (.iconst 3) 1 364 := ⟨at_363, rfl⟩
theorem L_364 : Dc code 364 (.sipush 1000) 3 367 := ⟨at_364, rfl⟩
theorem L_367 : Dc code 367 (.invokestatic 31) 3 370 := ⟨at_367, rfl⟩
theorem L_370 : Db code 370 (.ifCond .eq 25) (25) 373 395 := ⟨at_370, rfl, by decide, by decide⟩
theorem L_373 : Dc code 373 (.aload 12) 2 375 := ⟨at_373, rfl⟩
theorem L_375 : Dc code 375 (.iload 14) 2 377 := ⟨at_375, rfl⟩
theorem L_377 : Dc code 377 (.iload 11) 2 379 := ⟨at_377, rfl⟩
theorem L_379 : Dc code 379 (.iload 13) 2 381 := ⟨at_379, rfl⟩
theorem L_381 : Dc code 381 (.iconst 4) 1 382 := ⟨at_381, rfl⟩
theorem L_382 : Dc code 382 (.sipush 10000) 3 385 := ⟨at_382, rfl⟩
theorem L_385 : Dc code 385 (.invokestatic 31) 3 388 := ⟨at_385, rfl⟩
theorem L_388 : Db code 388 (.ifCond .eq 7) (7) 391 395 := ⟨at_388, rfl, by decide, by decide⟩
theorem L_391 : Dc code 391 (.iconst 1) 1 392 := ⟨at_391, rfl⟩
theorem L_392 : Db code 392 (.goto 4) (4) 395 396 := ⟨at_392, rfl, by decide, by decide⟩
theorem L_396 : Dc code 396 (.ireturn) 1 397 := ⟨at_396, rfl⟩
theorem L_229 : Dc code 229 (.iload 5) 2 231 := ⟨at_229, rfl⟩
theorem L_231 : Db code 231 (.ifCond .le 16) (16) 234 247 := ⟨at_231, rfl, by decide, by decide⟩
theorem L_247 : Dc code 247 (.iload 5) 2 249 := ⟨at_247, rfl⟩
theorem L_249 : Dc code 249 (.iconst 1) 1 250 := ⟨at_249, rfl⟩
theorem L_250 : Db code 250 (.if_icmp .le 16) (16) 253 266 := ⟨at_250, rfl, by decide, by decide⟩
theorem L_266 : Dc code 266 (.iload 5) 2 268 := ⟨at_266, rfl⟩
theorem L_268 : Dc code 268 (.iconst 2) 1 269 := ⟨at_268, rfl⟩
theorem L_269 : Db code 269 (.if_icmp .le 16) (16) 272 285 := ⟨at_269, rfl, by decide, by decide⟩
theorem L_234 : Dc code 234 (.aload 12) 2 236 := ⟨at_234, rfl⟩
theorem L_236 : Dc code 236 (.iconst 0) 1 237 := ⟨at_236, rfl⟩
theorem L_237 : Dc code 237 (.invokevirtual 27) 3 240 := ⟨at_237, rfl⟩
theorem L_240 : Dc code 240 (.iload 6) 2 242 := ⟨at_240, rfl⟩
theorem L_242 : Db code 242 (.if_icmp .eq 5) (5) 245 247 := ⟨at_242, rfl, by decide, by decide⟩
theorem L_253 : Dc code 253 (.aload 12) 2 255 := ⟨at_253, rfl⟩
theorem L_255 : Dc code 255 (.iconst 1) 1 256 := ⟨at_255, rfl⟩
theorem L_256 : Dc code 256 (.invokevirtual 27) 3 259 := ⟨at_256, rfl⟩
theorem L_259 : Dc code 259 (.iload 7) 2 261 := ⟨at_259, rfl⟩
theorem L_261 : Db code 261 (.if_icmp .eq 5) (5) 264 266 := ⟨at_261, rfl, by decide, by decide⟩
theorem L_272 : Dc code 272 (.aload 12) 2 274 := ⟨at_272, rfl⟩
theorem L_274 : Dc code 274 (.iconst 2) 1 275 := ⟨at_274, rfl⟩
theorem L_275 : Dc code 275 (.invokevirtual 27) 3 278 := ⟨at_275, rfl⟩
theorem L_278 : Dc code 278 (.iload 8) 2 280 := ⟨at_278, rfl⟩
theorem L_280 : Db code 280 (.if_icmp .eq 5) (5) 283 285 := ⟨at_280, rfl, by decide, by decide⟩
theorem L_150 : Dc code 150 (.iload 11) 2 152 := ⟨at_150, rfl⟩
theorem L_152 : Dc code 152 (.bipush 10) 2 154 := ⟨at_152, rfl⟩
theorem L_154 : Db code 154 (.if_icmp .ge 9) (9) 157 163 := ⟨at_154, rfl, by decide, by decide⟩
theorem L_163 : Dc code 163 (.iload 11) 2 165 := ⟨at_163, rfl⟩
theorem L_165 : Dc code 165 (.bipush 100) 2 167 := ⟨at_165, rfl⟩
theorem L_167 : Db code 167 (.if_icmp .ge 9) (9) 170 176 := ⟨at_167, rfl, by decide, by decide⟩
theorem L_176 : Dc code 176 (.iload 11) 2 178 := ⟨at_176, rfl⟩
theorem L_178 : Dc code 178 (.sipush 1000) 3 181 := ⟨at_178, rfl⟩
theorem L_181 : Db code 181 (.if_icmp .ge 9) (9) 184 190 := ⟨at_181, rfl, by decide, by decide⟩
theorem L_190 : Dc code 190 (.iload 11) 2 192 := ⟨at_190, rfl⟩
theorem L_192 : Dc code 192 (.sipush 10000) 3 195 := ⟨at_192, rfl⟩
theorem L_195 : Db code 195 (.if_icmp .ge 9) (9) 198 204 := ⟨at_195, rfl, by decide, by decide⟩
theorem L_204 : Dc code 204 (.iconst 5) 1 205 := ⟨at_204, rfl⟩
theorem L_205 : Dc code 205 (.istore 13) 2 207 := ⟨at_205, rfl⟩
theorem L_198 : Dc code 198 (.iconst 4) 1 199 := ⟨at_198, rfl⟩
theorem L_199 : Dc code 199 (.istore 13) 2 201 := ⟨at_199, rfl⟩
theorem L_201 : Db code 201 (.goto 6) (6) 204 207 := ⟨at_201, rfl, by decide, by decide⟩
theorem L_184 : Dc code 184 (.iconst 3) 1 185 := ⟨at_184, rfl⟩
theorem L_185 : Dc code 185 (.istore 13) 2 187 := ⟨at_185, rfl⟩
theorem L_187 : Db code 187 (.goto 20) (20) 190 207 := ⟨at_187, rfl, by decide, by decide⟩
theorem L_170 : Dc code 170 (.iconst 2) 1 171 := ⟨at_170, rfl⟩
theorem L_171 : Dc code 171 (.istore 13) 2 173 := ⟨at_171, rfl⟩
theorem L_173 : Db code 173 (.goto 34) (34) 176 207 := ⟨at_173, rfl, by decide, by decide⟩
theorem L_157 : Dc code 157 (.iconst 1) 1 158 := ⟨at_157, rfl⟩
theorem L_158 : Dc code 158 (.istore 13) 2 160 := ⟨at_158, rfl⟩
theorem L_160 : Db code 160 (.goto 47) (47) 163 207 := ⟨at_160, rfl, by decide, by decide⟩
theorem L_29 : Dc code 29 (.iload 5) 2 31 := ⟨at_29, rfl⟩
theorem L_31 : Db code 31 (.ifCond .ne 11) (11) 34 42 := ⟨at_31, rfl, by decide, by decide⟩
theorem L_34 : Dc code 34 (.iconst 0) 1 35 := ⟨at_34, rfl⟩
theorem L_35 : Dc code 35 (.newarray .char) 2 37 := ⟨at_35, rfl⟩
theorem L_37 : Dc code 37 (.astore 9) 2 39 := ⟨at_37, rfl⟩
theorem L_39 : Db code 39 (.goto 72) (72) 42 111 := ⟨at_39, rfl, by decide, by decide⟩
theorem L_42 : Dc code 42 (.iload 5) 2 44 := ⟨at_42, rfl⟩
theorem L_44 : Dc code 44 (.iconst 1) 1 45 := ⟨at_44, rfl⟩
theorem L_45 : Db code 45 (.if_icmp .ne 17) (17) 48 62 := ⟨at_45, rfl, by decide, by decide⟩
theorem L_48 : Dc code 48 (.iconst 1) 1 49 := ⟨at_48, rfl⟩
theorem L_49 : Dc code 49 (.newarray .char) 2 51 := ⟨at_49, rfl⟩
theorem L_51 : Dc code 51 (.astore 9) 2 53 := ⟨at_51, rfl⟩
theorem L_53 : Dc code 53 (.aload 9) 2 55 := ⟨at_53, rfl⟩
theorem L_55 : Dc code 55 (.iconst 0) 1 56 := ⟨at_55, rfl⟩
theorem L_56 : Dc code 56 (.iload 6) 2 58 := ⟨at_56, rfl⟩
theorem L_58 : Dc code 58 (.castore) 1 59 := ⟨at_58, rfl⟩
theorem L_59 : Db code 59 (.goto 52) (52) 62 111 := ⟨at_59, rfl, by decide, by decide⟩
theorem L_62 : Dc code 62 (.iload 5) 2 64 := ⟨at_62, rfl⟩
theorem L_64 : Dc code 64 (.iconst 2) 1 65 := ⟨at_64, rfl⟩
theorem L_65 : Db code 65 (.if_icmp .ne 23) (23) 68 88 := ⟨at_65, rfl, by decide, by decide⟩
theorem L_68 : Dc code 68 (.iconst 2) 1 69 := ⟨at_68, rfl⟩
theorem L_69 : Dc code 69 (.newarray .char) 2 71 := ⟨at_69, rfl⟩
theorem L_71 : Dc code 71 (.astore 9) 2 73 := ⟨at_71, rfl⟩
theorem L_73 : Dc code 73 (.aload 9) 2 75 := ⟨at_73, rfl⟩
theorem L_75 : Dc code 75 (.iconst 0) 1 76 := ⟨at_75, rfl⟩
theorem L_76 : Dc code 76 (.iload 6) 2 78 := ⟨at_76, rfl⟩
theorem L_78 : Dc code 78 (.castore) 1 79 := ⟨at_78, rfl⟩
theorem L_79 : Dc code 79 (.aload 9) 2 81 := ⟨at_79, rfl⟩
theorem L_81 : Dc code 81 (.iconst 1) 1 82 := ⟨at_81, rfl⟩
theorem L_82 : Dc code 82 (.iload 7) 2 84 := ⟨at_82, rfl⟩
theorem L_84 : Dc code 84 (.castore) 1 85 := ⟨at_84, rfl⟩
theorem L_85 : Db code 85 (.goto 26) (26) 88 111 := ⟨at_85, rfl, by decide, by decide⟩
theorem L_88 : Dc code 88 (.iconst 3) 1 89 := ⟨at_88, rfl⟩
theorem L_89 : Dc code 89 (.newarray .char) 2 91 := ⟨at_89, rfl⟩
theorem L_91 : Dc code 91 (.astore 9) 2 93 := ⟨at_91, rfl⟩
theorem L_93 : Dc code 93 (.aload 9) 2 95 := ⟨at_93, rfl⟩
theorem L_95 : Dc code 95 (.iconst 0) 1 96 := ⟨at_95, rfl⟩
theorem L_96 : Dc code 96 (.iload 6) 2 98 := ⟨at_96, rfl⟩
theorem L_98 : Dc code 98 (.castore) 1 99 := ⟨at_98, rfl⟩
theorem L_99 : Dc code 99 (.aload 9) 2 101 := ⟨at_99, rfl⟩
theorem L_101 : Dc code 101 (.iconst 1) 1 102 := ⟨at_101, rfl⟩
theorem L_102 : Dc code 102 (.iload 7) 2 104 := ⟨at_102, rfl⟩
theorem L_104 : Dc code 104 (.castore) 1 105 := ⟨at_104, rfl⟩
theorem L_105 : Dc code 105 (.aload 9) 2 107 := ⟨at_105, rfl⟩
theorem L_107 : Dc code 107 (.iconst 2) 1 108 := ⟨at_107, rfl⟩
theorem L_108 : Dc code 108 (.iload 8) 2 110 := ⟨at_108, rfl⟩
theorem L_110 : Dc code 110 (.castore) 1 111 := ⟨at_110, rfl⟩
theorem pd0 : parseMethodDescriptor "([CIILjava/lang/Void;)V" = some ⟨[(.array .char), .int, .int, (.object "java/lang/Void")], none⟩ := by decide +kernel
theorem pd1 : parseMethodDescriptor "()I" = some ⟨[], some .int⟩ := by decide +kernel
theorem pd2 : parseMethodDescriptor "()V" = some ⟨[], none⟩ := by decide +kernel
theorem pd3 : parseMethodDescriptor "(Ljava/lang/Object;Ljava/lang/String;)Ljava/lang/Object;" = some ⟨[(.object "java/lang/Object"), (.object "java/lang/String")], some (.object "java/lang/Object")⟩ := by decide +kernel
theorem pd4 : parseMethodDescriptor "(I)V" = some ⟨[.int], none⟩ := by decide +kernel
theorem pd5 : parseMethodDescriptor "()B" = some ⟨[], some .byte⟩ := by decide +kernel
theorem pd6 : parseMethodDescriptor "(Ljava/lang/String;)V" = some ⟨[(.object "java/lang/String")], none⟩ := by decide +kernel
theorem pd7 : parseMethodDescriptor "([BIB)V" = some ⟨[(.array .byte), .int, .byte], none⟩ := by decide +kernel
theorem pd8 : parseMethodDescriptor "(ILjava/lang/String;)V" = some ⟨[.int, (.object "java/lang/String")], none⟩ := by decide +kernel
theorem pd9 : parseMethodDescriptor "(Ljava/lang/String;)Ljava/lang/AbstractStringBuilder;" = some ⟨[(.object "java/lang/String")], some (.object "java/lang/AbstractStringBuilder")⟩ := by decide +kernel
theorem pd10 : parseMethodDescriptor "(I)I" = some ⟨[.int], some .int⟩ := by decide +kernel
theorem pd11 : parseMethodDescriptor "()Z" = some ⟨[], some .boolean⟩ := by decide +kernel
theorem pd12 : parseMethodDescriptor "(II[B)I" = some ⟨[.int, .int, (.array .byte)], some .int⟩ := by decide +kernel
theorem pd13 : parseMethodDescriptor "(I)Ljava/lang/AbstractStringBuilder;" = some ⟨[.int], some (.object "java/lang/AbstractStringBuilder")⟩ := by decide +kernel
theorem pd14 : parseMethodDescriptor "(II)V" = some ⟨[.int, .int], none⟩ := by decide +kernel
theorem pd15 : parseMethodDescriptor "(II)I" = some ⟨[.int, .int], some .int⟩ := by decide +kernel
theorem pd16 : parseMethodDescriptor "([BII)[B" = some ⟨[(.array .byte), .int, .int], some (.array .byte)⟩ := by decide +kernel
theorem pd17 : parseMethodDescriptor "()[B" = some ⟨[], some (.array .byte)⟩ := by decide +kernel
theorem pd18 : parseMethodDescriptor "(Ljava/lang/AbstractStringBuilder;Ljava/lang/Void;)V" = some ⟨[(.object "java/lang/AbstractStringBuilder"), (.object "java/lang/Void")], none⟩ := by decide +kernel
theorem pd19 : parseMethodDescriptor "(Ljava/lang/StringBuilder;)V" = some ⟨[(.object "java/lang/StringBuilder")], none⟩ := by decide +kernel
theorem pd20 : parseMethodDescriptor "(Ljava/lang/String;)Ljava/lang/StringBuilder;" = some ⟨[(.object "java/lang/String")], some (.object "java/lang/StringBuilder")⟩ := by decide +kernel
theorem pd21 : parseMethodDescriptor "(I)Ljava/lang/StringBuilder;" = some ⟨[.int], some (.object "java/lang/StringBuilder")⟩ := by decide +kernel
theorem pd22 : parseMethodDescriptor "()Ljava/lang/String;" = some ⟨[], some (.object "java/lang/String")⟩ := by decide +kernel
theorem pd23 : parseMethodDescriptor "(I)C" = some ⟨[.int], some .char⟩ := by decide +kernel
theorem pd24 : parseMethodDescriptor "([C)V" = some ⟨[(.array .char)], none⟩ := by decide +kernel
theorem pd25 : parseMethodDescriptor "(Ljava/lang/String;I)V" = some ⟨[(.object "java/lang/String"), .int], none⟩ := by decide +kernel
theorem pd26 : parseMethodDescriptor "(Ljava/lang/String;IIIII)Z" = some ⟨[(.object "java/lang/String"), .int, .int, .int, .int, .int], some .boolean⟩ := by decide +kernel
theorem pn0 : plainName "java/lang/String" = true := by first | (simp [plainName, overriddenIn]; done) | decide +kernel
theorem pn1 : plainName "java/lang/Record" = true := by first | (simp [plainName, overriddenIn]; done) | decide +kernel
theorem pn2 : plainName "java/util/Objects" = true := by first | (simp [plainName, overriddenIn]; done) | decide +kernel
theorem pn3 : plainName "java/lang/AbstractStringBuilder" = true := by first | (simp [plainName, overriddenIn]; done) | decide +kernel
theorem pn4 : plainName "java/lang/StringBuilder" = true := by first | (simp [plainName, overriddenIn]; done) | decide +kernel
theorem pn5 : plainName "com/example/outrigger/outrigger/model/Address" = true := by first | (simp [plainName, overriddenIn]; done) | decide +kernel
theorem pn6 : plainName "java/lang/Integer" = true := by first | (simp [plainName, overriddenIn]; done) | decide +kernel
theorem pn7 : plainName "java/util/Arrays" = true := by first | (simp [plainName, overriddenIn]; done) | decide +kernel
theorem pn8 : plainName "com/example/outrigger/outrigger/model/AddressToStringPinLaw" = true := by first | (simp [plainName, overriddenIn]; done) | decide +kernel
def StrL (Z : State) (h : Heap) (x : Addr) (cs : List Int32) : Prop := ∃ (t : Addr) (kb : ClassId), Exa Z h x "java/lang/String" ∧ Fld Z h x "java/lang/String" "coder" "B" (.int 0) ∧ Fld Z h x "java/lang/String" "value" "[B" (.ref t) ∧ Arv Z h t kb .byte (Int32.ofNat cs.length) ((cs.map StrChars.lo8).map Value.int) (.int 0) ∧ (∀ c ∈ cs, ¬ c < 0 ∧ ¬ (255 : Int32) < c) ∧ cs.length ≤ 4000
theorem StrL.ext {Z : State} {h h' : Heap} {x : Addr} {cs : List Int32} (E : Ext h h') (S : StrL Z h x cs) : StrL Z h' x cs := by
  obtain ⟨t, kb, a, b, c, d, e, f⟩ := S
  exact ⟨t, kb, a.ext E, b.ext E, c.ext E, d.ext E, e, f⟩
theorem StrL.exa {Z : State} {h : Heap} {x : Addr} {cs : List Int32} (S : StrL Z h x cs) : Exa Z h x "java/lang/String" := by obtain ⟨t, kb, a, -⟩ := S; exact a
theorem StrL.up {Z : State} {h : Heap} {x : Addr} {cs : List Int32} (S : StrL Z h x cs) : ∀ c ∈ cs, ¬ c < 0 ∧ ¬ (65535 : Int32) < c := by obtain ⟨t, kb, -, -, -, -, e, -⟩ := S; exact fun c hc => ⟨(e c hc).1, ch_up (e c hc).2⟩

theorem hws_new {Z : State} {a0 : Array Value} (hw : ∀ d ∈ tables_1, d.before a0 Z = true) : ∀ d ∈ StrChars.Road.words, d.before a0 Z = true := fun d hd => hw d ((by decide +kernel : ∀ d ∈ StrChars.Road.words, d ∈ tables_1) d hd)

theorem hws_len {Z : State} {a0 : Array Value} (hw : ∀ d ∈ tables_1, d.before a0 Z = true) : ∀ d ∈ StrChars.Road.wordsLen, d.before a0 Z = true := fun d hd => hw d ((by decide +kernel : ∀ d ∈ StrChars.Road.wordsLen, d ∈ tables_1) d hd)

theorem hws_ch {Z : State} {a0 : Array Value} (hw : ∀ d ∈ tables_1, d.before a0 Z = true) : ∀ d ∈ StrChars.Road.wordsChN, d.before a0 Z = true := fun d hd => hw d ((by decide +kernel : ∀ d ∈ StrChars.Road.wordsChN, d ∈ tables_1) d hd)

theorem hsA {Z : State} {a0 : Array Value} (hw : ∀ d ∈ tables_1, d.before a0 Z = true) : ∀ d ∈ Bundle.stringAtoms, d.before a0 Z = true := fun d hd => hw d ((by decide +kernel : ∀ d ∈ Bundle.stringAtoms, d ∈ tables_1) d hd)

theorem cal_strN {md : Option EList} {p : Program} {l : Launch} {e : Env} {R : Room} {args : Array Value} {below : List Frame} {W : Nat} {Z : State} {a0 : Array Value} {h : Heap} {n0 : Nat} (hw : ∀ d ∈ tables_1, d.before a0 Z = true) {x b : Addr} {kC : ClassId} {cs : List Int32} {d v0 c0 : Value} {z : Int32} (n : Nat)
    (hx0 : n0 ≤ x) (hh0 : n0 ≤ h.size) (E : Exa Z h x "java/lang/String") (V : Fld Z h x "java/lang/String" "value" "[B" v0) (C : Fld Z h x "java/lang/String" "coder" "B" c0) (K : Arv Z h b kC .char (Int32.ofNat n) (cs.map Value.int) d) (S : Sta Z h "java/lang/String" "COMPACT_STRINGS" "Z" (.int z)) (hz : ¬ z = 0)
    (hn : cs.length = n) (l0 : 0 < n) (l2 : n ≤ 4000) (hp : ∀ c ∈ cs, ¬ c < 0 ∧ ¬ (255 : Int32) < c) (hfr : 4 ≤ R.frames) (hlo : W + 65 ≤ R.locals) :
    Cal md l R p e below args (⟨"java/lang/String", "<init>", "([C)V"⟩ : MethodName) 3 W Z n0 h [x] #[.ref x, .ref b] 1 n (fun v h' => v = none ∧ StrL Z h' x cs) :=
  Cal.ofBack (fun s' hZ => StrChars.Road.backV (W := W) hZ (hws_new hw) (kI := 4) (wd hw 2 rfl) (cs := cs) (bs := cs.map fun c => c.toInt8.toInt32) (n := n) (n0 := n0) hx0 hh0 E V C K S hz hn rfl l0 l2 hp rfl hfr hlo)
    (fun v h' L q => by
      obtain ⟨q1, q2, q3, q4, q5, t, kb, q6, q7, q8, q9, q10⟩ := q
      subst hn
      exact ⟨⟨q1, t, kb, q4, q5, q9, q10, hp, l2⟩, q3, q2⟩)

theorem cal_ch {md : Option EList} {p : Program} {l : Launch} {e : Env} {R : Room} {args : Array Value} {below : List Frame} {W : Nat} {Z : State} {a0 : Array Value} {h : Heap} {n0 : Nat} (hw : ∀ d ∈ tables_1, d.before a0 Z = true) {x : Addr} {cs : List Int32} {z : Int32} {fm : Value} {j : Int32} (i : Nat) (A : StrL Z h x cs) (S : Sta Z h "java/lang/String" "COMPACT_STRINGS" "Z" (.int z)) (hz : ¬ z = 0) (Sf : Sta Z h "jdk/internal/util/Preconditions" "SIOOBE_FORMATTER" "Ljava/util/function/BiFunction;" fm) (rf : fm.isRef = true) (hi : i < cs.length) (hj : j = Int32.ofNat i) (hfr : 4 ≤ R.frames) (hlo : W + 53 ≤ R.locals) :
    Cal md l R p e below args (⟨"java/lang/String", "charAt", "(I)C"⟩ : MethodName) 3 W Z n0 h [] #[.ref x, .int j] 0 0 (fun v h' => v = some (.int (cs.getD i 0))) := by
  have u1 := A.up
  obtain ⟨t, kb, a1, a2, a3, a4, a5, a6⟩ := A
  refine Cal.ofBack (Q := fun v h' L => v = some (.int (cs.getD i 0)) ∧ L = [] ∧ h' = h) (fun s' hZ => StrChars.Road.chN (W := W) hZ (hws_ch hw) (kI := 4) (wd hw 2 rfl) a1 a3 a2 a4 (StrChars.Road.codOf rfl fun c hc => (a5 c hc).2) u1 S hz Sf rf a6 hi hj hfr hlo) (fun v h' L q => ?_)
  obtain ⟨q1, rfl, rfl⟩ := q
  exact ⟨q1, Keep.refl _ _, Fr.nil _⟩

theorem cal_len {md : Option EList} {p : Program} {l : Launch} {e : Env} {R : Room} {args : Array Value} {below : List Frame} {W : Nat} {Z : State} {a0 : Array Value} {h : Heap} {n0 : Nat} (hw : ∀ d ∈ tables_1, d.before a0 Z = true) {x : Addr} {cs : List Int32} {z : Int32} (A : StrL Z h x cs) (S : Sta Z h "java/lang/String" "COMPACT_STRINGS" "Z" (.int z)) (hz : ¬ z = 0) (hfr : 2 ≤ R.frames) (hlo : W + 25 ≤ R.locals) :
    Cal md l R p e below args (⟨"java/lang/String", "length", "()I"⟩ : MethodName) 3 W Z n0 h [] #[.ref x] 0 0 (fun v h' => v = some (.int (Int32.ofNat cs.length))) := by
  have u1 := A.up
  obtain ⟨t, kb, a1, a2, a3, a4, a5, a6⟩ := A
  refine Cal.ofBack (Q := fun v h' L => v = some (.int (Int32.ofNat cs.length)) ∧ L = [] ∧ h' = h) (fun s' hZ => StrChars.Road.lenW (W := W) hZ (hws_len hw) (kI := 4) (wd hw 2 rfl) a1 a3 a2 a4 (StrChars.Road.codOf rfl fun c hc => (a5 c hc).2) u1 S hz a6 hfr hlo) (fun v h' L q => ?_)
  obtain ⟨q1, rfl, rfl⟩ := q
  exact ⟨q1, Keep.refl _ _, Fr.nil _⟩

set_option maxRecDepth 65536 in
set_option maxHeartbeats 40000000 in
theorem c_initE4 (l : Launch) (Z : State) (a0 : Array Value) (hw : ∀ d ∈ tables_1, d.before a0 Z = true) (h0 : Heap) (n0 : Nat) (Z0 : n0 ≤ h0.size) (x b : Addr) (v1 v2 : Value) (gx : n0 ≤ x) (Ex : Exa Z h0 x "java/lang/String") (F1 : Fld Z h0 x "java/lang/String" "value" "[B" v1) (F2 : Fld Z h0 x "java/lang/String" "coder" "B" v2) (hE : EW Z a0 [("com/example/outrigger/outrigger/model/Address", 7), ("com/example/outrigger/outrigger/model/Address", 92), ("java/lang/String", 7)]) :
    Con (some [("com/example/outrigger/outrigger/model/Address", 7), ("com/example/outrigger/outrigger/model/Address", 92), ("java/lang/String", 7)]) l (⟨"java/lang/String", "<init>", "([CIILjava/lang/Void;)V"⟩ : MethodName) jdk_42_method_149_code 6 none [] ({ frames := 1, cells := 4, slots := 8, locals := 12 } : Room) Z n0 h0 [x] #[(.ref x), (.ref b), (.int (0 : Int32)), (.int (0 : Int32)), .null] (fun v h => v = none ∧ StrL Z h x []) := by
  refine Con.intro pn0 Z0 (allS ⟨gx, Ex.lt⟩ all0) ⟨a0, hE⟩ #[.val (.ref x), .val (.ref b), .val (.int (0 : Int32)), .val (.int (0 : Int32)), .val .null, .unset] (fun m => by first | (simp [entryFrame, mkF, argsToLocals, Value.category]; done) | rfl) ?_
  intro p e s m below meth c T0 hlk hret hnm K0
  have P0 := Keep.refl h0 [x]
  refine gAloadN K0 b1_0 (v := (.ref x)) rfl rfl ?_
  refine gInitO K0 b1_1 (wd hw 11 rfl) (wd hw 12 rfl) (wd hw 13 rfl) rfl (by decide) (W := 0) (Nat.le_of_eq rfl) (by decide) (fun T101 K101 => ?_)
  refine gIloadN K101 b1_4 (v := (0 : Int32)) rfl ?_
  refine gIf_ne K101 b1_5 (fun q => absurd q (by first | decide | (intro hh; cases hh) | simp)) (fun q5 => ?_)
  refine gAloadN K101 b1_8 (v := (.ref x)) rfl rfl ?_
  refine gLdc K101 b1_9 (wd hw 218 rfl) (hsA hw) (by decide) (vs := []) (z := 0) (by decide) (by decide) (by decide) 0 (by decide) (by decide) (by decide) (by decide) (fun T102 h102 a102 b102 kA102 K102 E102 Ea102 Fc102 Fv102 Ab102 ne102 => ?_)
  have P103 := P0.ext E102
  refine gGet K102 b1_11 (wd hw 28 rfl) Fv102 (fun T104 K104 => ?_)
  refine gPut K104 b1_14 (wd hw 28 rfl) (me 0 rfl) (F1.ext E102) (Ex.ext E102) (Or.inr ⟨(wd hw 29 rfl), rfl, hnm⟩) (wd hw 2 rfl) (ty := (.array .byte)) (by decide) rfl rfl (fun T105 h105 K105 W105 F105 => ?_)
  have P106 := P103.trans (Keep.of_wr W105) (fun z q => by cases List.mem_singleton.mp q; exact Or.inl (me 0 rfl))
  have F107 := Fld.other W105 (F2.ext E102) (Or.inr (slot_ne (C := "java/lang/String") (a0 := a0) (Or.inr (wd hw 27 rfl)) (Or.inr (wd hw 29 rfl)) (by decide) (by decide : parseFieldDescriptor _ = some .byte) (by decide : parseFieldDescriptor _ = some (.array .byte))))
  have A108 := Exa.wr W105 (Ex.ext E102)
  refine gAloadN K105 b1_17 (v := (.ref x)) rfl rfl ?_
  refine gLdc K105 b1_18 (wd hw 218 rfl) (hsA hw) (by decide) (vs := []) (z := 0) (by decide) (by decide) (by decide) 0 (by decide) (by decide) (by decide) (by decide) (fun T109 h109 a109 b109 kA109 K109 E109 Ea109 Fc109 Fv109 Ab109 ne109 => ?_)
  have P110 := P106.ext E109
  refine gGet K109 b1_20 (wd hw 26 rfl) Fc109 (fun T111 K111 => ?_)
  refine gPut K111 b1_23 (wd hw 26 rfl) (me 0 rfl) (F107.ext E109) (A108.ext E109) (Or.inr ⟨(wd hw 27 rfl), rfl, hnm⟩) (wd hw 2 rfl) (ty := .byte) (by decide) rfl rfl (fun T112 h112 K112 W112 F112 => ?_)
  have P113 := P110.trans (Keep.of_wr W112) (fun z q => by cases List.mem_singleton.mp q; exact Or.inl (me 0 rfl))
  have F114 := Fld.other W112 (F105.ext E109) (Or.inr (slot_ne (C := "java/lang/String") (a0 := a0) (Or.inr (wd hw 29 rfl)) (Or.inr (wd hw 27 rfl)) (by decide) (by decide : parseFieldDescriptor _ = some (.array .byte)) (by decide : parseFieldDescriptor _ = some .byte)))
  have A115 := Exa.wr W112 (A108.ext E109)
  refine gRetV K112 hlk hret b1_26 P113 (by decide) (by decide) ?_
  exact ⟨rfl, b102, _, A115, F112, F114, (((Ab102.keep (Keep.of_wr W105) (ninS (ne102 x (me 0 rfl)).2.symm nin0)).ext E109).keep (Keep.of_wr W112) (ninS (ne102 x (me 0 rfl)).2.symm nin0)), (fun _ q => nomatch q), by decide⟩
set_option maxRecDepth 65536 in
set_option maxHeartbeats 40000000 in
theorem c_initE1 (l : Launch) (Z : State) (a0 : Array Value) (hw : ∀ d ∈ tables_1, d.before a0 Z = true) (h0 : Heap) (n0 : Nat) (Z0 : n0 ≤ h0.size) (x b : Addr) (kC : ClassId) (vs : List Value) (dv : Value) (v1 v2 : Value) (gx : n0 ≤ x) (Ex : Exa Z h0 x "java/lang/String") (F1 : Fld Z h0 x "java/lang/String" "value" "[B" v1) (F2 : Fld Z h0 x "java/lang/String" "coder" "B" v2) (Ab : Arv Z h0 b kC .char 0 vs dv) (hE : EW Z a0 [("com/example/outrigger/outrigger/model/Address", 7), ("com/example/outrigger/outrigger/model/Address", 92), ("java/lang/String", 7)]) :
    Con (some [("com/example/outrigger/outrigger/model/Address", 7), ("com/example/outrigger/outrigger/model/Address", 92), ("java/lang/String", 7)]) l (⟨"java/lang/String", "<init>", "([C)V"⟩ : MethodName) jdk_42_method_3_code 2 none [] ({ frames := 2, cells := 4, slots := 8, locals := 29 } : Room) Z n0 h0 [x] #[(.ref x), (.ref b)] (fun v h => v = none ∧ StrL Z h x []) := by
  refine Con.intro pn0 Z0 (allS ⟨gx, Ex.lt⟩ all0) ⟨a0, hE⟩ #[.val (.ref x), .val (.ref b)] (fun m => by first | (simp [entryFrame, mkF, argsToLocals, Value.category]; done) | rfl) ?_
  intro p e s m below meth c T0 hlk hret hnm K0
  have P0 := Keep.refl h0 [x]
  refine gAloadN K0 b0_0 (v := (.ref x)) rfl rfl ?_
  refine gAloadN K0 b0_1 (v := (.ref b)) rfl rfl ?_
  refine gIconst K0 (0 : Int32) b0_2 rfl ?_
  refine gAloadN K0 b0_3 (v := (.ref b)) rfl rfl ?_
  refine gLen K0 b0_4 Ab ?_
  refine gNull K0 b0_5 ?_
  refine gCallI K0 (W := 0) x [(.ref b), (.int (0 : Int32)), (.int (0 : Int32)), .null] [] b0_6 rfl (wd hw 7 rfl) (wd hw 8 rfl) (wd hw 10 rfl) (Cal.ofW (W := 0) (c_initE4 l Z a0 hw h0 n0 K0.n0le x b v1 v2 gx Ex F1 F2 hE) (wd hw 10 rfl) (wd hw 3 rfl) (by decide) (by decide)) (fun z q => by cases List.mem_singleton.mp q; exact (me 0 rfl)) pd0 rfl rfl (Nat.le_of_eq rfl) rfl (by decide) (by decide) (by decide) (fun v101 T101 h101 K101 Q101 q101 => ?_)
  have P102 := P0.trans Q101 (fun z q => by cases List.mem_singleton.mp q; exact Or.inl (me 0 rfl))
  obtain ⟨rfl, St101⟩ := q101
  refine gRetV K101 hlk hret b0_9 P102 (by decide) (by decide) ?_
  exact ⟨rfl, St101⟩
theorem cal_str {p : Program} {l : Launch} {e : Env} {R : Room} {args : Array Value} {below : List Frame} {W : Nat} {Z : State} {a0 : Array Value} {h : Heap} {n0 : Nat} (hw : ∀ d ∈ tables_1, d.before a0 Z = true) (hE : EW Z a0 [("com/example/outrigger/outrigger/model/Address", 7), ("com/example/outrigger/outrigger/model/Address", 92), ("java/lang/String", 7)]) {x b : Addr} {kC : ClassId} {cs : List Int32} {d v0 c0 : Value} {z : Int32} (n : Nat)
    (hx0 : n0 ≤ x) (hh0 : n0 ≤ h.size) (E : Exa Z h x "java/lang/String") (V : Fld Z h x "java/lang/String" "value" "[B" v0) (C : Fld Z h x "java/lang/String" "coder" "B" c0) (K : Arv Z h b kC .char (Int32.ofNat n) (cs.map Value.int) d) (S : Sta Z h "java/lang/String" "COMPACT_STRINGS" "Z" (.int z)) (hz : ¬ z = 0)
    (hn : cs.length = n) (l2 : n ≤ 4000) (hp : ∀ c ∈ cs, ¬ c < 0 ∧ ¬ (255 : Int32) < c) (hfr : 4 ≤ R.frames) (hlo : W + 65 ≤ R.locals) (ks : Nat) (hk1 : n ≤ ks) (hk2 : 8 ≤ ks) :
    Cal (some [("com/example/outrigger/outrigger/model/Address", 7), ("com/example/outrigger/outrigger/model/Address", 92), ("java/lang/String", 7)]) l R p e below args (⟨"java/lang/String", "<init>", "([C)V"⟩ : MethodName) 3 W Z n0 h [x] #[.ref x, .ref b] 4 ks (fun v h' => v = none ∧ StrL Z h' x cs) := by
  by_cases h0 : n = 0
  · subst h0
    obtain rfl : cs = [] := List.length_eq_zero_iff.mp hn
    exact Cal.mono (Cal.ofW (W := W) (c_initE1 l Z a0 hw h n0 hh0 x b kC _ d v0 c0 hx0 E V C K hE) (wd hw 6 rfl) (wd hw 3 rfl) (Nat.le_trans (by decide) hfr) (Nat.le_trans (show W + (2 + 11) + 29 ≤ W + 65 by omega) hlo)) (by decide) hk2 (fun _ _ q => q)
  · exact Cal.mono (cal_strN hw n hx0 hh0 E V C K S hz hn (Nat.pos_of_ne_zero h0) l2 hp hfr hlo) (by decide) hk1 (fun _ _ q => q)

def dgt (P k : Nat) : Int32 := Int32.ofNat (48 + P / 10 ^ k % 10)
def nd (P : Nat) : Nat := if P < 10 then 1 else if P < 100 then 2 else if P < 1000 then 3 else if P < 10000 then 4 else 5
def digsN (P : Nat) : Nat → List Int32
  | 0 => []
  | d + 1 => dgt P d :: digsN P d
def bys (cs : List Int32) : List Value := (cs.map StrChars.lo8).map Value.int
theorem bys_app (cs ds : List Int32) : bys (cs ++ ds) = bys cs ++ bys ds := by simp [bys]
theorem bys_len (cs : List Int32) : (bys cs).length = cs.length := by simp [bys]
theorem nd1 {P : Nat} (h : P < 10) : nd P = 1 := if_pos h
theorem nd2 {P : Nat} (h1 : ¬ P < 10) (h : P < 100) : nd P = 2 := (if_neg h1).trans (if_pos h)
theorem nd3 {P : Nat} (h1 : ¬ P < 10) (h2 : ¬ P < 100) (h : P < 1000) : nd P = 3 := (if_neg h1).trans ((if_neg h2).trans (if_pos h))
theorem nd4 {P : Nat} (h1 : ¬ P < 10) (h2 : ¬ P < 100) (h3 : ¬ P < 1000) (h : P < 10000) : nd P = 4 := (if_neg h1).trans ((if_neg h2).trans ((if_neg h3).trans (if_pos h)))
theorem nd5 {P : Nat} (h1 : ¬ P < 10) (h2 : ¬ P < 100) (h3 : ¬ P < 1000) (h4 : ¬ P < 10000) : nd P = 5 := (if_neg h1).trans ((if_neg h2).trans ((if_neg h3).trans (if_neg h4)))
theorem nd_bd (P : Nat) : 1 ≤ nd P ∧ nd P ≤ 5 := by
  unfold nd
  split
  · decide
  · split
    · decide
    · split
      · decide
      · split <;> decide
theorem digsN_len (P : Nat) : ∀ d, (digsN P d).length = d
  | 0 => rfl
  | d + 1 => by simp [digsN, digsN_len P d]
theorem digsN_at (P : Nat) : ∀ d k, k < d → (digsN P d).getD (d - 1 - k) 0 = dgt P k
  | 0, k, h => absurd h (Nat.not_lt_zero k)
  | d + 1, k, h => by
    by_cases e : k = d
    · subst e; rw [show k + 1 - 1 - k = 0 by omega]; rfl
    · have q := digsN_at P d k (by omega)
      rw [show d + 1 - 1 - k = (d - 1 - k) + 1 by omega]
      exact q
theorem lo8_id {k : Nat} (h : k < 128) : StrChars.lo8 (Int32.ofNat k) = Int32.ofNat k := by
  have H : ∀ k, k < 128 → StrChars.lo8 (Int32.ofNat k) = Int32.ofNat k := by decide +kernel
  exact H k h
theorem nar_bN {k : Nat} (h : k < 128) : nar .byte (Int32.ofNat k) = Int32.ofNat k := by
  rw [← lo8_id h]; exact nar_b2 _
theorem dgt_lo8 (P k : Nat) : StrChars.lo8 (dgt P k) = dgt P k := lo8_id (by omega)
theorem dgt_nar (P k : Nat) : nar .byte (dgt P k) = dgt P k := nar_bN (by omega)
theorem dgt_bd (P k : Nat) : ¬ dgt P k < 0 ∧ ¬ (255 : Int32) < dgt P k := by
  have h : 48 + P / 10 ^ k % 10 < 58 := by omega
  constructor
  · exact ofNat_nn (by omega)
  · exact ofNat_nlt (k := 255) (by omega) (by omega)
theorem digsN_lo8 (P : Nat) : ∀ d, bys (digsN P d) = (digsN P d).map Value.int
  | 0 => rfl
  | d + 1 => by
    have q := digsN_lo8 P d
    simp only [bys] at q
    simp only [bys, digsN, List.map_cons, dgt_lo8, q]
theorem digsN_bd (P : Nat) : ∀ d, ∀ c ∈ digsN P d, ¬ c < 0 ∧ ¬ (255 : Int32) < c
  | 0 => fun _ q => nomatch q
  | d + 1 => allI (dgt_bd P d) (digsN_bd P d)
theorem setA {vs : List Value} {n : Nat} (h : vs.length = n) (L : List Value) (k : Nat) (v : Value) : (vs ++ L).set (n + k) v = vs ++ L.set k v := by
  subst h; rw [List.set_append_right _ _ (Nat.le_add_right _ _)]; congr 2; omega
theorem negc {P : Nat} (h : P < 2147483648) : (-(Int32.ofNat P)).toInt = -(P : Int) := by
  have h1 := c_ineg (Int32.ofNat P)
  have h2 := rng32 (-(Int32.ofNat P))
  rw [ofNat_toInt h] at h1
  omega
theorem negdiv {P : Nat} (h : P < 2147483648) : -(Int32.ofNat P) / (100 : Int32) = -(Int32.ofNat (P / 100)) := by
  apply i_eq
  have h1 := c_idiv (-(Int32.ofNat P)) 100 100 (by decide) (by decide)
  rw [negc h] at h1
  rw [negc (by omega)]
  by_cases q : P = 0
  · have := h1.1 (by omega); omega
  · have := h1.2 (by omega); omega
theorem negrem {P : Nat} (h : P < 1000000) : -(Int32.ofNat (P / 100)) * (100 : Int32) - -(Int32.ofNat P) = Int32.ofNat (P % 100) := by
  apply i_eq
  have h1 := c_imul (-(Int32.ofNat (P / 100))) 100
  have h2 := c_isub (-(Int32.ofNat (P / 100)) * (100 : Int32)) (-(Int32.ofNat P))
  have h3 := rng32 (-(Int32.ofNat (P / 100)) * (100 : Int32))
  have h4 := rng32 (-(Int32.ofNat (P / 100)) * (100 : Int32) - -(Int32.ofNat P))
  rw [negc (by omega)] at h1
  rw [negc (by omega)] at h2
  rw [ofNat_toInt (by omega)]
  have e : (100 : Int32).toInt = 100 := by decide
  rw [e] at h1
  omega
theorem decN {k : Nat} (h : k + 1 < 2147483648) : Int32.ofNat (k + 1) + (-1 : Int32) = Int32.ofNat k := by
  apply i_eq
  have h1 := c_iadd (Int32.ofNat (k + 1)) (-1)
  have h2 := rng32 (Int32.ofNat (k + 1) + (-1 : Int32))
  rw [ofNat_toInt h] at h1
  rw [ofNat_toInt (by omega)]
  have e : (-1 : Int32).toInt = -1 := by decide
  rw [e] at h1
  omega
def onesL : List Value := (List.range 100).map fun r => Value.int (Int32.ofNat (48 + r % 10))
def tensL : List Value := (List.range 100).map fun r => Value.int (Int32.ofNat (48 + r / 10))
theorem ones_at {r : Nat} (h : r < 100) : onesL.getD r (.int 0) = .int (Int32.ofNat (48 + r % 10)) := by
  simp [onesL, List.getD_eq_getElem?_getD, h]
theorem tens_at {r : Nat} (h : r < 100) : tensL.getD r (.int 0) = .int (Int32.ofNat (48 + r / 10)) := by
  simp [tensL, List.getD_eq_getElem?_getD, h]
theorem cap16 {k : Nat} (h : k ≤ 16) : ¬ (0 : Int32) < Int32.ofNat k - (16 : Int32) := by
  rw [Int32.lt_iff_toInt_lt]
  have h1 := c_isub (Int32.ofNat k) 16
  have h2 := rng32 (Int32.ofNat k - (16 : Int32))
  rw [ofNat_toInt (by omega)] at h1
  have e : (16 : Int32).toInt = 16 := by decide
  have e0 : (0 : Int32).toInt = 0 := by decide
  rw [e] at h1
  omega
theorem shl0 (x : Int32) : x <<< ((0 : Int32) &&& 31) = x := by
  rw [show ((0 : Int32) &&& 31) = 0 by decide]
  apply Int32.toBitVec_inj.mp
  simp
theorem cpA2 {vs us : List Value} {n m : Nat} (hv : vs.length = n) (hu : us.length = m) (d : Value) : (vs ++ List.replicate m d).take n ++ us ++ (vs ++ List.replicate m d).drop (n + m) = vs ++ us := by
  subst hv hu
  rw [List.take_left' rfl, List.drop_eq_nil_of_le (by simp), List.append_nil]
theorem us_of {us : List Value} {m : Nat} (hu : us.length = m) (d : Value) : us = (List.range m).map fun i => us.getD (0 + i) d := by
  subst hu; rw [← range_take (Nat.le_refl _), List.take_length]
theorem mod_nat2 (x : Int32) (d : Nat) (h0 : 0 < d) (h1 : d < 2147483648) : ∃ k : Nat, k < d ∧ (x &&& 2147483647) % Int32.ofNat d = Int32.ofNat k := by
  have a1 := c_and x 2147483647 (by decide)
  have a2 := c_irem (x &&& 2147483647) (Int32.ofNat d) d (ofNat_toInt (by omega))
  have a3 := a2.1 (by omega)
  refine ⟨((x &&& 2147483647).toInt % d).toNat, ?_, i_eq ?_⟩
  · have := Int.emod_lt_of_pos (x &&& 2147483647).toInt (show (0 : Int) < d by omega)
    have := Int.emod_nonneg (x &&& 2147483647).toInt (show (d : Int) ≠ 0 by omega)
    omega
  · have g1 := Int.emod_lt_of_pos (x &&& 2147483647).toInt (show (0 : Int) < d by omega)
    have g2 := Int.emod_nonneg (x &&& 2147483647).toInt (show (d : Int) ≠ 0 by omega)
    rw [a3, ofNat_toInt (by omega)]; omega
theorem port_nat (x : Int32) : ∃ P : Nat, 1 ≤ P ∧ P ≤ 65535 ∧ (x &&& 2147483647) % (65535 : Int32) + 1 = Int32.ofNat P := by
  obtain ⟨k, hk, e⟩ := mod_nat2 x 65535 (by decide) (by decide)
  refine ⟨k + 1, by omega, by omega, ?_⟩
  rw [show (65535 : Int32) = Int32.ofNat 65535 from rfl, e]
  exact ofNat_add (b := 1) (by omega)
theorem digcalc {P w : Nat} (hP : P ≤ 65535) (h0 : 0 < w) (hw : w ≤ 10000) : ((48 : Int32) + Int32.ofNat P / Int32.ofNat w % (10 : Int32)).toUInt32.toUInt16.toUInt32.toInt32 = Int32.ofNat (48 + P / w % 10) := by
  have h1 := (c_idiv (Int32.ofNat P) (Int32.ofNat w) w (ofNat_toInt (by omega)) (fun q => by
    have := congrArg Int32.toInt q
    rw [ofNat_toInt (by omega), show (-1 : Int32).toInt = -1 by decide] at this; omega)).1 (by rw [ofNat_toInt (by omega)]; omega)
  rw [ofNat_toInt (by omega)] at h1
  have e1 : Int32.ofNat P / Int32.ofNat w = Int32.ofNat (P / w) := i_eq (by rw [h1, ofNat_toInt (Nat.lt_of_le_of_lt (Nat.div_le_self P w) (by omega))]; rfl)
  have hb : P / w ≤ 65535 := Nat.le_trans (Nat.div_le_self P w) hP
  rw [e1]
  generalize P / w = Q at hb
  have h2 := (c_irem (Int32.ofNat Q) 10 10 (by decide)).1 (by rw [ofNat_toInt (by omega)]; omega)
  rw [ofNat_toInt (by omega)] at h2
  have e2 : Int32.ofNat Q % (10 : Int32) = Int32.ofNat (Q % 10) := i_eq (by rw [h2, ofNat_toInt (by omega)]; omega)
  rw [e2, show (48 : Int32) + Int32.ofNat (Q % 10) = Int32.ofNat (48 + Q % 10) from ofNat_add (a := 48) (by omega)]
  apply i_eq
  have h3 := c_i2c (Int32.ofNat (48 + Q % 10))
  rw [ofNat_toInt (by omega)] at h3 ⊢
  omega
theorem idx4 {S d k : Nat} (h : k < d) (hS : S + d < 1000) : Int32.ofNat S + Int32.ofNat d - (1 : Int32) - Int32.ofNat k = Int32.ofNat (S + d - 1 - k) := by
  rw [ofNat_add (by omega), show Int32.ofNat (S + d) - (1 : Int32) = Int32.ofNat (S + d - 1) from ofNat_sub (b := 1) (by omega) (by omega), ofNat_sub (by omega) (by omega)]
def full (cs : List Int32) (P : Nat) : List Int32 := cs ++ 58 :: digsN P (nd P)
theorem full_len (cs : List Int32) (P : Nat) : (full cs P).length = cs.length + 1 + nd P := by simp [full, digsN_len]; omega
theorem full_host {cs : List Int32} {P i : Nat} (h : i < cs.length) : (full cs P).getD i 0 = cs.getD i 0 := by
  rw [full, List.getD_eq_getElem?_getD, List.getD_eq_getElem?_getD, List.getElem?_append_left h]
theorem full_colon (cs : List Int32) (P : Nat) : (full cs P).getD cs.length 0 = 58 := by
  rw [full, List.getD_eq_getElem?_getD, List.getElem?_append_right (Nat.le_refl _), Nat.sub_self]; rfl
theorem full_dig {cs : List Int32} {P k : Nat} (h : k < nd P) : (full cs P).getD (cs.length + 1 + nd P - 1 - k) 0 = dgt P k := by
  rw [← digsN_at P (nd P) k h, full, List.getD_eq_getElem?_getD, List.getElem?_append_right (by omega), show cs.length + 1 + nd P - 1 - k - cs.length = (nd P - 1 - k) + 1 by omega, List.getElem?_cons_succ, ← List.getD_eq_getElem?_getD]

theorem eqint_r {args : Array Value} {first s : State} {o : Option Outcome} {idx : List Nat} {t u : Term} {c : Int32} (q : (Cond.eq t u).value args first o s idx = some true) (hu : u.eval args first o idx s = some (.int c)) : t.eval args first o idx s = some (.int c) := by
  simp only [Cond.value, hu] at q
  cases ht : t.eval args first o idx s with
  | none => simp [ht] at q
  | some y => cases y <;> simp [ht] at q ⊢; exact q
theorem dig_words {args a1 : Array Value} {s : State} {name : String} {rhs : Term} {F : Nat → Nat} (hf : Fit s) (hx : (Cond.exactly (Term.static "java/lang/Integer" name "[B") "[B").before args s = true) (hl0 : (Cond.eq (.length (Term.static "java/lang/Integer" name "[B")) (.int 100)).before args s = true)
    (hall : (Cond.all (Term.static "java/lang/Integer" name "[B") (.eq (.elem (Term.static "java/lang/Integer" name "[B") (.index 0)) rhs)).before args s = true) (harr : (Cond.arrayClass .byte).before a1 s = true) (hrhs : ∀ r, r < 100 → rhs.eval args s none [r] s = some (.int (Int32.ofNat (F r)))) :
    ∃ (d : Addr) (k : ClassId), (Term.static "java/lang/Integer" name "[B").eval args s none [] s = some (.ref d) ∧ Arv s s.heap d k .byte 100 ((List.range 100).map fun r => Value.int (Int32.ofNat (F r))) (.int 0) := by
  obtain ⟨d, cB, D, kB, hev, hfcB, hcellD, hkB, hstatD, hclsD, -⟩ := Cond.exactly_spec hx
  have hevAll : ∀ idx, (Term.static "java/lang/Integer" name "[B").eval args s none idx s = some (.ref d) := fun idx => by
    rw [show (Term.static "java/lang/Integer" name "[B").eval args s none idx s = (Term.static "java/lang/Integer" name "[B").eval args s none [] s by simp only [Term.eval]]; exact hev
  have hl := Cond.eq_int hl0 rfl
  obtain ⟨d', D', hev', harrAt, hlen⟩ := Term.length_spec hl
  cases hev.symm.trans hev'
  obtain ⟨hcellD', hknD, -, -⟩ := State.arrayAt?_spec harrAt
  cases hcellD.symm.trans hcellD'
  have h31 := Jvm.Free.SBG.length_lt hev harrAt hl
  have hsi : Int32.ofNat D.slots.size = Int32.ofNat 100 := (Value.int.inj hlen).symm
  have hsz : D.slots.size = 100 := by
    have := congrArg Int32.toInt hsi
    rw [ofNat_toInt (by omega), ofNat_toInt (by omega)] at this; omega
  obtain ⟨cB', kB', comp, hnameB, hkB', hkindB⟩ := Cond.arrayClass_spec harr
  have eBA : ("[" ++ FieldType.toString .byte) = "[B" := by decide
  rw [eBA] at hnameB
  cases hfcB.symm.trans hnameB
  cases hkB.symm.trans hkB'
  have A : Arr s s.heap d D .byte := ⟨hcellD, ⟨(fun q h => by rw [h] at hstatD; cases hstatD), kB, (by rw [hclsD]; exact hkB), comp, hkindB⟩, hknD⟩
  refine ⟨d, _, hev, Arv.start hf A (by omega) hsi (by decide) (by rw [List.length_map, List.length_range]; decide) (hasL_of (dv := .int 0) _ 0 fun j hj => ?_)⟩
  have hj' : j < 100 := by simpa using hj
  have h := Cond.all_elim (hevAll []) harrAt (Jvm.Free.AList.val_of_holds hall) j (by omega)
  have eL : (Term.elem (Term.static "java/lang/Integer" name "[B") (.index 0)).eval args s none [j] s = D.slots[j]? := Jvm.Free.SBG.elem_at (ix := .index 0) (hevAll [j]) harrAt (by omega) (by omega) rfl
  have e2 := eqint_r h (hrhs j hj')
  rw [Nat.zero_add, ← eL, e2]
  simp [List.getD_eq_getElem?_getD, hj']

theorem and3 (x : Int32) : x &&& 3 = 0 ∨ x &&& 3 = 1 ∨ x &&& 3 = 2 ∨ x &&& 3 = 3 := by
  have h := c_and x 3 (by decide)
  have f : ∀ k : Int32, (x &&& 3).toInt = k.toInt → x &&& 3 = k := fun k q => i_eq q
  rw [show (3 : Int32).toInt = 3 by decide] at h
  have h' : (x &&& 3).toInt = (0 : Int32).toInt ∨ (x &&& 3).toInt = (1 : Int32).toInt ∨ (x &&& 3).toInt = (2 : Int32).toInt ∨ (x &&& 3).toInt = (3 : Int32).toInt := by
    rw [show (0 : Int32).toInt = 0 by decide, show (1 : Int32).toInt = 1 by decide, show (2 : Int32).toInt = 2 by decide, show (3 : Int32).toInt = 3 by decide]
    omega
  rcases h' with q | q | q | q
  · exact Or.inl (f _ q)
  · exact Or.inr (Or.inl (f _ q))
  · exact Or.inr (Or.inr (Or.inl (f _ q)))
  · exact Or.inr (Or.inr (Or.inr (f _ q)))

set_option maxRecDepth 65536 in
set_option maxHeartbeats 40000000 in
theorem c_rec (l : Launch) (Z : State) (a0 : Array Value) (hw : ∀ d ∈ tables_1, d.before a0 Z = true) (h0 : Heap) (n0 : Nat) (Z0 : n0 ≤ h0.size) (x : Addr) :
    Con none l (⟨"java/lang/Record", "<init>", "()V"⟩ : MethodName) jdk_30_method_1_code 1 none [] ({ frames := 1, cells := 0, slots := 0, locals := 12 } : Room) Z n0 h0 [] #[(.ref x)] (fun v h => v = none) := by
  refine Con.intro pn1 Z0 (fun _ q => nomatch q) trivial #[.val (.ref x)] (fun m => by first | (simp [entryFrame, mkF, argsToLocals, Value.category]; done) | rfl) ?_
  intro p e s m below meth c T0 hlk hret hnm K0
  have P0 := Keep.refl h0 []
  refine gAloadN K0 b7_0 (v := (.ref x)) rfl rfl ?_
  refine gInitO K0 b7_1 (wd hw 43 rfl) (wd hw 12 rfl) (wd hw 13 rfl) rfl (by decide) (W := 0) (Nat.le_of_eq rfl) (by decide) (fun T101 K101 => ?_)
  refine gRetV K101 hlk hret b7_4 P0 (by decide) (by decide) ?_
  exact rfl
set_option maxRecDepth 65536 in
set_option maxHeartbeats 40000000 in
theorem c_rnn (l : Launch) (Z : State) (a0 : Array Value) (hw : ∀ d ∈ tables_1, d.before a0 Z = true) (h0 : Heap) (n0 : Nat) (Z0 : n0 ≤ h0.size) (x y : Addr) :
    Con none l (⟨"java/util/Objects", "requireNonNull", "(Ljava/lang/Object;Ljava/lang/String;)Ljava/lang/Object;"⟩ : MethodName) jdk_31_method_11_code 2 (some (.object "java/lang/Object")) [] ({ frames := 0, cells := 0, slots := 0, locals := 0 } : Room) Z n0 h0 [] #[(.ref x), (.ref y)] (fun v h => v = some (.ref x)) := by
  refine Con.intro pn2 Z0 (fun _ q => nomatch q) trivial #[.val (.ref x), .val (.ref y)] (fun m => by first | (simp [entryFrame, mkF, argsToLocals, Value.category]; done) | rfl) ?_
  intro p e s m below meth c T0 hlk hret hnm K0
  have P0 := Keep.refl h0 []
  refine gAloadN K0 b8_0 (v := (.ref x)) rfl rfl ?_
  refine gIfnonnull_t K0 b8_1 ?_
  refine gAloadN K0 b8_13 (v := (.ref x)) rfl rfl ?_
  refine gRetA K0 hlk hret rfl rfl b8_14 P0 (by decide) (by decide) ?_
  exact rfl
set_option maxRecDepth 65536 in
set_option maxHeartbeats 40000000 in
theorem c_cdr (l : Launch) (Z : State) (a0 : Array Value) (hw : ∀ d ∈ tables_1, d.before a0 Z = true) (h0 : Heap) (n0 : Nat) (Z0 : n0 ≤ h0.size) (x : Addr) (Fc : Fld Z h0 x "java/lang/String" "coder" "B" (.int 0)) (z : Int32) (Sc : Sta Z h0 "java/lang/String" "COMPACT_STRINGS" "Z" (.int z)) (hz : ¬ z = 0) :
    Con none l (⟨"java/lang/String", "coder", "()B"⟩ : MethodName) jdk_42_method_152_code 1 (some .byte) [] ({ frames := 0, cells := 0, slots := 0, locals := 0 } : Room) Z n0 h0 [] #[(.ref x)] (fun v h => v = some (.int 0)) := by
  refine Con.intro pn0 Z0 (fun _ q => nomatch q) trivial #[.val (.ref x)] (fun m => by first | (simp [entryFrame, mkF, argsToLocals, Value.category]; done) | rfl) ?_
  intro p e s m below meth c T0 hlk hret hnm K0
  have P0 := Keep.refl h0 []
  refine gGetS K0 b15_0 (wd hw 14 rfl) Sc (fun T101 K101 => ?_)
  refine gIf_eq K101 b15_3 (fun q => absurd q hz) (fun q3 => ?_)
  refine gAloadN K101 b15_6 (v := (.ref x)) rfl rfl ?_
  refine gGet K101 b15_7 (wd hw 26 rfl) Fc (fun T102 K102 => ?_)
  refine gGoto K102 b15_10 ?_
  refine gRetI K102 hlk hret (by simp) b15_14 rfl P0 (by decide) (by decide) ?_
  exact rfl
set_option maxRecDepth 65536 in
set_option maxHeartbeats 40000000 in
theorem c_isLA (l : Launch) (Z : State) (a0 : Array Value) (hw : ∀ d ∈ tables_1, d.before a0 Z = true) (h0 : Heap) (n0 : Nat) (Z0 : n0 ≤ h0.size) (x : Addr) (F2 : Fld Z h0 x "java/lang/AbstractStringBuilder" "coder" "B" (.int 0)) (z : Int32) (Sc : Sta Z h0 "java/lang/String" "COMPACT_STRINGS" "Z" (.int z)) (hz : ¬ z = 0) :
    Con none l (⟨"java/lang/AbstractStringBuilder", "isLatin1", "()Z"⟩ : MethodName) jdk_68_method_68_code 1 (some .boolean) [] ({ frames := 0, cells := 0, slots := 0, locals := 0 } : Room) Z n0 h0 [] #[(.ref x)] (fun v h => v = some (.int 1)) := by
  refine Con.intro pn3 Z0 (fun _ q => nomatch q) trivial #[.val (.ref x)] (fun m => by first | (simp [entryFrame, mkF, argsToLocals, Value.category]; done) | rfl) ?_
  intro p e s m below meth c T0 hlk hret hnm K0
  have P0 := Keep.refl h0 []
  refine gGetS K0 b23_0 (wd hw 74 rfl) Sc (fun T101 K101 => ?_)
  refine gIf_eq K101 b23_3 (fun q => absurd q hz) (fun q3 => ?_)
  refine gAloadN K101 b23_6 (v := (.ref x)) rfl rfl ?_
  refine gGet K101 b23_7 (wd hw 77 rfl) F2 (fun T102 K102 => ?_)
  refine gIf_ne K102 b23_10 (fun q => absurd q (by first | decide | (intro hh; cases hh) | simp)) (fun q10 => ?_)
  refine gIconst K102 (1 : Int32) b23_13 rfl ?_
  refine gGoto K102 b23_14 ?_
  refine gRetI K102 hlk hret (by simp) b23_18 rfl P0 (by decide) (by decide) ?_
  exact rfl
set_option maxRecDepth 65536 in
set_option maxHeartbeats 40000000 in
theorem c_getV (l : Launch) (Z : State) (a0 : Array Value) (hw : ∀ d ∈ tables_1, d.before a0 Z = true) (h0 : Heap) (n0 : Nat) (Z0 : n0 ≤ h0.size) (x t : Addr) (F1 : Fld Z h0 x "java/lang/AbstractStringBuilder" "value" "[B" (.ref t)) :
    Con none l (⟨"java/lang/AbstractStringBuilder", "getValue", "()[B"⟩ : MethodName) jdk_68_method_64_code 1 (some (.array .byte)) [] ({ frames := 0, cells := 0, slots := 0, locals := 0 } : Room) Z n0 h0 [] #[(.ref x)] (fun v h => v = some (.ref t)) := by
  refine Con.intro pn3 Z0 (fun _ q => nomatch q) trivial #[.val (.ref x)] (fun m => by first | (simp [entryFrame, mkF, argsToLocals, Value.category]; done) | rfl) ?_
  intro p e s m below meth c T0 hlk hret hnm K0
  have P0 := Keep.refl h0 []
  refine gAloadN K0 b28_0 (v := (.ref x)) rfl rfl ?_
  refine gGet K0 b28_1 (wd hw 75 rfl) F1 (fun T101 K101 => ?_)
  refine gRetA K101 hlk hret rfl rfl b28_4 P0 (by decide) (by decide) ?_
  exact rfl
set_option maxRecDepth 65536 in
set_option maxHeartbeats 40000000 in
theorem c_lenA (l : Launch) (Z : State) (a0 : Array Value) (hw : ∀ d ∈ tables_1, d.before a0 Z = true) (h0 : Heap) (n0 : Nat) (Z0 : n0 ≤ h0.size) (x : Addr) (k : Int32) (F3 : Fld Z h0 x "java/lang/AbstractStringBuilder" "count" "I" (.int k)) :
    Con none l (⟨"java/lang/AbstractStringBuilder", "length", "()I"⟩ : MethodName) jdk_68_method_6_code 1 (some .int) [] ({ frames := 0, cells := 0, slots := 0, locals := 0 } : Room) Z n0 h0 [] #[(.ref x)] (fun v h => v = some (.int k)) := by
  refine Con.intro pn3 Z0 (fun _ q => nomatch q) trivial #[.val (.ref x)] (fun m => by first | (simp [entryFrame, mkF, argsToLocals, Value.category]; done) | rfl) ?_
  intro p e s m below meth c T0 hlk hret hnm K0
  have P0 := Keep.refl h0 []
  refine gAloadN K0 b30_0 (v := (.ref x)) rfl rfl ?_
  refine gGet K0 b30_1 (wd hw 99 rfl) F3 (fun T101 K101 => ?_)
  refine gRetI K101 hlk hret (by simp) b30_4 rfl P0 (by decide) (by decide) ?_
  exact rfl
set_option maxRecDepth 65536 in
set_option maxHeartbeats 40000000 in
theorem c_lenB (l : Launch) (Z : State) (a0 : Array Value) (hw : ∀ d ∈ tables_1, d.before a0 Z = true) (h0 : Heap) (n0 : Nat) (Z0 : n0 ≤ h0.size) (x : Addr) (k : Int32) (Ex : Exa Z h0 x "java/lang/StringBuilder") (F3 : Fld Z h0 x "java/lang/AbstractStringBuilder" "count" "I" (.int k)) :
    Con none l (⟨"java/lang/StringBuilder", "length", "()I"⟩ : MethodName) jdk_67_method_93_code 1 (some .int) [] ({ frames := 1, cells := 0, slots := 0, locals := 14 } : Room) Z n0 h0 [] #[(.ref x)] (fun v h => v = some (.int k)) := by
  refine Con.intro pn4 Z0 (fun _ q => nomatch q) trivial #[.val (.ref x)] (fun m => by first | (simp [entryFrame, mkF, argsToLocals, Value.category]; done) | rfl) ?_
  intro p e s m below meth c T0 hlk hret hnm K0
  have P0 := Keep.refl h0 []
  refine gAloadN K0 b29_0 (v := (.ref x)) rfl rfl ?_
  refine gCallU K0 (W := 0) (C := "java/lang/StringBuilder") x [] [] b29_1 (by decide) (wd hw 172 rfl) (same_of (wd hw 168 rfl) (wd hw 164 rfl) rfl (by decide)) (wd hw 168 rfl) (wd hw 86 rfl) (wd hw 173 rfl) (Cal.ofN (W := 0) (c_lenA l Z a0 hw h0 n0 K0.n0le x k F3) (wd hw 173 rfl) (wd hw 71 rfl) (by decide) (by decide)) Ex (fun _ q => nomatch q) pd1 rfl rfl (Nat.le_of_eq rfl) rfl (by decide) (by decide) (fun v101 T101 h101 K101 Q101 q101 => ?_)
  have E101 := Ext.of0 Q101
  have P102 := P0.ext E101
  cases q101
  refine gRetI K101 hlk hret (by simp) b29_4 rfl P102 (by decide) (by decide) ?_
  exact rfl
set_option maxRecDepth 65536 in
set_option maxHeartbeats 40000000 in
theorem c_eci (l : Launch) (Z : State) (a0 : Array Value) (hw : ∀ d ∈ tables_1, d.before a0 Z = true) (h0 : Heap) (n0 : Nat) (Z0 : n0 ≤ h0.size) (x t : Addr) (kb : ClassId) (vs : List Value) (n : Nat) (Ex : Exa Z h0 x "java/lang/StringBuilder") (F1 : Fld Z h0 x "java/lang/AbstractStringBuilder" "value" "[B" (.ref t)) (F2 : Fld Z h0 x "java/lang/AbstractStringBuilder" "coder" "B" (.int 0)) (F3 : Fld Z h0 x "java/lang/AbstractStringBuilder" "count" "I" (.int (Int32.ofNat n))) (At : Arv Z h0 t kb .byte 16 vs (.int 0)) (hv : vs.length = n) (k : Nat) (hk : k ≤ 16) (z : Int32) (Sc : Sta Z h0 "java/lang/String" "COMPACT_STRINGS" "Z" (.int z)) (hz : ¬ z = 0) :
    Con none l (⟨"java/lang/AbstractStringBuilder", "ensureCapacityInternal", "(I)V"⟩ : MethodName) jdk_68_method_9_code 3 none [] ({ frames := 0, cells := 0, slots := 0, locals := 0 } : Room) Z n0 h0 [] #[(.ref x), (.int (Int32.ofNat k))] (fun v h => v = none) := by
  refine Con.intro pn3 Z0 (fun _ q => nomatch q) trivial #[.val (.ref x), .val (.int (Int32.ofNat k)), .unset] (fun m => by first | (simp [entryFrame, mkF, argsToLocals, Value.category]; done) | rfl) ?_
  intro p e s m below meth c T0 hlk hret hnm K0
  have P0 := Keep.refl h0 []
  refine gAloadN K0 b16_0 (v := (.ref x)) rfl rfl ?_
  refine gGet K0 b16_1 (wd hw 75 rfl) F1 (fun T101 K101 => ?_)
  refine gLen K101 b16_4 At ?_
  refine gAloadN K101 b16_5 (v := (.ref x)) rfl rfl ?_
  refine gGet K101 b16_6 (wd hw 77 rfl) F2 (fun T102 K102 => ?_)
  refine gIshrV K102 (16 : Int32) b16_9 (by decide) ?_
  refine gIstoreN K102 b16_10 (Ls' := #[.val (.ref x), .val (.int (Int32.ofNat k)), .val (.int (16 : Int32))]) rfl ?_
  refine gIloadN K102 b16_11 (v := (Int32.ofNat k)) rfl ?_
  refine gIloadN K102 b16_12 (v := (16 : Int32)) rfl ?_
  refine gIsub K102 b16_13 ?_
  refine gIf_le K102 b16_14 (fun q14 => ?_) (fun q => absurd q (cap16 hk))
  refine gRetV K102 hlk hret b16_38 P0 (by decide) (by decide) ?_
  exact rfl
set_option maxRecDepth 65536 in
set_option maxHeartbeats 40000000 in
theorem c_addr (l : Launch) (Z : State) (a0 : Array Value) (hw : ∀ d ∈ tables_1, d.before a0 Z = true) (h0 : Heap) (n0 : Nat) (Z0 : n0 ≤ h0.size) (x st : Addr) (P : Nat) (v1 v2 : Value) (hP0 : 1 ≤ P) (hP1 : P ≤ 65535) (gx : n0 ≤ x) (Ex : Exa Z h0 x "com/example/outrigger/outrigger/model/Address") (F1 : Fld Z h0 x "com/example/outrigger/outrigger/model/Address" "host" "Ljava/lang/String;" v1) (F2 : Fld Z h0 x "com/example/outrigger/outrigger/model/Address" "port" "I" v2) (hE : EW Z a0 [("com/example/outrigger/outrigger/model/Address", 7), ("com/example/outrigger/outrigger/model/Address", 92), ("java/lang/String", 7)]) :
    Con (some [("com/example/outrigger/outrigger/model/Address", 7), ("com/example/outrigger/outrigger/model/Address", 92), ("java/lang/String", 7)]) l (⟨"com/example/outrigger/outrigger/model/Address", "<init>", "(Ljava/lang/String;I)V"⟩ : MethodName) prog_28_method_1_code 3 none [] ({ frames := 2, cells := 2, slots := 20, locals := 26 } : Room) Z n0 h0 [x] #[(.ref x), (.ref st), (.int (Int32.ofNat P))] (fun v h => v = none ∧ Exa Z h x "com/example/outrigger/outrigger/model/Address" ∧ Fld Z h x "com/example/outrigger/outrigger/model/Address" "host" "Ljava/lang/String;" (.ref st) ∧ Fld Z h x "com/example/outrigger/outrigger/model/Address" "port" "I" (.int (Int32.ofNat P))) := by
  refine Con.intro pn5 Z0 (allS ⟨gx, Ex.lt⟩ all0) ⟨a0, hE⟩ #[.val (.ref x), .val (.ref st), .val (.int (Int32.ofNat P))] (fun m => by first | (simp [entryFrame, mkF, argsToLocals, Value.category]; done) | rfl) ?_
  intro p e s m below meth c T0 hlk hret hnm K0
  have P0 := Keep.refl h0 [x]
  refine gAloadN K0 b6_0 (v := (.ref x)) rfl rfl ?_
  refine gCallI K0 (W := 0) x [] [] b6_1 rfl (wd hw 38 rfl) (wd hw 39 rfl) (wd hw 42 rfl) (Cal.ofN (W := 0) (c_rec l Z a0 hw h0 n0 K0.n0le x) (wd hw 42 rfl) (wd hw 41 rfl) (by decide) (by decide)) (fun _ q => nomatch q) pd2 rfl rfl (Nat.le_of_eq rfl) rfl (by decide) (by decide) (by decide) (fun v101 T101 h101 K101 Q101 q101 => ?_)
  have E101 := Ext.of0 Q101
  have P102 := P0.ext E101
  cases q101
  refine gAloadN K101 b6_4 (v := (.ref st)) rfl rfl ?_
  refine gLdc K101 b6_5 (wd hw 44 rfl) (hsA hw) (by decide) (vs := ([(104 : Int32), (111 : Int32), (115 : Int32), (116 : Int32)].map StrChars.lo8).map Value.int) (z := Int32.ofNat 4) (by decide +kernel) (by decide) (by decide) 16 (by decide) (by decide) (by decide) (by decide) (fun T103 h103 a103 b103 kA103 K103 E103 Ea103 Fc103 Fv103 Ab103 ne103 => ?_)
  have P104 := P102.ext E103
  have Sl103 : StrL Z h103 a103 [(104 : Int32), (111 : Int32), (115 : Int32), (116 : Int32)] := ⟨b103, kA103, Ea103, Fc103, Fv103, Ab103, by decide, by decide⟩
  refine gCallS K103 (W := 0) [(.ref st), (.ref a103)] [] b6_7 (wd hw 47 rfl) (wd hw 48 rfl) (wd hw 49 rfl) (wd hw 50 rfl) (Cal.ofN (W := 0) (c_rnn l Z a0 hw h103 n0 K103.n0le st a103) (wd hw 50 rfl) (wd hw 49 rfl) (by decide) (by decide)) (fun _ q => nomatch q) pd3 rfl rfl (Nat.le_of_eq rfl) rfl (by decide) (by decide) (by decide) (fun v105 T105 h105 K105 Q105 q105 => ?_)
  have E105 := Ext.of0 Q105
  have P106 := P104.ext E105
  cases q105
  refine gPop K105 b6_10 rfl ?_
  refine gIloadN K105 b6_11 (v := (Int32.ofNat P)) rfl ?_
  refine gIconst K105 (1 : Int32) b6_12 rfl ?_
  refine gIcmp_lt K105 b6_13 (fun q => absurd q (ofNat_nlt (n := 1) hP0 (by omega))) (fun q13 => ?_)
  refine gIloadN K105 b6_16 (v := (Int32.ofNat P)) rfl ?_
  refine gLdcI K105 (65535 : Int32) b6_17 (wd hw 51 rfl) ?_
  refine gIcmp_le K105 b6_19 (fun q19 => ?_) (fun q => absurd q (ofNat_nlt (k := 65535) hP1 (by decide)))
  refine gAloadN K105 b6_32 (v := (.ref x)) rfl rfl ?_
  refine gAloadN K105 b6_33 (v := (.ref st)) rfl rfl ?_
  refine gPut K105 b6_34 (wd hw 52 rfl) (me 0 rfl) (F1.ext (Ext.tr (Ext.tr E101 E103) E105)) (Ex.ext (Ext.tr (Ext.tr E101 E103) E105)) (Or.inr ⟨(wd hw 53 rfl), rfl, hnm⟩) (wd hw 33 rfl) (ty := (.object "java/lang/String")) (by decide) rfl rfl (fun T107 h107 K107 W107 F107 => ?_)
  have P108 := P106.trans (Keep.of_wr W107) (fun z q => by cases List.mem_singleton.mp q; exact Or.inl (me 0 rfl))
  have F109 := Fld.other W107 (F2.ext (Ext.tr (Ext.tr E101 E103) E105)) (Or.inr (slot_ne (C := "com/example/outrigger/outrigger/model/Address") (a0 := a0) (Or.inr (wd hw 55 rfl)) (Or.inr (wd hw 53 rfl)) (by decide) (by decide : parseFieldDescriptor _ = some .int) (by decide : parseFieldDescriptor _ = some (.object "java/lang/String"))))
  have A110 := Exa.wr W107 (Ex.ext (Ext.tr (Ext.tr E101 E103) E105))
  refine gAloadN K107 b6_37 (v := (.ref x)) rfl rfl ?_
  refine gIloadN K107 b6_38 (v := (Int32.ofNat P)) rfl ?_
  refine gPut K107 b6_39 (wd hw 54 rfl) (me 0 rfl) F109 A110 (Or.inr ⟨(wd hw 55 rfl), rfl, hnm⟩) (wd hw 33 rfl) (ty := .int) (by decide) rfl rfl (fun T111 h111 K111 W111 F111 => ?_)
  have P112 := P108.trans (Keep.of_wr W111) (fun z q => by cases List.mem_singleton.mp q; exact Or.inl (me 0 rfl))
  have F113 := Fld.other W111 F107 (Or.inr (slot_ne (C := "com/example/outrigger/outrigger/model/Address") (a0 := a0) (Or.inr (wd hw 53 rfl)) (Or.inr (wd hw 55 rfl)) (by decide) (by decide : parseFieldDescriptor _ = some (.object "java/lang/String")) (by decide : parseFieldDescriptor _ = some .int)))
  have A114 := Exa.wr W111 A110
  refine gRetV K111 hlk hret b6_42 P112 (by decide) (by decide) ?_
  exact ⟨rfl, A114, F113, F111⟩
set_option maxRecDepth 65536 in
set_option maxHeartbeats 40000000 in
theorem c_abI (l : Launch) (Z : State) (a0 : Array Value) (hw : ∀ d ∈ tables_1, d.before a0 Z = true) (h0 : Heap) (n0 : Nat) (Z0 : n0 ≤ h0.size) (x : Addr) (v1 v2 : Value) (gx : n0 ≤ x) (Ex : Exa Z h0 x "java/lang/StringBuilder") (F1 : Fld Z h0 x "java/lang/AbstractStringBuilder" "value" "[B" v1) (F2 : Fld Z h0 x "java/lang/AbstractStringBuilder" "coder" "B" v2) (F3 : Fld Z h0 x "java/lang/AbstractStringBuilder" "count" "I" (.int 0)) (z : Int32) (Sc : Sta Z h0 "java/lang/String" "COMPACT_STRINGS" "Z" (.int z)) (hz : ¬ z = 0) :
    Con none l (⟨"java/lang/AbstractStringBuilder", "<init>", "(I)V"⟩ : MethodName) jdk_68_method_2_code 2 none [] ({ frames := 1, cells := 1, slots := 16, locals := 12 } : Room) Z n0 h0 [x] #[(.ref x), (.int (16 : Int32))] (fun v h => v = none ∧ ∃ (t : Addr) (kb : ClassId), h0.size ≤ t ∧ Exa Z h x "java/lang/StringBuilder" ∧ Fld Z h x "java/lang/AbstractStringBuilder" "value" "[B" (.ref t) ∧ Fld Z h x "java/lang/AbstractStringBuilder" "coder" "B" (.int 0) ∧ Fld Z h x "java/lang/AbstractStringBuilder" "count" "I" (.int (Int32.ofNat (0))) ∧ Arv Z h t kb .byte 16 ([]) (.int 0)) := by
  refine Con.intro pn3 Z0 (allS ⟨gx, Ex.lt⟩ all0) trivial #[.val (.ref x), .val (.int (16 : Int32))] (fun m => by first | (simp [entryFrame, mkF, argsToLocals, Value.category]; done) | rfl) ?_
  intro p e s m below meth c T0 hlk hret hnm K0
  have P0 := Keep.refl h0 [x]
  refine gAloadN K0 b11_0 (v := (.ref x)) rfl rfl ?_
  refine gInitO K0 b11_1 (wd hw 73 rfl) (wd hw 12 rfl) (wd hw 13 rfl) rfl (by decide) (W := 0) (Nat.le_of_eq rfl) (by decide) (fun T101 K101 => ?_)
  refine gGetS K101 b11_4 (wd hw 74 rfl) Sc (fun T102 K102 => ?_)
  refine gIf_eq K102 b11_7 (fun q => absurd q hz) (fun q7 => ?_)
  refine gAloadN K102 b11_10 (v := (.ref x)) rfl rfl ?_
  refine gIloadN K102 b11_11 (v := (16 : Int32)) rfl ?_
  refine gNewarr K102 b11_12 (wd hw 19 rfl) (by decide) 16 (by decide) (by decide) (by decide) (by decide) (fun T103 h103 x103 kA103 K103 E103 g103 A103 ne103 => ?_)
  have P104 := P0.ext E103
  have ge_x103 : h0.size ≤ x103 := by rw [g103]; exact P0.1
  refine gPut K103 b11_14 (wd hw 75 rfl) (me 1 rfl) (F1.ext E103) (Ex.ext E103) (Or.inl (wd hw 76 rfl)) (wd hw 62 rfl) (ty := (.array .byte)) (by decide) rfl rfl (fun T105 h105 K105 W105 F105 => ?_)
  have P106 := P104.trans (Keep.of_wr W105) (fun z q => by cases List.mem_singleton.mp q; exact Or.inl (me 0 rfl))
  have F107 := Fld.other W105 (F2.ext E103) (Or.inr (slot_ne (C := "java/lang/StringBuilder") (a0 := a0) (Or.inl (wd hw 78 rfl)) (Or.inl (wd hw 76 rfl)) (by decide) (by decide : parseFieldDescriptor _ = some .byte) (by decide : parseFieldDescriptor _ = some (.array .byte))))
  have F108 := Fld.other W105 (F3.ext E103) (Or.inr (slot_ne (C := "java/lang/StringBuilder") (a0 := a0) (Or.inl (wd hw 100 rfl)) (Or.inl (wd hw 76 rfl)) (by decide) (by decide : parseFieldDescriptor _ = some .int) (by decide : parseFieldDescriptor _ = some (.array .byte))))
  have A109 := Exa.wr W105 (Ex.ext E103)
  refine gAloadN K105 b11_17 (v := (.ref x)) rfl rfl ?_
  refine gIconst K105 (0 : Int32) b11_18 rfl ?_
  refine gPut K105 b11_19 (wd hw 77 rfl) (me 1 rfl) F107 A109 (Or.inl (wd hw 78 rfl)) (wd hw 62 rfl) (ty := .byte) (by decide) rfl rfl (fun T110 h110 K110 W110 F110 => ?_)
  have P111 := P106.trans (Keep.of_wr W110) (fun z q => by cases List.mem_singleton.mp q; exact Or.inl (me 0 rfl))
  have F112 := Fld.other W110 F105 (Or.inr (slot_ne (C := "java/lang/StringBuilder") (a0 := a0) (Or.inl (wd hw 76 rfl)) (Or.inl (wd hw 78 rfl)) (by decide) (by decide : parseFieldDescriptor _ = some (.array .byte)) (by decide : parseFieldDescriptor _ = some .byte)))
  have F113 := Fld.other W110 F108 (Or.inr (slot_ne (C := "java/lang/StringBuilder") (a0 := a0) (Or.inl (wd hw 100 rfl)) (Or.inl (wd hw 78 rfl)) (by decide) (by decide : parseFieldDescriptor _ = some .int) (by decide : parseFieldDescriptor _ = some .byte)))
  have A114 := Exa.wr W110 A109
  refine gGoto K110 b11_22 ?_
  refine gRetV K110 hlk hret b11_38 P111 (by decide) (by decide) ?_
  exact ⟨rfl, x103, _, ge_x103, A114, F112, F110, F113, ((A103.keep (Keep.of_wr W105) (ninS (ne103 x (me 0 rfl)).symm nin0)).keep (Keep.of_wr W110) (ninS (ne103 x (me 0 rfl)).symm nin0))⟩
set_option maxRecDepth 65536 in
set_option maxHeartbeats 40000000 in
theorem c_sbI (l : Launch) (Z : State) (a0 : Array Value) (hw : ∀ d ∈ tables_1, d.before a0 Z = true) (h0 : Heap) (n0 : Nat) (Z0 : n0 ≤ h0.size) (x : Addr) (v1 v2 : Value) (gx : n0 ≤ x) (Ex : Exa Z h0 x "java/lang/StringBuilder") (F1 : Fld Z h0 x "java/lang/AbstractStringBuilder" "value" "[B" v1) (F2 : Fld Z h0 x "java/lang/AbstractStringBuilder" "coder" "B" v2) (F3 : Fld Z h0 x "java/lang/AbstractStringBuilder" "count" "I" (.int 0)) (z : Int32) (Sc : Sta Z h0 "java/lang/String" "COMPACT_STRINGS" "Z" (.int z)) (hz : ¬ z = 0) :
    Con none l (⟨"java/lang/StringBuilder", "<init>", "()V"⟩ : MethodName) jdk_67_method_1_code 1 none [] ({ frames := 2, cells := 1, slots := 16, locals := 26 } : Room) Z n0 h0 [x] #[(.ref x)] (fun v h => v = none ∧ ∃ (t : Addr) (kb : ClassId), h0.size ≤ t ∧ Exa Z h x "java/lang/StringBuilder" ∧ Fld Z h x "java/lang/AbstractStringBuilder" "value" "[B" (.ref t) ∧ Fld Z h x "java/lang/AbstractStringBuilder" "coder" "B" (.int 0) ∧ Fld Z h x "java/lang/AbstractStringBuilder" "count" "I" (.int (Int32.ofNat (0))) ∧ Arv Z h t kb .byte 16 ([]) (.int 0)) := by
  refine Con.intro pn4 Z0 (allS ⟨gx, Ex.lt⟩ all0) trivial #[.val (.ref x)] (fun m => by first | (simp [entryFrame, mkF, argsToLocals, Value.category]; done) | rfl) ?_
  intro p e s m below meth c T0 hlk hret hnm K0
  have P0 := Keep.refl h0 [x]
  refine gAloadN K0 b10_0 (v := (.ref x)) rfl rfl ?_
  refine gBipush K0 (16 : Int32) b10_1 rfl ?_
  refine gCallI K0 (W := 0) x [(.int (16 : Int32))] [] b10_3 rfl (wd hw 67 rfl) (wd hw 68 rfl) (wd hw 72 rfl) (Cal.ofN (W := 0) (c_abI l Z a0 hw h0 n0 K0.n0le x v1 v2 gx Ex F1 F2 F3 z Sc hz) (wd hw 72 rfl) (wd hw 71 rfl) (by decide) (by decide)) (fun z q => by cases List.mem_singleton.mp q; exact (me 0 rfl)) pd4 rfl rfl (Nat.le_of_eq rfl) rfl (by decide) (by decide) (by decide) (fun v101 T101 h101 K101 Q101 q101 => ?_)
  have P102 := P0.trans Q101 (fun z q => by cases List.mem_singleton.mp q; exact Or.inl (me 0 rfl))
  obtain ⟨rfl, R101⟩ := q101
  refine gRetV K101 hlk hret b10_6 P102 (by decide) (by decide) ?_
  exact ⟨rfl, R101⟩
set_option maxRecDepth 65536 in
set_option maxHeartbeats 40000000 in
theorem c_infl (l : Launch) (Z : State) (a0 : Array Value) (hw : ∀ d ∈ tables_1, d.before a0 Z = true) (h0 : Heap) (n0 : Nat) (Z0 : n0 ≤ h0.size) (x t : Addr) (kb : ClassId) (vs : List Value) (n : Nat) (Ex : Exa Z h0 x "java/lang/StringBuilder") (F1 : Fld Z h0 x "java/lang/AbstractStringBuilder" "value" "[B" (.ref t)) (F2 : Fld Z h0 x "java/lang/AbstractStringBuilder" "coder" "B" (.int 0)) (F3 : Fld Z h0 x "java/lang/AbstractStringBuilder" "count" "I" (.int (Int32.ofNat n))) (At : Arv Z h0 t kb .byte 16 vs (.int 0)) (hv : vs.length = n) (st : Addr) (cs : List Int32) (Ss : StrL Z h0 st cs) (z : Int32) (Sc : Sta Z h0 "java/lang/String" "COMPACT_STRINGS" "Z" (.int z)) (hz : ¬ z = 0) :
    Con none l (⟨"java/lang/AbstractStringBuilder", "inflateIfNeededFor", "(Ljava/lang/String;)V"⟩ : MethodName) jdk_68_method_71_code 2 none [] ({ frames := 1, cells := 0, slots := 0, locals := 14 } : Room) Z n0 h0 [] #[(.ref x), (.ref st)] (fun v h => v = none) := by
  refine Con.intro pn3 Z0 (fun _ q => nomatch q) trivial #[.val (.ref x), .val (.ref st)] (fun m => by first | (simp [entryFrame, mkF, argsToLocals, Value.category]; done) | rfl) ?_
  intro p e s m below meth c T0 hlk hret hnm K0
  have P0 := Keep.refl h0 []
  obtain ⟨sd, ks, Es, Fs, Fw, As, hps, hls⟩ := Ss
  refine gGetS K0 b18_0 (wd hw 74 rfl) Sc (fun T101 K101 => ?_)
  refine gIf_eq K101 b18_3 (fun q => absurd q hz) (fun q3 => ?_)
  refine gAloadN K101 b18_6 (v := (.ref x)) rfl rfl ?_
  refine gGet K101 b18_7 (wd hw 77 rfl) F2 (fun T102 K102 => ?_)
  refine gAloadN K102 b18_10 (v := (.ref st)) rfl rfl ?_
  refine gCallV K102 (W := 1) (C := "java/lang/String") st [] [(.int (0 : Int32))] b18_11 (wd hw 116 rfl) (wd hw 95 rfl) (wd hw 97 rfl) (wd hw 96 rfl) (Cal.ofN (W := 1) (c_cdr l Z a0 hw h0 n0 K102.n0le st Fs z Sc hz) (wd hw 98 rfl) (wd hw 3 rfl) (by decide) (by decide)) Es (fun _ q => nomatch q) pd5 rfl rfl (Nat.le_of_eq rfl) rfl (by decide) (by decide) (by decide) (fun v103 T103 h103 K103 Q103 q103 => ?_)
  have E103 := Ext.of0 Q103
  have P104 := P0.ext E103
  cases q103
  refine gIcmp_eq K103 b18_14 (fun q14 => ?_) (fun q => absurd q (by first | decide | (intro hh; cases hh) | simp))
  refine gRetV K103 hlk hret b18_21 P104 (by decide) (by decide) ?_
  exact rfl
set_option maxRecDepth 65536 in
set_option maxHeartbeats 40000000 in
theorem c_getB (l : Launch) (Z : State) (a0 : Array Value) (hw : ∀ d ∈ tables_1, d.before a0 Z = true) (h0 : Heap) (n0 : Nat) (Z0 : n0 ≤ h0.size) (t : Addr) (kb : ClassId) (vs : List Value) (n : Nat) (gt : n0 ≤ t) (At : Arv Z h0 t kb .byte 16 vs (.int 0)) (hv : vs.length = n) (st : Addr) (cs : List Int32) (Ss : StrL Z h0 st cs) (hcp : n + cs.length ≤ 16) (z : Int32) (Sc : Sta Z h0 "java/lang/String" "COMPACT_STRINGS" "Z" (.int z)) (hz : ¬ z = 0) :
    Con none l (⟨"java/lang/String", "getBytes", "([BIB)V"⟩ : MethodName) jdk_42_method_147_code 4 none [] ({ frames := 1, cells := 0, slots := 0, locals := 40 } : Room) Z n0 h0 [t] #[(.ref st), (.ref t), (.int (Int32.ofNat n)), (.int (0 : Int32))] (fun v h => v = none ∧ Arv Z h t kb .byte 16 (vs ++ bys cs) (.int 0)) := by
  refine Con.intro pn0 Z0 (allS ⟨gt, At.lt⟩ all0) trivial #[.val (.ref st), .val (.ref t), .val (.int (Int32.ofNat n)), .val (.int (0 : Int32))] (fun m => by first | (simp [entryFrame, mkF, argsToLocals, Value.category]; done) | rfl) ?_
  intro p e s m below meth c T0 hlk hret hnm K0
  have P0 := Keep.refl h0 [t]
  obtain ⟨sd, ks, Es, Fs, Fw, As, hps, hls⟩ := Ss
  refine gAloadN K0 b19_0 (v := (.ref st)) rfl rfl ?_
  refine gCallV K0 (W := 0) (C := "java/lang/String") st [] [] b19_1 (wd hw 94 rfl) (wd hw 95 rfl) (wd hw 97 rfl) (wd hw 96 rfl) (Cal.ofN (W := 0) (c_cdr l Z a0 hw h0 n0 K0.n0le st Fs z Sc hz) (wd hw 98 rfl) (wd hw 3 rfl) (by decide) (by decide)) Es (fun _ q => nomatch q) pd5 rfl rfl (Nat.le_of_eq rfl) rfl (by decide) (by decide) (by decide) (fun v101 T101 h101 K101 Q101 q101 => ?_)
  have E101 := Ext.of0 Q101
  have P102 := P0.ext E101
  cases q101
  refine gIloadN K101 b19_4 (v := (0 : Int32)) rfl ?_
  refine gIcmp_ne K101 b19_5 (fun q => absurd q (by first | decide | (intro hh; cases hh) | simp)) (fun q5 => ?_)
  refine gAloadN K101 b19_8 (v := (.ref st)) rfl rfl ?_
  refine gGet K101 b19_9 (wd hw 28 rfl) (Fw.ext E101) (fun T103 K103 => ?_)
  refine gIconst K103 (0 : Int32) b19_12 rfl ?_
  refine gAloadN K103 b19_13 (v := (.ref t)) rfl rfl ?_
  refine gIloadN K103 b19_14 (v := (Int32.ofNat n)) rfl ?_
  refine gIloadN K103 b19_15 (v := (0 : Int32)) rfl ?_
  refine gIshl K103 b19_16 ?_
  rw [show ((Int32.ofNat n) <<< ((0 : Int32) &&& 31)) = Int32.ofNat n from shl0 _]
  refine gAloadN K103 b19_17 (v := (.ref st)) rfl rfl ?_
  refine gGet K103 b19_18 (wd hw 28 rfl) (Fw.ext E101) (fun T104 K104 => ?_)
  refine gLen K104 b19_21 (As.ext E101) ?_
  have em : (Int32.ofNat cs.length).toNatClampNeg = cs.length := ofNat_clamp (by omega)
  have en : (Int32.ofNat n).toNatClampNeg = n := ofNat_clamp (by omega)
  have e0 : (0 : Int32).toNatClampNeg = 0 := by decide
  have e16 : (16 : Int32).toNatClampNeg = 16 := by decide
  refine gCopy K104 b19_22 (wd hw 122 rfl) (wd hw 125 rfl) (wd hw 123 rfl) (wd hw 124 rfl) (me 0 rfl) (As.ext E101) (Arv.pad (At.ext E101) (pad_rep vs (.int 0) cs.length)) (by decide) (ofNat_nn (by omega)) (ofNat_nn (by omega)) (by rw [em, e0]; omega) (by rw [em, en, e16]; omega) (us := bys cs) (by rw [em, e0]; exact us_of (bys_len cs) _) (by rw [em, en]; simp; omega) rfl (by decide) (W := 0) (Nat.le_of_eq rfl) (by decide) (fun T105 h105 K105 Q105 A105 => ?_)
  have P106 := P102.trans Q105 (fun z q => by cases List.mem_singleton.mp q; exact Or.inl (me 0 rfl))
  rw [em, en, cpA2 hv (bys_len cs)] at A105
  refine gGoto K105 b19_25 ?_
  refine gRetV K105 hlk hret b19_43 P106 (by decide) (by decide) ?_
  exact ⟨rfl, A105⟩
set_option maxRecDepth 65536 in
set_option maxHeartbeats 40000000 in
theorem c_psa (l : Launch) (Z : State) (a0 : Array Value) (hw : ∀ d ∈ tables_1, d.before a0 Z = true) (h0 : Heap) (n0 : Nat) (Z0 : n0 ≤ h0.size) (x t : Addr) (kb : ClassId) (vs : List Value) (n : Nat) (Ex : Exa Z h0 x "java/lang/StringBuilder") (F1 : Fld Z h0 x "java/lang/AbstractStringBuilder" "value" "[B" (.ref t)) (F2 : Fld Z h0 x "java/lang/AbstractStringBuilder" "coder" "B" (.int 0)) (F3 : Fld Z h0 x "java/lang/AbstractStringBuilder" "count" "I" (.int (Int32.ofNat n))) (At : Arv Z h0 t kb .byte 16 vs (.int 0)) (hv : vs.length = n) (gt : n0 ≤ t) (st : Addr) (cs : List Int32) (Ss : StrL Z h0 st cs) (hcp : n + cs.length ≤ 16) (z : Int32) (Sc : Sta Z h0 "java/lang/String" "COMPACT_STRINGS" "Z" (.int z)) (hz : ¬ z = 0) :
    Con none l (⟨"java/lang/AbstractStringBuilder", "putStringAt", "(ILjava/lang/String;)V"⟩ : MethodName) jdk_68_method_73_code 3 none [] ({ frames := 2, cells := 0, slots := 0, locals := 56 } : Room) Z n0 h0 [t] #[(.ref x), (.int (Int32.ofNat n)), (.ref st)] (fun v h => v = none ∧ Arv Z h t kb .byte 16 (vs ++ bys cs) (.int 0)) := by
  refine Con.intro pn3 Z0 (allS ⟨gt, At.lt⟩ all0) trivial #[.val (.ref x), .val (.int (Int32.ofNat n)), .val (.ref st)] (fun m => by first | (simp [entryFrame, mkF, argsToLocals, Value.category]; done) | rfl) ?_
  intro p e s m below meth c T0 hlk hret hnm K0
  have P0 := Keep.refl h0 [t]
  refine gAloadN K0 b17_0 (v := (.ref x)) rfl rfl ?_
  refine gAloadN K0 b17_1 (v := (.ref st)) rfl rfl ?_
  refine gCallVS K0 (W := 0) (C := "java/lang/StringBuilder") x [(.ref st)] [] b17_2 (wd hw 111 rfl) (decl_of (wd hw 112 rfl) (wd hw 115 rfl)) (wd hw 114 rfl) (wd hw 112 rfl) (wd hw 114 rfl) rfl (Cal.ofN (W := 0) (c_infl l Z a0 hw h0 n0 K0.n0le x t kb vs n Ex F1 F2 F3 At hv st cs Ss z Sc hz) (wd hw 115 rfl) (wd hw 71 rfl) (by decide) (by decide)) Ex (fun _ q => nomatch q) pd6 rfl rfl (Nat.le_of_eq rfl) rfl (by decide) (by decide) (by decide) (fun v101 T101 h101 K101 Q101 q101 => ?_)
  have E101 := Ext.of0 Q101
  have P102 := P0.ext E101
  cases q101
  refine gAloadN K101 b17_5 (v := (.ref st)) rfl rfl ?_
  refine gAloadN K101 b17_6 (v := (.ref x)) rfl rfl ?_
  refine gGet K101 b17_7 (wd hw 75 rfl) (F1.ext E101) (fun T103 K103 => ?_)
  refine gIloadN K103 b17_10 (v := (Int32.ofNat n)) rfl ?_
  refine gAloadN K103 b17_11 (v := (.ref x)) rfl rfl ?_
  refine gGet K103 b17_12 (wd hw 77 rfl) (F2.ext E101) (fun T104 K104 => ?_)
  refine gCallV K104 (W := 0) (C := "java/lang/String") st [(.ref t), (.int (Int32.ofNat n)), (.int (0 : Int32))] [] b17_15 (wd hw 117 rfl) (wd hw 118 rfl) (wd hw 120 rfl) (wd hw 119 rfl) (Cal.ofN (W := 0) (c_getB l Z a0 hw h101 n0 K104.n0le t kb vs n gt (At.ext E101) hv st cs (Ss.ext E101) hcp z (Sc.ext E101) hz) (wd hw 121 rfl) (wd hw 3 rfl) (by decide) (by decide)) ((Ss.ext E101)).exa (fun z q => by cases List.mem_singleton.mp q; exact (me 0 rfl)) pd7 rfl rfl (Nat.le_of_eq rfl) rfl (by decide) (by decide) (by decide) (fun v105 T105 h105 K105 Q105 q105 => ?_)
  have P106 := P102.trans Q105 (fun z q => by cases List.mem_singleton.mp q; exact Or.inl (me 0 rfl))
  obtain ⟨rfl, A105⟩ := q105
  refine gRetV K105 hlk hret b17_18 P106 (by decide) (by decide) ?_
  exact ⟨rfl, A105⟩
set_option maxRecDepth 65536 in
set_option maxHeartbeats 40000000 in
theorem c_abA (l : Launch) (Z : State) (a0 : Array Value) (hw : ∀ d ∈ tables_1, d.before a0 Z = true) (h0 : Heap) (n0 : Nat) (Z0 : n0 ≤ h0.size) (x t : Addr) (kb : ClassId) (vs : List Value) (n : Nat) (Ex : Exa Z h0 x "java/lang/StringBuilder") (F1 : Fld Z h0 x "java/lang/AbstractStringBuilder" "value" "[B" (.ref t)) (F2 : Fld Z h0 x "java/lang/AbstractStringBuilder" "coder" "B" (.int 0)) (F3 : Fld Z h0 x "java/lang/AbstractStringBuilder" "count" "I" (.int (Int32.ofNat n))) (At : Arv Z h0 t kb .byte 16 vs (.int 0)) (hv : vs.length = n) (gx : n0 ≤ x) (gt : n0 ≤ t) (hxt : x ≠ t) (st : Addr) (cs : List Int32) (Ss : StrL Z h0 st cs) (hcp : n + cs.length ≤ 16) (z : Int32) (Sc : Sta Z h0 "java/lang/String" "COMPACT_STRINGS" "Z" (.int z)) (hz : ¬ z = 0) :
    Con none l (⟨"java/lang/AbstractStringBuilder", "append", "(Ljava/lang/String;)Ljava/lang/AbstractStringBuilder;"⟩ : MethodName) jdk_68_method_22_code 3 (some (.object "java/lang/AbstractStringBuilder")) [] ({ frames := 3, cells := 0, slots := 0, locals := 72 } : Room) Z n0 h0 [x, t] #[(.ref x), (.ref st)] (fun v h => v = some (.ref x) ∧ Exa Z h x "java/lang/StringBuilder" ∧ Fld Z h x "java/lang/AbstractStringBuilder" "value" "[B" (.ref t) ∧ Fld Z h x "java/lang/AbstractStringBuilder" "coder" "B" (.int 0) ∧ Fld Z h x "java/lang/AbstractStringBuilder" "count" "I" (.int (Int32.ofNat (n + cs.length))) ∧ Arv Z h t kb .byte 16 (vs ++ bys cs) (.int 0)) := by
  refine Con.intro pn3 Z0 (allS ⟨gx, Ex.lt⟩ (allS ⟨gt, At.lt⟩ all0)) trivial #[.val (.ref x), .val (.ref st), .unset] (fun m => by first | (simp [entryFrame, mkF, argsToLocals, Value.category]; done) | rfl) ?_
  intro p e s m below meth c T0 hlk hret hnm K0
  have P0 := Keep.refl h0 [x, t]
  refine gAloadN K0 b13_0 (v := (.ref st)) rfl rfl ?_
  refine gIfnonnull_t K0 b13_1 ?_
  refine gAloadN K0 b13_9 (v := (.ref st)) rfl rfl ?_
  refine gCallV K0 (W := 0) (C := "java/lang/String") st [] [] b13_10 (wd hw 89 rfl) (wd hw 90 rfl) (wd hw 92 rfl) (wd hw 91 rfl) (cal_len hw (W := 0) Ss Sc hz (by decide) (by decide)) (Ss).exa (fun _ q => nomatch q) pd1 rfl rfl (Nat.le_of_eq rfl) rfl (by decide) (by decide) (by decide) (fun v101 T101 h101 K101 Q101 q101 => ?_)
  have E101 := Ext.of0 Q101
  have P102 := P0.ext E101
  cases q101
  refine gIstoreN K101 b13_13 (Ls' := #[.val (.ref x), .val (.ref st), .val (.int (Int32.ofNat cs.length))]) rfl ?_
  refine gAloadN K101 b13_14 (v := (.ref x)) rfl rfl ?_
  refine gAloadN K101 b13_15 (v := (.ref x)) rfl rfl ?_
  refine gGet K101 b13_16 (wd hw 99 rfl) (F3.ext E101) (fun T103 K103 => ?_)
  refine gIloadN K103 b13_19 (v := (Int32.ofNat cs.length)) rfl ?_
  refine gIadd K103 b13_20 ?_
  rw [show ((Int32.ofNat n) + (Int32.ofNat cs.length)) = Int32.ofNat (n + cs.length) from ofNat_add (by omega)]
  refine gCallVS K103 (W := 0) (C := "java/lang/StringBuilder") x [(.int (Int32.ofNat (n + cs.length)))] [] b13_21 (wd hw 101 rfl) (decl_of (wd hw 102 rfl) (wd hw 105 rfl)) (wd hw 104 rfl) (wd hw 102 rfl) (wd hw 104 rfl) rfl (Cal.ofN (W := 0) (c_eci l Z a0 hw h101 n0 K103.n0le x t kb vs n (Ex.ext E101) (F1.ext E101) (F2.ext E101) (F3.ext E101) (At.ext E101) hv (n + cs.length) hcp z (Sc.ext E101) hz) (wd hw 105 rfl) (wd hw 71 rfl) (by decide) (by decide)) (Ex.ext E101) (fun _ q => nomatch q) pd4 rfl rfl (Nat.le_of_eq rfl) rfl (by decide) (by decide) (by decide) (fun v104 T104 h104 K104 Q104 q104 => ?_)
  have E104 := Ext.of0 Q104
  have P105 := P102.ext E104
  cases q104
  refine gAloadN K104 b13_24 (v := (.ref x)) rfl rfl ?_
  refine gAloadN K104 b13_25 (v := (.ref x)) rfl rfl ?_
  refine gGet K104 b13_26 (wd hw 99 rfl) (F3.ext (Ext.tr E101 E104)) (fun T106 K106 => ?_)
  refine gAloadN K106 b13_29 (v := (.ref st)) rfl rfl ?_
  refine gCallVS K106 (W := 0) (C := "java/lang/StringBuilder") x [(.int (Int32.ofNat n)), (.ref st)] [] b13_30 (wd hw 106 rfl) (decl_of (wd hw 107 rfl) (wd hw 110 rfl)) (wd hw 109 rfl) (wd hw 107 rfl) (wd hw 109 rfl) rfl (Cal.ofN (W := 0) (c_psa l Z a0 hw h104 n0 K106.n0le x t kb vs n (Ex.ext (Ext.tr E101 E104)) (F1.ext (Ext.tr E101 E104)) (F2.ext (Ext.tr E101 E104)) (F3.ext (Ext.tr E101 E104)) (At.ext (Ext.tr E101 E104)) hv gt st cs (Ss.ext (Ext.tr E101 E104)) hcp z (Sc.ext (Ext.tr E101 E104)) hz) (wd hw 110 rfl) (wd hw 71 rfl) (by decide) (by decide)) (Ex.ext (Ext.tr E101 E104)) (allS (me 1 rfl) all0) pd8 rfl rfl (Nat.le_of_eq rfl) rfl (by decide) (by decide) (by decide) (fun v107 T107 h107 K107 Q107 q107 => ?_)
  have P108 := P105.trans Q107 (fun z q => by cases List.mem_singleton.mp q; exact Or.inl (me 1 rfl))
  obtain ⟨rfl, A107⟩ := q107
  refine gAloadN K107 b13_33 (v := (.ref x)) rfl rfl ?_
  refine gDup K107 b13_34 rfl ?_
  refine gGet K107 b13_35 (wd hw 99 rfl) ((F3.ext (Ext.tr E101 E104)).keep Q107 (ninS hxt nin0)) (fun T109 K109 => ?_)
  refine gIloadN K109 b13_38 (v := (Int32.ofNat cs.length)) rfl ?_
  refine gIadd K109 b13_39 ?_
  rw [show ((Int32.ofNat n) + (Int32.ofNat cs.length)) = Int32.ofNat (n + cs.length) from ofNat_add (by omega)]
  refine gPut K109 b13_40 (wd hw 99 rfl) (me 0 rfl) ((F3.ext (Ext.tr E101 E104)).keep Q107 (ninS hxt nin0)) ((Ex.ext (Ext.tr E101 E104)).keep Q107) (Or.inl (wd hw 100 rfl)) (wd hw 62 rfl) (ty := .int) (by decide) rfl rfl (fun T110 h110 K110 W110 F110 => ?_)
  have P111 := P108.trans (Keep.of_wr W110) (fun z q => by cases List.mem_singleton.mp q; exact Or.inl (me 0 rfl))
  have F112 := Fld.other W110 ((F1.ext (Ext.tr E101 E104)).keep Q107 (ninS hxt nin0)) (Or.inr (slot_ne (C := "java/lang/StringBuilder") (a0 := a0) (Or.inl (wd hw 76 rfl)) (Or.inl (wd hw 100 rfl)) (by decide) (by decide : parseFieldDescriptor _ = some (.array .byte)) (by decide : parseFieldDescriptor _ = some .int)))
  have F113 := Fld.other W110 ((F2.ext (Ext.tr E101 E104)).keep Q107 (ninS hxt nin0)) (Or.inr (slot_ne (C := "java/lang/StringBuilder") (a0 := a0) (Or.inl (wd hw 78 rfl)) (Or.inl (wd hw 100 rfl)) (by decide) (by decide : parseFieldDescriptor _ = some .byte) (by decide : parseFieldDescriptor _ = some .int)))
  have A114 := Exa.wr W110 ((Ex.ext (Ext.tr E101 E104)).keep Q107)
  refine gAloadN K110 b13_43 (v := (.ref x)) rfl rfl ?_
  refine gRetA K110 hlk hret rfl rfl b13_44 P111 (by decide) (by decide) ?_
  exact ⟨rfl, A114, F112, F113, F110, (A107.keep (Keep.of_wr W110) (ninS hxt.symm nin0))⟩
set_option maxRecDepth 65536 in
set_option maxHeartbeats 40000000 in
theorem c_sbA (l : Launch) (Z : State) (a0 : Array Value) (hw : ∀ d ∈ tables_1, d.before a0 Z = true) (h0 : Heap) (n0 : Nat) (Z0 : n0 ≤ h0.size) (x t : Addr) (kb : ClassId) (vs : List Value) (n : Nat) (Ex : Exa Z h0 x "java/lang/StringBuilder") (F1 : Fld Z h0 x "java/lang/AbstractStringBuilder" "value" "[B" (.ref t)) (F2 : Fld Z h0 x "java/lang/AbstractStringBuilder" "coder" "B" (.int 0)) (F3 : Fld Z h0 x "java/lang/AbstractStringBuilder" "count" "I" (.int (Int32.ofNat n))) (At : Arv Z h0 t kb .byte 16 vs (.int 0)) (hv : vs.length = n) (gx : n0 ≤ x) (gt : n0 ≤ t) (hxt : x ≠ t) (st : Addr) (cs : List Int32) (Ss : StrL Z h0 st cs) (hcp : n + cs.length ≤ 16) (z : Int32) (Sc : Sta Z h0 "java/lang/String" "COMPACT_STRINGS" "Z" (.int z)) (hz : ¬ z = 0) :
    Con none l (⟨"java/lang/StringBuilder", "append", "(Ljava/lang/String;)Ljava/lang/StringBuilder;"⟩ : MethodName) jdk_67_method_7_code 2 (some (.object "java/lang/StringBuilder")) [] ({ frames := 4, cells := 0, slots := 0, locals := 88 } : Room) Z n0 h0 [x, t] #[(.ref x), (.ref st)] (fun v h => v = some (.ref x) ∧ Exa Z h x "java/lang/StringBuilder" ∧ Fld Z h x "java/lang/AbstractStringBuilder" "value" "[B" (.ref t) ∧ Fld Z h x "java/lang/AbstractStringBuilder" "coder" "B" (.int 0) ∧ Fld Z h x "java/lang/AbstractStringBuilder" "count" "I" (.int (Int32.ofNat (n + cs.length))) ∧ Arv Z h t kb .byte 16 (vs ++ bys cs) (.int 0)) := by
  refine Con.intro pn4 Z0 (allS ⟨gx, Ex.lt⟩ (allS ⟨gt, At.lt⟩ all0)) trivial #[.val (.ref x), .val (.ref st)] (fun m => by first | (simp [entryFrame, mkF, argsToLocals, Value.category]; done) | rfl) ?_
  intro p e s m below meth c T0 hlk hret hnm K0
  have P0 := Keep.refl h0 [x, t]
  refine gAloadN K0 b12_0 (v := (.ref x)) rfl rfl ?_
  refine gAloadN K0 b12_1 (v := (.ref st)) rfl rfl ?_
  refine gCallU K0 (W := 0) (C := "java/lang/StringBuilder") x [(.ref st)] [] b12_2 (by decide) (wd hw 84 rfl) (same_of (wd hw 85 rfl) (wd hw 164 rfl) rfl (by decide)) (wd hw 85 rfl) (wd hw 86 rfl) (wd hw 88 rfl) (Cal.ofN (W := 0) (c_abA l Z a0 hw h0 n0 K0.n0le x t kb vs n Ex F1 F2 F3 At hv gx gt hxt st cs Ss hcp z Sc hz) (wd hw 88 rfl) (wd hw 71 rfl) (by decide) (by decide)) Ex (allS (me 0 rfl) (allS (me 1 rfl) all0)) pd9 rfl rfl (Nat.le_of_eq rfl) rfl (by decide) (by decide) (fun v101 T101 h101 K101 Q101 q101 => ?_)
  have P102 := P0.trans Q101 (allS (Or.inl (me 0 rfl)) (allS (Or.inl (me 1 rfl)) all0))
  obtain ⟨rfl, R101⟩ := q101
  refine gPop K101 b12_5 rfl ?_
  refine gAloadN K101 b12_6 (v := (.ref x)) rfl rfl ?_
  refine gRetA K101 hlk hret rfl rfl b12_7 P102 (by decide) (by decide) ?_
  exact ⟨rfl, R101⟩
set_option maxRecDepth 65536 in
set_option maxHeartbeats 40000000 in
theorem c_ssz1 (l : Launch) (Z : State) (a0 : Array Value) (hw : ∀ d ∈ tables_1, d.before a0 Z = true) (h0 : Heap) (n0 : Nat) (Z0 : n0 ≤ h0.size) (P : Nat) (h1 : 0 ≤ P) (h2 : P < 10) (hP : P ≤ 65535)  :
    Con none l (⟨"java/lang/Integer", "stringSize", "(I)I"⟩ : MethodName) jdk_33_method_13_code 4 (some .int) [] ({ frames := 0, cells := 0, slots := 0, locals := 0 } : Room) Z n0 h0 [] #[(.int (Int32.ofNat P))] (fun v h => v = some (.int (Int32.ofNat 1))) := by
  refine Con.intro pn6 Z0 (fun _ q => nomatch q) trivial #[.val (.int (Int32.ofNat P)), .unset, .unset, .unset] (fun m => by first | (simp [entryFrame, mkF, argsToLocals, Value.category]; done) | rfl) ?_
  intro p e s m below meth c T0 hlk hret hnm K0
  have P0 := Keep.refl h0 []
  refine gIconst K0 (1 : Int32) b22_0 rfl ?_
  refine gIstoreN K0 b22_1 (Ls' := #[.val (.int (Int32.ofNat P)), .val (.int (1 : Int32)), .unset, .unset]) rfl ?_
  refine gIloadN K0 b22_2 (v := (Int32.ofNat P)) rfl ?_
  refine gIf_lt K0 b22_3 (fun q => absurd q (ofNat_nn (by omega))) (fun q3 => ?_)
  refine gIconst K0 (0 : Int32) b22_6 rfl ?_
  refine gIstoreN K0 b22_7 (Ls' := #[.val (.int (Int32.ofNat P)), .val (.int (0 : Int32)), .unset, .unset]) rfl ?_
  refine gIloadN K0 b22_8 (v := (Int32.ofNat P)) rfl ?_
  refine gIneg K0 b22_9 ?_
  refine gIstoreN K0 b22_10 (Ls' := #[.val (.int (-(Int32.ofNat P))), .val (.int (0 : Int32)), .unset, .unset]) rfl ?_
  refine gBipush K0 (-10 : Int32) b22_11 rfl ?_
  refine gIstoreN K0 b22_13 (Ls' := #[.val (.int (-(Int32.ofNat P))), .val (.int (0 : Int32)), .val (.int (-10 : Int32)), .unset]) rfl ?_
  refine gIconst K0 (1 : Int32) b22_14 rfl ?_
  refine gIstoreN K0 b22_15 (Ls' := #[.val (.int (-(Int32.ofNat P))), .val (.int (0 : Int32)), .val (.int (-10 : Int32)), .val (.int (1 : Int32))]) rfl ?_
  refine gIloadN K0 b22_16 (v := (1 : Int32)) rfl ?_
  refine gBipush K0 (10 : Int32) b22_17 rfl ?_
  refine gIcmp_ge K0 b22_19 (fun q => absurd q (by first | decide | (intro hh; cases hh) | simp)) (fun q19 => ?_)
  refine gIloadN K0 b22_22 (v := (-(Int32.ofNat P))) rfl ?_
  refine gIloadN K0 b22_23 (v := (-10 : Int32)) rfl ?_
  refine gIcmp_le K0 b22_24 (fun q => absurd q (not_not_intro (by rw [Int32.lt_iff_toInt_lt, show (-10 : Int32).toInt = -10 by decide, negc (P := P) (by omega)]; omega))) (fun q24 => ?_)
  refine gIloadN K0 b22_27 (v := (1 : Int32)) rfl ?_
  refine gIloadN K0 b22_28 (v := (0 : Int32)) rfl ?_
  refine gIaddV K0 (1 : Int32) b22_29 (by decide) ?_
  refine gRetI K0 hlk hret (by simp) b22_30 rfl P0 (by decide) (by decide) ?_
  exact rfl
set_option maxRecDepth 65536 in
set_option maxHeartbeats 40000000 in
theorem c_ssz2 (l : Launch) (Z : State) (a0 : Array Value) (hw : ∀ d ∈ tables_1, d.before a0 Z = true) (h0 : Heap) (n0 : Nat) (Z0 : n0 ≤ h0.size) (P : Nat) (h1 : 10 ≤ P) (h2 : P < 100) (hP : P ≤ 65535)  :
    Con none l (⟨"java/lang/Integer", "stringSize", "(I)I"⟩ : MethodName) jdk_33_method_13_code 4 (some .int) [] ({ frames := 0, cells := 0, slots := 0, locals := 0 } : Room) Z n0 h0 [] #[(.int (Int32.ofNat P))] (fun v h => v = some (.int (Int32.ofNat 2))) := by
  refine Con.intro pn6 Z0 (fun _ q => nomatch q) trivial #[.val (.int (Int32.ofNat P)), .unset, .unset, .unset] (fun m => by first | (simp [entryFrame, mkF, argsToLocals, Value.category]; done) | rfl) ?_
  intro p e s m below meth c T0 hlk hret hnm K0
  have P0 := Keep.refl h0 []
  refine gIconst K0 (1 : Int32) b22_0 rfl ?_
  refine gIstoreN K0 b22_1 (Ls' := #[.val (.int (Int32.ofNat P)), .val (.int (1 : Int32)), .unset, .unset]) rfl ?_
  refine gIloadN K0 b22_2 (v := (Int32.ofNat P)) rfl ?_
  refine gIf_lt K0 b22_3 (fun q => absurd q (ofNat_nn (by omega))) (fun q3 => ?_)
  refine gIconst K0 (0 : Int32) b22_6 rfl ?_
  refine gIstoreN K0 b22_7 (Ls' := #[.val (.int (Int32.ofNat P)), .val (.int (0 : Int32)), .unset, .unset]) rfl ?_
  refine gIloadN K0 b22_8 (v := (Int32.ofNat P)) rfl ?_
  refine gIneg K0 b22_9 ?_
  refine gIstoreN K0 b22_10 (Ls' := #[.val (.int (-(Int32.ofNat P))), .val (.int (0 : Int32)), .unset, .unset]) rfl ?_
  refine gBipush K0 (-10 : Int32) b22_11 rfl ?_
  refine gIstoreN K0 b22_13 (Ls' := #[.val (.int (-(Int32.ofNat P))), .val (.int (0 : Int32)), .val (.int (-10 : Int32)), .unset]) rfl ?_
  refine gIconst K0 (1 : Int32) b22_14 rfl ?_
  refine gIstoreN K0 b22_15 (Ls' := #[.val (.int (-(Int32.ofNat P))), .val (.int (0 : Int32)), .val (.int (-10 : Int32)), .val (.int (1 : Int32))]) rfl ?_
  refine gIloadN K0 b22_16 (v := (1 : Int32)) rfl ?_
  refine gBipush K0 (10 : Int32) b22_17 rfl ?_
  refine gIcmp_ge K0 b22_19 (fun q => absurd q (by first | decide | (intro hh; cases hh) | simp)) (fun q19 => ?_)
  refine gIloadN K0 b22_22 (v := (-(Int32.ofNat P))) rfl ?_
  refine gIloadN K0 b22_23 (v := (-10 : Int32)) rfl ?_
  refine gIcmp_le K0 b22_24 (fun q24 => ?_) (fun q => absurd q (by rw [Int32.lt_iff_toInt_lt, show (-10 : Int32).toInt = -10 by decide, negc (P := P) (by omega)]; omega))
  refine gBipush K0 (10 : Int32) b22_31 rfl ?_
  refine gIloadN K0 b22_33 (v := (-10 : Int32)) rfl ?_
  refine gImul K0 b22_34 ?_
  rw [show ((10 : Int32) * (-10 : Int32)) = (-100 : Int32) from by decide]
  refine gIstoreN K0 b22_35 (Ls' := #[.val (.int (-(Int32.ofNat P))), .val (.int (0 : Int32)), .val (.int (-100 : Int32)), .val (.int (1 : Int32))]) rfl ?_
  refine gIinc K0 (1 : Int32) b22_36 rfl (x := (1 : Int32)) rfl (Ls' := #[.val (.int (-(Int32.ofNat P))), .val (.int (0 : Int32)), .val (.int (-100 : Int32)), .val (.int (2 : Int32))]) rfl ?_
  refine gGoto K0 b22_39 ?_
  refine gIloadN K0 b22_16 (v := (2 : Int32)) rfl ?_
  refine gBipush K0 (10 : Int32) b22_17 rfl ?_
  refine gIcmp_ge K0 b22_19 (fun q => absurd q (by first | decide | (intro hh; cases hh) | simp)) (fun q19 => ?_)
  refine gIloadN K0 b22_22 (v := (-(Int32.ofNat P))) rfl ?_
  refine gIloadN K0 b22_23 (v := (-100 : Int32)) rfl ?_
  refine gIcmp_le K0 b22_24 (fun q => absurd q (not_not_intro (by rw [Int32.lt_iff_toInt_lt, show (-100 : Int32).toInt = -100 by decide, negc (P := P) (by omega)]; omega))) (fun q24 => ?_)
  refine gIloadN K0 b22_27 (v := (2 : Int32)) rfl ?_
  refine gIloadN K0 b22_28 (v := (0 : Int32)) rfl ?_
  refine gIaddV K0 (2 : Int32) b22_29 (by decide) ?_
  refine gRetI K0 hlk hret (by simp) b22_30 rfl P0 (by decide) (by decide) ?_
  exact rfl
set_option maxRecDepth 65536 in
set_option maxHeartbeats 40000000 in
theorem c_ssz3 (l : Launch) (Z : State) (a0 : Array Value) (hw : ∀ d ∈ tables_1, d.before a0 Z = true) (h0 : Heap) (n0 : Nat) (Z0 : n0 ≤ h0.size) (P : Nat) (h1 : 100 ≤ P) (h2 : P < 1000) (hP : P ≤ 65535)  :
    Con none l (⟨"java/lang/Integer", "stringSize", "(I)I"⟩ : MethodName) jdk_33_method_13_code 4 (some .int) [] ({ frames := 0, cells := 0, slots := 0, locals := 0 } : Room) Z n0 h0 [] #[(.int (Int32.ofNat P))] (fun v h => v = some (.int (Int32.ofNat 3))) := by
  refine Con.intro pn6 Z0 (fun _ q => nomatch q) trivial #[.val (.int (Int32.ofNat P)), .unset, .unset, .unset] (fun m => by first | (simp [entryFrame, mkF, argsToLocals, Value.category]; done) | rfl) ?_
  intro p e s m below meth c T0 hlk hret hnm K0
  have P0 := Keep.refl h0 []
  refine gIconst K0 (1 : Int32) b22_0 rfl ?_
  refine gIstoreN K0 b22_1 (Ls' := #[.val (.int (Int32.ofNat P)), .val (.int (1 : Int32)), .unset, .unset]) rfl ?_
  refine gIloadN K0 b22_2 (v := (Int32.ofNat P)) rfl ?_
  refine gIf_lt K0 b22_3 (fun q => absurd q (ofNat_nn (by omega))) (fun q3 => ?_)
  refine gIconst K0 (0 : Int32) b22_6 rfl ?_
  refine gIstoreN K0 b22_7 (Ls' := #[.val (.int (Int32.ofNat P)), .val (.int (0 : Int32)), .unset, .unset]) rfl ?_
  refine gIloadN K0 b22_8 (v := (Int32.ofNat P)) rfl ?_
  refine gIneg K0 b22_9 ?_
  refine gIstoreN K0 b22_10 (Ls' := #[.val (.int (-(Int32.ofNat P))), .val (.int (0 : Int32)), .unset, .unset]) rfl ?_
  refine gBipush K0 (-10 : Int32) b22_11 rfl ?_
  refine gIstoreN K0 b22_13 (Ls' := #[.val (.int (-(Int32.ofNat P))), .val (.int (0 : Int32)), .val (.int (-10 : Int32)), .unset]) rfl ?_
  refine gIconst K0 (1 : Int32) b22_14 rfl ?_
  refine gIstoreN K0 b22_15 (Ls' := #[.val (.int (-(Int32.ofNat P))), .val (.int (0 : Int32)), .val (.int (-10 : Int32)), .val (.int (1 : Int32))]) rfl ?_
  refine gIloadN K0 b22_16 (v := (1 : Int32)) rfl ?_
  refine gBipush K0 (10 : Int32) b22_17 rfl ?_
  refine gIcmp_ge K0 b22_19 (fun q => absurd q (by first | decide | (intro hh; cases hh) | simp)) (fun q19 => ?_)
  refine gIloadN K0 b22_22 (v := (-(Int32.ofNat P))) rfl ?_
  refine gIloadN K0 b22_23 (v := (-10 : Int32)) rfl ?_
  refine gIcmp_le K0 b22_24 (fun q24 => ?_) (fun q => absurd q (by rw [Int32.lt_iff_toInt_lt, show (-10 : Int32).toInt = -10 by decide, negc (P := P) (by omega)]; omega))
  refine gBipush K0 (10 : Int32) b22_31 rfl ?_
  refine gIloadN K0 b22_33 (v := (-10 : Int32)) rfl ?_
  refine gImul K0 b22_34 ?_
  rw [show ((10 : Int32) * (-10 : Int32)) = (-100 : Int32) from by decide]
  refine gIstoreN K0 b22_35 (Ls' := #[.val (.int (-(Int32.ofNat P))), .val (.int (0 : Int32)), .val (.int (-100 : Int32)), .val (.int (1 : Int32))]) rfl ?_
  refine gIinc K0 (1 : Int32) b22_36 rfl (x := (1 : Int32)) rfl (Ls' := #[.val (.int (-(Int32.ofNat P))), .val (.int (0 : Int32)), .val (.int (-100 : Int32)), .val (.int (2 : Int32))]) rfl ?_
  refine gGoto K0 b22_39 ?_
  refine gIloadN K0 b22_16 (v := (2 : Int32)) rfl ?_
  refine gBipush K0 (10 : Int32) b22_17 rfl ?_
  refine gIcmp_ge K0 b22_19 (fun q => absurd q (by first | decide | (intro hh; cases hh) | simp)) (fun q19 => ?_)
  refine gIloadN K0 b22_22 (v := (-(Int32.ofNat P))) rfl ?_
  refine gIloadN K0 b22_23 (v := (-100 : Int32)) rfl ?_
  refine gIcmp_le K0 b22_24 (fun q24 => ?_) (fun q => absurd q (by rw [Int32.lt_iff_toInt_lt, show (-100 : Int32).toInt = -100 by decide, negc (P := P) (by omega)]; omega))
  refine gBipush K0 (10 : Int32) b22_31 rfl ?_
  refine gIloadN K0 b22_33 (v := (-100 : Int32)) rfl ?_
  refine gImul K0 b22_34 ?_
  rw [show ((10 : Int32) * (-100 : Int32)) = (-1000 : Int32) from by decide]
  refine gIstoreN K0 b22_35 (Ls' := #[.val (.int (-(Int32.ofNat P))), .val (.int (0 : Int32)), .val (.int (-1000 : Int32)), .val (.int (2 : Int32))]) rfl ?_
  refine gIinc K0 (1 : Int32) b22_36 rfl (x := (2 : Int32)) rfl (Ls' := #[.val (.int (-(Int32.ofNat P))), .val (.int (0 : Int32)), .val (.int (-1000 : Int32)), .val (.int (3 : Int32))]) rfl ?_
  refine gGoto K0 b22_39 ?_
  refine gIloadN K0 b22_16 (v := (3 : Int32)) rfl ?_
  refine gBipush K0 (10 : Int32) b22_17 rfl ?_
  refine gIcmp_ge K0 b22_19 (fun q => absurd q (by first | decide | (intro hh; cases hh) | simp)) (fun q19 => ?_)
  refine gIloadN K0 b22_22 (v := (-(Int32.ofNat P))) rfl ?_
  refine gIloadN K0 b22_23 (v := (-1000 : Int32)) rfl ?_
  refine gIcmp_le K0 b22_24 (fun q => absurd q (not_not_intro (by rw [Int32.lt_iff_toInt_lt, show (-1000 : Int32).toInt = -1000 by decide, negc (P := P) (by omega)]; omega))) (fun q24 => ?_)
  refine gIloadN K0 b22_27 (v := (3 : Int32)) rfl ?_
  refine gIloadN K0 b22_28 (v := (0 : Int32)) rfl ?_
  refine gIaddV K0 (3 : Int32) b22_29 (by decide) ?_
  refine gRetI K0 hlk hret (by simp) b22_30 rfl P0 (by decide) (by decide) ?_
  exact rfl
set_option maxRecDepth 65536 in
set_option maxHeartbeats 40000000 in
theorem c_ssz4 (l : Launch) (Z : State) (a0 : Array Value) (hw : ∀ d ∈ tables_1, d.before a0 Z = true) (h0 : Heap) (n0 : Nat) (Z0 : n0 ≤ h0.size) (P : Nat) (h1 : 1000 ≤ P) (h2 : P < 10000) (hP : P ≤ 65535)  :
    Con none l (⟨"java/lang/Integer", "stringSize", "(I)I"⟩ : MethodName) jdk_33_method_13_code 4 (some .int) [] ({ frames := 0, cells := 0, slots := 0, locals := 0 } : Room) Z n0 h0 [] #[(.int (Int32.ofNat P))] (fun v h => v = some (.int (Int32.ofNat 4))) := by
  refine Con.intro pn6 Z0 (fun _ q => nomatch q) trivial #[.val (.int (Int32.ofNat P)), .unset, .unset, .unset] (fun m => by first | (simp [entryFrame, mkF, argsToLocals, Value.category]; done) | rfl) ?_
  intro p e s m below meth c T0 hlk hret hnm K0
  have P0 := Keep.refl h0 []
  refine gIconst K0 (1 : Int32) b22_0 rfl ?_
  refine gIstoreN K0 b22_1 (Ls' := #[.val (.int (Int32.ofNat P)), .val (.int (1 : Int32)), .unset, .unset]) rfl ?_
  refine gIloadN K0 b22_2 (v := (Int32.ofNat P)) rfl ?_
  refine gIf_lt K0 b22_3 (fun q => absurd q (ofNat_nn (by omega))) (fun q3 => ?_)
  refine gIconst K0 (0 : Int32) b22_6 rfl ?_
  refine gIstoreN K0 b22_7 (Ls' := #[.val (.int (Int32.ofNat P)), .val (.int (0 : Int32)), .unset, .unset]) rfl ?_
  refine gIloadN K0 b22_8 (v := (Int32.ofNat P)) rfl ?_
  refine gIneg K0 b22_9 ?_
  refine gIstoreN K0 b22_10 (Ls' := #[.val (.int (-(Int32.ofNat P))), .val (.int (0 : Int32)), .unset, .unset]) rfl ?_
  refine gBipush K0 (-10 : Int32) b22_11 rfl ?_
  refine gIstoreN K0 b22_13 (Ls' := #[.val (.int (-(Int32.ofNat P))), .val (.int (0 : Int32)), .val (.int (-10 : Int32)), .unset]) rfl ?_
  refine gIconst K0 (1 : Int32) b22_14 rfl ?_
  refine gIstoreN K0 b22_15 (Ls' := #[.val (.int (-(Int32.ofNat P))), .val (.int (0 : Int32)), .val (.int (-10 : Int32)), .val (.int (1 : Int32))]) rfl ?_
  refine gIloadN K0 b22_16 (v := (1 : Int32)) rfl ?_
  refine gBipush K0 (10 : Int32) b22_17 rfl ?_
  refine gIcmp_ge K0 b22_19 (fun q => absurd q (by first | decide | (intro hh; cases hh) | simp)) (fun q19 => ?_)
  refine gIloadN K0 b22_22 (v := (-(Int32.ofNat P))) rfl ?_
  refine gIloadN K0 b22_23 (v := (-10 : Int32)) rfl ?_
  refine gIcmp_le K0 b22_24 (fun q24 => ?_) (fun q => absurd q (by rw [Int32.lt_iff_toInt_lt, show (-10 : Int32).toInt = -10 by decide, negc (P := P) (by omega)]; omega))
  refine gBipush K0 (10 : Int32) b22_31 rfl ?_
  refine gIloadN K0 b22_33 (v := (-10 : Int32)) rfl ?_
  refine gImul K0 b22_34 ?_
  rw [show ((10 : Int32) * (-10 : Int32)) = (-100 : Int32) from by decide]
  refine gIstoreN K0 b22_35 (Ls' := #[.val (.int (-(Int32.ofNat P))), .val (.int (0 : Int32)), .val (.int (-100 : Int32)), .val (.int (1 : Int32))]) rfl ?_
  refine gIinc K0 (1 : Int32) b22_36 rfl (x := (1 : Int32)) rfl (Ls' := #[.val (.int (-(Int32.ofNat P))), .val (.int (0 : Int32)), .val (.int (-100 : Int32)), .val (.int (2 : Int32))]) rfl ?_
  refine gGoto K0 b22_39 ?_
  refine gIloadN K0 b22_16 (v := (2 : Int32)) rfl ?_
  refine gBipush K0 (10 : Int32) b22_17 rfl ?_
  refine gIcmp_ge K0 b22_19 (fun q => absurd q (by first | decide | (intro hh; cases hh) | simp)) (fun q19 => ?_)
  refine gIloadN K0 b22_22 (v := (-(Int32.ofNat P))) rfl ?_
  refine gIloadN K0 b22_23 (v := (-100 : Int32)) rfl ?_
  refine gIcmp_le K0 b22_24 (fun q24 => ?_) (fun q => absurd q (by rw [Int32.lt_iff_toInt_lt, show (-100 : Int32).toInt = -100 by decide, negc (P := P) (by omega)]; omega))
  refine gBipush K0 (10 : Int32) b22_31 rfl ?_
  refine gIloadN K0 b22_33 (v := (-100 : Int32)) rfl ?_
  refine gImul K0 b22_34 ?_
  rw [show ((10 : Int32) * (-100 : Int32)) = (-1000 : Int32) from by decide]
  refine gIstoreN K0 b22_35 (Ls' := #[.val (.int (-(Int32.ofNat P))), .val (.int (0 : Int32)), .val (.int (-1000 : Int32)), .val (.int (2 : Int32))]) rfl ?_
  refine gIinc K0 (1 : Int32) b22_36 rfl (x := (2 : Int32)) rfl (Ls' := #[.val (.int (-(Int32.ofNat P))), .val (.int (0 : Int32)), .val (.int (-1000 : Int32)), .val (.int (3 : Int32))]) rfl ?_
  refine gGoto K0 b22_39 ?_
  refine gIloadN K0 b22_16 (v := (3 : Int32)) rfl ?_
  refine gBipush K0 (10 : Int32) b22_17 rfl ?_
  refine gIcmp_ge K0 b22_19 (fun q => absurd q (by first | decide | (intro hh; cases hh) | simp)) (fun q19 => ?_)
  refine gIloadN K0 b22_22 (v := (-(Int32.ofNat P))) rfl ?_
  refine gIloadN K0 b22_23 (v := (-1000 : Int32)) rfl ?_
  refine gIcmp_le K0 b22_24 (fun q24 => ?_) (fun q => absurd q (by rw [Int32.lt_iff_toInt_lt, show (-1000 : Int32).toInt = -1000 by decide, negc (P := P) (by omega)]; omega))
  refine gBipush K0 (10 : Int32) b22_31 rfl ?_
  refine gIloadN K0 b22_33 (v := (-1000 : Int32)) rfl ?_
  refine gImul K0 b22_34 ?_
  rw [show ((10 : Int32) * (-1000 : Int32)) = (-10000 : Int32) from by decide]
  refine gIstoreN K0 b22_35 (Ls' := #[.val (.int (-(Int32.ofNat P))), .val (.int (0 : Int32)), .val (.int (-10000 : Int32)), .val (.int (3 : Int32))]) rfl ?_
  refine gIinc K0 (1 : Int32) b22_36 rfl (x := (3 : Int32)) rfl (Ls' := #[.val (.int (-(Int32.ofNat P))), .val (.int (0 : Int32)), .val (.int (-10000 : Int32)), .val (.int (4 : Int32))]) rfl ?_
  refine gGoto K0 b22_39 ?_
  refine gIloadN K0 b22_16 (v := (4 : Int32)) rfl ?_
  refine gBipush K0 (10 : Int32) b22_17 rfl ?_
  refine gIcmp_ge K0 b22_19 (fun q => absurd q (by first | decide | (intro hh; cases hh) | simp)) (fun q19 => ?_)
  refine gIloadN K0 b22_22 (v := (-(Int32.ofNat P))) rfl ?_
  refine gIloadN K0 b22_23 (v := (-10000 : Int32)) rfl ?_
  refine gIcmp_le K0 b22_24 (fun q => absurd q (not_not_intro (by rw [Int32.lt_iff_toInt_lt, show (-10000 : Int32).toInt = -10000 by decide, negc (P := P) (by omega)]; omega))) (fun q24 => ?_)
  refine gIloadN K0 b22_27 (v := (4 : Int32)) rfl ?_
  refine gIloadN K0 b22_28 (v := (0 : Int32)) rfl ?_
  refine gIaddV K0 (4 : Int32) b22_29 (by decide) ?_
  refine gRetI K0 hlk hret (by simp) b22_30 rfl P0 (by decide) (by decide) ?_
  exact rfl
set_option maxRecDepth 65536 in
set_option maxHeartbeats 40000000 in
theorem c_ssz5 (l : Launch) (Z : State) (a0 : Array Value) (hw : ∀ d ∈ tables_1, d.before a0 Z = true) (h0 : Heap) (n0 : Nat) (Z0 : n0 ≤ h0.size) (P : Nat) (h1 : 10000 ≤ P) (h2 : P < 100000) (hP : P ≤ 65535)  :
    Con none l (⟨"java/lang/Integer", "stringSize", "(I)I"⟩ : MethodName) jdk_33_method_13_code 4 (some .int) [] ({ frames := 0, cells := 0, slots := 0, locals := 0 } : Room) Z n0 h0 [] #[(.int (Int32.ofNat P))] (fun v h => v = some (.int (Int32.ofNat 5))) := by
  refine Con.intro pn6 Z0 (fun _ q => nomatch q) trivial #[.val (.int (Int32.ofNat P)), .unset, .unset, .unset] (fun m => by first | (simp [entryFrame, mkF, argsToLocals, Value.category]; done) | rfl) ?_
  intro p e s m below meth c T0 hlk hret hnm K0
  have P0 := Keep.refl h0 []
  refine gIconst K0 (1 : Int32) b22_0 rfl ?_
  refine gIstoreN K0 b22_1 (Ls' := #[.val (.int (Int32.ofNat P)), .val (.int (1 : Int32)), .unset, .unset]) rfl ?_
  refine gIloadN K0 b22_2 (v := (Int32.ofNat P)) rfl ?_
  refine gIf_lt K0 b22_3 (fun q => absurd q (ofNat_nn (by omega))) (fun q3 => ?_)
  refine gIconst K0 (0 : Int32) b22_6 rfl ?_
  refine gIstoreN K0 b22_7 (Ls' := #[.val (.int (Int32.ofNat P)), .val (.int (0 : Int32)), .unset, .unset]) rfl ?_
  refine gIloadN K0 b22_8 (v := (Int32.ofNat P)) rfl ?_
  refine gIneg K0 b22_9 ?_
  refine gIstoreN K0 b22_10 (Ls' := #[.val (.int (-(Int32.ofNat P))), .val (.int (0 : Int32)), .unset, .unset]) rfl ?_
  refine gBipush K0 (-10 : Int32) b22_11 rfl ?_
  refine gIstoreN K0 b22_13 (Ls' := #[.val (.int (-(Int32.ofNat P))), .val (.int (0 : Int32)), .val (.int (-10 : Int32)), .unset]) rfl ?_
  refine gIconst K0 (1 : Int32) b22_14 rfl ?_
  refine gIstoreN K0 b22_15 (Ls' := #[.val (.int (-(Int32.ofNat P))), .val (.int (0 : Int32)), .val (.int (-10 : Int32)), .val (.int (1 : Int32))]) rfl ?_
  refine gIloadN K0 b22_16 (v := (1 : Int32)) rfl ?_
  refine gBipush K0 (10 : Int32) b22_17 rfl ?_
  refine gIcmp_ge K0 b22_19 (fun q => absurd q (by first | decide | (intro hh; cases hh) | simp)) (fun q19 => ?_)
  refine gIloadN K0 b22_22 (v := (-(Int32.ofNat P))) rfl ?_
  refine gIloadN K0 b22_23 (v := (-10 : Int32)) rfl ?_
  refine gIcmp_le K0 b22_24 (fun q24 => ?_) (fun q => absurd q (by rw [Int32.lt_iff_toInt_lt, show (-10 : Int32).toInt = -10 by decide, negc (P := P) (by omega)]; omega))
  refine gBipush K0 (10 : Int32) b22_31 rfl ?_
  refine gIloadN K0 b22_33 (v := (-10 : Int32)) rfl ?_
  refine gImul K0 b22_34 ?_
  rw [show ((10 : Int32) * (-10 : Int32)) = (-100 : Int32) from by decide]
  refine gIstoreN K0 b22_35 (Ls' := #[.val (.int (-(Int32.ofNat P))), .val (.int (0 : Int32)), .val (.int (-100 : Int32)), .val (.int (1 : Int32))]) rfl ?_
  refine gIinc K0 (1 : Int32) b22_36 rfl (x := (1 : Int32)) rfl (Ls' := #[.val (.int (-(Int32.ofNat P))), .val (.int (0 : Int32)), .val (.int (-100 : Int32)), .val (.int (2 : Int32))]) rfl ?_
  refine gGoto K0 b22_39 ?_
  refine gIloadN K0 b22_16 (v := (2 : Int32)) rfl ?_
  refine gBipush K0 (10 : Int32) b22_17 rfl ?_
  refine gIcmp_ge K0 b22_19 (fun q => absurd q (by first | decide | (intro hh; cases hh) | simp)) (fun q19 => ?_)
  refine gIloadN K0 b22_22 (v := (-(Int32.ofNat P))) rfl ?_
  refine gIloadN K0 b22_23 (v := (-100 : Int32)) rfl ?_
  refine gIcmp_le K0 b22_24 (fun q24 => ?_) (fun q => absurd q (by rw [Int32.lt_iff_toInt_lt, show (-100 : Int32).toInt = -100 by decide, negc (P := P) (by omega)]; omega))
  refine gBipush K0 (10 : Int32) b22_31 rfl ?_
  refine gIloadN K0 b22_33 (v := (-100 : Int32)) rfl ?_
  refine gImul K0 b22_34 ?_
  rw [show ((10 : Int32) * (-100 : Int32)) = (-1000 : Int32) from by decide]
  refine gIstoreN K0 b22_35 (Ls' := #[.val (.int (-(Int32.ofNat P))), .val (.int (0 : Int32)), .val (.int (-1000 : Int32)), .val (.int (2 : Int32))]) rfl ?_
  refine gIinc K0 (1 : Int32) b22_36 rfl (x := (2 : Int32)) rfl (Ls' := #[.val (.int (-(Int32.ofNat P))), .val (.int (0 : Int32)), .val (.int (-1000 : Int32)), .val (.int (3 : Int32))]) rfl ?_
  refine gGoto K0 b22_39 ?_
  refine gIloadN K0 b22_16 (v := (3 : Int32)) rfl ?_
  refine gBipush K0 (10 : Int32) b22_17 rfl ?_
  refine gIcmp_ge K0 b22_19 (fun q => absurd q (by first | decide | (intro hh; cases hh) | simp)) (fun q19 => ?_)
  refine gIloadN K0 b22_22 (v := (-(Int32.ofNat P))) rfl ?_
  refine gIloadN K0 b22_23 (v := (-1000 : Int32)) rfl ?_
  refine gIcmp_le K0 b22_24 (fun q24 => ?_) (fun q => absurd q (by rw [Int32.lt_iff_toInt_lt, show (-1000 : Int32).toInt = -1000 by decide, negc (P := P) (by omega)]; omega))
  refine gBipush K0 (10 : Int32) b22_31 rfl ?_
  refine gIloadN K0 b22_33 (v := (-1000 : Int32)) rfl ?_
  refine gImul K0 b22_34 ?_
  rw [show ((10 : Int32) * (-1000 : Int32)) = (-10000 : Int32) from by decide]
  refine gIstoreN K0 b22_35 (Ls' := #[.val (.int (-(Int32.ofNat P))), .val (.int (0 : Int32)), .val (.int (-10000 : Int32)), .val (.int (3 : Int32))]) rfl ?_
  refine gIinc K0 (1 : Int32) b22_36 rfl (x := (3 : Int32)) rfl (Ls' := #[.val (.int (-(Int32.ofNat P))), .val (.int (0 : Int32)), .val (.int (-10000 : Int32)), .val (.int (4 : Int32))]) rfl ?_
  refine gGoto K0 b22_39 ?_
  refine gIloadN K0 b22_16 (v := (4 : Int32)) rfl ?_
  refine gBipush K0 (10 : Int32) b22_17 rfl ?_
  refine gIcmp_ge K0 b22_19 (fun q => absurd q (by first | decide | (intro hh; cases hh) | simp)) (fun q19 => ?_)
  refine gIloadN K0 b22_22 (v := (-(Int32.ofNat P))) rfl ?_
  refine gIloadN K0 b22_23 (v := (-10000 : Int32)) rfl ?_
  refine gIcmp_le K0 b22_24 (fun q24 => ?_) (fun q => absurd q (by rw [Int32.lt_iff_toInt_lt, show (-10000 : Int32).toInt = -10000 by decide, negc (P := P) (by omega)]; omega))
  refine gBipush K0 (10 : Int32) b22_31 rfl ?_
  refine gIloadN K0 b22_33 (v := (-10000 : Int32)) rfl ?_
  refine gImul K0 b22_34 ?_
  rw [show ((10 : Int32) * (-10000 : Int32)) = (-100000 : Int32) from by decide]
  refine gIstoreN K0 b22_35 (Ls' := #[.val (.int (-(Int32.ofNat P))), .val (.int (0 : Int32)), .val (.int (-100000 : Int32)), .val (.int (4 : Int32))]) rfl ?_
  refine gIinc K0 (1 : Int32) b22_36 rfl (x := (4 : Int32)) rfl (Ls' := #[.val (.int (-(Int32.ofNat P))), .val (.int (0 : Int32)), .val (.int (-100000 : Int32)), .val (.int (5 : Int32))]) rfl ?_
  refine gGoto K0 b22_39 ?_
  refine gIloadN K0 b22_16 (v := (5 : Int32)) rfl ?_
  refine gBipush K0 (10 : Int32) b22_17 rfl ?_
  refine gIcmp_ge K0 b22_19 (fun q => absurd q (by first | decide | (intro hh; cases hh) | simp)) (fun q19 => ?_)
  refine gIloadN K0 b22_22 (v := (-(Int32.ofNat P))) rfl ?_
  refine gIloadN K0 b22_23 (v := (-100000 : Int32)) rfl ?_
  refine gIcmp_le K0 b22_24 (fun q => absurd q (not_not_intro (by rw [Int32.lt_iff_toInt_lt, show (-100000 : Int32).toInt = -100000 by decide, negc (P := P) (by omega)]; omega))) (fun q24 => ?_)
  refine gIloadN K0 b22_27 (v := (5 : Int32)) rfl ?_
  refine gIloadN K0 b22_28 (v := (0 : Int32)) rfl ?_
  refine gIaddV K0 (5 : Int32) b22_29 (by decide) ?_
  refine gRetI K0 hlk hret (by simp) b22_30 rfl P0 (by decide) (by decide) ?_
  exact rfl
theorem c_ssz (l : Launch) (Z : State) (a0 : Array Value) (hw : ∀ d ∈ tables_1, d.before a0 Z = true) (h0 : Heap) (n0 : Nat) (Z0 : n0 ≤ h0.size) (P : Nat) (hP : P ≤ 65535)  :
    Con none l (⟨"java/lang/Integer", "stringSize", "(I)I"⟩ : MethodName) jdk_33_method_13_code 4 (some .int) [] ({ frames := 0, cells := 0, slots := 0, locals := 0 } : Room) Z n0 h0 [] #[(.int (Int32.ofNat P))] (fun v h => v = some (.int (Int32.ofNat (nd P)))) := by
  by_cases hd1 : P < 10
  · rw [nd1 hd1]; exact c_ssz1 l Z a0 hw h0 n0 Z0 P (by omega) (by omega) hP
  by_cases hd2 : P < 100
  · rw [nd2 hd1 hd2]; exact c_ssz2 l Z a0 hw h0 n0 Z0 P (by omega) (by omega) hP
  by_cases hd3 : P < 1000
  · rw [nd3 hd1 hd2 hd3]; exact c_ssz3 l Z a0 hw h0 n0 Z0 P (by omega) (by omega) hP
  by_cases hd4 : P < 10000
  · rw [nd4 hd1 hd2 hd3 hd4]; exact c_ssz4 l Z a0 hw h0 n0 Z0 P (by omega) (by omega) hP
  rw [nd5 hd1 hd2 hd3 hd4]; exact c_ssz5 l Z a0 hw h0 n0 Z0 P (by omega) (by omega) hP

set_option maxRecDepth 65536 in
set_option maxHeartbeats 40000000 in
theorem c_gc1 (l : Launch) (Z : State) (a0 : Array Value) (hw : ∀ d ∈ tables_1, d.before a0 Z = true) (h0 : Heap) (n0 : Nat) (Z0 : n0 ≤ h0.size) (P : Nat) (h1 : 0 ≤ P) (h2 : P < 10) (hP : P ≤ 65535) (t : Addr) (kb : ClassId) (vs : List Value) (n : Nat) (gt : n0 ≤ t) (At : Arv Z h0 t kb .byte 16 vs (.int 0)) (hv : vs.length = n) (hn : n + 1 ≤ 16) (ao at_ : Addr) (ko kt : ClassId) (So : Sta Z h0 "java/lang/Integer" "DigitOnes" "[B" (.ref ao)) (St_ : Sta Z h0 "java/lang/Integer" "DigitTens" "[B" (.ref at_)) (Ao : Arv Z h0 ao ko .byte 100 onesL (.int 0)) (At_ : Arv Z h0 at_ kt .byte 100 tensL (.int 0)) (hao : ao ≠ t) (hat : at_ ≠ t)  :
    Con none l (⟨"java/lang/Integer", "getChars", "(II[B)I"⟩ : MethodName) jdk_33_method_12_code 7 (some .int) [] ({ frames := 0, cells := 0, slots := 0, locals := 0 } : Room) Z n0 h0 [t] #[(.int (Int32.ofNat P)), (.int (Int32.ofNat (n + 1))), (.ref t)] (fun v h => ∃ r : Int32, v = some (.int r) ∧ Arv Z h t kb .byte 16 (vs ++ (digsN P 1).map Value.int) (.int 0)) := by
  refine Con.intro pn6 Z0 (allS ⟨gt, At.lt⟩ all0) trivial #[.val (.int (Int32.ofNat P)), .val (.int (Int32.ofNat (n + 1))), .val (.ref t), .unset, .unset, .unset, .unset] (fun m => by first | (simp [entryFrame, mkF, argsToLocals, Value.category]; done) | rfl) ?_
  intro p e s m below meth c T0 hlk hret hnm K0
  have P0 := Keep.refl h0 [t]
  have A0 : Arv Z h0 t kb .byte 16 (vs ++ [(.int (0 : Int32))]) (.int 0) := Arv.pad At (pad_rep vs (.int 0) 1)
  refine gIloadN K0 b24_0 (v := (Int32.ofNat (n + 1))) rfl ?_
  refine gIstore K0 b24_1 (Ls' := #[.val (.int (Int32.ofNat P)), .val (.int (Int32.ofNat (n + 1))), .val (.ref t), .unset, .unset, .val (.int (Int32.ofNat (n + 1))), .unset]) rfl ?_
  refine gIloadN K0 b24_3 (v := (Int32.ofNat P)) rfl ?_
  refine gIf_ge K0 b24_4 (fun q4 => ?_) (fun q => absurd q (ofNat_nn (by omega)))
  refine gIconst K0 (0 : Int32) b24_11 rfl ?_
  refine gIstore K0 b24_12 (Ls' := #[.val (.int (Int32.ofNat P)), .val (.int (Int32.ofNat (n + 1))), .val (.ref t), .unset, .unset, .val (.int (Int32.ofNat (n + 1))), .val (.int (0 : Int32))]) rfl ?_
  refine gIload K0 b24_14 (v := (0 : Int32)) rfl ?_
  refine gIf_ne K0 b24_16 (fun q => absurd q (by first | decide | (intro hh; cases hh) | simp)) (fun q16 => ?_)
  refine gIloadN K0 b24_19 (v := (Int32.ofNat P)) rfl ?_
  refine gIneg K0 b24_20 ?_
  refine gIstoreN K0 b24_21 (Ls' := #[.val (.int (-(Int32.ofNat P))), .val (.int (Int32.ofNat (n + 1))), .val (.ref t), .unset, .unset, .val (.int (Int32.ofNat (n + 1))), .val (.int (0 : Int32))]) rfl ?_
  refine gIloadN K0 b24_22 (v := (-(Int32.ofNat P))) rfl ?_
  refine gBipush K0 (-100 : Int32) b24_23 rfl ?_
  refine gIcmp_gt K0 b24_25 (fun q25 => ?_) (fun q => absurd q (not_not_intro (by rw [Int32.lt_iff_toInt_lt, show (-100 : Int32).toInt = -100 by decide, negc (P := P) (by omega)]; omega)))
  refine gAloadN K0 b24_72 (v := (.ref t)) rfl rfl ?_
  refine gIinc K0 (-1 : Int32) b24_73 rfl (x := (Int32.ofNat (n + 1))) rfl (Ls' := #[.val (.int (-(Int32.ofNat P))), .val (.int (Int32.ofNat (n + 1))), .val (.ref t), .unset, .unset, .val (.int ((Int32.ofNat (n + 1)) + (-1 : Int32))), .val (.int (0 : Int32))]) rfl ?_
  rw [show ((Int32.ofNat (n + 1)) + (-1 : Int32)) = (Int32.ofNat (n + 0)) from decN (by omega)]
  refine gIload K0 b24_76 (v := (Int32.ofNat (n + 0))) rfl ?_
  refine gGetS K0 b24_78 (wd hw 148 rfl) So (fun T101 K101 => ?_)
  refine gIloadN K101 b24_81 (v := (-(Int32.ofNat P))) rfl ?_
  refine gIneg K101 b24_82 ?_
  rw [show (-(-(Int32.ofNat P))) = (Int32.ofNat P) from Int32.neg_neg]
  refine gBaload K101 b24_83 Ao ⟨ofNat_nn (by omega), ofNat_ltI (n := 100) (by omega) (by decide)⟩ (v := .int (dgt P 0)) (by rw [ofNat_clamp (by omega), ones_at (by omega)]; exact congrArg (fun q => Value.int (Int32.ofNat (48 + q))) (show P % 10 = P / 1 % 10 by omega)) ?_
  refine gBastoreAt K101 b24_84 (me 0 rfl) A0 (n + 0) (ofNat_clamp (by omega)) (by simp [hv]) ⟨ofNat_nn (by omega), ofNat_ltI (n := 16) (by omega) (by decide)⟩ (fun T102 h102 K102 Q102 A102 => ?_)
  have P103 := P0.trans Q102 (fun z q => by cases List.mem_singleton.mp q; exact Or.inl (me 0 rfl))
  rw [dgt_nar, setA hv] at A102
  have B102 : Arv Z h102 t kb .byte 16 (vs ++ [(.int (dgt P 0))]) (.int 0) := A102
  refine gIloadN K102 b24_85 (v := (-(Int32.ofNat P))) rfl ?_
  refine gBipush K102 (-9 : Int32) b24_86 rfl ?_
  refine gIcmp_ge K102 b24_88 (fun q88 => ?_) (fun q => absurd q (by rw [Int32.lt_iff_toInt_lt, negc (P := P) (by omega), show (-9 : Int32).toInt = -9 by decide]; omega))
  refine gIload K102 b24_104 (v := (0 : Int32)) rfl ?_
  refine gIf_eq K102 b24_106 (fun q106 => ?_) (fun q => absurd q (by first | decide | (intro hh; cases hh) | simp))
  refine gIload K102 b24_118 (v := (Int32.ofNat (n + 0))) rfl ?_
  refine gRetI K102 hlk hret (by simp) b24_120 rfl P103 (by decide) (by decide) ?_
  exact ⟨_, rfl, B102⟩
set_option maxRecDepth 65536 in
set_option maxHeartbeats 40000000 in
theorem c_gc2 (l : Launch) (Z : State) (a0 : Array Value) (hw : ∀ d ∈ tables_1, d.before a0 Z = true) (h0 : Heap) (n0 : Nat) (Z0 : n0 ≤ h0.size) (P : Nat) (h1 : 10 ≤ P) (h2 : P < 100) (hP : P ≤ 65535) (t : Addr) (kb : ClassId) (vs : List Value) (n : Nat) (gt : n0 ≤ t) (At : Arv Z h0 t kb .byte 16 vs (.int 0)) (hv : vs.length = n) (hn : n + 2 ≤ 16) (ao at_ : Addr) (ko kt : ClassId) (So : Sta Z h0 "java/lang/Integer" "DigitOnes" "[B" (.ref ao)) (St_ : Sta Z h0 "java/lang/Integer" "DigitTens" "[B" (.ref at_)) (Ao : Arv Z h0 ao ko .byte 100 onesL (.int 0)) (At_ : Arv Z h0 at_ kt .byte 100 tensL (.int 0)) (hao : ao ≠ t) (hat : at_ ≠ t)  :
    Con none l (⟨"java/lang/Integer", "getChars", "(II[B)I"⟩ : MethodName) jdk_33_method_12_code 7 (some .int) [] ({ frames := 0, cells := 0, slots := 0, locals := 0 } : Room) Z n0 h0 [t] #[(.int (Int32.ofNat P)), (.int (Int32.ofNat (n + 2))), (.ref t)] (fun v h => ∃ r : Int32, v = some (.int r) ∧ Arv Z h t kb .byte 16 (vs ++ (digsN P 2).map Value.int) (.int 0)) := by
  refine Con.intro pn6 Z0 (allS ⟨gt, At.lt⟩ all0) trivial #[.val (.int (Int32.ofNat P)), .val (.int (Int32.ofNat (n + 2))), .val (.ref t), .unset, .unset, .unset, .unset] (fun m => by first | (simp [entryFrame, mkF, argsToLocals, Value.category]; done) | rfl) ?_
  intro p e s m below meth c T0 hlk hret hnm K0
  have P0 := Keep.refl h0 [t]
  have A0 : Arv Z h0 t kb .byte 16 (vs ++ [(.int (0 : Int32)), (.int (0 : Int32))]) (.int 0) := Arv.pad At (pad_rep vs (.int 0) 2)
  refine gIloadN K0 b24_0 (v := (Int32.ofNat (n + 2))) rfl ?_
  refine gIstore K0 b24_1 (Ls' := #[.val (.int (Int32.ofNat P)), .val (.int (Int32.ofNat (n + 2))), .val (.ref t), .unset, .unset, .val (.int (Int32.ofNat (n + 2))), .unset]) rfl ?_
  refine gIloadN K0 b24_3 (v := (Int32.ofNat P)) rfl ?_
  refine gIf_ge K0 b24_4 (fun q4 => ?_) (fun q => absurd q (ofNat_nn (by omega)))
  refine gIconst K0 (0 : Int32) b24_11 rfl ?_
  refine gIstore K0 b24_12 (Ls' := #[.val (.int (Int32.ofNat P)), .val (.int (Int32.ofNat (n + 2))), .val (.ref t), .unset, .unset, .val (.int (Int32.ofNat (n + 2))), .val (.int (0 : Int32))]) rfl ?_
  refine gIload K0 b24_14 (v := (0 : Int32)) rfl ?_
  refine gIf_ne K0 b24_16 (fun q => absurd q (by first | decide | (intro hh; cases hh) | simp)) (fun q16 => ?_)
  refine gIloadN K0 b24_19 (v := (Int32.ofNat P)) rfl ?_
  refine gIneg K0 b24_20 ?_
  refine gIstoreN K0 b24_21 (Ls' := #[.val (.int (-(Int32.ofNat P))), .val (.int (Int32.ofNat (n + 2))), .val (.ref t), .unset, .unset, .val (.int (Int32.ofNat (n + 2))), .val (.int (0 : Int32))]) rfl ?_
  refine gIloadN K0 b24_22 (v := (-(Int32.ofNat P))) rfl ?_
  refine gBipush K0 (-100 : Int32) b24_23 rfl ?_
  refine gIcmp_gt K0 b24_25 (fun q25 => ?_) (fun q => absurd q (not_not_intro (by rw [Int32.lt_iff_toInt_lt, show (-100 : Int32).toInt = -100 by decide, negc (P := P) (by omega)]; omega)))
  refine gAloadN K0 b24_72 (v := (.ref t)) rfl rfl ?_
  refine gIinc K0 (-1 : Int32) b24_73 rfl (x := (Int32.ofNat (n + 2))) rfl (Ls' := #[.val (.int (-(Int32.ofNat P))), .val (.int (Int32.ofNat (n + 2))), .val (.ref t), .unset, .unset, .val (.int ((Int32.ofNat (n + 2)) + (-1 : Int32))), .val (.int (0 : Int32))]) rfl ?_
  rw [show ((Int32.ofNat (n + 2)) + (-1 : Int32)) = (Int32.ofNat (n + 1)) from decN (by omega)]
  refine gIload K0 b24_76 (v := (Int32.ofNat (n + 1))) rfl ?_
  refine gGetS K0 b24_78 (wd hw 148 rfl) So (fun T101 K101 => ?_)
  refine gIloadN K101 b24_81 (v := (-(Int32.ofNat P))) rfl ?_
  refine gIneg K101 b24_82 ?_
  rw [show (-(-(Int32.ofNat P))) = (Int32.ofNat P) from Int32.neg_neg]
  refine gBaload K101 b24_83 Ao ⟨ofNat_nn (by omega), ofNat_ltI (n := 100) (by omega) (by decide)⟩ (v := .int (dgt P 0)) (by rw [ofNat_clamp (by omega), ones_at (by omega)]; exact congrArg (fun q => Value.int (Int32.ofNat (48 + q))) (show P % 10 = P / 1 % 10 by omega)) ?_
  refine gBastoreAt K101 b24_84 (me 0 rfl) A0 (n + 1) (ofNat_clamp (by omega)) (by simp [hv]) ⟨ofNat_nn (by omega), ofNat_ltI (n := 16) (by omega) (by decide)⟩ (fun T102 h102 K102 Q102 A102 => ?_)
  have P103 := P0.trans Q102 (fun z q => by cases List.mem_singleton.mp q; exact Or.inl (me 0 rfl))
  rw [dgt_nar, setA hv] at A102
  have B102 : Arv Z h102 t kb .byte 16 (vs ++ [(.int (0 : Int32)), (.int (dgt P 0))]) (.int 0) := A102
  refine gIloadN K102 b24_85 (v := (-(Int32.ofNat P))) rfl ?_
  refine gBipush K102 (-9 : Int32) b24_86 rfl ?_
  refine gIcmp_ge K102 b24_88 (fun q => absurd q (not_not_intro (by rw [Int32.lt_iff_toInt_lt, negc (P := P) (by omega), show (-9 : Int32).toInt = -9 by decide]; omega))) (fun q88 => ?_)
  refine gAloadN K102 b24_91 (v := (.ref t)) rfl rfl ?_
  refine gIinc K102 (-1 : Int32) b24_92 rfl (x := (Int32.ofNat (n + 1))) rfl (Ls' := #[.val (.int (-(Int32.ofNat P))), .val (.int (Int32.ofNat (n + 2))), .val (.ref t), .unset, .unset, .val (.int ((Int32.ofNat (n + 1)) + (-1 : Int32))), .val (.int (0 : Int32))]) rfl ?_
  rw [show ((Int32.ofNat (n + 1)) + (-1 : Int32)) = (Int32.ofNat (n + 0)) from decN (by omega)]
  refine gIload K102 b24_95 (v := (Int32.ofNat (n + 0))) rfl ?_
  refine gGetS K102 b24_97 (wd hw 217 rfl) (Sta.kp St_ Q102 (nsS (Arv.nostat A0) ns0)) (fun T104 K104 => ?_)
  refine gIloadN K104 b24_100 (v := (-(Int32.ofNat P))) rfl ?_
  refine gIneg K104 b24_101 ?_
  rw [show (-(-(Int32.ofNat P))) = (Int32.ofNat P) from Int32.neg_neg]
  refine gBaload K104 b24_102 (At_.keep Q102 (ninS hat nin0)) ⟨ofNat_nn (by omega), ofNat_ltI (n := 100) (by omega) (by decide)⟩ (v := .int (dgt P 1)) (by rw [ofNat_clamp (by omega), tens_at (by omega)]; exact congrArg (fun q => Value.int (Int32.ofNat (48 + q))) (show P / 10 = P / 10 % 10 by omega)) ?_
  refine gBastoreAt K104 b24_103 (me 0 rfl) B102 (n + 0) (ofNat_clamp (by omega)) (by simp [hv]) ⟨ofNat_nn (by omega), ofNat_ltI (n := 16) (by omega) (by decide)⟩ (fun T105 h105 K105 Q105 A105 => ?_)
  have P106 := P103.trans Q105 (fun z q => by cases List.mem_singleton.mp q; exact Or.inl (me 0 rfl))
  rw [dgt_nar, setA hv] at A105
  have B105 : Arv Z h105 t kb .byte 16 (vs ++ [(.int (dgt P 1)), (.int (dgt P 0))]) (.int 0) := A105
  refine gIload K105 b24_104 (v := (0 : Int32)) rfl ?_
  refine gIf_eq K105 b24_106 (fun q106 => ?_) (fun q => absurd q (by first | decide | (intro hh; cases hh) | simp))
  refine gIload K105 b24_118 (v := (Int32.ofNat (n + 0))) rfl ?_
  refine gRetI K105 hlk hret (by simp) b24_120 rfl P106 (by decide) (by decide) ?_
  exact ⟨_, rfl, B105⟩
set_option maxRecDepth 65536 in
set_option maxHeartbeats 40000000 in
theorem c_gc3 (l : Launch) (Z : State) (a0 : Array Value) (hw : ∀ d ∈ tables_1, d.before a0 Z = true) (h0 : Heap) (n0 : Nat) (Z0 : n0 ≤ h0.size) (P : Nat) (h1 : 100 ≤ P) (h2 : P < 1000) (hP : P ≤ 65535) (t : Addr) (kb : ClassId) (vs : List Value) (n : Nat) (gt : n0 ≤ t) (At : Arv Z h0 t kb .byte 16 vs (.int 0)) (hv : vs.length = n) (hn : n + 3 ≤ 16) (ao at_ : Addr) (ko kt : ClassId) (So : Sta Z h0 "java/lang/Integer" "DigitOnes" "[B" (.ref ao)) (St_ : Sta Z h0 "java/lang/Integer" "DigitTens" "[B" (.ref at_)) (Ao : Arv Z h0 ao ko .byte 100 onesL (.int 0)) (At_ : Arv Z h0 at_ kt .byte 100 tensL (.int 0)) (hao : ao ≠ t) (hat : at_ ≠ t)  :
    Con none l (⟨"java/lang/Integer", "getChars", "(II[B)I"⟩ : MethodName) jdk_33_method_12_code 7 (some .int) [] ({ frames := 0, cells := 0, slots := 0, locals := 0 } : Room) Z n0 h0 [t] #[(.int (Int32.ofNat P)), (.int (Int32.ofNat (n + 3))), (.ref t)] (fun v h => ∃ r : Int32, v = some (.int r) ∧ Arv Z h t kb .byte 16 (vs ++ (digsN P 3).map Value.int) (.int 0)) := by
  refine Con.intro pn6 Z0 (allS ⟨gt, At.lt⟩ all0) trivial #[.val (.int (Int32.ofNat P)), .val (.int (Int32.ofNat (n + 3))), .val (.ref t), .unset, .unset, .unset, .unset] (fun m => by first | (simp [entryFrame, mkF, argsToLocals, Value.category]; done) | rfl) ?_
  intro p e s m below meth c T0 hlk hret hnm K0
  have P0 := Keep.refl h0 [t]
  have A0 : Arv Z h0 t kb .byte 16 (vs ++ [(.int (0 : Int32)), (.int (0 : Int32)), (.int (0 : Int32))]) (.int 0) := Arv.pad At (pad_rep vs (.int 0) 3)
  refine gIloadN K0 b24_0 (v := (Int32.ofNat (n + 3))) rfl ?_
  refine gIstore K0 b24_1 (Ls' := #[.val (.int (Int32.ofNat P)), .val (.int (Int32.ofNat (n + 3))), .val (.ref t), .unset, .unset, .val (.int (Int32.ofNat (n + 3))), .unset]) rfl ?_
  refine gIloadN K0 b24_3 (v := (Int32.ofNat P)) rfl ?_
  refine gIf_ge K0 b24_4 (fun q4 => ?_) (fun q => absurd q (ofNat_nn (by omega)))
  refine gIconst K0 (0 : Int32) b24_11 rfl ?_
  refine gIstore K0 b24_12 (Ls' := #[.val (.int (Int32.ofNat P)), .val (.int (Int32.ofNat (n + 3))), .val (.ref t), .unset, .unset, .val (.int (Int32.ofNat (n + 3))), .val (.int (0 : Int32))]) rfl ?_
  refine gIload K0 b24_14 (v := (0 : Int32)) rfl ?_
  refine gIf_ne K0 b24_16 (fun q => absurd q (by first | decide | (intro hh; cases hh) | simp)) (fun q16 => ?_)
  refine gIloadN K0 b24_19 (v := (Int32.ofNat P)) rfl ?_
  refine gIneg K0 b24_20 ?_
  refine gIstoreN K0 b24_21 (Ls' := #[.val (.int (-(Int32.ofNat P))), .val (.int (Int32.ofNat (n + 3))), .val (.ref t), .unset, .unset, .val (.int (Int32.ofNat (n + 3))), .val (.int (0 : Int32))]) rfl ?_
  refine gIloadN K0 b24_22 (v := (-(Int32.ofNat P))) rfl ?_
  refine gBipush K0 (-100 : Int32) b24_23 rfl ?_
  refine gIcmp_gt K0 b24_25 (fun q => absurd q (by rw [Int32.lt_iff_toInt_lt, show (-100 : Int32).toInt = -100 by decide, negc (P := P) (by omega)]; omega)) (fun q25 => ?_)
  refine gIloadN K0 b24_28 (v := (-(Int32.ofNat P))) rfl ?_
  refine gBipush K0 (100 : Int32) b24_29 rfl ?_
  refine gIdiv K0 b24_31 (by decide) ?_
  rw [show ((-(Int32.ofNat P)) / (100 : Int32)) = (-(Int32.ofNat (P / 100))) from negdiv (by omega)]
  refine gIstoreN K0 b24_32 (Ls' := #[.val (.int (-(Int32.ofNat P))), .val (.int (Int32.ofNat (n + 3))), .val (.ref t), .val (.int (-(Int32.ofNat (P / 100)))), .unset, .val (.int (Int32.ofNat (n + 3))), .val (.int (0 : Int32))]) rfl ?_
  refine gIloadN K0 b24_33 (v := (-(Int32.ofNat (P / 100)))) rfl ?_
  refine gBipush K0 (100 : Int32) b24_34 rfl ?_
  refine gImul K0 b24_36 ?_
  refine gIloadN K0 b24_37 (v := (-(Int32.ofNat P))) rfl ?_
  refine gIsub K0 b24_38 ?_
  rw [show (((-(Int32.ofNat (P / 100))) * (100 : Int32)) - (-(Int32.ofNat P))) = (Int32.ofNat (P % 100)) from negrem (by omega)]
  refine gIstore K0 b24_39 (Ls' := #[.val (.int (-(Int32.ofNat P))), .val (.int (Int32.ofNat (n + 3))), .val (.ref t), .val (.int (-(Int32.ofNat (P / 100)))), .val (.int (Int32.ofNat (P % 100))), .val (.int (Int32.ofNat (n + 3))), .val (.int (0 : Int32))]) rfl ?_
  refine gIloadN K0 b24_41 (v := (-(Int32.ofNat (P / 100)))) rfl ?_
  refine gIstoreN K0 b24_42 (Ls' := #[.val (.int (-(Int32.ofNat (P / 100)))), .val (.int (Int32.ofNat (n + 3))), .val (.ref t), .val (.int (-(Int32.ofNat (P / 100)))), .val (.int (Int32.ofNat (P % 100))), .val (.int (Int32.ofNat (n + 3))), .val (.int (0 : Int32))]) rfl ?_
  refine gAloadN K0 b24_43 (v := (.ref t)) rfl rfl ?_
  refine gIinc K0 (-1 : Int32) b24_44 rfl (x := (Int32.ofNat (n + 3))) rfl (Ls' := #[.val (.int (-(Int32.ofNat (P / 100)))), .val (.int (Int32.ofNat (n + 3))), .val (.ref t), .val (.int (-(Int32.ofNat (P / 100)))), .val (.int (Int32.ofNat (P % 100))), .val (.int ((Int32.ofNat (n + 3)) + (-1 : Int32))), .val (.int (0 : Int32))]) rfl ?_
  rw [show ((Int32.ofNat (n + 3)) + (-1 : Int32)) = (Int32.ofNat (n + 2)) from decN (by omega)]
  refine gIload K0 b24_47 (v := (Int32.ofNat (n + 2))) rfl ?_
  refine gGetS K0 b24_49 (wd hw 148 rfl) So (fun T101 K101 => ?_)
  refine gIload K101 b24_52 (v := (Int32.ofNat (P % 100))) rfl ?_
  refine gBaload K101 b24_54 Ao ⟨ofNat_nn (by omega), ofNat_ltI (n := 100) (by omega) (by decide)⟩ (v := .int (dgt P 0)) (by rw [ofNat_clamp (by omega), ones_at (by omega)]; exact congrArg (fun q => Value.int (Int32.ofNat (48 + q))) (show (P % 100) % 10 = P / 1 % 10 by omega)) ?_
  refine gBastoreAt K101 b24_55 (me 0 rfl) A0 (n + 2) (ofNat_clamp (by omega)) (by simp [hv]) ⟨ofNat_nn (by omega), ofNat_ltI (n := 16) (by omega) (by decide)⟩ (fun T102 h102 K102 Q102 A102 => ?_)
  have P103 := P0.trans Q102 (fun z q => by cases List.mem_singleton.mp q; exact Or.inl (me 0 rfl))
  rw [dgt_nar, setA hv] at A102
  have B102 : Arv Z h102 t kb .byte 16 (vs ++ [(.int (0 : Int32)), (.int (0 : Int32)), (.int (dgt P 0))]) (.int 0) := A102
  refine gAloadN K102 b24_56 (v := (.ref t)) rfl rfl ?_
  refine gIinc K102 (-1 : Int32) b24_57 rfl (x := (Int32.ofNat (n + 2))) rfl (Ls' := #[.val (.int (-(Int32.ofNat (P / 100)))), .val (.int (Int32.ofNat (n + 3))), .val (.ref t), .val (.int (-(Int32.ofNat (P / 100)))), .val (.int (Int32.ofNat (P % 100))), .val (.int ((Int32.ofNat (n + 2)) + (-1 : Int32))), .val (.int (0 : Int32))]) rfl ?_
  rw [show ((Int32.ofNat (n + 2)) + (-1 : Int32)) = (Int32.ofNat (n + 1)) from decN (by omega)]
  refine gIload K102 b24_60 (v := (Int32.ofNat (n + 1))) rfl ?_
  refine gGetS K102 b24_62 (wd hw 217 rfl) (Sta.kp St_ Q102 (nsS (Arv.nostat A0) ns0)) (fun T104 K104 => ?_)
  refine gIload K104 b24_65 (v := (Int32.ofNat (P % 100))) rfl ?_
  refine gBaload K104 b24_67 (At_.keep Q102 (ninS hat nin0)) ⟨ofNat_nn (by omega), ofNat_ltI (n := 100) (by omega) (by decide)⟩ (v := .int (dgt P 1)) (by rw [ofNat_clamp (by omega), tens_at (by omega)]; exact congrArg (fun q => Value.int (Int32.ofNat (48 + q))) (show (P % 100) / 10 = P / 10 % 10 by omega)) ?_
  refine gBastoreAt K104 b24_68 (me 0 rfl) B102 (n + 1) (ofNat_clamp (by omega)) (by simp [hv]) ⟨ofNat_nn (by omega), ofNat_ltI (n := 16) (by omega) (by decide)⟩ (fun T105 h105 K105 Q105 A105 => ?_)
  have P106 := P103.trans Q105 (fun z q => by cases List.mem_singleton.mp q; exact Or.inl (me 0 rfl))
  rw [dgt_nar, setA hv] at A105
  have B105 : Arv Z h105 t kb .byte 16 (vs ++ [(.int (0 : Int32)), (.int (dgt P 1)), (.int (dgt P 0))]) (.int 0) := A105
  refine gGoto K105 b24_69 ?_
  refine gIloadN K105 b24_22 (v := (-(Int32.ofNat (P / 100)))) rfl ?_
  refine gBipush K105 (-100 : Int32) b24_23 rfl ?_
  refine gIcmp_gt K105 b24_25 (fun q25 => ?_) (fun q => absurd q (not_not_intro (by rw [Int32.lt_iff_toInt_lt, show (-100 : Int32).toInt = -100 by decide, negc (P := (P / 100)) (by omega)]; omega)))
  refine gAloadN K105 b24_72 (v := (.ref t)) rfl rfl ?_
  refine gIinc K105 (-1 : Int32) b24_73 rfl (x := (Int32.ofNat (n + 1))) rfl (Ls' := #[.val (.int (-(Int32.ofNat (P / 100)))), .val (.int (Int32.ofNat (n + 3))), .val (.ref t), .val (.int (-(Int32.ofNat (P / 100)))), .val (.int (Int32.ofNat (P % 100))), .val (.int ((Int32.ofNat (n + 1)) + (-1 : Int32))), .val (.int (0 : Int32))]) rfl ?_
  rw [show ((Int32.ofNat (n + 1)) + (-1 : Int32)) = (Int32.ofNat (n + 0)) from decN (by omega)]
  refine gIload K105 b24_76 (v := (Int32.ofNat (n + 0))) rfl ?_
  refine gGetS K105 b24_78 (wd hw 148 rfl) (Sta.kp (Sta.kp So Q102 (nsS (Arv.nostat A0) ns0)) Q105 (nsS (Arv.nostat B102) ns0)) (fun T107 K107 => ?_)
  refine gIloadN K107 b24_81 (v := (-(Int32.ofNat (P / 100)))) rfl ?_
  refine gIneg K107 b24_82 ?_
  rw [show (-(-(Int32.ofNat (P / 100)))) = (Int32.ofNat (P / 100)) from Int32.neg_neg]
  refine gBaload K107 b24_83 ((Ao.keep Q102 (ninS hao nin0)).keep Q105 (ninS hao nin0)) ⟨ofNat_nn (by omega), ofNat_ltI (n := 100) (by omega) (by decide)⟩ (v := .int (dgt P 2)) (by rw [ofNat_clamp (by omega), ones_at (by omega)]; exact congrArg (fun q => Value.int (Int32.ofNat (48 + q))) (show (P / 100) % 10 = P / 100 % 10 by omega)) ?_
  refine gBastoreAt K107 b24_84 (me 0 rfl) B105 (n + 0) (ofNat_clamp (by omega)) (by simp [hv]) ⟨ofNat_nn (by omega), ofNat_ltI (n := 16) (by omega) (by decide)⟩ (fun T108 h108 K108 Q108 A108 => ?_)
  have P109 := P106.trans Q108 (fun z q => by cases List.mem_singleton.mp q; exact Or.inl (me 0 rfl))
  rw [dgt_nar, setA hv] at A108
  have B108 : Arv Z h108 t kb .byte 16 (vs ++ [(.int (dgt P 2)), (.int (dgt P 1)), (.int (dgt P 0))]) (.int 0) := A108
  refine gIloadN K108 b24_85 (v := (-(Int32.ofNat (P / 100)))) rfl ?_
  refine gBipush K108 (-9 : Int32) b24_86 rfl ?_
  refine gIcmp_ge K108 b24_88 (fun q88 => ?_) (fun q => absurd q (by rw [Int32.lt_iff_toInt_lt, negc (P := (P / 100)) (by omega), show (-9 : Int32).toInt = -9 by decide]; omega))
  refine gIload K108 b24_104 (v := (0 : Int32)) rfl ?_
  refine gIf_eq K108 b24_106 (fun q106 => ?_) (fun q => absurd q (by first | decide | (intro hh; cases hh) | simp))
  refine gIload K108 b24_118 (v := (Int32.ofNat (n + 0))) rfl ?_
  refine gRetI K108 hlk hret (by simp) b24_120 rfl P109 (by decide) (by decide) ?_
  exact ⟨_, rfl, B108⟩
set_option maxRecDepth 65536 in
set_option maxHeartbeats 40000000 in
theorem c_gc4 (l : Launch) (Z : State) (a0 : Array Value) (hw : ∀ d ∈ tables_1, d.before a0 Z = true) (h0 : Heap) (n0 : Nat) (Z0 : n0 ≤ h0.size) (P : Nat) (h1 : 1000 ≤ P) (h2 : P < 10000) (hP : P ≤ 65535) (t : Addr) (kb : ClassId) (vs : List Value) (n : Nat) (gt : n0 ≤ t) (At : Arv Z h0 t kb .byte 16 vs (.int 0)) (hv : vs.length = n) (hn : n + 4 ≤ 16) (ao at_ : Addr) (ko kt : ClassId) (So : Sta Z h0 "java/lang/Integer" "DigitOnes" "[B" (.ref ao)) (St_ : Sta Z h0 "java/lang/Integer" "DigitTens" "[B" (.ref at_)) (Ao : Arv Z h0 ao ko .byte 100 onesL (.int 0)) (At_ : Arv Z h0 at_ kt .byte 100 tensL (.int 0)) (hao : ao ≠ t) (hat : at_ ≠ t)  :
    Con none l (⟨"java/lang/Integer", "getChars", "(II[B)I"⟩ : MethodName) jdk_33_method_12_code 7 (some .int) [] ({ frames := 0, cells := 0, slots := 0, locals := 0 } : Room) Z n0 h0 [t] #[(.int (Int32.ofNat P)), (.int (Int32.ofNat (n + 4))), (.ref t)] (fun v h => ∃ r : Int32, v = some (.int r) ∧ Arv Z h t kb .byte 16 (vs ++ (digsN P 4).map Value.int) (.int 0)) := by
  refine Con.intro pn6 Z0 (allS ⟨gt, At.lt⟩ all0) trivial #[.val (.int (Int32.ofNat P)), .val (.int (Int32.ofNat (n + 4))), .val (.ref t), .unset, .unset, .unset, .unset] (fun m => by first | (simp [entryFrame, mkF, argsToLocals, Value.category]; done) | rfl) ?_
  intro p e s m below meth c T0 hlk hret hnm K0
  have P0 := Keep.refl h0 [t]
  have A0 : Arv Z h0 t kb .byte 16 (vs ++ [(.int (0 : Int32)), (.int (0 : Int32)), (.int (0 : Int32)), (.int (0 : Int32))]) (.int 0) := Arv.pad At (pad_rep vs (.int 0) 4)
  refine gIloadN K0 b24_0 (v := (Int32.ofNat (n + 4))) rfl ?_
  refine gIstore K0 b24_1 (Ls' := #[.val (.int (Int32.ofNat P)), .val (.int (Int32.ofNat (n + 4))), .val (.ref t), .unset, .unset, .val (.int (Int32.ofNat (n + 4))), .unset]) rfl ?_
  refine gIloadN K0 b24_3 (v := (Int32.ofNat P)) rfl ?_
  refine gIf_ge K0 b24_4 (fun q4 => ?_) (fun q => absurd q (ofNat_nn (by omega)))
  refine gIconst K0 (0 : Int32) b24_11 rfl ?_
  refine gIstore K0 b24_12 (Ls' := #[.val (.int (Int32.ofNat P)), .val (.int (Int32.ofNat (n + 4))), .val (.ref t), .unset, .unset, .val (.int (Int32.ofNat (n + 4))), .val (.int (0 : Int32))]) rfl ?_
  refine gIload K0 b24_14 (v := (0 : Int32)) rfl ?_
  refine gIf_ne K0 b24_16 (fun q => absurd q (by first | decide | (intro hh; cases hh) | simp)) (fun q16 => ?_)
  refine gIloadN K0 b24_19 (v := (Int32.ofNat P)) rfl ?_
  refine gIneg K0 b24_20 ?_
  refine gIstoreN K0 b24_21 (Ls' := #[.val (.int (-(Int32.ofNat P))), .val (.int (Int32.ofNat (n + 4))), .val (.ref t), .unset, .unset, .val (.int (Int32.ofNat (n + 4))), .val (.int (0 : Int32))]) rfl ?_
  refine gIloadN K0 b24_22 (v := (-(Int32.ofNat P))) rfl ?_
  refine gBipush K0 (-100 : Int32) b24_23 rfl ?_
  refine gIcmp_gt K0 b24_25 (fun q => absurd q (by rw [Int32.lt_iff_toInt_lt, show (-100 : Int32).toInt = -100 by decide, negc (P := P) (by omega)]; omega)) (fun q25 => ?_)
  refine gIloadN K0 b24_28 (v := (-(Int32.ofNat P))) rfl ?_
  refine gBipush K0 (100 : Int32) b24_29 rfl ?_
  refine gIdiv K0 b24_31 (by decide) ?_
  rw [show ((-(Int32.ofNat P)) / (100 : Int32)) = (-(Int32.ofNat (P / 100))) from negdiv (by omega)]
  refine gIstoreN K0 b24_32 (Ls' := #[.val (.int (-(Int32.ofNat P))), .val (.int (Int32.ofNat (n + 4))), .val (.ref t), .val (.int (-(Int32.ofNat (P / 100)))), .unset, .val (.int (Int32.ofNat (n + 4))), .val (.int (0 : Int32))]) rfl ?_
  refine gIloadN K0 b24_33 (v := (-(Int32.ofNat (P / 100)))) rfl ?_
  refine gBipush K0 (100 : Int32) b24_34 rfl ?_
  refine gImul K0 b24_36 ?_
  refine gIloadN K0 b24_37 (v := (-(Int32.ofNat P))) rfl ?_
  refine gIsub K0 b24_38 ?_
  rw [show (((-(Int32.ofNat (P / 100))) * (100 : Int32)) - (-(Int32.ofNat P))) = (Int32.ofNat (P % 100)) from negrem (by omega)]
  refine gIstore K0 b24_39 (Ls' := #[.val (.int (-(Int32.ofNat P))), .val (.int (Int32.ofNat (n + 4))), .val (.ref t), .val (.int (-(Int32.ofNat (P / 100)))), .val (.int (Int32.ofNat (P % 100))), .val (.int (Int32.ofNat (n + 4))), .val (.int (0 : Int32))]) rfl ?_
  refine gIloadN K0 b24_41 (v := (-(Int32.ofNat (P / 100)))) rfl ?_
  refine gIstoreN K0 b24_42 (Ls' := #[.val (.int (-(Int32.ofNat (P / 100)))), .val (.int (Int32.ofNat (n + 4))), .val (.ref t), .val (.int (-(Int32.ofNat (P / 100)))), .val (.int (Int32.ofNat (P % 100))), .val (.int (Int32.ofNat (n + 4))), .val (.int (0 : Int32))]) rfl ?_
  refine gAloadN K0 b24_43 (v := (.ref t)) rfl rfl ?_
  refine gIinc K0 (-1 : Int32) b24_44 rfl (x := (Int32.ofNat (n + 4))) rfl (Ls' := #[.val (.int (-(Int32.ofNat (P / 100)))), .val (.int (Int32.ofNat (n + 4))), .val (.ref t), .val (.int (-(Int32.ofNat (P / 100)))), .val (.int (Int32.ofNat (P % 100))), .val (.int ((Int32.ofNat (n + 4)) + (-1 : Int32))), .val (.int (0 : Int32))]) rfl ?_
  rw [show ((Int32.ofNat (n + 4)) + (-1 : Int32)) = (Int32.ofNat (n + 3)) from decN (by omega)]
  refine gIload K0 b24_47 (v := (Int32.ofNat (n + 3))) rfl ?_
  refine gGetS K0 b24_49 (wd hw 148 rfl) So (fun T101 K101 => ?_)
  refine gIload K101 b24_52 (v := (Int32.ofNat (P % 100))) rfl ?_
  refine gBaload K101 b24_54 Ao ⟨ofNat_nn (by omega), ofNat_ltI (n := 100) (by omega) (by decide)⟩ (v := .int (dgt P 0)) (by rw [ofNat_clamp (by omega), ones_at (by omega)]; exact congrArg (fun q => Value.int (Int32.ofNat (48 + q))) (show (P % 100) % 10 = P / 1 % 10 by omega)) ?_
  refine gBastoreAt K101 b24_55 (me 0 rfl) A0 (n + 3) (ofNat_clamp (by omega)) (by simp [hv]) ⟨ofNat_nn (by omega), ofNat_ltI (n := 16) (by omega) (by decide)⟩ (fun T102 h102 K102 Q102 A102 => ?_)
  have P103 := P0.trans Q102 (fun z q => by cases List.mem_singleton.mp q; exact Or.inl (me 0 rfl))
  rw [dgt_nar, setA hv] at A102
  have B102 : Arv Z h102 t kb .byte 16 (vs ++ [(.int (0 : Int32)), (.int (0 : Int32)), (.int (0 : Int32)), (.int (dgt P 0))]) (.int 0) := A102
  refine gAloadN K102 b24_56 (v := (.ref t)) rfl rfl ?_
  refine gIinc K102 (-1 : Int32) b24_57 rfl (x := (Int32.ofNat (n + 3))) rfl (Ls' := #[.val (.int (-(Int32.ofNat (P / 100)))), .val (.int (Int32.ofNat (n + 4))), .val (.ref t), .val (.int (-(Int32.ofNat (P / 100)))), .val (.int (Int32.ofNat (P % 100))), .val (.int ((Int32.ofNat (n + 3)) + (-1 : Int32))), .val (.int (0 : Int32))]) rfl ?_
  rw [show ((Int32.ofNat (n + 3)) + (-1 : Int32)) = (Int32.ofNat (n + 2)) from decN (by omega)]
  refine gIload K102 b24_60 (v := (Int32.ofNat (n + 2))) rfl ?_
  refine gGetS K102 b24_62 (wd hw 217 rfl) (Sta.kp St_ Q102 (nsS (Arv.nostat A0) ns0)) (fun T104 K104 => ?_)
  refine gIload K104 b24_65 (v := (Int32.ofNat (P % 100))) rfl ?_
  refine gBaload K104 b24_67 (At_.keep Q102 (ninS hat nin0)) ⟨ofNat_nn (by omega), ofNat_ltI (n := 100) (by omega) (by decide)⟩ (v := .int (dgt P 1)) (by rw [ofNat_clamp (by omega), tens_at (by omega)]; exact congrArg (fun q => Value.int (Int32.ofNat (48 + q))) (show (P % 100) / 10 = P / 10 % 10 by omega)) ?_
  refine gBastoreAt K104 b24_68 (me 0 rfl) B102 (n + 2) (ofNat_clamp (by omega)) (by simp [hv]) ⟨ofNat_nn (by omega), ofNat_ltI (n := 16) (by omega) (by decide)⟩ (fun T105 h105 K105 Q105 A105 => ?_)
  have P106 := P103.trans Q105 (fun z q => by cases List.mem_singleton.mp q; exact Or.inl (me 0 rfl))
  rw [dgt_nar, setA hv] at A105
  have B105 : Arv Z h105 t kb .byte 16 (vs ++ [(.int (0 : Int32)), (.int (0 : Int32)), (.int (dgt P 1)), (.int (dgt P 0))]) (.int 0) := A105
  refine gGoto K105 b24_69 ?_
  refine gIloadN K105 b24_22 (v := (-(Int32.ofNat (P / 100)))) rfl ?_
  refine gBipush K105 (-100 : Int32) b24_23 rfl ?_
  refine gIcmp_gt K105 b24_25 (fun q25 => ?_) (fun q => absurd q (not_not_intro (by rw [Int32.lt_iff_toInt_lt, show (-100 : Int32).toInt = -100 by decide, negc (P := (P / 100)) (by omega)]; omega)))
  refine gAloadN K105 b24_72 (v := (.ref t)) rfl rfl ?_
  refine gIinc K105 (-1 : Int32) b24_73 rfl (x := (Int32.ofNat (n + 2))) rfl (Ls' := #[.val (.int (-(Int32.ofNat (P / 100)))), .val (.int (Int32.ofNat (n + 4))), .val (.ref t), .val (.int (-(Int32.ofNat (P / 100)))), .val (.int (Int32.ofNat (P % 100))), .val (.int ((Int32.ofNat (n + 2)) + (-1 : Int32))), .val (.int (0 : Int32))]) rfl ?_
  rw [show ((Int32.ofNat (n + 2)) + (-1 : Int32)) = (Int32.ofNat (n + 1)) from decN (by omega)]
  refine gIload K105 b24_76 (v := (Int32.ofNat (n + 1))) rfl ?_
  refine gGetS K105 b24_78 (wd hw 148 rfl) (Sta.kp (Sta.kp So Q102 (nsS (Arv.nostat A0) ns0)) Q105 (nsS (Arv.nostat B102) ns0)) (fun T107 K107 => ?_)
  refine gIloadN K107 b24_81 (v := (-(Int32.ofNat (P / 100)))) rfl ?_
  refine gIneg K107 b24_82 ?_
  rw [show (-(-(Int32.ofNat (P / 100)))) = (Int32.ofNat (P / 100)) from Int32.neg_neg]
  refine gBaload K107 b24_83 ((Ao.keep Q102 (ninS hao nin0)).keep Q105 (ninS hao nin0)) ⟨ofNat_nn (by omega), ofNat_ltI (n := 100) (by omega) (by decide)⟩ (v := .int (dgt P 2)) (by rw [ofNat_clamp (by omega), ones_at (by omega)]; exact congrArg (fun q => Value.int (Int32.ofNat (48 + q))) (show (P / 100) % 10 = P / 100 % 10 by omega)) ?_
  refine gBastoreAt K107 b24_84 (me 0 rfl) B105 (n + 1) (ofNat_clamp (by omega)) (by simp [hv]) ⟨ofNat_nn (by omega), ofNat_ltI (n := 16) (by omega) (by decide)⟩ (fun T108 h108 K108 Q108 A108 => ?_)
  have P109 := P106.trans Q108 (fun z q => by cases List.mem_singleton.mp q; exact Or.inl (me 0 rfl))
  rw [dgt_nar, setA hv] at A108
  have B108 : Arv Z h108 t kb .byte 16 (vs ++ [(.int (0 : Int32)), (.int (dgt P 2)), (.int (dgt P 1)), (.int (dgt P 0))]) (.int 0) := A108
  refine gIloadN K108 b24_85 (v := (-(Int32.ofNat (P / 100)))) rfl ?_
  refine gBipush K108 (-9 : Int32) b24_86 rfl ?_
  refine gIcmp_ge K108 b24_88 (fun q => absurd q (not_not_intro (by rw [Int32.lt_iff_toInt_lt, negc (P := (P / 100)) (by omega), show (-9 : Int32).toInt = -9 by decide]; omega))) (fun q88 => ?_)
  refine gAloadN K108 b24_91 (v := (.ref t)) rfl rfl ?_
  refine gIinc K108 (-1 : Int32) b24_92 rfl (x := (Int32.ofNat (n + 1))) rfl (Ls' := #[.val (.int (-(Int32.ofNat (P / 100)))), .val (.int (Int32.ofNat (n + 4))), .val (.ref t), .val (.int (-(Int32.ofNat (P / 100)))), .val (.int (Int32.ofNat (P % 100))), .val (.int ((Int32.ofNat (n + 1)) + (-1 : Int32))), .val (.int (0 : Int32))]) rfl ?_
  rw [show ((Int32.ofNat (n + 1)) + (-1 : Int32)) = (Int32.ofNat (n + 0)) from decN (by omega)]
  refine gIload K108 b24_95 (v := (Int32.ofNat (n + 0))) rfl ?_
  refine gGetS K108 b24_97 (wd hw 217 rfl) (Sta.kp (Sta.kp (Sta.kp St_ Q102 (nsS (Arv.nostat A0) ns0)) Q105 (nsS (Arv.nostat B102) ns0)) Q108 (nsS (Arv.nostat B105) ns0)) (fun T110 K110 => ?_)
  refine gIloadN K110 b24_100 (v := (-(Int32.ofNat (P / 100)))) rfl ?_
  refine gIneg K110 b24_101 ?_
  rw [show (-(-(Int32.ofNat (P / 100)))) = (Int32.ofNat (P / 100)) from Int32.neg_neg]
  refine gBaload K110 b24_102 (((At_.keep Q102 (ninS hat nin0)).keep Q105 (ninS hat nin0)).keep Q108 (ninS hat nin0)) ⟨ofNat_nn (by omega), ofNat_ltI (n := 100) (by omega) (by decide)⟩ (v := .int (dgt P 3)) (by rw [ofNat_clamp (by omega), tens_at (by omega)]; exact congrArg (fun q => Value.int (Int32.ofNat (48 + q))) (show (P / 100) / 10 = P / 1000 % 10 by omega)) ?_
  refine gBastoreAt K110 b24_103 (me 0 rfl) B108 (n + 0) (ofNat_clamp (by omega)) (by simp [hv]) ⟨ofNat_nn (by omega), ofNat_ltI (n := 16) (by omega) (by decide)⟩ (fun T111 h111 K111 Q111 A111 => ?_)
  have P112 := P109.trans Q111 (fun z q => by cases List.mem_singleton.mp q; exact Or.inl (me 0 rfl))
  rw [dgt_nar, setA hv] at A111
  have B111 : Arv Z h111 t kb .byte 16 (vs ++ [(.int (dgt P 3)), (.int (dgt P 2)), (.int (dgt P 1)), (.int (dgt P 0))]) (.int 0) := A111
  refine gIload K111 b24_104 (v := (0 : Int32)) rfl ?_
  refine gIf_eq K111 b24_106 (fun q106 => ?_) (fun q => absurd q (by first | decide | (intro hh; cases hh) | simp))
  refine gIload K111 b24_118 (v := (Int32.ofNat (n + 0))) rfl ?_
  refine gRetI K111 hlk hret (by simp) b24_120 rfl P112 (by decide) (by decide) ?_
  exact ⟨_, rfl, B111⟩
set_option maxRecDepth 65536 in
set_option maxHeartbeats 40000000 in
theorem c_gc5 (l : Launch) (Z : State) (a0 : Array Value) (hw : ∀ d ∈ tables_1, d.before a0 Z = true) (h0 : Heap) (n0 : Nat) (Z0 : n0 ≤ h0.size) (P : Nat) (h1 : 10000 ≤ P) (h2 : P < 100000) (hP : P ≤ 65535) (t : Addr) (kb : ClassId) (vs : List Value) (n : Nat) (gt : n0 ≤ t) (At : Arv Z h0 t kb .byte 16 vs (.int 0)) (hv : vs.length = n) (hn : n + 5 ≤ 16) (ao at_ : Addr) (ko kt : ClassId) (So : Sta Z h0 "java/lang/Integer" "DigitOnes" "[B" (.ref ao)) (St_ : Sta Z h0 "java/lang/Integer" "DigitTens" "[B" (.ref at_)) (Ao : Arv Z h0 ao ko .byte 100 onesL (.int 0)) (At_ : Arv Z h0 at_ kt .byte 100 tensL (.int 0)) (hao : ao ≠ t) (hat : at_ ≠ t)  :
    Con none l (⟨"java/lang/Integer", "getChars", "(II[B)I"⟩ : MethodName) jdk_33_method_12_code 7 (some .int) [] ({ frames := 0, cells := 0, slots := 0, locals := 0 } : Room) Z n0 h0 [t] #[(.int (Int32.ofNat P)), (.int (Int32.ofNat (n + 5))), (.ref t)] (fun v h => ∃ r : Int32, v = some (.int r) ∧ Arv Z h t kb .byte 16 (vs ++ (digsN P 5).map Value.int) (.int 0)) := by
  refine Con.intro pn6 Z0 (allS ⟨gt, At.lt⟩ all0) trivial #[.val (.int (Int32.ofNat P)), .val (.int (Int32.ofNat (n + 5))), .val (.ref t), .unset, .unset, .unset, .unset] (fun m => by first | (simp [entryFrame, mkF, argsToLocals, Value.category]; done) | rfl) ?_
  intro p e s m below meth c T0 hlk hret hnm K0
  have P0 := Keep.refl h0 [t]
  have A0 : Arv Z h0 t kb .byte 16 (vs ++ [(.int (0 : Int32)), (.int (0 : Int32)), (.int (0 : Int32)), (.int (0 : Int32)), (.int (0 : Int32))]) (.int 0) := Arv.pad At (pad_rep vs (.int 0) 5)
  refine gIloadN K0 b24_0 (v := (Int32.ofNat (n + 5))) rfl ?_
  refine gIstore K0 b24_1 (Ls' := #[.val (.int (Int32.ofNat P)), .val (.int (Int32.ofNat (n + 5))), .val (.ref t), .unset, .unset, .val (.int (Int32.ofNat (n + 5))), .unset]) rfl ?_
  refine gIloadN K0 b24_3 (v := (Int32.ofNat P)) rfl ?_
  refine gIf_ge K0 b24_4 (fun q4 => ?_) (fun q => absurd q (ofNat_nn (by omega)))
  refine gIconst K0 (0 : Int32) b24_11 rfl ?_
  refine gIstore K0 b24_12 (Ls' := #[.val (.int (Int32.ofNat P)), .val (.int (Int32.ofNat (n + 5))), .val (.ref t), .unset, .unset, .val (.int (Int32.ofNat (n + 5))), .val (.int (0 : Int32))]) rfl ?_
  refine gIload K0 b24_14 (v := (0 : Int32)) rfl ?_
  refine gIf_ne K0 b24_16 (fun q => absurd q (by first | decide | (intro hh; cases hh) | simp)) (fun q16 => ?_)
  refine gIloadN K0 b24_19 (v := (Int32.ofNat P)) rfl ?_
  refine gIneg K0 b24_20 ?_
  refine gIstoreN K0 b24_21 (Ls' := #[.val (.int (-(Int32.ofNat P))), .val (.int (Int32.ofNat (n + 5))), .val (.ref t), .unset, .unset, .val (.int (Int32.ofNat (n + 5))), .val (.int (0 : Int32))]) rfl ?_
  refine gIloadN K0 b24_22 (v := (-(Int32.ofNat P))) rfl ?_
  refine gBipush K0 (-100 : Int32) b24_23 rfl ?_
  refine gIcmp_gt K0 b24_25 (fun q => absurd q (by rw [Int32.lt_iff_toInt_lt, show (-100 : Int32).toInt = -100 by decide, negc (P := P) (by omega)]; omega)) (fun q25 => ?_)
  refine gIloadN K0 b24_28 (v := (-(Int32.ofNat P))) rfl ?_
  refine gBipush K0 (100 : Int32) b24_29 rfl ?_
  refine gIdiv K0 b24_31 (by decide) ?_
  rw [show ((-(Int32.ofNat P)) / (100 : Int32)) = (-(Int32.ofNat (P / 100))) from negdiv (by omega)]
  refine gIstoreN K0 b24_32 (Ls' := #[.val (.int (-(Int32.ofNat P))), .val (.int (Int32.ofNat (n + 5))), .val (.ref t), .val (.int (-(Int32.ofNat (P / 100)))), .unset, .val (.int (Int32.ofNat (n + 5))), .val (.int (0 : Int32))]) rfl ?_
  refine gIloadN K0 b24_33 (v := (-(Int32.ofNat (P / 100)))) rfl ?_
  refine gBipush K0 (100 : Int32) b24_34 rfl ?_
  refine gImul K0 b24_36 ?_
  refine gIloadN K0 b24_37 (v := (-(Int32.ofNat P))) rfl ?_
  refine gIsub K0 b24_38 ?_
  rw [show (((-(Int32.ofNat (P / 100))) * (100 : Int32)) - (-(Int32.ofNat P))) = (Int32.ofNat (P % 100)) from negrem (by omega)]
  refine gIstore K0 b24_39 (Ls' := #[.val (.int (-(Int32.ofNat P))), .val (.int (Int32.ofNat (n + 5))), .val (.ref t), .val (.int (-(Int32.ofNat (P / 100)))), .val (.int (Int32.ofNat (P % 100))), .val (.int (Int32.ofNat (n + 5))), .val (.int (0 : Int32))]) rfl ?_
  refine gIloadN K0 b24_41 (v := (-(Int32.ofNat (P / 100)))) rfl ?_
  refine gIstoreN K0 b24_42 (Ls' := #[.val (.int (-(Int32.ofNat (P / 100)))), .val (.int (Int32.ofNat (n + 5))), .val (.ref t), .val (.int (-(Int32.ofNat (P / 100)))), .val (.int (Int32.ofNat (P % 100))), .val (.int (Int32.ofNat (n + 5))), .val (.int (0 : Int32))]) rfl ?_
  refine gAloadN K0 b24_43 (v := (.ref t)) rfl rfl ?_
  refine gIinc K0 (-1 : Int32) b24_44 rfl (x := (Int32.ofNat (n + 5))) rfl (Ls' := #[.val (.int (-(Int32.ofNat (P / 100)))), .val (.int (Int32.ofNat (n + 5))), .val (.ref t), .val (.int (-(Int32.ofNat (P / 100)))), .val (.int (Int32.ofNat (P % 100))), .val (.int ((Int32.ofNat (n + 5)) + (-1 : Int32))), .val (.int (0 : Int32))]) rfl ?_
  rw [show ((Int32.ofNat (n + 5)) + (-1 : Int32)) = (Int32.ofNat (n + 4)) from decN (by omega)]
  refine gIload K0 b24_47 (v := (Int32.ofNat (n + 4))) rfl ?_
  refine gGetS K0 b24_49 (wd hw 148 rfl) So (fun T101 K101 => ?_)
  refine gIload K101 b24_52 (v := (Int32.ofNat (P % 100))) rfl ?_
  refine gBaload K101 b24_54 Ao ⟨ofNat_nn (by omega), ofNat_ltI (n := 100) (by omega) (by decide)⟩ (v := .int (dgt P 0)) (by rw [ofNat_clamp (by omega), ones_at (by omega)]; exact congrArg (fun q => Value.int (Int32.ofNat (48 + q))) (show (P % 100) % 10 = P / 1 % 10 by omega)) ?_
  refine gBastoreAt K101 b24_55 (me 0 rfl) A0 (n + 4) (ofNat_clamp (by omega)) (by simp [hv]) ⟨ofNat_nn (by omega), ofNat_ltI (n := 16) (by omega) (by decide)⟩ (fun T102 h102 K102 Q102 A102 => ?_)
  have P103 := P0.trans Q102 (fun z q => by cases List.mem_singleton.mp q; exact Or.inl (me 0 rfl))
  rw [dgt_nar, setA hv] at A102
  have B102 : Arv Z h102 t kb .byte 16 (vs ++ [(.int (0 : Int32)), (.int (0 : Int32)), (.int (0 : Int32)), (.int (0 : Int32)), (.int (dgt P 0))]) (.int 0) := A102
  refine gAloadN K102 b24_56 (v := (.ref t)) rfl rfl ?_
  refine gIinc K102 (-1 : Int32) b24_57 rfl (x := (Int32.ofNat (n + 4))) rfl (Ls' := #[.val (.int (-(Int32.ofNat (P / 100)))), .val (.int (Int32.ofNat (n + 5))), .val (.ref t), .val (.int (-(Int32.ofNat (P / 100)))), .val (.int (Int32.ofNat (P % 100))), .val (.int ((Int32.ofNat (n + 4)) + (-1 : Int32))), .val (.int (0 : Int32))]) rfl ?_
  rw [show ((Int32.ofNat (n + 4)) + (-1 : Int32)) = (Int32.ofNat (n + 3)) from decN (by omega)]
  refine gIload K102 b24_60 (v := (Int32.ofNat (n + 3))) rfl ?_
  refine gGetS K102 b24_62 (wd hw 217 rfl) (Sta.kp St_ Q102 (nsS (Arv.nostat A0) ns0)) (fun T104 K104 => ?_)
  refine gIload K104 b24_65 (v := (Int32.ofNat (P % 100))) rfl ?_
  refine gBaload K104 b24_67 (At_.keep Q102 (ninS hat nin0)) ⟨ofNat_nn (by omega), ofNat_ltI (n := 100) (by omega) (by decide)⟩ (v := .int (dgt P 1)) (by rw [ofNat_clamp (by omega), tens_at (by omega)]; exact congrArg (fun q => Value.int (Int32.ofNat (48 + q))) (show (P % 100) / 10 = P / 10 % 10 by omega)) ?_
  refine gBastoreAt K104 b24_68 (me 0 rfl) B102 (n + 3) (ofNat_clamp (by omega)) (by simp [hv]) ⟨ofNat_nn (by omega), ofNat_ltI (n := 16) (by omega) (by decide)⟩ (fun T105 h105 K105 Q105 A105 => ?_)
  have P106 := P103.trans Q105 (fun z q => by cases List.mem_singleton.mp q; exact Or.inl (me 0 rfl))
  rw [dgt_nar, setA hv] at A105
  have B105 : Arv Z h105 t kb .byte 16 (vs ++ [(.int (0 : Int32)), (.int (0 : Int32)), (.int (0 : Int32)), (.int (dgt P 1)), (.int (dgt P 0))]) (.int 0) := A105
  refine gGoto K105 b24_69 ?_
  refine gIloadN K105 b24_22 (v := (-(Int32.ofNat (P / 100)))) rfl ?_
  refine gBipush K105 (-100 : Int32) b24_23 rfl ?_
  refine gIcmp_gt K105 b24_25 (fun q => absurd q (by rw [Int32.lt_iff_toInt_lt, show (-100 : Int32).toInt = -100 by decide, negc (P := (P / 100)) (by omega)]; omega)) (fun q25 => ?_)
  refine gIloadN K105 b24_28 (v := (-(Int32.ofNat (P / 100)))) rfl ?_
  refine gBipush K105 (100 : Int32) b24_29 rfl ?_
  refine gIdiv K105 b24_31 (by decide) ?_
  rw [show ((-(Int32.ofNat (P / 100))) / (100 : Int32)) = (-(Int32.ofNat ((P / 100) / 100))) from negdiv (by omega)]
  refine gIstoreN K105 b24_32 (Ls' := #[.val (.int (-(Int32.ofNat (P / 100)))), .val (.int (Int32.ofNat (n + 5))), .val (.ref t), .val (.int (-(Int32.ofNat ((P / 100) / 100)))), .val (.int (Int32.ofNat (P % 100))), .val (.int (Int32.ofNat (n + 3))), .val (.int (0 : Int32))]) rfl ?_
  refine gIloadN K105 b24_33 (v := (-(Int32.ofNat ((P / 100) / 100)))) rfl ?_
  refine gBipush K105 (100 : Int32) b24_34 rfl ?_
  refine gImul K105 b24_36 ?_
  refine gIloadN K105 b24_37 (v := (-(Int32.ofNat (P / 100)))) rfl ?_
  refine gIsub K105 b24_38 ?_
  rw [show (((-(Int32.ofNat ((P / 100) / 100))) * (100 : Int32)) - (-(Int32.ofNat (P / 100)))) = (Int32.ofNat ((P / 100) % 100)) from negrem (by omega)]
  refine gIstore K105 b24_39 (Ls' := #[.val (.int (-(Int32.ofNat (P / 100)))), .val (.int (Int32.ofNat (n + 5))), .val (.ref t), .val (.int (-(Int32.ofNat ((P / 100) / 100)))), .val (.int (Int32.ofNat ((P / 100) % 100))), .val (.int (Int32.ofNat (n + 3))), .val (.int (0 : Int32))]) rfl ?_
  refine gIloadN K105 b24_41 (v := (-(Int32.ofNat ((P / 100) / 100)))) rfl ?_
  refine gIstoreN K105 b24_42 (Ls' := #[.val (.int (-(Int32.ofNat ((P / 100) / 100)))), .val (.int (Int32.ofNat (n + 5))), .val (.ref t), .val (.int (-(Int32.ofNat ((P / 100) / 100)))), .val (.int (Int32.ofNat ((P / 100) % 100))), .val (.int (Int32.ofNat (n + 3))), .val (.int (0 : Int32))]) rfl ?_
  refine gAloadN K105 b24_43 (v := (.ref t)) rfl rfl ?_
  refine gIinc K105 (-1 : Int32) b24_44 rfl (x := (Int32.ofNat (n + 3))) rfl (Ls' := #[.val (.int (-(Int32.ofNat ((P / 100) / 100)))), .val (.int (Int32.ofNat (n + 5))), .val (.ref t), .val (.int (-(Int32.ofNat ((P / 100) / 100)))), .val (.int (Int32.ofNat ((P / 100) % 100))), .val (.int ((Int32.ofNat (n + 3)) + (-1 : Int32))), .val (.int (0 : Int32))]) rfl ?_
  rw [show ((Int32.ofNat (n + 3)) + (-1 : Int32)) = (Int32.ofNat (n + 2)) from decN (by omega)]
  refine gIload K105 b24_47 (v := (Int32.ofNat (n + 2))) rfl ?_
  refine gGetS K105 b24_49 (wd hw 148 rfl) (Sta.kp (Sta.kp So Q102 (nsS (Arv.nostat A0) ns0)) Q105 (nsS (Arv.nostat B102) ns0)) (fun T107 K107 => ?_)
  refine gIload K107 b24_52 (v := (Int32.ofNat ((P / 100) % 100))) rfl ?_
  refine gBaload K107 b24_54 ((Ao.keep Q102 (ninS hao nin0)).keep Q105 (ninS hao nin0)) ⟨ofNat_nn (by omega), ofNat_ltI (n := 100) (by omega) (by decide)⟩ (v := .int (dgt P 2)) (by rw [ofNat_clamp (by omega), ones_at (by omega)]; exact congrArg (fun q => Value.int (Int32.ofNat (48 + q))) (show ((P / 100) % 100) % 10 = P / 100 % 10 by omega)) ?_
  refine gBastoreAt K107 b24_55 (me 0 rfl) B105 (n + 2) (ofNat_clamp (by omega)) (by simp [hv]) ⟨ofNat_nn (by omega), ofNat_ltI (n := 16) (by omega) (by decide)⟩ (fun T108 h108 K108 Q108 A108 => ?_)
  have P109 := P106.trans Q108 (fun z q => by cases List.mem_singleton.mp q; exact Or.inl (me 0 rfl))
  rw [dgt_nar, setA hv] at A108
  have B108 : Arv Z h108 t kb .byte 16 (vs ++ [(.int (0 : Int32)), (.int (0 : Int32)), (.int (dgt P 2)), (.int (dgt P 1)), (.int (dgt P 0))]) (.int 0) := A108
  refine gAloadN K108 b24_56 (v := (.ref t)) rfl rfl ?_
  refine gIinc K108 (-1 : Int32) b24_57 rfl (x := (Int32.ofNat (n + 2))) rfl (Ls' := #[.val (.int (-(Int32.ofNat ((P / 100) / 100)))), .val (.int (Int32.ofNat (n + 5))), .val (.ref t), .val (.int (-(Int32.ofNat ((P / 100) / 100)))), .val (.int (Int32.ofNat ((P / 100) % 100))), .val (.int ((Int32.ofNat (n + 2)) + (-1 : Int32))), .val (.int (0 : Int32))]) rfl ?_
  rw [show ((Int32.ofNat (n + 2)) + (-1 : Int32)) = (Int32.ofNat (n + 1)) from decN (by omega)]
  refine gIload K108 b24_60 (v := (Int32.ofNat (n + 1))) rfl ?_
  refine gGetS K108 b24_62 (wd hw 217 rfl) (Sta.kp (Sta.kp (Sta.kp St_ Q102 (nsS (Arv.nostat A0) ns0)) Q105 (nsS (Arv.nostat B102) ns0)) Q108 (nsS (Arv.nostat B105) ns0)) (fun T110 K110 => ?_)
  refine gIload K110 b24_65 (v := (Int32.ofNat ((P / 100) % 100))) rfl ?_
  refine gBaload K110 b24_67 (((At_.keep Q102 (ninS hat nin0)).keep Q105 (ninS hat nin0)).keep Q108 (ninS hat nin0)) ⟨ofNat_nn (by omega), ofNat_ltI (n := 100) (by omega) (by decide)⟩ (v := .int (dgt P 3)) (by rw [ofNat_clamp (by omega), tens_at (by omega)]; exact congrArg (fun q => Value.int (Int32.ofNat (48 + q))) (show ((P / 100) % 100) / 10 = P / 1000 % 10 by omega)) ?_
  refine gBastoreAt K110 b24_68 (me 0 rfl) B108 (n + 1) (ofNat_clamp (by omega)) (by simp [hv]) ⟨ofNat_nn (by omega), ofNat_ltI (n := 16) (by omega) (by decide)⟩ (fun T111 h111 K111 Q111 A111 => ?_)
  have P112 := P109.trans Q111 (fun z q => by cases List.mem_singleton.mp q; exact Or.inl (me 0 rfl))
  rw [dgt_nar, setA hv] at A111
  have B111 : Arv Z h111 t kb .byte 16 (vs ++ [(.int (0 : Int32)), (.int (dgt P 3)), (.int (dgt P 2)), (.int (dgt P 1)), (.int (dgt P 0))]) (.int 0) := A111
  refine gGoto K111 b24_69 ?_
  refine gIloadN K111 b24_22 (v := (-(Int32.ofNat ((P / 100) / 100)))) rfl ?_
  refine gBipush K111 (-100 : Int32) b24_23 rfl ?_
  refine gIcmp_gt K111 b24_25 (fun q25 => ?_) (fun q => absurd q (not_not_intro (by rw [Int32.lt_iff_toInt_lt, show (-100 : Int32).toInt = -100 by decide, negc (P := ((P / 100) / 100)) (by omega)]; omega)))
  refine gAloadN K111 b24_72 (v := (.ref t)) rfl rfl ?_
  refine gIinc K111 (-1 : Int32) b24_73 rfl (x := (Int32.ofNat (n + 1))) rfl (Ls' := #[.val (.int (-(Int32.ofNat ((P / 100) / 100)))), .val (.int (Int32.ofNat (n + 5))), .val (.ref t), .val (.int (-(Int32.ofNat ((P / 100) / 100)))), .val (.int (Int32.ofNat ((P / 100) % 100))), .val (.int ((Int32.ofNat (n + 1)) + (-1 : Int32))), .val (.int (0 : Int32))]) rfl ?_
  rw [show ((Int32.ofNat (n + 1)) + (-1 : Int32)) = (Int32.ofNat (n + 0)) from decN (by omega)]
  refine gIload K111 b24_76 (v := (Int32.ofNat (n + 0))) rfl ?_
  refine gGetS K111 b24_78 (wd hw 148 rfl) (Sta.kp (Sta.kp (Sta.kp (Sta.kp So Q102 (nsS (Arv.nostat A0) ns0)) Q105 (nsS (Arv.nostat B102) ns0)) Q108 (nsS (Arv.nostat B105) ns0)) Q111 (nsS (Arv.nostat B108) ns0)) (fun T113 K113 => ?_)
  refine gIloadN K113 b24_81 (v := (-(Int32.ofNat ((P / 100) / 100)))) rfl ?_
  refine gIneg K113 b24_82 ?_
  rw [show (-(-(Int32.ofNat ((P / 100) / 100)))) = (Int32.ofNat ((P / 100) / 100)) from Int32.neg_neg]
  refine gBaload K113 b24_83 ((((Ao.keep Q102 (ninS hao nin0)).keep Q105 (ninS hao nin0)).keep Q108 (ninS hao nin0)).keep Q111 (ninS hao nin0)) ⟨ofNat_nn (by omega), ofNat_ltI (n := 100) (by omega) (by decide)⟩ (v := .int (dgt P 4)) (by rw [ofNat_clamp (by omega), ones_at (by omega)]; exact congrArg (fun q => Value.int (Int32.ofNat (48 + q))) (show ((P / 100) / 100) % 10 = P / 10000 % 10 by omega)) ?_
  refine gBastoreAt K113 b24_84 (me 0 rfl) B111 (n + 0) (ofNat_clamp (by omega)) (by simp [hv]) ⟨ofNat_nn (by omega), ofNat_ltI (n := 16) (by omega) (by decide)⟩ (fun T114 h114 K114 Q114 A114 => ?_)
  have P115 := P112.trans Q114 (fun z q => by cases List.mem_singleton.mp q; exact Or.inl (me 0 rfl))
  rw [dgt_nar, setA hv] at A114
  have B114 : Arv Z h114 t kb .byte 16 (vs ++ [(.int (dgt P 4)), (.int (dgt P 3)), (.int (dgt P 2)), (.int (dgt P 1)), (.int (dgt P 0))]) (.int 0) := A114
  refine gIloadN K114 b24_85 (v := (-(Int32.ofNat ((P / 100) / 100)))) rfl ?_
  refine gBipush K114 (-9 : Int32) b24_86 rfl ?_
  refine gIcmp_ge K114 b24_88 (fun q88 => ?_) (fun q => absurd q (by rw [Int32.lt_iff_toInt_lt, negc (P := ((P / 100) / 100)) (by omega), show (-9 : Int32).toInt = -9 by decide]; omega))
  refine gIload K114 b24_104 (v := (0 : Int32)) rfl ?_
  refine gIf_eq K114 b24_106 (fun q106 => ?_) (fun q => absurd q (by first | decide | (intro hh; cases hh) | simp))
  refine gIload K114 b24_118 (v := (Int32.ofNat (n + 0))) rfl ?_
  refine gRetI K114 hlk hret (by simp) b24_120 rfl P115 (by decide) (by decide) ?_
  exact ⟨_, rfl, B114⟩
theorem c_gc (l : Launch) (Z : State) (a0 : Array Value) (hw : ∀ d ∈ tables_1, d.before a0 Z = true) (h0 : Heap) (n0 : Nat) (Z0 : n0 ≤ h0.size) (P : Nat) (hP : P ≤ 65535) (t : Addr) (kb : ClassId) (vs : List Value) (n : Nat) (gt : n0 ≤ t) (At : Arv Z h0 t kb .byte 16 vs (.int 0)) (hv : vs.length = n) (hn : n + 5 ≤ 16) (ao at_ : Addr) (ko kt : ClassId) (So : Sta Z h0 "java/lang/Integer" "DigitOnes" "[B" (.ref ao)) (St_ : Sta Z h0 "java/lang/Integer" "DigitTens" "[B" (.ref at_)) (Ao : Arv Z h0 ao ko .byte 100 onesL (.int 0)) (At_ : Arv Z h0 at_ kt .byte 100 tensL (.int 0)) (hao : ao ≠ t) (hat : at_ ≠ t)  :
    Con none l (⟨"java/lang/Integer", "getChars", "(II[B)I"⟩ : MethodName) jdk_33_method_12_code 7 (some .int) [] ({ frames := 0, cells := 0, slots := 0, locals := 0 } : Room) Z n0 h0 [t] #[(.int (Int32.ofNat P)), (.int (Int32.ofNat (n + nd P))), (.ref t)] (fun v h => ∃ r : Int32, v = some (.int r) ∧ Arv Z h t kb .byte 16 (vs ++ (digsN P (nd P)).map Value.int) (.int 0)) := by
  by_cases hd1 : P < 10
  · rw [nd1 hd1]; exact c_gc1 l Z a0 hw h0 n0 Z0 P (by omega) (by omega) hP t kb vs n gt At hv (by omega) ao at_ ko kt So St_ Ao At_ hao hat
  by_cases hd2 : P < 100
  · rw [nd2 hd1 hd2]; exact c_gc2 l Z a0 hw h0 n0 Z0 P (by omega) (by omega) hP t kb vs n gt At hv (by omega) ao at_ ko kt So St_ Ao At_ hao hat
  by_cases hd3 : P < 1000
  · rw [nd3 hd1 hd2 hd3]; exact c_gc3 l Z a0 hw h0 n0 Z0 P (by omega) (by omega) hP t kb vs n gt At hv (by omega) ao at_ ko kt So St_ Ao At_ hao hat
  by_cases hd4 : P < 10000
  · rw [nd4 hd1 hd2 hd3 hd4]; exact c_gc4 l Z a0 hw h0 n0 Z0 P (by omega) (by omega) hP t kb vs n gt At hv (by omega) ao at_ ko kt So St_ Ao At_ hao hat
  rw [nd5 hd1 hd2 hd3 hd4]; exact c_gc5 l Z a0 hw h0 n0 Z0 P (by omega) (by omega) hP t kb vs n gt At hv (by omega) ao at_ ko kt So St_ Ao At_ hao hat

set_option maxRecDepth 65536 in
set_option maxHeartbeats 40000000 in
theorem c_abN (l : Launch) (Z : State) (a0 : Array Value) (hw : ∀ d ∈ tables_1, d.before a0 Z = true) (h0 : Heap) (n0 : Nat) (Z0 : n0 ≤ h0.size) (x t : Addr) (kb : ClassId) (vs : List Value) (n : Nat) (Ex : Exa Z h0 x "java/lang/StringBuilder") (F1 : Fld Z h0 x "java/lang/AbstractStringBuilder" "value" "[B" (.ref t)) (F2 : Fld Z h0 x "java/lang/AbstractStringBuilder" "coder" "B" (.int 0)) (F3 : Fld Z h0 x "java/lang/AbstractStringBuilder" "count" "I" (.int (Int32.ofNat n))) (At : Arv Z h0 t kb .byte 16 vs (.int 0)) (hv : vs.length = n) (gx : n0 ≤ x) (gt : n0 ≤ t) (hxt : x ≠ t) (P : Nat) (hP : P ≤ 65535) (hn : n + 5 ≤ 16) (ao at_ : Addr) (ko kt : ClassId) (So : Sta Z h0 "java/lang/Integer" "DigitOnes" "[B" (.ref ao)) (St_ : Sta Z h0 "java/lang/Integer" "DigitTens" "[B" (.ref at_)) (Ao : Arv Z h0 ao ko .byte 100 onesL (.int 0)) (At_ : Arv Z h0 at_ kt .byte 100 tensL (.int 0)) (hao : ao ≠ t) (hat : at_ ≠ t) (z : Int32) (Sc : Sta Z h0 "java/lang/String" "COMPACT_STRINGS" "Z" (.int z)) (hz : ¬ z = 0) :
    Con none l (⟨"java/lang/AbstractStringBuilder", "append", "(I)Ljava/lang/AbstractStringBuilder;"⟩ : MethodName) jdk_68_method_32_code 4 (some (.object "java/lang/AbstractStringBuilder")) [] ({ frames := 1, cells := 0, slots := 0, locals := 32 } : Room) Z n0 h0 [x, t] #[(.ref x), (.int (Int32.ofNat P))] (fun v h => v = some (.ref x) ∧ Exa Z h x "java/lang/StringBuilder" ∧ Fld Z h x "java/lang/AbstractStringBuilder" "value" "[B" (.ref t) ∧ Fld Z h x "java/lang/AbstractStringBuilder" "coder" "B" (.int 0) ∧ Fld Z h x "java/lang/AbstractStringBuilder" "count" "I" (.int (Int32.ofNat (n + nd P))) ∧ Arv Z h t kb .byte 16 (vs ++ (digsN P (nd P)).map Value.int) (.int 0)) := by
  refine Con.intro pn3 Z0 (allS ⟨gx, Ex.lt⟩ (allS ⟨gt, At.lt⟩ all0)) trivial #[.val (.ref x), .val (.int (Int32.ofNat P)), .unset, .unset] (fun m => by first | (simp [entryFrame, mkF, argsToLocals, Value.category]; done) | rfl) ?_
  intro p e s m below meth c T0 hlk hret hnm K0
  have P0 := Keep.refl h0 [x, t]
  have hnd := nd_bd P
  refine gAloadN K0 b21_0 (v := (.ref x)) rfl rfl ?_
  refine gGet K0 b21_1 (wd hw 99 rfl) F3 (fun T101 K101 => ?_)
  refine gIstoreN K101 b21_4 (Ls' := #[.val (.ref x), .val (.int (Int32.ofNat P)), .val (.int (Int32.ofNat n)), .unset]) rfl ?_
  refine gIloadN K101 b21_5 (v := (Int32.ofNat n)) rfl ?_
  refine gIloadN K101 b21_6 (v := (Int32.ofNat P)) rfl ?_
  refine gCallS K101 (W := 1) [(.int (Int32.ofNat P))] [(.int (Int32.ofNat n))] b21_7 (wd hw 136 rfl) (wd hw 137 rfl) (wd hw 138 rfl) (wd hw 139 rfl) (Cal.ofN (W := 1) (c_ssz l Z a0 hw h0 n0 K101.n0le P hP) (wd hw 139 rfl) (wd hw 138 rfl) (by decide) (by decide)) (fun _ q => nomatch q) pd10 rfl rfl (Nat.le_of_eq rfl) rfl (by decide) (by decide) (by decide) (fun v102 T102 h102 K102 Q102 q102 => ?_)
  have E102 := Ext.of0 Q102
  have P103 := P0.ext E102
  cases q102
  refine gIadd K102 b21_10 ?_
  rw [show ((Int32.ofNat n) + (Int32.ofNat (nd P))) = (Int32.ofNat (n + nd P)) from ofNat_add (by omega)]
  refine gIstoreN K102 b21_11 (Ls' := #[.val (.ref x), .val (.int (Int32.ofNat P)), .val (.int (Int32.ofNat n)), .val (.int (Int32.ofNat (n + nd P)))]) rfl ?_
  refine gAloadN K102 b21_12 (v := (.ref x)) rfl rfl ?_
  refine gIloadN K102 b21_13 (v := (Int32.ofNat (n + nd P))) rfl ?_
  refine gCallVS K102 (W := 0) (C := "java/lang/StringBuilder") x [(.int (Int32.ofNat (n + nd P)))] [] b21_14 (wd hw 101 rfl) (decl_of (wd hw 102 rfl) (wd hw 105 rfl)) (wd hw 104 rfl) (wd hw 102 rfl) (wd hw 104 rfl) rfl (Cal.ofN (W := 0) (c_eci l Z a0 hw h102 n0 K102.n0le x t kb vs n (Ex.ext E102) (F1.ext E102) (F2.ext E102) (F3.ext E102) (At.ext E102) hv (n + nd P) (by omega) z (Sc.ext E102) hz) (wd hw 105 rfl) (wd hw 71 rfl) (by decide) (by decide)) (Ex.ext E102) (fun _ q => nomatch q) pd4 rfl rfl (Nat.le_of_eq rfl) rfl (by decide) (by decide) (by decide) (fun v104 T104 h104 K104 Q104 q104 => ?_)
  have E104 := Ext.of0 Q104
  have P105 := P103.ext E104
  cases q104
  refine gAloadN K104 b21_17 (v := (.ref x)) rfl rfl ?_
  refine gCallVS K104 (W := 0) (C := "java/lang/StringBuilder") x [] [] b21_18 (wd hw 140 rfl) (wd hw 141 rfl) (wd hw 143 rfl) (wd hw 142 rfl) (wd hw 143 rfl) rfl (Cal.ofN (W := 0) (c_isLA l Z a0 hw h104 n0 K104.n0le x (F2.ext (Ext.tr E102 E104)) z (Sc.ext (Ext.tr E102 E104)) hz) (wd hw 144 rfl) (wd hw 71 rfl) (by decide) (by decide)) (Ex.ext (Ext.tr E102 E104)) (fun _ q => nomatch q) pd11 rfl rfl (Nat.le_of_eq rfl) rfl (by decide) (by decide) (by decide) (fun v106 T106 h106 K106 Q106 q106 => ?_)
  have E106 := Ext.of0 Q106
  have P107 := P105.ext E106
  cases q106
  refine gIf_eq K106 b21_21 (fun q => absurd q (by first | decide | (intro hh; cases hh) | simp)) (fun q21 => ?_)
  refine gIloadN K106 b21_24 (v := (Int32.ofNat P)) rfl ?_
  refine gIloadN K106 b21_25 (v := (Int32.ofNat (n + nd P))) rfl ?_
  refine gAloadN K106 b21_26 (v := (.ref x)) rfl rfl ?_
  refine gGet K106 b21_27 (wd hw 75 rfl) (F1.ext (Ext.tr (Ext.tr E102 E104) E106)) (fun T108 K108 => ?_)
  refine gCallS K108 (W := 0) [(.int (Int32.ofNat P)), (.int (Int32.ofNat (n + nd P))), (.ref t)] [] b21_30 (wd hw 145 rfl) (wd hw 146 rfl) (wd hw 138 rfl) (wd hw 147 rfl) (Cal.ofN (W := 0) (c_gc l Z a0 hw h106 n0 K108.n0le P hP t kb vs n gt (At.ext (Ext.tr (Ext.tr E102 E104) E106)) hv hn ao at_ ko kt (So.ext (Ext.tr (Ext.tr E102 E104) E106)) (St_.ext (Ext.tr (Ext.tr E102 E104) E106)) (Ao.ext (Ext.tr (Ext.tr E102 E104) E106)) (At_.ext (Ext.tr (Ext.tr E102 E104) E106)) hao hat) (wd hw 147 rfl) (wd hw 138 rfl) (by decide) (by decide)) (fun z q => by cases List.mem_singleton.mp q; exact (me 1 rfl)) pd12 rfl rfl (Nat.le_of_eq rfl) rfl (by decide) (by decide) (by decide) (fun v109 T109 h109 K109 Q109 q109 => ?_)
  have P110 := P107.trans Q109 (fun z q => by cases List.mem_singleton.mp q; exact Or.inl (me 1 rfl))
  obtain ⟨r109, rfl, A109⟩ := q109
  refine gPop K109 b21_33 rfl ?_
  refine gGoto K109 b21_34 ?_
  refine gAloadN K109 b21_48 (v := (.ref x)) rfl rfl ?_
  refine gIloadN K109 b21_49 (v := (Int32.ofNat (n + nd P))) rfl ?_
  refine gPut K109 b21_50 (wd hw 99 rfl) (me 0 rfl) ((F3.ext (Ext.tr (Ext.tr E102 E104) E106)).keep Q109 (ninS hxt nin0)) ((Ex.ext (Ext.tr (Ext.tr E102 E104) E106)).keep Q109) (Or.inl (wd hw 100 rfl)) (wd hw 62 rfl) (ty := .int) (by decide) rfl rfl (fun T111 h111 K111 W111 F111 => ?_)
  have P112 := P110.trans (Keep.of_wr W111) (fun z q => by cases List.mem_singleton.mp q; exact Or.inl (me 0 rfl))
  have F113 := Fld.other W111 ((F1.ext (Ext.tr (Ext.tr E102 E104) E106)).keep Q109 (ninS hxt nin0)) (Or.inr (slot_ne (C := "java/lang/StringBuilder") (a0 := a0) (Or.inl (wd hw 76 rfl)) (Or.inl (wd hw 100 rfl)) (by decide) (by decide : parseFieldDescriptor _ = some (.array .byte)) (by decide : parseFieldDescriptor _ = some .int)))
  have F114 := Fld.other W111 ((F2.ext (Ext.tr (Ext.tr E102 E104) E106)).keep Q109 (ninS hxt nin0)) (Or.inr (slot_ne (C := "java/lang/StringBuilder") (a0 := a0) (Or.inl (wd hw 78 rfl)) (Or.inl (wd hw 100 rfl)) (by decide) (by decide : parseFieldDescriptor _ = some .byte) (by decide : parseFieldDescriptor _ = some .int)))
  have A115 := Exa.wr W111 ((Ex.ext (Ext.tr (Ext.tr E102 E104) E106)).keep Q109)
  refine gAloadN K111 b21_53 (v := (.ref x)) rfl rfl ?_
  refine gRetA K111 hlk hret rfl rfl b21_54 P112 (by decide) (by decide) ?_
  exact ⟨rfl, A115, F113, F114, F111, (A109.keep (Keep.of_wr W111) (ninS hxt.symm nin0))⟩
set_option maxRecDepth 65536 in
set_option maxHeartbeats 40000000 in
theorem c_sbN (l : Launch) (Z : State) (a0 : Array Value) (hw : ∀ d ∈ tables_1, d.before a0 Z = true) (h0 : Heap) (n0 : Nat) (Z0 : n0 ≤ h0.size) (x t : Addr) (kb : ClassId) (vs : List Value) (n : Nat) (Ex : Exa Z h0 x "java/lang/StringBuilder") (F1 : Fld Z h0 x "java/lang/AbstractStringBuilder" "value" "[B" (.ref t)) (F2 : Fld Z h0 x "java/lang/AbstractStringBuilder" "coder" "B" (.int 0)) (F3 : Fld Z h0 x "java/lang/AbstractStringBuilder" "count" "I" (.int (Int32.ofNat n))) (At : Arv Z h0 t kb .byte 16 vs (.int 0)) (hv : vs.length = n) (gx : n0 ≤ x) (gt : n0 ≤ t) (hxt : x ≠ t) (P : Nat) (hP : P ≤ 65535) (hn : n + 5 ≤ 16) (ao at_ : Addr) (ko kt : ClassId) (So : Sta Z h0 "java/lang/Integer" "DigitOnes" "[B" (.ref ao)) (St_ : Sta Z h0 "java/lang/Integer" "DigitTens" "[B" (.ref at_)) (Ao : Arv Z h0 ao ko .byte 100 onesL (.int 0)) (At_ : Arv Z h0 at_ kt .byte 100 tensL (.int 0)) (hao : ao ≠ t) (hat : at_ ≠ t) (z : Int32) (Sc : Sta Z h0 "java/lang/String" "COMPACT_STRINGS" "Z" (.int z)) (hz : ¬ z = 0) :
    Con none l (⟨"java/lang/StringBuilder", "append", "(I)Ljava/lang/StringBuilder;"⟩ : MethodName) jdk_67_method_15_code 2 (some (.object "java/lang/StringBuilder")) [] ({ frames := 2, cells := 0, slots := 0, locals := 48 } : Room) Z n0 h0 [x, t] #[(.ref x), (.int (Int32.ofNat P))] (fun v h => v = some (.ref x) ∧ Exa Z h x "java/lang/StringBuilder" ∧ Fld Z h x "java/lang/AbstractStringBuilder" "value" "[B" (.ref t) ∧ Fld Z h x "java/lang/AbstractStringBuilder" "coder" "B" (.int 0) ∧ Fld Z h x "java/lang/AbstractStringBuilder" "count" "I" (.int (Int32.ofNat (n + nd P))) ∧ Arv Z h t kb .byte 16 (vs ++ (digsN P (nd P)).map Value.int) (.int 0)) := by
  refine Con.intro pn4 Z0 (allS ⟨gx, Ex.lt⟩ (allS ⟨gt, At.lt⟩ all0)) trivial #[.val (.ref x), .val (.int (Int32.ofNat P))] (fun m => by first | (simp [entryFrame, mkF, argsToLocals, Value.category]; done) | rfl) ?_
  intro p e s m below meth c T0 hlk hret hnm K0
  have P0 := Keep.refl h0 [x, t]
  refine gAloadN K0 b20_0 (v := (.ref x)) rfl rfl ?_
  refine gIloadN K0 b20_1 (v := (Int32.ofNat P)) rfl ?_
  refine gCallU K0 (W := 0) (C := "java/lang/StringBuilder") x [(.int (Int32.ofNat P))] [] b20_2 (by decide) (wd hw 132 rfl) (same_of (wd hw 133 rfl) (wd hw 164 rfl) rfl (by decide)) (wd hw 133 rfl) (wd hw 86 rfl) (wd hw 135 rfl) (Cal.ofN (W := 0) (c_abN l Z a0 hw h0 n0 K0.n0le x t kb vs n Ex F1 F2 F3 At hv gx gt hxt P hP hn ao at_ ko kt So St_ Ao At_ hao hat z Sc hz) (wd hw 135 rfl) (wd hw 71 rfl) (by decide) (by decide)) Ex (allS (me 0 rfl) (allS (me 1 rfl) all0)) pd13 rfl rfl (Nat.le_of_eq rfl) rfl (by decide) (by decide) (fun v101 T101 h101 K101 Q101 q101 => ?_)
  have P102 := P0.trans Q101 (allS (Or.inl (me 0 rfl)) (allS (Or.inl (me 1 rfl)) all0))
  obtain ⟨rfl, R101⟩ := q101
  refine gPop K101 b20_5 rfl ?_
  refine gAloadN K101 b20_6 (v := (.ref x)) rfl rfl ?_
  refine gRetA K101 hlk hret rfl rfl b20_7 P102 (by decide) (by decide) ?_
  exact ⟨rfl, R101⟩
set_option maxRecDepth 65536 in
set_option maxHeartbeats 40000000 in
theorem c_ckl (l : Launch) (Z : State) (a0 : Array Value) (hw : ∀ d ∈ tables_1, d.before a0 Z = true) (h0 : Heap) (n0 : Nat) (Z0 : n0 ≤ h0.size) (T : Nat) (hT : T < 16) :
    Con none l (⟨"java/util/Arrays", "checkLength", "(II)V"⟩ : MethodName) jdk_65_method_131_code 2 none [] ({ frames := 0, cells := 0, slots := 0, locals := 0 } : Room) Z n0 h0 [] #[(.int (0 : Int32)), (.int (Int32.ofNat T))] (fun v h => v = none) := by
  refine Con.intro pn7 Z0 (fun _ q => nomatch q) trivial #[.val (.int (0 : Int32)), .val (.int (Int32.ofNat T))] (fun m => by first | (simp [entryFrame, mkF, argsToLocals, Value.category]; done) | rfl) ?_
  intro p e s m below meth c T0 hlk hret hnm K0
  have P0 := Keep.refl h0 []
  refine gIloadN K0 b33_0 (v := (Int32.ofNat T)) rfl ?_
  refine gIloadN K0 b33_1 (v := (0 : Int32)) rfl ?_
  refine gIcmp_ge K0 b33_2 (fun q2 => ?_) (fun q => absurd q (ofNat_nn (by omega)))
  refine gRetV K0 hlk hret b33_37 P0 (by decide) (by decide) ?_
  exact rfl
set_option maxRecDepth 65536 in
set_option maxHeartbeats 40000000 in
theorem c_min (l : Launch) (Z : State) (a0 : Array Value) (hw : ∀ d ∈ tables_1, d.before a0 Z = true) (h0 : Heap) (n0 : Nat) (Z0 : n0 ≤ h0.size) (T : Nat) (hT : T < 16) :
    Con none l (⟨"java/lang/Math", "min", "(II)I"⟩ : MethodName) jdk_29_method_69_code 2 (some .int) [] ({ frames := 0, cells := 0, slots := 0, locals := 0 } : Room) Z n0 h0 [] #[(.int (16 : Int32)), (.int (Int32.ofNat T))] (fun v h => v = some (.int (Int32.ofNat T))) := by
  refine Con.introF (by decide +kernel) Z0 (fun _ q => nomatch q) trivial #[.val (.int (16 : Int32)), .val (.int (Int32.ofNat T))] (fun m => by first | (simp [entryFrame, mkF, argsToLocals, Value.category]; done) | rfl) ?_
  intro p e s m below meth c T0 hlk hret hnm K0
  have P0 := Keep.refl h0 []
  refine gIloadN K0 b34_0 (v := (16 : Int32)) rfl ?_
  refine gIloadN K0 b34_1 (v := (Int32.ofNat T)) rfl ?_
  refine gIcmp_gt K0 b34_2 (fun q2 => ?_) (fun q => absurd q (not_not_intro (ofNat_ltI (n := 16) hT (by decide))))
  refine gIloadN K0 b34_9 (v := (Int32.ofNat T)) rfl ?_
  refine gRetI K0 hlk hret (by simp) b34_10 rfl P0 (by decide) (by decide) ?_
  exact rfl
set_option maxRecDepth 65536 in
set_option maxHeartbeats 40000000 in
theorem c_corB (l : Launch) (Z : State) (a0 : Array Value) (hw : ∀ d ∈ tables_1, d.before a0 Z = true) (h0 : Heap) (n0 : Nat) (Z0 : n0 ≤ h0.size) (bb : Addr) (kA : ClassId) (vs : List Value) (T : Nat) (hT : T < 16) (Ab : Arv Z h0 bb kA .byte 16 vs (.int 0)) (hv : vs.length = T) :
    Con none l (⟨"java/util/Arrays", "copyOfRangeByte", "([BII)[B"⟩ : MethodName) jdk_65_method_133_code 5 (some (.array .byte)) [] ({ frames := 1, cells := 1, slots := 16, locals := 40 } : Room) Z n0 h0 [] #[(.ref bb), (.int (0 : Int32)), (.int (Int32.ofNat T))] (fun v h => ∃ (b : Addr) (kA : ClassId), v = some (.ref b) ∧ h0.size ≤ b ∧ Arv Z h b kA .byte (Int32.ofNat T) vs (.int 0)) := by
  refine Con.intro pn7 Z0 (fun _ q => nomatch q) trivial #[.val (.ref bb), .val (.int (0 : Int32)), .val (.int (Int32.ofNat T)), .unset, .unset] (fun m => by first | (simp [entryFrame, mkF, argsToLocals, Value.category]; done) | rfl) ?_
  intro p e s m below meth c T0 hlk hret hnm K0
  have P0 := Keep.refl h0 []
  have eT : (Int32.ofNat T).toNatClampNeg = T := ofNat_clamp (by omega)
  have e0 : (0 : Int32).toNatClampNeg = 0 := by decide
  have e16 : (16 : Int32).toNatClampNeg = 16 := by decide
  refine gIloadN K0 b32_0 (v := (0 : Int32)) rfl ?_
  refine gIloadN K0 b32_1 (v := (Int32.ofNat T)) rfl ?_
  refine gCallS K0 (W := 0) [(.int (0 : Int32)), (.int (Int32.ofNat T))] [] b32_2 (wd hw 182 rfl) (wd hw 183 rfl) (wd hw 177 rfl) (wd hw 184 rfl) (Cal.ofN (W := 0) (c_ckl l Z a0 hw h0 n0 K0.n0le T hT) (wd hw 184 rfl) (wd hw 177 rfl) (by decide) (by decide)) (fun _ q => nomatch q) pd14 rfl rfl (Nat.le_of_eq rfl) rfl (by decide) (by decide) (by decide) (fun v101 T101 h101 K101 Q101 q101 => ?_)
  have E101 := Ext.of0 Q101
  have P102 := P0.ext E101
  cases q101
  refine gIloadN K101 b32_5 (v := (Int32.ofNat T)) rfl ?_
  refine gIloadN K101 b32_6 (v := (0 : Int32)) rfl ?_
  refine gIsub K101 b32_7 ?_
  rw [show ((Int32.ofNat T) - (0 : Int32)) = Int32.ofNat T from Int32.sub_zero _]
  refine gIstoreN K101 b32_8 (Ls' := #[.val (.ref bb), .val (.int (0 : Int32)), .val (.int (Int32.ofNat T)), .val (.int (Int32.ofNat T)), .unset]) rfl ?_
  refine gIloadN K101 b32_9 (v := (Int32.ofNat T)) rfl ?_
  refine gNewarr K101 b32_10 (wd hw 19 rfl) (ofNat_nn (by omega)) 16 (by rw [eT]; omega) (by decide) (by decide) (by decide) (fun T103 h103 x103 kA103 K103 E103 g103 A103 ne103 => ?_)
  have P104 := P102.ext E103
  have ge_x103 : h0.size ≤ x103 := by rw [g103]; exact P102.1
  refine gAstore K103 b32_12 rfl (Ls' := #[.val (.ref bb), .val (.int (0 : Int32)), .val (.int (Int32.ofNat T)), .val (.int (Int32.ofNat T)), .val (.ref x103)]) rfl ?_
  refine gAloadN K103 b32_14 (v := (.ref bb)) rfl rfl ?_
  refine gIloadN K103 b32_15 (v := (0 : Int32)) rfl ?_
  refine gAload K103 b32_16 (v := (.ref x103)) rfl rfl ?_
  refine gIconst K103 (0 : Int32) b32_18 rfl ?_
  refine gAloadN K103 b32_19 (v := (.ref bb)) rfl rfl ?_
  refine gLen K103 b32_20 (Ab.ext (Ext.tr E101 E103)) ?_
  refine gIloadN K103 b32_21 (v := (0 : Int32)) rfl ?_
  refine gIsubV K103 (16 : Int32) b32_22 (by decide) ?_
  refine gIloadN K103 b32_23 (v := (Int32.ofNat T)) rfl ?_
  refine gCallS K103 (W := 4) [(.int (16 : Int32)), (.int (Int32.ofNat T))] [(.int (0 : Int32)), (.ref x103), (.int (0 : Int32)), (.ref bb)] b32_24 (wd hw 185 rfl) (wd hw 186 rfl) (wd hw 187 rfl) (wd hw 188 rfl) (Cal.ofN (W := 4) (c_min l Z a0 hw h103 n0 K103.n0le T hT) (wd hw 188 rfl) (wd hw 187 rfl) (by decide) (by decide)) (fun _ q => nomatch q) pd15 rfl rfl (Nat.le_of_eq rfl) rfl (by decide) (by decide) (by decide) (fun v105 T105 h105 K105 Q105 q105 => ?_)
  have E105 := Ext.of0 Q105
  have P106 := P104.ext E105
  cases q105
  refine gCopy K105 b32_27 (wd hw 189 rfl) (wd hw 125 rfl) (wd hw 123 rfl) (wd hw 124 rfl) (me 0 rfl) (Ab.ext (Ext.tr (Ext.tr E101 E103) E105)) (Arv.pad (A103.ext E105) (pad_rep [] (.int 0) T)) (by decide) (by decide) (ofNat_nn (by omega)) (by rw [eT, e0, e16]; omega) (by rw [eT, e0]; omega) (us := vs) (by rw [eT, e0]; exact us_of hv _) (by rw [eT, e0]; simp) rfl (by decide) (W := 0) (Nat.le_of_eq rfl) (by decide) (fun T107 h107 K107 Q107 A107 => ?_)
  have P108 := P106.trans Q107 (fun z q => by cases List.mem_singleton.mp q; exact Or.inr ge_x103)
  rw [eT, e0, cpA2 (vs := []) (n := 0) rfl hv] at A107
  refine gAload K107 b32_30 (v := (.ref x103)) rfl rfl ?_
  refine gRetA K107 hlk hret rfl rfl b32_32 P108 (by decide) (by decide) ?_
  exact ⟨_, _, rfl, ge_x103, A107⟩
set_option maxRecDepth 65536 in
set_option maxHeartbeats 40000000 in
theorem c_cor (l : Launch) (Z : State) (a0 : Array Value) (hw : ∀ d ∈ tables_1, d.before a0 Z = true) (h0 : Heap) (n0 : Nat) (Z0 : n0 ≤ h0.size) (bb : Addr) (kA : ClassId) (vs : List Value) (T : Nat) (hT : T < 16) (Ab : Arv Z h0 bb kA .byte 16 vs (.int 0)) (hv : vs.length = T) :
    Con none l (⟨"java/util/Arrays", "copyOfRange", "([BII)[B"⟩ : MethodName) jdk_65_method_132_code 3 (some (.array .byte)) [] ({ frames := 2, cells := 1, slots := 16, locals := 56 } : Room) Z n0 h0 [] #[(.ref bb), (.int (0 : Int32)), (.int (Int32.ofNat T))] (fun v h => ∃ (b : Addr) (kA : ClassId), v = some (.ref b) ∧ h0.size ≤ b ∧ Arv Z h b kA .byte (Int32.ofNat T) vs (.int 0)) := by
  refine Con.intro pn7 Z0 (fun _ q => nomatch q) trivial #[.val (.ref bb), .val (.int (0 : Int32)), .val (.int (Int32.ofNat T))] (fun m => by first | (simp [entryFrame, mkF, argsToLocals, Value.category]; done) | rfl) ?_
  intro p e s m below meth c T0 hlk hret hnm K0
  have P0 := Keep.refl h0 []
  refine gIloadN K0 b31_0 (v := (0 : Int32)) rfl ?_
  refine gIf_ne K0 b31_1 (fun q => absurd q (by first | decide | (intro hh; cases hh) | simp)) (fun q1 => ?_)
  refine gIloadN K0 b31_4 (v := (Int32.ofNat T)) rfl ?_
  refine gAloadN K0 b31_5 (v := (.ref bb)) rfl rfl ?_
  refine gLen K0 b31_6 Ab ?_
  refine gIcmp_eq K0 b31_7 (fun q => absurd q (ofNat_ne (n := 16) hT (by decide))) (fun q7 => ?_)
  refine gAloadN K0 b31_10 (v := (.ref bb)) rfl rfl ?_
  refine gIloadN K0 b31_11 (v := (0 : Int32)) rfl ?_
  refine gIloadN K0 b31_12 (v := (Int32.ofNat T)) rfl ?_
  refine gCallS K0 (W := 0) [(.ref bb), (.int (0 : Int32)), (.int (Int32.ofNat T))] [] b31_13 (wd hw 179 rfl) (wd hw 180 rfl) (wd hw 177 rfl) (wd hw 181 rfl) (Cal.ofN (W := 0) (c_corB l Z a0 hw h0 n0 K0.n0le bb kA vs T hT Ab hv) (wd hw 181 rfl) (wd hw 177 rfl) (by decide) (by decide)) (fun _ q => nomatch q) pd16 rfl rfl (Nat.le_of_eq rfl) rfl (by decide) (by decide) (by decide) (fun v101 T101 h101 K101 Q101 q101 => ?_)
  have E101 := Ext.of0 Q101
  have P102 := P0.ext E101
  obtain ⟨b2, k2, rfl, g2, A2⟩ := q101
  refine gRetA K101 hlk hret rfl rfl b31_16 P102 (by decide) (by decide) ?_
  exact ⟨_, _, rfl, g2, A2⟩
set_option maxRecDepth 65536 in
set_option maxHeartbeats 40000000 in
theorem c_sA (l : Launch) (Z : State) (a0 : Array Value) (hw : ∀ d ∈ tables_1, d.before a0 Z = true) (h0 : Heap) (n0 : Nat) (Z0 : n0 ≤ h0.size) (x t : Addr) (kb : ClassId) (vs : List Value) (n : Nat) (Ex : Exa Z h0 x "java/lang/StringBuilder") (F1 : Fld Z h0 x "java/lang/AbstractStringBuilder" "value" "[B" (.ref t)) (F2 : Fld Z h0 x "java/lang/AbstractStringBuilder" "coder" "B" (.int 0)) (F3 : Fld Z h0 x "java/lang/AbstractStringBuilder" "count" "I" (.int (Int32.ofNat n))) (At : Arv Z h0 t kb .byte 16 vs (.int 0)) (hv : vs.length = n) (hn : n < 16) (cs : List Int32) (hcs : vs = bys cs) (hp : ∀ c ∈ cs, ¬ c < 0 ∧ ¬ (255 : Int32) < c) (y : Addr) (v1 v2 : Value) (gy : n0 ≤ y) (Ey : Exa Z h0 y "java/lang/String") (G1 : Fld Z h0 y "java/lang/String" "value" "[B" v1) (G2 : Fld Z h0 y "java/lang/String" "coder" "B" v2) (hxy : x ≠ y) (hty : t ≠ y) (z : Int32) (Sc : Sta Z h0 "java/lang/String" "COMPACT_STRINGS" "Z" (.int z)) (hz : ¬ z = 0) :
    Con none l (⟨"java/lang/String", "<init>", "(Ljava/lang/AbstractStringBuilder;Ljava/lang/Void;)V"⟩ : MethodName) jdk_42_method_150_code 5 none [] ({ frames := 3, cells := 1, slots := 16, locals := 74 } : Room) Z n0 h0 [y] #[(.ref y), (.ref x), .null] (fun v h => v = none ∧ StrL Z h y cs) := by
  refine Con.intro pn0 Z0 (allS ⟨gy, Ey.lt⟩ all0) trivial #[.val (.ref y), .val (.ref x), .val .null, .unset, .unset] (fun m => by first | (simp [entryFrame, mkF, argsToLocals, Value.category]; done) | rfl) ?_
  intro p e s m below meth c T0 hlk hret hnm K0
  have P0 := Keep.refl h0 [y]
  refine gAloadN K0 b27_0 (v := (.ref y)) rfl rfl ?_
  refine gInitO K0 b27_1 (wd hw 11 rfl) (wd hw 12 rfl) (wd hw 13 rfl) rfl (by decide) (W := 0) (Nat.le_of_eq rfl) (by decide) (fun T101 K101 => ?_)
  refine gAloadN K101 b27_4 (v := (.ref x)) rfl rfl ?_
  refine gCallVS K101 (W := 0) (C := "java/lang/StringBuilder") x [] [] b27_5 (wd hw 161 rfl) (wd hw 162 rfl) (wd hw 164 rfl) (wd hw 163 rfl) (wd hw 164 rfl) rfl (Cal.ofN (W := 0) (c_getV l Z a0 hw h0 n0 K101.n0le x t F1) (wd hw 165 rfl) (wd hw 71 rfl) (by decide) (by decide)) Ex (fun _ q => nomatch q) pd17 rfl rfl (Nat.le_of_eq rfl) rfl (by decide) (by decide) (by decide) (fun v102 T102 h102 K102 Q102 q102 => ?_)
  have E102 := Ext.of0 Q102
  have P103 := P0.ext E102
  cases q102
  refine gAstoreN K102 b27_8 rfl (Ls' := #[.val (.ref y), .val (.ref x), .val .null, .val (.ref t), .unset]) rfl ?_
  refine gAloadN K102 b27_9 (v := (.ref x)) rfl rfl ?_
  refine gCallVS K102 (W := 0) (C := "java/lang/StringBuilder") x [] [] b27_10 (wd hw 166 rfl) (wd hw 167 rfl) (wd hw 169 rfl) (wd hw 170 rfl) (wd hw 164 rfl) rfl (Cal.ofN (W := 0) (c_lenB l Z a0 hw h102 n0 K102.n0le x (Int32.ofNat n) (Ex.ext E102) (F3.ext E102)) (wd hw 171 rfl) (wd hw 63 rfl) (by decide) (by decide)) (Ex.ext E102) (fun _ q => nomatch q) pd1 rfl rfl (Nat.le_of_eq rfl) rfl (by decide) (by decide) (by decide) (fun v104 T104 h104 K104 Q104 q104 => ?_)
  have E104 := Ext.of0 Q104
  have P105 := P103.ext E104
  cases q104
  refine gIstore K104 b27_13 (Ls' := #[.val (.ref y), .val (.ref x), .val .null, .val (.ref t), .val (.int (Int32.ofNat n))]) rfl ?_
  refine gAloadN K104 b27_15 (v := (.ref x)) rfl rfl ?_
  refine gCallVS K104 (W := 0) (C := "java/lang/StringBuilder") x [] [] b27_16 (wd hw 174 rfl) (wd hw 141 rfl) (wd hw 143 rfl) (wd hw 142 rfl) (wd hw 143 rfl) rfl (Cal.ofN (W := 0) (c_isLA l Z a0 hw h104 n0 K104.n0le x (F2.ext (Ext.tr E102 E104)) z (Sc.ext (Ext.tr E102 E104)) hz) (wd hw 144 rfl) (wd hw 71 rfl) (by decide) (by decide)) (Ex.ext (Ext.tr E102 E104)) (fun _ q => nomatch q) pd11 rfl rfl (Nat.le_of_eq rfl) rfl (by decide) (by decide) (by decide) (fun v106 T106 h106 K106 Q106 q106 => ?_)
  have E106 := Ext.of0 Q106
  have P107 := P105.ext E106
  cases q106
  refine gIf_eq K106 b27_19 (fun q => absurd q (by first | decide | (intro hh; cases hh) | simp)) (fun q19 => ?_)
  refine gAloadN K106 b27_22 (v := (.ref y)) rfl rfl ?_
  refine gIconst K106 (0 : Int32) b27_23 rfl ?_
  refine gPut K106 b27_24 (wd hw 26 rfl) (me 0 rfl) (G2.ext (Ext.tr (Ext.tr E102 E104) E106)) (Ey.ext (Ext.tr (Ext.tr E102 E104) E106)) (Or.inr ⟨(wd hw 27 rfl), rfl, hnm⟩) (wd hw 2 rfl) (ty := .byte) (by decide) rfl rfl (fun T108 h108 K108 W108 F108 => ?_)
  have P109 := P107.trans (Keep.of_wr W108) (fun z q => by cases List.mem_singleton.mp q; exact Or.inl (me 0 rfl))
  have F110 := Fld.other W108 (G1.ext (Ext.tr (Ext.tr E102 E104) E106)) (Or.inr (slot_ne (C := "java/lang/String") (a0 := a0) (Or.inr (wd hw 29 rfl)) (Or.inr (wd hw 27 rfl)) (by decide) (by decide : parseFieldDescriptor _ = some (.array .byte)) (by decide : parseFieldDescriptor _ = some .byte)))
  have A111 := Exa.wr W108 (Ey.ext (Ext.tr (Ext.tr E102 E104) E106))
  refine gAloadN K108 b27_27 (v := (.ref y)) rfl rfl ?_
  refine gAloadN K108 b27_28 (v := (.ref t)) rfl rfl ?_
  refine gIconst K108 (0 : Int32) b27_29 rfl ?_
  refine gIload K108 b27_30 (v := (Int32.ofNat n)) rfl ?_
  refine gCallS K108 (W := 1) [(.ref t), (.int (0 : Int32)), (.int (Int32.ofNat n))] [(.ref y)] b27_32 (wd hw 175 rfl) (wd hw 176 rfl) (wd hw 177 rfl) (wd hw 178 rfl) (Cal.ofN (W := 1) (c_cor l Z a0 hw h108 n0 K108.n0le t kb vs n hn ((At.ext (Ext.tr (Ext.tr E102 E104) E106)).keep (Keep.of_wr W108) (ninS hty nin0)) hv) (wd hw 178 rfl) (wd hw 177 rfl) (by decide) (by decide)) (fun _ q => nomatch q) pd16 rfl rfl (Nat.le_of_eq rfl) rfl (by decide) (by decide) (by decide) (fun v112 T112 h112 K112 Q112 q112 => ?_)
  have E112 := Ext.of0 Q112
  have P113 := P109.ext E112
  obtain ⟨b2, k2, rfl, g2, A2⟩ := q112
  subst hcs
  have hln : cs.length = n := (bys_len cs).symm.trans hv
  rw [← hln] at A2
  refine gPut K112 b27_35 (wd hw 28 rfl) (me 0 rfl) (F110.ext E112) (A111.ext E112) (Or.inr ⟨(wd hw 29 rfl), rfl, hnm⟩) (wd hw 2 rfl) (ty := (.array .byte)) (by decide) rfl rfl (fun T114 h114 K114 W114 F114 => ?_)
  have P115 := P113.trans (Keep.of_wr W114) (fun z q => by cases List.mem_singleton.mp q; exact Or.inl (me 0 rfl))
  have F116 := Fld.other W114 (F108.ext E112) (Or.inr (slot_ne (C := "java/lang/String") (a0 := a0) (Or.inr (wd hw 27 rfl)) (Or.inr (wd hw 29 rfl)) (by decide) (by decide : parseFieldDescriptor _ = some .byte) (by decide : parseFieldDescriptor _ = some (.array .byte))))
  have A117 := Exa.wr W114 (A111.ext E112)
  refine gGoto K114 b27_38 ?_
  refine gRetV K114 hlk hret b27_97 P115 (by decide) (by decide) ?_
  exact ⟨rfl, b2, k2, A117, F116, F114, (A2.keep (Keep.of_wr W114) (ninS (Nat.ne_of_gt (Nat.lt_of_lt_of_le (A111).lt g2)) nin0)), hp, by omega⟩
set_option maxRecDepth 65536 in
set_option maxHeartbeats 40000000 in
theorem c_sB (l : Launch) (Z : State) (a0 : Array Value) (hw : ∀ d ∈ tables_1, d.before a0 Z = true) (h0 : Heap) (n0 : Nat) (Z0 : n0 ≤ h0.size) (x t : Addr) (kb : ClassId) (vs : List Value) (n : Nat) (Ex : Exa Z h0 x "java/lang/StringBuilder") (F1 : Fld Z h0 x "java/lang/AbstractStringBuilder" "value" "[B" (.ref t)) (F2 : Fld Z h0 x "java/lang/AbstractStringBuilder" "coder" "B" (.int 0)) (F3 : Fld Z h0 x "java/lang/AbstractStringBuilder" "count" "I" (.int (Int32.ofNat n))) (At : Arv Z h0 t kb .byte 16 vs (.int 0)) (hv : vs.length = n) (hn : n < 16) (cs : List Int32) (hcs : vs = bys cs) (hp : ∀ c ∈ cs, ¬ c < 0 ∧ ¬ (255 : Int32) < c) (y : Addr) (v1 v2 : Value) (gy : n0 ≤ y) (Ey : Exa Z h0 y "java/lang/String") (G1 : Fld Z h0 y "java/lang/String" "value" "[B" v1) (G2 : Fld Z h0 y "java/lang/String" "coder" "B" v2) (hxy : x ≠ y) (hty : t ≠ y) (z : Int32) (Sc : Sta Z h0 "java/lang/String" "COMPACT_STRINGS" "Z" (.int z)) (hz : ¬ z = 0) :
    Con none l (⟨"java/lang/String", "<init>", "(Ljava/lang/StringBuilder;)V"⟩ : MethodName) jdk_42_method_53_code 2 none [] ({ frames := 4, cells := 1, slots := 16, locals := 92 } : Room) Z n0 h0 [y] #[(.ref y), (.ref x)] (fun v h => v = none ∧ StrL Z h y cs) := by
  refine Con.intro pn0 Z0 (allS ⟨gy, Ey.lt⟩ all0) trivial #[.val (.ref y), .val (.ref x)] (fun m => by first | (simp [entryFrame, mkF, argsToLocals, Value.category]; done) | rfl) ?_
  intro p e s m below meth c T0 hlk hret hnm K0
  have P0 := Keep.refl h0 [y]
  refine gAloadN K0 b26_0 (v := (.ref y)) rfl rfl ?_
  refine gAloadN K0 b26_1 (v := (.ref x)) rfl rfl ?_
  refine gNull K0 b26_2 ?_
  refine gCallI K0 (W := 0) y [(.ref x), .null] [] b26_3 rfl (wd hw 158 rfl) (wd hw 159 rfl) (wd hw 160 rfl) (Cal.ofN (W := 0) (c_sA l Z a0 hw h0 n0 K0.n0le x t kb vs n Ex F1 F2 F3 At hv hn cs hcs hp y v1 v2 gy Ey G1 G2 hxy hty z Sc hz) (wd hw 160 rfl) (wd hw 3 rfl) (by decide) (by decide)) (fun z q => by cases List.mem_singleton.mp q; exact (me 0 rfl)) pd18 rfl rfl (Nat.le_of_eq rfl) rfl (by decide) (by decide) (by decide) (fun v101 T101 h101 K101 Q101 q101 => ?_)
  have P102 := P0.trans Q101 (fun z q => by cases List.mem_singleton.mp q; exact Or.inl (me 0 rfl))
  obtain ⟨rfl, R101⟩ := q101
  refine gRetV K101 hlk hret b26_6 P102 (by decide) (by decide) ?_
  exact ⟨rfl, R101⟩
set_option maxRecDepth 65536 in
set_option maxHeartbeats 40000000 in
theorem c_toS (l : Launch) (Z : State) (a0 : Array Value) (hw : ∀ d ∈ tables_1, d.before a0 Z = true) (h0 : Heap) (n0 : Nat) (Z0 : n0 ≤ h0.size) (x t : Addr) (kb : ClassId) (vs : List Value) (n : Nat) (Ex : Exa Z h0 x "java/lang/StringBuilder") (F1 : Fld Z h0 x "java/lang/AbstractStringBuilder" "value" "[B" (.ref t)) (F2 : Fld Z h0 x "java/lang/AbstractStringBuilder" "coder" "B" (.int 0)) (F3 : Fld Z h0 x "java/lang/AbstractStringBuilder" "count" "I" (.int (Int32.ofNat n))) (At : Arv Z h0 t kb .byte 16 vs (.int 0)) (hv : vs.length = n) (hn : n < 16) (cs : List Int32) (hcs : vs = bys cs) (hp : ∀ c ∈ cs, ¬ c < 0 ∧ ¬ (255 : Int32) < c) (z : Int32) (Sc : Sta Z h0 "java/lang/String" "COMPACT_STRINGS" "Z" (.int z)) (hz : ¬ z = 0) :
    Con none l (⟨"java/lang/StringBuilder", "toString", "()Ljava/lang/String;"⟩ : MethodName) jdk_67_method_42_code 1 (some (.object "java/lang/String")) [] ({ frames := 5, cells := 2, slots := 20, locals := 108 } : Room) Z n0 h0 [] #[(.ref x)] (fun v h => ∃ y : Addr, v = some (.ref y) ∧ StrL Z h y cs) := by
  refine Con.intro pn4 Z0 (fun _ q => nomatch q) trivial #[.val (.ref x)] (fun m => by first | (simp [entryFrame, mkF, argsToLocals, Value.category]; done) | rfl) ?_
  intro p e s m below meth c T0 hlk hret hnm K0
  have P0 := Keep.refl h0 []
  refine gNew K0 b25_0 (wd hw 154 rfl) (wd hw 2 rfl) (wd hw 3 rfl) (by decide) (by decide) (fun T101 h101 x101 K101 E101 g101 A101 D101 ne101 => ?_)
  have P102 := P0.ext E101
  have ge_x101 : h0.size ≤ x101 := by rw [g101]; exact P0.1
  have F103 : Fld Z h101 x101 "java/lang/String" "value" "[B" .null := (D101 (Or.inr (wd hw 29 rfl)) (ty := (.array .byte)) (by decide))
  have F104 : Fld Z h101 x101 "java/lang/String" "coder" "B" (.int (0 : Int32)) := (D101 (Or.inr (wd hw 27 rfl)) (ty := .byte) (by decide))
  refine gDup K101 b25_3 rfl ?_
  refine gAloadN K101 b25_4 (v := (.ref x)) rfl rfl ?_
  refine gCallI K101 (W := 1) x101 [(.ref x)] [(.ref x101)] b25_5 rfl (wd hw 155 rfl) (wd hw 156 rfl) (wd hw 157 rfl) (Cal.ofN (W := 1) (c_sB l Z a0 hw h101 n0 K101.n0le x t kb vs n (Ex.ext E101) (F1.ext E101) (F2.ext E101) (F3.ext E101) (At.ext E101) hv hn cs hcs hp x101 _ _ (K101.wsge (me 0 rfl)) A101 F103 F104 (Nat.ne_of_lt (Nat.lt_of_lt_of_le Ex.lt ge_x101)) (Nat.ne_of_lt (Nat.lt_of_lt_of_le At.lt ge_x101)) z (Sc.ext E101) hz) (wd hw 157 rfl) (wd hw 3 rfl) (by decide) (by decide)) (fun z q => by cases List.mem_singleton.mp q; exact (me 0 rfl)) pd19 rfl rfl (Nat.le_of_eq rfl) rfl (by decide) (by decide) (by decide) (fun v105 T105 h105 K105 Q105 q105 => ?_)
  have P106 := P102.trans Q105 (fun z q => by cases List.mem_singleton.mp q; exact Or.inr ge_x101)
  obtain ⟨rfl, R105⟩ := q105
  refine gRetA K105 hlk hret rfl rfl b25_8 P106 (by decide) (by decide) ?_
  exact ⟨_, rfl, R105⟩
theorem full_bys (cs : List Int32) (P : Nat) : (([] ++ bys cs) ++ bys [(58 : Int32)]) ++ (digsN P (nd P)).map Value.int = bys (full cs P) := by
  rw [← digsN_lo8, full, bys_app, show bys (58 :: digsN P (nd P)) = bys [(58 : Int32)] ++ bys (digsN P (nd P)) from rfl, List.nil_append, List.append_assoc]
theorem full_bd {cs : List Int32} (h : ∀ c ∈ cs, ¬ c < 0 ∧ ¬ (255 : Int32) < c) (P : Nat) : ∀ c ∈ full cs P, ¬ c < 0 ∧ ¬ (255 : Int32) < c := fun c hc => by
  rcases List.mem_append.mp hc with q | q
  · exact h c q
  · exact allI (y := 58) (L := digsN P (nd P)) (P := fun c => ¬ c < 0 ∧ ¬ (255 : Int32) < c) (by decide) (digsN_bd P _) c q
set_option maxRecDepth 65536 in
set_option maxHeartbeats 40000000 in
theorem c_aS (l : Launch) (Z : State) (a0 : Array Value) (hw : ∀ d ∈ tables_1, d.before a0 Z = true) (h0 : Heap) (n0 : Nat) (Z0 : n0 ≤ h0.size) (ax st : Addr) (P : Nat) (cs : List Int32) (hP : P ≤ 65535) (hcl : cs.length ≤ 3) (hps : ∀ c ∈ cs, ¬ c < 0 ∧ ¬ (255 : Int32) < c) (Ss : StrL Z h0 st cs) (Fh : Fld Z h0 ax "com/example/outrigger/outrigger/model/Address" "host" "Ljava/lang/String;" (.ref st)) (Fp : Fld Z h0 ax "com/example/outrigger/outrigger/model/Address" "port" "I" (.int (Int32.ofNat P))) (ao at_ : Addr) (ko kt : ClassId) (So : Sta Z h0 "java/lang/Integer" "DigitOnes" "[B" (.ref ao)) (St_ : Sta Z h0 "java/lang/Integer" "DigitTens" "[B" (.ref at_)) (Ao : Arv Z h0 ao ko .byte 100 onesL (.int 0)) (At_ : Arv Z h0 at_ kt .byte 100 tensL (.int 0)) (z : Int32) (Sc : Sta Z h0 "java/lang/String" "COMPACT_STRINGS" "Z" (.int z)) (hz : ¬ z = 0) (hE : EW Z a0 [("com/example/outrigger/outrigger/model/Address", 7), ("com/example/outrigger/outrigger/model/Address", 92), ("java/lang/String", 7)]) :
    Con (some [("com/example/outrigger/outrigger/model/Address", 7), ("com/example/outrigger/outrigger/model/Address", 92), ("java/lang/String", 7)]) l (⟨"com/example/outrigger/outrigger/model/Address", "toString", "()Ljava/lang/String;"⟩ : MethodName) prog_28_method_4_code 1 (some (.object "java/lang/String")) [] ({ frames := 6, cells := 8, slots := 64, locals := 122 } : Room) Z n0 h0 [] #[(.ref ax)] (fun v h => ∃ y : Addr, v = some (.ref y) ∧ StrL Z h y (full cs P)) := by
  refine Con.intro pn5 Z0 (fun _ q => nomatch q) ⟨a0, hE⟩ #[.val (.ref ax)] (fun m => by first | (simp [entryFrame, mkF, argsToLocals, Value.category]; done) | rfl) ?_
  intro p e s m below meth c T0 hlk hret hnm K0
  have P0 := Keep.refl h0 []
  refine gNew K0 b9_0 (wd hw 61 rfl) (wd hw 62 rfl) (wd hw 63 rfl) (by decide) (by decide) (fun T101 h101 x101 K101 E101 g101 A101 D101 ne101 => ?_)
  have P102 := P0.ext E101
  have ge_x101 : h0.size ≤ x101 := by rw [g101]; exact P0.1
  have F103 : Fld Z h101 x101 "java/lang/AbstractStringBuilder" "value" "[B" .null := (D101 (Or.inl (wd hw 76 rfl)) (ty := (.array .byte)) (by decide))
  have F104 : Fld Z h101 x101 "java/lang/AbstractStringBuilder" "coder" "B" (.int (0 : Int32)) := (D101 (Or.inl (wd hw 78 rfl)) (ty := .byte) (by decide))
  have F105 : Fld Z h101 x101 "java/lang/AbstractStringBuilder" "count" "I" (.int (0 : Int32)) := (D101 (Or.inl (wd hw 100 rfl)) (ty := .int) (by decide))
  refine gDup K101 b9_3 rfl ?_
  refine gCallIF K101 (W := 1) x101 [] [(.ref x101)] b9_4 rfl (wd hw 64 rfl) (wd hw 65 rfl) (wd hw 66 rfl) (CalF.ofN (W := 1) (c_sbI l Z a0 hw h101 n0 K101.n0le x101 _ _ (K101.wsge (me 0 rfl)) A101 F103 F104 F105 z (Sc.ext E101) hz) (wd hw 66 rfl) (wd hw 63 rfl) (by decide) (by decide)) (allS (me 0 rfl) all0) pd2 rfl rfl (Nat.le_of_eq rfl) rfl (by decide) (by decide) (by decide) (fun v106 T106 h106 K106 Q106 q106 AD106 => ?_)
  have P107 := P102.trans Q106 (fun z q => by cases List.mem_singleton.mp q; exact Or.inr ge_x101)
  obtain ⟨rfl, t, kb, gt, Ex106, F1106, F2106, F3106, At106⟩ := q106
  have KA106 := AD106 t gt At106.lt
  have ge_t : h0.size ≤ t := Nat.le_trans P102.1 gt
  have hxt : x101 ≠ t := Nat.ne_of_lt (Nat.lt_of_lt_of_le (A101).lt gt)
  have hao : ao ≠ t := Nat.ne_of_lt (Nat.lt_of_lt_of_le Ao.lt ge_t)
  have hat : at_ ≠ t := Nat.ne_of_lt (Nat.lt_of_lt_of_le At_.lt ge_t)
  refine gAloadN KA106 b9_7 (v := (.ref ax)) rfl rfl ?_
  refine gGet KA106 b9_8 (wd hw 52 rfl) (Fh.ext (Ext.kp1 E101 Q106 (Nat.le_of_eq g101.symm))) (fun T108 K108 => ?_)
  refine gCallVS K108 (W := 0) (C := "java/lang/StringBuilder") x101 [(.ref st)] [] b9_11 (wd hw 79 rfl) (wd hw 80 rfl) (wd hw 82 rfl) (wd hw 81 rfl) (wd hw 82 rfl) rfl (Cal.ofN (W := 0) (c_sbA l Z a0 hw h106 n0 K108.n0le x101 t kb ([]) (0) Ex106 F1106 F2106 F3106 At106 (rfl) (K108.wsge (me 1 rfl)) (K108.wsge (me 0 rfl)) hxt st cs (Ss.ext (Ext.kp1 E101 Q106 (Nat.le_of_eq g101.symm))) (show 0 + cs.length ≤ 16 by omega) z (Sc.ext (Ext.kp1 E101 Q106 (Nat.le_of_eq g101.symm))) hz) (wd hw 83 rfl) (wd hw 63 rfl) (by decide) (by decide)) Ex106 (allS (me 1 rfl) (allS (me 0 rfl) all0)) pd20 rfl rfl (Nat.le_of_eq rfl) rfl (by decide) (by decide) (by decide) (fun v109 T109 h109 K109 Q109 q109 => ?_)
  have P110 := P107.trans Q109 (allS (Or.inr ge_x101) (allS (Or.inr ge_t) all0))
  obtain ⟨rfl, Ex109, F1109, F2109, F3109, At109⟩ := q109
  refine gLdc K109 b9_14 (wd hw 126 rfl) (hsA hw) (by decide) (vs := ([(58 : Int32)].map StrChars.lo8).map Value.int) (z := Int32.ofNat 1) (by decide +kernel) (by decide) (by decide) 4 (by decide) (by decide) (by decide) (by decide) (fun T111 h111 a111 b111 kA111 K111 E111 Ea111 Fc111 Fv111 Ab111 ne111 => ?_)
  have P112 := P110.ext E111
  have Sl111 : StrL Z h111 a111 [(58 : Int32)] := ⟨b111, kA111, Ea111, Fc111, Fv111, Ab111, by decide, by decide⟩
  refine gCallVS K111 (W := 0) (C := "java/lang/StringBuilder") x101 [(.ref a111)] [] b9_16 (wd hw 79 rfl) (wd hw 80 rfl) (wd hw 82 rfl) (wd hw 81 rfl) (wd hw 82 rfl) rfl (Cal.ofN (W := 0) (c_sbA l Z a0 hw h111 n0 K111.n0le x101 t kb ([] ++ bys cs) (0 + cs.length) (Ex109.ext E111) (F1109.ext E111) (F2109.ext E111) (F3109.ext E111) (At109.ext E111) (by simp [bys_len]) (K111.wsge (me 1 rfl)) (K111.wsge (me 0 rfl)) hxt a111 [(58 : Int32)] Sl111 (show 0 + cs.length + 1 ≤ 16 by omega) z (Sc.ext (Ext.tr (Ext.kpL (Ext.kp1 E101 Q106 (Nat.le_of_eq g101.symm)) Q109 (Nat.le_of_eq g101.symm) (Nat.le_trans E101.1 gt)) E111)) hz) (wd hw 83 rfl) (wd hw 63 rfl) (by decide) (by decide)) (Ex109.ext E111) (allS (me 1 rfl) (allS (me 0 rfl) all0)) pd20 rfl rfl (Nat.le_of_eq rfl) rfl (by decide) (by decide) (by decide) (fun v113 T113 h113 K113 Q113 q113 => ?_)
  have P114 := P112.trans Q113 (allS (Or.inr ge_x101) (allS (Or.inr ge_t) all0))
  obtain ⟨rfl, Ex113, F1113, F2113, F3113, At113⟩ := q113
  refine gAloadN K113 b9_19 (v := (.ref ax)) rfl rfl ?_
  refine gGet K113 b9_20 (wd hw 54 rfl) (Fp.ext (Ext.kpL (Ext.tr (Ext.kpL (Ext.kp1 E101 Q106 (Nat.le_of_eq g101.symm)) Q109 (Nat.le_of_eq g101.symm) (Nat.le_trans E101.1 gt)) E111) Q113 (Nat.le_of_eq g101.symm) (Nat.le_trans E101.1 gt))) (fun T115 K115 => ?_)
  refine gCallVS K115 (W := 0) (C := "java/lang/StringBuilder") x101 [(.int (Int32.ofNat P))] [] b9_23 (wd hw 127 rfl) (wd hw 128 rfl) (wd hw 130 rfl) (wd hw 129 rfl) (wd hw 130 rfl) rfl (Cal.ofN (W := 0) (c_sbN l Z a0 hw h113 n0 K115.n0le x101 t kb (([] ++ bys cs) ++ bys [(58 : Int32)]) (0 + cs.length + [(58 : Int32)].length) Ex113 F1113 F2113 F3113 At113 (by simp [bys_len]) (K115.wsge (me 1 rfl)) (K115.wsge (me 0 rfl)) hxt P hP (show 0 + cs.length + 1 + 5 ≤ 16 by omega) ao at_ ko kt (So.ext (Ext.kpL (Ext.tr (Ext.kpL (Ext.kp1 E101 Q106 (Nat.le_of_eq g101.symm)) Q109 (Nat.le_of_eq g101.symm) (Nat.le_trans E101.1 gt)) E111) Q113 (Nat.le_of_eq g101.symm) (Nat.le_trans E101.1 gt))) (St_.ext (Ext.kpL (Ext.tr (Ext.kpL (Ext.kp1 E101 Q106 (Nat.le_of_eq g101.symm)) Q109 (Nat.le_of_eq g101.symm) (Nat.le_trans E101.1 gt)) E111) Q113 (Nat.le_of_eq g101.symm) (Nat.le_trans E101.1 gt))) (Ao.ext (Ext.kpL (Ext.tr (Ext.kpL (Ext.kp1 E101 Q106 (Nat.le_of_eq g101.symm)) Q109 (Nat.le_of_eq g101.symm) (Nat.le_trans E101.1 gt)) E111) Q113 (Nat.le_of_eq g101.symm) (Nat.le_trans E101.1 gt))) (At_.ext (Ext.kpL (Ext.tr (Ext.kpL (Ext.kp1 E101 Q106 (Nat.le_of_eq g101.symm)) Q109 (Nat.le_of_eq g101.symm) (Nat.le_trans E101.1 gt)) E111) Q113 (Nat.le_of_eq g101.symm) (Nat.le_trans E101.1 gt))) hao hat z (Sc.ext (Ext.kpL (Ext.tr (Ext.kpL (Ext.kp1 E101 Q106 (Nat.le_of_eq g101.symm)) Q109 (Nat.le_of_eq g101.symm) (Nat.le_trans E101.1 gt)) E111) Q113 (Nat.le_of_eq g101.symm) (Nat.le_trans E101.1 gt))) hz) (wd hw 131 rfl) (wd hw 63 rfl) (by decide) (by decide)) Ex113 (allS (me 1 rfl) (allS (me 0 rfl) all0)) pd21 rfl rfl (Nat.le_of_eq rfl) rfl (by decide) (by decide) (by decide) (fun v116 T116 h116 K116 Q116 q116 => ?_)
  have P117 := P114.trans Q116 (allS (Or.inr ge_x101) (allS (Or.inr ge_t) all0))
  obtain ⟨rfl, Ex116, F1116, F2116, F3116, At116⟩ := q116
  have hnd := nd_bd P
  refine gCallVS K116 (W := 0) (C := "java/lang/StringBuilder") x101 [] [] b9_26 (wd hw 149 rfl) (wd hw 150 rfl) (wd hw 152 rfl) (wd hw 151 rfl) (wd hw 152 rfl) rfl (Cal.ofN (W := 0) (c_toS l Z a0 hw h116 n0 K116.n0le x101 t kb ((([] ++ bys cs) ++ bys [(58 : Int32)]) ++ (digsN P (nd P)).map Value.int) (0 + cs.length + [(58 : Int32)].length + nd P) Ex116 F1116 F2116 F3116 At116 (by simp [bys_len, digsN_len]; omega) (show 0 + cs.length + 1 + nd P < 16 by omega) (full cs P) (full_bys cs P) (full_bd hps P) z (Sc.ext (Ext.kpL (Ext.kpL (Ext.tr (Ext.kpL (Ext.kp1 E101 Q106 (Nat.le_of_eq g101.symm)) Q109 (Nat.le_of_eq g101.symm) (Nat.le_trans E101.1 gt)) E111) Q113 (Nat.le_of_eq g101.symm) (Nat.le_trans E101.1 gt)) Q116 (Nat.le_of_eq g101.symm) (Nat.le_trans E101.1 gt))) hz) (wd hw 153 rfl) (wd hw 63 rfl) (by decide) (by decide)) Ex116 (fun _ q => nomatch q) pd22 rfl rfl (Nat.le_of_eq rfl) rfl (by decide) (by decide) (by decide) (fun v118 T118 h118 K118 Q118 q118 => ?_)
  have E118 := Ext.of0 Q118
  have P119 := P117.ext E118
  obtain ⟨y, rfl, Sy⟩ := q118
  refine gRetA K118 hlk hret rfl rfl b9_29 P119 (by decide) (by decide) ?_
  exact ⟨_, rfl, Sy⟩
set_option maxRecDepth 65536 in
set_option maxHeartbeats 40000000 in
theorem c_dok0 (l : Launch) (Z : State) (a0 : Array Value) (hw : ∀ d ∈ tables_1, d.before a0 Z = true) (h0 : Heap) (n0 : Nat) (Z0 : n0 ≤ h0.size) (y : Addr) (cs : List Int32) (P : Nat) (hP : P ≤ 65535) (hcl : cs.length ≤ 3) (Sy : StrL Z h0 y (full cs P)) (z : Int32) (Sc : Sta Z h0 "java/lang/String" "COMPACT_STRINGS" "Z" (.int z)) (hz : ¬ z = 0) (fm : Value) (Sf : Sta Z h0 "jdk/internal/util/Preconditions" "SIOOBE_FORMATTER" "Ljava/util/function/BiFunction;" fm) (rf : fm.isRef = true) :
    Con none l (⟨"com/example/outrigger/outrigger/model/AddressToStringPinLaw", "digitOk", "(Ljava/lang/String;IIIII)Z"⟩ : MethodName) method_3_code 7 (some .boolean) [] ({ frames := 4, cells := 0, slots := 0, locals := 60 } : Room) Z n0 h0 [] #[(.ref y), (.int (Int32.ofNat (cs.length + 1))), (.int (Int32.ofNat P)), (.int (Int32.ofNat (nd P))), (.int (0 : Int32)), (.int (1 : Int32))] (fun v h => v = some (.int 1)) := by
  refine Con.intro pn8 Z0 (fun _ q => nomatch q) trivial #[.val (.ref y), .val (.int (Int32.ofNat (cs.length + 1))), .val (.int (Int32.ofNat P)), .val (.int (Int32.ofNat (nd P))), .val (.int (0 : Int32)), .val (.int (1 : Int32)), .unset] (fun m => by first | (simp [entryFrame, mkF, argsToLocals, Value.category]; done) | rfl) ?_
  intro p e s m below meth c T0 hlk hret hnm K0
  have P0 := Keep.refl h0 []
  have hnd := nd_bd P
  refine gIload K0 b40_0 (v := (0 : Int32)) rfl ?_
  refine gIloadN K0 b40_2 (v := (Int32.ofNat (nd P))) rfl ?_
  refine gIcmp_lt K0 b40_3 (fun q3 => ?_) (fun q3 => ?_)
  · skip
    refine gBipush K0 (48 : Int32) b40_8 rfl ?_
    refine gIloadN K0 b40_10 (v := (Int32.ofNat P)) rfl ?_
    refine gIload K0 b40_11 (v := (1 : Int32)) rfl ?_
    refine gIdiv K0 b40_13 (by decide) ?_
    refine gBipush K0 (10 : Int32) b40_14 rfl ?_
    refine gIrem K0 b40_16 (by decide) ?_
    refine gIadd K0 b40_17 ?_
    refine gI2c K0 b40_18 ?_
    rw [show (((48 : Int32) + (((Int32.ofNat P) / (1 : Int32)) % (10 : Int32)))).toUInt32.toUInt16.toUInt32.toInt32 = dgt P 0 from digcalc (w := 1) hP (by decide) (by decide)]
    have hk := ofNat_lt (k := 0) (n := nd P) (by decide) (by omega) q3
    refine gIstore K0 b40_19 (Ls' := #[.val (.ref y), .val (.int (Int32.ofNat (cs.length + 1))), .val (.int (Int32.ofNat P)), .val (.int (Int32.ofNat (nd P))), .val (.int (0 : Int32)), .val (.int (1 : Int32)), .val (.int (dgt P 0))]) rfl ?_
    refine gAloadN K0 b40_21 (v := (.ref y)) rfl rfl ?_
    refine gIloadN K0 b40_22 (v := (Int32.ofNat (cs.length + 1))) rfl ?_
    refine gIloadN K0 b40_23 (v := (Int32.ofNat (nd P))) rfl ?_
    refine gIadd K0 b40_24 ?_
    refine gIconst K0 (1 : Int32) b40_25 rfl ?_
    refine gIsub K0 b40_26 ?_
    refine gIload K0 b40_27 (v := (0 : Int32)) rfl ?_
    refine gIsub K0 b40_29 ?_
    rw [show ((((Int32.ofNat (cs.length + 1)) + (Int32.ofNat (nd P))) - (1 : Int32)) - (0 : Int32)) = (Int32.ofNat (cs.length + 1 + nd P - 1 - 0)) from idx4 (k := 0) hk (by omega)]
    refine gCallV K0 (W := 0) (C := "java/lang/String") y [(.int (Int32.ofNat (cs.length + 1 + nd P - 1 - 0)))] [] b40_30 (wd hw 191 rfl) (wd hw 192 rfl) (wd hw 194 rfl) (wd hw 193 rfl) (cal_ch hw (W := 0) (cs.length + 1 + nd P - 1 - 0) Sy Sc hz Sf rf (by rw [full_len]; omega) rfl (by decide) (by decide)) (Sy).exa (fun _ q => nomatch q) pd23 rfl rfl (Nat.le_of_eq rfl) rfl (by decide) (by decide) (by decide) (fun v101 T101 h101 K101 Q101 q101 => ?_)
    have E101 := Ext.of0 Q101
    have P102 := P0.ext E101
    cases q101
    rw [full_dig hk]
    refine gIload K101 b40_33 (v := (dgt P 0)) rfl ?_
    refine gIcmp_ne K101 b40_35 (fun q => absurd q (not_not_intro rfl)) (fun q35 => ?_)
    refine gIconst K101 (1 : Int32) b40_38 rfl ?_
    refine gGoto K101 b40_39 ?_
    refine gRetI K101 hlk hret (by simp) b40_43 rfl P102 (by decide) (by decide) ?_
    exact rfl
  · skip
    refine gIconst K0 (1 : Int32) b40_6 rfl ?_
    refine gRetI K0 hlk hret (by simp) b40_7 rfl P0 (by decide) (by decide) ?_
    exact rfl
set_option maxRecDepth 65536 in
set_option maxHeartbeats 40000000 in
theorem c_dok1 (l : Launch) (Z : State) (a0 : Array Value) (hw : ∀ d ∈ tables_1, d.before a0 Z = true) (h0 : Heap) (n0 : Nat) (Z0 : n0 ≤ h0.size) (y : Addr) (cs : List Int32) (P : Nat) (hP : P ≤ 65535) (hcl : cs.length ≤ 3) (Sy : StrL Z h0 y (full cs P)) (z : Int32) (Sc : Sta Z h0 "java/lang/String" "COMPACT_STRINGS" "Z" (.int z)) (hz : ¬ z = 0) (fm : Value) (Sf : Sta Z h0 "jdk/internal/util/Preconditions" "SIOOBE_FORMATTER" "Ljava/util/function/BiFunction;" fm) (rf : fm.isRef = true) :
    Con none l (⟨"com/example/outrigger/outrigger/model/AddressToStringPinLaw", "digitOk", "(Ljava/lang/String;IIIII)Z"⟩ : MethodName) method_3_code 7 (some .boolean) [] ({ frames := 4, cells := 0, slots := 0, locals := 60 } : Room) Z n0 h0 [] #[(.ref y), (.int (Int32.ofNat (cs.length + 1))), (.int (Int32.ofNat P)), (.int (Int32.ofNat (nd P))), (.int (1 : Int32)), (.int (10 : Int32))] (fun v h => v = some (.int 1)) := by
  refine Con.intro pn8 Z0 (fun _ q => nomatch q) trivial #[.val (.ref y), .val (.int (Int32.ofNat (cs.length + 1))), .val (.int (Int32.ofNat P)), .val (.int (Int32.ofNat (nd P))), .val (.int (1 : Int32)), .val (.int (10 : Int32)), .unset] (fun m => by first | (simp [entryFrame, mkF, argsToLocals, Value.category]; done) | rfl) ?_
  intro p e s m below meth c T0 hlk hret hnm K0
  have P0 := Keep.refl h0 []
  have hnd := nd_bd P
  refine gIload K0 b40_0 (v := (1 : Int32)) rfl ?_
  refine gIloadN K0 b40_2 (v := (Int32.ofNat (nd P))) rfl ?_
  refine gIcmp_lt K0 b40_3 (fun q3 => ?_) (fun q3 => ?_)
  · skip
    refine gBipush K0 (48 : Int32) b40_8 rfl ?_
    refine gIloadN K0 b40_10 (v := (Int32.ofNat P)) rfl ?_
    refine gIload K0 b40_11 (v := (10 : Int32)) rfl ?_
    refine gIdiv K0 b40_13 (by decide) ?_
    refine gBipush K0 (10 : Int32) b40_14 rfl ?_
    refine gIrem K0 b40_16 (by decide) ?_
    refine gIadd K0 b40_17 ?_
    refine gI2c K0 b40_18 ?_
    rw [show (((48 : Int32) + (((Int32.ofNat P) / (10 : Int32)) % (10 : Int32)))).toUInt32.toUInt16.toUInt32.toInt32 = dgt P 1 from digcalc (w := 10) hP (by decide) (by decide)]
    have hk := ofNat_lt (k := 1) (n := nd P) (by decide) (by omega) q3
    refine gIstore K0 b40_19 (Ls' := #[.val (.ref y), .val (.int (Int32.ofNat (cs.length + 1))), .val (.int (Int32.ofNat P)), .val (.int (Int32.ofNat (nd P))), .val (.int (1 : Int32)), .val (.int (10 : Int32)), .val (.int (dgt P 1))]) rfl ?_
    refine gAloadN K0 b40_21 (v := (.ref y)) rfl rfl ?_
    refine gIloadN K0 b40_22 (v := (Int32.ofNat (cs.length + 1))) rfl ?_
    refine gIloadN K0 b40_23 (v := (Int32.ofNat (nd P))) rfl ?_
    refine gIadd K0 b40_24 ?_
    refine gIconst K0 (1 : Int32) b40_25 rfl ?_
    refine gIsub K0 b40_26 ?_
    refine gIload K0 b40_27 (v := (1 : Int32)) rfl ?_
    refine gIsub K0 b40_29 ?_
    rw [show ((((Int32.ofNat (cs.length + 1)) + (Int32.ofNat (nd P))) - (1 : Int32)) - (1 : Int32)) = (Int32.ofNat (cs.length + 1 + nd P - 1 - 1)) from idx4 (k := 1) hk (by omega)]
    refine gCallV K0 (W := 0) (C := "java/lang/String") y [(.int (Int32.ofNat (cs.length + 1 + nd P - 1 - 1)))] [] b40_30 (wd hw 191 rfl) (wd hw 192 rfl) (wd hw 194 rfl) (wd hw 193 rfl) (cal_ch hw (W := 0) (cs.length + 1 + nd P - 1 - 1) Sy Sc hz Sf rf (by rw [full_len]; omega) rfl (by decide) (by decide)) (Sy).exa (fun _ q => nomatch q) pd23 rfl rfl (Nat.le_of_eq rfl) rfl (by decide) (by decide) (by decide) (fun v101 T101 h101 K101 Q101 q101 => ?_)
    have E101 := Ext.of0 Q101
    have P102 := P0.ext E101
    cases q101
    rw [full_dig hk]
    refine gIload K101 b40_33 (v := (dgt P 1)) rfl ?_
    refine gIcmp_ne K101 b40_35 (fun q => absurd q (not_not_intro rfl)) (fun q35 => ?_)
    refine gIconst K101 (1 : Int32) b40_38 rfl ?_
    refine gGoto K101 b40_39 ?_
    refine gRetI K101 hlk hret (by simp) b40_43 rfl P102 (by decide) (by decide) ?_
    exact rfl
  · skip
    refine gIconst K0 (1 : Int32) b40_6 rfl ?_
    refine gRetI K0 hlk hret (by simp) b40_7 rfl P0 (by decide) (by decide) ?_
    exact rfl
set_option maxRecDepth 65536 in
set_option maxHeartbeats 40000000 in
theorem c_dok2 (l : Launch) (Z : State) (a0 : Array Value) (hw : ∀ d ∈ tables_1, d.before a0 Z = true) (h0 : Heap) (n0 : Nat) (Z0 : n0 ≤ h0.size) (y : Addr) (cs : List Int32) (P : Nat) (hP : P ≤ 65535) (hcl : cs.length ≤ 3) (Sy : StrL Z h0 y (full cs P)) (z : Int32) (Sc : Sta Z h0 "java/lang/String" "COMPACT_STRINGS" "Z" (.int z)) (hz : ¬ z = 0) (fm : Value) (Sf : Sta Z h0 "jdk/internal/util/Preconditions" "SIOOBE_FORMATTER" "Ljava/util/function/BiFunction;" fm) (rf : fm.isRef = true) :
    Con none l (⟨"com/example/outrigger/outrigger/model/AddressToStringPinLaw", "digitOk", "(Ljava/lang/String;IIIII)Z"⟩ : MethodName) method_3_code 7 (some .boolean) [] ({ frames := 4, cells := 0, slots := 0, locals := 60 } : Room) Z n0 h0 [] #[(.ref y), (.int (Int32.ofNat (cs.length + 1))), (.int (Int32.ofNat P)), (.int (Int32.ofNat (nd P))), (.int (2 : Int32)), (.int (100 : Int32))] (fun v h => v = some (.int 1)) := by
  refine Con.intro pn8 Z0 (fun _ q => nomatch q) trivial #[.val (.ref y), .val (.int (Int32.ofNat (cs.length + 1))), .val (.int (Int32.ofNat P)), .val (.int (Int32.ofNat (nd P))), .val (.int (2 : Int32)), .val (.int (100 : Int32)), .unset] (fun m => by first | (simp [entryFrame, mkF, argsToLocals, Value.category]; done) | rfl) ?_
  intro p e s m below meth c T0 hlk hret hnm K0
  have P0 := Keep.refl h0 []
  have hnd := nd_bd P
  refine gIload K0 b40_0 (v := (2 : Int32)) rfl ?_
  refine gIloadN K0 b40_2 (v := (Int32.ofNat (nd P))) rfl ?_
  refine gIcmp_lt K0 b40_3 (fun q3 => ?_) (fun q3 => ?_)
  · skip
    refine gBipush K0 (48 : Int32) b40_8 rfl ?_
    refine gIloadN K0 b40_10 (v := (Int32.ofNat P)) rfl ?_
    refine gIload K0 b40_11 (v := (100 : Int32)) rfl ?_
    refine gIdiv K0 b40_13 (by decide) ?_
    refine gBipush K0 (10 : Int32) b40_14 rfl ?_
    refine gIrem K0 b40_16 (by decide) ?_
    refine gIadd K0 b40_17 ?_
    refine gI2c K0 b40_18 ?_
    rw [show (((48 : Int32) + (((Int32.ofNat P) / (100 : Int32)) % (10 : Int32)))).toUInt32.toUInt16.toUInt32.toInt32 = dgt P 2 from digcalc (w := 100) hP (by decide) (by decide)]
    have hk := ofNat_lt (k := 2) (n := nd P) (by decide) (by omega) q3
    refine gIstore K0 b40_19 (Ls' := #[.val (.ref y), .val (.int (Int32.ofNat (cs.length + 1))), .val (.int (Int32.ofNat P)), .val (.int (Int32.ofNat (nd P))), .val (.int (2 : Int32)), .val (.int (100 : Int32)), .val (.int (dgt P 2))]) rfl ?_
    refine gAloadN K0 b40_21 (v := (.ref y)) rfl rfl ?_
    refine gIloadN K0 b40_22 (v := (Int32.ofNat (cs.length + 1))) rfl ?_
    refine gIloadN K0 b40_23 (v := (Int32.ofNat (nd P))) rfl ?_
    refine gIadd K0 b40_24 ?_
    refine gIconst K0 (1 : Int32) b40_25 rfl ?_
    refine gIsub K0 b40_26 ?_
    refine gIload K0 b40_27 (v := (2 : Int32)) rfl ?_
    refine gIsub K0 b40_29 ?_
    rw [show ((((Int32.ofNat (cs.length + 1)) + (Int32.ofNat (nd P))) - (1 : Int32)) - (2 : Int32)) = (Int32.ofNat (cs.length + 1 + nd P - 1 - 2)) from idx4 (k := 2) hk (by omega)]
    refine gCallV K0 (W := 0) (C := "java/lang/String") y [(.int (Int32.ofNat (cs.length + 1 + nd P - 1 - 2)))] [] b40_30 (wd hw 191 rfl) (wd hw 192 rfl) (wd hw 194 rfl) (wd hw 193 rfl) (cal_ch hw (W := 0) (cs.length + 1 + nd P - 1 - 2) Sy Sc hz Sf rf (by rw [full_len]; omega) rfl (by decide) (by decide)) (Sy).exa (fun _ q => nomatch q) pd23 rfl rfl (Nat.le_of_eq rfl) rfl (by decide) (by decide) (by decide) (fun v101 T101 h101 K101 Q101 q101 => ?_)
    have E101 := Ext.of0 Q101
    have P102 := P0.ext E101
    cases q101
    rw [full_dig hk]
    refine gIload K101 b40_33 (v := (dgt P 2)) rfl ?_
    refine gIcmp_ne K101 b40_35 (fun q => absurd q (not_not_intro rfl)) (fun q35 => ?_)
    refine gIconst K101 (1 : Int32) b40_38 rfl ?_
    refine gGoto K101 b40_39 ?_
    refine gRetI K101 hlk hret (by simp) b40_43 rfl P102 (by decide) (by decide) ?_
    exact rfl
  · skip
    refine gIconst K0 (1 : Int32) b40_6 rfl ?_
    refine gRetI K0 hlk hret (by simp) b40_7 rfl P0 (by decide) (by decide) ?_
    exact rfl
set_option maxRecDepth 65536 in
set_option maxHeartbeats 40000000 in
theorem c_dok3 (l : Launch) (Z : State) (a0 : Array Value) (hw : ∀ d ∈ tables_1, d.before a0 Z = true) (h0 : Heap) (n0 : Nat) (Z0 : n0 ≤ h0.size) (y : Addr) (cs : List Int32) (P : Nat) (hP : P ≤ 65535) (hcl : cs.length ≤ 3) (Sy : StrL Z h0 y (full cs P)) (z : Int32) (Sc : Sta Z h0 "java/lang/String" "COMPACT_STRINGS" "Z" (.int z)) (hz : ¬ z = 0) (fm : Value) (Sf : Sta Z h0 "jdk/internal/util/Preconditions" "SIOOBE_FORMATTER" "Ljava/util/function/BiFunction;" fm) (rf : fm.isRef = true) :
    Con none l (⟨"com/example/outrigger/outrigger/model/AddressToStringPinLaw", "digitOk", "(Ljava/lang/String;IIIII)Z"⟩ : MethodName) method_3_code 7 (some .boolean) [] ({ frames := 4, cells := 0, slots := 0, locals := 60 } : Room) Z n0 h0 [] #[(.ref y), (.int (Int32.ofNat (cs.length + 1))), (.int (Int32.ofNat P)), (.int (Int32.ofNat (nd P))), (.int (3 : Int32)), (.int (1000 : Int32))] (fun v h => v = some (.int 1)) := by
  refine Con.intro pn8 Z0 (fun _ q => nomatch q) trivial #[.val (.ref y), .val (.int (Int32.ofNat (cs.length + 1))), .val (.int (Int32.ofNat P)), .val (.int (Int32.ofNat (nd P))), .val (.int (3 : Int32)), .val (.int (1000 : Int32)), .unset] (fun m => by first | (simp [entryFrame, mkF, argsToLocals, Value.category]; done) | rfl) ?_
  intro p e s m below meth c T0 hlk hret hnm K0
  have P0 := Keep.refl h0 []
  have hnd := nd_bd P
  refine gIload K0 b40_0 (v := (3 : Int32)) rfl ?_
  refine gIloadN K0 b40_2 (v := (Int32.ofNat (nd P))) rfl ?_
  refine gIcmp_lt K0 b40_3 (fun q3 => ?_) (fun q3 => ?_)
  · skip
    refine gBipush K0 (48 : Int32) b40_8 rfl ?_
    refine gIloadN K0 b40_10 (v := (Int32.ofNat P)) rfl ?_
    refine gIload K0 b40_11 (v := (1000 : Int32)) rfl ?_
    refine gIdiv K0 b40_13 (by decide) ?_
    refine gBipush K0 (10 : Int32) b40_14 rfl ?_
    refine gIrem K0 b40_16 (by decide) ?_
    refine gIadd K0 b40_17 ?_
    refine gI2c K0 b40_18 ?_
    rw [show (((48 : Int32) + (((Int32.ofNat P) / (1000 : Int32)) % (10 : Int32)))).toUInt32.toUInt16.toUInt32.toInt32 = dgt P 3 from digcalc (w := 1000) hP (by decide) (by decide)]
    have hk := ofNat_lt (k := 3) (n := nd P) (by decide) (by omega) q3
    refine gIstore K0 b40_19 (Ls' := #[.val (.ref y), .val (.int (Int32.ofNat (cs.length + 1))), .val (.int (Int32.ofNat P)), .val (.int (Int32.ofNat (nd P))), .val (.int (3 : Int32)), .val (.int (1000 : Int32)), .val (.int (dgt P 3))]) rfl ?_
    refine gAloadN K0 b40_21 (v := (.ref y)) rfl rfl ?_
    refine gIloadN K0 b40_22 (v := (Int32.ofNat (cs.length + 1))) rfl ?_
    refine gIloadN K0 b40_23 (v := (Int32.ofNat (nd P))) rfl ?_
    refine gIadd K0 b40_24 ?_
    refine gIconst K0 (1 : Int32) b40_25 rfl ?_
    refine gIsub K0 b40_26 ?_
    refine gIload K0 b40_27 (v := (3 : Int32)) rfl ?_
    refine gIsub K0 b40_29 ?_
    rw [show ((((Int32.ofNat (cs.length + 1)) + (Int32.ofNat (nd P))) - (1 : Int32)) - (3 : Int32)) = (Int32.ofNat (cs.length + 1 + nd P - 1 - 3)) from idx4 (k := 3) hk (by omega)]
    refine gCallV K0 (W := 0) (C := "java/lang/String") y [(.int (Int32.ofNat (cs.length + 1 + nd P - 1 - 3)))] [] b40_30 (wd hw 191 rfl) (wd hw 192 rfl) (wd hw 194 rfl) (wd hw 193 rfl) (cal_ch hw (W := 0) (cs.length + 1 + nd P - 1 - 3) Sy Sc hz Sf rf (by rw [full_len]; omega) rfl (by decide) (by decide)) (Sy).exa (fun _ q => nomatch q) pd23 rfl rfl (Nat.le_of_eq rfl) rfl (by decide) (by decide) (by decide) (fun v101 T101 h101 K101 Q101 q101 => ?_)
    have E101 := Ext.of0 Q101
    have P102 := P0.ext E101
    cases q101
    rw [full_dig hk]
    refine gIload K101 b40_33 (v := (dgt P 3)) rfl ?_
    refine gIcmp_ne K101 b40_35 (fun q => absurd q (not_not_intro rfl)) (fun q35 => ?_)
    refine gIconst K101 (1 : Int32) b40_38 rfl ?_
    refine gGoto K101 b40_39 ?_
    refine gRetI K101 hlk hret (by simp) b40_43 rfl P102 (by decide) (by decide) ?_
    exact rfl
  · skip
    refine gIconst K0 (1 : Int32) b40_6 rfl ?_
    refine gRetI K0 hlk hret (by simp) b40_7 rfl P0 (by decide) (by decide) ?_
    exact rfl
set_option maxRecDepth 65536 in
set_option maxHeartbeats 40000000 in
theorem c_dok4 (l : Launch) (Z : State) (a0 : Array Value) (hw : ∀ d ∈ tables_1, d.before a0 Z = true) (h0 : Heap) (n0 : Nat) (Z0 : n0 ≤ h0.size) (y : Addr) (cs : List Int32) (P : Nat) (hP : P ≤ 65535) (hcl : cs.length ≤ 3) (Sy : StrL Z h0 y (full cs P)) (z : Int32) (Sc : Sta Z h0 "java/lang/String" "COMPACT_STRINGS" "Z" (.int z)) (hz : ¬ z = 0) (fm : Value) (Sf : Sta Z h0 "jdk/internal/util/Preconditions" "SIOOBE_FORMATTER" "Ljava/util/function/BiFunction;" fm) (rf : fm.isRef = true) :
    Con none l (⟨"com/example/outrigger/outrigger/model/AddressToStringPinLaw", "digitOk", "(Ljava/lang/String;IIIII)Z"⟩ : MethodName) method_3_code 7 (some .boolean) [] ({ frames := 4, cells := 0, slots := 0, locals := 60 } : Room) Z n0 h0 [] #[(.ref y), (.int (Int32.ofNat (cs.length + 1))), (.int (Int32.ofNat P)), (.int (Int32.ofNat (nd P))), (.int (4 : Int32)), (.int (10000 : Int32))] (fun v h => v = some (.int 1)) := by
  refine Con.intro pn8 Z0 (fun _ q => nomatch q) trivial #[.val (.ref y), .val (.int (Int32.ofNat (cs.length + 1))), .val (.int (Int32.ofNat P)), .val (.int (Int32.ofNat (nd P))), .val (.int (4 : Int32)), .val (.int (10000 : Int32)), .unset] (fun m => by first | (simp [entryFrame, mkF, argsToLocals, Value.category]; done) | rfl) ?_
  intro p e s m below meth c T0 hlk hret hnm K0
  have P0 := Keep.refl h0 []
  have hnd := nd_bd P
  refine gIload K0 b40_0 (v := (4 : Int32)) rfl ?_
  refine gIloadN K0 b40_2 (v := (Int32.ofNat (nd P))) rfl ?_
  refine gIcmp_lt K0 b40_3 (fun q3 => ?_) (fun q3 => ?_)
  · skip
    refine gBipush K0 (48 : Int32) b40_8 rfl ?_
    refine gIloadN K0 b40_10 (v := (Int32.ofNat P)) rfl ?_
    refine gIload K0 b40_11 (v := (10000 : Int32)) rfl ?_
    refine gIdiv K0 b40_13 (by decide) ?_
    refine gBipush K0 (10 : Int32) b40_14 rfl ?_
    refine gIrem K0 b40_16 (by decide) ?_
    refine gIadd K0 b40_17 ?_
    refine gI2c K0 b40_18 ?_
    rw [show (((48 : Int32) + (((Int32.ofNat P) / (10000 : Int32)) % (10 : Int32)))).toUInt32.toUInt16.toUInt32.toInt32 = dgt P 4 from digcalc (w := 10000) hP (by decide) (by decide)]
    have hk := ofNat_lt (k := 4) (n := nd P) (by decide) (by omega) q3
    refine gIstore K0 b40_19 (Ls' := #[.val (.ref y), .val (.int (Int32.ofNat (cs.length + 1))), .val (.int (Int32.ofNat P)), .val (.int (Int32.ofNat (nd P))), .val (.int (4 : Int32)), .val (.int (10000 : Int32)), .val (.int (dgt P 4))]) rfl ?_
    refine gAloadN K0 b40_21 (v := (.ref y)) rfl rfl ?_
    refine gIloadN K0 b40_22 (v := (Int32.ofNat (cs.length + 1))) rfl ?_
    refine gIloadN K0 b40_23 (v := (Int32.ofNat (nd P))) rfl ?_
    refine gIadd K0 b40_24 ?_
    refine gIconst K0 (1 : Int32) b40_25 rfl ?_
    refine gIsub K0 b40_26 ?_
    refine gIload K0 b40_27 (v := (4 : Int32)) rfl ?_
    refine gIsub K0 b40_29 ?_
    rw [show ((((Int32.ofNat (cs.length + 1)) + (Int32.ofNat (nd P))) - (1 : Int32)) - (4 : Int32)) = (Int32.ofNat (cs.length + 1 + nd P - 1 - 4)) from idx4 (k := 4) hk (by omega)]
    refine gCallV K0 (W := 0) (C := "java/lang/String") y [(.int (Int32.ofNat (cs.length + 1 + nd P - 1 - 4)))] [] b40_30 (wd hw 191 rfl) (wd hw 192 rfl) (wd hw 194 rfl) (wd hw 193 rfl) (cal_ch hw (W := 0) (cs.length + 1 + nd P - 1 - 4) Sy Sc hz Sf rf (by rw [full_len]; omega) rfl (by decide) (by decide)) (Sy).exa (fun _ q => nomatch q) pd23 rfl rfl (Nat.le_of_eq rfl) rfl (by decide) (by decide) (by decide) (fun v101 T101 h101 K101 Q101 q101 => ?_)
    have E101 := Ext.of0 Q101
    have P102 := P0.ext E101
    cases q101
    rw [full_dig hk]
    refine gIload K101 b40_33 (v := (dgt P 4)) rfl ?_
    refine gIcmp_ne K101 b40_35 (fun q => absurd q (not_not_intro rfl)) (fun q35 => ?_)
    refine gIconst K101 (1 : Int32) b40_38 rfl ?_
    refine gGoto K101 b40_39 ?_
    refine gRetI K101 hlk hret (by simp) b40_43 rfl P102 (by decide) (by decide) ?_
    exact rfl
  · skip
    refine gIconst K0 (1 : Int32) b40_6 rfl ?_
    refine gRetI K0 hlk hret (by simp) b40_7 rfl P0 (by decide) (by decide) ?_
    exact rfl
set_option maxRecDepth 65536 in
set_option maxHeartbeats 40000000 in
theorem c_law (l : Launch) (Z : State) (a0 : Array Value) (hw : ∀ d ∈ tables_1, d.before a0 Z = true) (h0 : Heap) (n0 : Nat) (Z0 : n0 ≤ h0.size) (hE : EW Z a0 [("com/example/outrigger/outrigger/model/Address", 7), ("com/example/outrigger/outrigger/model/Address", 92), ("java/lang/String", 7)]) (a_ b_ c_ nn p_ : Int32) (ao at_ : Addr) (ko kt : ClassId) (So : Sta Z h0 "java/lang/Integer" "DigitOnes" "[B" (.ref ao)) (St_ : Sta Z h0 "java/lang/Integer" "DigitTens" "[B" (.ref at_)) (Ao : Arv Z h0 ao ko .byte 100 onesL (.int 0)) (At_ : Arv Z h0 at_ kt .byte 100 tensL (.int 0)) (z : Int32) (Sc : Sta Z h0 "java/lang/String" "COMPACT_STRINGS" "Z" (.int z)) (hz : ¬ z = 0) (fm : Value) (Sf : Sta Z h0 "jdk/internal/util/Preconditions" "SIOOBE_FORMATTER" "Ljava/util/function/BiFunction;" fm) (rf : fm.isRef = true) :
    Con (some [("com/example/outrigger/outrigger/model/Address", 7), ("com/example/outrigger/outrigger/model/Address", 92), ("java/lang/String", 7)]) l (⟨"com/example/outrigger/outrigger/model/AddressToStringPinLaw", "law", "(IIIII)Z"⟩ : MethodName) code maxLocals ret tables_1 room_1 Z n0 h0 [] #[(.int a_), (.int b_), (.int c_), (.int nn), (.int p_)] (fun v h => v = some (.int 1)) := by
  refine Con.intro pn8 Z0 (fun _ q => nomatch q) ⟨a0, hE⟩ #[.val (.int a_), .val (.int b_), .val (.int c_), .val (.int nn), .val (.int p_), .unset, .unset, .unset, .unset, .unset, .unset, .unset, .unset, .unset, .unset] (fun m => by first | (simp [entryFrame, mkF, argsToLocals, Value.category, maxLocals]; done) | rfl) ?_
  intro p e s m below meth c T0 hlk hret hnm K0
  have P0 := Keep.refl h0 []
  refine gIloadN K0 L_0 (v := nn) rfl ?_
  refine gIconst K0 (3 : Int32) L_1 rfl ?_
  refine gIand K0 L_2 ?_
  have hm4 := and3 nn
  generalize (nn &&& (3 : Int32)) = ln at hm4 ⊢
  refine gIstore K0 L_3 (Ls' := #[.val (.int a_), .val (.int b_), .val (.int c_), .val (.int nn), .val (.int p_), .val (.int ln), .unset, .unset, .unset, .unset, .unset, .unset, .unset, .unset, .unset]) rfl ?_
  refine gIloadN K0 L_5 (v := a_) rfl ?_
  refine gSipush K0 (255 : Int32) L_6 rfl ?_
  refine gIand K0 L_9 ?_
  refine gI2c K0 L_10 ?_
  have hb0 := and255c a_
  generalize ((a_ &&& (255 : Int32))).toUInt32.toUInt16.toUInt32.toInt32 = r0 at hb0 ⊢
  refine gIstore K0 L_11 (Ls' := #[.val (.int a_), .val (.int b_), .val (.int c_), .val (.int nn), .val (.int p_), .val (.int ln), .val (.int r0), .unset, .unset, .unset, .unset, .unset, .unset, .unset, .unset]) rfl ?_
  refine gIloadN K0 L_13 (v := b_) rfl ?_
  refine gSipush K0 (255 : Int32) L_14 rfl ?_
  refine gIand K0 L_17 ?_
  refine gI2c K0 L_18 ?_
  have hb1 := and255c b_
  generalize ((b_ &&& (255 : Int32))).toUInt32.toUInt16.toUInt32.toInt32 = r1 at hb1 ⊢
  refine gIstore K0 L_19 (Ls' := #[.val (.int a_), .val (.int b_), .val (.int c_), .val (.int nn), .val (.int p_), .val (.int ln), .val (.int r0), .val (.int r1), .unset, .unset, .unset, .unset, .unset, .unset, .unset]) rfl ?_
  refine gIloadN K0 L_21 (v := c_) rfl ?_
  refine gSipush K0 (255 : Int32) L_22 rfl ?_
  refine gIand K0 L_25 ?_
  refine gI2c K0 L_26 ?_
  have hb2 := and255c c_
  generalize ((c_ &&& (255 : Int32))).toUInt32.toUInt16.toUInt32.toInt32 = r2 at hb2 ⊢
  refine gIstore K0 L_27 (Ls' := #[.val (.int a_), .val (.int b_), .val (.int c_), .val (.int nn), .val (.int p_), .val (.int ln), .val (.int r0), .val (.int r1), .val (.int r2), .unset, .unset, .unset, .unset, .unset, .unset]) rfl ?_
  have j111 : ∀ (xa : Addr) (kC : ClassId) (dv : Value) (cs : List Int32) (hcl : cs.length ≤ 3) (hpc : ∀ c ∈ cs, ¬ c < 0 ∧ ¬ (255 : Int32) < c) (hr0 : 0 < cs.length → cs.getD 0 0 = r0) (hr1 : 1 < cs.length → cs.getD 1 0 = r1) (hr2 : 2 < cs.length → cs.getD 2 0 = r2) (Tj : State) (hj : Heap) (Kj : Cx p l e room_1 s m #[(.int a_), (.int b_), (.int c_), (.int nn), (.int p_)] below meth c code maxLocals Z "com/example/outrigger/outrigger/model/AddressToStringPinLaw" n0 (some [("com/example/outrigger/outrigger/model/Address", 7), ("com/example/outrigger/outrigger/model/Address", 92), ("java/lang/String", 7)]) Tj hj [xa] 1 3) (Pj : Keep h0 hj []) (Axa : Arv Z hj xa kC .char (Int32.ofNat cs.length) (cs.map Value.int) dv) (Scj : Sta Z hj "java/lang/String" "COMPACT_STRINGS" "Z" (.int z)) (Sfj : Sta Z hj "jdk/internal/util/Preconditions" "SIOOBE_FORMATTER" "Ljava/util/function/BiFunction;" fm) (Soj : Sta Z hj "java/lang/Integer" "DigitOnes" "[B" (.ref ao)) (Stj : Sta Z hj "java/lang/Integer" "DigitTens" "[B" (.ref at_)) (Aoj : Arv Z hj ao ko .byte 100 onesL (.int 0)) (Atj : Arv Z hj at_ kt .byte 100 tensL (.int 0)), Go p e below (End (some [("com/example/outrigger/outrigger/model/Address", 7), ("com/example/outrigger/outrigger/model/Address", 92), ("java/lang/String", 7)]) s Z n0 h0 [] room_1.cells room_1.slots (fun v h => v = some (.int 1))) Tj (mkF m 111 #[.val (.int a_), .val (.int b_), .val (.int c_), .val (.int nn), .val (.int p_), .val (.int (Int32.ofNat cs.length)), .val (.int r0), .val (.int r1), .val (.int r2), .val (.ref xa), .unset, .unset, .unset, .unset, .unset] []) := by
    intro xa kC dv cs hcl hpc hr0 hr1 hr2 Tj hj Kj Pj Axa Scj Sfj Soj Stj Aoj Atj
    refine gNew Kj L_111 (wd hw 1 rfl) (wd hw 2 rfl) (wd hw 3 rfl) (by decide) (by decide) (fun T101 h101 x101 K101 E101 g101 A101 D101 ne101 => ?_)
    have P102 := Pj.ext E101
    have ge_x101 : h0.size ≤ x101 := by rw [g101]; exact Pj.1
    have F103 : Fld Z h101 x101 "java/lang/String" "value" "[B" .null := (D101 (Or.inr (wd hw 29 rfl)) (ty := (.array .byte)) (by decide))
    have F104 : Fld Z h101 x101 "java/lang/String" "coder" "B" (.int (0 : Int32)) := (D101 (Or.inr (wd hw 27 rfl)) (ty := .byte) (by decide))
    refine gDup K101 L_114 rfl ?_
    refine gAload K101 L_115 (v := (.ref xa)) rfl rfl ?_
    refine gCallI K101 (W := 1) x101 [(.ref xa)] [(.ref x101)] L_117 rfl (wd hw 4 rfl) (wd hw 5 rfl) (wd hw 6 rfl) (cal_str hw hE (W := 1) (cs := cs) cs.length (K101.wsge (me 0 rfl)) K101.n0le A101 F103 F104 (Axa.ext E101) (Scj.ext E101) hz rfl (by omega) hpc (by decide) (by decide) 8 (by omega) (by decide)) (fun z q => by cases List.mem_singleton.mp q; exact (me 0 rfl)) pd24 rfl rfl (Nat.le_of_eq rfl) rfl (by decide) (by decide) (by decide) (fun v105 T105 h105 K105 Q105 q105 => ?_)
    have P106 := P102.trans Q105 (fun z q => by cases List.mem_singleton.mp q; exact Or.inr ge_x101)
    obtain ⟨rfl, St105⟩ := q105
    refine gAstore K105 L_120 rfl (Ls' := #[.val (.int a_), .val (.int b_), .val (.int c_), .val (.int nn), .val (.int p_), .val (.int (Int32.ofNat cs.length)), .val (.int r0), .val (.int r1), .val (.int r2), .val (.ref xa), .val (.ref x101), .unset, .unset, .unset, .unset]) rfl ?_
    refine gIload K105 L_122 (v := p_) rfl ?_
    refine gLdcI K105 (2147483647 : Int32) L_124 (wd hw 30 rfl) ?_
    refine gIand K105 L_126 ?_
    refine gLdcI K105 (65535 : Int32) L_127 (wd hw 31 rfl) ?_
    refine gIrem K105 L_129 (by decide) ?_
    refine gIconst K105 (1 : Int32) L_130 rfl ?_
    refine gIadd K105 L_131 ?_
    obtain ⟨P, hP0, hP, eP⟩ := port_nat p_
    rw [show (((p_ &&& (2147483647 : Int32)) % (65535 : Int32)) + (1 : Int32)) = Int32.ofNat P from eP]
    refine gIstore K105 L_132 (Ls' := #[.val (.int a_), .val (.int b_), .val (.int c_), .val (.int nn), .val (.int p_), .val (.int (Int32.ofNat cs.length)), .val (.int r0), .val (.int r1), .val (.int r2), .val (.ref xa), .val (.ref x101), .val (.int (Int32.ofNat P)), .unset, .unset, .unset]) rfl ?_
    refine gNew K105 L_134 (wd hw 32 rfl) (wd hw 33 rfl) (wd hw 34 rfl) (by decide) (by decide) (fun T107 h107 x107 K107 E107 g107 A107 D107 ne107 => ?_)
    have P108 := P106.ext E107
    have ge_x107 : h0.size ≤ x107 := by rw [g107]; exact P106.1
    have F109 : Fld Z h107 x107 "com/example/outrigger/outrigger/model/Address" "host" "Ljava/lang/String;" .null := (D107 (Or.inr (wd hw 53 rfl)) (ty := (.object "java/lang/String")) (by decide))
    have F110 : Fld Z h107 x107 "com/example/outrigger/outrigger/model/Address" "port" "I" (.int (0 : Int32)) := (D107 (Or.inr (wd hw 55 rfl)) (ty := .int) (by decide))
    refine gDup K107 L_137 rfl ?_
    refine gAload K107 L_138 (v := (.ref x101)) rfl rfl ?_
    refine gIload K107 L_140 (v := (Int32.ofNat P)) rfl ?_
    refine gCallI K107 (W := 1) x107 [(.ref x101), (.int (Int32.ofNat P))] [(.ref x107)] L_142 rfl (wd hw 35 rfl) (wd hw 36 rfl) (wd hw 37 rfl) (Cal.ofW (W := 1) (c_addr l Z a0 hw h107 n0 K107.n0le x107 x101 P _ _ hP0 hP (K107.wsge (me 0 rfl)) A107 F109 F110 hE) (wd hw 37 rfl) (wd hw 34 rfl) (by decide) (by decide)) (fun z q => by cases List.mem_singleton.mp q; exact (me 0 rfl)) pd25 rfl rfl (Nat.le_of_eq rfl) rfl (by decide) (by decide) (by decide) (fun v111 T111 h111 K111 Q111 q111 => ?_)
    have P112 := P108.trans Q111 (fun z q => by cases List.mem_singleton.mp q; exact Or.inr ge_x107)
    obtain ⟨rfl, Ea111, Fh111, Fp111⟩ := q111
    refine gCallV K111 (W := 0) (C := "com/example/outrigger/outrigger/model/Address") x107 [] [] L_145 (wd hw 56 rfl) (wd hw 57 rfl) (wd hw 59 rfl) (wd hw 58 rfl) (Cal.ofW (W := 0) (c_aS l Z a0 hw h111 n0 K111.n0le x107 x101 P cs hP hcl hpc (St105.ext (Ext.kp1 E107 Q111 (Nat.le_of_eq g107.symm))) Fh111 Fp111 ao at_ ko kt (Soj.ext (Ext.kp1 (Ext.tr (Ext.kp1 E101 Q105 (Nat.le_of_eq g101.symm)) E107) Q111 (Nat.le_trans (Ext.kp1 E101 Q105 (Nat.le_of_eq g101.symm)).1 (Nat.le_of_eq g107.symm)))) (Stj.ext (Ext.kp1 (Ext.tr (Ext.kp1 E101 Q105 (Nat.le_of_eq g101.symm)) E107) Q111 (Nat.le_trans (Ext.kp1 E101 Q105 (Nat.le_of_eq g101.symm)).1 (Nat.le_of_eq g107.symm)))) (Aoj.ext (Ext.kp1 (Ext.tr (Ext.kp1 E101 Q105 (Nat.le_of_eq g101.symm)) E107) Q111 (Nat.le_trans (Ext.kp1 E101 Q105 (Nat.le_of_eq g101.symm)).1 (Nat.le_of_eq g107.symm)))) (Atj.ext (Ext.kp1 (Ext.tr (Ext.kp1 E101 Q105 (Nat.le_of_eq g101.symm)) E107) Q111 (Nat.le_trans (Ext.kp1 E101 Q105 (Nat.le_of_eq g101.symm)).1 (Nat.le_of_eq g107.symm)))) z (Scj.ext (Ext.kp1 (Ext.tr (Ext.kp1 E101 Q105 (Nat.le_of_eq g101.symm)) E107) Q111 (Nat.le_trans (Ext.kp1 E101 Q105 (Nat.le_of_eq g101.symm)).1 (Nat.le_of_eq g107.symm)))) hz hE) (wd hw 60 rfl) (wd hw 34 rfl) (by decide) (by decide)) Ea111 (fun _ q => nomatch q) pd22 rfl rfl (Nat.le_of_eq rfl) rfl (by decide) (by decide) (by decide) (fun v113 T113 h113 K113 Q113 q113 => ?_)
    have E113 := Ext.of0 Q113
    have P114 := P112.ext E113
    obtain ⟨y, rfl, Sy⟩ := q113
    have hnd := nd_bd P
    refine gAstore K113 L_148 rfl (Ls' := #[.val (.int a_), .val (.int b_), .val (.int c_), .val (.int nn), .val (.int p_), .val (.int (Int32.ofNat cs.length)), .val (.int r0), .val (.int r1), .val (.int r2), .val (.ref xa), .val (.ref x101), .val (.int (Int32.ofNat P)), .val (.ref y), .unset, .unset]) rfl ?_
    have j207 : ∀ (T115 : State) (K115 : Cx p l e room_1 s m #[(.int a_), (.int b_), (.int c_), (.int nn), (.int p_)] below meth c code maxLocals Z "com/example/outrigger/outrigger/model/AddressToStringPinLaw" n0 (some [("com/example/outrigger/outrigger/model/Address", 7), ("com/example/outrigger/outrigger/model/Address", 92), ("java/lang/String", 7)]) T115 h113 [x107, x101, xa] 17 101) (dd : Nat) (hdd : nd P = dd), Go p e below (End (some [("com/example/outrigger/outrigger/model/Address", 7), ("com/example/outrigger/outrigger/model/Address", 92), ("java/lang/String", 7)]) s Z n0 h0 [] room_1.cells room_1.slots (fun v h => v = some (.int 1))) T115 (mkF m 207 #[.val (.int a_), .val (.int b_), .val (.int c_), .val (.int nn), .val (.int p_), .val (.int (Int32.ofNat cs.length)), .val (.int r0), .val (.int r1), .val (.int r2), .val (.ref xa), .val (.ref x101), .val (.int (Int32.ofNat P)), .val (.ref y), .val (.int (Int32.ofNat dd)), .unset] []) := by
      intro T115 K115 dd hdd
      subst hdd
      refine gAload K115 L_207 (v := (.ref y)) rfl rfl ?_
      refine gIfnull_f K115 L_209 ?_
      refine gAload K115 L_212 (v := (.ref y)) rfl rfl ?_
      refine gCallV K115 (W := 0) (C := "java/lang/String") y [] [] L_214 (wd hw 190 rfl) (wd hw 90 rfl) (wd hw 92 rfl) (wd hw 91 rfl) (cal_len hw (W := 0) Sy (Scj.ext (Ext.tr (Ext.kp1 (Ext.tr (Ext.kp1 E101 Q105 (Nat.le_of_eq g101.symm)) E107) Q111 (Nat.le_trans (Ext.kp1 E101 Q105 (Nat.le_of_eq g101.symm)).1 (Nat.le_of_eq g107.symm))) E113)) hz (by decide) (by decide)) (Sy).exa (fun _ q => nomatch q) pd1 rfl rfl (Nat.le_of_eq rfl) rfl (by decide) (by decide) (by decide) (fun v116 T116 h116 K116 Q116 q116 => ?_)
      have E116 := Ext.of0 Q116
      have P117 := P114.ext E116
      cases q116
      rw [full_len]
      refine gIload K116 L_217 (v := (Int32.ofNat cs.length)) rfl ?_
      refine gIconst K116 (1 : Int32) L_219 rfl ?_
      refine gIadd K116 L_220 ?_
      rw [show ((Int32.ofNat cs.length) + (1 : Int32)) = (Int32.ofNat (cs.length + 1)) from ofNat_add (b := 1) (by omega)]
      refine gIload K116 L_221 (v := (Int32.ofNat (nd P))) rfl ?_
      refine gIadd K116 L_223 ?_
      rw [show ((Int32.ofNat (cs.length + 1)) + (Int32.ofNat (nd P))) = (Int32.ofNat (cs.length + 1 + nd P)) from ofNat_add (by omega)]
      refine gIcmp_eq K116 L_224 (fun q224 => ?_) (fun q => absurd q (not_not_intro rfl))
      have j285 : ∀  (Tj : State) (hj : Heap) (Kj : Cx p l e room_1 s m #[(.int a_), (.int b_), (.int c_), (.int nn), (.int p_)] below meth c code maxLocals Z "com/example/outrigger/outrigger/model/AddressToStringPinLaw" n0 (some [("com/example/outrigger/outrigger/model/Address", 7), ("com/example/outrigger/outrigger/model/Address", 92), ("java/lang/String", 7)]) Tj hj [x107, x101, xa] 17 101) (Pj : Keep h0 hj []) (Syj : StrL Z hj y (full cs P)) (Scj : Sta Z hj "java/lang/String" "COMPACT_STRINGS" "Z" (.int z)) (Sfj : Sta Z hj "jdk/internal/util/Preconditions" "SIOOBE_FORMATTER" "Ljava/util/function/BiFunction;" fm), Go p e below (End (some [("com/example/outrigger/outrigger/model/Address", 7), ("com/example/outrigger/outrigger/model/Address", 92), ("java/lang/String", 7)]) s Z n0 h0 [] room_1.cells room_1.slots (fun v h => v = some (.int 1))) Tj (mkF m 285 #[.val (.int a_), .val (.int b_), .val (.int c_), .val (.int nn), .val (.int p_), .val (.int (Int32.ofNat cs.length)), .val (.int r0), .val (.int r1), .val (.int r2), .val (.ref xa), .val (.ref x101), .val (.int (Int32.ofNat P)), .val (.ref y), .val (.int (Int32.ofNat (nd P))), .unset] []) := by
        intro  Tj hj Kj Pj Syj Scj Sfj
        refine gAload Kj L_285 (v := (.ref y)) rfl rfl ?_
        refine gIload Kj L_287 (v := (Int32.ofNat cs.length)) rfl ?_
        refine gCallV Kj (W := 0) (C := "java/lang/String") y [(.int (Int32.ofNat cs.length))] [] L_289 (wd hw 191 rfl) (wd hw 192 rfl) (wd hw 194 rfl) (wd hw 193 rfl) (cal_ch hw (W := 0) (cs.length) Syj Scj hz Sfj rf (by rw [full_len]; omega) rfl (by decide) (by decide)) (Syj).exa (fun _ q => nomatch q) pd23 rfl rfl (Nat.le_of_eq rfl) rfl (by decide) (by decide) (by decide) (fun v118 T118 h118 K118 Q118 q118 => ?_)
        have E118 := Ext.of0 Q118
        have P119 := Pj.ext E118
        cases q118
        rw [full_colon]
        refine gBipush K118 (58 : Int32) L_292 rfl ?_
        refine gIcmp_eq K118 L_294 (fun q294 => ?_) (fun q => absurd q (by first | decide | (intro hh; cases hh) | simp))
        refine gIload K118 L_299 (v := (Int32.ofNat cs.length)) rfl ?_
        refine gIconst K118 (1 : Int32) L_301 rfl ?_
        refine gIadd K118 L_302 ?_
        rw [show ((Int32.ofNat cs.length) + (1 : Int32)) = (Int32.ofNat (cs.length + 1)) from ofNat_add (b := 1) (by omega)]
        refine gIstore K118 L_303 (Ls' := #[.val (.int a_), .val (.int b_), .val (.int c_), .val (.int nn), .val (.int p_), .val (.int (Int32.ofNat cs.length)), .val (.int r0), .val (.int r1), .val (.int r2), .val (.ref xa), .val (.ref x101), .val (.int (Int32.ofNat P)), .val (.ref y), .val (.int (Int32.ofNat (nd P))), .val (.int (Int32.ofNat (cs.length + 1)))]) rfl ?_
        refine gAload K118 L_305 (v := (.ref y)) rfl rfl ?_
        refine gIload K118 L_307 (v := (Int32.ofNat (cs.length + 1))) rfl ?_
        refine gIload K118 L_309 (v := (Int32.ofNat P)) rfl ?_
        refine gIload K118 L_311 (v := (Int32.ofNat (nd P))) rfl ?_
        refine gIconst K118 (0 : Int32) L_313 rfl ?_
        refine gIconst K118 (1 : Int32) L_314 rfl ?_
        refine gCallS K118 (W := 0) [(.ref y), (.int (Int32.ofNat (cs.length + 1))), (.int (Int32.ofNat P)), (.int (Int32.ofNat (nd P))), (.int (0 : Int32)), (.int (1 : Int32))] [] L_315 (wd hw 213 rfl) (wd hw 214 rfl) (wd hw 215 rfl) (wd hw 216 rfl) (Cal.ofN (W := 0) (c_dok0 l Z a0 hw h118 n0 K118.n0le y cs P hP hcl (Syj.ext E118) z (Scj.ext E118) hz fm (Sfj.ext E118) rf) (wd hw 216 rfl) (wd hw 215 rfl) (by decide) (by decide)) (fun _ q => nomatch q) pd26 rfl rfl (Nat.le_of_eq rfl) rfl (by decide) (by decide) (by decide) (fun v120 T120 h120 K120 Q120 q120 => ?_)
        have E120 := Ext.of0 Q120
        have P121 := P119.ext E120
        cases q120
        refine gIf_eq K120 L_318 (fun q => absurd q (by first | decide | (intro hh; cases hh) | simp)) (fun q318 => ?_)
        refine gAload K120 L_321 (v := (.ref y)) rfl rfl ?_
        refine gIload K120 L_323 (v := (Int32.ofNat (cs.length + 1))) rfl ?_
        refine gIload K120 L_325 (v := (Int32.ofNat P)) rfl ?_
        refine gIload K120 L_327 (v := (Int32.ofNat (nd P))) rfl ?_
        refine gIconst K120 (1 : Int32) L_329 rfl ?_
        refine gBipush K120 (10 : Int32) L_330 rfl ?_
        refine gCallS K120 (W := 0) [(.ref y), (.int (Int32.ofNat (cs.length + 1))), (.int (Int32.ofNat P)), (.int (Int32.ofNat (nd P))), (.int (1 : Int32)), (.int (10 : Int32))] [] L_332 (wd hw 213 rfl) (wd hw 214 rfl) (wd hw 215 rfl) (wd hw 216 rfl) (Cal.ofN (W := 0) (c_dok1 l Z a0 hw h120 n0 K120.n0le y cs P hP hcl (Syj.ext (Ext.tr E118 E120)) z (Scj.ext (Ext.tr E118 E120)) hz fm (Sfj.ext (Ext.tr E118 E120)) rf) (wd hw 216 rfl) (wd hw 215 rfl) (by decide) (by decide)) (fun _ q => nomatch q) pd26 rfl rfl (Nat.le_of_eq rfl) rfl (by decide) (by decide) (by decide) (fun v122 T122 h122 K122 Q122 q122 => ?_)
        have E122 := Ext.of0 Q122
        have P123 := P121.ext E122
        cases q122
        refine gIf_eq K122 L_335 (fun q => absurd q (by first | decide | (intro hh; cases hh) | simp)) (fun q335 => ?_)
        refine gAload K122 L_338 (v := (.ref y)) rfl rfl ?_
        refine gIload K122 L_340 (v := (Int32.ofNat (cs.length + 1))) rfl ?_
        refine gIload K122 L_342 (v := (Int32.ofNat P)) rfl ?_
        refine gIload K122 L_344 (v := (Int32.ofNat (nd P))) rfl ?_
        refine gIconst K122 (2 : Int32) L_346 rfl ?_
        refine gBipush K122 (100 : Int32) L_347 rfl ?_
        refine gCallS K122 (W := 0) [(.ref y), (.int (Int32.ofNat (cs.length + 1))), (.int (Int32.ofNat P)), (.int (Int32.ofNat (nd P))), (.int (2 : Int32)), (.int (100 : Int32))] [] L_349 (wd hw 213 rfl) (wd hw 214 rfl) (wd hw 215 rfl) (wd hw 216 rfl) (Cal.ofN (W := 0) (c_dok2 l Z a0 hw h122 n0 K122.n0le y cs P hP hcl (Syj.ext (Ext.tr (Ext.tr E118 E120) E122)) z (Scj.ext (Ext.tr (Ext.tr E118 E120) E122)) hz fm (Sfj.ext (Ext.tr (Ext.tr E118 E120) E122)) rf) (wd hw 216 rfl) (wd hw 215 rfl) (by decide) (by decide)) (fun _ q => nomatch q) pd26 rfl rfl (Nat.le_of_eq rfl) rfl (by decide) (by decide) (by decide) (fun v124 T124 h124 K124 Q124 q124 => ?_)
        have E124 := Ext.of0 Q124
        have P125 := P123.ext E124
        cases q124
        refine gIf_eq K124 L_352 (fun q => absurd q (by first | decide | (intro hh; cases hh) | simp)) (fun q352 => ?_)
        refine gAload K124 L_355 (v := (.ref y)) rfl rfl ?_
        refine gIload K124 L_357 (v := (Int32.ofNat (cs.length + 1))) rfl ?_
        refine gIload K124 L_359 (v := (Int32.ofNat P)) rfl ?_
        refine gIload K124 L_361 (v := (Int32.ofNat (nd P))) rfl ?_
        refine gIconst K124 (3 : Int32) L_363 rfl ?_
        refine gSipush K124 (1000 : Int32) L_364 rfl ?_
        refine gCallS K124 (W := 0) [(.ref y), (.int (Int32.ofNat (cs.length + 1))), (.int (Int32.ofNat P)), (.int (Int32.ofNat (nd P))), (.int (3 : Int32)), (.int (1000 : Int32))] [] L_367 (wd hw 213 rfl) (wd hw 214 rfl) (wd hw 215 rfl) (wd hw 216 rfl) (Cal.ofN (W := 0) (c_dok3 l Z a0 hw h124 n0 K124.n0le y cs P hP hcl (Syj.ext (Ext.tr (Ext.tr (Ext.tr E118 E120) E122) E124)) z (Scj.ext (Ext.tr (Ext.tr (Ext.tr E118 E120) E122) E124)) hz fm (Sfj.ext (Ext.tr (Ext.tr (Ext.tr E118 E120) E122) E124)) rf) (wd hw 216 rfl) (wd hw 215 rfl) (by decide) (by decide)) (fun _ q => nomatch q) pd26 rfl rfl (Nat.le_of_eq rfl) rfl (by decide) (by decide) (by decide) (fun v126 T126 h126 K126 Q126 q126 => ?_)
        have E126 := Ext.of0 Q126
        have P127 := P125.ext E126
        cases q126
        refine gIf_eq K126 L_370 (fun q => absurd q (by first | decide | (intro hh; cases hh) | simp)) (fun q370 => ?_)
        refine gAload K126 L_373 (v := (.ref y)) rfl rfl ?_
        refine gIload K126 L_375 (v := (Int32.ofNat (cs.length + 1))) rfl ?_
        refine gIload K126 L_377 (v := (Int32.ofNat P)) rfl ?_
        refine gIload K126 L_379 (v := (Int32.ofNat (nd P))) rfl ?_
        refine gIconst K126 (4 : Int32) L_381 rfl ?_
        refine gSipush K126 (10000 : Int32) L_382 rfl ?_
        refine gCallS K126 (W := 0) [(.ref y), (.int (Int32.ofNat (cs.length + 1))), (.int (Int32.ofNat P)), (.int (Int32.ofNat (nd P))), (.int (4 : Int32)), (.int (10000 : Int32))] [] L_385 (wd hw 213 rfl) (wd hw 214 rfl) (wd hw 215 rfl) (wd hw 216 rfl) (Cal.ofN (W := 0) (c_dok4 l Z a0 hw h126 n0 K126.n0le y cs P hP hcl (Syj.ext (Ext.tr (Ext.tr (Ext.tr (Ext.tr E118 E120) E122) E124) E126)) z (Scj.ext (Ext.tr (Ext.tr (Ext.tr (Ext.tr E118 E120) E122) E124) E126)) hz fm (Sfj.ext (Ext.tr (Ext.tr (Ext.tr (Ext.tr E118 E120) E122) E124) E126)) rf) (wd hw 216 rfl) (wd hw 215 rfl) (by decide) (by decide)) (fun _ q => nomatch q) pd26 rfl rfl (Nat.le_of_eq rfl) rfl (by decide) (by decide) (by decide) (fun v128 T128 h128 K128 Q128 q128 => ?_)
        have E128 := Ext.of0 Q128
        have P129 := P127.ext E128
        cases q128
        refine gIf_eq K128 L_388 (fun q => absurd q (by first | decide | (intro hh; cases hh) | simp)) (fun q388 => ?_)
        refine gIconst K128 (1 : Int32) L_391 rfl ?_
        refine gGoto K128 L_392 ?_
        refine gRetI K128 hlk hret (by simp) L_396 rfl P129 (by decide) (by decide) ?_
        exact rfl
      refine gIload K116 L_229 (v := (Int32.ofNat cs.length)) rfl ?_
      refine gIf_le K116 L_231 (fun q231 => ?_) (fun q231 => ?_)
      · skip
        refine gIload K116 L_247 (v := (Int32.ofNat cs.length)) rfl ?_
        refine gIconst K116 (1 : Int32) L_249 rfl ?_
        refine gIcmp_le K116 L_250 (fun q250 => ?_) (fun q => absurd q (fun hh => q231 (Int32.lt_trans (by decide) hh)))
        refine gIload K116 L_266 (v := (Int32.ofNat cs.length)) rfl ?_
        refine gIconst K116 (2 : Int32) L_268 rfl ?_
        refine gIcmp_le K116 L_269 (fun q269 => ?_) (fun q => absurd q (fun hh => q231 (Int32.lt_trans (by decide) hh)))
        exact j285  _ _ K116 P117 (Sy.ext E116) (Scj.ext (Ext.tr (Ext.tr (Ext.kp1 (Ext.tr (Ext.kp1 E101 Q105 (Nat.le_of_eq g101.symm)) E107) Q111 (Nat.le_trans (Ext.kp1 E101 Q105 (Nat.le_of_eq g101.symm)).1 (Nat.le_of_eq g107.symm))) E113) E116)) (Sfj.ext (Ext.tr (Ext.tr (Ext.kp1 (Ext.tr (Ext.kp1 E101 Q105 (Nat.le_of_eq g101.symm)) E107) Q111 (Nat.le_trans (Ext.kp1 E101 Q105 (Nat.le_of_eq g101.symm)).1 (Nat.le_of_eq g107.symm))) E113) E116))
      · skip
        refine gAload K116 L_234 (v := (.ref y)) rfl rfl ?_
        refine gIconst K116 (0 : Int32) L_236 rfl ?_
        have hi0 : 0 < cs.length := ofNat_lt (k := 0) (by decide) (by omega) q231
        refine gCallV K116 (W := 0) (C := "java/lang/String") y [(.int (0 : Int32))] [] L_237 (wd hw 191 rfl) (wd hw 192 rfl) (wd hw 194 rfl) (wd hw 193 rfl) (cal_ch hw (W := 0) (0) (Sy.ext E116) (Scj.ext (Ext.tr (Ext.tr (Ext.kp1 (Ext.tr (Ext.kp1 E101 Q105 (Nat.le_of_eq g101.symm)) E107) Q111 (Nat.le_trans (Ext.kp1 E101 Q105 (Nat.le_of_eq g101.symm)).1 (Nat.le_of_eq g107.symm))) E113) E116)) hz (Sfj.ext (Ext.tr (Ext.tr (Ext.kp1 (Ext.tr (Ext.kp1 E101 Q105 (Nat.le_of_eq g101.symm)) E107) Q111 (Nat.le_trans (Ext.kp1 E101 Q105 (Nat.le_of_eq g101.symm)).1 (Nat.le_of_eq g107.symm))) E113) E116)) rf (by rw [full_len]; omega) rfl (by decide) (by decide)) ((Sy.ext E116)).exa (fun _ q => nomatch q) pd23 rfl rfl (Nat.le_of_eq rfl) rfl (by decide) (by decide) (by decide) (fun v130 T130 h130 K130 Q130 q130 => ?_)
        have E130 := Ext.of0 Q130
        have P131 := P117.ext E130
        cases q130
        rw [full_host hi0, hr0 hi0]
        refine gIload K130 L_240 (v := r0) rfl ?_
        refine gIcmp_eq K130 L_242 (fun q242 => ?_) (fun q => absurd q (not_not_intro rfl))
        refine gIload K130 L_247 (v := (Int32.ofNat cs.length)) rfl ?_
        refine gIconst K130 (1 : Int32) L_249 rfl ?_
        refine gIcmp_le K130 L_250 (fun q250 => ?_) (fun q250 => ?_)
        · skip
          refine gIload K130 L_266 (v := (Int32.ofNat cs.length)) rfl ?_
          refine gIconst K130 (2 : Int32) L_268 rfl ?_
          refine gIcmp_le K130 L_269 (fun q269 => ?_) (fun q => absurd q (fun hh => q250 (Int32.lt_trans (by decide) hh)))
          exact j285  _ _ K130 P131 (Sy.ext (Ext.tr E116 E130)) (Scj.ext (Ext.tr (Ext.tr (Ext.tr (Ext.kp1 (Ext.tr (Ext.kp1 E101 Q105 (Nat.le_of_eq g101.symm)) E107) Q111 (Nat.le_trans (Ext.kp1 E101 Q105 (Nat.le_of_eq g101.symm)).1 (Nat.le_of_eq g107.symm))) E113) E116) E130)) (Sfj.ext (Ext.tr (Ext.tr (Ext.tr (Ext.kp1 (Ext.tr (Ext.kp1 E101 Q105 (Nat.le_of_eq g101.symm)) E107) Q111 (Nat.le_trans (Ext.kp1 E101 Q105 (Nat.le_of_eq g101.symm)).1 (Nat.le_of_eq g107.symm))) E113) E116) E130))
        · skip
          refine gAload K130 L_253 (v := (.ref y)) rfl rfl ?_
          refine gIconst K130 (1 : Int32) L_255 rfl ?_
          have hi1 : 1 < cs.length := ofNat_lt (k := 1) (by decide) (by omega) q250
          refine gCallV K130 (W := 0) (C := "java/lang/String") y [(.int (1 : Int32))] [] L_256 (wd hw 191 rfl) (wd hw 192 rfl) (wd hw 194 rfl) (wd hw 193 rfl) (cal_ch hw (W := 0) (1) (Sy.ext (Ext.tr E116 E130)) (Scj.ext (Ext.tr (Ext.tr (Ext.tr (Ext.kp1 (Ext.tr (Ext.kp1 E101 Q105 (Nat.le_of_eq g101.symm)) E107) Q111 (Nat.le_trans (Ext.kp1 E101 Q105 (Nat.le_of_eq g101.symm)).1 (Nat.le_of_eq g107.symm))) E113) E116) E130)) hz (Sfj.ext (Ext.tr (Ext.tr (Ext.tr (Ext.kp1 (Ext.tr (Ext.kp1 E101 Q105 (Nat.le_of_eq g101.symm)) E107) Q111 (Nat.le_trans (Ext.kp1 E101 Q105 (Nat.le_of_eq g101.symm)).1 (Nat.le_of_eq g107.symm))) E113) E116) E130)) rf (by rw [full_len]; omega) rfl (by decide) (by decide)) ((Sy.ext (Ext.tr E116 E130))).exa (fun _ q => nomatch q) pd23 rfl rfl (Nat.le_of_eq rfl) rfl (by decide) (by decide) (by decide) (fun v132 T132 h132 K132 Q132 q132 => ?_)
          have E132 := Ext.of0 Q132
          have P133 := P131.ext E132
          cases q132
          rw [full_host hi1, hr1 hi1]
          refine gIload K132 L_259 (v := r1) rfl ?_
          refine gIcmp_eq K132 L_261 (fun q261 => ?_) (fun q => absurd q (not_not_intro rfl))
          refine gIload K132 L_266 (v := (Int32.ofNat cs.length)) rfl ?_
          refine gIconst K132 (2 : Int32) L_268 rfl ?_
          refine gIcmp_le K132 L_269 (fun q269 => ?_) (fun q269 => ?_)
          · skip
            exact j285  _ _ K132 P133 (Sy.ext (Ext.tr (Ext.tr E116 E130) E132)) (Scj.ext (Ext.tr (Ext.tr (Ext.tr (Ext.tr (Ext.kp1 (Ext.tr (Ext.kp1 E101 Q105 (Nat.le_of_eq g101.symm)) E107) Q111 (Nat.le_trans (Ext.kp1 E101 Q105 (Nat.le_of_eq g101.symm)).1 (Nat.le_of_eq g107.symm))) E113) E116) E130) E132)) (Sfj.ext (Ext.tr (Ext.tr (Ext.tr (Ext.tr (Ext.kp1 (Ext.tr (Ext.kp1 E101 Q105 (Nat.le_of_eq g101.symm)) E107) Q111 (Nat.le_trans (Ext.kp1 E101 Q105 (Nat.le_of_eq g101.symm)).1 (Nat.le_of_eq g107.symm))) E113) E116) E130) E132))
          · skip
            refine gAload K132 L_272 (v := (.ref y)) rfl rfl ?_
            refine gIconst K132 (2 : Int32) L_274 rfl ?_
            have hi2 : 2 < cs.length := ofNat_lt (k := 2) (by decide) (by omega) q269
            refine gCallV K132 (W := 0) (C := "java/lang/String") y [(.int (2 : Int32))] [] L_275 (wd hw 191 rfl) (wd hw 192 rfl) (wd hw 194 rfl) (wd hw 193 rfl) (cal_ch hw (W := 0) (2) (Sy.ext (Ext.tr (Ext.tr E116 E130) E132)) (Scj.ext (Ext.tr (Ext.tr (Ext.tr (Ext.tr (Ext.kp1 (Ext.tr (Ext.kp1 E101 Q105 (Nat.le_of_eq g101.symm)) E107) Q111 (Nat.le_trans (Ext.kp1 E101 Q105 (Nat.le_of_eq g101.symm)).1 (Nat.le_of_eq g107.symm))) E113) E116) E130) E132)) hz (Sfj.ext (Ext.tr (Ext.tr (Ext.tr (Ext.tr (Ext.kp1 (Ext.tr (Ext.kp1 E101 Q105 (Nat.le_of_eq g101.symm)) E107) Q111 (Nat.le_trans (Ext.kp1 E101 Q105 (Nat.le_of_eq g101.symm)).1 (Nat.le_of_eq g107.symm))) E113) E116) E130) E132)) rf (by rw [full_len]; omega) rfl (by decide) (by decide)) ((Sy.ext (Ext.tr (Ext.tr E116 E130) E132))).exa (fun _ q => nomatch q) pd23 rfl rfl (Nat.le_of_eq rfl) rfl (by decide) (by decide) (by decide) (fun v134 T134 h134 K134 Q134 q134 => ?_)
            have E134 := Ext.of0 Q134
            have P135 := P133.ext E134
            cases q134
            rw [full_host hi2, hr2 hi2]
            refine gIload K134 L_278 (v := r2) rfl ?_
            refine gIcmp_eq K134 L_280 (fun q280 => ?_) (fun q => absurd q (not_not_intro rfl))
            exact j285  _ _ K134 P135 (Sy.ext (Ext.tr (Ext.tr (Ext.tr E116 E130) E132) E134)) (Scj.ext (Ext.tr (Ext.tr (Ext.tr (Ext.tr (Ext.tr (Ext.kp1 (Ext.tr (Ext.kp1 E101 Q105 (Nat.le_of_eq g101.symm)) E107) Q111 (Nat.le_trans (Ext.kp1 E101 Q105 (Nat.le_of_eq g101.symm)).1 (Nat.le_of_eq g107.symm))) E113) E116) E130) E132) E134)) (Sfj.ext (Ext.tr (Ext.tr (Ext.tr (Ext.tr (Ext.tr (Ext.kp1 (Ext.tr (Ext.kp1 E101 Q105 (Nat.le_of_eq g101.symm)) E107) Q111 (Nat.le_trans (Ext.kp1 E101 Q105 (Nat.le_of_eq g101.symm)).1 (Nat.le_of_eq g107.symm))) E113) E116) E130) E132) E134))
    refine gIload K113 L_150 (v := (Int32.ofNat P)) rfl ?_
    refine gBipush K113 (10 : Int32) L_152 rfl ?_
    refine gIcmp_ge K113 L_154 (fun q154 => ?_) (fun q154 => ?_)
    · skip
      refine gIload K113 L_163 (v := (Int32.ofNat P)) rfl ?_
      refine gBipush K113 (100 : Int32) L_165 rfl ?_
      refine gIcmp_ge K113 L_167 (fun q167 => ?_) (fun q167 => ?_)
      · skip
        refine gIload K113 L_176 (v := (Int32.ofNat P)) rfl ?_
        refine gSipush K113 (1000 : Int32) L_178 rfl ?_
        refine gIcmp_ge K113 L_181 (fun q181 => ?_) (fun q181 => ?_)
        · skip
          refine gIload K113 L_190 (v := (Int32.ofNat P)) rfl ?_
          refine gSipush K113 (10000 : Int32) L_192 rfl ?_
          refine gIcmp_ge K113 L_195 (fun q195 => ?_) (fun q195 => ?_)
          · skip
            refine gIconst K113 (5 : Int32) L_204 rfl ?_
            refine gIstore K113 L_205 (Ls' := #[.val (.int a_), .val (.int b_), .val (.int c_), .val (.int nn), .val (.int p_), .val (.int (Int32.ofNat cs.length)), .val (.int r0), .val (.int r1), .val (.int r2), .val (.ref xa), .val (.ref x101), .val (.int (Int32.ofNat P)), .val (.ref y), .val (.int (5 : Int32)), .unset]) rfl ?_
            exact j207 _ K113 5 (nd5 (fun q => q154 (ofNat_ltI (n := 10) q (by decide))) (fun q => q167 (ofNat_ltI (n := 100) q (by decide))) (fun q => q181 (ofNat_ltI (n := 1000) q (by decide))) (fun q => q195 (ofNat_ltI (n := 10000) q (by decide))))
          · skip
            refine gIconst K113 (4 : Int32) L_198 rfl ?_
            refine gIstore K113 L_199 (Ls' := #[.val (.int a_), .val (.int b_), .val (.int c_), .val (.int nn), .val (.int p_), .val (.int (Int32.ofNat cs.length)), .val (.int r0), .val (.int r1), .val (.int r2), .val (.ref xa), .val (.ref x101), .val (.int (Int32.ofNat P)), .val (.ref y), .val (.int (4 : Int32)), .unset]) rfl ?_
            refine gGoto K113 L_201 ?_
            exact j207 _ K113 4 (nd4 (fun q => q154 (ofNat_ltI (n := 10) q (by decide))) (fun q => q167 (ofNat_ltI (n := 100) q (by decide))) (fun q => q181 (ofNat_ltI (n := 1000) q (by decide))) (ofNat_lt (n := 10000) (by omega) (by decide) q195))
        · skip
          refine gIconst K113 (3 : Int32) L_184 rfl ?_
          refine gIstore K113 L_185 (Ls' := #[.val (.int a_), .val (.int b_), .val (.int c_), .val (.int nn), .val (.int p_), .val (.int (Int32.ofNat cs.length)), .val (.int r0), .val (.int r1), .val (.int r2), .val (.ref xa), .val (.ref x101), .val (.int (Int32.ofNat P)), .val (.ref y), .val (.int (3 : Int32)), .unset]) rfl ?_
          refine gGoto K113 L_187 ?_
          exact j207 _ K113 3 (nd3 (fun q => q154 (ofNat_ltI (n := 10) q (by decide))) (fun q => q167 (ofNat_ltI (n := 100) q (by decide))) (ofNat_lt (n := 1000) (by omega) (by decide) q181))
      · skip
        refine gIconst K113 (2 : Int32) L_170 rfl ?_
        refine gIstore K113 L_171 (Ls' := #[.val (.int a_), .val (.int b_), .val (.int c_), .val (.int nn), .val (.int p_), .val (.int (Int32.ofNat cs.length)), .val (.int r0), .val (.int r1), .val (.int r2), .val (.ref xa), .val (.ref x101), .val (.int (Int32.ofNat P)), .val (.ref y), .val (.int (2 : Int32)), .unset]) rfl ?_
        refine gGoto K113 L_173 ?_
        exact j207 _ K113 2 (nd2 (fun q => q154 (ofNat_ltI (n := 10) q (by decide))) (ofNat_lt (n := 100) (by omega) (by decide) q167))
    · skip
      refine gIconst K113 (1 : Int32) L_157 rfl ?_
      refine gIstore K113 L_158 (Ls' := #[.val (.int a_), .val (.int b_), .val (.int c_), .val (.int nn), .val (.int p_), .val (.int (Int32.ofNat cs.length)), .val (.int r0), .val (.int r1), .val (.int r2), .val (.ref xa), .val (.ref x101), .val (.int (Int32.ofNat P)), .val (.ref y), .val (.int (1 : Int32)), .unset]) rfl ?_
      refine gGoto K113 L_160 ?_
      exact j207 _ K113 1 (nd1 (ofNat_lt (n := 10) (by omega) (by decide) q154))
  rcases hm4 with rfl | rfl | rfl | rfl
  · skip
    refine gIload K0 L_29 (v := (0 : Int32)) rfl ?_
    refine gIf_ne K0 L_31 (fun q => absurd q (by first | decide | (intro hh; cases hh) | simp)) (fun q31 => ?_)
    refine gIconst K0 (0 : Int32) L_34 rfl ?_
    refine gNewarr K0 L_35 (wd hw 0 rfl) (by decide) 3 (by decide) (by decide) (by decide) (by decide) (fun T136 h136 x136 kA136 K136 E136 g136 A136 ne136 => ?_)
    have P137 := P0.ext E136
    have ge_x136 : h0.size ≤ x136 := by rw [g136]; exact P0.1
    refine gAstore K136 L_37 rfl (Ls' := #[.val (.int a_), .val (.int b_), .val (.int c_), .val (.int nn), .val (.int p_), .val (.int (0 : Int32)), .val (.int r0), .val (.int r1), .val (.int r2), .val (.ref x136), .unset, .unset, .unset, .unset, .unset]) rfl ?_
    refine gGoto K136 L_39 ?_
    exact j111 x136 kA136 _ ([] : List Int32) (Nat.le_of_ble_eq_true rfl) allI0 (fun q => absurd q (Nat.not_lt.mpr (Nat.le_of_ble_eq_true rfl))) (fun q => absurd q (Nat.not_lt.mpr (Nat.le_of_ble_eq_true rfl))) (fun q => absurd q (Nat.not_lt.mpr (Nat.le_of_ble_eq_true rfl))) _ _ K136 P137 A136 (Sc.ext E136) (Sf.ext E136) (So.ext E136) (St_.ext E136) (Ao.ext E136) (At_.ext E136)
  · skip
    refine gIload K0 L_29 (v := (1 : Int32)) rfl ?_
    refine gIf_ne K0 L_31 (fun q31 => ?_) (fun q => absurd q (by first | decide | (intro hh; cases hh) | simp))
    refine gIload K0 L_42 (v := (1 : Int32)) rfl ?_
    refine gIconst K0 (1 : Int32) L_44 rfl ?_
    refine gIcmp_ne K0 L_45 (fun q => absurd q (by first | decide | (intro hh; cases hh) | simp)) (fun q45 => ?_)
    refine gIconst K0 (1 : Int32) L_48 rfl ?_
    refine gNewarr K0 L_49 (wd hw 0 rfl) (by decide) 3 (by decide) (by decide) (by decide) (by decide) (fun T138 h138 x138 kA138 K138 E138 g138 A138 ne138 => ?_)
    have P139 := P0.ext E138
    have ge_x138 : h0.size ≤ x138 := by rw [g138]; exact P0.1
    refine gAstore K138 L_51 rfl (Ls' := #[.val (.int a_), .val (.int b_), .val (.int c_), .val (.int nn), .val (.int p_), .val (.int (1 : Int32)), .val (.int r0), .val (.int r1), .val (.int r2), .val (.ref x138), .unset, .unset, .unset, .unset, .unset]) rfl ?_
    refine gAload K138 L_53 (v := (.ref x138)) rfl rfl ?_
    refine gIconst K138 (0 : Int32) L_55 rfl ?_
    refine gIload K138 L_56 (v := r0) rfl ?_
    refine gCastore K138 L_58 (me 0 rfl) A138 rfl (by decide) hb0.1 (ch_up hb0.2) (fun T140 h140 K140 Q140 A140 => ?_)
    have P141 := P139.trans Q140 (fun z q => by cases List.mem_singleton.mp q; exact Or.inr ge_x138)
    refine gGoto K140 L_59 ?_
    exact j111 x138 kA138 _ [r0] (Nat.le_of_ble_eq_true rfl) (allI hb0 allI0) (fun _ => rfl) (fun q => absurd q (Nat.not_lt.mpr (Nat.le_of_ble_eq_true rfl))) (fun q => absurd q (Nat.not_lt.mpr (Nat.le_of_ble_eq_true rfl))) _ _ K140 P141 A140 (Sc.ext (Ext.kp1 E138 Q140 (Nat.le_of_eq g138.symm))) (Sf.ext (Ext.kp1 E138 Q140 (Nat.le_of_eq g138.symm))) (So.ext (Ext.kp1 E138 Q140 (Nat.le_of_eq g138.symm))) (St_.ext (Ext.kp1 E138 Q140 (Nat.le_of_eq g138.symm))) (Ao.ext (Ext.kp1 E138 Q140 (Nat.le_of_eq g138.symm))) (At_.ext (Ext.kp1 E138 Q140 (Nat.le_of_eq g138.symm)))
  · skip
    refine gIload K0 L_29 (v := (2 : Int32)) rfl ?_
    refine gIf_ne K0 L_31 (fun q31 => ?_) (fun q => absurd q (by first | decide | (intro hh; cases hh) | simp))
    refine gIload K0 L_42 (v := (2 : Int32)) rfl ?_
    refine gIconst K0 (1 : Int32) L_44 rfl ?_
    refine gIcmp_ne K0 L_45 (fun q45 => ?_) (fun q => absurd q (by first | decide | (intro hh; cases hh) | simp))
    refine gIload K0 L_62 (v := (2 : Int32)) rfl ?_
    refine gIconst K0 (2 : Int32) L_64 rfl ?_
    refine gIcmp_ne K0 L_65 (fun q => absurd q (by first | decide | (intro hh; cases hh) | simp)) (fun q65 => ?_)
    refine gIconst K0 (2 : Int32) L_68 rfl ?_
    refine gNewarr K0 L_69 (wd hw 0 rfl) (by decide) 3 (by decide) (by decide) (by decide) (by decide) (fun T142 h142 x142 kA142 K142 E142 g142 A142 ne142 => ?_)
    have P143 := P0.ext E142
    have ge_x142 : h0.size ≤ x142 := by rw [g142]; exact P0.1
    refine gAstore K142 L_71 rfl (Ls' := #[.val (.int a_), .val (.int b_), .val (.int c_), .val (.int nn), .val (.int p_), .val (.int (2 : Int32)), .val (.int r0), .val (.int r1), .val (.int r2), .val (.ref x142), .unset, .unset, .unset, .unset, .unset]) rfl ?_
    refine gAload K142 L_73 (v := (.ref x142)) rfl rfl ?_
    refine gIconst K142 (0 : Int32) L_75 rfl ?_
    refine gIload K142 L_76 (v := r0) rfl ?_
    refine gCastore K142 L_78 (me 0 rfl) A142 rfl (by decide) hb0.1 (ch_up hb0.2) (fun T144 h144 K144 Q144 A144 => ?_)
    have P145 := P143.trans Q144 (fun z q => by cases List.mem_singleton.mp q; exact Or.inr ge_x142)
    refine gAload K144 L_79 (v := (.ref x142)) rfl rfl ?_
    refine gIconst K144 (1 : Int32) L_81 rfl ?_
    refine gIload K144 L_82 (v := r1) rfl ?_
    refine gCastore K144 L_84 (me 0 rfl) A144 rfl (by decide) hb1.1 (ch_up hb1.2) (fun T146 h146 K146 Q146 A146 => ?_)
    have P147 := P145.trans Q146 (fun z q => by cases List.mem_singleton.mp q; exact Or.inr ge_x142)
    refine gGoto K146 L_85 ?_
    exact j111 x142 kA142 _ [r0, r1] (Nat.le_of_ble_eq_true rfl) (allI hb0 (allI hb1 allI0)) (fun _ => rfl) (fun _ => rfl) (fun q => absurd q (Nat.not_lt.mpr (Nat.le_of_ble_eq_true rfl))) _ _ K146 P147 A146 (Sc.ext (Ext.kp1 (Ext.kp1 E142 Q144 (Nat.le_of_eq g142.symm)) Q146 (Nat.le_of_eq g142.symm))) (Sf.ext (Ext.kp1 (Ext.kp1 E142 Q144 (Nat.le_of_eq g142.symm)) Q146 (Nat.le_of_eq g142.symm))) (So.ext (Ext.kp1 (Ext.kp1 E142 Q144 (Nat.le_of_eq g142.symm)) Q146 (Nat.le_of_eq g142.symm))) (St_.ext (Ext.kp1 (Ext.kp1 E142 Q144 (Nat.le_of_eq g142.symm)) Q146 (Nat.le_of_eq g142.symm))) (Ao.ext (Ext.kp1 (Ext.kp1 E142 Q144 (Nat.le_of_eq g142.symm)) Q146 (Nat.le_of_eq g142.symm))) (At_.ext (Ext.kp1 (Ext.kp1 E142 Q144 (Nat.le_of_eq g142.symm)) Q146 (Nat.le_of_eq g142.symm)))
  · skip
    refine gIload K0 L_29 (v := (3 : Int32)) rfl ?_
    refine gIf_ne K0 L_31 (fun q31 => ?_) (fun q => absurd q (by first | decide | (intro hh; cases hh) | simp))
    refine gIload K0 L_42 (v := (3 : Int32)) rfl ?_
    refine gIconst K0 (1 : Int32) L_44 rfl ?_
    refine gIcmp_ne K0 L_45 (fun q45 => ?_) (fun q => absurd q (by first | decide | (intro hh; cases hh) | simp))
    refine gIload K0 L_62 (v := (3 : Int32)) rfl ?_
    refine gIconst K0 (2 : Int32) L_64 rfl ?_
    refine gIcmp_ne K0 L_65 (fun q65 => ?_) (fun q => absurd q (by first | decide | (intro hh; cases hh) | simp))
    refine gIconst K0 (3 : Int32) L_88 rfl ?_
    refine gNewarr K0 L_89 (wd hw 0 rfl) (by decide) 3 (by decide) (by decide) (by decide) (by decide) (fun T148 h148 x148 kA148 K148 E148 g148 A148 ne148 => ?_)
    have P149 := P0.ext E148
    have ge_x148 : h0.size ≤ x148 := by rw [g148]; exact P0.1
    refine gAstore K148 L_91 rfl (Ls' := #[.val (.int a_), .val (.int b_), .val (.int c_), .val (.int nn), .val (.int p_), .val (.int (3 : Int32)), .val (.int r0), .val (.int r1), .val (.int r2), .val (.ref x148), .unset, .unset, .unset, .unset, .unset]) rfl ?_
    refine gAload K148 L_93 (v := (.ref x148)) rfl rfl ?_
    refine gIconst K148 (0 : Int32) L_95 rfl ?_
    refine gIload K148 L_96 (v := r0) rfl ?_
    refine gCastore K148 L_98 (me 0 rfl) A148 rfl (by decide) hb0.1 (ch_up hb0.2) (fun T150 h150 K150 Q150 A150 => ?_)
    have P151 := P149.trans Q150 (fun z q => by cases List.mem_singleton.mp q; exact Or.inr ge_x148)
    refine gAload K150 L_99 (v := (.ref x148)) rfl rfl ?_
    refine gIconst K150 (1 : Int32) L_101 rfl ?_
    refine gIload K150 L_102 (v := r1) rfl ?_
    refine gCastore K150 L_104 (me 0 rfl) A150 rfl (by decide) hb1.1 (ch_up hb1.2) (fun T152 h152 K152 Q152 A152 => ?_)
    have P153 := P151.trans Q152 (fun z q => by cases List.mem_singleton.mp q; exact Or.inr ge_x148)
    refine gAload K152 L_105 (v := (.ref x148)) rfl rfl ?_
    refine gIconst K152 (2 : Int32) L_107 rfl ?_
    refine gIload K152 L_108 (v := r2) rfl ?_
    refine gCastore K152 L_110 (me 0 rfl) A152 rfl (by decide) hb2.1 (ch_up hb2.2) (fun T154 h154 K154 Q154 A154 => ?_)
    have P155 := P153.trans Q154 (fun z q => by cases List.mem_singleton.mp q; exact Or.inr ge_x148)
    exact j111 x148 kA148 _ [r0, r1, r2] (Nat.le_of_ble_eq_true rfl) (allI hb0 (allI hb1 (allI hb2 allI0))) (fun _ => rfl) (fun _ => rfl) (fun _ => rfl) _ _ K154 P155 A154 (Sc.ext (Ext.kp1 (Ext.kp1 (Ext.kp1 E148 Q150 (Nat.le_of_eq g148.symm)) Q152 (Nat.le_of_eq g148.symm)) Q154 (Nat.le_of_eq g148.symm))) (Sf.ext (Ext.kp1 (Ext.kp1 (Ext.kp1 E148 Q150 (Nat.le_of_eq g148.symm)) Q152 (Nat.le_of_eq g148.symm)) Q154 (Nat.le_of_eq g148.symm))) (So.ext (Ext.kp1 (Ext.kp1 (Ext.kp1 E148 Q150 (Nat.le_of_eq g148.symm)) Q152 (Nat.le_of_eq g148.symm)) Q154 (Nat.le_of_eq g148.symm))) (St_.ext (Ext.kp1 (Ext.kp1 (Ext.kp1 E148 Q150 (Nat.le_of_eq g148.symm)) Q152 (Nat.le_of_eq g148.symm)) Q154 (Nat.le_of_eq g148.symm))) (Ao.ext (Ext.kp1 (Ext.kp1 (Ext.kp1 E148 Q150 (Nat.le_of_eq g148.symm)) Q152 (Nat.le_of_eq g148.symm)) Q154 (Nat.le_of_eq g148.symm))) (At_.ext (Ext.kp1 (Ext.kp1 (Ext.kp1 E148 Q150 (Nat.le_of_eq g148.symm)) Q152 (Nat.le_of_eq g148.symm)) Q154 (Nat.le_of_eq g148.symm)))
set_option maxRecDepth 65536 in
set_option maxHeartbeats 40000000 in
theorem comes_1 {Post : Tables → Env → Array Value → State → Outcome → State → Prop} (hpost : ∀ tb e args s v u, (limb_1_1.after args s (.returned v) u = true ∧ limb_1_2.after args s (.returned v) u = true ∧ True) → ReturnedEndW s (.returned v) u (Jvm.fieldLocs frame_1_writes args s ++ Jvm.arrayLocs frame_1_arrays args s ++ Jvm.staticLocs frame_1_statics s) 32 3264 → Post tb e args s (.returned v) u) :
    ArmFor flags0 classFile x code maxLocals ret World_1 tables_1 room_1 Calls_1 rest_1 Pre_1 Post := by
  intro l hfl _ _ p e ha hc hk s m args below hf hA hF happ hP
  obtain ⟨hcalls, hrest, hpre⟩ := hP
  obtain ⟨-, -, -, hnamed, -, -, -, hat⟩ := (Spec.applies_iff hf).mp happ
  obtain ⟨hg, hn⟩ := and_e (Cond.before_iff.mp (show (Jvm.Cond.and given_1 narrow_1).before args s = true from hpre))
  obtain ⟨hcount, hg0⟩ := and_e hg
  obtain ⟨ha0, hg1⟩ := and_e hg0
  obtain ⟨ha1, hg2⟩ := and_e hg1
  obtain ⟨ha2, hg3⟩ := and_e hg2
  obtain ⟨ha3, hg4⟩ := and_e hg3
  have ha4 := hg4
  obtain ⟨w0, w1, w2, w3, w4, rfl⟩ : ∃ w0 w1 w2 w3 w4 : Value, args = #[w0, w1, w2, w3, w4] := by
    have hs : args.size = 5 := by simpa [Cond.value, given_1] using hcount
    obtain ⟨L⟩ := args
    match L, hs with
    | [w0, w1, w2, w3, w4], _ => exact ⟨w0, w1, w2, w3, w4, rfl⟩
  have hw := fun d (hd : d ∈ tables_1) => atoms_spec (ws := Jvm.Cond.code x code maxLocals ret :: tables_1) hat d (List.mem_cons_of_mem _ hd)
  obtain ⟨hsets, hown0⟩ := atoms_of _ (rest_1_c_eq ▸ (show rest_1_c.before _ s = true from hrest))
  have hfit : Fit s := fun {y c} hc i hi => by
    obtain ⟨ha, rfl⟩ := Array.getElem?_eq_some_iff.mp hc
    have q := List.all_eq_true.mp ((Array.all_eq_true_iff_forall_mem.mp hF) _ (Array.getElem_mem ha)) i (List.mem_range.mpr hi)
    simpa [Array.getElem?_eq_getElem hi] using q
  obtain ⟨i0, e0⟩ := is_v ha0
  obtain rfl : w0 = (.int i0) := Option.some.inj e0
  obtain ⟨i1, e1⟩ := is_v ha1
  obtain rfl : w1 = (.int i1) := Option.some.inj e1
  obtain ⟨i2, e2⟩ := is_v ha2
  obtain rfl : w2 = (.int i2) := Option.some.inj e2
  obtain ⟨i3, e3⟩ := is_v ha3
  obtain rfl : w3 = (.int i3) := Option.some.inj e3
  obtain ⟨i4, e4⟩ := is_v ha4
  obtain rfl : w4 = (.int i4) := Option.some.inj e4
  obtain ⟨z_COMPACT_STRINGS, ez_COMPACT_STRINGS⟩ := is_v (Cond.before_iff.mp (hsets _ (me 1 rfl)))
  have S_COMPACT_STRINGS : Sta s s.heap "java/lang/String" "COMPACT_STRINGS" "Z" (.int z_COMPACT_STRINGS) := Sta.start ez_COMPACT_STRINGS (Or.inl (hsets _ (me 0 rfl)))
  have nz_COMPACT_STRINGS : ¬ (z_COMPACT_STRINGS = (0 : Int32)) := gotF (Cond.eq_ints ez_COMPACT_STRINGS (Term.int_eval (0))) (not_v (Cond.before_iff.mp (hsets _ (me 2 rfl))))
  obtain ⟨v_SIOOBE_FORMATTER, ez_SIOOBE_FORMATTER, r_SIOOBE_FORMATTER⟩ := isR_v (Cond.before_iff.mp (hsets _ (me 8 rfl)))
  have S_SIOOBE_FORMATTER : Sta s s.heap "jdk/internal/util/Preconditions" "SIOOBE_FORMATTER" "Ljava/util/function/BiFunction;" v_SIOOBE_FORMATTER := Sta.start ez_SIOOBE_FORMATTER (Or.inl (hsets _ (me 7 rfl)))
  have hE := (EW.cons (text := "host") (wd hw 44 rfl) (by decide) (EW.cons (text := ":") (wd hw 126 rfl) (by decide) (EW.cons (text := "") (wd hw 218 rfl) (by decide) EW.nil)))
  have hCH := CHv.start hE (fun q hq => hcalls.1 q hq) (hsets _ (me 2 rfl)) (wd hw 19 rfl) (wd hw 2 rfl)
  obtain ⟨d_DigitOnes, k_DigitOnes, ev_DigitOnes, A_DigitOnes⟩ := dig_words (F := fun r => 48 + r % 10) hfit (hsets _ (me 12 rfl)) (hsets _ (me 13 rfl)) (hsets _ (me 14 rfl)) (wd hw 19 rfl) (fun r hr => by rw [← Jvm.Free.SBG.ones_num r hr]; rfl)
  have S_DigitOnes : Sta s s.heap "java/lang/Integer" "DigitOnes" "[B" (.ref d_DigitOnes) := Sta.start ev_DigitOnes (Or.inl (hsets _ (me 11 rfl)))
  obtain ⟨d_DigitTens, k_DigitTens, ev_DigitTens, A_DigitTens⟩ := dig_words (F := fun r => 48 + r / 10) hfit (hsets _ (me 17 rfl)) (hsets _ (me 18 rfl)) (hsets _ (me 19 rfl)) (wd hw 19 rfl) (fun r hr => by rw [← Jvm.Free.SBG.tens_num r hr]; rfl)
  have S_DigitTens : Sta s s.heap "java/lang/Integer" "DigitTens" "[B" (.ref d_DigitTens) := Sta.start ev_DigitTens (Or.inl (hsets _ (me 16 rfl)))
  obtain ⟨n, o, h1, h2, h3, v, L, rfl, ⟨hv, Kp, N⟩, hq⟩ := (c_law l s _ hw s.heap s.heap.size (Nat.le_refl _) hE i0 i1 i2 i3 i4 d_DigitOnes d_DigitTens k_DigitOnes k_DigitTens S_DigitOnes S_DigitTens A_DigitOnes A_DigitTens z_COMPACT_STRINGS S_COMPACT_STRINGS nz_COMPACT_STRINGS v_SIOOBE_FORMATTER S_SIOOBE_FORMATTER r_SIOOBE_FORMATTER).asW p e ha hc hk s m _ below hf ((Spec.applies_iff_loose hf).mp happ).1 ⟨rfl, State.Warmed39.refl s, rfl, hCH, (fun _ q => nomatch q)⟩ trivial
  subst hv
  refine ⟨n, _, h1, h2, h3, hpost _ _ _ _ _ _ ⟨Cond.after_iff.mpr rfl, Cond.after_iff.mpr (eq_i res_at (Term.int_eval (1)) rfl), trivial⟩ ⟨hq.2.1, hq.2.2.1, hq.2.2.2.1, (hq.2.2.2.2.sift fun y hy => Or.inr (N y hy)).mono (by decide) (by decide)⟩⟩
theorem main_1_1 : Claimed_1_1 := comes_1 fun _ _ _ _ _ _ h hF => ⟨h.1, hF⟩
theorem main_1_2 : Claimed_1_2 := comes_1 fun _ _ _ _ _ _ h hF => ⟨h.2.1, hF⟩

end Jvm.Pilot.@@N@@
namespace Jvm.Pilot.@@N@@
open Jvm Jvm.ClassFile Sem Op Lib Jvm.Free Jvm.Stand Jvm.Pilot.@@N@@.Jvm.D
/-! MADE BY PROGRAM (witnessworld.py) out of the Statement's table words and the real class files: 30 classes; the members and pool entries that the words name. The judged class is class 1, her method 1. -/
namespace start1
open Jvm.ClassFile
def u (s : String) : CpInfo := .utf8 (stringToUtf16 s)
/-- a pool by its gaps: so many unusable entries, then the entry; so many at the end -/
def gap : Nat → List CpInfo → List CpInfo
  | 0, r => r
  | n + 1, r => .unusable :: gap n r
def poolList (es : List (Nat × CpInfo)) (last : Nat) : List CpInfo := es.foldr (fun e r => gap e.1 (e.2 :: r)) (gap last [])
def pool (es : List (Nat × CpInfo)) (last : Nat) : Array CpInfo := ⟨poolList es last⟩
def fileOf (pool : Array CpInfo) (this : Nat) (attrs : Array Attribute := #[]) (ms : Array MethodInfo := #[]) (fl : Nat := 33) (sup : Nat := 0) (ifs : Array Nat := #[]) (fds : Array FieldInfo := #[]) : ClassFile where
  minorVersion := 0
  majorVersion := 65
  constantPool := pool
  accessFlags := fl
  thisClass := this
  superClass := sup
  interfaces := ifs
  fields := fds
  methods := ms
  attributes := attrs
def plain (name : String) (sup : Option ClassId) : Class where
  name := name
  kind := .ordinary
  loader := none
  accessFlags := 33
  super := sup
  interfaces := #[]
  cf := none
  fields := #[]
  methods := #[]
  instanceTypes := #[]
  staticTypes := #[]
  resolved := #[]
  callSites := []
  init := .initialized
  statics := none
  mirror := none

def pool0 : Array CpInfo := pool [(5, u "<init>"), (0, u "()V"), (1, .class_ 10), (1, u "java/lang/Object")] 113

def k0c0 : Code := { maxStack := 0, maxLocals := 1, code := object_method_1_code, exceptionTable := #[], attributes := #[] }
def k0m0 : Method := { name := "<init>", desc := "()V", sig := { parameters := [], returnType := none }, accessFlags := 1, code := some k0c0 }
/-- java/lang/Object -/
def k0 : Class := { plain "java/lang/Object" none with
  accessFlags := 33
  interfaces := #[]
  cf := some (fileOf pool0 8 #[] #[{ accessFlags := 1, nameIndex := 5, descriptorIndex := 6, attributes := #[] }] 33 0 #[] #[])
  fields := #[]
  methods := #[k0m0]
  instanceTypes := #[]
  staticTypes := #[]
  resolved := Array.replicate 124 none
  statics := none }

def pool1 : Array CpInfo := pool [(2, .class_ 4), (1, u "java/lang/Object"), (0, u "<init>"), (0, u "()V"), (0, .class_ 8), (0, u "java/lang/String"), (0, .methodref 7 10), (0, .nameAndType 5 11), (0, u "([C)V"), (0, .integer 2147483647), (0, .integer 65535), (0, .class_ 15), (0, u "com/example/outrigger/outrigger/model/Address"), (0, .methodref 14 17), (0, .nameAndType 5 18), (0, u "(Ljava/lang/String;I)V"), (0, .methodref 14 20), (0, .nameAndType 21 22), (0, u "toString"), (0, u "()Ljava/lang/String;"), (0, .methodref 7 24), (0, .nameAndType 25 26), (0, u "length"), (0, u "()I"), (0, .methodref 7 28), (0, .nameAndType 29 30), (0, u "charAt"), (0, u "(I)C"), (0, .methodref 32 33), (0, .class_ 34), (0, .nameAndType 35 36), (0, u "com/example/outrigger/outrigger/model/AddressToStringPinLaw"), (0, u "digitOk"), (0, u "(Ljava/lang/String;IIIII)Z"), (2, u "law"), (0, u "(IIIII)Z")] 5

def k1m0 : Method := { name := "<init>", desc := "()V", sig := { parameters := [], returnType := none }, accessFlags := 1, code := none }
def k1c1 : Code := { maxStack := 6, maxLocals := 15, code := code, exceptionTable := #[], attributes := #[] }
def k1m1 : Method := { name := "law", desc := "(IIIII)Z", sig := { parameters := [.int, .int, .int, .int, .int], returnType := some .boolean }, accessFlags := 9, code := some k1c1 }
def k1c2 : Code := { maxStack := 3, maxLocals := 7, code := method_3_code, exceptionTable := #[], attributes := #[] }
def k1m2 : Method := { name := "digitOk", desc := "(Ljava/lang/String;IIIII)Z", sig := { parameters := [(.object "java/lang/String"), .int, .int, .int, .int, .int], returnType := some .boolean }, accessFlags := 10, code := some k1c2 }
/-- com/example/outrigger/outrigger/model/AddressToStringPinLaw -/
def k1 : Class := { plain "com/example/outrigger/outrigger/model/AddressToStringPinLaw" (some 0) with
  accessFlags := 49
  interfaces := #[]
  cf := some (fileOf pool1 32 #[] #[{ accessFlags := 1, nameIndex := 5, descriptorIndex := 6, attributes := #[] }, { accessFlags := 9, nameIndex := 39, descriptorIndex := 40, attributes := #[] }, { accessFlags := 10, nameIndex := 35, descriptorIndex := 36, attributes := #[] }] 49 2 #[] #[])
  fields := #[]
  methods := #[k1m0, k1m1, k1m2]
  instanceTypes := #[]
  staticTypes := #[]
  resolved := Array.replicate 46 none
  statics := none }

def pool2 : Array CpInfo := pool [(1, .class_ 2), (0, u "java/io/Serializable"), (0, .class_ 4), (0, u "java/lang/Object")] 2

/-- java/io/Serializable -/
def k2 : Class := { plain "java/io/Serializable" (some 0) with
  accessFlags := 1537
  interfaces := #[]
  cf := some (fileOf pool2 1 #[] #[] 1537 3 #[] #[])
  fields := #[]
  methods := #[]
  instanceTypes := #[]
  staticTypes := #[]
  resolved := Array.replicate 7 none
  statics := none }

def pool3 : Array CpInfo := pool [(1, .class_ 2), (0, u "java/lang/Comparable"), (0, .class_ 4), (0, u "java/lang/Object")] 7

/-- java/lang/Comparable -/
def k3 : Class := { plain "java/lang/Comparable" (some 0) with
  accessFlags := 1537
  interfaces := #[]
  cf := some (fileOf pool3 1 #[] #[] 1537 3 #[] #[])
  fields := #[]
  methods := #[]
  instanceTypes := #[]
  staticTypes := #[]
  resolved := Array.replicate 12 none
  statics := none }

def pool4 : Array CpInfo := pool [(2, .class_ 4), (1, u "java/lang/CharSequence"), (42, .class_ 48), (0, u "java/lang/CharSequence$1CodePointIterator"), (10, .class_ 60), (0, u "java/lang/CharSequence$1CharIterator"), (5, .class_ 67), (0, u "java/lang/Object")] 63

/-- java/lang/CharSequence -/
def k4 : Class := { plain "java/lang/CharSequence" (some 0) with
  accessFlags := 1537
  interfaces := #[]
  cf := some (fileOf pool4 2 #[.nestMembers #[47, 59]] #[] 1537 66 #[] #[])
  fields := #[]
  methods := #[]
  instanceTypes := #[]
  staticTypes := #[]
  resolved := Array.replicate 131 none
  statics := none }

def pool5 : Array CpInfo := pool [(1, .class_ 2), (0, u "java/lang/constant/Constable"), (0, .class_ 4), (0, u "java/lang/Object")] 6

/-- java/lang/constant/Constable -/
def k5 : Class := { plain "java/lang/constant/Constable" (some 0) with
  accessFlags := 1537
  interfaces := #[]
  cf := some (fileOf pool5 1 #[] #[] 1537 3 #[] #[])
  fields := #[]
  methods := #[]
  instanceTypes := #[]
  staticTypes := #[]
  resolved := Array.replicate 11 none
  statics := none }

def pool6 : Array CpInfo := pool [(1, .class_ 2), (0, u "java/lang/constant/ConstantDesc"), (0, .class_ 4), (0, u "java/lang/Object")] 32

/-- java/lang/constant/ConstantDesc -/
def k6 : Class := { plain "java/lang/constant/ConstantDesc" (some 0) with
  accessFlags := 1537
  interfaces := #[]
  cf := some (fileOf pool6 1 #[] #[] 1537 3 #[] #[])
  fields := #[]
  methods := #[]
  instanceTypes := #[]
  staticTypes := #[]
  resolved := Array.replicate 37 none
  statics := none }

def pool7 : Array CpInfo := pool [(1, .methodref 2 3), (0, .class_ 4), (0, .nameAndType 5 6), (0, u "java/lang/Object"), (0, u "<init>"), (0, u "()V"), (0, .string 8), (0, u ""), (0, .fieldref 10 11), (0, .class_ 12), (0, .nameAndType 13 14), (0, u "java/lang/String"), (0, u "value"), (0, u "[B"), (0, .fieldref 10 16), (0, .nameAndType 17 18), (0, u "coder"), (0, u "B"), (2, u "hash"), (0, u "I"), (2, u "hashIsZero"), (0, u "Z"), (0, .methodref 10 28), (0, .nameAndType 5 29), (0, u "([CIILjava/lang/Void;)V"), (8, .fieldref 10 39), (0, .nameAndType 40 26), (0, u "COMPACT_STRINGS"), (1, .class_ 44), (1, u "java/lang/StringUTF16"), (0, u "compress"), (1, .methodref 42 48), (0, .nameAndType 49 50), (0, u "coderFromArrayLen"), (0, u "([BI)B"), (3, .methodref 55 56), (0, .class_ 57), (0, .nameAndType 58 59), (0, u "java/util/Arrays"), (0, u "copyOfRange"), (0, u "([BII)[B"), (47, .class_ 109), (1, u "java/lang/StringLatin1"), (32, u "()Z"), (34, .methodref 42 178), (0, .nameAndType 45 179), (0, u "([CII)[B"), (13, .class_ 195), (1, u "java/lang/System"), (16, .methodref 193 213), (0, .nameAndType 214 215), (0, u "arraycopy"), (0, u "(Ljava/lang/Object;ILjava/lang/Object;II)V"), (118, u "()I"), (0, .methodref 10 336), (0, .nameAndType 17 337), (0, u "()B"), (2, u "()[B"), (22, u "([BI)C"), (27, u "(II)V"), (35, u "(I)C"), (61, .methodref 10 490), (0, .nameAndType 5 491), (0, u "(Ljava/lang/AbstractStringBuilder;Ljava/lang/Void;)V"), (0, .methodref 10 493), (0, .nameAndType 494 142), (0, u "isLatin1"), (0, .methodref 107 496), (0, .nameAndType 497 363), (0, u "charAt"), (3, u "checkIndex"), (4, .nameAndType 507 334), (0, u "length"), (24, u "getBytes"), (16, .methodref 550 506), (0, .class_ 551), (0, u "java/lang/AbstractStringBuilder"), (0, .methodref 550 553), (0, .nameAndType 554 340), (0, u "getValue"), (20, .class_ 576), (0, u "java/lang/CharSequence"), (22, u "CASE_INSENSITIVE_ORDER"), (0, u "Ljava/util/Comparator;"), (220, u "([BIB)V"), (188, u "([C)V"), (36, .methodref 550 493), (5, .fieldref 1054 1055), (0, .class_ 1056), (0, .nameAndType 1057 1058), (0, u "jdk/internal/util/Preconditions"), (0, u "SIOOBE_FORMATTER"), (0, u "Ljava/util/function/BiFunction;"), (0, .methodref 1054 1060), (0, .nameAndType 501 1061), (0, u "(IILjava/util/function/BiFunction;)I"), (39, u "serialPersistentFields"), (0, u "[Ljava/io/ObjectStreamField;"), (0, .class_ 1104), (0, u "java/lang/String$CaseInsensitiveComparator"), (1, .class_ 1107), (0, u "java/io/Serializable"), (0, .class_ 1109), (0, u "java/lang/Comparable"), (0, .class_ 1111), (0, u "java/lang/constant/Constable"), (0, .class_ 1113), (0, u "java/lang/constant/ConstantDesc"), (2, u "serialVersionUID"), (0, u "J"), (3, u "REPL"), (0, u "C"), (2, u "LATIN1"), (1, u "UTF16"), (105, u "(Ljava/lang/StringBuilder;)V")] 217

def k7m0 : Method := { name := "<init>", desc := "()V", sig := { parameters := [], returnType := none }, accessFlags := 1, code := none }
def k7c1 : Code := { maxStack := 5, maxLocals := 2, code := jdk_42_method_3_code, exceptionTable := #[], attributes := #[] }
def k7m1 : Method := { name := "<init>", desc := "([C)V", sig := { parameters := [(.array .char)], returnType := none }, accessFlags := 1, code := some k7c1 }
def k7c2 : Code := { maxStack := 3, maxLocals := 2, code := jdk_42_method_53_code, exceptionTable := #[], attributes := #[] }
def k7m2 : Method := { name := "<init>", desc := "(Ljava/lang/StringBuilder;)V", sig := { parameters := [(.object "java/lang/StringBuilder")], returnType := none }, accessFlags := 1, code := some k7c2 }
def k7c3 : Code := { maxStack := 2, maxLocals := 1, code := jdk_42_method_54_code, exceptionTable := #[], attributes := #[] }
def k7m3 : Method := { name := "length", desc := "()I", sig := { parameters := [], returnType := some .int }, accessFlags := 1, code := some k7c3 }
def k7c4 : Code := { maxStack := 2, maxLocals := 2, code := jdk_42_method_56_code, exceptionTable := #[], attributes := #[] }
def k7m4 : Method := { name := "charAt", desc := "(I)C", sig := { parameters := [.int], returnType := some .char }, accessFlags := 1, code := some k7c4 }
def k7c5 : Code := { maxStack := 5, maxLocals := 4, code := jdk_42_method_147_code, exceptionTable := #[], attributes := #[] }
def k7m5 : Method := { name := "getBytes", desc := "([BIB)V", sig := { parameters := [(.array .byte), .int, .byte], returnType := none }, accessFlags := 0, code := some k7c5 }
def k7c6 : Code := { maxStack := 4, maxLocals := 6, code := jdk_42_method_149_code, exceptionTable := #[], attributes := #[] }
def k7m6 : Method := { name := "<init>", desc := "([CIILjava/lang/Void;)V", sig := { parameters := [(.array .char), .int, .int, (.object "java/lang/Void")], returnType := none }, accessFlags := 2, code := some k7c6 }
def k7c7 : Code := { maxStack := 5, maxLocals := 5, code := jdk_42_method_150_code, exceptionTable := #[], attributes := #[] }
def k7m7 : Method := { name := "<init>", desc := "(Ljava/lang/AbstractStringBuilder;Ljava/lang/Void;)V", sig := { parameters := [(.object "java/lang/AbstractStringBuilder"), (.object "java/lang/Void")], returnType := none }, accessFlags := 0, code := some k7c7 }
def k7c8 : Code := { maxStack := 1, maxLocals := 1, code := jdk_42_method_152_code, exceptionTable := #[], attributes := #[] }
def k7m8 : Method := { name := "coder", desc := "()B", sig := { parameters := [], returnType := some .byte }, accessFlags := 0, code := some k7c8 }
def k7c9 : Code := { maxStack := 1, maxLocals := 1, code := jdk_42_method_154_code, exceptionTable := #[], attributes := #[] }
def k7m9 : Method := { name := "isLatin1", desc := "()Z", sig := { parameters := [], returnType := some .boolean }, accessFlags := 0, code := some k7c9 }
def k7c10 : Code := { maxStack := 3, maxLocals := 2, code := jdk_42_method_155_code, exceptionTable := #[], attributes := #[] }
def k7m10 : Method := { name := "checkIndex", desc := "(II)V", sig := { parameters := [.int, .int], returnType := none }, accessFlags := 8, code := some k7c10 }
/-- java/lang/String -/
def k7 : Class := { plain "java/lang/String" (some 0) with
  accessFlags := 49
  interfaces := #[2, 3, 4, 5, 6]
  cf := some (fileOf pool7 10 #[.nestMembers #[1103]] #[{ accessFlags := 1, nameIndex := 5, descriptorIndex := 6, attributes := #[] }, { accessFlags := 1, nameIndex := 5, descriptorIndex := 1010, attributes := #[] }, { accessFlags := 1, nameIndex := 5, descriptorIndex := 1233, attributes := #[] }, { accessFlags := 1, nameIndex := 507, descriptorIndex := 334, attributes := #[] }, { accessFlags := 1, nameIndex := 497, descriptorIndex := 427, attributes := #[] }, { accessFlags := 0, nameIndex := 532, descriptorIndex := 821, attributes := #[] }, { accessFlags := 2, nameIndex := 5, descriptorIndex := 29, attributes := #[] }, { accessFlags := 0, nameIndex := 5, descriptorIndex := 491, attributes := #[] }, { accessFlags := 0, nameIndex := 17, descriptorIndex := 337, attributes := #[] }, { accessFlags := 0, nameIndex := 494, descriptorIndex := 142, attributes := #[] }, { accessFlags := 8, nameIndex := 501, descriptorIndex := 391, attributes := #[] }] 49 2 #[1106, 1108, 575, 1110, 1112] #[{ accessFlags := 18, nameIndex := 13, descriptorIndex := 14, attributes := #[] }, { accessFlags := 18, nameIndex := 17, descriptorIndex := 18, attributes := #[] }, { accessFlags := 2, nameIndex := 21, descriptorIndex := 22, attributes := #[] }, { accessFlags := 2, nameIndex := 25, descriptorIndex := 26, attributes := #[] }, { accessFlags := 26, nameIndex := 1116, descriptorIndex := 1117, attributes := #[] }, { accessFlags := 24, nameIndex := 40, descriptorIndex := 26, attributes := #[] }, { accessFlags := 26, nameIndex := 1101, descriptorIndex := 1102, attributes := #[] }, { accessFlags := 26, nameIndex := 1121, descriptorIndex := 1122, attributes := #[] }, { accessFlags := 25, nameIndex := 599, descriptorIndex := 600, attributes := #[] }, { accessFlags := 24, nameIndex := 1125, descriptorIndex := 18, attributes := #[] }, { accessFlags := 24, nameIndex := 1127, descriptorIndex := 18, attributes := #[] }])
  fields := #[{ name := "value", type := (.array .byte), accessFlags := 18, slot := 0, constantValue := 0 }, { name := "coder", type := .byte, accessFlags := 18, slot := 1, constantValue := 0 }, { name := "hash", type := .int, accessFlags := 2, slot := 2, constantValue := 0 }, { name := "hashIsZero", type := .boolean, accessFlags := 2, slot := 3, constantValue := 0 }, { name := "serialVersionUID", type := .long, accessFlags := 26, slot := 0, constantValue := 0 }, { name := "COMPACT_STRINGS", type := .boolean, accessFlags := 24, slot := 1, constantValue := 0 }, { name := "serialPersistentFields", type := (.array (.object "java/io/ObjectStreamField")), accessFlags := 26, slot := 2, constantValue := 0 }, { name := "REPL", type := .char, accessFlags := 26, slot := 3, constantValue := 0 }, { name := "CASE_INSENSITIVE_ORDER", type := (.object "java/util/Comparator"), accessFlags := 25, slot := 4, constantValue := 0 }, { name := "LATIN1", type := .byte, accessFlags := 24, slot := 5, constantValue := 0 }, { name := "UTF16", type := .byte, accessFlags := 24, slot := 6, constantValue := 0 }]
  methods := #[k7m0, k7m1, k7m2, k7m3, k7m4, k7m5, k7m6, k7m7, k7m8, k7m9, k7m10]
  instanceTypes := #[(.array .byte), .byte, .int, .boolean]
  staticTypes := #[.long, .boolean, (.array (.object "java/io/ObjectStreamField")), .char, (.object "java/util/Comparator"), .byte, .byte]
  resolved := Array.replicate 1451 none
  statics := some 0 }

def pool8 : Array CpInfo := pool [(6, .class_ 8), (1, u "java/lang/Object"), (0, u "<init>"), (0, u "()V"), (1, .class_ 14), (1, u "java/lang/StringUTF16"), (31, u "$assertionsDisabled"), (0, u "Z"), (13, u "HI_BYTE_SHIFT"), (0, u "I"), (2, u "LO_BYTE_SHIFT"), (49, .methodref 12 116), (0, .nameAndType 117 118), (0, u "compress"), (0, u "([CI[BII)I"), (3, u "([CII)[B"), (138, u "coderFromArrayLen"), (0, u "([BI)B"), (106, .class_ 371), (1, u "java/lang/StringUTF16$LinesSpliterator"), (58, u "MAX_LENGTH"), (196, .class_ 628), (0, u "java/lang/StringUTF16$CodePointsSpliterator"), (0, .class_ 630), (0, u "java/lang/StringUTF16$CharsSpliterator")] 4

def k8m0 : Method := { name := "<init>", desc := "()V", sig := { parameters := [], returnType := none }, accessFlags := 0, code := none }
def k8c1 : Code := { maxStack := 2, maxLocals := 2, code := jdk_52_method_15_code, exceptionTable := #[], attributes := #[] }
def k8m1 : Method := { name := "coderFromArrayLen", desc := "([BI)B", sig := { parameters := [(.array .byte), .int], returnType := some .byte }, accessFlags := 8, code := some k8c1 }
def k8c2 : Code := { maxStack := 5, maxLocals := 6, code := jdk_52_method_16_code, exceptionTable := #[], attributes := #[] }
def k8m2 : Method := { name := "compress", desc := "([CII)[B", sig := { parameters := [(.array .char), .int, .int], returnType := some (.array .byte) }, accessFlags := 9, code := some k8c2 }
def k8c3 : Code := { maxStack := 3, maxLocals := 7, code := jdk_52_method_21_code, exceptionTable := #[], attributes := #[] }
def k8m3 : Method := { name := "compress", desc := "([CI[BII)I", sig := { parameters := [(.array .char), .int, (.array .byte), .int, .int], returnType := some .int }, accessFlags := 9, code := some k8c3 }
/-- java/lang/StringUTF16 -/
def k8 : Class := { plain "java/lang/StringUTF16" (some 0) with
  accessFlags := 48
  interfaces := #[]
  cf := some (fileOf pool8 12 #[.nestMembers #[627, 629, 369]] #[{ accessFlags := 0, nameIndex := 9, descriptorIndex := 10, attributes := #[] }, { accessFlags := 8, nameIndex := 261, descriptorIndex := 262, attributes := #[] }, { accessFlags := 9, nameIndex := 117, descriptorIndex := 122, attributes := #[] }, { accessFlags := 9, nameIndex := 117, descriptorIndex := 118, attributes := #[] }] 48 6 #[] #[{ accessFlags := 26, nameIndex := 61, descriptorIndex := 62, attributes := #[] }, { accessFlags := 26, nameIndex := 65, descriptorIndex := 62, attributes := #[] }, { accessFlags := 24, nameIndex := 430, descriptorIndex := 62, attributes := #[] }, { accessFlags := 4120, nameIndex := 46, descriptorIndex := 47, attributes := #[] }])
  fields := #[{ name := "HI_BYTE_SHIFT", type := .int, accessFlags := 26, slot := 0, constantValue := 0 }, { name := "LO_BYTE_SHIFT", type := .int, accessFlags := 26, slot := 1, constantValue := 0 }, { name := "MAX_LENGTH", type := .int, accessFlags := 24, slot := 2, constantValue := 0 }, { name := "$assertionsDisabled", type := .boolean, accessFlags := 4120, slot := 3, constantValue := 0 }]
  methods := #[k8m0, k8m1, k8m2, k8m3]
  instanceTypes := #[]
  staticTypes := #[.int, .int, .int, .boolean]
  resolved := Array.replicate 635 none
  statics := none }

def pool9 : Array CpInfo := pool [(1, .methodref 2 3), (0, .class_ 4), (0, .nameAndType 5 6), (0, u "java/lang/Object"), (0, u "<init>"), (0, u "()V"), (0, .class_ 8), (0, u "java/lang/Record")] 13

def k9c0 : Code := { maxStack := 1, maxLocals := 1, code := jdk_30_method_1_code, exceptionTable := #[], attributes := #[] }
def k9m0 : Method := { name := "<init>", desc := "()V", sig := { parameters := [], returnType := none }, accessFlags := 4, code := some k9c0 }
/-- java/lang/Record -/
def k9 : Class := { plain "java/lang/Record" (some 0) with
  accessFlags := 1057
  interfaces := #[]
  cf := some (fileOf pool9 7 #[] #[{ accessFlags := 4, nameIndex := 5, descriptorIndex := 6, attributes := #[] }] 1057 2 #[] #[])
  fields := #[]
  methods := #[k9m0]
  instanceTypes := #[]
  staticTypes := #[]
  resolved := Array.replicate 22 none
  statics := none }

def pool10 : Array CpInfo := pool [(1, .methodref 2 3), (0, .class_ 4), (0, .nameAndType 5 6), (0, u "java/lang/Record"), (0, u "<init>"), (0, u "()V"), (0, .string 8), (0, u "host"), (0, .methodref 10 11), (0, .class_ 12), (0, .nameAndType 13 14), (0, u "java/util/Objects"), (0, u "requireNonNull"), (0, u "(Ljava/lang/Object;Ljava/lang/String;)Ljava/lang/Object;"), (0, .class_ 16), (0, u "com/example/outrigger/outrigger/model/Address"), (0, .integer 65535), (7, .fieldref 15 26), (0, .nameAndType 8 27), (0, u "Ljava/lang/String;"), (0, .fieldref 15 29), (0, .nameAndType 30 31), (0, u "port"), (0, u "I"), (2, .class_ 35), (0, u "java/lang/StringBuilder"), (0, .methodref 34 3), (2, .methodref 34 40), (0, .nameAndType 41 42), (0, u "append"), (0, u "(Ljava/lang/String;)Ljava/lang/StringBuilder;"), (0, .methodref 34 44), (0, .nameAndType 45 46), (0, u "toString"), (0, u "()Ljava/lang/String;"), (44, u "(Ljava/lang/String;I)V"), (0, .string 93), (0, u ":"), (0, .methodref 34 95), (0, .nameAndType 41 96), (0, u "(I)Ljava/lang/StringBuilder;"), (8, u "MAX_PORT"), (1, u "NOT_HOST_PORT")] 28

def k10c0 : Code := { maxStack := 3, maxLocals := 3, code := prog_28_method_1_code, exceptionTable := #[], attributes := #[] }
def k10m0 : Method := { name := "<init>", desc := "(Ljava/lang/String;I)V", sig := { parameters := [(.object "java/lang/String"), .int], returnType := none }, accessFlags := 1, code := some k10c0 }
def k10c1 : Code := { maxStack := 2, maxLocals := 1, code := prog_28_method_4_code, exceptionTable := #[], attributes := #[] }
def k10m1 : Method := { name := "toString", desc := "()Ljava/lang/String;", sig := { parameters := [], returnType := some (.object "java/lang/String") }, accessFlags := 1, code := some k10c1 }
/-- com/example/outrigger/outrigger/model/Address -/
def k10 : Class := { plain "com/example/outrigger/outrigger/model/Address" (some 9) with
  accessFlags := 49
  interfaces := #[]
  cf := some (fileOf pool10 15 #[] #[{ accessFlags := 1, nameIndex := 5, descriptorIndex := 91, attributes := #[] }, { accessFlags := 1, nameIndex := 45, descriptorIndex := 46, attributes := #[] }] 49 2 #[] #[{ accessFlags := 18, nameIndex := 8, descriptorIndex := 27, attributes := #[] }, { accessFlags := 18, nameIndex := 30, descriptorIndex := 31, attributes := #[] }, { accessFlags := 26, nameIndex := 105, descriptorIndex := 31, attributes := #[] }, { accessFlags := 26, nameIndex := 107, descriptorIndex := 27, attributes := #[] }])
  fields := #[{ name := "host", type := (.object "java/lang/String"), accessFlags := 18, slot := 0, constantValue := 0 }, { name := "port", type := .int, accessFlags := 18, slot := 1, constantValue := 0 }, { name := "MAX_PORT", type := .int, accessFlags := 26, slot := 0, constantValue := 0 }, { name := "NOT_HOST_PORT", type := (.object "java/lang/String"), accessFlags := 26, slot := 1, constantValue := 0 }]
  methods := #[k10m0, k10m1]
  instanceTypes := #[(.object "java/lang/String"), .int]
  staticTypes := #[.int, (.object "java/lang/String")]
  resolved := Array.replicate 136 none
  statics := none }

def pool11 : Array CpInfo := pool [(2, .class_ 4), (1, u "java/lang/Object"), (0, u "<init>"), (0, u "()V"), (35, .class_ 44), (1, u "java/util/Objects"), (0, u "requireNonNull"), (48, u "(Ljava/lang/Object;Ljava/lang/String;)Ljava/lang/Object;")] 89

def k11m0 : Method := { name := "<init>", desc := "()V", sig := { parameters := [], returnType := none }, accessFlags := 2, code := none }
def k11c1 : Code := { maxStack := 3, maxLocals := 2, code := jdk_31_method_11_code, exceptionTable := #[], attributes := #[] }
def k11m1 : Method := { name := "requireNonNull", desc := "(Ljava/lang/Object;Ljava/lang/String;)Ljava/lang/Object;", sig := { parameters := [(.object "java/lang/Object"), (.object "java/lang/String")], returnType := some (.object "java/lang/Object") }, accessFlags := 9, code := some k11c1 }
/-- java/util/Objects -/
def k11 : Class := { plain "java/util/Objects" (some 0) with
  accessFlags := 49
  interfaces := #[]
  cf := some (fileOf pool11 42 #[] #[{ accessFlags := 2, nameIndex := 5, descriptorIndex := 6, attributes := #[] }, { accessFlags := 9, nameIndex := 45, descriptorIndex := 94, attributes := #[] }] 49 2 #[] #[])
  fields := #[]
  methods := #[k11m0, k11m1]
  instanceTypes := #[]
  staticTypes := #[]
  resolved := Array.replicate 184 none
  statics := none }

def pool12 : Array CpInfo := pool [(1, .class_ 2), (0, u "java/lang/Appendable"), (0, .class_ 4), (0, u "java/lang/Object")] 9

/-- java/lang/Appendable -/
def k12 : Class := { plain "java/lang/Appendable" (some 0) with
  accessFlags := 1537
  interfaces := #[]
  cf := some (fileOf pool12 1 #[] #[] 1537 3 #[] #[])
  fields := #[]
  methods := #[]
  instanceTypes := #[]
  staticTypes := #[]
  resolved := Array.replicate 14 none
  statics := none }

def pool13 : Array CpInfo := pool [(1, .class_ 2), (0, u "java/lang/String"), (0, .methodref 4 5), (0, .class_ 6), (0, .nameAndType 7 8), (0, u "java/lang/Object"), (0, u "<init>"), (0, u "()V"), (1, .class_ 12), (1, u "java/lang/AbstractStringBuilder"), (0, u "EMPTYVALUE"), (0, u "[B"), (0, .fieldref 10 16), (0, .nameAndType 17 14), (0, u "value"), (0, .fieldref 1 19), (0, .nameAndType 20 21), (0, u "COMPACT_STRINGS"), (0, u "Z"), (0, .fieldref 10 23), (0, .nameAndType 24 25), (0, u "coder"), (0, u "B"), (6, .methodref 1 33), (0, .nameAndType 34 35), (0, u "length"), (0, u "()I"), (0, .class_ 37), (0, u "java/lang/Integer"), (2, .methodref 1 41), (0, .nameAndType 24 42), (0, u "()B"), (2, u "append"), (0, u "(Ljava/lang/String;)Ljava/lang/AbstractStringBuilder;"), (1, .class_ 49), (0, u "java/lang/CharSequence"), (19, u "(Ljava/lang/String;)V"), (5, u "maybeLatin1"), (3, .fieldref 10 80), (0, .nameAndType 81 82), (0, u "count"), (0, u "I"), (0, .methodref 10 84), (0, .nameAndType 85 86), (0, u "isLatin1"), (0, u "()Z"), (13, .methodref 10 101), (0, .nameAndType 102 103), (0, u "ensureCapacityInternal"), (0, u "(I)V"), (3, u "(I)I"), (80, u "getChars"), (19, .methodref 10 209), (0, .nameAndType 210 211), (0, u "putStringAt"), (0, u "(ILjava/lang/String;)V"), (5, u "inflateIfNeededFor"), (2, .nameAndType 221 222), (0, u "getBytes"), (0, u "([BIB)V"), (22, .methodref 36 246), (0, .nameAndType 247 107), (0, u "stringSize"), (0, .methodref 36 249), (0, .nameAndType 188 250), (0, u "(II[B)I"), (146, .methodref 10 398), (0, .nameAndType 217 69), (0, .methodref 1 220), (3, u "()[B"), (40, .class_ 445), (0, u "java/lang/Appendable"), (65, u "(I)Ljava/lang/AbstractStringBuilder;"), (40, u "getValue")] 56

def k13m0 : Method := { name := "<init>", desc := "()V", sig := { parameters := [], returnType := none }, accessFlags := 0, code := none }
def k13c1 : Code := { maxStack := 2, maxLocals := 2, code := jdk_68_method_2_code, exceptionTable := #[], attributes := #[] }
def k13m1 : Method := { name := "<init>", desc := "(I)V", sig := { parameters := [.int], returnType := none }, accessFlags := 0, code := some k13c1 }
def k13c2 : Code := { maxStack := 1, maxLocals := 1, code := jdk_68_method_6_code, exceptionTable := #[], attributes := #[] }
def k13m2 : Method := { name := "length", desc := "()I", sig := { parameters := [], returnType := some .int }, accessFlags := 1, code := some k13c2 }
def k13c3 : Code := { maxStack := 4, maxLocals := 3, code := jdk_68_method_9_code, exceptionTable := #[], attributes := #[] }
def k13m3 : Method := { name := "ensureCapacityInternal", desc := "(I)V", sig := { parameters := [.int], returnType := none }, accessFlags := 2, code := some k13c3 }
def k13c4 : Code := { maxStack := 3, maxLocals := 3, code := jdk_68_method_22_code, exceptionTable := #[], attributes := #[] }
def k13m4 : Method := { name := "append", desc := "(Ljava/lang/String;)Ljava/lang/AbstractStringBuilder;", sig := { parameters := [(.object "java/lang/String")], returnType := some (.object "java/lang/AbstractStringBuilder") }, accessFlags := 1, code := some k13c4 }
def k13c5 : Code := { maxStack := 4, maxLocals := 4, code := jdk_68_method_32_code, exceptionTable := #[], attributes := #[] }
def k13m5 : Method := { name := "append", desc := "(I)Ljava/lang/AbstractStringBuilder;", sig := { parameters := [.int], returnType := some (.object "java/lang/AbstractStringBuilder") }, accessFlags := 1, code := some k13c5 }
def k13c6 : Code := { maxStack := 1, maxLocals := 1, code := jdk_68_method_64_code, exceptionTable := #[], attributes := #[] }
def k13m6 : Method := { name := "getValue", desc := "()[B", sig := { parameters := [], returnType := some (.array .byte) }, accessFlags := 16, code := some k13c6 }
def k13c7 : Code := { maxStack := 1, maxLocals := 1, code := jdk_68_method_68_code, exceptionTable := #[], attributes := #[] }
def k13m7 : Method := { name := "isLatin1", desc := "()Z", sig := { parameters := [], returnType := some .boolean }, accessFlags := 16, code := some k13c7 }
def k13c8 : Code := { maxStack := 2, maxLocals := 2, code := jdk_68_method_71_code, exceptionTable := #[], attributes := #[] }
def k13m8 : Method := { name := "inflateIfNeededFor", desc := "(Ljava/lang/String;)V", sig := { parameters := [(.object "java/lang/String")], returnType := none }, accessFlags := 2, code := some k13c8 }
def k13c9 : Code := { maxStack := 4, maxLocals := 3, code := jdk_68_method_73_code, exceptionTable := #[], attributes := #[] }
def k13m9 : Method := { name := "putStringAt", desc := "(ILjava/lang/String;)V", sig := { parameters := [.int, (.object "java/lang/String")], returnType := none }, accessFlags := 2, code := some k13c9 }
/-- java/lang/AbstractStringBuilder -/
def k13 : Class := { plain "java/lang/AbstractStringBuilder" (some 0) with
  accessFlags := 1056
  interfaces := #[12, 4]
  cf := some (fileOf pool13 10 #[] #[{ accessFlags := 0, nameIndex := 7, descriptorIndex := 8, attributes := #[] }, { accessFlags := 0, nameIndex := 7, descriptorIndex := 103, attributes := #[] }, { accessFlags := 1, nameIndex := 34, descriptorIndex := 35, attributes := #[] }, { accessFlags := 2, nameIndex := 102, descriptorIndex := 103, attributes := #[] }, { accessFlags := 1, nameIndex := 45, descriptorIndex := 46, attributes := #[] }, { accessFlags := 1, nameIndex := 45, descriptorIndex := 511, attributes := #[] }, { accessFlags := 16, nameIndex := 552, descriptorIndex := 403, attributes := #[] }, { accessFlags := 16, nameIndex := 85, descriptorIndex := 86, attributes := #[] }, { accessFlags := 2, nameIndex := 217, descriptorIndex := 69, attributes := #[] }, { accessFlags := 2, nameIndex := 210, descriptorIndex := 211, attributes := #[] }] 1056 4 #[444, 48] #[{ accessFlags := 0, nameIndex := 17, descriptorIndex := 14, attributes := #[] }, { accessFlags := 0, nameIndex := 24, descriptorIndex := 25, attributes := #[] }, { accessFlags := 0, nameIndex := 75, descriptorIndex := 21, attributes := #[] }, { accessFlags := 0, nameIndex := 81, descriptorIndex := 82, attributes := #[] }, { accessFlags := 26, nameIndex := 13, descriptorIndex := 14, attributes := #[] }])
  fields := #[{ name := "value", type := (.array .byte), accessFlags := 0, slot := 0, constantValue := 0 }, { name := "coder", type := .byte, accessFlags := 0, slot := 1, constantValue := 0 }, { name := "maybeLatin1", type := .boolean, accessFlags := 0, slot := 2, constantValue := 0 }, { name := "count", type := .int, accessFlags := 0, slot := 3, constantValue := 0 }, { name := "EMPTYVALUE", type := (.array .byte), accessFlags := 26, slot := 0, constantValue := 0 }]
  methods := #[k13m0, k13m1, k13m2, k13m3, k13m4, k13m5, k13m6, k13m7, k13m8, k13m9]
  instanceTypes := #[(.array .byte), .byte, .boolean, .int]
  staticTypes := #[(.array .byte)]
  resolved := Array.replicate 609 none
  statics := none }

def pool14 : Array CpInfo := pool [(1, .methodref 2 3), (0, .class_ 4), (0, .nameAndType 5 6), (0, u "java/lang/AbstractStringBuilder"), (0, u "<init>"), (0, u "(I)V"), (11, .class_ 20), (1, u "java/lang/String"), (3, .class_ 26), (1, u "java/lang/StringBuilder"), (0, u "append"), (0, u "(Ljava/lang/String;)Ljava/lang/StringBuilder;"), (0, .methodref 2 30), (0, .nameAndType 27 31), (0, u "(Ljava/lang/String;)Ljava/lang/AbstractStringBuilder;"), (21, .methodref 2 54), (0, .nameAndType 27 55), (0, u "(I)Ljava/lang/AbstractStringBuilder;"), (81, .methodref 18 138), (0, .nameAndType 5 139), (0, u "(Ljava/lang/StringBuilder;)V"), (5, u "()V"), (10, u "()I"), (111, u "(I)Ljava/lang/StringBuilder;"), (74, .methodref 2 344), (0, .nameAndType 345 156), (0, u "length"), (3, .class_ 350), (0, u "java/lang/Appendable"), (0, .class_ 352), (0, u "java/io/Serializable"), (0, .class_ 354), (0, u "java/lang/Comparable"), (0, .class_ 356), (0, u "java/lang/CharSequence"), (0, u "serialVersionUID"), (0, u "J"), (40, u "toString"), (0, u "()Ljava/lang/String;")] 21

def k14c0 : Code := { maxStack := 2, maxLocals := 1, code := jdk_67_method_1_code, exceptionTable := #[], attributes := #[] }
def k14m0 : Method := { name := "<init>", desc := "()V", sig := { parameters := [], returnType := none }, accessFlags := 1, code := some k14c0 }
def k14c1 : Code := { maxStack := 2, maxLocals := 2, code := jdk_67_method_7_code, exceptionTable := #[], attributes := #[] }
def k14m1 : Method := { name := "append", desc := "(Ljava/lang/String;)Ljava/lang/StringBuilder;", sig := { parameters := [(.object "java/lang/String")], returnType := some (.object "java/lang/StringBuilder") }, accessFlags := 1, code := some k14c1 }
def k14c2 : Code := { maxStack := 2, maxLocals := 2, code := jdk_67_method_15_code, exceptionTable := #[], attributes := #[] }
def k14m2 : Method := { name := "append", desc := "(I)Ljava/lang/StringBuilder;", sig := { parameters := [.int], returnType := some (.object "java/lang/StringBuilder") }, accessFlags := 1, code := some k14c2 }
def k14c3 : Code := { maxStack := 3, maxLocals := 1, code := jdk_67_method_42_code, exceptionTable := #[], attributes := #[] }
def k14m3 : Method := { name := "toString", desc := "()Ljava/lang/String;", sig := { parameters := [], returnType := some (.object "java/lang/String") }, accessFlags := 1, code := some k14c3 }
def k14c4 : Code := { maxStack := 1, maxLocals := 1, code := jdk_67_method_93_code, exceptionTable := #[], attributes := #[] }
def k14m4 : Method := { name := "length", desc := "()I", sig := { parameters := [], returnType := some .int }, accessFlags := 4161, code := some k14c4 }
/-- java/lang/StringBuilder -/
def k14 : Class := { plain "java/lang/StringBuilder" (some 13) with
  accessFlags := 49
  interfaces := #[12, 2, 3, 4]
  cf := some (fileOf pool14 24 #[] #[{ accessFlags := 1, nameIndex := 5, descriptorIndex := 145, attributes := #[] }, { accessFlags := 1, nameIndex := 27, descriptorIndex := 28, attributes := #[] }, { accessFlags := 1, nameIndex := 27, descriptorIndex := 268, attributes := #[] }, { accessFlags := 1, nameIndex := 399, descriptorIndex := 400, attributes := #[] }, { accessFlags := 4161, nameIndex := 345, descriptorIndex := 156, attributes := #[] }] 49 2 #[349, 351, 353, 355] #[{ accessFlags := 24, nameIndex := 357, descriptorIndex := 358, attributes := #[] }])
  fields := #[{ name := "serialVersionUID", type := .long, accessFlags := 24, slot := 0, constantValue := 0 }]
  methods := #[k14m0, k14m1, k14m2, k14m3, k14m4]
  instanceTypes := #[(.array .byte), .byte, .boolean, .int]
  staticTypes := #[.long]
  resolved := Array.replicate 422 none
  statics := none }

def pool15 : Array CpInfo := pool [(2, .class_ 4), (1, u "java/lang/Object"), (0, u "<init>"), (0, u "()V"), (1, .class_ 10), (1, u "java/lang/System"), (0, u "allowSecurityManager"), (0, u "I"), (16, u "cons"), (0, u "Ljava/io/Console;"), (77, .class_ 110), (1, u "java/lang/System$CallersHolder"), (43, u "initialErrStream"), (0, u "Ljava/io/PrintStream;"), (19, u "security"), (0, u "Ljava/lang/SecurityManager;"), (31, .class_ 209), (0, u "java/lang/System$1"), (7, u "props"), (0, u "Ljava/util/Properties;"), (2, u "lineSeparator"), (0, u "Ljava/lang/String;"), (96, .class_ 321), (1, u "java/lang/System$LoggerFinder"), (5, .class_ 328), (0, u "java/lang/System$Logger"), (67, u "err"), (2, u "out"), (91, u "notSupportedJnuEncoding"), (15, u "in"), (17, u "initialIn"), (0, u "Ljava/io/InputStream;"), (35, u "bootLayer"), (0, u "Ljava/lang/ModuleLayer;"), (99, .class_ 664), (0, u "java/lang/System$2"), (9, u "NEVER"), (2, u "MAYBE"), (49, u "arraycopy"), (0, u "(Ljava/lang/Object;ILjava/lang/Object;II)V"), (72, .class_ 802), (0, u "java/lang/System$Logger$Level")] 31

def k15m0 : Method := { name := "<init>", desc := "()V", sig := { parameters := [], returnType := none }, accessFlags := 2, code := none }
def k15m1 : Method := { name := "arraycopy", desc := "(Ljava/lang/Object;ILjava/lang/Object;II)V", sig := { parameters := [(.object "java/lang/Object"), .int, (.object "java/lang/Object"), .int, .int], returnType := none }, accessFlags := 265, code := none }
/-- java/lang/System -/
def k15 : Class := { plain "java/lang/System" (some 0) with
  accessFlags := 49
  interfaces := #[]
  cf := some (fileOf pool15 8 #[.nestMembers #[319, 327, 801, 108, 663, 208]] #[{ accessFlags := 2, nameIndex := 5, descriptorIndex := 6, attributes := #[] }, { accessFlags := 265, nameIndex := 727, descriptorIndex := 728, attributes := #[] }] 49 2 #[] #[{ accessFlags := 25, nameIndex := 507, descriptorIndex := 526, attributes := #[] }, { accessFlags := 25, nameIndex := 399, descriptorIndex := 155, attributes := #[] }, { accessFlags := 25, nameIndex := 396, descriptorIndex := 155, attributes := #[] }, { accessFlags := 10, nameIndex := 525, descriptorIndex := 526, attributes := #[] }, { accessFlags := 26, nameIndex := 674, descriptorIndex := 12, attributes := #[] }, { accessFlags := 26, nameIndex := 677, descriptorIndex := 12, attributes := #[] }, { accessFlags := 10, nameIndex := 11, descriptorIndex := 12, attributes := #[] }, { accessFlags := 74, nameIndex := 175, descriptorIndex := 176, attributes := #[] }, { accessFlags := 10, nameIndex := 491, descriptorIndex := 222, attributes := #[] }, { accessFlags := 74, nameIndex := 29, descriptorIndex := 30, attributes := #[] }, { accessFlags := 74, nameIndex := 154, descriptorIndex := 155, attributes := #[] }, { accessFlags := 10, nameIndex := 217, descriptorIndex := 218, attributes := #[] }, { accessFlags := 10, nameIndex := 221, descriptorIndex := 222, attributes := #[] }, { accessFlags := 8, nameIndex := 562, descriptorIndex := 563, attributes := #[] }])
  fields := #[{ name := "in", type := (.object "java/io/InputStream"), accessFlags := 25, slot := 0, constantValue := 0 }, { name := "out", type := (.object "java/io/PrintStream"), accessFlags := 25, slot := 1, constantValue := 0 }, { name := "err", type := (.object "java/io/PrintStream"), accessFlags := 25, slot := 2, constantValue := 0 }, { name := "initialIn", type := (.object "java/io/InputStream"), accessFlags := 10, slot := 3, constantValue := 0 }, { name := "NEVER", type := .int, accessFlags := 26, slot := 4, constantValue := 0 }, { name := "MAYBE", type := .int, accessFlags := 26, slot := 5, constantValue := 0 }, { name := "allowSecurityManager", type := .int, accessFlags := 10, slot := 6, constantValue := 0 }, { name := "security", type := (.object "java/lang/SecurityManager"), accessFlags := 74, slot := 7, constantValue := 0 }, { name := "notSupportedJnuEncoding", type := (.object "java/lang/String"), accessFlags := 10, slot := 8, constantValue := 0 }, { name := "cons", type := (.object "java/io/Console"), accessFlags := 74, slot := 9, constantValue := 0 }, { name := "initialErrStream", type := (.object "java/io/PrintStream"), accessFlags := 74, slot := 10, constantValue := 0 }, { name := "props", type := (.object "java/util/Properties"), accessFlags := 10, slot := 11, constantValue := 0 }, { name := "lineSeparator", type := (.object "java/lang/String"), accessFlags := 10, slot := 12, constantValue := 0 }, { name := "bootLayer", type := (.object "java/lang/ModuleLayer"), accessFlags := 8, slot := 13, constantValue := 0 }]
  methods := #[k15m0, k15m1]
  instanceTypes := #[]
  staticTypes := #[(.object "java/io/InputStream"), (.object "java/io/PrintStream"), (.object "java/io/PrintStream"), (.object "java/io/InputStream"), .int, .int, .int, (.object "java/lang/SecurityManager"), (.object "java/lang/String"), (.object "java/io/Console"), (.object "java/io/PrintStream"), (.object "java/util/Properties"), (.object "java/lang/String"), (.object "java/lang/ModuleLayer")]
  resolved := Array.replicate 834 none
  statics := none }

def pool16 : Array CpInfo := pool [(2, .class_ 4), (1, u "java/lang/Object"), (0, u "<init>"), (0, u "()V"), (1, .class_ 10), (1, u "java/lang/Number"), (2, .class_ 14), (0, u "java/io/Serializable"), (0, u "serialVersionUID"), (0, u "J")] 20

def k16m0 : Method := { name := "<init>", desc := "()V", sig := { parameters := [], returnType := none }, accessFlags := 1, code := none }
/-- java/lang/Number -/
def k16 : Class := { plain "java/lang/Number" (some 0) with
  accessFlags := 1057
  interfaces := #[2]
  cf := some (fileOf pool16 8 #[] #[{ accessFlags := 1, nameIndex := 5, descriptorIndex := 6, attributes := #[] }] 1057 2 #[13] #[{ accessFlags := 26, nameIndex := 15, descriptorIndex := 16, attributes := #[] }])
  fields := #[{ name := "serialVersionUID", type := .long, accessFlags := 26, slot := 0, constantValue := 0 }]
  methods := #[k16m0]
  instanceTypes := #[]
  staticTypes := #[.long]
  resolved := Array.replicate 37 none
  statics := none }

def pool17 : Array CpInfo := pool [(1, .class_ 2), (0, u "java/lang/Integer"), (16, u "digits"), (0, u "[C"), (33, u "(I)I"), (19, u "stringSize"), (2, u "getChars"), (0, u "(II[B)I"), (4, .fieldref 1 84), (0, .nameAndType 85 86), (0, u "DigitOnes"), (0, u "[B"), (0, .fieldref 1 88), (0, .nameAndType 89 86), (0, u "DigitTens"), (99, .class_ 190), (0, u "java/lang/Integer$IntegerCache"), (3, u "I"), (8, .class_ 204), (0, u "java/lang/Number"), (2, u "value"), (94, u "TYPE"), (0, u "Ljava/lang/Class;"), (0, .class_ 305), (0, u "java/lang/Comparable"), (0, .class_ 307), (0, u "java/lang/constant/Constable"), (0, .class_ 309), (0, u "java/lang/constant/ConstantDesc"), (0, u "MIN_VALUE"), (1, u "MAX_VALUE"), (3, u "SIZE"), (1, u "BYTES"), (1, u "serialVersionUID"), (0, u "J")] 131

def k17c0 : Code := { maxStack := 4, maxLocals := 7, code := jdk_33_method_12_code, exceptionTable := #[], attributes := #[] }
def k17m0 : Method := { name := "getChars", desc := "(II[B)I", sig := { parameters := [.int, .int, (.array .byte)], returnType := some .int }, accessFlags := 8, code := some k17c0 }
def k17c1 : Code := { maxStack := 2, maxLocals := 4, code := jdk_33_method_13_code, exceptionTable := #[], attributes := #[] }
def k17m1 : Method := { name := "stringSize", desc := "(I)I", sig := { parameters := [.int], returnType := some .int }, accessFlags := 8, code := some k17c1 }
/-- java/lang/Integer -/
def k17 : Class := { plain "java/lang/Integer" (some 16) with
  accessFlags := 49
  interfaces := #[3, 5, 6]
  cf := some (fileOf pool17 1 #[.nestMembers #[189]] #[{ accessFlags := 8, nameIndex := 77, descriptorIndex := 78, attributes := #[] }, { accessFlags := 8, nameIndex := 74, descriptorIndex := 54, attributes := #[] }] 49 203 #[304, 306, 308] #[{ accessFlags := 25, nameIndex := 310, descriptorIndex := 194, attributes := #[] }, { accessFlags := 25, nameIndex := 312, descriptorIndex := 194, attributes := #[] }, { accessFlags := 25, nameIndex := 302, descriptorIndex := 303, attributes := #[] }, { accessFlags := 24, nameIndex := 19, descriptorIndex := 20, attributes := #[] }, { accessFlags := 24, nameIndex := 89, descriptorIndex := 86, attributes := #[] }, { accessFlags := 24, nameIndex := 85, descriptorIndex := 86, attributes := #[] }, { accessFlags := 18, nameIndex := 207, descriptorIndex := 194, attributes := #[] }, { accessFlags := 25, nameIndex := 316, descriptorIndex := 194, attributes := #[] }, { accessFlags := 25, nameIndex := 318, descriptorIndex := 194, attributes := #[] }, { accessFlags := 26, nameIndex := 320, descriptorIndex := 321, attributes := #[] }])
  fields := #[{ name := "MIN_VALUE", type := .int, accessFlags := 25, slot := 0, constantValue := 0 }, { name := "MAX_VALUE", type := .int, accessFlags := 25, slot := 1, constantValue := 0 }, { name := "TYPE", type := (.object "java/lang/Class"), accessFlags := 25, slot := 2, constantValue := 0 }, { name := "digits", type := (.array .char), accessFlags := 24, slot := 3, constantValue := 0 }, { name := "DigitTens", type := (.array .byte), accessFlags := 24, slot := 4, constantValue := 0 }, { name := "DigitOnes", type := (.array .byte), accessFlags := 24, slot := 5, constantValue := 0 }, { name := "value", type := .int, accessFlags := 18, slot := 0, constantValue := 0 }, { name := "SIZE", type := .int, accessFlags := 25, slot := 6, constantValue := 0 }, { name := "BYTES", type := .int, accessFlags := 25, slot := 7, constantValue := 0 }, { name := "serialVersionUID", type := .long, accessFlags := 26, slot := 8, constantValue := 0 }]
  methods := #[k17m0, k17m1]
  instanceTypes := #[.int]
  staticTypes := #[.int, .int, (.object "java/lang/Class"), (.array .char), (.array .byte), (.array .byte), .int, .int, .long]
  resolved := Array.replicate 453 none
  statics := some 1 }

def pool18 : Array CpInfo := pool [(2, .class_ 4), (1, u "java/lang/Object"), (0, u "<init>"), (0, u "()V"), (7, .class_ 16), (1, u "java/util/Arrays"), (57, .class_ 76), (1, u "java/util/Arrays$NaturalOrder"), (36, .class_ 115), (1, u "java/util/Arrays$LegacyMergeSort"), (1, u "Z"), (21, u "copyOfRange"), (10, .methodref 151 152), (0, .class_ 153), (0, .nameAndType 154 155), (0, u "java/lang/System"), (0, u "arraycopy"), (0, u "(Ljava/lang/Object;ILjava/lang/Object;II)V"), (148, .methodref 305 306), (0, .class_ 307), (0, .nameAndType 308 309), (0, u "java/lang/Math"), (0, u "min"), (0, u "(II)I"), (29, .methodref 14 340), (0, .nameAndType 341 342), (0, u "copyOfRangeByte"), (0, u "([BII)[B"), (0, .methodref 14 344), (0, .nameAndType 345 346), (0, u "checkLength"), (0, u "(II)V"), (28, .class_ 376), (0, u "java/util/Arrays$ArrayList"), (68, u "$assertionsDisabled"), (269, u "MIN_ARRAY_SORT_GRAN"), (0, u "I"), (2, u "INSERTIONSORT_THRESHOLD"), (255, .class_ 976), (0, u "java/util/Arrays$ArrayItr")] 52

def k18m0 : Method := { name := "<init>", desc := "()V", sig := { parameters := [], returnType := none }, accessFlags := 2, code := none }
def k18c1 : Code := { maxStack := 4, maxLocals := 2, code := jdk_65_method_131_code, exceptionTable := #[], attributes := #[] }
def k18m1 : Method := { name := "checkLength", desc := "(II)V", sig := { parameters := [.int, .int], returnType := none }, accessFlags := 10, code := some k18c1 }
def k18c2 : Code := { maxStack := 3, maxLocals := 3, code := jdk_65_method_132_code, exceptionTable := #[], attributes := #[] }
def k18m2 : Method := { name := "copyOfRange", desc := "([BII)[B", sig := { parameters := [(.array .byte), .int, .int], returnType := some (.array .byte) }, accessFlags := 9, code := some k18c2 }
def k18c3 : Code := { maxStack := 6, maxLocals := 5, code := jdk_65_method_133_code, exceptionTable := #[], attributes := #[] }
def k18m3 : Method := { name := "copyOfRangeByte", desc := "([BII)[B", sig := { parameters := [(.array .byte), .int, .int], returnType := some (.array .byte) }, accessFlags := 10, code := some k18c3 }
/-- java/util/Arrays -/
def k18 : Class := { plain "java/util/Arrays" (some 0) with
  accessFlags := 49
  interfaces := #[]
  cf := some (fileOf pool18 14 #[.nestMembers #[975, 375, 113, 74]] #[{ accessFlags := 2, nameIndex := 5, descriptorIndex := 6, attributes := #[] }, { accessFlags := 10, nameIndex := 345, descriptorIndex := 346, attributes := #[] }, { accessFlags := 9, nameIndex := 139, descriptorIndex := 342, attributes := #[] }, { accessFlags := 10, nameIndex := 341, descriptorIndex := 342, attributes := #[] }] 49 2 #[] #[{ accessFlags := 26, nameIndex := 715, descriptorIndex := 716, attributes := #[] }, { accessFlags := 26, nameIndex := 719, descriptorIndex := 716, attributes := #[] }, { accessFlags := 4120, nameIndex := 445, descriptorIndex := 117, attributes := #[] }])
  fields := #[{ name := "MIN_ARRAY_SORT_GRAN", type := .int, accessFlags := 26, slot := 0, constantValue := 0 }, { name := "INSERTIONSORT_THRESHOLD", type := .int, accessFlags := 26, slot := 1, constantValue := 0 }, { name := "$assertionsDisabled", type := .boolean, accessFlags := 4120, slot := 2, constantValue := 0 }]
  methods := #[k18m0, k18m1, k18m2, k18m3]
  instanceTypes := #[]
  staticTypes := #[.int, .int, .boolean]
  resolved := Array.replicate 1029 none
  statics := none }

def pool19 : Array CpInfo := pool [(1, .class_ 2), (0, u "java/lang/Math"), (1, .class_ 6), (1, u "java/lang/Object"), (0, u "<init>"), (0, u "()V"), (89, .class_ 100), (1, u "java/lang/Math$RandomNumberGeneratorHolder"), (71, u "negativeZeroFloatBits"), (0, u "J"), (2, u "negativeZeroDoubleBits"), (24, u "min"), (43, u "$assertionsDisabled"), (0, u "Z"), (88, u "(II)I"), (2, u "twoToTheDoubleScaleDown"), (0, u "D"), (4, u "twoToTheDoubleScaleUp"), (9, u "E"), (3, u "PI"), (2, u "TAU"), (2, u "DEGREES_TO_RADIANS"), (0, u "RADIANS_TO_DEGREES")] 94

def k19m0 : Method := { name := "<init>", desc := "()V", sig := { parameters := [], returnType := none }, accessFlags := 2, code := none }
def k19c1 : Code := { maxStack := 2, maxLocals := 2, code := jdk_29_method_69_code, exceptionTable := #[], attributes := #[] }
def k19m1 : Method := { name := "min", desc := "(II)I", sig := { parameters := [.int, .int], returnType := some .int }, accessFlags := 9, code := some k19c1 }
/-- java/lang/Math -/
def k19 : Class := { plain "java/lang/Math" (some 0) with
  accessFlags := 49
  interfaces := #[]
  cf := some (fileOf pool19 1 #[.nestMembers #[98]] #[{ accessFlags := 2, nameIndex := 7, descriptorIndex := 8, attributes := #[] }, { accessFlags := 9, nameIndex := 201, descriptorIndex := 335, attributes := #[] }] 49 4 #[] #[{ accessFlags := 25, nameIndex := 354, descriptorIndex := 339, attributes := #[] }, { accessFlags := 25, nameIndex := 358, descriptorIndex := 339, attributes := #[] }, { accessFlags := 25, nameIndex := 361, descriptorIndex := 339, attributes := #[] }, { accessFlags := 26, nameIndex := 364, descriptorIndex := 339, attributes := #[] }, { accessFlags := 26, nameIndex := 365, descriptorIndex := 339, attributes := #[] }, { accessFlags := 26, nameIndex := 172, descriptorIndex := 173, attributes := #[] }, { accessFlags := 26, nameIndex := 176, descriptorIndex := 173, attributes := #[] }, { accessFlags := 8, nameIndex := 344, descriptorIndex := 339, attributes := #[] }, { accessFlags := 8, nameIndex := 338, descriptorIndex := 339, attributes := #[] }, { accessFlags := 4120, nameIndex := 245, descriptorIndex := 246, attributes := #[] }])
  fields := #[{ name := "E", type := .double, accessFlags := 25, slot := 0, constantValue := 0 }, { name := "PI", type := .double, accessFlags := 25, slot := 1, constantValue := 0 }, { name := "TAU", type := .double, accessFlags := 25, slot := 2, constantValue := 0 }, { name := "DEGREES_TO_RADIANS", type := .double, accessFlags := 26, slot := 3, constantValue := 0 }, { name := "RADIANS_TO_DEGREES", type := .double, accessFlags := 26, slot := 4, constantValue := 0 }, { name := "negativeZeroFloatBits", type := .long, accessFlags := 26, slot := 5, constantValue := 0 }, { name := "negativeZeroDoubleBits", type := .long, accessFlags := 26, slot := 6, constantValue := 0 }, { name := "twoToTheDoubleScaleUp", type := .double, accessFlags := 8, slot := 7, constantValue := 0 }, { name := "twoToTheDoubleScaleDown", type := .double, accessFlags := 8, slot := 8, constantValue := 0 }, { name := "$assertionsDisabled", type := .boolean, accessFlags := 4120, slot := 9, constantValue := 0 }]
  methods := #[k19m0, k19m1]
  instanceTypes := #[]
  staticTypes := #[.double, .double, .double, .double, .double, .long, .long, .double, .double, .boolean]
  resolved := Array.replicate 460 none
  statics := none }

def pool20 : Array CpInfo := pool [(1, .class_ 2), (0, u "java/lang/String"), (1, .class_ 6), (1, u "java/lang/Object"), (0, u "<init>"), (0, u "()V"), (0, .methodref 1 10), (0, .nameAndType 11 12), (0, u "checkIndex"), (0, u "(II)V"), (1, .class_ 16), (1, u "java/lang/StringLatin1"), (36, u "([BI)C"), (67, u "$assertionsDisabled"), (0, u "Z"), (98, .class_ 223), (1, u "java/lang/StringLatin1$LinesSpliterator"), (28, u "charAt"), (137, .class_ 391), (0, u "java/lang/StringLatin1$CharsSpliterator")] 3

def k20m0 : Method := { name := "<init>", desc := "()V", sig := { parameters := [], returnType := none }, accessFlags := 0, code := none }
def k20c1 : Code := { maxStack := 2, maxLocals := 2, code := jdk_43_method_2_code, exceptionTable := #[], attributes := #[] }
def k20m1 : Method := { name := "charAt", desc := "([BI)C", sig := { parameters := [(.array .byte), .int], returnType := some .char }, accessFlags := 9, code := some k20c1 }
/-- java/lang/StringLatin1 -/
def k20 : Class := { plain "java/lang/StringLatin1" (some 0) with
  accessFlags := 48
  interfaces := #[]
  cf := some (fileOf pool20 14 #[.nestMembers #[390, 221]] #[{ accessFlags := 0, nameIndex := 7, descriptorIndex := 8, attributes := #[] }, { accessFlags := 9, nameIndex := 252, descriptorIndex := 53, attributes := #[] }] 48 4 #[] #[{ accessFlags := 4120, nameIndex := 121, descriptorIndex := 122, attributes := #[] }])
  fields := #[{ name := "$assertionsDisabled", type := .boolean, accessFlags := 4120, slot := 0, constantValue := 0 }]
  methods := #[k20m0, k20m1]
  instanceTypes := #[]
  staticTypes := #[.boolean]
  resolved := Array.replicate 395 none
  statics := none }

def pool21 : Array CpInfo := pool [(2, .class_ 4), (1, u "java/lang/Object"), (0, u "<init>"), (0, u "()V"), (17, .class_ 26), (1, u "jdk/internal/util/Preconditions"), (6, u "checkIndex"), (21, .class_ 56), (0, u "jdk/internal/util/Preconditions$4"), (57, .class_ 115), (0, u "jdk/internal/util/Preconditions$1"), (7, u "SIOOBE_FORMATTER"), (0, u "Ljava/util/function/BiFunction;"), (0, .class_ 126), (0, u "jdk/internal/util/Preconditions$2"), (3, u "AIOOBE_FORMATTER"), (0, .class_ 132), (0, u "jdk/internal/util/Preconditions$3"), (3, u "IOOBE_FORMATTER"), (41, u "(IILjava/util/function/BiFunction;)I")] 15

def k21m0 : Method := { name := "<init>", desc := "()V", sig := { parameters := [], returnType := none }, accessFlags := 1, code := none }
def k21c1 : Code := { maxStack := 3, maxLocals := 3, code := jdk_41_method_11_code, exceptionTable := #[], attributes := #[] }
def k21m1 : Method := { name := "checkIndex", desc := "(IILjava/util/function/BiFunction;)I", sig := { parameters := [.int, .int, (.object "java/util/function/BiFunction")], returnType := some .int }, accessFlags := 9, code := some k21c1 }
/-- jdk/internal/util/Preconditions -/
def k21 : Class := { plain "jdk/internal/util/Preconditions" (some 0) with
  accessFlags := 33
  interfaces := #[]
  cf := some (fileOf pool21 24 #[.nestMembers #[55, 131, 125, 114]] #[{ accessFlags := 1, nameIndex := 5, descriptorIndex := 6, attributes := #[] }, { accessFlags := 9, nameIndex := 33, descriptorIndex := 178, attributes := #[] }] 33 2 #[] #[{ accessFlags := 25, nameIndex := 123, descriptorIndex := 124, attributes := #[] }, { accessFlags := 25, nameIndex := 130, descriptorIndex := 124, attributes := #[] }, { accessFlags := 25, nameIndex := 136, descriptorIndex := 124, attributes := #[] }])
  fields := #[{ name := "SIOOBE_FORMATTER", type := (.object "java/util/function/BiFunction"), accessFlags := 25, slot := 0, constantValue := 0 }, { name := "AIOOBE_FORMATTER", type := (.object "java/util/function/BiFunction"), accessFlags := 25, slot := 1, constantValue := 0 }, { name := "IOOBE_FORMATTER", type := (.object "java/util/function/BiFunction"), accessFlags := 25, slot := 2, constantValue := 0 }]
  methods := #[k21m0, k21m1]
  instanceTypes := #[]
  staticTypes := #[(.object "java/util/function/BiFunction"), (.object "java/util/function/BiFunction"), (.object "java/util/function/BiFunction")]
  resolved := Array.replicate 194 none
  statics := some 2 }

def pool22 : Array CpInfo := pool [(9, u "<init>"), (6, .class_ 18), (1, u "java/lang/Object"), (0, u "()V"), (1, .class_ 23), (1, u "jdk/internal/util/ArraysSupport"), (0, u "LOG2_ARRAY_LONG_INDEX_SCALE"), (0, u "I"), (2, u "U"), (0, u "Ljdk/internal/misc/Unsafe;"), (8, u "BIG_ENDIAN"), (0, u "Z"), (8, u "LOG2_BYTE_BIT_SIZE"), (4, u "LOG2_ARRAY_INT_INDEX_SCALE"), (54, u "JLA"), (0, u "Ljdk/internal/access/JavaLangAccess;"), (11, u "LOG2_ARRAY_BOOLEAN_INDEX_SCALE"), (9, u "LOG2_ARRAY_BYTE_INDEX_SCALE"), (5, u "LOG2_ARRAY_CHAR_INDEX_SCALE"), (5, u "LOG2_ARRAY_SHORT_INDEX_SCALE"), (18, u "LOG2_ARRAY_FLOAT_INDEX_SCALE"), (24, u "LOG2_ARRAY_DOUBLE_INDEX_SCALE"), (89, u "T_BOOLEAN"), (2, u "T_CHAR"), (1, u "T_FLOAT"), (1, u "T_DOUBLE"), (1, u "T_BYTE"), (1, u "T_SHORT"), (1, u "T_INT"), (1, u "T_LONG"), (1, u "SOFT_MAX_ARRAY_LENGTH")] 83

def k22m0 : Method := { name := "<init>", desc := "()V", sig := { parameters := [], returnType := none }, accessFlags := 2, code := none }
/-- jdk/internal/util/ArraysSupport -/
def k22 : Class := { plain "jdk/internal/util/ArraysSupport" (some 0) with
  accessFlags := 33
  interfaces := #[]
  cf := some (fileOf pool22 21 #[] #[{ accessFlags := 2, nameIndex := 9, descriptorIndex := 19, attributes := #[] }] 33 16 #[] #[{ accessFlags := 24, nameIndex := 28, descriptorIndex := 29, attributes := #[] }, { accessFlags := 26, nameIndex := 38, descriptorIndex := 39, attributes := #[] }, { accessFlags := 25, nameIndex := 121, descriptorIndex := 25, attributes := #[] }, { accessFlags := 25, nameIndex := 131, descriptorIndex := 25, attributes := #[] }, { accessFlags := 25, nameIndex := 137, descriptorIndex := 25, attributes := #[] }, { accessFlags := 25, nameIndex := 143, descriptorIndex := 25, attributes := #[] }, { accessFlags := 25, nameIndex := 53, descriptorIndex := 25, attributes := #[] }, { accessFlags := 25, nameIndex := 24, descriptorIndex := 25, attributes := #[] }, { accessFlags := 25, nameIndex := 162, descriptorIndex := 25, attributes := #[] }, { accessFlags := 25, nameIndex := 187, descriptorIndex := 25, attributes := #[] }, { accessFlags := 26, nameIndex := 48, descriptorIndex := 25, attributes := #[] }, { accessFlags := 25, nameIndex := 277, descriptorIndex := 25, attributes := #[] }, { accessFlags := 25, nameIndex := 280, descriptorIndex := 25, attributes := #[] }, { accessFlags := 25, nameIndex := 282, descriptorIndex := 25, attributes := #[] }, { accessFlags := 25, nameIndex := 284, descriptorIndex := 25, attributes := #[] }, { accessFlags := 25, nameIndex := 286, descriptorIndex := 25, attributes := #[] }, { accessFlags := 25, nameIndex := 288, descriptorIndex := 25, attributes := #[] }, { accessFlags := 25, nameIndex := 290, descriptorIndex := 25, attributes := #[] }, { accessFlags := 25, nameIndex := 292, descriptorIndex := 25, attributes := #[] }, { accessFlags := 26, nameIndex := 108, descriptorIndex := 109, attributes := #[] }, { accessFlags := 25, nameIndex := 294, descriptorIndex := 25, attributes := #[] }])
  fields := #[{ name := "U", type := (.object "jdk/internal/misc/Unsafe"), accessFlags := 24, slot := 0, constantValue := 0 }, { name := "BIG_ENDIAN", type := .boolean, accessFlags := 26, slot := 1, constantValue := 0 }, { name := "LOG2_ARRAY_BOOLEAN_INDEX_SCALE", type := .int, accessFlags := 25, slot := 2, constantValue := 0 }, { name := "LOG2_ARRAY_BYTE_INDEX_SCALE", type := .int, accessFlags := 25, slot := 3, constantValue := 0 }, { name := "LOG2_ARRAY_CHAR_INDEX_SCALE", type := .int, accessFlags := 25, slot := 4, constantValue := 0 }, { name := "LOG2_ARRAY_SHORT_INDEX_SCALE", type := .int, accessFlags := 25, slot := 5, constantValue := 0 }, { name := "LOG2_ARRAY_INT_INDEX_SCALE", type := .int, accessFlags := 25, slot := 6, constantValue := 0 }, { name := "LOG2_ARRAY_LONG_INDEX_SCALE", type := .int, accessFlags := 25, slot := 7, constantValue := 0 }, { name := "LOG2_ARRAY_FLOAT_INDEX_SCALE", type := .int, accessFlags := 25, slot := 8, constantValue := 0 }, { name := "LOG2_ARRAY_DOUBLE_INDEX_SCALE", type := .int, accessFlags := 25, slot := 9, constantValue := 0 }, { name := "LOG2_BYTE_BIT_SIZE", type := .int, accessFlags := 26, slot := 10, constantValue := 0 }, { name := "T_BOOLEAN", type := .int, accessFlags := 25, slot := 11, constantValue := 0 }, { name := "T_CHAR", type := .int, accessFlags := 25, slot := 12, constantValue := 0 }, { name := "T_FLOAT", type := .int, accessFlags := 25, slot := 13, constantValue := 0 }, { name := "T_DOUBLE", type := .int, accessFlags := 25, slot := 14, constantValue := 0 }, { name := "T_BYTE", type := .int, accessFlags := 25, slot := 15, constantValue := 0 }, { name := "T_SHORT", type := .int, accessFlags := 25, slot := 16, constantValue := 0 }, { name := "T_INT", type := .int, accessFlags := 25, slot := 17, constantValue := 0 }, { name := "T_LONG", type := .int, accessFlags := 25, slot := 18, constantValue := 0 }, { name := "JLA", type := (.object "jdk/internal/access/JavaLangAccess"), accessFlags := 26, slot := 19, constantValue := 0 }, { name := "SOFT_MAX_ARRAY_LENGTH", type := .int, accessFlags := 25, slot := 20, constantValue := 0 }]
  methods := #[k22m0]
  instanceTypes := #[]
  staticTypes := #[(.object "jdk/internal/misc/Unsafe"), .boolean, .int, .int, .int, .int, .int, .int, .int, .int, .int, .int, .int, .int, .int, .int, .int, .int, .int, (.object "jdk/internal/access/JavaLangAccess"), .int]
  resolved := Array.replicate 378 none
  statics := none }

def pool23 : Array CpInfo := pool [(1, u "java/lang/Cloneable"), (0, .class_ 1), (0, u "java/lang/Object"), (0, .class_ 3)] 3

/-- java/lang/Cloneable -/
def k23 : Class := { plain "java/lang/Cloneable" (some 0) with
  accessFlags := 1537
  interfaces := #[]
  cf := some (fileOf pool23 2 #[] #[] 1537 4 #[] #[])
  fields := #[]
  methods := #[]
  instanceTypes := #[]
  staticTypes := #[]
  resolved := Array.replicate 8 none
  statics := none }

/-- the primitive byte -/
def k24 : Class := { plain "byte" none with kind := .primitive 'B', accessFlags := 0x411 }
/-- [B -/
def k25 : Class := { plain "[B" (some 0) with kind := .array 24 .byte, interfaces := #[23, 2], accessFlags := 1041 }

/-- the primitive char -/
def k26 : Class := { plain "char" none with kind := .primitive 'C', accessFlags := 0x411 }
/-- [C -/
def k27 : Class := { plain "[C" (some 0) with kind := .array 26 .char, interfaces := #[23, 2], accessFlags := 1041 }

/-- the primitive int -/
def k28 : Class := { plain "int" none with kind := .primitive 'I', accessFlags := 0x411 }
/-- [I -/
def k29 : Class := { plain "[I" (some 0) with kind := .array 28 .int, interfaces := #[23, 2], accessFlags := 1041 }

def heap : Heap := #[{ cls := 7, slots := #[.long 0, .int 1, .null, .int 0, .null, .int 0, .int 0], vm := .statics 7 },
  { cls := 17, slots := #[.int 0, .int 0, .null, .null, .ref 4, .ref 3, .int 0, .int 0, .long 0], vm := .statics 17 },
  { cls := 21, slots := #[.null, .null, .null], vm := .statics 21 },
  { cls := 25, slots := #[.int 48, .int 49, .int 50, .int 51, .int 52, .int 53, .int 54, .int 55, .int 56, .int 57, .int 48, .int 49, .int 50, .int 51, .int 52, .int 53, .int 54, .int 55, .int 56, .int 57, .int 48, .int 49, .int 50, .int 51, .int 52, .int 53, .int 54, .int 55, .int 56, .int 57, .int 48, .int 49, .int 50, .int 51, .int 52, .int 53, .int 54, .int 55, .int 56, .int 57, .int 48, .int 49, .int 50, .int 51, .int 52, .int 53, .int 54, .int 55, .int 56, .int 57, .int 48, .int 49, .int 50, .int 51, .int 52, .int 53, .int 54, .int 55, .int 56, .int 57, .int 48, .int 49, .int 50, .int 51, .int 52, .int 53, .int 54, .int 55, .int 56, .int 57, .int 48, .int 49, .int 50, .int 51, .int 52, .int 53, .int 54, .int 55, .int 56, .int 57, .int 48, .int 49, .int 50, .int 51, .int 52, .int 53, .int 54, .int 55, .int 56, .int 57, .int 48, .int 49, .int 50, .int 51, .int 52, .int 53, .int 54, .int 55, .int 56, .int 57], vm := .none },
  { cls := 25, slots := #[.int 48, .int 48, .int 48, .int 48, .int 48, .int 48, .int 48, .int 48, .int 48, .int 48, .int 49, .int 49, .int 49, .int 49, .int 49, .int 49, .int 49, .int 49, .int 49, .int 49, .int 50, .int 50, .int 50, .int 50, .int 50, .int 50, .int 50, .int 50, .int 50, .int 50, .int 51, .int 51, .int 51, .int 51, .int 51, .int 51, .int 51, .int 51, .int 51, .int 51, .int 52, .int 52, .int 52, .int 52, .int 52, .int 52, .int 52, .int 52, .int 52, .int 52, .int 53, .int 53, .int 53, .int 53, .int 53, .int 53, .int 53, .int 53, .int 53, .int 53, .int 54, .int 54, .int 54, .int 54, .int 54, .int 54, .int 54, .int 54, .int 54, .int 54, .int 55, .int 55, .int 55, .int 55, .int 55, .int 55, .int 55, .int 55, .int 55, .int 55, .int 56, .int 56, .int 56, .int 56, .int 56, .int 56, .int 56, .int 56, .int 56, .int 56, .int 57, .int 57, .int 57, .int 57, .int 57, .int 57, .int 57, .int 57, .int 57, .int 57], vm := .none }]
def classes : Array Class := #[k0, k1, k2, k3, k4, k5, k6, k7, k8, k9, k10, k11, k12, k13, k14, k15, k16, k17, k18, k19, k20, k21, k22, k23, k24, k25, k26, k27, k28, k29]
def interned : List (Array UInt16 × Addr) := []
def slotsUsed : Nat := 219
def theMethod : MethodId := ⟨1, 1⟩
def args0 : Array Value := #[.int 97, .int 98, .int 99, .int 2, .int 80]
def aboutOver (below : List Frame) : State where
  vm := { classes := classes, interned := interned.toArray }
  heap := heap
  slotsUsed := slotsUsed
  threads := #[{ frames := .invoking theMethod args0 :: below }]
def below0 : List Frame := [.native { method := ⟨0, 0⟩, args := #[] }]
def about1 : State := aboutOver below0
def p0 : Program := .bare "" "" ""
def e0 : Env := launch0.env 0 0 0
theorem w_frames : about1.frames = Frame.invoking theMethod args0 :: below0 := rfl
set_option maxRecDepth 65536 in
theorem w_args : argsFit about1.vm theMethod args0 = true := by decide +kernel
set_option maxRecDepth 65536 in
theorem w_heap : heapFits about1 = true := by decide +kernel
set_option maxRecDepth 65536 in
theorem w_runnable : about1.curStatus? = some .runnable := by decide +kernel
set_option maxRecDepth 65536 in
theorem w_alone : about1.alone = true := by decide +kernel
set_option maxRecDepth 65536 in
theorem w_named : about1.methodNamed? x = some theMethod := by decide +kernel
set_option maxRecDepth 65536 in
theorem w_hears : about1.hears theMethod below0 = true := by decide +kernel
set_option maxRecDepth 65536 in
theorem w_ripe : about1.ripe theMethod args0 below0 = true := by decide +kernel
theorem w_running : about1.status = .running := rfl
set_option maxRecDepth 65536 in
theorem w_room : about1.hasRoom e0.platform room_1 = true :=
  launch0.hasRoom_least _ room_1 (by decide +kernel) (by decide +kernel) (by decide +kernel) (by decide +kernel) (by decide +kernel) (by decide +kernel)
theorem allAtoms_all (ts : List Jvm.Cond) (a : Array Jvm.Value) (st : Jvm.State) : (allAtoms ts).before a st = ts.all (fun c => c.before a st) := by
  induction ts with
  | nil => rfl
  | cons c t ih =>
    show (Jvm.Cond.and c (allAtoms t)).before a st = _
    rw [Jvm.Cond.before_and, ih, List.all_cons]
def words1 : List Jvm.Cond := Jvm.Cond.code x code maxLocals ret :: tables_1
/-- a 'code' word, met by the world's own term for the bytes: nothing is compared byte by byte -/
theorem code_word {y : MethodName} {bytes : ByteArray} {mx : Nat} {rt : Option FieldType} {a : Array Value} {s : State} {m : MethodId} {meth : Method} {c : Code} (h1 : s.methodNamed? y = some m) (h2 : s.vm.method? m = some meth) (h3 : meth.code = some c) (h4 : c.code = bytes)
    (h5 : (c.maxLocals == mx && c.exceptionTable.isEmpty && decide (c.maxStack ≤ mostOperands) && decide (meth.sig.returnType = rt) && !meth.locks && decide (parseMethodDescriptor y.desc = some meth.sig)) = true) : (Jvm.Cond.code y bytes mx rt).before a s = true := by
  simp only [Bool.and_eq_true, beq_iff_eq, Bool.not_eq_true', decide_eq_true_eq] at h5
  obtain ⟨⟨⟨⟨⟨g1, g2⟩, g3⟩, g4⟩, g5⟩, g6⟩ := h5
  simp [Cond.before, Cond.holds, Cond.value, h1, h2, h3, h4, g1, g2, g3, g4, g5, g6]
def isCode : Jvm.Cond → Bool
  | .code _ _ _ _ => true
  | _ => false
theorem all_split {L : List Jvm.Cond} {P : Jvm.Cond → Bool} (h1 : L.all (fun c => isCode c || P c) = true) (h2 : ∀ c ∈ L.filter isCode, P c = true) : L.all P = true := by
  refine List.all_eq_true.mpr fun c hc => ?_
  have h := List.all_eq_true.mp h1 c hc
  rcases Bool.eq_false_or_eq_true (isCode c) with hi | hi
  · exact h2 c (List.mem_filter.mpr ⟨hc, hi⟩)
  · simpa [hi] using h
set_option maxRecDepth 65536 in
theorem w_c0 : (Jvm.Cond.code x code maxLocals ret).before args0 about1 = true := code_word (m := ⟨1, 1⟩) (meth := k1m1) (c := k1c1) (by decide +kernel) rfl rfl rfl (by decide +kernel)
set_option maxRecDepth 65536 in
theorem w_c1 : (Jvm.Cond.code ({ cls := "java/lang/String", name := "<init>", desc := "([C)V" } : Jvm.MethodName) jdk_42_method_3_code (2 : Nat) (Option.none : Option Jvm.ClassFile.FieldType)).before args0 about1 = true := code_word (m := ⟨7, 1⟩) (meth := k7m1) (c := k7c1) (by decide +kernel) rfl rfl rfl (by decide +kernel)
set_option maxRecDepth 65536 in
theorem w_c2 : (Jvm.Cond.code ({ cls := "java/lang/String", name := "<init>", desc := "([CIILjava/lang/Void;)V" } : Jvm.MethodName) jdk_42_method_149_code (6 : Nat) (Option.none : Option Jvm.ClassFile.FieldType)).before args0 about1 = true := code_word (m := ⟨7, 6⟩) (meth := k7m6) (c := k7c6) (by decide +kernel) rfl rfl rfl (by decide +kernel)
set_option maxRecDepth 65536 in
theorem w_c3 : (Jvm.Cond.code ({ cls := "java/lang/Object", name := "<init>", desc := "()V" } : Jvm.MethodName) object_method_1_code (1 : Nat) (Option.none : Option Jvm.ClassFile.FieldType)).before args0 about1 = true := code_word (m := ⟨0, 0⟩) (meth := k0m0) (c := k0c0) (by decide +kernel) rfl rfl rfl (by decide +kernel)
set_option maxRecDepth 65536 in
theorem w_c4 : (Jvm.Cond.code ({ cls := "java/lang/StringUTF16", name := "compress", desc := "([CII)[B" } : Jvm.MethodName) jdk_52_method_16_code (6 : Nat) (Option.some (Jvm.ClassFile.FieldType.array Jvm.ClassFile.FieldType.byte))).before args0 about1 = true := code_word (m := ⟨8, 2⟩) (meth := k8m2) (c := k8c2) (by decide +kernel) rfl rfl rfl (by decide +kernel)
set_option maxRecDepth 65536 in
theorem w_c5 : (Jvm.Cond.code ({ cls := "java/lang/StringUTF16", name := "compress", desc := "([CI[BII)I" } : Jvm.MethodName) jdk_52_method_21_code (7 : Nat) (Option.some Jvm.ClassFile.FieldType.int)).before args0 about1 = true := code_word (m := ⟨8, 3⟩) (meth := k8m3) (c := k8c3) (by decide +kernel) rfl rfl rfl (by decide +kernel)
set_option maxRecDepth 65536 in
theorem w_c6 : (Jvm.Cond.code ({ cls := "java/lang/StringUTF16", name := "coderFromArrayLen", desc := "([BI)B" } : Jvm.MethodName) jdk_52_method_15_code (2 : Nat) (Option.some Jvm.ClassFile.FieldType.byte)).before args0 about1 = true := code_word (m := ⟨8, 1⟩) (meth := k8m1) (c := k8c1) (by decide +kernel) rfl rfl rfl (by decide +kernel)
set_option maxRecDepth 65536 in
theorem w_c7 : (Jvm.Cond.code ({ cls := "com/example/outrigger/outrigger/model/Address", name := "<init>", desc := "(Ljava/lang/String;I)V" } : Jvm.MethodName) prog_28_method_1_code (3 : Nat) (Option.none : Option Jvm.ClassFile.FieldType)).before args0 about1 = true := code_word (m := ⟨10, 0⟩) (meth := k10m0) (c := k10c0) (by decide +kernel) rfl rfl rfl (by decide +kernel)
set_option maxRecDepth 65536 in
theorem w_c8 : (Jvm.Cond.code ({ cls := "java/lang/Record", name := "<init>", desc := "()V" } : Jvm.MethodName) jdk_30_method_1_code (1 : Nat) (Option.none : Option Jvm.ClassFile.FieldType)).before args0 about1 = true := code_word (m := ⟨9, 0⟩) (meth := k9m0) (c := k9c0) (by decide +kernel) rfl rfl rfl (by decide +kernel)
set_option maxRecDepth 65536 in
theorem w_c9 : (Jvm.Cond.code ({ cls := "java/util/Objects", name := "requireNonNull", desc := "(Ljava/lang/Object;Ljava/lang/String;)Ljava/lang/Object;" } : Jvm.MethodName) jdk_31_method_11_code (2 : Nat) (Option.some (Jvm.ClassFile.FieldType.object "java/lang/Object"))).before args0 about1 = true := code_word (m := ⟨11, 1⟩) (meth := k11m1) (c := k11c1) (by decide +kernel) rfl rfl rfl (by decide +kernel)
set_option maxRecDepth 65536 in
theorem w_c10 : (Jvm.Cond.code ({ cls := "com/example/outrigger/outrigger/model/Address", name := "toString", desc := "()Ljava/lang/String;" } : Jvm.MethodName) prog_28_method_4_code (1 : Nat) (Option.some (Jvm.ClassFile.FieldType.object "java/lang/String"))).before args0 about1 = true := code_word (m := ⟨10, 1⟩) (meth := k10m1) (c := k10c1) (by decide +kernel) rfl rfl rfl (by decide +kernel)
set_option maxRecDepth 65536 in
theorem w_c11 : (Jvm.Cond.code ({ cls := "java/lang/StringBuilder", name := "<init>", desc := "()V" } : Jvm.MethodName) jdk_67_method_1_code (1 : Nat) (Option.none : Option Jvm.ClassFile.FieldType)).before args0 about1 = true := code_word (m := ⟨14, 0⟩) (meth := k14m0) (c := k14c0) (by decide +kernel) rfl rfl rfl (by decide +kernel)
set_option maxRecDepth 65536 in
theorem w_c12 : (Jvm.Cond.code ({ cls := "java/lang/AbstractStringBuilder", name := "<init>", desc := "(I)V" } : Jvm.MethodName) jdk_68_method_2_code (2 : Nat) (Option.none : Option Jvm.ClassFile.FieldType)).before args0 about1 = true := code_word (m := ⟨13, 1⟩) (meth := k13m1) (c := k13c1) (by decide +kernel) rfl rfl rfl (by decide +kernel)
set_option maxRecDepth 65536 in
theorem w_c13 : (Jvm.Cond.code ({ cls := "java/lang/StringBuilder", name := "append", desc := "(Ljava/lang/String;)Ljava/lang/StringBuilder;" } : Jvm.MethodName) jdk_67_method_7_code (2 : Nat) (Option.some (Jvm.ClassFile.FieldType.object "java/lang/StringBuilder"))).before args0 about1 = true := code_word (m := ⟨14, 1⟩) (meth := k14m1) (c := k14c1) (by decide +kernel) rfl rfl rfl (by decide +kernel)
set_option maxRecDepth 65536 in
theorem w_c14 : (Jvm.Cond.code ({ cls := "java/lang/AbstractStringBuilder", name := "append", desc := "(Ljava/lang/String;)Ljava/lang/AbstractStringBuilder;" } : Jvm.MethodName) jdk_68_method_22_code (3 : Nat) (Option.some (Jvm.ClassFile.FieldType.object "java/lang/AbstractStringBuilder"))).before args0 about1 = true := code_word (m := ⟨13, 4⟩) (meth := k13m4) (c := k13c4) (by decide +kernel) rfl rfl rfl (by decide +kernel)
set_option maxRecDepth 65536 in
theorem w_c15 : (Jvm.Cond.code ({ cls := "java/lang/String", name := "length", desc := "()I" } : Jvm.MethodName) jdk_42_method_54_code (1 : Nat) (Option.some Jvm.ClassFile.FieldType.int)).before args0 about1 = true := code_word (m := ⟨7, 3⟩) (meth := k7m3) (c := k7c3) (by decide +kernel) rfl rfl rfl (by decide +kernel)
set_option maxRecDepth 65536 in
theorem w_c16 : (Jvm.Cond.code ({ cls := "java/lang/String", name := "coder", desc := "()B" } : Jvm.MethodName) jdk_42_method_152_code (1 : Nat) (Option.some Jvm.ClassFile.FieldType.byte)).before args0 about1 = true := code_word (m := ⟨7, 8⟩) (meth := k7m8) (c := k7c8) (by decide +kernel) rfl rfl rfl (by decide +kernel)
set_option maxRecDepth 65536 in
theorem w_c17 : (Jvm.Cond.code ({ cls := "java/lang/AbstractStringBuilder", name := "ensureCapacityInternal", desc := "(I)V" } : Jvm.MethodName) jdk_68_method_9_code (3 : Nat) (Option.none : Option Jvm.ClassFile.FieldType)).before args0 about1 = true := code_word (m := ⟨13, 3⟩) (meth := k13m3) (c := k13c3) (by decide +kernel) rfl rfl rfl (by decide +kernel)
set_option maxRecDepth 65536 in
theorem w_c18 : (Jvm.Cond.code ({ cls := "java/lang/AbstractStringBuilder", name := "putStringAt", desc := "(ILjava/lang/String;)V" } : Jvm.MethodName) jdk_68_method_73_code (3 : Nat) (Option.none : Option Jvm.ClassFile.FieldType)).before args0 about1 = true := code_word (m := ⟨13, 9⟩) (meth := k13m9) (c := k13c9) (by decide +kernel) rfl rfl rfl (by decide +kernel)
set_option maxRecDepth 65536 in
theorem w_c19 : (Jvm.Cond.code ({ cls := "java/lang/AbstractStringBuilder", name := "inflateIfNeededFor", desc := "(Ljava/lang/String;)V" } : Jvm.MethodName) jdk_68_method_71_code (2 : Nat) (Option.none : Option Jvm.ClassFile.FieldType)).before args0 about1 = true := code_word (m := ⟨13, 8⟩) (meth := k13m8) (c := k13c8) (by decide +kernel) rfl rfl rfl (by decide +kernel)
set_option maxRecDepth 65536 in
theorem w_c20 : (Jvm.Cond.code ({ cls := "java/lang/String", name := "getBytes", desc := "([BIB)V" } : Jvm.MethodName) jdk_42_method_147_code (4 : Nat) (Option.none : Option Jvm.ClassFile.FieldType)).before args0 about1 = true := code_word (m := ⟨7, 5⟩) (meth := k7m5) (c := k7c5) (by decide +kernel) rfl rfl rfl (by decide +kernel)
set_option maxRecDepth 65536 in
theorem w_c21 : (Jvm.Cond.code ({ cls := "java/lang/StringBuilder", name := "append", desc := "(I)Ljava/lang/StringBuilder;" } : Jvm.MethodName) jdk_67_method_15_code (2 : Nat) (Option.some (Jvm.ClassFile.FieldType.object "java/lang/StringBuilder"))).before args0 about1 = true := code_word (m := ⟨14, 2⟩) (meth := k14m2) (c := k14c2) (by decide +kernel) rfl rfl rfl (by decide +kernel)
set_option maxRecDepth 65536 in
theorem w_c22 : (Jvm.Cond.code ({ cls := "java/lang/AbstractStringBuilder", name := "append", desc := "(I)Ljava/lang/AbstractStringBuilder;" } : Jvm.MethodName) jdk_68_method_32_code (4 : Nat) (Option.some (Jvm.ClassFile.FieldType.object "java/lang/AbstractStringBuilder"))).before args0 about1 = true := code_word (m := ⟨13, 5⟩) (meth := k13m5) (c := k13c5) (by decide +kernel) rfl rfl rfl (by decide +kernel)
set_option maxRecDepth 65536 in
theorem w_c23 : (Jvm.Cond.code ({ cls := "java/lang/Integer", name := "stringSize", desc := "(I)I" } : Jvm.MethodName) jdk_33_method_13_code (4 : Nat) (Option.some Jvm.ClassFile.FieldType.int)).before args0 about1 = true := code_word (m := ⟨17, 1⟩) (meth := k17m1) (c := k17c1) (by decide +kernel) rfl rfl rfl (by decide +kernel)
set_option maxRecDepth 65536 in
theorem w_c24 : (Jvm.Cond.code ({ cls := "java/lang/AbstractStringBuilder", name := "isLatin1", desc := "()Z" } : Jvm.MethodName) jdk_68_method_68_code (1 : Nat) (Option.some Jvm.ClassFile.FieldType.boolean)).before args0 about1 = true := code_word (m := ⟨13, 7⟩) (meth := k13m7) (c := k13c7) (by decide +kernel) rfl rfl rfl (by decide +kernel)
set_option maxRecDepth 65536 in
theorem w_c25 : (Jvm.Cond.code ({ cls := "java/lang/Integer", name := "getChars", desc := "(II[B)I" } : Jvm.MethodName) jdk_33_method_12_code (7 : Nat) (Option.some Jvm.ClassFile.FieldType.int)).before args0 about1 = true := code_word (m := ⟨17, 0⟩) (meth := k17m0) (c := k17c0) (by decide +kernel) rfl rfl rfl (by decide +kernel)
set_option maxRecDepth 65536 in
theorem w_c26 : (Jvm.Cond.code ({ cls := "java/lang/StringBuilder", name := "toString", desc := "()Ljava/lang/String;" } : Jvm.MethodName) jdk_67_method_42_code (1 : Nat) (Option.some (Jvm.ClassFile.FieldType.object "java/lang/String"))).before args0 about1 = true := code_word (m := ⟨14, 3⟩) (meth := k14m3) (c := k14c3) (by decide +kernel) rfl rfl rfl (by decide +kernel)
set_option maxRecDepth 65536 in
theorem w_c27 : (Jvm.Cond.code ({ cls := "java/lang/String", name := "<init>", desc := "(Ljava/lang/StringBuilder;)V" } : Jvm.MethodName) jdk_42_method_53_code (2 : Nat) (Option.none : Option Jvm.ClassFile.FieldType)).before args0 about1 = true := code_word (m := ⟨7, 2⟩) (meth := k7m2) (c := k7c2) (by decide +kernel) rfl rfl rfl (by decide +kernel)
set_option maxRecDepth 65536 in
theorem w_c28 : (Jvm.Cond.code ({ cls := "java/lang/String", name := "<init>", desc := "(Ljava/lang/AbstractStringBuilder;Ljava/lang/Void;)V" } : Jvm.MethodName) jdk_42_method_150_code (5 : Nat) (Option.none : Option Jvm.ClassFile.FieldType)).before args0 about1 = true := code_word (m := ⟨7, 7⟩) (meth := k7m7) (c := k7c7) (by decide +kernel) rfl rfl rfl (by decide +kernel)
set_option maxRecDepth 65536 in
theorem w_c29 : (Jvm.Cond.code ({ cls := "java/lang/AbstractStringBuilder", name := "getValue", desc := "()[B" } : Jvm.MethodName) jdk_68_method_64_code (1 : Nat) (Option.some (Jvm.ClassFile.FieldType.array Jvm.ClassFile.FieldType.byte))).before args0 about1 = true := code_word (m := ⟨13, 6⟩) (meth := k13m6) (c := k13c6) (by decide +kernel) rfl rfl rfl (by decide +kernel)
set_option maxRecDepth 65536 in
theorem w_c30 : (Jvm.Cond.code ({ cls := "java/lang/StringBuilder", name := "length", desc := "()I" } : Jvm.MethodName) jdk_67_method_93_code (1 : Nat) (Option.some Jvm.ClassFile.FieldType.int)).before args0 about1 = true := code_word (m := ⟨14, 4⟩) (meth := k14m4) (c := k14c4) (by decide +kernel) rfl rfl rfl (by decide +kernel)
set_option maxRecDepth 65536 in
theorem w_c31 : (Jvm.Cond.code ({ cls := "java/lang/AbstractStringBuilder", name := "length", desc := "()I" } : Jvm.MethodName) jdk_68_method_6_code (1 : Nat) (Option.some Jvm.ClassFile.FieldType.int)).before args0 about1 = true := code_word (m := ⟨13, 2⟩) (meth := k13m2) (c := k13c2) (by decide +kernel) rfl rfl rfl (by decide +kernel)
set_option maxRecDepth 65536 in
theorem w_c32 : (Jvm.Cond.code ({ cls := "java/util/Arrays", name := "copyOfRange", desc := "([BII)[B" } : Jvm.MethodName) jdk_65_method_132_code (3 : Nat) (Option.some (Jvm.ClassFile.FieldType.array Jvm.ClassFile.FieldType.byte))).before args0 about1 = true := code_word (m := ⟨18, 2⟩) (meth := k18m2) (c := k18c2) (by decide +kernel) rfl rfl rfl (by decide +kernel)
set_option maxRecDepth 65536 in
theorem w_c33 : (Jvm.Cond.code ({ cls := "java/util/Arrays", name := "copyOfRangeByte", desc := "([BII)[B" } : Jvm.MethodName) jdk_65_method_133_code (5 : Nat) (Option.some (Jvm.ClassFile.FieldType.array Jvm.ClassFile.FieldType.byte))).before args0 about1 = true := code_word (m := ⟨18, 3⟩) (meth := k18m3) (c := k18c3) (by decide +kernel) rfl rfl rfl (by decide +kernel)
set_option maxRecDepth 65536 in
theorem w_c34 : (Jvm.Cond.code ({ cls := "java/util/Arrays", name := "checkLength", desc := "(II)V" } : Jvm.MethodName) jdk_65_method_131_code (2 : Nat) (Option.none : Option Jvm.ClassFile.FieldType)).before args0 about1 = true := code_word (m := ⟨18, 1⟩) (meth := k18m1) (c := k18c1) (by decide +kernel) rfl rfl rfl (by decide +kernel)
set_option maxRecDepth 65536 in
theorem w_c35 : (Jvm.Cond.code ({ cls := "java/lang/Math", name := "min", desc := "(II)I" } : Jvm.MethodName) jdk_29_method_69_code (2 : Nat) (Option.some Jvm.ClassFile.FieldType.int)).before args0 about1 = true := code_word (m := ⟨19, 1⟩) (meth := k19m1) (c := k19c1) (by decide +kernel) rfl rfl rfl (by decide +kernel)
set_option maxRecDepth 65536 in
theorem w_c36 : (Jvm.Cond.code ({ cls := "java/lang/String", name := "charAt", desc := "(I)C" } : Jvm.MethodName) jdk_42_method_56_code (2 : Nat) (Option.some Jvm.ClassFile.FieldType.char)).before args0 about1 = true := code_word (m := ⟨7, 4⟩) (meth := k7m4) (c := k7c4) (by decide +kernel) rfl rfl rfl (by decide +kernel)
set_option maxRecDepth 65536 in
theorem w_c37 : (Jvm.Cond.code ({ cls := "java/lang/String", name := "isLatin1", desc := "()Z" } : Jvm.MethodName) jdk_42_method_154_code (1 : Nat) (Option.some Jvm.ClassFile.FieldType.boolean)).before args0 about1 = true := code_word (m := ⟨7, 9⟩) (meth := k7m9) (c := k7c9) (by decide +kernel) rfl rfl rfl (by decide +kernel)
set_option maxRecDepth 65536 in
theorem w_c38 : (Jvm.Cond.code ({ cls := "java/lang/StringLatin1", name := "charAt", desc := "([BI)C" } : Jvm.MethodName) jdk_43_method_2_code (2 : Nat) (Option.some Jvm.ClassFile.FieldType.char)).before args0 about1 = true := code_word (m := ⟨20, 1⟩) (meth := k20m1) (c := k20c1) (by decide +kernel) rfl rfl rfl (by decide +kernel)
set_option maxRecDepth 65536 in
theorem w_c39 : (Jvm.Cond.code ({ cls := "java/lang/String", name := "checkIndex", desc := "(II)V" } : Jvm.MethodName) jdk_42_method_155_code (2 : Nat) (Option.none : Option Jvm.ClassFile.FieldType)).before args0 about1 = true := code_word (m := ⟨7, 10⟩) (meth := k7m10) (c := k7c10) (by decide +kernel) rfl rfl rfl (by decide +kernel)
set_option maxRecDepth 65536 in
theorem w_c40 : (Jvm.Cond.code ({ cls := "jdk/internal/util/Preconditions", name := "checkIndex", desc := "(IILjava/util/function/BiFunction;)I" } : Jvm.MethodName) jdk_41_method_11_code (3 : Nat) (Option.some Jvm.ClassFile.FieldType.int)).before args0 about1 = true := code_word (m := ⟨21, 1⟩) (meth := k21m1) (c := k21c1) (by decide +kernel) rfl rfl rfl (by decide +kernel)
set_option maxRecDepth 65536 in
theorem w_c41 : (Jvm.Cond.code ({ cls := "com/example/outrigger/outrigger/model/AddressToStringPinLaw", name := "digitOk", desc := "(Ljava/lang/String;IIIII)Z" } : Jvm.MethodName) method_3_code (7 : Nat) (Option.some Jvm.ClassFile.FieldType.boolean)).before args0 about1 = true := code_word (m := ⟨1, 2⟩) (meth := k1m2) (c := k1c2) (by decide +kernel) rfl rfl rfl (by decide +kernel)
def codes1 : List Jvm.Cond := [Jvm.Cond.code x code maxLocals ret, Jvm.Cond.code ({ cls := "java/lang/String", name := "<init>", desc := "([C)V" } : Jvm.MethodName) jdk_42_method_3_code (2 : Nat) (Option.none : Option Jvm.ClassFile.FieldType), Jvm.Cond.code ({ cls := "java/lang/String", name := "<init>", desc := "([CIILjava/lang/Void;)V" } : Jvm.MethodName) jdk_42_method_149_code (6 : Nat) (Option.none : Option Jvm.ClassFile.FieldType), Jvm.Cond.code ({ cls := "java/lang/Object", name := "<init>", desc := "()V" } : Jvm.MethodName) object_method_1_code (1 : Nat) (Option.none : Option Jvm.ClassFile.FieldType), Jvm.Cond.code ({ cls := "java/lang/StringUTF16", name := "compress", desc := "([CII)[B" } : Jvm.MethodName) jdk_52_method_16_code (6 : Nat) (Option.some (Jvm.ClassFile.FieldType.array Jvm.ClassFile.FieldType.byte)), Jvm.Cond.code ({ cls := "java/lang/StringUTF16", name := "compress", desc := "([CI[BII)I" } : Jvm.MethodName) jdk_52_method_21_code (7 : Nat) (Option.some Jvm.ClassFile.FieldType.int), Jvm.Cond.code ({ cls := "java/lang/StringUTF16", name := "coderFromArrayLen", desc := "([BI)B" } : Jvm.MethodName) jdk_52_method_15_code (2 : Nat) (Option.some Jvm.ClassFile.FieldType.byte), Jvm.Cond.code ({ cls := "com/example/outrigger/outrigger/model/Address", name := "<init>", desc := "(Ljava/lang/String;I)V" } : Jvm.MethodName) prog_28_method_1_code (3 : Nat) (Option.none : Option Jvm.ClassFile.FieldType), Jvm.Cond.code ({ cls := "java/lang/Record", name := "<init>", desc := "()V" } : Jvm.MethodName) jdk_30_method_1_code (1 : Nat) (Option.none : Option Jvm.ClassFile.FieldType), Jvm.Cond.code ({ cls := "java/util/Objects", name := "requireNonNull", desc := "(Ljava/lang/Object;Ljava/lang/String;)Ljava/lang/Object;" } : Jvm.MethodName) jdk_31_method_11_code (2 : Nat) (Option.some (Jvm.ClassFile.FieldType.object "java/lang/Object")), Jvm.Cond.code ({ cls := "com/example/outrigger/outrigger/model/Address", name := "toString", desc := "()Ljava/lang/String;" } : Jvm.MethodName) prog_28_method_4_code (1 : Nat) (Option.some (Jvm.ClassFile.FieldType.object "java/lang/String")), Jvm.Cond.code ({ cls := "java/lang/StringBuilder", name := "<init>", desc := "()V" } : Jvm.MethodName) jdk_67_method_1_code (1 : Nat) (Option.none : Option Jvm.ClassFile.FieldType), Jvm.Cond.code ({ cls := "java/lang/AbstractStringBuilder", name := "<init>", desc := "(I)V" } : Jvm.MethodName) jdk_68_method_2_code (2 : Nat) (Option.none : Option Jvm.ClassFile.FieldType), Jvm.Cond.code ({ cls := "java/lang/StringBuilder", name := "append", desc := "(Ljava/lang/String;)Ljava/lang/StringBuilder;" } : Jvm.MethodName) jdk_67_method_7_code (2 : Nat) (Option.some (Jvm.ClassFile.FieldType.object "java/lang/StringBuilder")), Jvm.Cond.code ({ cls := "java/lang/AbstractStringBuilder", name := "append", desc := "(Ljava/lang/String;)Ljava/lang/AbstractStringBuilder;" } : Jvm.MethodName) jdk_68_method_22_code (3 : Nat) (Option.some (Jvm.ClassFile.FieldType.object "java/lang/AbstractStringBuilder")), Jvm.Cond.code ({ cls := "java/lang/String", name := "length", desc := "()I" } : Jvm.MethodName) jdk_42_method_54_code (1 : Nat) (Option.some Jvm.ClassFile.FieldType.int), Jvm.Cond.code ({ cls := "java/lang/String", name := "coder", desc := "()B" } : Jvm.MethodName) jdk_42_method_152_code (1 : Nat) (Option.some Jvm.ClassFile.FieldType.byte), Jvm.Cond.code ({ cls := "java/lang/AbstractStringBuilder", name := "ensureCapacityInternal", desc := "(I)V" } : Jvm.MethodName) jdk_68_method_9_code (3 : Nat) (Option.none : Option Jvm.ClassFile.FieldType), Jvm.Cond.code ({ cls := "java/lang/AbstractStringBuilder", name := "putStringAt", desc := "(ILjava/lang/String;)V" } : Jvm.MethodName) jdk_68_method_73_code (3 : Nat) (Option.none : Option Jvm.ClassFile.FieldType), Jvm.Cond.code ({ cls := "java/lang/AbstractStringBuilder", name := "inflateIfNeededFor", desc := "(Ljava/lang/String;)V" } : Jvm.MethodName) jdk_68_method_71_code (2 : Nat) (Option.none : Option Jvm.ClassFile.FieldType), Jvm.Cond.code ({ cls := "java/lang/String", name := "getBytes", desc := "([BIB)V" } : Jvm.MethodName) jdk_42_method_147_code (4 : Nat) (Option.none : Option Jvm.ClassFile.FieldType), Jvm.Cond.code ({ cls := "java/lang/StringBuilder", name := "append", desc := "(I)Ljava/lang/StringBuilder;" } : Jvm.MethodName) jdk_67_method_15_code (2 : Nat) (Option.some (Jvm.ClassFile.FieldType.object "java/lang/StringBuilder")), Jvm.Cond.code ({ cls := "java/lang/AbstractStringBuilder", name := "append", desc := "(I)Ljava/lang/AbstractStringBuilder;" } : Jvm.MethodName) jdk_68_method_32_code (4 : Nat) (Option.some (Jvm.ClassFile.FieldType.object "java/lang/AbstractStringBuilder")), Jvm.Cond.code ({ cls := "java/lang/Integer", name := "stringSize", desc := "(I)I" } : Jvm.MethodName) jdk_33_method_13_code (4 : Nat) (Option.some Jvm.ClassFile.FieldType.int), Jvm.Cond.code ({ cls := "java/lang/AbstractStringBuilder", name := "isLatin1", desc := "()Z" } : Jvm.MethodName) jdk_68_method_68_code (1 : Nat) (Option.some Jvm.ClassFile.FieldType.boolean), Jvm.Cond.code ({ cls := "java/lang/Integer", name := "getChars", desc := "(II[B)I" } : Jvm.MethodName) jdk_33_method_12_code (7 : Nat) (Option.some Jvm.ClassFile.FieldType.int), Jvm.Cond.code ({ cls := "java/lang/StringBuilder", name := "toString", desc := "()Ljava/lang/String;" } : Jvm.MethodName) jdk_67_method_42_code (1 : Nat) (Option.some (Jvm.ClassFile.FieldType.object "java/lang/String")), Jvm.Cond.code ({ cls := "java/lang/String", name := "<init>", desc := "(Ljava/lang/StringBuilder;)V" } : Jvm.MethodName) jdk_42_method_53_code (2 : Nat) (Option.none : Option Jvm.ClassFile.FieldType), Jvm.Cond.code ({ cls := "java/lang/String", name := "<init>", desc := "(Ljava/lang/AbstractStringBuilder;Ljava/lang/Void;)V" } : Jvm.MethodName) jdk_42_method_150_code (5 : Nat) (Option.none : Option Jvm.ClassFile.FieldType), Jvm.Cond.code ({ cls := "java/lang/AbstractStringBuilder", name := "getValue", desc := "()[B" } : Jvm.MethodName) jdk_68_method_64_code (1 : Nat) (Option.some (Jvm.ClassFile.FieldType.array Jvm.ClassFile.FieldType.byte)), Jvm.Cond.code ({ cls := "java/lang/StringBuilder", name := "length", desc := "()I" } : Jvm.MethodName) jdk_67_method_93_code (1 : Nat) (Option.some Jvm.ClassFile.FieldType.int), Jvm.Cond.code ({ cls := "java/lang/AbstractStringBuilder", name := "length", desc := "()I" } : Jvm.MethodName) jdk_68_method_6_code (1 : Nat) (Option.some Jvm.ClassFile.FieldType.int), Jvm.Cond.code ({ cls := "java/util/Arrays", name := "copyOfRange", desc := "([BII)[B" } : Jvm.MethodName) jdk_65_method_132_code (3 : Nat) (Option.some (Jvm.ClassFile.FieldType.array Jvm.ClassFile.FieldType.byte)), Jvm.Cond.code ({ cls := "java/util/Arrays", name := "copyOfRangeByte", desc := "([BII)[B" } : Jvm.MethodName) jdk_65_method_133_code (5 : Nat) (Option.some (Jvm.ClassFile.FieldType.array Jvm.ClassFile.FieldType.byte)), Jvm.Cond.code ({ cls := "java/util/Arrays", name := "checkLength", desc := "(II)V" } : Jvm.MethodName) jdk_65_method_131_code (2 : Nat) (Option.none : Option Jvm.ClassFile.FieldType), Jvm.Cond.code ({ cls := "java/lang/Math", name := "min", desc := "(II)I" } : Jvm.MethodName) jdk_29_method_69_code (2 : Nat) (Option.some Jvm.ClassFile.FieldType.int), Jvm.Cond.code ({ cls := "java/lang/String", name := "charAt", desc := "(I)C" } : Jvm.MethodName) jdk_42_method_56_code (2 : Nat) (Option.some Jvm.ClassFile.FieldType.char), Jvm.Cond.code ({ cls := "java/lang/String", name := "isLatin1", desc := "()Z" } : Jvm.MethodName) jdk_42_method_154_code (1 : Nat) (Option.some Jvm.ClassFile.FieldType.boolean), Jvm.Cond.code ({ cls := "java/lang/StringLatin1", name := "charAt", desc := "([BI)C" } : Jvm.MethodName) jdk_43_method_2_code (2 : Nat) (Option.some Jvm.ClassFile.FieldType.char), Jvm.Cond.code ({ cls := "java/lang/String", name := "checkIndex", desc := "(II)V" } : Jvm.MethodName) jdk_42_method_155_code (2 : Nat) (Option.none : Option Jvm.ClassFile.FieldType), Jvm.Cond.code ({ cls := "jdk/internal/util/Preconditions", name := "checkIndex", desc := "(IILjava/util/function/BiFunction;)I" } : Jvm.MethodName) jdk_41_method_11_code (3 : Nat) (Option.some Jvm.ClassFile.FieldType.int), Jvm.Cond.code ({ cls := "com/example/outrigger/outrigger/model/AddressToStringPinLaw", name := "digitOk", desc := "(Ljava/lang/String;IIIII)Z" } : Jvm.MethodName) method_3_code (7 : Nat) (Option.some Jvm.ClassFile.FieldType.boolean)]
set_option maxRecDepth 65536 in
theorem codes_eq : words1.filter isCode = codes1 := rfl
theorem w_codes : ∀ c ∈ words1.filter isCode, c.before args0 about1 = true := by
  rw [codes_eq]
  intro c hc
  simp only [codes1, List.mem_cons, List.not_mem_nil, or_false] at hc
  rcases hc with rfl | rfl | rfl | rfl | rfl | rfl | rfl | rfl | rfl | rfl | rfl | rfl | rfl | rfl | rfl | rfl | rfl | rfl | rfl | rfl | rfl | rfl | rfl | rfl | rfl | rfl | rfl | rfl | rfl | rfl | rfl | rfl | rfl | rfl | rfl | rfl | rfl | rfl | rfl | rfl | rfl | rfl
  · exact w_c0
  · exact w_c1
  · exact w_c2
  · exact w_c3
  · exact w_c4
  · exact w_c5
  · exact w_c6
  · exact w_c7
  · exact w_c8
  · exact w_c9
  · exact w_c10
  · exact w_c11
  · exact w_c12
  · exact w_c13
  · exact w_c14
  · exact w_c15
  · exact w_c16
  · exact w_c17
  · exact w_c18
  · exact w_c19
  · exact w_c20
  · exact w_c21
  · exact w_c22
  · exact w_c23
  · exact w_c24
  · exact w_c25
  · exact w_c26
  · exact w_c27
  · exact w_c28
  · exact w_c29
  · exact w_c30
  · exact w_c31
  · exact w_c32
  · exact w_c33
  · exact w_c34
  · exact w_c35
  · exact w_c36
  · exact w_c37
  · exact w_c38
  · exact w_c39
  · exact w_c40
  · exact w_c41
set_option maxRecDepth 65536 in
theorem w_t1 : (words1.take 24).all (fun c => isCode c || c.before args0 about1) = true := by decide +kernel
set_option maxRecDepth 65536 in
theorem w_t2 : ((words1.drop 24).take 24).all (fun c => isCode c || c.before args0 about1) = true := by decide +kernel
set_option maxRecDepth 65536 in
theorem w_t3 : (((words1.drop 24).drop 24).take 24).all (fun c => isCode c || c.before args0 about1) = true := by decide +kernel
set_option maxRecDepth 65536 in
theorem w_t4 : ((((words1.drop 24).drop 24).drop 24).take 24).all (fun c => isCode c || c.before args0 about1) = true := by decide +kernel
set_option maxRecDepth 65536 in
theorem w_t5 : (((((words1.drop 24).drop 24).drop 24).drop 24).take 24).all (fun c => isCode c || c.before args0 about1) = true := by decide +kernel
set_option maxRecDepth 65536 in
theorem w_t6 : ((((((words1.drop 24).drop 24).drop 24).drop 24).drop 24).take 24).all (fun c => isCode c || c.before args0 about1) = true := by decide +kernel
set_option maxRecDepth 65536 in
theorem w_t7 : (((((((words1.drop 24).drop 24).drop 24).drop 24).drop 24).drop 24).take 24).all (fun c => isCode c || c.before args0 about1) = true := by decide +kernel
set_option maxRecDepth 65536 in
theorem w_t8 : ((((((((words1.drop 24).drop 24).drop 24).drop 24).drop 24).drop 24).drop 24).take 24).all (fun c => isCode c || c.before args0 about1) = true := by decide +kernel
set_option maxRecDepth 65536 in
theorem w_t9 : (((((((((words1.drop 24).drop 24).drop 24).drop 24).drop 24).drop 24).drop 24).drop 24).take 24).all (fun c => isCode c || c.before args0 about1) = true := by decide +kernel
set_option maxRecDepth 65536 in
theorem w_t10 : (((((((((words1.drop 24).drop 24).drop 24).drop 24).drop 24).drop 24).drop 24).drop 24).drop 24).all (fun c => isCode c || c.before args0 about1) = true := by decide +kernel
theorem w_tables : (allAtoms (Jvm.Cond.code x code maxLocals ret :: tables_1)).before args0 about1 = true := by
  rw [allAtoms_all]
  show words1.all (fun c => c.before args0 about1) = true
  refine all_split ?_ w_codes
  rw [← List.take_append_drop 24 words1, List.all_append, w_t1, ← List.take_append_drop 24 (words1.drop 24), List.all_append, w_t2, ← List.take_append_drop 24 ((words1.drop 24).drop 24), List.all_append, w_t3, ← List.take_append_drop 24 (((words1.drop 24).drop 24).drop 24), List.all_append, w_t4, ← List.take_append_drop 24 ((((words1.drop 24).drop 24).drop 24).drop 24), List.all_append, w_t5, ← List.take_append_drop 24 (((((words1.drop 24).drop 24).drop 24).drop 24).drop 24), List.all_append, w_t6, ← List.take_append_drop 24 ((((((words1.drop 24).drop 24).drop 24).drop 24).drop 24).drop 24), List.all_append, w_t7, ← List.take_append_drop 24 (((((((words1.drop 24).drop 24).drop 24).drop 24).drop 24).drop 24).drop 24), List.all_append, w_t8, ← List.take_append_drop 24 ((((((((words1.drop 24).drop 24).drop 24).drop 24).drop 24).drop 24).drop 24).drop 24), List.all_append, w_t9, w_t10]
  rfl
set_option maxRecDepth 65536 in
theorem w_rest : rest_1_c.before args0 about1 = true := by decide +kernel
set_option maxRecDepth 65536 in
theorem w_case : (Jvm.Cond.and given_1 narrow_1).before args0 about1 = true := by decide +kernel
set_option maxRecDepth 65536 in
theorem w_consts : constsHeld consts_1 about1 := Jvm.Lit.constsHeldB_iff.mp (by decide +kernel)
theorem w_applies : (headSpec (Jvm.Cond.code x code maxLocals ret :: tables_1) room_1).applies x e0.platform about1 = true :=
  (Spec.applies_iff w_frames).mpr ⟨w_running, w_runnable, w_alone, w_named, w_hears, w_ripe, w_room, w_tables⟩
theorem atStart : AtStart classFile x code maxLocals ret World_1 tables_1 room_1 Calls_1 rest_1 Pre_1 launch0 p0 e0 about1 theMethod args0 below0 :=
  ⟨lists_1, trivial, launch0.admits_env _ _ _, launch0.least_env, fairChoices_fair.cas, fairChoices_fair.clock, w_frames, w_args, w_heap, w_applies, ⟨w_consts, trivial⟩, w_rest, w_case⟩
end start1
theorem witness_1 : WitnessClaimed_1 := ⟨start1.p0, start1.e0, start1.about1, start1.theMethod, start1.args0, start1.below0, start1.atStart⟩
end Jvm.Pilot.@@N@@
