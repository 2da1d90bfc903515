import JvmDerived
import JvmDerived.Pilot.@@N@@Statement
import JvmDerived.Pilot.@@N@@Code
set_option linter.unusedVariables false
set_option linter.unusedSimpArgs false
namespace Jvm.OwnKit
open Jvm Jvm.ClassFile Sem Op Lib Jvm.Free Jvm.Stand Jvm.LawKit Jvm.RoadKit Bundle
abbrev EList := List (String × Nat)
def Dc (B : ByteArray) (pc : Nat) (i : Instr) (n pc' : Nat) : Prop := decode B pc = .ok (i, n) ∧ pc + n = pc'
def Db (B : ByteArray) (pc : Nat) (i : Instr) (o : Int) (pc' tgt : Nat) : Prop := decode B pc = .ok (i, 3) ∧ pc + 3 = pc' ∧ 0 ≤ (pc : Int) + o ∧ ((pc : Int) + o).toNat = tgt
def Go (p : Program) (e : Env) (below : List Frame) (F : Outcome → State → Prop) (T : State) (g : JFrame) : Prop :=
  ∃ s₂ o, Steps p.tables e below (T.setTop g) s₂ ∧ s₂.status = .running ∧ Ended s₂ below o ∧ F o s₂
def Sf (md : Option EList) (Z s' : State) (h : Heap) (x : Addr) : Prop := match md with | none => True | some EL => Safe Z EL s'.vm h x
def Jd (md : Option EList) (Z s s' : State) (h : Heap) : Prop := match md with
  | none => s' = s
  | some EL => ∃ (vm0 : Vm) (k0 : Nat) (a0 : Array Value), s' = s.setVm vm0 ∧ s.Since vm0 k0 ∧ k0 ≤ h.size ∧ CHr Z EL s.vm s.heap vm0 h ∧ EW Z a0 EL
theorem Jd.ext {md : Option EList} {Z s s' : State} {h h' : Heap} (J : Jd md Z s s' h) (E : Ext h h') : Jd md Z s s' h' := by
  cases md with
  | none => exact J
  | some EL => obtain ⟨vm0, k0, a0, rfl, j2, j3, j4, j5⟩ := J; exact ⟨vm0, k0, a0, rfl, j2, Nat.le_trans j3 E.1, j4.trans (CHr.ext E j4.1), j5⟩
theorem Jd.keep {md : Option EList} {Z s s' : State} {h h' : Heap} {ws : List Addr} (J : Jd md Z s s' h) (K : Keep h h' ws) (hs : ∀ x ∈ ws, Sf md Z s' h x) : Jd md Z s s' h' := by
  cases md with
  | none => exact J
  | some EL => obtain ⟨vm0, k0, a0, rfl, j2, j3, j4, j5⟩ := J; exact ⟨vm0, k0, a0, rfl, j2, Nat.le_trans j3 K.1, j4.trans (CHr.keep K hs j4.1), j5⟩
theorem Sf.ext {md : Option EList} {Z s s' : State} {h h' : Heap} {x : Addr} (S : Sf md Z s' h x) (J : Jd md Z s s' h) (E : Ext h h') : Sf md Z s' h' x := by
  cases md with
  | none => trivial
  | some EL => obtain ⟨vm0, k0, a0, rfl, j2, j3, j4, j5⟩ := J; exact Safe.ext E j4.1 S
theorem Sf.keep {md : Option EList} {Z s s' : State} {h h' : Heap} {x : Addr} {ws : List Addr} (S : Sf md Z s' h x) (J : Jd md Z s s' h) (K : Keep h h' ws) (hs : ∀ x ∈ ws, Sf md Z s' h x) : Sf md Z s' h' x := by
  cases md with
  | none => trivial
  | some EL => obtain ⟨vm0, k0, a0, rfl, j2, j3, j4, j5⟩ := J; exact Safe.keep K hs j4.1 S
theorem Sf.new {md : Option EList} {Z s' : State} {h : Heap} {x : Addr} (q : h.size ≤ x) : Sf md Z s' h x := by
  cases md with
  | none => trivial
  | some EL => exact Safe.new q
theorem Ext.tr {h h' h2 : Heap} (A : Ext h h') (B : Ext h' h2) : Ext h h2 := ⟨Nat.le_trans A.1 B.1, fun a c q => B.2 a c (A.2 a c q)⟩
/-- a keep whose written cells were made since -/
theorem Ext.kp {h h' h2 : Heap} {ws : List Addr} (A : Ext h h') (B : Keep h' h2 ws) (q : ∀ x ∈ ws, h.size ≤ x) : Ext h h2 := ⟨Nat.le_trans A.1 B.1, fun a c r => B.2.1 a c (A.2 a c r) fun z => absurd (Array.getElem?_eq_some_iff.mp r).1 (Nat.not_lt.mpr (q a z))⟩
theorem Ext.kp1 {h h' h2 : Heap} {x : Addr} (A : Ext h h') (B : Keep h' h2 [x]) (q : h.size ≤ x) : Ext h h2 := Ext.kp A B (allS q all0)
theorem Ext.of0 {h h' : Heap} (B : Keep h h' []) : Ext h h' := ⟨B.1, fun a c r => B.2.1 a c r nin0⟩
theorem Ext.keep {h h' : Heap} (E : Ext h h') (ws : List Addr) : Keep h h' ws := (Keep.refl h ws).ext E
def Cx (p : Program) (l : Launch) (e : Env) (R : Room) (s : State) (m : MethodId) (args : Array Value) (below : List Frame) (meth : Method) (c : Code) (B : ByteArray) (ML : Nat) (Z : State) (own : String) (n0 : Nat) (md : Option EList) (T : State) (h : Heap) (ws : List Addr) (cells slots : Nat) : Prop :=
  (p.tables.exec = Jvm.exec ∧ c.code = B ∧ c.maxLocals = ML) ∧ T.heap = h ∧ n0 ≤ h.size ∧ ∃ (s' : State) (locs : List Loc), Stand p l e R s' m args below meth c T locs cells slots ∧ Z.Warmed39 s'.vm ∧ s'.vm.findClass own = some m.cls ∧ Fr n0 locs ∧ Jd md Z s s' h ∧ ∀ x ∈ ws, n0 ≤ x ∧ x < h.size ∧ Sf md Z s' h x
section Kit
variable {p : Program} {l : Launch} {e : Env} {R : Room} {s : State} {m : MethodId} {args : Array Value} {below : List Frame} {meth : Method} {c : Code} {B : ByteArray} {ML : Nat} {Z : State} {own : String} {n0 : Nat} {md : Option EList} {T : State} {h : Heap} {ws : List Addr} {cells slots : Nat} {F : Outcome → State → Prop} {pc pc' tgt : Nat} {Ls Ls' : Array Slot} {St : List Value} {a0 : Array Value}
theorem Go.st {T T' : State} {g g' : JFrame} (k : Go p e below F T' g') (q : ∀ t, Steps p.tables e below (T'.setTop g') t → Steps p.tables e below (T.setTop g) t) : Go p e below F T g := by
  obtain ⟨s2, o, h1, h2⟩ := k; exact ⟨s2, o, q _ h1, h2⟩
theorem Go.tr {T T' : State} {g g' : JFrame} (k : Go p e below F T' g') (q : Steps p.tables e below (T.setTop g) (T'.setTop g')) : Go p e below F T g := by
  obtain ⟨s2, o, h1, h2⟩ := k; exact ⟨s2, o, q.trans h1, h2⟩
theorem Cx.mono {c' s' : Nat} (K : Cx p l e R s m args below meth c B ML Z own n0 md T h ws cells slots) (q1 : cells ≤ c') (q2 : slots ≤ s') : Cx p l e R s m args below meth c B ML Z own n0 md T h ws c' s' := by
  obtain ⟨k1, k2, k3, s1, locs, X, r⟩ := K
  exact ⟨k1, k2, k3, s1, locs, X.mono q1 q2, r⟩
theorem Cx.n0le (K : Cx p l e R s m args below meth c B ML Z own n0 md T h ws cells slots) : n0 ≤ h.size := K.2.2.1
theorem Cx.wsge (K : Cx p l e R s m args below meth c B ML Z own n0 md T h ws cells slots) {x : Addr} (q : x ∈ ws) : n0 ≤ x := by obtain ⟨-, -, -, s1, locs, X, r1, r2, r3, r4, r5⟩ := K; exact (r5 x q).1
theorem gAload (K : Cx p l e R s m args below meth c B ML Z own n0 md T h ws cells slots) {k : Nat} {v : Value} (hd : Dc B pc (.aload k) 2 pc') (hl : Ls[k]? = some (.val v)) (hv : v.isRef = true) (r : Go p e below F T (mkF m pc' Ls (v :: St))) : Go p e below F T (mkF m pc Ls St) := by
  obtain ⟨⟨hx, hby, -⟩, -, -, s1, locs, X, -⟩ := K
  obtain ⟨hd, rfl⟩ := hd
  exact r.st fun t q => XS.aload X.here hx rfl (hb hby hd) hl hv q

theorem gAloadN (K : Cx p l e R s m args below meth c B ML Z own n0 md T h ws cells slots) {k : Fin 4} {v : Value} (hd : Dc B pc (.aload_n k) 1 pc') (hl : Ls[k.val]? = some (.val v)) (hv : v.isRef = true) (r : Go p e below F T (mkF m pc' Ls (v :: St))) : Go p e below F T (mkF m pc Ls St) := by
  obtain ⟨⟨hx, hby, -⟩, -, -, s1, locs, X, -⟩ := K
  obtain ⟨hd, rfl⟩ := hd
  exact r.st fun t q => XS.aloadN X.here hx rfl (hb hby hd) hl hv q

theorem gIload (K : Cx p l e R s m args below meth c B ML Z own n0 md T h ws cells slots) {k : Nat} {v : Int32} (hd : Dc B pc (.iload k) 2 pc') (hl : Ls[k]? = some (.val (.int v))) (r : Go p e below F T (mkF m pc' Ls (.int v :: St))) : Go p e below F T (mkF m pc Ls St) := by
  obtain ⟨⟨hx, hby, -⟩, -, -, s1, locs, X, -⟩ := K
  obtain ⟨hd, rfl⟩ := hd
  exact r.st fun t q => XS.iload X.here hx rfl (hb hby hd) hl q

theorem gIloadN (K : Cx p l e R s m args below meth c B ML Z own n0 md T h ws cells slots) {k : Fin 4} {v : Int32} (hd : Dc B pc (.iload_n k) 1 pc') (hl : Ls[k.val]? = some (.val (.int v))) (r : Go p e below F T (mkF m pc' Ls (.int v :: St))) : Go p e below F T (mkF m pc Ls St) := by
  obtain ⟨⟨hx, hby, -⟩, -, -, s1, locs, X, -⟩ := K
  obtain ⟨hd, rfl⟩ := hd
  exact r.st fun t q => XS.iloadN X.here hx rfl (hb hby hd) hl q

theorem gIconst (K : Cx p l e R s m args below meth c B ML Z own n0 md T h ws cells slots) {i : Int} (v : Int32) (hd : Dc B pc (.iconst i) 1 pc') (hv : Int32.ofInt i = v) (r : Go p e below F T (mkF m pc' Ls (.int v :: St))) : Go p e below F T (mkF m pc Ls St) := by
  obtain ⟨⟨hx, hby, -⟩, -, -, s1, locs, X, -⟩ := K
  obtain ⟨hd, rfl⟩ := hd
  exact r.st fun t q => XT.iconstV X.here hx rfl v (hb hby hd) hv q

theorem gBipush (K : Cx p l e R s m args below meth c B ML Z own n0 md T h ws cells slots) {i : Int} (v : Int32) (hd : Dc B pc (.bipush i) 2 pc') (hv : (Int8.ofInt i).toInt32 = v) (r : Go p e below F T (mkF m pc' Ls (.int v :: St))) : Go p e below F T (mkF m pc Ls St) := by
  obtain ⟨⟨hx, hby, -⟩, -, -, s1, locs, X, -⟩ := K
  obtain ⟨hd, rfl⟩ := hd
  exact r.st fun t q => XT.bipushV X.here hx rfl v (hb hby hd) hv q

theorem gSipush (K : Cx p l e R s m args below meth c B ML Z own n0 md T h ws cells slots) {i : Int} (v : Int32) (hd : Dc B pc (.sipush i) 3 pc') (hv : (Int16.ofInt i).toInt32 = v) (r : Go p e below F T (mkF m pc' Ls (.int v :: St))) : Go p e below F T (mkF m pc Ls St) := by
  obtain ⟨⟨hx, hby, -⟩, -, -, s1, locs, X, -⟩ := K
  obtain ⟨hd, rfl⟩ := hd
  exact r.st fun t q => XT.sipushV X.here hx rfl v (hb hby hd) hv q

theorem gNull (K : Cx p l e R s m args below meth c B ML Z own n0 md T h ws cells slots)  (hd : Dc B pc (.aconst_null) 1 pc') (r : Go p e below F T (mkF m pc' Ls (.null :: St))) : Go p e below F T (mkF m pc Ls St) := by
  obtain ⟨⟨hx, hby, -⟩, -, -, s1, locs, X, -⟩ := K
  obtain ⟨hd, rfl⟩ := hd
  exact r.st fun t q => XS.aconstNull X.here hx rfl (hb hby hd) q

theorem gIsub (K : Cx p l e R s m args below meth c B ML Z own n0 md T h ws cells slots) {x y : Int32} (hd : Dc B pc (.isub) 1 pc') (r : Go p e below F T (mkF m pc' Ls (.int (x - y) :: St))) : Go p e below F T (mkF m pc Ls (.int y :: .int x :: St)) := by
  obtain ⟨⟨hx, hby, -⟩, -, -, s1, locs, X, -⟩ := K
  obtain ⟨hd, rfl⟩ := hd
  exact r.st fun t q => XS.isub X.here hx rfl (hb hby hd) rfl q

theorem gIand (K : Cx p l e R s m args below meth c B ML Z own n0 md T h ws cells slots) {x y : Int32} (hd : Dc B pc (.iand) 1 pc') (r : Go p e below F T (mkF m pc' Ls (.int (x &&& y) :: St))) : Go p e below F T (mkF m pc Ls (.int y :: .int x :: St)) := by
  obtain ⟨⟨hx, hby, -⟩, -, -, s1, locs, X, -⟩ := K
  obtain ⟨hd, rfl⟩ := hd
  exact r.st fun t q => XS.iand X.here hx rfl (hb hby hd) rfl q

theorem gIor (K : Cx p l e R s m args below meth c B ML Z own n0 md T h ws cells slots) {x y : Int32} (hd : Dc B pc (.ior) 1 pc') (r : Go p e below F T (mkF m pc' Ls (.int (x ||| y) :: St))) : Go p e below F T (mkF m pc Ls (.int y :: .int x :: St)) := by
  obtain ⟨⟨hx, hby, -⟩, -, -, s1, locs, X, -⟩ := K
  obtain ⟨hd, rfl⟩ := hd
  exact r.st fun t q => XT.ior X.here hx rfl (hb hby hd) rfl q

theorem gIshl (K : Cx p l e R s m args below meth c B ML Z own n0 md T h ws cells slots) {x y : Int32} (hd : Dc B pc (.ishl) 1 pc') (r : Go p e below F T (mkF m pc' Ls (.int (x <<< (y &&& 31)) :: St))) : Go p e below F T (mkF m pc Ls (.int y :: .int x :: St)) := by
  obtain ⟨⟨hx, hby, -⟩, -, -, s1, locs, X, -⟩ := K
  obtain ⟨hd, rfl⟩ := hd
  exact r.st fun t q => XT.ishl X.here hx rfl (hb hby hd) rfl q

theorem gIshr (K : Cx p l e R s m args below meth c B ML Z own n0 md T h ws cells slots) {x y : Int32} (hd : Dc B pc (.ishr) 1 pc') (r : Go p e below F T (mkF m pc' Ls (.int (x >>> (y &&& 31)) :: St))) : Go p e below F T (mkF m pc Ls (.int y :: .int x :: St)) := by
  obtain ⟨⟨hx, hby, -⟩, -, -, s1, locs, X, -⟩ := K
  obtain ⟨hd, rfl⟩ := hd
  exact r.st fun t q => XT.ishr X.here hx rfl (hb hby hd) rfl q

theorem gIushr (K : Cx p l e R s m args below meth c B ML Z own n0 md T h ws cells slots) {x y : Int32} (hd : Dc B pc (.iushr) 1 pc') (r : Go p e below F T (mkF m pc' Ls (.int (XT.ushr x y) :: St))) : Go p e below F T (mkF m pc Ls (.int y :: .int x :: St)) := by
  obtain ⟨⟨hx, hby, -⟩, -, -, s1, locs, X, -⟩ := K
  obtain ⟨hd, rfl⟩ := hd
  exact r.st fun t q => XT.iushr X.here hx rfl (hb hby hd) rfl q

theorem gIrem (K : Cx p l e R s m args below meth c B ML Z own n0 md T h ws cells slots) {x y : Int32} (hd : Dc B pc (.irem) 1 pc') (hy : y ≠ 0) (r : Go p e below F T (mkF m pc' Ls (.int (x % y) :: St))) : Go p e below F T (mkF m pc Ls (.int y :: .int x :: St)) := by
  obtain ⟨⟨hx, hby, -⟩, -, -, s1, locs, X, -⟩ := K
  obtain ⟨hd, rfl⟩ := hd
  exact r.st fun t q => iremM X hx rfl (hb hby hd) rfl hy q

theorem gI2b (K : Cx p l e R s m args below meth c B ML Z own n0 md T h ws cells slots) {x : Int32} (hd : Dc B pc (.i2b) 1 pc') (r : Go p e below F T (mkF m pc' Ls (.int x.toInt8.toInt32 :: St))) : Go p e below F T (mkF m pc Ls (.int x :: St)) := by
  obtain ⟨⟨hx, hby, -⟩, -, -, s1, locs, X, -⟩ := K
  obtain ⟨hd, rfl⟩ := hd
  exact r.st fun t q => XT.i2b X.here hx rfl (hb hby hd) rfl q

theorem gI2c (K : Cx p l e R s m args below meth c B ML Z own n0 md T h ws cells slots) {x : Int32} (hd : Dc B pc (.i2c) 1 pc') (r : Go p e below F T (mkF m pc' Ls (.int x.toUInt32.toUInt16.toUInt32.toInt32 :: St))) : Go p e below F T (mkF m pc Ls (.int x :: St)) := by
  obtain ⟨⟨hx, hby, -⟩, -, -, s1, locs, X, -⟩ := K
  obtain ⟨hd, rfl⟩ := hd
  exact r.st fun t q => XT.i2c X.here hx rfl (hb hby hd) rfl q

theorem gDup (K : Cx p l e R s m args below meth c B ML Z own n0 md T h ws cells slots) {x : Value} (hd : Dc B pc (.dup) 1 pc') (hc : x.category = 1) (r : Go p e below F T (mkF m pc' Ls (x :: x :: St))) : Go p e below F T (mkF m pc Ls (x :: St)) := by
  obtain ⟨⟨hx, hby, -⟩, -, -, s1, locs, X, -⟩ := K
  obtain ⟨hd, rfl⟩ := hd
  exact r.st fun t q => XS.dup X.here hx rfl (hb hby hd) rfl hc q

theorem gPop (K : Cx p l e R s m args below meth c B ML Z own n0 md T h ws cells slots) {x : Value} (hd : Dc B pc (.pop) 1 pc') (hc : x.category = 1) (r : Go p e below F T (mkF m pc' Ls St)) : Go p e below F T (mkF m pc Ls (x :: St)) := by
  obtain ⟨⟨hx, hby, -⟩, -, -, s1, locs, X, -⟩ := K
  obtain ⟨hd, rfl⟩ := hd
  exact r.st fun t q => XT.pop X.here hx rfl (hb hby hd) rfl hc q

theorem gIstore (K : Cx p l e R s m args below meth c B ML Z own n0 md T h ws cells slots) {k : Nat} {x : Int32} (hd : Dc B pc (.istore k) 2 pc') (hl : storeLocals Ls k (.int x) = some Ls') (r : Go p e below F T (mkF m pc' Ls' St)) : Go p e below F T (mkF m pc Ls (.int x :: St)) := by
  obtain ⟨⟨hx, hby, -⟩, -, -, s1, locs, X, -⟩ := K
  obtain ⟨hd, rfl⟩ := hd
  exact r.st fun t q => XS.istore X.here hx rfl (hb hby hd) rfl hl q

theorem gIstoreN (K : Cx p l e R s m args below meth c B ML Z own n0 md T h ws cells slots) {k : Fin 4} {x : Int32} (hd : Dc B pc (.istore_n k) 1 pc') (hl : storeLocals Ls k.val (.int x) = some Ls') (r : Go p e below F T (mkF m pc' Ls' St)) : Go p e below F T (mkF m pc Ls (.int x :: St)) := by
  obtain ⟨⟨hx, hby, -⟩, -, -, s1, locs, X, -⟩ := K
  obtain ⟨hd, rfl⟩ := hd
  exact r.st fun t q => XS.istoreN X.here hx rfl (hb hby hd) rfl hl q

theorem gAstore (K : Cx p l e R s m args below meth c B ML Z own n0 md T h ws cells slots) {k : Nat} {x : Value} (hd : Dc B pc (.astore k) 2 pc') (hv : x.isRef = true) (hl : storeLocals Ls k x = some Ls') (r : Go p e below F T (mkF m pc' Ls' St)) : Go p e below F T (mkF m pc Ls (x :: St)) := by
  obtain ⟨⟨hx, hby, -⟩, -, -, s1, locs, X, -⟩ := K
  obtain ⟨hd, rfl⟩ := hd
  exact r.st fun t q => XS.astore X.here hx rfl (hb hby hd) rfl hv hl q

theorem gAstoreN (K : Cx p l e R s m args below meth c B ML Z own n0 md T h ws cells slots) {k : Fin 4} {x : Value} (hd : Dc B pc (.astore_n k) 1 pc') (hv : x.isRef = true) (hl : storeLocals Ls k.val x = some Ls') (r : Go p e below F T (mkF m pc' Ls' St)) : Go p e below F T (mkF m pc Ls (x :: St)) := by
  obtain ⟨⟨hx, hby, -⟩, -, -, s1, locs, X, -⟩ := K
  obtain ⟨hd, rfl⟩ := hd
  exact r.st fun t q => XS.astoreN X.here hx rfl (hb hby hd) rfl hv hl q

theorem gIinc (K : Cx p l e R s m args below meth c B ML Z own n0 md T h ws cells slots) {k : Nat} {cst : Int} {x : Int32} (v : Int32) (hd : Dc B pc (.iinc k cst) 3 pc') (hv : Int32.ofInt cst = v) (hl : Ls[k]? = some (.val (.int x))) (hl' : storeLocals Ls k (.int (x + v)) = some Ls') (r : Go p e below F T (mkF m pc' Ls' St)) : Go p e below F T (mkF m pc Ls St) := by
  obtain ⟨⟨hx, hby, -⟩, -, -, s1, locs, X, -⟩ := K
  obtain ⟨hd, rfl⟩ := hd
  exact r.st fun t q => XT.iincV X.here hx rfl v (hb hby hd) hv hl hl' q

theorem gIaddV (K : Cx p l e R s m args below meth c B ML Z own n0 md T h ws cells slots) {x y : Int32} (v : Int32) (hd : Dc B pc (.iadd) 1 pc') (hv : x + y = v) (r : Go p e below F T (mkF m pc' Ls (.int v :: St))) : Go p e below F T (mkF m pc Ls (.int y :: .int x :: St)) := by
  obtain ⟨⟨hx, hby, -⟩, -, -, s1, locs, X, -⟩ := K
  obtain ⟨hd, rfl⟩ := hd
  exact r.st fun t q => XS.iadd X.here hx rfl (hb hby hd) rfl (hv ▸ q)

theorem gIsubV (K : Cx p l e R s m args below meth c B ML Z own n0 md T h ws cells slots) {x y : Int32} (v : Int32) (hd : Dc B pc (.isub) 1 pc') (hv : x - y = v) (r : Go p e below F T (mkF m pc' Ls (.int v :: St))) : Go p e below F T (mkF m pc Ls (.int y :: .int x :: St)) := by
  obtain ⟨⟨hx, hby, -⟩, -, -, s1, locs, X, -⟩ := K
  obtain ⟨hd, rfl⟩ := hd
  exact r.st fun t q => XS.isub X.here hx rfl (hb hby hd) rfl (hv ▸ q)

theorem gIshlV (K : Cx p l e R s m args below meth c B ML Z own n0 md T h ws cells slots) {x y : Int32} (v : Int32) (hd : Dc B pc (.ishl) 1 pc') (hv : x <<< (y &&& 31) = v) (r : Go p e below F T (mkF m pc' Ls (.int v :: St))) : Go p e below F T (mkF m pc Ls (.int y :: .int x :: St)) := by
  obtain ⟨⟨hx, hby, -⟩, -, -, s1, locs, X, -⟩ := K
  obtain ⟨hd, rfl⟩ := hd
  exact r.st fun t q => XT.ishl X.here hx rfl (hb hby hd) rfl (hv ▸ q)

theorem gGoto (K : Cx p l e R s m args below meth c B ML Z own n0 md T h ws cells slots)  {o : Int} (hd : Db B pc (.goto o) o pc' tgt) (r : Go p e below F T (mkF m tgt Ls St)) : Go p e below F T (mkF m pc Ls St) := by
  obtain ⟨⟨hx, hby, -⟩, -, -, s1, locs, X, -⟩ := K
  obtain ⟨hd, rfl, ho, hp⟩ := hd
  exact r.st fun t q => XS.goto X.here hx rfl rfl (hb hby hd) ho hp q

theorem gIcmp_eq (K : Cx p l e R s m args below meth c B ML Z own n0 md T h ws cells slots) {x y : Int32} {o : Int} (hd : Db B pc (.if_icmp .eq o) o pc' tgt) (ry : x = y → Go p e below F T (mkF m tgt Ls St)) (rn : ¬ x = y → Go p e below F T (mkF m pc' Ls St)) : Go p e below F T (mkF m pc Ls (.int y :: .int x :: St)) := by
  obtain ⟨⟨hx, hby, -⟩, -, -, s1, locs, X, -⟩ := K
  obtain ⟨hd, rfl, ho, hp⟩ := hd
  by_cases hq : x = y
  · exact (ry hq).st fun t q => XS.icmpYes X.here hx rfl rfl (hb hby hd) rfl (teq hq).1 ho hp q
  · exact (rn hq).st fun t q => XS.icmpNo X.here hx rfl (hb hby hd) rfl (feq hq).1 q

theorem gIf_eq (K : Cx p l e R s m args below meth c B ML Z own n0 md T h ws cells slots) {x : Int32} {o : Int} (hd : Db B pc (.ifCond .eq o) o pc' tgt) (ry : x = (0 : Int32) → Go p e below F T (mkF m tgt Ls St)) (rn : ¬ x = (0 : Int32) → Go p e below F T (mkF m pc' Ls St)) : Go p e below F T (mkF m pc Ls (.int x :: St)) := by
  obtain ⟨⟨hx, hby, -⟩, -, -, s1, locs, X, -⟩ := K
  obtain ⟨hd, rfl, ho, hp⟩ := hd
  by_cases hq : x = (0 : Int32)
  · exact (ry hq).st fun t q => XS.ifYes X.here hx rfl rfl (hb hby hd) rfl ((if0 _ _).trans (teq hq).1) ho hp q
  · exact (rn hq).st fun t q => XS.ifNo X.here hx rfl (hb hby hd) rfl ((if0 _ _).trans (feq hq).1) q

theorem gIcmp_ne (K : Cx p l e R s m args below meth c B ML Z own n0 md T h ws cells slots) {x y : Int32} {o : Int} (hd : Db B pc (.if_icmp .ne o) o pc' tgt) (ry : ¬ x = y → Go p e below F T (mkF m tgt Ls St)) (rn : x = y → Go p e below F T (mkF m pc' Ls St)) : Go p e below F T (mkF m pc Ls (.int y :: .int x :: St)) := by
  obtain ⟨⟨hx, hby, -⟩, -, -, s1, locs, X, -⟩ := K
  obtain ⟨hd, rfl, ho, hp⟩ := hd
  by_cases hq : x = y
  · exact (rn hq).st fun t q => XS.icmpNo X.here hx rfl (hb hby hd) rfl (teq hq).2 q
  · exact (ry hq).st fun t q => XS.icmpYes X.here hx rfl rfl (hb hby hd) rfl (feq hq).2 ho hp q

theorem gIf_ne (K : Cx p l e R s m args below meth c B ML Z own n0 md T h ws cells slots) {x : Int32} {o : Int} (hd : Db B pc (.ifCond .ne o) o pc' tgt) (ry : ¬ x = (0 : Int32) → Go p e below F T (mkF m tgt Ls St)) (rn : x = (0 : Int32) → Go p e below F T (mkF m pc' Ls St)) : Go p e below F T (mkF m pc Ls (.int x :: St)) := by
  obtain ⟨⟨hx, hby, -⟩, -, -, s1, locs, X, -⟩ := K
  obtain ⟨hd, rfl, ho, hp⟩ := hd
  by_cases hq : x = (0 : Int32)
  · exact (rn hq).st fun t q => XS.ifNo X.here hx rfl (hb hby hd) rfl ((if0 _ _).trans (teq hq).2) q
  · exact (ry hq).st fun t q => XS.ifYes X.here hx rfl rfl (hb hby hd) rfl ((if0 _ _).trans (feq hq).2) ho hp q

theorem gIcmp_lt (K : Cx p l e R s m args below meth c B ML Z own n0 md T h ws cells slots) {x y : Int32} {o : Int} (hd : Db B pc (.if_icmp .lt o) o pc' tgt) (ry : x < y → Go p e below F T (mkF m tgt Ls St)) (rn : ¬ x < y → Go p e below F T (mkF m pc' Ls St)) : Go p e below F T (mkF m pc Ls (.int y :: .int x :: St)) := by
  obtain ⟨⟨hx, hby, -⟩, -, -, s1, locs, X, -⟩ := K
  obtain ⟨hd, rfl, ho, hp⟩ := hd
  by_cases hq : x < y
  · exact (ry hq).st fun t q => XS.icmpYes X.here hx rfl rfl (hb hby hd) rfl (tlt hq).1 ho hp q
  · exact (rn hq).st fun t q => XS.icmpNo X.here hx rfl (hb hby hd) rfl (flt hq).1 q

theorem gIf_lt (K : Cx p l e R s m args below meth c B ML Z own n0 md T h ws cells slots) {x : Int32} {o : Int} (hd : Db B pc (.ifCond .lt o) o pc' tgt) (ry : x < (0 : Int32) → Go p e below F T (mkF m tgt Ls St)) (rn : ¬ x < (0 : Int32) → Go p e below F T (mkF m pc' Ls St)) : Go p e below F T (mkF m pc Ls (.int x :: St)) := by
  obtain ⟨⟨hx, hby, -⟩, -, -, s1, locs, X, -⟩ := K
  obtain ⟨hd, rfl, ho, hp⟩ := hd
  by_cases hq : x < (0 : Int32)
  · exact (ry hq).st fun t q => XS.ifYes X.here hx rfl rfl (hb hby hd) rfl ((if0 _ _).trans (tlt hq).1) ho hp q
  · exact (rn hq).st fun t q => XS.ifNo X.here hx rfl (hb hby hd) rfl ((if0 _ _).trans (flt hq).1) q

theorem gIcmp_ge (K : Cx p l e R s m args below meth c B ML Z own n0 md T h ws cells slots) {x y : Int32} {o : Int} (hd : Db B pc (.if_icmp .ge o) o pc' tgt) (ry : ¬ x < y → Go p e below F T (mkF m tgt Ls St)) (rn : x < y → Go p e below F T (mkF m pc' Ls St)) : Go p e below F T (mkF m pc Ls (.int y :: .int x :: St)) := by
  obtain ⟨⟨hx, hby, -⟩, -, -, s1, locs, X, -⟩ := K
  obtain ⟨hd, rfl, ho, hp⟩ := hd
  by_cases hq : x < y
  · exact (rn hq).st fun t q => XS.icmpNo X.here hx rfl (hb hby hd) rfl (tlt hq).2.1 q
  · exact (ry hq).st fun t q => XS.icmpYes X.here hx rfl rfl (hb hby hd) rfl (flt hq).2.1 ho hp q

theorem gIf_ge (K : Cx p l e R s m args below meth c B ML Z own n0 md T h ws cells slots) {x : Int32} {o : Int} (hd : Db B pc (.ifCond .ge o) o pc' tgt) (ry : ¬ x < (0 : Int32) → Go p e below F T (mkF m tgt Ls St)) (rn : x < (0 : Int32) → Go p e below F T (mkF m pc' Ls St)) : Go p e below F T (mkF m pc Ls (.int x :: St)) := by
  obtain ⟨⟨hx, hby, -⟩, -, -, s1, locs, X, -⟩ := K
  obtain ⟨hd, rfl, ho, hp⟩ := hd
  by_cases hq : x < (0 : Int32)
  · exact (rn hq).st fun t q => XS.ifNo X.here hx rfl (hb hby hd) rfl ((if0 _ _).trans (tlt hq).2.1) q
  · exact (ry hq).st fun t q => XS.ifYes X.here hx rfl rfl (hb hby hd) rfl ((if0 _ _).trans (flt hq).2.1) ho hp q

theorem gIcmp_gt (K : Cx p l e R s m args below meth c B ML Z own n0 md T h ws cells slots) {x y : Int32} {o : Int} (hd : Db B pc (.if_icmp .gt o) o pc' tgt) (ry : y < x → Go p e below F T (mkF m tgt Ls St)) (rn : ¬ y < x → Go p e below F T (mkF m pc' Ls St)) : Go p e below F T (mkF m pc Ls (.int y :: .int x :: St)) := by
  obtain ⟨⟨hx, hby, -⟩, -, -, s1, locs, X, -⟩ := K
  obtain ⟨hd, rfl, ho, hp⟩ := hd
  by_cases hq : y < x
  · exact (ry hq).st fun t q => XS.icmpYes X.here hx rfl rfl (hb hby hd) rfl (tlt hq).2.2.1 ho hp q
  · exact (rn hq).st fun t q => XS.icmpNo X.here hx rfl (hb hby hd) rfl (flt hq).2.2.1 q

theorem gIcmp_le (K : Cx p l e R s m args below meth c B ML Z own n0 md T h ws cells slots) {x y : Int32} {o : Int} (hd : Db B pc (.if_icmp .le o) o pc' tgt) (ry : ¬ y < x → Go p e below F T (mkF m tgt Ls St)) (rn : y < x → Go p e below F T (mkF m pc' Ls St)) : Go p e below F T (mkF m pc Ls (.int y :: .int x :: St)) := by
  obtain ⟨⟨hx, hby, -⟩, -, -, s1, locs, X, -⟩ := K
  obtain ⟨hd, rfl, ho, hp⟩ := hd
  by_cases hq : y < x
  · exact (rn hq).st fun t q => XS.icmpNo X.here hx rfl (hb hby hd) rfl (tlt hq).2.2.2 q
  · exact (ry hq).st fun t q => XS.icmpYes X.here hx rfl rfl (hb hby hd) rfl (flt hq).2.2.2 ho hp q

theorem gIf_le (K : Cx p l e R s m args below meth c B ML Z own n0 md T h ws cells slots) {x : Int32} {o : Int} (hd : Db B pc (.ifCond .le o) o pc' tgt) (ry : ¬ (0 : Int32) < x → Go p e below F T (mkF m tgt Ls St)) (rn : (0 : Int32) < x → Go p e below F T (mkF m pc' Ls St)) : Go p e below F T (mkF m pc Ls (.int x :: St)) := by
  obtain ⟨⟨hx, hby, -⟩, -, -, s1, locs, X, -⟩ := K
  obtain ⟨hd, rfl, ho, hp⟩ := hd
  by_cases hq : (0 : Int32) < x
  · exact (rn hq).st fun t q => XS.ifNo X.here hx rfl (hb hby hd) rfl ((if0 _ _).trans (tlt hq).2.2.2) q
  · exact (ry hq).st fun t q => XS.ifYes X.here hx rfl rfl (hb hby hd) rfl ((if0 _ _).trans (flt hq).2.2.2) ho hp q

theorem Cx.same {T' : State} {s1 : State} {locs : List Loc} (K : Cx p l e R s m args below meth c B ML Z own n0 md T h ws cells slots) (X' : Stand p l e R s1 m args below meth c T' locs cells slots) (e' : T'.heap = h) (hZ : Z.Warmed39 s1.vm) (hown : s1.vm.findClass own = some m.cls) (N : Fr n0 locs) (J : Jd md Z s s1 h) (Wq : ∀ x ∈ ws, n0 ≤ x ∧ x < h.size ∧ Sf md Z s1 h x) : Cx p l e R s m args below meth c B ML Z own n0 md T' h ws cells slots :=
  ⟨K.1, e', K.2.2.1, s1, locs, X', hZ, hown, N, J, Wq⟩
theorem gGet (K : Cx p l e R s m args below meth c B ML Z own n0 md T h ws cells slots) {O n d : String} {index : Nat} {a : Addr} {v : Value} (hd : Dc B pc (.getfield index) 3 pc') (w : (Cond.fieldLink own index O n d).before a0 Z = true) (Fd : Fld Z h a O n d v)
    (k : ∀ T', Cx p l e R s m args below meth c B ML Z own n0 md T' h ws cells slots → Go p e below F T' (mkF m pc' Ls (v :: St))) : Go p e below F T (mkF m pc Ls (.ref a :: St)) := by
  have K0 := K
  obtain ⟨⟨hx, hby, hml⟩, eT, hn0, s1, locs, X, hZ, hown, N, J, Wq⟩ := K
  obtain ⟨hd, rfl⟩ := hd
  obtain ⟨T', X', e', st⟩ := getF X hx hZ hown (host := "") (Or.inl w) Via.refl eT Fd (g := mkF m pc Ls (.ref a :: St)) rfl rfl (hb hby hd)
  exact (k T' (K0.same X' e' hZ hown N J Wq)).st st
theorem gGetS (K : Cx p l e R s m args below meth c B ML Z own n0 md T h ws cells slots) {O n d : String} {index : Nat} {v : Value} (hd : Dc B pc (.getstatic index) 3 pc') (w : (Cond.fieldLink own index O n d).before a0 Z = true) (Fd : Sta Z h O n d v)
    (k : ∀ T', Cx p l e R s m args below meth c B ML Z own n0 md T' h ws cells slots → Go p e below F T' (mkF m pc' Ls (v :: St))) : Go p e below F T (mkF m pc Ls St) := by
  have K0 := K
  obtain ⟨⟨hx, hby, hml⟩, eT, hn0, s1, locs, X, hZ, hown, N, J, Wq⟩ := K
  obtain ⟨hd, rfl⟩ := hd
  obtain ⟨T', X', e', st⟩ := getS2 X hx hZ hown (host := "") (Or.inl w) Via.refl eT Fd (g := mkF m pc Ls St) rfl (hb hby hd)
  exact (k T' (K0.same X' e' hZ hown N J Wq)).st st
theorem gInitO (K : Cx p l e R s m args below meth c B ML Z own n0 md T h ws cells slots) {index : Nat} {a : Addr} (hd : Dc B pc (.invokespecial index) 3 pc') (w1 : (Cond.methodLink own index Lib.objectInit).before a0 Z = true) (w2 : (Cond.instanceMethod Lib.objectInit).before a0 Z = true) (w3 : (Cond.code Lib.objectInit ⟨#[0xb1]⟩ 1 none).before a0 Z = true)
    (hsz : Ls.size = ML) (hf : 1 ≤ R.frames) {W : Nat} (hW : (St.map fun v => v.category).sum ≤ W) (hl : W + 12 ≤ R.locals)
    (k : ∀ T', Cx p l e R s m args below meth c B ML Z own n0 md T' h ws cells slots → Go p e below F T' (mkF m pc' Ls St)) : Go p e below F T (mkF m pc Ls (.ref a :: St)) := by
  have K0 := K
  obtain ⟨⟨hx, hby, hml⟩, eT, hn0, s1, locs, X, hZ, hown, N, J, Wq⟩ := K
  obtain ⟨hd, rfl⟩ := hd
  obtain ⟨T', X', e', st⟩ := initO X hx hZ hown w1 w2 w3 eT (g := mkF m pc Ls (.ref a :: St)) rfl (by rw [hml]; exact hsz) rfl (hb hby hd) hf (W := W) (by show 2 * 0 + _ ≤ _; omega) hl
  exact (k T' (K0.same X' e' hZ hown N J Wq)).st st
theorem Cx.grow {T' : State} {h' : Heap} {c' n' : Nat} {s1 : State} {locs : List Loc} (K : Cx p l e R s m args below meth c B ML Z own n0 md T h ws cells slots) (X' : Stand p l e R s1 m args below meth c T' locs c' n') (e' : T'.heap = h') (E : Ext h h') (hlt : h.size < h'.size) (hZ : Z.Warmed39 s1.vm) (hown : s1.vm.findClass own = some m.cls) (N : Fr n0 locs) (J : Jd md Z s s1 h) (Wq : ∀ x ∈ ws, n0 ≤ x ∧ x < h.size ∧ Sf md Z s1 h x) : Cx p l e R s m args below meth c B ML Z own n0 md T' h' (h.size :: ws) c' n' :=
  ⟨K.1, e', Nat.le_trans K.2.2.1 E.1, s1, locs, X', hZ, hown, N, J.ext E, fun x hx => by
    rcases List.mem_cons.mp hx with rfl | hx
    · exact ⟨K.2.2.1, hlt, (Sf.new (Nat.le_refl _)).ext J E⟩
    · obtain ⟨q1, q2, q3⟩ := Wq x hx; exact ⟨q1, Nat.lt_of_lt_of_le q2 E.1, q3.ext J E⟩⟩
theorem gNew (K : Cx p l e R s m args below meth c B ML Z own n0 md T h ws cells slots) {C : String} {index n : Nat} (hd : Dc B pc (.new index) 3 pc') (w : (Cond.classLink own index C).before a0 Z = true) (wi : (Cond.instantiable C n).before a0 Z = true) (wz : (Cond.initialized C).before a0 Z = true) (hc : cells + 1 ≤ R.cells) (hl : slots + n ≤ R.slots)
    (k : ∀ (T' : State) (h' : Heap) (x : Addr), Cx p l e R s m args below meth c B ML Z own n0 md T' h' (x :: ws) (cells + 1) (slots + n) → Ext h h' → x = h.size → Exa Z h' x C → (∀ {O nm d : String} {ty : FieldType}, Laid Z a0 C O nm d → parseFieldDescriptor d = some ty → Fld Z h' x O nm d (defaultValue ty)) → (∀ y ∈ ws, y ≠ x) → Go p e below F T' (mkF m pc' Ls (.ref x :: St))) : Go p e below F T (mkF m pc Ls St) := by
  have K0 := K
  obtain ⟨⟨hx, hby, hml⟩, eT, hn0, s1, locs, X, hZ, hown, N, J, Wq⟩ := K
  obtain ⟨hd, rfl⟩ := hd
  obtain ⟨T', h', X', e', E, A, D, -, st⟩ := newO X hx hZ hown w wi wz eT (g := mkF m pc Ls St) rfl (hb hby hd) hc hl
  exact (k T' h' h.size (K0.grow X' e' E A.lt hZ hown N J Wq) E rfl A D (fun y hy => Nat.ne_of_lt (Wq y hy).2.1)).st st
theorem gNewarr (K : Cx p l e R s m args below meth c B ML Z own n0 md T h ws cells slots) {aty : ArrayType} {n : Int32} (hd : Dc B pc (.newarray aty) 2 pc') (w : (Cond.arrayClass (newarray.typeOf aty)).before a0 Z = true) (hn : ¬ n < 0) (cap : Nat) (hcap : n.toNatClampNeg ≤ cap) (hbb : cap * 8 ≤ 536870912) (hc : cells + 1 ≤ R.cells) (hl : slots + cap ≤ R.slots)
    (k : ∀ (T' : State) (h' : Heap) (x : Addr) (kA : ClassId), Cx p l e R s m args below meth c B ML Z own n0 md T' h' (x :: ws) (cells + 1) (slots + cap) → Ext h h' → x = h.size → Arv Z h' x kA (newarray.typeOf aty) n [] (defaultValue (newarray.typeOf aty)) → (∀ y ∈ ws, y ≠ x) → Go p e below F T' (mkF m pc' Ls (.ref x :: St))) : Go p e below F T (mkF m pc Ls (.int n :: St)) := by
  have K0 := K
  obtain ⟨⟨hx, hby, hml⟩, eT, hn0, s1, locs, X, hZ, hown, N, J, Wq⟩ := K
  obtain ⟨hd, rfl⟩ := hd
  obtain ⟨T', h', cA, X', e', E, A, st⟩ := newP X hx hZ w eT (g := mkF m pc Ls (.int n :: St)) rfl (hb hby hd) rfl hn hcap hbb hc hl
  exact (k T' h' h.size cA (K0.grow X' e' E A.lt hZ hown N J Wq) E rfl (Arv.new A hn) (fun y hy => Nat.ne_of_lt (Wq y hy).2.1)).st st
theorem Cx.wrote {T' : State} {h' : Heap} {s1 : State} {locs : List Loc} {a : Addr} {sl : Nat} {v : Value} (K : Cx p l e R s m args below meth c B ML Z own n0 md T h ws cells slots) (X' : Stand p l e R s1 m args below meth c T' (locs ++ [⟨a, sl⟩]) cells slots) (e' : T'.heap = h') (W : Wr h h' a sl v) (hm : a ∈ ws) (hZ : Z.Warmed39 s1.vm) (hown : s1.vm.findClass own = some m.cls) (N : Fr n0 locs) (J : Jd md Z s s1 h) (Wq : ∀ x ∈ ws, n0 ≤ x ∧ x < h.size ∧ Sf md Z s1 h x) : Cx p l e R s m args below meth c B ML Z own n0 md T' h' ws cells slots :=
  have hs : ∀ x ∈ [a], Sf md Z s1 h x := allS (Wq a hm).2.2 all0
  ⟨K.1, e', by rw [W.size]; exact K.2.2.1, s1, _, X', hZ, hown, Fr.snoc X' N (Wq a hm).1, J.keep (Keep.of_wr W) hs, fun x hx => by
    obtain ⟨q1, q2, q3⟩ := Wq x hx; exact ⟨q1, by rw [W.size]; exact q2, q3.keep J (Keep.of_wr W) hs⟩⟩
theorem gPut (K : Cx p l e R s m args below meth c B ML Z own n0 md T h ws cells slots) {O n d C : String} {index kk : Nat} {ty : FieldType} {a : Addr} {v old : Value} (hd : Dc B pc (.putfield index) 3 pc') (w : (Cond.fieldLink own index O n d).before a0 Z = true) (hm : a ∈ ws) (Fd : Fld Z h a O n d old) (E : Exa Z h a C)
    (L : (Cond.lays C O n d).before a0 Z = true ∨ ((Cond.laysFinal C O n d).before a0 Z = true ∧ own = O ∧ meth.name = "<init>")) (wi : (Cond.instantiable C kk).before a0 Z = true) (hty : parseFieldDescriptor d = some ty) (hn : narrow ty v = v) (hf : fits ty v = true)
    (k : ∀ (T' : State) (h' : Heap), Cx p l e R s m args below meth c B ML Z own n0 md T' h' ws cells slots → Wr h h' a (RoadKit.slotOf Z O n d) v → Fld Z h' a O n d v → Go p e below F T' (mkF m pc' Ls St)) : Go p e below F T (mkF m pc Ls (v :: .ref a :: St)) := by
  have K0 := K
  obtain ⟨⟨hx, hby, hml⟩, eT, hn0, s1, locs, X, hZ, hown, N, J, Wq⟩ := K
  obtain ⟨hd, rfl⟩ := hd
  obtain ⟨T', h', X', e', W, st⟩ := putF X hx hZ hown (host := "") (Or.inl w) Via.refl eT Fd E L wi hty hn hf (g := mkF m pc Ls (v :: .ref a :: St)) rfl rfl (hb hby hd)
  exact (k T' h' (K0.wrote X' e' W hm hZ hown N J Wq) W (Fd.same W)).st st
theorem nar_c {x : Int32} (h0 : ¬ x < 0) (h1 : ¬ (65535 : Int32) < x) : nar .char x = x := by
  have q := rng32 x
  have a0 : 0 ≤ x.toInt := by rw [Int32.lt_iff_toInt_lt] at h0; simpa using h0
  have a1 : x.toInt ≤ 65535 := by rw [Int32.lt_iff_toInt_lt] at h1; have : (65535 : Int32).toInt = 65535 := by decide
                                  omega
  apply Int32.toInt_inj.mp
  show (x.toUInt32.toUInt16.toUInt32.toInt32).toInt = x.toInt
  have := c_i2c x
  omega
theorem getD_push {vs : List Value} {v dv : Value} {i : Nat} (q : ¬ vs.length = i) : (vs ++ [v]).getD i dv = vs.getD i dv := by
  rw [List.getD_eq_getElem?_getD, List.getD_eq_getElem?_getD]
  by_cases e2 : i < vs.length
  · rw [List.getElem?_append_left e2]
  · rw [List.getElem?_eq_none (by simp; omega), List.getElem?_eq_none (by omega)]
theorem getD_last {vs : List Value} {v dv : Value} : (vs ++ [v]).getD vs.length dv = v := by
  rw [List.getD_eq_getElem?_getD]; simp
theorem arv_push {cl : Cell} {a : Addr} {kA : ClassId} {ty : FieldType} {z j : Int32} {vs : List Value} {dv v : Value} {h' : Heap} (A : Arr Z h a cl ty) (q1 : cl.cls = kA) (S : cl.slots.size = z.toNatClampNeg) (q3 : ¬ z < 0) (H : Has cl vs dv) (G : ∀ i, i < cl.slots.size → fits ty (vs.getD i dv) = true) (hv : fits ty v = true) (W : Wr h h' a j.toNatClampNeg v) (hj : j.toNatClampNeg = vs.length) : Arv Z h' a kA ty z (vs ++ [v]) dv := by
  refine ⟨cl.setSlot j.toNatClampNeg v, A.same W, q1, ?_, q3, ?_, ?_⟩
  · rw [← S]; simp [Cell.setSlot]
  · intro i hi
    have hi' : i < cl.slots.size := by simpa [Cell.setSlot] using hi
    have h9 := H i hi'
    simp only [Cell.setSlot]
    rw [hj]
    by_cases e1 : vs.length = i
    · subst e1; rw [getD_last]; simp [hi']
    · rw [Array.getElem?_setIfInBounds_ne e1, h9, getD_push e1]
  · intro i hi
    have hi' : i < cl.slots.size := by simpa [Cell.setSlot] using hi
    by_cases e1 : vs.length = i
    · subst e1; rw [getD_last]; exact hv
    · rw [getD_push e1]; exact G i hi'

/-! ## arrays -/
theorem gCastore (K : Cx p l e R s m args below meth c B ML Z own n0 md T h ws cells slots) {a : Addr} {kA : ClassId} {z j x : Int32} {vs : List Value} {dv : Value} (hd : Dc B pc .castore 1 pc') (hm : a ∈ ws) (A : Arv Z h a kA .char z vs dv) (hj : j.toNatClampNeg = vs.length) (hlt : ¬ j < 0 ∧ j < z) (hx0 : ¬ x < 0) (hx1 : ¬ (65535 : Int32) < x)
    (k : ∀ (T' : State) (h' : Heap), Cx p l e R s m args below meth c B ML Z own n0 md T' h' ws cells slots → Keep h h' [a] → Arv Z h' a kA .char z (vs ++ [.int x]) dv → Go p e below F T' (mkF m pc' Ls St)) : Go p e below F T (mkF m pc Ls (.int x :: .int j :: .ref a :: St)) := by
  have K0 := K
  obtain ⟨⟨hx, hby, hml⟩, eT, hn0, s1, locs, X, hZ, hown, N, J, Wq⟩ := K
  obtain ⟨hd, rfl⟩ := hd
  obtain ⟨cl, A1, A2, A3, A4, A5, A6⟩ := A
  obtain ⟨T', h', X', e', W, st⟩ := stC X hx hZ eT A1 (inb_of A3 hlt) (x := x) (g := mkF m pc Ls (.int x :: .int j :: .ref a :: St)) rfl rfl (hb hby hd)
  rw [nar_c hx0 hx1] at W
  have hf : fits .char (.int x) = true := by rw [← nar_c hx0 hx1]; exact fits_nar_char x
  exact (k T' h' (K0.wrote X' e' W hm hZ hown N J Wq) (Keep.of_wr W) (arv_push A1 A2 A3 A4 A5 A6 hf W hj)).st st
theorem gBastore (K : Cx p l e R s m args below meth c B ML Z own n0 md T h ws cells slots) {a : Addr} {kA : ClassId} {z j x : Int32} {vs : List Value} {dv : Value} (hd : Dc B pc .bastore 1 pc') (hm : a ∈ ws) (A : Arv Z h a kA .byte z vs dv) (hj : j.toNatClampNeg = vs.length) (hlt : ¬ j < 0 ∧ j < z)
    (k : ∀ (T' : State) (h' : Heap), Cx p l e R s m args below meth c B ML Z own n0 md T' h' ws cells slots → Keep h h' [a] → Arv Z h' a kA .byte z (vs ++ [.int (nar .byte x)]) dv → Go p e below F T' (mkF m pc' Ls St)) : Go p e below F T (mkF m pc Ls (.int x :: .int j :: .ref a :: St)) := by
  have K0 := K
  obtain ⟨⟨hx, hby, hml⟩, eT, hn0, s1, locs, X, hZ, hown, N, J, Wq⟩ := K
  obtain ⟨hd, rfl⟩ := hd
  obtain ⟨cl, A1, A2, A3, A4, A5, A6⟩ := A
  obtain ⟨T', h', X', e', W, st⟩ := stB X hx hZ eT A1 (inb_of A3 hlt) (x := x) (g := mkF m pc Ls (.int x :: .int j :: .ref a :: St)) rfl rfl (hb hby hd)
  exact (k T' h' (K0.wrote X' e' W hm hZ hown N J Wq) (Keep.of_wr W) (arv_push A1 A2 A3 A4 A5 A6 (fits_nar_byte x) W hj)).st st
/-- a store at a place below the known list's length -/
theorem gCaload (K : Cx p l e R s m args below meth c B ML Z own n0 md T h ws cells slots) {a : Addr} {kA : ClassId} {z j : Int32} {vs : List Value} {dv v : Value} (hd : Dc B pc .caload 1 pc') (A : Arv Z h a kA .char z vs dv) (hlt : ¬ j < 0 ∧ j < z) (hv : vs.getD j.toNatClampNeg dv = v) (r : Go p e below F T (mkF m pc' Ls (v :: St))) : Go p e below F T (mkF m pc Ls (.int j :: .ref a :: St)) := by
  obtain ⟨⟨hx, hby, hml⟩, eT, hn0, s1, locs, X, hZ, hown, N, J, Wq⟩ := K
  obtain ⟨hd, rfl⟩ := hd
  obtain ⟨cl, A1, A2, A3, A4, A5, A6⟩ := A
  exact r.st fun t q => X.caload hx (by rw [eT]; exact A1.1) (State.isArrayOf_alike hZ.alike A1.2.1) A1.2.2 (inb_of A3 hlt) (A5.at (inb_of A3 hlt) hv) (g := mkF m pc Ls (.int j :: .ref a :: St)) rfl rfl (hb hby hd) t q
theorem gBaload (K : Cx p l e R s m args below meth c B ML Z own n0 md T h ws cells slots) {a : Addr} {kA : ClassId} {z j : Int32} {vs : List Value} {dv v : Value} (hd : Dc B pc .baload 1 pc') (A : Arv Z h a kA .byte z vs dv) (hlt : ¬ j < 0 ∧ j < z) (hv : vs.getD j.toNatClampNeg dv = v) (r : Go p e below F T (mkF m pc' Ls (v :: St))) : Go p e below F T (mkF m pc Ls (.int j :: .ref a :: St)) := by
  obtain ⟨⟨hx, hby, hml⟩, eT, hn0, s1, locs, X, hZ, hown, N, J, Wq⟩ := K
  obtain ⟨hd, rfl⟩ := hd
  obtain ⟨cl, A1, A2, A3, A4, A5, A6⟩ := A
  exact r.st fun t q => X.baloadBytes hx (by rw [eT]; exact A1.1) (State.isArrayOf_alike hZ.alike A1.2.1) A1.2.2 (inb_of A3 hlt) (A5.at (inb_of A3 hlt) hv) (g := mkF m pc Ls (.int j :: .ref a :: St)) rfl rfl (hb hby hd) t q
theorem gLen (K : Cx p l e R s m args below meth c B ML Z own n0 md T h ws cells slots) {a : Addr} {kA : ClassId} {z : Int32} {vs : List Value} {dv : Value} {ty : FieldType} (hd : Dc B pc .arraylength 1 pc') (A : Arv Z h a kA ty z vs dv) (r : Go p e below F T (mkF m pc' Ls (.int z :: St))) : Go p e below F T (mkF m pc Ls (.ref a :: St)) := by
  obtain ⟨⟨hx, hby, hml⟩, eT, hn0, s1, locs, X, hZ, hown, N, J, Wq⟩ := K
  obtain ⟨hd, rfl⟩ := hd
  obtain ⟨cl, A1, A2, A3, A4, A5, A6⟩ := A
  exact r.st fun t q => X.arraylength hx (by rw [eT]; exact A1.1) (State.isArrayOf_alike hZ.alike A1.2.1) (g := mkF m pc Ls (.ref a :: St)) rfl rfl (hb hby hd) t (by rw [len_of A3 A4]; exact q)
/-! ## calls -/
abbrev PreC (R : Room) (h : Heap) (as' : Array Value) (kc ks : Nat) : Pt → Array Value → Prop := fun A a => a = as' ∧ A.U.heap = h ∧ A.cells + kc ≤ R.cells ∧ A.slots + ks ≤ R.slots
abbrev PostC (Q : Option Value → Heap → List Loc → Prop) (kc ks : Nat) : Pt → Array Value → Option Value → Pt → Prop := fun A _ v B => ∃ L, Q v B.U.heap L ∧ B.locs = A.locs ++ L ∧ B.cells = A.cells + kc ∧ B.slots = A.slots + ks
def Cal (md : Option EList) (l : Launch) (R : Room) (p : Program) (e : Env) (below : List Frame) (args : Array Value) (y : MethodName) (len W : Nat) (Z : State) (n0 : Nat) (h : Heap) (wsC : List Addr) (as' : Array Value) (kc ks : Nat) (QQ : Option Value → Heap → Prop) : Prop := match md with
  | none => ∀ s' : State, Z.Warmed39 s'.vm → Back l R p e below s' args y len W (PreC R h as' kc ks) (PostC (fun v h' L => QQ v h' ∧ Keep h h' wsC ∧ Fr n0 L) kc ks)
  | some EL => ∀ (s : State) (vm0 : Vm) (a0 : Array Value), Z.Warmed39 vm0 → EW Z a0 EL → CHv Z EL vm0 h → (∀ x ∈ wsC, x < h.size ∧ Safe Z EL vm0 h x) →
      BackS l R p e below (s.setVm vm0) args y len W (PreC R h as' kc ks) (fun A a v B => PostC (fun v h' L => QQ v h' ∧ Keep h h' wsC ∧ Fr n0 L) kc ks A a v B ∧ CHr Z EL vm0 h B.U.vm B.U.heap)
theorem Cal.ofBack {y : MethodName} {len W kc ks : Nat} {wsC : List Addr} {as' : Array Value} {Q : Option Value → Heap → List Loc → Prop} {QQ : Option Value → Heap → Prop}
    (hB : ∀ s' : State, Z.Warmed39 s'.vm → Back l R p e below s' args y len W (PreC R h as' kc ks) (PostC Q kc ks)) (hQ : ∀ v h' L, Q v h' L → QQ v h' ∧ Keep h h' wsC ∧ Fr n0 L) : Cal md l R p e below args y len W Z n0 h wsC as' kc ks QQ := by
  cases md with
  | none =>
    intro s' hZ m meth c A g ig mk a X hg hsize hdg hW hn hp
    obtain ⟨v, B, X', ⟨L, q, b⟩, st⟩ := hB s' hZ m meth c A g ig mk a X hg hsize hdg hW hn hp
    exact ⟨v, B, X', ⟨L, hQ _ _ _ q, b⟩, st⟩
  | some EL =>
    intro s vm0 a0 hZ hE H hs m meth c A g ig mk a X hg hsize hdg hW hn hp
    obtain ⟨v, B, X', ⟨L, q, b⟩, st⟩ := hB (s.setVm vm0) hZ m meth c A g ig mk a X hg hsize hdg hW hn hp
    obtain ⟨q1, q2, q3⟩ := hQ _ _ _ q
    have C1 := CHr.keep q2 (fun x hx => (hs x hx).2) H
    exact ⟨v, B, X'.retabled X'.warmed.wide, X'.warmed.since _, by rw [hp.2.1]; exact q2.1, ⟨⟨L, ⟨q1, q2, q3⟩, b⟩, C1.trans (CHv.at X' hZ hE C1.1)⟩, st⟩
/-- a contract: what a body does from the heap h0, writing at most into ws and into what it makes -/
def ConN (l : Launch) (y : MethodName) (bytes : ByteArray) (maxL : Nat) (ret : Option FieldType) (wl : List Cond) (rm : Room) (Z : State) (n0 : Nat) (h0 : Heap) (ws : List Addr) (as' : Array Value) (QQ : Option Value → Heap → Prop) : Prop :=
  MetFree l y (head1 (Cond.code y bytes maxL ret :: wl) rm) (fun a U => a = as' ∧ Z.Warmed39 U.vm ∧ U.heap = h0) (fun _ _ _ _ _ => True) (fun _ U o U' => ∃ v L, o = .returned v ∧ (QQ v U'.heap ∧ Keep h0 U'.heap ws ∧ Fr n0 L) ∧ FrameEnd U o U' L rm.cells rm.slots)
def ConW (EL : EList) (l : Launch) (y : MethodName) (bytes : ByteArray) (maxL : Nat) (ret : Option FieldType) (wl : List Cond) (rm : Room) (Z : State) (n0 : Nat) (h0 : Heap) (ws : List Addr) (as' : Array Value) (QQ : Option Value → Heap → Prop) : Prop :=
  MetFree l y (head1 (Cond.code y bytes maxL ret :: wl) rm) (fun a U => a = as' ∧ Z.Warmed39 U.vm ∧ U.heap = h0 ∧ CHv Z EL U.vm h0 ∧ ∀ x ∈ ws, Safe Z EL U.vm h0 x) (fun _ _ _ _ _ => True) (fun _ U o U' => ∃ v L, o = .returned v ∧ (QQ v U'.heap ∧ Keep h0 U'.heap ws ∧ Fr n0 L) ∧ CHr Z EL U.vm U.heap U'.vm U'.heap ∧ ReturnedEndW U o U' L rm.cells rm.slots)
def Con (md : Option EList) (l : Launch) (y : MethodName) (bytes : ByteArray) (maxL : Nat) (ret : Option FieldType) (wl : List Cond) (rm : Room) (Z : State) (n0 : Nat) (h0 : Heap) (ws : List Addr) (as' : Array Value) (QQ : Option Value → Heap → Prop) : Prop := match md with
  | none => ConN l y bytes maxL ret wl rm Z n0 h0 ws as' QQ
  | some EL => ConW EL l y bytes maxL ret wl rm Z n0 h0 ws as' QQ
theorem Con.asN {y : MethodName} {bytes : ByteArray} {maxL : Nat} {ret : Option FieldType} {wl : List Cond} {rm : Room} {as' : Array Value} {QQ : Option Value → Heap → Prop} (C : Con none l y bytes maxL ret wl rm Z n0 h ws as' QQ) :
    MetFree l y (head1 (Cond.code y bytes maxL ret :: wl) rm) (fun a U => a = as' ∧ Z.Warmed39 U.vm ∧ U.heap = h) (fun _ _ _ _ _ => True) (fun _ U o U' => ∃ v L, o = .returned v ∧ (QQ v U'.heap ∧ Keep h U'.heap ws ∧ Fr n0 L) ∧ FrameEnd U o U' L rm.cells rm.slots) := C
theorem Con.asW {EL : EList} {y : MethodName} {bytes : ByteArray} {maxL : Nat} {ret : Option FieldType} {wl : List Cond} {rm : Room} {as' : Array Value} {QQ : Option Value → Heap → Prop} (C : Con (some EL) l y bytes maxL ret wl rm Z n0 h ws as' QQ) :
    MetFree l y (head1 (Cond.code y bytes maxL ret :: wl) rm) (fun a U => a = as' ∧ Z.Warmed39 U.vm ∧ U.heap = h ∧ CHv Z EL U.vm h ∧ ∀ x ∈ ws, Safe Z EL U.vm h x) (fun _ _ _ _ _ => True) (fun _ U o U' => ∃ v L, o = .returned v ∧ (QQ v U'.heap ∧ Keep h U'.heap ws ∧ Fr n0 L) ∧ CHr Z EL U.vm U.heap U'.vm U'.heap ∧ ReturnedEndW U o U' L rm.cells rm.slots) := C
theorem Cal.ofN {y : MethodName} {bytes : ByteArray} {maxL : Nat} {ret : Option FieldType} {rm : Room} {len W : Nat} {wsC : List Addr} {as' : Array Value} {QQ : Option Value → Heap → Prop} (hM : Con none l y bytes maxL ret [] rm Z n0 h wsC as' QQ) (wc : (Cond.code y bytes maxL ret).before a0 Z = true) (wz : (Cond.initialized y.cls).before a0 Z = true) (hf : rm.frames + 1 ≤ R.frames) (hl : W + (maxL + 11) + rm.locals ≤ R.locals) :
    Cal md l R p e below args y len W Z n0 h wsC as' rm.cells rm.slots QQ :=
  Cal.ofBack (fun s' hZ => backOf (Q := fun v h' L => QQ v h' ∧ Keep h h' wsC ∧ Fr n0 L) hM.asN hZ wc wz hf hl) (fun _ _ _ q => q)
theorem Cal.ofW {EL : EList} {y : MethodName} {bytes : ByteArray} {maxL : Nat} {ret : Option FieldType} {rm : Room} {len W : Nat} {wsC : List Addr} {as' : Array Value} {QQ : Option Value → Heap → Prop} (hM : Con (some EL) l y bytes maxL ret [] rm Z n0 h wsC as' QQ) (wc : (Cond.code y bytes maxL ret).before a0 Z = true) (wz : (Cond.initialized y.cls).before a0 Z = true) (hf : rm.frames + 1 ≤ R.frames) (hl : W + (maxL + 11) + rm.locals ≤ R.locals) :
    Cal (some EL) l R p e below args y len W Z n0 h wsC as' rm.cells rm.slots QQ := fun s vm0 a1 hZ hEL H hs =>
  BackS.of_freeW (bytes := bytes) (maxL := maxL) (ret := ret) (E := fun _ first o t L k n => k = rm.cells ∧ n = rm.slots ∧ (∃ v, o = .returned v ∧ QQ v t.heap ∧ Keep h t.heap wsC ∧ Fr n0 L) ∧ CHr Z EL first.vm first.heap t.vm t.heap) hM.asW hf hl
    (fun m meth c A a Y hp => have hU : Z.Warmed39 A.U.vm := wtrans (s := s.setVm vm0) hZ Y.warmed
      ⟨by show (Cond.and _ .tt).before a A.U = true; rw [Cond.before_and, mv hU wc]; rfl, mv hU wc, mv hU wz, hp.2.2.1, hp.2.2.2⟩)
    (fun m meth c A a g mk Y hp => ⟨hp.1, wtrans (s := s.setVm vm0) hZ Y.warmed, hp.2.1, (CHv.at Y hZ hEL H).1, fun x hx => (CHv.at Y hZ hEL H).safe (hs x hx).1 (hs x hx).2⟩) (fun _ _ _ _ _ _ _ _ _ => trivial)
    (fun _ _ _ _ ⟨v, L, h1, h2, h3, h4⟩ => ⟨L, _, _, h4, rfl, rfl, ⟨v, h1, h2⟩, h3⟩)
    (fun m meth c A a g mk v t L k n Y hp _ _ ⟨e1, e2, ⟨v', e3, e4⟩, e5⟩ => by
      cases e3; subst e1 e2
      refine ⟨⟨L, e4, rfl, rfl, rfl⟩, (CHv.at Y hZ hEL H).trans ?_⟩
      rw [← hp.2.1]; exact e5)
/-- behind a call in the narrow family -/
theorem Cx.backN {s1 : State} {locs : List Loc} {Bp : Pt} {L : List Loc} {wsC : List Addr} {kc ks : Nat} (K : Cx p l e R s m args below meth c B ML Z own n0 none T h ws cells slots) (X' : Stand p l e R s1 m args below meth c Bp.U Bp.locs Bp.cells Bp.slots) (hZ : Z.Warmed39 s1.vm) (hown : s1.vm.findClass own = some m.cls) (N : Fr n0 locs) (J : Jd none Z s s1 h) (Wq : ∀ x ∈ ws, n0 ≤ x ∧ x < h.size ∧ Sf none Z s1 h x) (Kp : Keep h Bp.U.heap wsC) (NL : Fr n0 L) (b1 : Bp.locs = locs ++ L) (b2 : Bp.cells = cells + kc) (b3 : Bp.slots = slots + ks) : Cx p l e R s m args below meth c B ML Z own n0 none Bp.U Bp.U.heap ws (cells + kc) (slots + ks) := by
  obtain ⟨U, lo, ce, sl⟩ := Bp
  dsimp only [Pt.U, Pt.locs, Pt.cells, Pt.slots] at *
  subst b1 b2 b3
  exact ⟨K.1, rfl, Nat.le_trans K.2.2.1 Kp.1, s1, _, X', hZ, hown, Fr.app N NL, J, fun x hx => ⟨(Wq x hx).1, Nat.lt_of_lt_of_le (Wq x hx).2.1 Kp.1, trivial⟩⟩
/-- behind a call in the wide family -/
theorem Cx.backW {EL : EList} {vm0 : Vm} {k0 : Nat} {locs : List Loc} {Bp : Pt} {L : List Loc} {wsC : List Addr} {kc ks : Nat} {a1 : Array Value} (K : Cx p l e R s m args below meth c B ML Z own n0 (some EL) T h ws cells slots) (X' : Stand p l e R ((s.setVm vm0).setVm Bp.U.vm) m args below meth c Bp.U Bp.locs Bp.cells Bp.slots) (hZ : Z.Warmed39 vm0) (hown : vm0.findClass own = some m.cls) (N : Fr n0 locs) (hS : s.Since vm0 k0) (hk : k0 ≤ h.size) (hC : CHr Z EL s.vm s.heap vm0 h) (hE : EW Z a1 EL) (Wq : ∀ x ∈ ws, n0 ≤ x ∧ x < h.size ∧ Safe Z EL vm0 h x) (hS2 : (s.setVm vm0).Since Bp.U.vm Bp.U.heap.size) (Kp : Keep h Bp.U.heap wsC) (NL : Fr n0 L) (b1 : Bp.locs = locs ++ L) (b2 : Bp.cells = cells + kc) (b3 : Bp.slots = slots + ks) (C2 : CHr Z EL vm0 h Bp.U.vm Bp.U.heap) : Cx p l e R s m args below meth c B ML Z own n0 (some EL) Bp.U Bp.U.heap ws (cells + kc) (slots + ks) := by
  obtain ⟨U, lo, ce, sl⟩ := Bp
  dsimp only [Pt.U, Pt.locs, Pt.cells, Pt.slots] at *
  subst b1 b2 b3
  refine ⟨K.1, rfl, Nat.le_trans K.2.2.1 Kp.1, s.setVm U.vm, _, X', State.Warmed39.trans (t := s.setVm vm0) hZ hS2.1, ?_, Fr.app N NL, ⟨U.vm, U.heap.size, a1, rfl, hS.trans hS2 (Nat.le_trans hk Kp.1), Nat.le_refl _, hC.trans C2, hE⟩, fun x hx => ⟨(Wq x hx).1, Nat.lt_of_lt_of_le (Wq x hx).2.1 Kp.1, C2.safe (Wq x hx).2.1 (Wq x hx).2.2⟩⟩
  show U.vm.findClass own = _
  rw [hS2.1.alike.findClass]; exact hown
theorem gCallS (K : Cx p l e R s m args below meth c B ML Z own n0 md T h ws cells slots) {index : Nat} {y : MethodName} {bytes : ByteArray} {maxL : Nat} {ret : Option FieldType} {wsC : List Addr} {kc ks W : Nat} {QQ : Option Value → Heap → Prop} (argsL rest : List Value)
    (hd : Dc B pc (.invokestatic index) 3 pc') (w1 : (Cond.methodLink own index y).before a0 Z = true) (w2 : (Cond.static y).before a0 Z = true) (w3 : (Cond.initialized y.cls).before a0 Z = true) (w4 : (Cond.code y bytes maxL ret).before a0 Z = true)
    (hC : Cal md l R p e below args y 3 W Z n0 h wsC argsL.toArray kc ks QQ) (hws : ∀ x ∈ wsC, x ∈ ws) {ps : List FieldType} {rt : Option FieldType} (hpd : parseMethodDescriptor y.desc = some ⟨ps, rt⟩) (hpl : argsL.length = ps.length) (hst : St = argsL.reverse ++ rest) (hW : (rest.map fun v => v.category).sum ≤ W) (hsz : Ls.size = ML) (hc : cells + kc ≤ R.cells) (hs : slots + ks ≤ R.slots) (hy : y.cls ≠ "java/lang/invoke/MethodHandle" ∧ y.cls ≠ "java/lang/invoke/VarHandle")
    (k : ∀ (v : Option Value) (T' : State) (h' : Heap), Cx p l e R s m args below meth c B ML Z own n0 md T' h' ws (cells + kc) (slots + ks) → Keep h h' wsC → QQ v h' → Go p e below F T' (mkF m pc' Ls (v.toList ++ rest))) : Go p e below F T (mkF m pc Ls St) := by
  have K0 := K
  obtain ⟨⟨hx, hby, hml⟩, eT, hn0, s1, locs, X, hZ, hown, N, J, Wq⟩ := K
  obtain ⟨hd, rfl⟩ := hd
  cases md with
  | none =>
    obtain ⟨v, vm1, Bp, -, X', ⟨L, ⟨q1, q2, q3⟩, b1, b2, b3⟩, st⟩ := Jvm.LawKit.callS X hx hown (mvT hZ w1) (mvT hZ w2) (mvT hZ w3) (mvT hZ w4) hy (hC s1 hZ) (g := mkF m pc Ls St) rfl (by rw [hml]; exact hsz) (lenOf hpd hpl) hst (by show 2 * 0 + _ ≤ _; omega) (hb hby hd) (fun _ _ => ⟨rfl, eT, hc, hs⟩)
    exact (k v Bp.U Bp.U.heap (K0.backN X' hZ hown N J Wq q2 q3 b1 b2 b3) q2 q1).st st
  | some EL =>
    obtain ⟨vm0, k0, a1, rfl, j2, j3, j4, j5⟩ := J
    obtain ⟨v, vm1, Bp, -, X', S2, -, ⟨⟨L, ⟨q1, q2, q3⟩, b1, b2, b3⟩, C2⟩, st⟩ := callSS X hx hown (mvT hZ w1) (mvT hZ w2) (mvT hZ w3) (mvT hZ w4) hy (hC s vm0 a1 hZ j5 j4.1 (fun x hx => (Wq x (hws x hx)).2)) (g := mkF m pc Ls St) rfl (by rw [hml]; exact hsz) (lenOf hpd hpl) hst (by show 2 * 0 + _ ≤ _; omega) (hb hby hd) (fun _ _ => ⟨rfl, eT, hc, hs⟩)
    exact (k v Bp.U Bp.U.heap (K0.backW X' hZ hown N j2 j3 j4 j5 Wq S2 q2 q3 b1 b2 b3 C2) q2 q1).tr st
theorem gCallI (K : Cx p l e R s m args below meth c B ML Z own n0 md T h ws cells slots) {index : Nat} {y : MethodName} {bytes : ByteArray} {maxL : Nat} {wsC : List Addr} {kc ks W : Nat} {QQ : Option Value → Heap → Prop} (a : Addr) (argsL rest : List Value)
    (hd : Dc B pc (.invokespecial index) 3 pc') (hy1 : y.name = "<init>") (w1 : (Cond.methodLink own index y).before a0 Z = true) (w2 : (Cond.instanceMethod y).before a0 Z = true) (w4 : (Cond.code y bytes maxL none).before a0 Z = true)
    (hC : Cal md l R p e below args y 3 W Z n0 h wsC (.ref a :: argsL).toArray kc ks QQ) (hws : ∀ x ∈ wsC, x ∈ ws) {ps : List FieldType} {rt : Option FieldType} (hpd : parseMethodDescriptor y.desc = some ⟨ps, rt⟩) (hpl : argsL.length = ps.length) (hst : St = argsL.reverse ++ .ref a :: rest) (hW : (rest.map fun v => v.category).sum ≤ W) (hsz : Ls.size = ML) (hc : cells + kc ≤ R.cells) (hs : slots + ks ≤ R.slots) (hy : y.cls ≠ "java/lang/invoke/MethodHandle" ∧ y.cls ≠ "java/lang/invoke/VarHandle")
    (k : ∀ (v : Option Value) (T' : State) (h' : Heap), Cx p l e R s m args below meth c B ML Z own n0 md T' h' ws (cells + kc) (slots + ks) → Keep h h' wsC → QQ v h' → Go p e below F T' (mkF m pc' Ls (v.toList ++ rest))) : Go p e below F T (mkF m pc Ls St) := by
  have K0 := K
  obtain ⟨⟨hx, hby, hml⟩, eT, hn0, s1, locs, X, hZ, hown, N, J, Wq⟩ := K
  obtain ⟨hd, rfl⟩ := hd
  cases md with
  | none =>
    obtain ⟨v, vm1, Bp, -, X', ⟨L, ⟨q1, q2, q3⟩, b1, b2, b3⟩, st⟩ := X.specialBack hx hy1 hown (mvT hZ w1) (mvT hZ w2) (mvT hZ w4) hy (hC s1 hZ) (g := mkF m pc Ls St) rfl (by rw [hml]; exact hsz) (Steps.refl _) (lenOf hpd hpl) hst (by show 2 * 0 + _ ≤ _; omega) (hb hby hd) (fun _ _ => ⟨rfl, eT, hc, hs⟩)
    exact (k v Bp.U Bp.U.heap (K0.backN X' hZ hown N J Wq q2 q3 b1 b2 b3) q2 q1).tr st
  | some EL =>
    obtain ⟨vm0, k0, a1, rfl, j2, j3, j4, j5⟩ := J
    obtain ⟨v, vm1, Bp, -, X', S2, -, ⟨⟨L, ⟨q1, q2, q3⟩, b1, b2, b3⟩, C2⟩, st⟩ := X.specialBackS hx hy1 hown (mvT hZ w1) (mvT hZ w2) (mvT hZ w4) hy (hC s vm0 a1 hZ j5 j4.1 (fun x hx => (Wq x (hws x hx)).2)) (g := mkF m pc Ls St) rfl (by rw [hml]; exact hsz) (Steps.refl _) (lenOf hpd hpl) hst (by show 2 * 0 + _ ≤ _; omega) (hb hby hd) (fun _ _ => ⟨rfl, eT, hc, hs⟩)
    exact (k v Bp.U Bp.U.heap (K0.backW X' hZ hown N j2 j3 j4 j5 Wq S2 q2 q3 b1 b2 b3 C2) q2 q1).tr st
theorem gCallV (K : Cx p l e R s m args below meth c B ML Z own n0 md T h ws cells slots) {index : Nat} {C : String} {y : MethodName} {wsC : List Addr} {kc ks W : Nat} {QQ : Option Value → Heap → Prop} (a : Addr) (argsL rest : List Value)
    (hd : Dc B pc (.invokevirtual index) 3 pc') (w1 : (Cond.methodLink own index y).before a0 Z = true) (w2 : (Cond.declares y).before a0 Z = true) (w3 : (Cond.selects C y y).before a0 Z = true) (w4 : (Cond.instanceMethod y).before a0 Z = true)
    (hC : Cal md l R p e below args y 3 W Z n0 h wsC (.ref a :: argsL).toArray kc ks QQ) (E : Exa Z h a C) (hws : ∀ x ∈ wsC, x ∈ ws) {ps : List FieldType} {rt : Option FieldType} (hpd : parseMethodDescriptor y.desc = some ⟨ps, rt⟩) (hpl : argsL.length = ps.length) (hst : St = argsL.reverse ++ .ref a :: rest) (hW : (rest.map fun v => v.category).sum ≤ W) (hsz : Ls.size = ML) (hc : cells + kc ≤ R.cells) (hs : slots + ks ≤ R.slots) (hy : y.cls ≠ "java/lang/invoke/MethodHandle" ∧ y.cls ≠ "java/lang/invoke/VarHandle")
    (k : ∀ (v : Option Value) (T' : State) (h' : Heap), Cx p l e R s m args below meth c B ML Z own n0 md T' h' ws (cells + kc) (slots + ks) → Keep h h' wsC → QQ v h' → Go p e below F T' (mkF m pc' Ls (v.toList ++ rest))) : Go p e below F T (mkF m pc Ls St) := by
  have K0 := K
  obtain ⟨⟨hx, hby, hml⟩, eT, hn0, s1, locs, X, hZ, hown, N, J, Wq⟩ := K
  obtain ⟨hd, rfl⟩ := hd
  obtain ⟨cq, kq, qa, -, qc⟩ := isOf hZ eT E
  cases md with
  | none =>
    obtain ⟨v, vm1, Bp, -, X', ⟨L, ⟨q1, q2, q3⟩, b1, b2, b3⟩, st⟩ := X.virtualBack hx hown (mvT hZ w1) (mvT hZ w2) (notFace_of_selects (args := #[]) (mvT hZ w3)) (mvT hZ w3) (mvT hZ w4) hy (hC s1 hZ) qa qc (g := mkF m pc Ls St) rfl (by rw [hml]; exact hsz) (Steps.refl _) (lenOf hpd hpl) hst (by show 2 * 0 + _ ≤ _; omega) (hb hby hd) (fun _ _ => ⟨rfl, eT, hc, hs⟩)
    exact (k v Bp.U Bp.U.heap (K0.backN X' hZ hown N J Wq q2 q3 b1 b2 b3) q2 q1).tr st
  | some EL =>
    obtain ⟨vm0, k0, a1, rfl, j2, j3, j4, j5⟩ := J
    obtain ⟨v, vm1, Bp, -, X', S2, -, ⟨⟨L, ⟨q1, q2, q3⟩, b1, b2, b3⟩, C2⟩, st⟩ := X.virtualBackS hx hown (mvT hZ w1) (mvT hZ w2) (notFace_of_selects (args := #[]) (mvT hZ w3)) (mvT hZ w3) (mvT hZ w4) hy (hC s vm0 a1 hZ j5 j4.1 (fun x hx => (Wq x (hws x hx)).2)) qa qc (g := mkF m pc Ls St) rfl (by rw [hml]; exact hsz) (Steps.refl _) (lenOf hpd hpl) hst (by show 2 * 0 + _ ≤ _; omega) (hb hby hd) (fun _ _ => ⟨rfl, eT, hc, hs⟩)
    exact (k v Bp.U Bp.U.heap (K0.backW X' hZ hown N j2 j3 j4 j5 Wq S2 q2 q3 b1 b2 b3 C2) q2 q1).tr st
/-! ## the end, the entry -/
def End (md : Option EList) (s Z : State) (n0 : Nat) (h0 : Heap) (ws : List Addr) (kc ks : Nat) (QQ : Option Value → Heap → Prop) : Outcome → State → Prop := match md with
  | none => fun o t => ∃ v L, o = .returned v ∧ (QQ v t.heap ∧ Keep h0 t.heap ws ∧ Fr n0 L) ∧ FrameEnd s o t L kc ks
  | some EL => fun o t => ∃ v L, o = .returned v ∧ (QQ v t.heap ∧ Keep h0 t.heap ws ∧ Fr n0 L) ∧ CHr Z EL s.vm s.heap t.vm t.heap ∧ ReturnedEndW s o t L kc ks
theorem sbn_mono {s t : State} {L : List Loc} {k n k' n' : Nat} (h : s.sameButNew t L k n) (a : k ≤ k') (b : n ≤ n') : s.sameButNew t L k' n' := h.mono a b
theorem gEnd {g : JFrame} {h0 : Heap} {wsA : List Addr} {kc ks : Nat} {QQ : Option Value → Heap → Prop} {v : Option Value} (K : Cx p l e R s m args below meth c B ML Z own n0 md T h ws cells slots) (hlk : meth.locks = false) (hv : meth.sig.returnType = none → v = none)
    (st : ∀ {s1 : State} {locs : List Loc} {fs : List Frame}, Stand p l e R s1 m args below meth c T locs cells slots → (∀ (f : JFrame) (acts : List Action), f.method = m → f.locked = none → f.entered = [] → (doReturn e (T.setTop f) acts v).1 = T.setFrames fs) → Steps p.tables e below (T.setTop g) (T.setFrames fs))
    (Kp : Keep h0 h wsA) (hc : cells ≤ kc) (hs : slots ≤ ks) (hq : QQ v h) : Go p e below (End md s Z n0 h0 wsA kc ks QQ) T g := by
  obtain ⟨⟨hx, hby, hml⟩, eT, hn0, s1, locs, X, hZ, hown, N, J, Wq⟩ := K
  subst eT
  cases md with
  | none =>
    cases J
    obtain ⟨fs, hr, hrun, hended, hW, hsame⟩ := X.leave (v := v) hv hlk
    exact ⟨_, _, st X hr, hrun, hended, v, locs, rfl, ⟨hq, Kp, N⟩, ⟨_, rfl⟩, hW, sbn_mono hsame hc hs⟩
  | some EL =>
    obtain ⟨vm0, k0, a1, rfl, j2, j3, j4, j5⟩ := J
    obtain ⟨fs, hr, hrun, hended, hW⟩ := X.leaveW j2 j3 (v := v) hv hlk
    refine ⟨_, _, st X hr, hrun, hended, v, locs, rfl, ⟨hq, Kp, N⟩, (show CHr Z EL s.vm s.heap T.vm T.heap from j4.trans (CHv.at X hZ j5 j4.1)), ?_⟩
    obtain ⟨w1, w2, w3, w4⟩ := hW
    exact ⟨w1, w2, w3, sbn_mono w4 hc hs⟩
theorem Cal.mono {y : MethodName} {len W kc ks kc' ks' : Nat} {wsC : List Addr} {as' : Array Value} {QQ QQ' : Option Value → Heap → Prop} (C : Cal md l R p e below args y len W Z n0 h wsC as' kc ks QQ) (h1 : kc ≤ kc') (h2 : ks ≤ ks') (hq : ∀ v h', QQ v h' → QQ' v h') : Cal md l R p e below args y len W Z n0 h wsC as' kc' ks' QQ' := by
  cases md with
  | none =>
    intro s' hZ m meth c A g ig mk a X hg hsize hdg hW hn hp
    obtain ⟨v, ⟨U, lo, ce, sl⟩, X', ⟨L, ⟨q1, q2, q3⟩, b1, b2, b3⟩, st⟩ := C s' hZ m meth c A g ig mk a X hg hsize hdg hW hn ⟨hp.1, hp.2.1, by have := hp.2.2.1; omega, by have := hp.2.2.2; omega⟩
    dsimp only [Pt.U, Pt.locs, Pt.cells, Pt.slots] at *
    exact ⟨v, ⟨U, lo, A.cells + kc', A.slots + ks'⟩, X'.mono (by rw [b2]; exact Nat.add_le_add_left h1 _) (by rw [b3]; exact Nat.add_le_add_left h2 _), ⟨L, ⟨hq _ _ q1, q2, q3⟩, b1, rfl, rfl⟩, st⟩
  | some EL =>
    intro s vm0 a0 hZ hE H hs m meth c A g ig mk a X hg hsize hdg hW hn hp
    obtain ⟨v, ⟨U, lo, ce, sl⟩, X', S2, gr, ⟨⟨L, ⟨q1, q2, q3⟩, b1, b2, b3⟩, C2⟩, st⟩ := C s vm0 a0 hZ hE H hs m meth c A g ig mk a X hg hsize hdg hW hn ⟨hp.1, hp.2.1, by have := hp.2.2.1; omega, by have := hp.2.2.2; omega⟩
    dsimp only [Pt.U, Pt.locs, Pt.cells, Pt.slots] at *
    exact ⟨v, ⟨U, lo, A.cells + kc', A.slots + ks'⟩, X'.mono (by rw [b2]; exact Nat.add_le_add_left h1 _) (by rw [b3]; exact Nat.add_le_add_left h2 _), S2, gr, ⟨⟨L, ⟨hq _ _ q1, q2, q3⟩, b1, rfl, rfl⟩, C2⟩, st⟩

theorem gRetI {h0 : Heap} {wsA : List Addr} {kc ks : Nat} {QQ : Option Value → Heap → Prop} {t : FieldType} {z : Int32} (K : Cx p l e R s m args below meth c B ML Z own n0 md T h ws cells slots) (hlk : meth.locks = false) (hret : meth.sig.returnType = some t) (ht : t = .int ∨ t = .boolean ∨ t = .byte ∨ t = .char ∨ t = .short) (hd : Dc B pc .ireturn 1 pc') (hn : narrow t (.int z) = .int z) (Kp : Keep h0 h wsA) (hc : cells ≤ kc) (hs : slots ≤ ks) (hq : QQ (some (.int z)) h) : Go p e below (End md s Z n0 h0 wsA kc ks QQ) T (mkF m pc Ls (.int z :: St)) :=
  gEnd K hlk (fun q => by rw [hret] at q; cases q) (fun X hr => retOut X K.1.1 hret hn (Or.inl ⟨rfl, ht, _, rfl⟩) (hb K.1.2.1 hd.1) hr) Kp hc hs hq
theorem gRetA {h0 : Heap} {wsA : List Addr} {kc ks : Nat} {QQ : Option Value → Heap → Prop} {t : FieldType} {w : Value} (K : Cx p l e R s m args below meth c B ML Z own n0 md T h ws cells slots) (hlk : meth.locks = false) (hret : meth.sig.returnType = some t) (ht : t.isReference = true) (hw : w.isRef = true) (hd : Dc B pc .areturn 1 pc') (Kp : Keep h0 h wsA) (hc : cells ≤ kc) (hs : slots ≤ ks) (hq : QQ (some w) h) : Go p e below (End md s Z n0 h0 wsA kc ks QQ) T (mkF m pc Ls (w :: St)) :=
  gEnd K hlk (fun q => by rw [hret] at q; cases q) (fun X hr => retOut X K.1.1 hret (by cases t <;> cases w <;> simp_all [FieldType.isReference, Value.isRef, narrow]) (Or.inr (Or.inr (Or.inr (Or.inr ⟨rfl, ht, hw⟩)))) (hb K.1.2.1 hd.1) hr) Kp hc hs hq
theorem gRetV {h0 : Heap} {wsA : List Addr} {kc ks : Nat} {QQ : Option Value → Heap → Prop} (K : Cx p l e R s m args below meth c B ML Z own n0 md T h ws cells slots) (hlk : meth.locks = false) (hret : meth.sig.returnType = none) (hd : Dc B pc .return_ 1 pc') (Kp : Keep h0 h wsA) (hc : cells ≤ kc) (hs : slots ≤ ks) (hq : QQ none h) : Go p e below (End md s Z n0 h0 wsA kc ks QQ) T (mkF m pc Ls []) :=
  gEnd K hlk (fun _ => rfl) (fun X hr => X.returnOut K.1.1 hret (hb K.1.2.1 hd.1) hr) Kp hc hs hq
def Ew (md : Option EList) (Z : State) : Prop := match md with | none => True | some EL => ∃ a0, EW Z a0 EL
theorem Con.introF {y : MethodName} {bytes : ByteArray} {maxL : Nat} {ret : Option FieldType} {wl : List Cond} {rm : Room} {h0 : Heap} {as' : Array Value} {QQ : Option Value → Heap → Prop} (hpn : plainFor y = true) (Z0 : n0 ≤ h0.size) (hws : ∀ x ∈ ws, n0 ≤ x ∧ x < h0.size) (hE : Ew md Z) (Ls0 : Array Slot) (hef : ∀ m, entryFrame m as' maxL = mkF m 0 Ls0 [])
    (body : ∀ p e s m below meth c T, meth.locks = false → meth.sig.returnType = ret → meth.name = y.name → Cx p l e rm s m as' below meth c bytes maxL Z y.cls n0 md T h0 ws 0 0 → Go p e below (End md s Z n0 h0 ws rm.cells rm.slots QQ) T (mkF m 0 Ls0 [])) : Con md l y bytes maxL ret wl rm Z n0 h0 ws as' QQ := by
  cases md with
  | none =>
    show ConN l y bytes maxL ret wl rm Z n0 h0 ws as' QQ
    unfold ConN
    refine MetFree.of_bodySF hpn hisR ?_
    intro p e s m args below meth c s₁ Bd hml0 hP hK
    obtain ⟨ha, hZ, hh⟩ := hP
    subst ha
    have G := body p e s m below meth c s₁ Bd.notSynchronized Bd.returns (name_of_methodNamed Bd.named Bd.method).1 ⟨⟨Bd.exec, Bd.bytes, hml0⟩, by rw [← hh, Bd.state]; rfl, Z0, s, [], Stand.of_body Bd, hZ, findClass_of_methodNamed Bd.named, Fr.nil n0, rfl, fun x hx => ⟨(hws x hx).1, (hws x hx).2, trivial⟩⟩
    rw [← hef m] at G
    exact G
  | some EL =>
    obtain ⟨a1, hE⟩ := hE
    show ConW EL l y bytes maxL ret wl rm Z n0 h0 ws as' QQ
    unfold ConW
    refine MetFree.of_bodySF hpn hisR ?_
    intro p e s m args below meth c s₁ Bd hml0 hP hK
    obtain ⟨ha, hZ, hh, H, hsf⟩ := hP
    subst ha
    have G := body p e s m below meth c s₁ Bd.notSynchronized Bd.returns (name_of_methodNamed Bd.named Bd.method).1 ⟨⟨Bd.exec, Bd.bytes, hml0⟩, by rw [← hh, Bd.state]; rfl, Z0, s, [], Stand.of_body Bd, hZ, findClass_of_methodNamed Bd.named, Fr.nil n0, ⟨s.vm, s.heap.size, a1, rfl, (State.WarmedH.refl s).since _, by rw [hh]; exact Nat.le_refl _, by rw [hh]; exact CHr.refl H, hE⟩, fun x hx => ⟨(hws x hx).1, (hws x hx).2, hsf x hx⟩⟩
    rw [← hef m] at G
    exact G
theorem Con.intro {y : MethodName} {bytes : ByteArray} {maxL : Nat} {ret : Option FieldType} {wl : List Cond} {rm : Room} {h0 : Heap} {as' : Array Value} {QQ : Option Value → Heap → Prop} (hpn : plainName y.cls = true) (Z0 : n0 ≤ h0.size) (hws : ∀ x ∈ ws, n0 ≤ x ∧ x < h0.size) (hE : Ew md Z) (Ls0 : Array Slot) (hef : ∀ m, entryFrame m as' maxL = mkF m 0 Ls0 [])
    (body : ∀ p e s m below meth c T, meth.locks = false → meth.sig.returnType = ret → meth.name = y.name → Cx p l e rm s m as' below meth c bytes maxL Z y.cls n0 md T h0 ws 0 0 → Go p e below (End md s Z n0 h0 ws rm.cells rm.slots QQ) T (mkF m 0 Ls0 [])) : Con md l y bytes maxL ret wl rm Z n0 h0 ws as' QQ :=
  Con.introF (plainFor_of_name hpn) Z0 hws hE Ls0 hef body
theorem EW.re {a1 a2 : Array Value} {EL : EList} (E : EW Z a1 EL) : EW Z a2 EL := fun q hq => by
  obtain ⟨t, w, h⟩ := E q hq
  exact ⟨t, mvS (s := Z) (vm0 := Z.vm) (State.Warmed39.refl Z) w, h⟩
theorem gLdc {EL : EList} (K : Cx p l e R s m args below meth c B ML Z own n0 (some EL) T h ws cells slots) {index : Nat} {text : String} (hd : Dc B pc (.ldc index) 2 pc') (w : (Cond.stringLink own index text).before a0 Z = true) (wS : ∀ a ∈ Bundle.stringAtoms, a.before a0 Z = true) (hmem : (own, index) ∈ EL)
    {vs : List Value} {z : Int32} (ht : (∀ c ∈ text.toList, c.toNat < 256) ∧ text.toList.map (fun c => Value.int (Jvm.Lit.byteI c.toNat.toUInt16)) = vs) (hz : ¬ z < 0) (hl : z.toNatClampNeg = vs.length) (n : Nat) (hn : 4 * text.toList.length ≤ n) (hbig : n ≤ 536870912) (hc : cells + 2 ≤ R.cells) (hs : slots + (n + 4) ≤ R.slots)
    (k : ∀ (T' : State) (h' : Heap) (a b : Addr) (kA : ClassId), Cx p l e R s m args below meth c B ML Z own n0 (some EL) T' h' ws (cells + 2) (slots + (n + 4)) → Ext h h' → Exa Z h' a "java/lang/String" → Fld Z h' a "java/lang/String" "coder" "B" (.int 0) → Fld Z h' a "java/lang/String" "value" "[B" (.ref b) → Arv Z h' b kA .byte z vs (.int 0) → (∀ x ∈ ws, x ≠ a ∧ x ≠ b) → Go p e below F T' (mkF m pc' Ls (.ref a :: St))) : Go p e below F T (mkF m pc Ls St) := by
  have K0 := K
  obtain ⟨⟨hx, hby, hml⟩, eT, hn0, s1, locs, X, hZ, hown, N, J, Wq⟩ := K
  obtain ⟨hd, rfl⟩ := hd
  obtain ⟨vm0, k0, a1, rfl, j2, j3, j4, j5⟩ := J
  obtain ⟨a, T', h', k1, b, kA, X', e', E, S', hk', hZ', hown', f1, f2, f3, f4, -, -, C2, -, hne, st⟩ := ldcCH X hx hZ hown w wS eT j2 j3 (EW.re j5) hmem j4.1 ht hz hl (g := mkF m pc Ls St) rfl (hb hby hd) hn hbig hc hs
  exact (k T' h' a b kA ⟨K0.1, e', Nat.le_trans hn0 E.1, _, locs, X', hZ', hown', N, ⟨T'.vm, k1, a1, rfl, S', hk', j4.trans C2, j5⟩, fun x hx => ⟨(Wq x hx).1, Nat.lt_of_lt_of_le (Wq x hx).2.1 E.1, C2.safe (Wq x hx).2.1 (Wq x hx).2.2⟩⟩ E f1 f2 f3 f4 (fun x hx => hne x (C2.safe (Wq x hx).2.1 (Wq x hx).2.2))).st st
theorem eqint_v {first s : State} {o : Option Outcome} {idx : List Nat} {t : Term} {i : Int32} (q : (Cond.eq t (.int i)).value args first o s idx = some true) : t.eval args first o idx s = some (.int i) := by
  simp only [Cond.value, Term.eval] at q
  cases ht : t.eval args first o idx s with
  | none => simp [ht] at q
  | some x => cases x <;> simp [ht] at q ⊢; exact q
theorem Sta.kp {C n d : String} {v : Value} {h' : Heap} (Fd : Sta Z h C n d v) (K : Keep h h' ws) (hn : ∀ x ∈ ws, ∀ cell : Cell, h[x]? = some cell → cell.vm.isStatics = false) : Sta Z h' C n d v := by
  obtain ⟨cf, i, k, f, st, cell, h1, h2, h3, h4, h5, h6, h7⟩ := Fd
  exact ⟨cf, i, k, f, st, cell, h1, h2, h3, h4, K.2.1 st cell h5 (fun q => by have := hn st q cell h5; rw [h6] at this; cases this), h6, h7⟩
theorem i_eq {a b : Int32} (q : a.toInt = b.toInt) : a = b := Int32.toInt_inj.mp q
theorem ch_up {x : Int32} (q : ¬ (255 : Int32) < x) : ¬ (65535 : Int32) < x := by
  rw [Int32.lt_iff_toInt_lt] at q ⊢
  have e1 : (255 : Int32).toInt = 255 := by decide
  have e2 : (65535 : Int32).toInt = 65535 := by decide
  omega
theorem allI0 {P : Int32 → Prop} : ∀ x ∈ ([] : List Int32), P x := fun _ q => nomatch q
theorem allI {P : Int32 → Prop} {y : Int32} {L : List Int32} (q : P y) (r : ∀ x ∈ L, P x) : ∀ x ∈ y :: L, P x := fun x z => (List.mem_cons.mp z).elim (fun u => u ▸ q) (r x)
theorem gLdcI (K : Cx p l e R s m args below meth c B ML Z own n0 md T h ws cells slots) {index : Nat} (v : Int32) (hd : Dc B pc (.ldc index) 2 pc') (w : (Cond.constant own index v).before a0 Z = true) (r : Go p e below F T (mkF m pc' Ls (.int v :: St))) : Go p e below F T (mkF m pc Ls St) := by
  obtain ⟨⟨hx, hby, hml⟩, eT, hn0, s1, locs, X, hZ, hown, -⟩ := K
  obtain ⟨hd, rfl⟩ := hd
  exact r.st fun t q => X.ldcI hx hown (mvT hZ w) (g := mkF m pc Ls St) rfl (hb hby hd) q
theorem narrow_c {x : Int32} (q : ¬ x < 0 ∧ ¬ (255 : Int32) < x) : narrow .char (.int x) = .int x := by
  show Value.int (nar .char x) = _
  rw [nar_c q.1 (ch_up q.2)]
theorem ofNat_toInt {k : Nat} (q : k < 2147483648) : (Int32.ofNat k).toInt = k := len_toInt (by omega)
theorem ofNat_lt {k n : Nat} (hk : k < 2147483648) (hn : n < 2147483648) (q : Int32.ofNat k < Int32.ofNat n) : k < n := by
  rw [Int32.lt_iff_toInt_lt, ofNat_toInt hk, ofNat_toInt hn] at q; omega
theorem ofNat_nn {k : Nat} (q : k < 2147483648) : ¬ Int32.ofNat k < 0 := by
  rw [Int32.lt_iff_toInt_lt, ofNat_toInt q]
  have : (0 : Int32).toInt = 0 := by decide
  omega
theorem ofNat_ltI {k n : Nat} (hk : k < n) (hn : n < 2147483648) : Int32.ofNat k < Int32.ofNat n := by
  rw [Int32.lt_iff_toInt_lt, ofNat_toInt (by omega), ofNat_toInt hn]; omega
theorem ofNat_ne {k n : Nat} (hk : k < n) (hn : n < 2147483648) : ¬ Int32.ofNat k = Int32.ofNat n := fun q => by
  have := congrArg Int32.toInt q
  rw [ofNat_toInt (by omega), ofNat_toInt hn] at this; omega
theorem ofNat_clamp {k : Nat} (q : k < 2147483648) : (Int32.ofNat k).toNatClampNeg = k := by
  simp only [Int32.toNatClampNeg, ofNat_toInt q]; rfl
theorem ofNat_s {k : Nat} (q : k < 2147483647) : Int32.ofNat k + 1 = Int32.ofNat (k + 1) := by
  apply i_eq
  have h1 := c_iadd (Int32.ofNat k) 1
  have h2 := rng32 (Int32.ofNat k + 1)
  rw [ofNat_toInt (by omega)] at h1 ⊢
  have : (1 : Int32).toInt = 1 := by decide
  omega
theorem shl1 {k : Nat} (q : k < 1073741824) : Int32.ofNat k <<< ((1 : Int32) &&& 31) = Int32.ofNat (2 * k) := by
  apply i_eq
  have h1 := c_ishl (Int32.ofNat k) 1 1 (by decide)
  have h2 := rng32 (Int32.ofNat k <<< ((1 : Int32) &&& 31))
  rw [ofNat_toInt (by omega)] at h1 ⊢
  have : ((2 ^ 1 : Nat) : Int) = 2 := by decide
  omega
theorem shr1 {k : Nat} (q : k < 1073741824) : Int32.ofNat (2 * k) >>> ((1 : Int32) &&& 31) = Int32.ofNat k := by
  apply i_eq
  rw [c_ishr _ 1 1 (by decide), ofNat_toInt (by omega), ofNat_toInt (by omega)]
  have : ((2 ^ 1 : Nat) : Int) = 2 := by decide
  omega
theorem shr0 (x : Int32) : x >>> ((0 : Int32) &&& 31) = x := by
  apply i_eq
  rw [c_ishr _ 0 0 (by decide)]
  have : ((2 ^ 0 : Nat) : Int) = 1 := by decide
  omega
theorem nar_b2 (x : Int32) : nar .byte x.toInt8.toInt32 = x.toInt8.toInt32 := by
  apply i_eq
  show (x.toInt8.toInt32.toInt8.toInt32).toInt = _
  have h1 := c_i2b x.toInt8.toInt32
  have h2 := c_i2b x
  omega
theorem Cx.addN {b : Addr} (K : Cx p l e R s m args below meth c B ML Z own n0 none T h ws cells slots) (q1 : n0 ≤ b) (q2 : b < h.size) : Cx p l e R s m args below meth c B ML Z own n0 none T h (b :: ws) cells slots := by
  obtain ⟨k1, k2, k3, s1, locs, X, r1, r2, r3, r4, r5⟩ := K
  exact ⟨k1, k2, k3, s1, locs, X, r1, r2, r3, r4, fun x hx => by
    rcases List.mem_cons.mp hx with rfl | hx
    · exact ⟨q1, q2, trivial⟩
    · exact r5 x hx⟩
theorem narrow_c16 {x : Int32} (q : ¬ x < 0 ∧ ¬ (65535 : Int32) < x) : narrow .char (.int x) = .int x := by
  show Value.int (nar .char x) = _
  rw [nar_c q.1 q.2]
theorem getD_bd16 {cs : List Int32} (hp : ∀ c ∈ cs, ¬ c < 0 ∧ ¬ (65535 : Int32) < c) (k : Nat) : ¬ cs.getD k 0 < 0 ∧ ¬ (65535 : Int32) < cs.getD k 0 := by
  rw [List.getD_eq_getElem?_getD]
  by_cases q : k < cs.length
  · rw [List.getElem?_eq_getElem q]; exact hp _ (List.getElem_mem q)
  · rw [List.getElem?_eq_none (by omega)]; decide
theorem i2c_bd (x : Int32) : ¬ x.toUInt32.toUInt16.toUInt32.toInt32 < 0 ∧ ¬ (65535 : Int32) < x.toUInt32.toUInt16.toUInt32.toInt32 := by
  have h3 := c_i2c x
  rw [Int32.lt_iff_toInt_lt, Int32.lt_iff_toInt_lt]
  have e1 : (65535 : Int32).toInt = 65535 := by decide
  have e2 : (0 : Int32).toInt = 0 := by decide
  omega
/-- (x & 0x7fffffff) % d, d a small positive literal, as a Nat -/
theorem mod_nat (x : Int32) (d : Nat) (h0 : 0 < d) (h1 : d < 1000) : ∃ k : Nat, k < d ∧ (x &&& 2147483647) % Int32.ofNat d = Int32.ofNat k := by
  have a1 := c_and x 2147483647 (by decide)
  have a2 := c_irem (x &&& 2147483647) (Int32.ofNat d) d (ofNat_toInt (by omega))
  have a3 := a2.1 (by omega)
  refine ⟨((x &&& 2147483647).toInt % d).toNat, ?_, i_eq ?_⟩
  · have := Int.emod_lt_of_pos (x &&& 2147483647).toInt (show (0 : Int) < d by omega)
    have := Int.emod_nonneg (x &&& 2147483647).toInt (show (d : Int) ≠ 0 by omega)
    omega
  · have g1 := Int.emod_lt_of_pos (x &&& 2147483647).toInt (show (0 : Int) < d by omega)
    have g2 := Int.emod_nonneg (x &&& 2147483647).toInt (show (d : Int) ≠ 0 by omega)
    rw [a3, ofNat_toInt (by omega)]; omega
theorem ofNat_sub {a b : Nat} (h : b ≤ a) (ha : a < 2147483648) : Int32.ofNat a - Int32.ofNat b = Int32.ofNat (a - b) := by
  apply i_eq
  have h1 := c_isub (Int32.ofNat a) (Int32.ofNat b)
  have h2 := rng32 (Int32.ofNat a - Int32.ofNat b)
  rw [ofNat_toInt ha, ofNat_toInt (by omega)] at h1
  rw [ofNat_toInt (by omega)]; omega
theorem ofNat_nlt {k n : Nat} (hk : n ≤ k) (hk' : k < 2147483648) : ¬ Int32.ofNat k < Int32.ofNat n := by
  rw [Int32.lt_iff_toInt_lt, ofNat_toInt hk', ofNat_toInt (by omega)]; omega
theorem gCopy (K : Cx p l e R s m args below meth c B ML Z own n0 md T h ws cells slots) {index : Nat} {a b : Addr} {kA kB : ClassId} {z z' sp dp nn : Int32} {vs vd us : List Value} {dv dd : Value} (hd : Dc B pc (.invokestatic index) 3 pc')
    (w1 : (Cond.methodLink own index Jvm.Stand.acN).before a0 Z = true) (w2 : (Cond.native Jvm.Stand.acN).before a0 Z = true) (w3 : (Cond.static Jvm.Stand.acN).before a0 Z = true) (w4 : (Cond.initialized "java/lang/System").before a0 Z = true) (hm : b ∈ ws) (A : Arv Z h a kA .byte z vs dv) (A' : Arv Z h b kB .byte z' vd dd)
    (h1 : ¬ sp < 0) (h2 : ¬ dp < 0) (h3 : ¬ nn < 0) (h4 : sp.toNatClampNeg + nn.toNatClampNeg ≤ z.toNatClampNeg) (h5 : dp.toNatClampNeg + nn.toNatClampNeg ≤ z'.toNatClampNeg)
    (hus : us = (List.range nn.toNatClampNeg).map fun i => vs.getD (sp.toNatClampNeg + i) dv) (hl : dp.toNatClampNeg + nn.toNatClampNeg ≤ vd.length) (hsz : Ls.size = ML) (hf : 1 ≤ R.frames) {W : Nat} (hW : (St.map fun v => v.category).sum ≤ W) (hlo : W + (nativeFrameWords "java/lang/System" "arraycopy" 5 + 11) ≤ R.locals)
    (k : ∀ (T' : State) (h' : Heap), Cx p l e R s m args below meth c B ML Z own n0 md T' h' ws cells slots → Keep h h' [b] → Arv Z h' b kB .byte z' (vd.take dp.toNatClampNeg ++ us ++ vd.drop (dp.toNatClampNeg + nn.toNatClampNeg)) dd → Go p e below F T' (mkF m pc' Ls St)) : Go p e below F T (mkF m pc Ls (.int nn :: .int dp :: .ref b :: .int sp :: .ref a :: St)) := by
  have K0 := K
  obtain ⟨⟨hx, hby, hml⟩, eT, hn0, s1, locs, X, hZ, hown, N, J, Wq⟩ := K
  obtain ⟨hd, rfl⟩ := hd
  obtain ⟨T', h', L, X', e', N', Kp, A2, st⟩ := cpA X hx hZ hown w1 w2 w3 w4 eT A A' (Or.inl ⟨rfl, rfl⟩) h1 h2 h3 h4 h5 hus hl N (Wq b hm).1 (g := mkF m pc Ls (.int nn :: .int dp :: .ref b :: .int sp :: .ref a :: St)) rfl (by rw [hml]; exact hsz) rfl (hb hby hd) hf (W := W) (by show 2 * 0 + _ ≤ _; omega) hlo
  have hs : ∀ x ∈ [b], Sf md Z s1 h x := allS (Wq b hm).2.2 all0
  exact (k T' h' ⟨K0.1, e', Nat.le_trans K0.2.2.1 Kp.1, s1, L, X', hZ, hown, N', J.keep Kp hs, fun x hx => by
    obtain ⟨q1, q2, q3⟩ := Wq x hx; exact ⟨q1, Nat.lt_of_lt_of_le q2 Kp.1, q3.keep J Kp hs⟩⟩ Kp A2).st st
theorem range_take {vs : List Value} {d : Value} {t : Nat} (h : t ≤ vs.length) : vs.take t = (List.range t).map fun i => vs.getD (0 + i) d := by
  apply List.ext_getElem
  · simp; omega
  · intro i h1 h2
    simp at h1 h2 ⊢
    rw [List.getElem?_eq_getElem (by omega)]; rfl
theorem wd {tb : List Cond} {a0 : Array Value} {Z : State} (hw : ∀ d ∈ tb, d.before a0 Z = true) (i : Nat) {d : Cond} (h : tb[i]? = some d) : d.before a0 Z = true := hw d (List.mem_of_getElem? h)
theorem me {α : Type} {L : List α} (i : Nat) {a : α} (h : L[i]? = some a) : a ∈ L := List.mem_of_getElem? h

end Kit
end Jvm.OwnKit

/- laws to paste: Road.backV, Road.chN, Road.lenW, Road.codOf, pair_says, Road.wide_lo, Road.wide_hi (cut by pick.py; bodies as the Statement names them) -/
namespace Jvm.Pilot.@@N@@
namespace StrChars
open Jvm Sem ClassFile Op Lib Jvm.Stand Jvm.Free.XT Jvm.Free.ALB Jvm.Free.JM Jvm.Free
open Jvm.Lib.Cold (StaticIs)
/-- a char array whose places are chars -/
def Ch (a : Addr) (A : Cell) (U : State) : Prop := Arr .char a A U ∧ Typed .char A
theorem Ch.mv {a : Addr} {A : Cell} {U U' : State} (h : Ch a A U) (hal : U.vm.Alike U'.vm) (hh : U'.heap = U.heap) : Ch a A U' := ⟨h.1.mv hal hh, h.2⟩
theorem Ch.keep {a : Addr} {A : Cell} {U U' : State} (h : Ch a A U) (hal : U.vm.Alike U'.vm) (hk : U'.heap[a]? = some A) : Ch a A U' := ⟨h.1.keep hal hk, h.2⟩
/-- what place i of a char[]'s cell holds -/
def cv (A : Cell) (i : Nat) : Int32 := match A.slots[i]? with | some (.int x) => x | _ => 0
theorem Ch.get {a : Addr} {A : Cell} {U : State} (h : Ch a A U) {i : Nat} (hi : i < A.slots.size) : A.slots[i]? = some (.int (cv A i)) := by
  have e := Array.getElem?_eq_getElem hi
  have f := h.2 i _ e
  unfold cv; rw [e]
  generalize A.slots[i] = v at f
  cases v <;> simp [fits] at f ⊢
/-- the byte that i2b leaves of a char -/
def lo8 (x : Int32) : Int32 := x.toInt8.toInt32
theorem fits_lo8 (y : Int32) : fits .byte (.int (lo8 y)) = true := by
  have h1 := y.toInt8.le_toInt
  have h2 := y.toInt8.toInt_lt
  simp only [lo8, fits, Bool.and_eq_true, decide_eq_true_eq, Int32.le_iff_toInt_le, Int8.toInt_toInt32, show (-128 : Int32).toInt = -128 from by decide, show (127 : Int32).toInt = 127 from by decide]
  omega
/-- A' is A but that each place j of lo .. hi - 1 holds f j -/
def Laid (A A' : Cell) (lo hi : Nat) (f : Nat → Value) : Prop := A'.cls = A.cls ∧ A'.vm = A.vm ∧ A'.slots.size = A.slots.size ∧ ∀ i, A'.slots[i]? = if lo ≤ i ∧ i < hi then some (f i) else A.slots[i]?
theorem Laid.zero (A : Cell) (lo : Nat) (f : Nat → Value) : Laid A A lo (lo + 0) f := ⟨rfl, rfl, rfl, fun i => by rw [if_neg (by omega)]⟩
theorem Laid.step {A Ak : Cell} {lo k : Nat} {f : Nat → Value} {v : Value} (h : Laid A Ak lo k f) (hlo : lo ≤ k) (hk : k < Ak.slots.size) (hv : v = f k) : Laid A (Ak.setSlot k v) lo (k + 1) f := by
  refine ⟨h.1, h.2.1, by simpa [Cell.setSlot] using h.2.2.1, fun i => ?_⟩
  by_cases e : k = i
  · subst e; rw [Cell.slots_setSlot_self v hk, if_pos (by omega), hv]
  · rw [Cell.slots_setSlot_ne v e, h.2.2.2 i]
    by_cases q : lo ≤ i ∧ i < k
    · rw [if_pos q, if_pos (by omega)]
    · rw [if_neg q, if_neg (by omega)]
def U16 : String := "java/lang/StringUTF16"
namespace Cmp5
def yN : MethodName := ⟨"java/lang/StringUTF16", "compress", "([CI[BII)I"⟩
abbrev yB : ByteArray := jdk_52_method_21_code
theorem d0 : decode yB 0 = .ok (.iconst 0, 1) := by decide +kernel
theorem d1 : decode yB 1 = .ok (.istore 5, 2) := by decide +kernel
theorem d3 : decode yB 3 = .ok (.iload 5, 2) := by decide +kernel
theorem d5 : decode yB 5 = .ok (.iload 4, 2) := by decide +kernel
theorem d7 : decode yB 7 = .ok (.if_icmp (.ge) 37, 3) := by decide +kernel
theorem d10 : decode yB 10 = .ok (.aload_n 0, 1) := by decide +kernel
theorem d11 : decode yB 11 = .ok (.iload_n 1, 1) := by decide +kernel
theorem d12 : decode yB 12 = .ok (.caload, 1) := by decide +kernel
theorem d13 : decode yB 13 = .ok (.istore 6, 2) := by decide +kernel
theorem d15 : decode yB 15 = .ok (.iload 6, 2) := by decide +kernel
theorem d17 : decode yB 17 = .ok (.sipush 255, 3) := by decide +kernel
theorem d20 : decode yB 20 = .ok (.if_icmp (.le) 6, 3) := by decide +kernel
theorem d26 : decode yB 26 = .ok (.aload_n 2, 1) := by decide +kernel
theorem d27 : decode yB 27 = .ok (.iload_n 3, 1) := by decide +kernel
theorem d28 : decode yB 28 = .ok (.iload 6, 2) := by decide +kernel
theorem d30 : decode yB 30 = .ok (.i2b, 1) := by decide +kernel
theorem d31 : decode yB 31 = .ok (.bastore, 1) := by decide +kernel
theorem d32 : decode yB 32 = .ok (.iinc 1 1, 3) := by decide +kernel
theorem d35 : decode yB 35 = .ok (.iinc 3 1, 3) := by decide +kernel
theorem d38 : decode yB 38 = .ok (.iinc 5 1, 3) := by decide +kernel
theorem d41 : decode yB 41 = .ok (.goto (-38), 3) := by decide +kernel
theorem d44 : decode yB 44 = .ok (.iload 4, 2) := by decide +kernel
theorem d46 : decode yB 46 = .ok (.ireturn, 1) := by decide +kernel
def site : List Cond := []
def tab : Cond := tabOf yN yB 7 (some .int) site
def P (b : Addr) (A : Cell) (d : Addr) (B : Cell) (o q len : Nat) (args : Array Value) (s : State) : Prop := args = #[.ref b, .int (Int32.ofNat o), .ref d, .int (Int32.ofNat q), .int (Int32.ofNat len)] ∧ Ch b A s ∧ Arr .byte d B s ∧ b ≠ d ∧ o + len ≤ A.slots.size ∧ q + len ≤ B.slots.size ∧ ∀ i, i < len → ¬ 255 < cv A (o + i)
def E (b : Addr) (A : Cell) (d : Addr) (B : Cell) (o q len : Nat) (r : Option Value) (s u : State) : Prop := r = some (.int (Int32.ofNat len)) ∧ ∃ B', Put d B' s u ∧ Laid B B' q (q + len) (fun j => Value.int (lo8 (cv A (o + (j - q)))))
/-- no char of the range above 255: len; the places written hold each char's low byte -/
theorem law (l : Launch) (b : Addr) (A : Cell) (d : Addr) (B : Cell) (o q len : Nat) : Law l yN 5 5 0 0 yB 7 (some .int) site (P b A d B o q len) (E b A d B o q len) (copyLocs d q len) 0 0 := by
  refine Law.of_walk (plainFor_of_name (by decide +kernel)) (by decide +kernel) (by decide +kernel) (by decide) (fun _ _ h => by rw [h.1]; rfl) (fun _ U U' hal hh h => ⟨h.1, h.2.1.mv hal hh, h.2.2.1.mv hal hh, h.2.2.2⟩) (fun r U U' V V' h1 hal h2 h => ⟨h.1, h.2.elim fun B' q => ⟨B', q.1.mv h1 h2, q.2⟩⟩) ?_
  intro p e s m args below meth c s₁ X0 hexec hbytes hml hret hlk hnm hown hh0 W hP
  obtain ⟨rfl, hA, hB, hne, l1, l2, hp⟩ := hP
  have c1 : Steps p.tables e below (s₁.setTop (entryFrame m #[.ref b, .int (Int32.ofNat o), .ref d, .int (Int32.ofNat q), .int (Int32.ofNat len)] 7)) (s₁.setTop (mkF m 0 #[.val (.ref b), .val (.int (Int32.ofNat o)), .val (.ref d), .val (.int (Int32.ofNat q)), .val (.int (Int32.ofNat len)), .unset, .unset] [])) := entry rfl
  have hA0 := hA.1.mv X0.warmed.alike hh0
  have hB0 := hB.mv X0.warmed.alike hh0
  have a31 := hA.1.2.2.2
  have c2 : Steps p.tables e below (s₁.setTop (entryFrame m #[.ref b, .int (Int32.ofNat o), .ref d, .int (Int32.ofNat q), .int (Int32.ofNat len)] 7)) (s₁.setTop (mkF m 3 #[.val (.ref b), .val (.int (Int32.ofNat o)), .val (.ref d), .val (.int (Int32.ofNat q)), .val (.int (Int32.ofNat len)), .val (.int 0), .unset] [])) := c1.trans (by
    refine iconstV X0.here hexec rfl 0 (hb hbytes d0) (by decide) ?_
    refine XS.istore X0.here hexec rfl (hb hbytes d1) rfl rfl ?_
    exact Steps.refl _)
  have loop : ∀ (r i : Nat), i + r = len → ∀ (z : Slot), (z = .unset ∨ ∃ w, z = .val w ∧ w.category = 1) → ∀ (Tl : State) (Bk : Cell), Stand p l e { frames := 0, locals := 0, cells := 0, slots := 0 } s m #[.ref b, .int (Int32.ofNat o), .ref d, .int (Int32.ofNat q), .int (Int32.ofNat len)] below meth c Tl ([] ++ copyLocs d q i) 0 0 → Put d Bk s₁ Tl → Laid B Bk q (q + i) (fun j => Value.int (lo8 (cv A (o + (j - q))))) →
      Steps p.tables e below (s₁.setTop (entryFrame m #[.ref b, .int (Int32.ofNat o), .ref d, .int (Int32.ofNat q), .int (Int32.ofNat len)] 7)) (Tl.setTop (mkF m 3 #[.val (.ref b), .val (.int (Int32.ofNat (o + i))), .val (.ref d), .val (.int (Int32.ofNat (q + i))), .val (.int (Int32.ofNat len)), .val (.int (Int32.ofNat i)), z] [])) → ∃ (T' : State) (B' : Cell) (z' : Slot), Stand p l e { frames := 0, locals := 0, cells := 0, slots := 0 } s m #[.ref b, .int (Int32.ofNat o), .ref d, .int (Int32.ofNat q), .int (Int32.ofNat len)] below meth c T' ([] ++ copyLocs d q len) 0 0 ∧ Put d B' s₁ T' ∧ Laid B B' q (q + len) (fun j => Value.int (lo8 (cv A (o + (j - q))))) ∧
      Steps p.tables e below (s₁.setTop (entryFrame m #[.ref b, .int (Int32.ofNat o), .ref d, .int (Int32.ofNat q), .int (Int32.ofNat len)] 7)) (T'.setTop (mkF m 3 #[.val (.ref b), .val (.int (Int32.ofNat (o + len))), .val (.ref d), .val (.int (Int32.ofNat (q + len))), .val (.int (Int32.ofNat len)), .val (.int (Int32.ofNat len)), z'] [])) := by
    intro r
    induction r with
    | zero =>
      intro i hi z hz Tl Bk Xl pl fl cl
      have hil : i = len := by omega
      rw [hil] at Xl fl cl
      exact ⟨Tl, Bk, z, Xl, pl, fl, cl⟩
    | succ r ih =>
      intro i hi z hz Tl Bk Xl pl fl cl
      have all := X0.warmed.alike.symm.trans Xl.warmed.alike
      have hAl := hA0.keep all (pl.other hne hA0.1)
      have hBk := hB0.like all pl.1 fl.1 fl.2.1 fl.2.2.1
      have hlt : q + i < Bk.slots.size := by rw [fl.2.2.1]; omega
      have c3 : Steps p.tables e below (s₁.setTop (entryFrame m #[.ref b, .int (Int32.ofNat o), .ref d, .int (Int32.ofNat q), .int (Int32.ofNat len)] 7)) (Tl.setTop (mkF m 12 #[.val (.ref b), .val (.int (Int32.ofNat (o + i))), .val (.ref d), .val (.int (Int32.ofNat (q + i))), .val (.int (Int32.ofNat len)), .val (.int (Int32.ofNat i)), z] [.int (Int32.ofNat (o + i)), .ref b])) := cl.trans (by
        refine XS.iload Xl.here hexec rfl (hb hbytes d3) rfl ?_
        refine XS.iload Xl.here hexec rfl (hb hbytes d5) rfl ?_
        refine XS.icmpNo Xl.here hexec rfl (hb hbytes d7) rfl (ii_ge_f (lt32 (by omega) (by omega))) ?_
        refine XS.aloadN Xl.here hexec rfl (hb hbytes d10) rfl rfl ?_
        refine XS.iloadN Xl.here hexec rfl (hb hbytes d11) rfl ?_
        exact Steps.refl _)
      have c4 : Steps p.tables e below (s₁.setTop (entryFrame m #[.ref b, .int (Int32.ofNat o), .ref d, .int (Int32.ofNat q), .int (Int32.ofNat len)] 7)) (Tl.setTop (mkF m 13 #[.val (.ref b), .val (.int (Int32.ofNat (o + i))), .val (.ref d), .val (.int (Int32.ofNat (q + i))), .val (.int (Int32.ofNat len)), .val (.int (Int32.ofNat i)), z] [.int (cv A (o + i))])) := c3.trans (by
        refine Xl.aget hexec hAl rfl (hA.get (i := o + i) (by omega)) rfl rfl (hb hbytes d12) ?_
        exact Steps.refl _)
      have c5 : Steps p.tables e below (s₁.setTop (entryFrame m #[.ref b, .int (Int32.ofNat o), .ref d, .int (Int32.ofNat q), .int (Int32.ofNat len)] 7)) (Tl.setTop (mkF m 15 #[.val (.ref b), .val (.int (Int32.ofNat (o + i))), .val (.ref d), .val (.int (Int32.ofNat (q + i))), .val (.int (Int32.ofNat len)), .val (.int (Int32.ofNat i)), .val (.int (cv A (o + i)))] [])) := c4.trans (by
        refine XS.istoreS Xl.here hexec rfl (hb hbytes d13) rfl rfl hz ?_
        exact Steps.refl _)
      have c6 : Steps p.tables e below (s₁.setTop (entryFrame m #[.ref b, .int (Int32.ofNat o), .ref d, .int (Int32.ofNat q), .int (Int32.ofNat len)] 7)) (Tl.setTop (mkF m 31 #[.val (.ref b), .val (.int (Int32.ofNat (o + i))), .val (.ref d), .val (.int (Int32.ofNat (q + i))), .val (.int (Int32.ofNat len)), .val (.int (Int32.ofNat i)), .val (.int (cv A (o + i)))] [.int (lo8 (cv A (o + i))), .int (Int32.ofNat (q + i)), .ref d])) := c5.trans (by
        refine XS.iload Xl.here hexec rfl (hb hbytes d15) rfl ?_
        refine sipushV Xl.here hexec rfl 255 (hb hbytes d17) (by decide) ?_
        refine XS.icmpYes Xl.here hexec rfl (pc0 := 20) rfl (hb hbytes d20) rfl (ii_le_t (hp i (by omega))) (by decide) rfl ?_
        refine XS.aloadN Xl.here hexec rfl (hb hbytes d26) rfl rfl ?_
        refine XS.iloadN Xl.here hexec rfl (hb hbytes d27) rfl ?_
        refine XS.iload Xl.here hexec rfl (hb hbytes d28) rfl ?_
        refine i2b Xl.here hexec rfl (hb hbytes d30) rfl ?_
        exact Steps.refl _)
      obtain ⟨T7, X7, p7, st7⟩ := Xl.aput hexec hBk rfl hlt rfl (fits_lo8 (cv A (o + i))) (g := (mkF m 31 #[.val (.ref b), .val (.int (Int32.ofNat (o + i))), .val (.ref d), .val (.int (Int32.ofNat (q + i))), .val (.int (Int32.ofNat len)), .val (.int (Int32.ofNat i)), .val (.int (cv A (o + i)))] [.int (lo8 (cv A (o + i))), .int (Int32.ofNat (q + i)), .ref d])) rfl (rest := []) rfl (hb hbytes d31)
      have c8 : Steps p.tables e below (s₁.setTop (entryFrame m #[.ref b, .int (Int32.ofNat o), .ref d, .int (Int32.ofNat q), .int (Int32.ofNat len)] 7)) (T7.setTop (mkF m 32 #[.val (.ref b), .val (.int (Int32.ofNat (o + i))), .val (.ref d), .val (.int (Int32.ofNat (q + i))), .val (.int (Int32.ofNat len)), .val (.int (Int32.ofNat i)), .val (.int (cv A (o + i)))] [])) := c6.trans (st7 _ (Steps.refl _))
      have c9 : Steps p.tables e below (s₁.setTop (entryFrame m #[.ref b, .int (Int32.ofNat o), .ref d, .int (Int32.ofNat q), .int (Int32.ofNat len)] 7)) (T7.setTop (mkF m 3 #[.val (.ref b), .val (.int (Int32.ofNat (o + i) + 1)), .val (.ref d), .val (.int (Int32.ofNat (q + i) + 1)), .val (.int (Int32.ofNat len)), .val (.int (Int32.ofNat i + 1)), .val (.int (cv A (o + i)))] [])) := c8.trans (by
        refine iincV X7.here hexec rfl 1 (hb hbytes d32) (by decide) rfl rfl ?_
        refine iincV X7.here hexec rfl 1 (hb hbytes d35) (by decide) rfl rfl ?_
        refine iincV X7.here hexec rfl 1 (hb hbytes d38) (by decide) rfl rfl ?_
        refine XS.goto X7.here hexec rfl (pc0 := 41) rfl (hb hbytes d41) (by decide) rfl ?_
        exact Steps.refl _)
      have c10 : Steps p.tables e below (s₁.setTop (entryFrame m #[.ref b, .int (Int32.ofNat o), .ref d, .int (Int32.ofNat q), .int (Int32.ofNat len)] 7)) (T7.setTop (mkF m 3 #[.val (.ref b), .val (.int (Int32.ofNat (o + (i + 1)))), .val (.ref d), .val (.int (Int32.ofNat (q + (i + 1)))), .val (.int (Int32.ofNat len)), .val (.int (Int32.ofNat (i + 1))), .val (.int (cv A (o + i)))] [])) := by
        have := c9
        rw [succ32, succ32, succ32] at this
        exact this
      exact ih (i + 1) (by omega) _ (Or.inr ⟨_, rfl, rfl⟩) T7 _ (by rw [copyLocs_step, ← List.append_assoc]; exact X7) (pl.trans p7) (fl.step (by omega) hlt (by simp)) c10
  obtain ⟨T9, B9, z9, X9, p9, f9, g9⟩ := loop len 0 (by omega) .unset (Or.inl rfl) s₁ B (by simpa [copyLocs] using X0) ⟨hB0.1, fun _ _ => rfl, rfl⟩ (Laid.zero _ _ _) c2
  have c11 : Steps p.tables e below (s₁.setTop (entryFrame m #[.ref b, .int (Int32.ofNat o), .ref d, .int (Int32.ofNat q), .int (Int32.ofNat len)] 7)) (T9.setTop (mkF m 46 #[.val (.ref b), .val (.int (Int32.ofNat (o + len))), .val (.ref d), .val (.int (Int32.ofNat (q + len))), .val (.int (Int32.ofNat len)), .val (.int (Int32.ofNat len)), z9] [.int (Int32.ofNat len)])) := g9.trans (by
    refine XS.iload X9.here hexec rfl (hb hbytes d3) rfl ?_
    refine XS.iload X9.here hexec rfl (hb hbytes d5) rfl ?_
    refine XS.icmpYes X9.here hexec rfl (pc0 := 7) rfl (hb hbytes d7) rfl (ii_ge_t (nlt32 (by omega) (Nat.le_refl _))) (by decide) rfl ?_
    refine XS.iload X9.here hexec rfl (hb hbytes d44) rfl ?_
    exact Steps.refl _)
  exact ⟨T9, some (.int (Int32.ofNat len)), _, _, _, X9, by simp, rfl, rfl, (fun h => by cases h), ⟨rfl, B9, p9.from hh0, f9⟩, fun fs hl => c11.trans (X9.ireturnOut hexec hret rfl (Or.inl rfl) (hb hbytes d46) hl)⟩
end Cmp5
namespace Cmp3
def yN : MethodName := ⟨"java/lang/StringUTF16", "compress", "([CII)[B"⟩
abbrev yB : ByteArray := jdk_52_method_16_code
theorem d0 : decode yB 0 = .ok (.iload_n 2, 1) := by decide +kernel
theorem d1 : decode yB 1 = .ok (.newarray .byte, 2) := by decide +kernel
theorem d3 : decode yB 3 = .ok (.astore_n 3, 1) := by decide +kernel
theorem d4 : decode yB 4 = .ok (.aload_n 0, 1) := by decide +kernel
theorem d5 : decode yB 5 = .ok (.iload_n 1, 1) := by decide +kernel
theorem d6 : decode yB 6 = .ok (.aload_n 3, 1) := by decide +kernel
theorem d7 : decode yB 7 = .ok (.iconst 0, 1) := by decide +kernel
theorem d8 : decode yB 8 = .ok (.iload_n 2, 1) := by decide +kernel
theorem d9 : decode yB 9 = .ok (.invokestatic 115, 3) := by decide +kernel
theorem d12 : decode yB 12 = .ok (.istore 4, 2) := by decide +kernel
theorem d14 : decode yB 14 = .ok (.iload 4, 2) := by decide +kernel
theorem d16 : decode yB 16 = .ok (.iload_n 2, 1) := by decide +kernel
theorem d17 : decode yB 17 = .ok (.if_icmp (.eq) 40, 3) := by decide +kernel
theorem d57 : decode yB 57 = .ok (.aload_n 3, 1) := by decide +kernel
theorem d58 : decode yB 58 = .ok (.areturn, 1) := by decide +kernel
def site : List Cond := [.arrayClass .byte, Cmp5.tab] ++ staticW U16 115 Cmp5.yN
def tab : Cond := tabOf yN yB 6 (some (.array .byte)) site
def P (b : Addr) (A : Cell) (o len : Nat) (args : Array Value) (s : State) : Prop := args = #[.ref b, .int (Int32.ofNat o), .int (Int32.ofNat len)] ∧ Ch b A s ∧ o + len ≤ A.slots.size ∧ len ≤ 536870912 ∧ ∀ i, i < len → ¬ 255 < cv A (o + i)
def E (b : Addr) (A : Cell) (o len : Nat) (r : Option Value) (s u : State) : Prop := NewArr .byte "[B" len (fun j => .int (lo8 (cv A (o + j)))) r s u ∧ u.heap.size = s.heap.size + 1
/-- no char of the range above 255: a new byte[] of their low bytes -/
theorem law (l : Launch) (b : Addr) (A : Cell) (o len : Nat) : Law l yN 3 3 1 18 yB 6 (some (.array .byte)) site (P b A o len) (E b A o len) [] 1 len := by
  refine Law.of_walk (plainFor_of_name (by decide +kernel)) (by decide +kernel) (by decide +kernel) (by decide) (fun _ _ h => by rw [h.1]; rfl) (fun _ U U' hal hh h => ⟨h.1, h.2.1.mv hal hh, h.2.2⟩) (fun r U U' V V' h1 hal h2 h => ⟨NewArr.mv r U U' V V' h1 hal h2 h.1, by rw [h1, h2]; exact h.2⟩) ?_
  intro p e s m args below meth c s₁ X0 hexec hbytes hml hret hlk hnm hown hh0 W hP
  obtain ⟨rfl, hA, l1, l2, hp⟩ := hP
  have a31 := hA.1.2.2.2
  have c1 : Steps p.tables e below (s₁.setTop (entryFrame m #[.ref b, .int (Int32.ofNat o), .int (Int32.ofNat len)] 6)) (s₁.setTop (mkF m 0 #[.val (.ref b), .val (.int (Int32.ofNat o)), .val (.int (Int32.ofNat len)), .unset, .unset, .unset] [])) := entry rfl
  have c2 : Steps p.tables e below (s₁.setTop (entryFrame m #[.ref b, .int (Int32.ofNat o), .int (Int32.ofNat len)] 6)) (s₁.setTop (mkF m 1 #[.val (.ref b), .val (.int (Int32.ofNat o)), .val (.int (Int32.ofNat len)), .unset, .unset, .unset] [.int (Int32.ofNat len)])) := c1.trans (by
    refine XS.iloadN X0.here hexec rfl (hb hbytes d0) rfl ?_
    exact Steps.refl _)
  obtain ⟨T3, B3, X3, ba3, bs3, bv3, bh3, bf3, st3⟩ := X0.anew hexec (atype := .byte) (wk W (.arrayClass .byte)) rfl (by show len * 1 ≤ _; omega) (by omega) (g := (mkF m 1 #[.val (.ref b), .val (.int (Int32.ofNat o)), .val (.int (Int32.ofNat len)), .unset, .unset, .unset] [.int (Int32.ofNat len)])) rfl (hb hbytes d1) (rest := []) rfl (Nat.le_refl _) (by show 0 + len ≤ len; omega)
  rw [hh0] at ba3 st3
  have kp3 : XT.Kept s T3 := (XT.Kept.of_eq hh0).push bh3
  have hA3 := hA.keep X3.warmed.alike (kp3 _ _ hA.1.1)
  have hne : b ≠ s.heap.size := hA.1.ne
  have c4 : Steps p.tables e below (s₁.setTop (entryFrame m #[.ref b, .int (Int32.ofNat o), .int (Int32.ofNat len)] 6)) (T3.setTop (mkF m 3 #[.val (.ref b), .val (.int (Int32.ofNat o)), .val (.int (Int32.ofNat len)), .unset, .unset, .unset] [.ref s.heap.size])) := c2.trans (st3 _ (Steps.refl _))
  have c5 : Steps p.tables e below (s₁.setTop (entryFrame m #[.ref b, .int (Int32.ofNat o), .int (Int32.ofNat len)] 6)) (T3.setTop (mkF m 9 #[.val (.ref b), .val (.int (Int32.ofNat o)), .val (.int (Int32.ofNat len)), .val (.ref s.heap.size), .unset, .unset] [.int (Int32.ofNat len), .int 0, .ref s.heap.size, .int (Int32.ofNat o), .ref b])) := c4.trans (by
    refine XS.astoreN X3.here hexec rfl (hb hbytes d3) rfl rfl rfl ?_
    refine XS.aloadN X3.here hexec rfl (hb hbytes d4) rfl rfl ?_
    refine XS.iloadN X3.here hexec rfl (hb hbytes d5) rfl ?_
    refine XS.aloadN X3.here hexec rfl (hb hbytes d6) rfl rfl ?_
    refine iconstV X3.here hexec rfl 0 (hb hbytes d7) (by decide) ?_
    refine XS.iloadN X3.here hexec rfl (hb hbytes d8) rfl ?_
    exact Steps.refl _)
  obtain ⟨v6, T6, X6, E6, g6⟩ := X3.callS hexec (Cmp5.law l b A s.heap.size B3 o 0 len) hown (wks W (staticW U16 115 Cmp5.yN)) (wk W Cmp5.tab) (W := 0) (Nat.le_of_ble_eq_true rfl) (Nat.le_of_ble_eq_true rfl) (Nat.le_refl _) (by show 0 + len + 0 ≤ len; omega) (g := (mkF m 9 #[.val (.ref b), .val (.int (Int32.ofNat o)), .val (.int (Int32.ofNat len)), .val (.ref s.heap.size), .unset, .unset] [.int (Int32.ofNat len), .int (Int32.ofNat 0), .ref s.heap.size, .int (Int32.ofNat o), .ref b])) rfl (by rw [hml]; rfl) c5 (argsL := [.ref b, .int (Int32.ofNat o), .ref s.heap.size, .int (Int32.ofNat 0), .int (Int32.ofNat len)]) (rest := []) rfl rfl (by show 2 * 0 + 0 ≤ _; decide) (hb hbytes d9) (⟨rfl, hA3, ba3, hne, l1, by rw [bs3]; simp, hp⟩)
  obtain ⟨rfl, B6, p6, f6⟩ := E6
  have c7 : Steps p.tables e below (s₁.setTop (entryFrame m #[.ref b, .int (Int32.ofNat o), .int (Int32.ofNat len)] 6)) (T6.setTop (mkF m 12 #[.val (.ref b), .val (.int (Int32.ofNat o)), .val (.int (Int32.ofNat len)), .val (.ref s.heap.size), .unset, .unset] [.int (Int32.ofNat len)])) := g6
  have c8 : Steps p.tables e below (s₁.setTop (entryFrame m #[.ref b, .int (Int32.ofNat o), .int (Int32.ofNat len)] 6)) (T6.setTop (mkF m 58 #[.val (.ref b), .val (.int (Int32.ofNat o)), .val (.int (Int32.ofNat len)), .val (.ref s.heap.size), .val (.int (Int32.ofNat len)), .unset] [.ref s.heap.size])) := c7.trans (by
    refine XS.istore X6.here hexec rfl (hb hbytes d12) rfl rfl ?_
    refine XS.iload X6.here hexec rfl (hb hbytes d14) rfl ?_
    refine XS.iloadN X6.here hexec rfl (hb hbytes d16) rfl ?_
    refine XS.icmpYes X6.here hexec rfl (pc0 := 17) rfl (hb hbytes d17) rfl (ii_eq_t rfl) (by decide) rfl ?_
    refine XS.aloadN X6.here hexec rfl (hb hbytes d57) rfl rfl ?_
    exact Steps.refl _)
  have X8 := X6.wide (L' := []) (cells' := 1) (slots' := len) (fun x hx hlt => by
    simp only [List.nil_append, copyLocs, List.mem_map, List.mem_range] at hx
    obtain ⟨i, -, rfl⟩ := hx
    exact absurd hlt (Nat.lt_irrefl _)) (Nat.le_refl _) (by omega)
  exact ⟨T6, some (.ref s.heap.size), _, _, _, X8, rfl, rfl, rfl, (fun h => by cases h), ⟨⟨rfl, B6, ba3.like (X3.warmed.alike.symm.trans X6.warmed.alike) p6.1 f6.1 f6.2.1 f6.2.2.1, f6.2.1.trans bv3, by rw [X6.warmed.alike.findClass, f6.1]; exact bf3, by rw [f6.2.2.1, bs3]; simp, fun j hj => by rw [f6.2.2.2 j, if_pos (by omega)]; rfl, kp3.put p6 (Nat.le_refl _)⟩, by rw [p6.2.2, bh3, hh0]; simp⟩, fun fs hl => c8.trans (X8.areturnOut hexec rfl hret rfl (hb hbytes d58) hl)⟩
end Cmp3
namespace CodL
def yN : MethodName := ⟨"java/lang/StringUTF16", "coderFromArrayLen", "([BI)B"⟩
abbrev yB : ByteArray := jdk_52_method_15_code
theorem d0 : decode yB 0 = .ok (.iload_n 1, 1) := by decide +kernel
theorem d1 : decode yB 1 = .ok (.aload_n 0, 1) := by decide +kernel
theorem d2 : decode yB 2 = .ok (.arraylength, 1) := by decide +kernel
theorem d3 : decode yB 3 = .ok (.isub, 1) := by decide +kernel
theorem d4 : decode yB 4 = .ok (.bipush 31, 2) := by decide +kernel
theorem d6 : decode yB 6 = .ok (.iushr, 1) := by decide +kernel
theorem d7 : decode yB 7 = .ok (.i2b, 1) := by decide +kernel
theorem d8 : decode yB 8 = .ok (.ireturn, 1) := by decide +kernel
def site : List Cond := []
def tab : Cond := tabOf yN yB 2 (some .byte) site
def P (d : Addr) (B : Cell) (args : Array Value) (s : State) : Prop := args = #[.ref d, .int (Int32.ofNat B.slots.size)] ∧ Arr .byte d B s
def E (r : Option Value) (s u : State) : Prop := XT.PureE (some (.int 0)) r s u
/-- an array as long as the number of chars: LATIN1 -/
theorem law (l : Launch) (d : Addr) (B : Cell) : Law l yN 2 2 0 0 yB 2 (some .byte) site (P d B) E [] 0 0 := by
  refine Law.of_walk (plainFor_of_name (by decide +kernel)) (by decide +kernel) (by decide +kernel) (by decide) (fun _ _ h => by rw [h.1]; rfl) (fun _ U U' hal hh h => ⟨h.1, h.2.mv hal hh⟩) (fun r U U' V V' h1 hal h2 h => XT.PureE.mv r U U' V V' h1 hal h2 h) ?_
  intro p e s m args below meth c s₁ X0 hexec hbytes hml hret hlk hnm hown hh0 W hP
  obtain ⟨rfl, hB⟩ := hP
  have hB0 := hB.mv X0.warmed.alike hh0
  have c1 : Steps p.tables e below (s₁.setTop (entryFrame m #[.ref d, .int (Int32.ofNat B.slots.size)] 2)) (s₁.setTop (mkF m 0 #[.val (.ref d), .val (.int (Int32.ofNat B.slots.size))] [])) := entry rfl
  have c2 : Steps p.tables e below (s₁.setTop (entryFrame m #[.ref d, .int (Int32.ofNat B.slots.size)] 2)) (s₁.setTop (mkF m 2 #[.val (.ref d), .val (.int (Int32.ofNat B.slots.size))] [.ref d, .int (Int32.ofNat B.slots.size)])) := c1.trans (by
    refine XS.iloadN X0.here hexec rfl (hb hbytes d0) rfl ?_
    refine XS.aloadN X0.here hexec rfl (hb hbytes d1) rfl rfl ?_
    exact Steps.refl _)
  have c3 : Steps p.tables e below (s₁.setTop (entryFrame m #[.ref d, .int (Int32.ofNat B.slots.size)] 2)) (s₁.setTop (mkF m 8 #[.val (.ref d), .val (.int (Int32.ofNat B.slots.size))] [.int (lo8 (ushr (Int32.ofNat B.slots.size - Int32.ofNat B.slots.size) 31))])) := c2.trans (by
    refine X0.alen hexec hB0 rfl rfl (hb hbytes d2) ?_
    refine XS.isub X0.here hexec rfl (hb hbytes d3) rfl ?_
    refine bipushV X0.here hexec rfl 31 (hb hbytes d4) (by decide) ?_
    refine iushr X0.here hexec rfl (hb hbytes d6) rfl ?_
    refine i2b X0.here hexec rfl (hb hbytes d7) rfl ?_
    exact Steps.refl _)
  have e0 : lo8 (ushr (Int32.ofNat B.slots.size - Int32.ofNat B.slots.size) 31) = 0 := by rw [Int32.sub_self]; decide
  rw [e0] at c3
  exact ⟨s₁, some (.int 0), _, _, _, X0, rfl, rfl, rfl, (fun h => by cases h), ⟨rfl, hh0⟩, fun fs hl => c3.trans (X0.ireturnOut hexec hret rfl (Or.inr (Or.inr (Or.inl rfl))) (hb hbytes d8) hl)⟩
end CodL
/-- the String at a is Latin-1 over a new byte[] (the heap's one new cell): the low bytes of the len chars of A from o on; every cell but a is kept -/
def Got (a : Addr) (D : Cell) (fV fC : Field) (A : Cell) (o len : Nat) (r : Option Value) (s u : State) : Prop := r = none ∧ ∃ D' V : Cell, Blank "java/lang/String" a D' u ∧ Same D D' [fV.slot, fC.slot] ∧ D'.slots[fV.slot]? = some (.ref s.heap.size) ∧ D'.slots[fC.slot]? = some (.int 0) ∧ Arr .byte s.heap.size V u ∧ V.vm = .none ∧ u.vm.findClass "[B" = some V.cls ∧ V.slots.size = len ∧ (∀ j, j < len → V.slots[j]? = some (.int (lo8 (cv A (o + j))))) ∧ (∀ (y : Addr) (c : Cell), y ≠ a → s.heap[y]? = some c → u.heap[y]? = some c) ∧ u.heap.size = s.heap.size + 1
theorem Got.mv {a : Addr} {D A : Cell} {fV fC : Field} {o len : Nat} : ∀ r (U U' V V' : State), U'.heap = U.heap → V.vm.Alike V'.vm → V'.heap = V.heap → Got a D fV fC A o len r U V → Got a D fV fC A o len r U' V' :=
  fun r U U' V V' h1 hal h2 ⟨e0, D', X, a1, a2, a3, a4, a5, a6, a7, a8, a9, a10, a11⟩ => ⟨e0, D', X, a1.mv hal h2, a2, by rw [h1]; exact a3, a4, by rw [h1]; exact a5.mv hal h2, a6, by rw [hal.findClass]; exact a7, a8, a9, by rw [h1, h2]; exact a10, by rw [h1, h2]; exact a11⟩
namespace New4
def yN : MethodName := ⟨"java/lang/String", "<init>", "([CIILjava/lang/Void;)V"⟩
abbrev yB : ByteArray := jdk_42_method_149_code
theorem d0 : decode yB 0 = .ok (.aload_n 0, 1) := by decide +kernel
theorem d1 : decode yB 1 = .ok (.invokespecial 1, 3) := by decide +kernel
theorem d4 : decode yB 4 = .ok (.iload_n 3, 1) := by decide +kernel
theorem d5 : decode yB 5 = .ok (.ifCond (.ne) 22, 3) := by decide +kernel
theorem d27 : decode yB 27 = .ok (.getstatic 38, 3) := by decide +kernel
theorem d30 : decode yB 30 = .ok (.ifCond (.eq) 28, 3) := by decide +kernel
theorem d33 : decode yB 33 = .ok (.aload_n 1, 1) := by decide +kernel
theorem d34 : decode yB 34 = .ok (.iload_n 2, 1) := by decide +kernel
theorem d35 : decode yB 35 = .ok (.iload_n 3, 1) := by decide +kernel
theorem d36 : decode yB 36 = .ok (.invokestatic 177, 3) := by decide +kernel
theorem d39 : decode yB 39 = .ok (.astore 5, 2) := by decide +kernel
theorem d41 : decode yB 41 = .ok (.aload_n 0, 1) := by decide +kernel
theorem d42 : decode yB 42 = .ok (.aload 5, 2) := by decide +kernel
theorem d44 : decode yB 44 = .ok (.iload_n 3, 1) := by decide +kernel
theorem d45 : decode yB 45 = .ok (.invokestatic 47, 3) := by decide +kernel
theorem d48 : decode yB 48 = .ok (.putfield 15, 3) := by decide +kernel
theorem d51 : decode yB 51 = .ok (.aload_n 0, 1) := by decide +kernel
theorem d52 : decode yB 52 = .ok (.aload 5, 2) := by decide +kernel
theorem d54 : decode yB 54 = .ok (.putfield 9, 3) := by decide +kernel
theorem d57 : decode yB 57 = .ok (.return_, 1) := by decide +kernel
def site : List Cond := [.fieldLink "java/lang/String" 38 "java/lang/String" "COMPACT_STRINGS" "Z", Cmp3.tab, CodL.tab, .laysFinal "java/lang/String" "java/lang/String" "value" "[B", .fieldLink "java/lang/String" 9 "java/lang/String" "value" "[B", .laysFinal "java/lang/String" "java/lang/String" "coder" "B", .fieldLink "java/lang/String" 15 "java/lang/String" "coder" "B"] ++ objW "java/lang/String" 1 ++ staticW "java/lang/String" 177 Cmp3.yN ++ staticW "java/lang/String" 47 CodL.yN
def tab : Cond := tabOf yN yB 6 none site
def P (a : Addr) (D : Cell) (fV fC : Field) (b : Addr) (A : Cell) (z : Int32) (o len : Nat) (args : Array Value) (s : State) : Prop := args = #[.ref a, .ref b, .int (Int32.ofNat o), .int (Int32.ofNat len), .null] ∧ Blank "java/lang/String" a D s ∧ Found "java/lang/String" "value" "[B" fV s ∧ Found "java/lang/String" "coder" "B" fC s ∧ Ch b A s ∧ StaticIs s "java/lang/String" "COMPACT_STRINGS" "Z" (.int z) ∧ ¬ z = 0 ∧ 0 < len ∧ o + len ≤ A.slots.size ∧ len ≤ 536870912 ∧ ∀ i, i < len → ¬ 255 < cv A (o + i)
def E (a : Addr) (D : Cell) (fV fC : Field) (A : Cell) (o len : Nat) (r : Option Value) (s u : State) : Prop := Got a D fV fC A o len r s u
/-- len > 0, no char of the range above 255: a Latin-1 String of their low bytes -/
theorem law (l : Launch) (a : Addr) (D : Cell) (fV fC : Field) (b : Addr) (A : Cell) (z : Int32) (o len : Nat) : Law l yN 5 4 2 35 yB 6 none site (P a D fV fC b A z o len) (E a D fV fC A o len) [⟨a, fC.slot⟩, ⟨a, fV.slot⟩] 1 len := by
  refine Law.of_walk (plainFor_of_name (by decide +kernel)) (by decide +kernel) (by decide +kernel) (by decide) (fun _ _ h => by rw [h.1]; rfl) (fun _ U U' hal hh h => ⟨h.1, h.2.1.mv hal hh, h.2.2.1.al hal, h.2.2.2.1.al hal, h.2.2.2.2.1.mv hal hh, h.2.2.2.2.2.1.there hal hh, h.2.2.2.2.2.2⟩) (fun r U U' V V' h1 hal h2 h => Got.mv r U U' V V' h1 hal h2 h) ?_
  intro p e s m args below meth c s₁ X0 hexec hbytes hml hret hlk hnm hown hh0 W hP
  obtain ⟨rfl, hB, f1, f2, hA, s1, hz, l0, l1, l2, hp⟩ := hP
  have a31 := hA.1.2.2.2
  have c1 : Steps p.tables e below (s₁.setTop (entryFrame m #[.ref a, .ref b, .int (Int32.ofNat o), .int (Int32.ofNat len), .null] 6)) (s₁.setTop (mkF m 0 #[.val (.ref a), .val (.ref b), .val (.int (Int32.ofNat o)), .val (.int (Int32.ofNat len)), .val .null, .unset] [])) := entry rfl
  have c2 : Steps p.tables e below (s₁.setTop (entryFrame m #[.ref a, .ref b, .int (Int32.ofNat o), .int (Int32.ofNat len), .null] 6)) (s₁.setTop (mkF m 1 #[.val (.ref a), .val (.ref b), .val (.int (Int32.ofNat o)), .val (.int (Int32.ofNat len)), .val .null, .unset] [.ref a])) := c1.trans (by
    refine XS.aloadN X0.here hexec rfl (hb hbytes d0) rfl rfl ?_
    exact Steps.refl _)
  obtain ⟨T3, X3, q3, st3⟩ := X0.oinit hexec hown (wks W (objW "java/lang/String" 1)) (g := (mkF m 1 #[.val (.ref a), .val (.ref b), .val (.int (Int32.ofNat o)), .val (.int (Int32.ofNat len)), .val .null, .unset] [.ref a])) rfl (by rw [hml]; rfl) (rest := []) rfl (hb hbytes d1) (W := 0) (by show 2 * 0 + 0 ≤ _; decide) (Nat.le_of_ble_eq_true rfl) (Nat.le_of_ble_eq_true rfl)
  have hh3 := q3.trans hh0
  have c4 : Steps p.tables e below (s₁.setTop (entryFrame m #[.ref a, .ref b, .int (Int32.ofNat o), .int (Int32.ofNat len), .null] 6)) (T3.setTop (mkF m 27 #[.val (.ref a), .val (.ref b), .val (.int (Int32.ofNat o)), .val (.int (Int32.ofNat len)), .val .null, .unset] [])) := (c2.trans (st3 _ (Steps.refl _))).trans (by
    refine XS.iloadN X3.here hexec rfl (hb hbytes d4) rfl ?_
    refine XS.ifYes X3.here hexec rfl (pc0 := 5) rfl (hb hbytes d5) rfl (i0_ne_t (nz32 (by omega) l0)) (by decide) rfl ?_
    exact Steps.refl _)
  obtain ⟨T5, X5, q5, st5⟩ := X3.sget hexec hown (wk W (.fieldLink "java/lang/String" 38 "java/lang/String" "COMPACT_STRINGS" "Z")) s1 (fun _ _ h => by rw [hh3]; exact h) (g := (mkF m 27 #[.val (.ref a), .val (.ref b), .val (.int (Int32.ofNat o)), .val (.int (Int32.ofNat len)), .val .null, .unset] [])) rfl (hb hbytes d27)
  have hh5 := q5.trans hh3
  have c6 : Steps p.tables e below (s₁.setTop (entryFrame m #[.ref a, .ref b, .int (Int32.ofNat o), .int (Int32.ofNat len), .null] 6)) (T5.setTop (mkF m 30 #[.val (.ref a), .val (.ref b), .val (.int (Int32.ofNat o)), .val (.int (Int32.ofNat len)), .val .null, .unset] [.int z])) := c4.trans (st5 _ (Steps.refl _))
  have c7 : Steps p.tables e below (s₁.setTop (entryFrame m #[.ref a, .ref b, .int (Int32.ofNat o), .int (Int32.ofNat len), .null] 6)) (T5.setTop (mkF m 36 #[.val (.ref a), .val (.ref b), .val (.int (Int32.ofNat o)), .val (.int (Int32.ofNat len)), .val .null, .unset] [.int (Int32.ofNat len), .int (Int32.ofNat o), .ref b])) := c6.trans (by
    refine XS.ifNo X5.here hexec rfl (hb hbytes d30) rfl (i0_eq_f hz) ?_
    refine XS.aloadN X5.here hexec rfl (hb hbytes d33) rfl rfl ?_
    refine XS.iloadN X5.here hexec rfl (hb hbytes d34) rfl ?_
    refine XS.iloadN X5.here hexec rfl (hb hbytes d35) rfl ?_
    exact Steps.refl _)
  obtain ⟨v8, T8, X8, E8, g8⟩ := X5.callS hexec (Cmp3.law l b A o len) hown (wks W (staticW "java/lang/String" 177 Cmp3.yN)) (wk W Cmp3.tab) (W := 0) (Nat.le_of_ble_eq_true rfl) (Nat.le_of_ble_eq_true rfl) (Nat.le_refl _) (by show 0 + len ≤ len; omega) (g := (mkF m 36 #[.val (.ref a), .val (.ref b), .val (.int (Int32.ofNat o)), .val (.int (Int32.ofNat len)), .val .null, .unset] [.int (Int32.ofNat len), .int (Int32.ofNat o), .ref b])) rfl (by rw [hml]; rfl) c7 (argsL := [.ref b, .int (Int32.ofNat o), .int (Int32.ofNat len)]) (rest := []) rfl rfl (by show 2 * 0 + 0 ≤ _; decide) (hb hbytes d36) (⟨rfl, hA.mv X5.warmed.alike hh5, l1, l2, hp⟩)
  obtain ⟨e8, z8⟩ := E8
  obtain ⟨rfl, N, n1, n2, n3, n4, n5, n6⟩ := NewArr.mv _ T5 s _ _ hh5.symm (Vm.Alike.refl _) rfl e8
  rw [hh5] at z8
  have hB1 := hB.keep X8.warmed.alike (n6 _ _ hB.1)
  have hne : s.heap.size ≠ a := (Nat.ne_of_lt (Array.getElem?_eq_some_iff.mp hB.1).1).symm
  have c9 : Steps p.tables e below (s₁.setTop (entryFrame m #[.ref a, .ref b, .int (Int32.ofNat o), .int (Int32.ofNat len), .null] 6)) (T8.setTop (mkF m 39 #[.val (.ref a), .val (.ref b), .val (.int (Int32.ofNat o)), .val (.int (Int32.ofNat len)), .val .null, .unset] [.ref s.heap.size])) := g8
  have c10 : Steps p.tables e below (s₁.setTop (entryFrame m #[.ref a, .ref b, .int (Int32.ofNat o), .int (Int32.ofNat len), .null] 6)) (T8.setTop (mkF m 45 #[.val (.ref a), .val (.ref b), .val (.int (Int32.ofNat o)), .val (.int (Int32.ofNat len)), .val .null, .val (.ref s.heap.size)] [.int (Int32.ofNat N.slots.size), .ref s.heap.size, .ref a])) := by
    have hc : Steps p.tables e below (s₁.setTop (entryFrame m #[.ref a, .ref b, .int (Int32.ofNat o), .int (Int32.ofNat len), .null] 6)) (T8.setTop (mkF m 45 #[.val (.ref a), .val (.ref b), .val (.int (Int32.ofNat o)), .val (.int (Int32.ofNat len)), .val .null, .val (.ref s.heap.size)] [.int (Int32.ofNat len), .ref s.heap.size, .ref a])) := c9.trans (by
      refine XS.astore X8.here hexec rfl (hb hbytes d39) rfl rfl rfl ?_
      refine XS.aloadN X8.here hexec rfl (hb hbytes d41) rfl rfl ?_
      refine XS.aload X8.here hexec rfl (hb hbytes d42) rfl rfl ?_
      refine XS.iloadN X8.here hexec rfl (hb hbytes d44) rfl ?_
      exact Steps.refl _)
    rw [n4]; exact hc
  obtain ⟨v11, T11, X11, E11, g11⟩ := X8.callS hexec (CodL.law l s.heap.size N) hown (wks W (staticW "java/lang/String" 47 CodL.yN)) (wk W CodL.tab) (W := 1) (Nat.le_of_ble_eq_true rfl) (Nat.le_of_ble_eq_true rfl) (Nat.le_refl _) (by show 0 + len + 0 ≤ len; omega) (g := (mkF m 45 #[.val (.ref a), .val (.ref b), .val (.int (Int32.ofNat o)), .val (.int (Int32.ofNat len)), .val .null, .val (.ref s.heap.size)] [.int (Int32.ofNat N.slots.size), .ref s.heap.size, .ref a])) rfl (by rw [hml]; rfl) c10 (argsL := [.ref s.heap.size, .int (Int32.ofNat N.slots.size)]) (rest := [.ref a]) rfl rfl (by show 2 * 0 + (1 + 0) ≤ _; decide) (hb hbytes d45) (⟨rfl, n1⟩)
  obtain ⟨rfl, q11⟩ := E11
  have hB11 := hB1.mv (X8.warmed.alike.symm.trans X11.warmed.alike) q11
  have c12 : Steps p.tables e below (s₁.setTop (entryFrame m #[.ref a, .ref b, .int (Int32.ofNat o), .int (Int32.ofNat len), .null] 6)) (T11.setTop (mkF m 48 #[.val (.ref a), .val (.ref b), .val (.int (Int32.ofNat o)), .val (.int (Int32.ofNat len)), .val .null, .val (.ref s.heap.size)] [.int 0, .ref a])) := g11
  obtain ⟨T13, X13, p13, bl13, sl13, st13⟩ := X11.finit hexec hown (wk W (.fieldLink "java/lang/String" 15 "java/lang/String" "coder" "B")) (Or.inr ⟨_, (wk W (.laysFinal "java/lang/String" "java/lang/String" "coder" "B"))⟩) (Or.inl ⟨rfl, hnm⟩) f2 (Or.inl rfl) hB11 (t := .byte) (by decide +kernel) rfl (g := (mkF m 48 #[.val (.ref a), .val (.ref b), .val (.int (Int32.ofNat o)), .val (.int (Int32.ofNat len)), .val .null, .val (.ref s.heap.size)] [.int 0, .ref a])) rfl (rest := []) rfl (hb hbytes d48)
  have c14 : Steps p.tables e below (s₁.setTop (entryFrame m #[.ref a, .ref b, .int (Int32.ofNat o), .int (Int32.ofNat len), .null] 6)) (T13.setTop (mkF m 54 #[.val (.ref a), .val (.ref b), .val (.int (Int32.ofNat o)), .val (.int (Int32.ofNat len)), .val .null, .val (.ref s.heap.size)] [.ref s.heap.size, .ref a])) := (c12.trans (st13 _ (Steps.refl _))).trans (by
    refine XS.aloadN X13.here hexec rfl (hb hbytes d51) rfl rfl ?_
    refine XS.aload X13.here hexec rfl (hb hbytes d52) rfl rfl ?_
    exact Steps.refl _)
  obtain ⟨T15, X15, p15, bl15, sl15, st15⟩ := X13.finit hexec hown (wk W (.fieldLink "java/lang/String" 9 "java/lang/String" "value" "[B")) (Or.inr ⟨_, (wk W (.laysFinal "java/lang/String" "java/lang/String" "value" "[B"))⟩) (Or.inl ⟨rfl, hnm⟩) f1 (Or.inl rfl) bl13 (t := (.array .byte)) (by decide +kernel) rfl (g := (mkF m 54 #[.val (.ref a), .val (.ref b), .val (.int (Int32.ofNat o)), .val (.int (Int32.ofNat len)), .val .null, .val (.ref s.heap.size)] [.ref s.heap.size, .ref a])) rfl (rest := []) rfl (hb hbytes d54)
  have c16 : Steps p.tables e below (s₁.setTop (entryFrame m #[.ref a, .ref b, .int (Int32.ofNat o), .int (Int32.ofNat len), .null] 6)) (T15.setTop (mkF m 57 #[.val (.ref a), .val (.ref b), .val (.int (Int32.ofNat o)), .val (.int (Int32.ofNat len)), .val .null, .val (.ref s.heap.size)] [])) := c14.trans (st15 _ (Steps.refl _))
  have ap := apart (Or.inr ⟨_, (wk W (.laysFinal "java/lang/String" "java/lang/String" "value" "[B"))⟩) (Or.inr ⟨_, (wk W (.laysFinal "java/lang/String" "java/lang/String" "coder" "B"))⟩) f1 f2 (t₁ := .array .byte) (t₂ := .byte) (by decide +kernel) (by decide +kernel) (by decide)
  have al := X8.warmed.alike.symm.trans X15.warmed.alike
  have n7 : T11.heap[s.heap.size]? = some N := by rw [q11]; exact n1.1
  exact ⟨T15, none, _, _, _, X15, by simp, rfl, by omega, (fun _ => rfl), ⟨rfl, _, N, bl15, ((Same.refl D _).set _ (by simp)).set _ (by simp), sl15, (Cell.slots_setSlot_ne _ ap).trans sl13, n1.keep al (p15.other hne (p13.other hne n7)), n2, by rw [al.findClass]; exact n3, n4, n5, fun y c h1 h2 => p15.other h1 (p13.other h1 (by rw [q11]; exact n6 y c h2)), by rw [p15.2.2, p13.2.2, q11]; exact z8⟩, fun fs hl => c16.trans (X15.returnOut hexec hret (hb hbytes d57) hl)⟩
end New4
namespace New1
def yN : MethodName := ⟨"java/lang/String", "<init>", "([C)V"⟩
abbrev yB : ByteArray := jdk_42_method_3_code
theorem d0 : decode yB 0 = .ok (.aload_n 0, 1) := by decide +kernel
theorem d1 : decode yB 1 = .ok (.aload_n 1, 1) := by decide +kernel
theorem d2 : decode yB 2 = .ok (.iconst 0, 1) := by decide +kernel
theorem d3 : decode yB 3 = .ok (.aload_n 1, 1) := by decide +kernel
theorem d4 : decode yB 4 = .ok (.arraylength, 1) := by decide +kernel
theorem d5 : decode yB 5 = .ok (.aconst_null, 1) := by decide +kernel
theorem d6 : decode yB 6 = .ok (.invokespecial 27, 3) := by decide +kernel
theorem d9 : decode yB 9 = .ok (.return_, 1) := by decide +kernel
def site : List Cond := [New4.tab] ++ initW "java/lang/String" 27 New4.yN
def tab : Cond := tabOf yN yB 2 none site
def P (a : Addr) (D : Cell) (fV fC : Field) (b : Addr) (A : Cell) (z : Int32) (args : Array Value) (s : State) : Prop := args = #[.ref a, .ref b] ∧ Blank "java/lang/String" a D s ∧ Found "java/lang/String" "value" "[B" fV s ∧ Found "java/lang/String" "coder" "B" fC s ∧ Ch b A s ∧ StaticIs s "java/lang/String" "COMPACT_STRINGS" "Z" (.int z) ∧ ¬ z = 0 ∧ 0 < A.slots.size ∧ A.slots.size ≤ 536870912 ∧ ∀ i, i < A.slots.size → ¬ 255 < cv A i
def E (a : Addr) (D : Cell) (fV fC : Field) (A : Cell) (r : Option Value) (s u : State) : Prop := Got a D fV fC A 0 A.slots.size r s u
/-- new String(chars), not empty, no char above 255: a Latin-1 String of their low bytes -/
theorem law (l : Launch) (a : Addr) (D : Cell) (fV fC : Field) (b : Addr) (A : Cell) (z : Int32) : Law l yN 2 1 3 52 yB 2 none site (P a D fV fC b A z) (E a D fV fC A) [⟨a, fC.slot⟩, ⟨a, fV.slot⟩] 1 A.slots.size := by
  refine Law.of_walk (plainFor_of_name (by decide +kernel)) (by decide +kernel) (by decide +kernel) (by decide) (fun _ _ h => by rw [h.1]; rfl) (fun _ U U' hal hh h => ⟨h.1, h.2.1.mv hal hh, h.2.2.1.al hal, h.2.2.2.1.al hal, h.2.2.2.2.1.mv hal hh, h.2.2.2.2.2.1.there hal hh, h.2.2.2.2.2.2⟩) (fun r U U' V V' h1 hal h2 h => Got.mv r U U' V V' h1 hal h2 h) ?_
  intro p e s m args below meth c s₁ X0 hexec hbytes hml hret hlk hnm hown hh0 W hP
  obtain ⟨rfl, hB, f1, f2, hA, s1, hz, l0, l2, hp⟩ := hP
  have c1 : Steps p.tables e below (s₁.setTop (entryFrame m #[.ref a, .ref b] 2)) (s₁.setTop (mkF m 0 #[.val (.ref a), .val (.ref b)] [])) := entry rfl
  have c2 : Steps p.tables e below (s₁.setTop (entryFrame m #[.ref a, .ref b] 2)) (s₁.setTop (mkF m 6 #[.val (.ref a), .val (.ref b)] [.null, .int (Int32.ofNat A.slots.size), .int 0, .ref b, .ref a])) := c1.trans (by
    refine XS.aloadN X0.here hexec rfl (hb hbytes d0) rfl rfl ?_
    refine XS.aloadN X0.here hexec rfl (hb hbytes d1) rfl rfl ?_
    refine iconstV X0.here hexec rfl 0 (hb hbytes d2) (by decide) ?_
    refine XS.aloadN X0.here hexec rfl (hb hbytes d3) rfl rfl ?_
    refine X0.alen hexec (hA.1.mv X0.warmed.alike hh0) rfl rfl (hb hbytes d4) ?_
    refine XS.aconstNull X0.here hexec rfl (hb hbytes d5) ?_
    exact Steps.refl _)
  obtain ⟨v3, T3, X3, E3, g3⟩ := X0.callN hexec (New4.law l a D fV fC b A z 0 A.slots.size) rfl hown (wks W (initW "java/lang/String" 27 New4.yN)) (W New4.tab (by simp only [site, List.mem_cons, List.mem_append, true_or, or_true])) (W := 0) (Nat.le_of_ble_eq_true rfl) (Nat.le_of_ble_eq_true rfl) (Nat.le_refl _) (by show 0 + A.slots.size ≤ A.slots.size; omega) (g := (mkF m 6 #[.val (.ref a), .val (.ref b)] [.null, .int (Int32.ofNat A.slots.size), .int (Int32.ofNat 0), .ref b, .ref a])) rfl (by rw [hml]; rfl) c2 (argsL := [.ref b, .int (Int32.ofNat 0), .int (Int32.ofNat A.slots.size), .null]) (rest := []) rfl rfl (by show 2 * 0 + 0 ≤ _; decide) (hb hbytes d6) (⟨rfl, hB.mv X0.warmed.alike hh0, f1.al X0.warmed.alike, f2.al X0.warmed.alike, hA.mv X0.warmed.alike hh0, s1.there X0.warmed.alike hh0, hz, l0, by omega, l2, fun i hi => by rw [Nat.zero_add]; exact hp i hi⟩)
  have e0 := Got.mv _ s₁ s _ _ hh0.symm (Vm.Alike.refl _) rfl E3
  obtain rfl := e0.1
  have c4 : Steps p.tables e below (s₁.setTop (entryFrame m #[.ref a, .ref b] 2)) (T3.setTop (mkF m 9 #[.val (.ref a), .val (.ref b)] [])) := g3
  exact ⟨T3, none, _, _, _, X3, by simp, rfl, by omega, (fun _ => rfl), e0, fun fs hl => c4.trans (X3.returnOut hexec hret (hb hbytes d9) hl)⟩
theorem pays {l : Launch} {R : Room} {p : Program} {e : Env} {below : List Frame} {s : State} {sargs : Array Value} {len W : Nat} (a : Addr) (D : Cell) (fV fC : Field) (b : Addr) (A : Cell) (z : Int32) (htab : tab.before sargs s = true) (hfr : 4 ≤ R.frames) (hlo : W + 65 ≤ R.locals) :
    Back l R p e below s sargs yN len W (fun A₁ a₁ => A₁.cells + 1 ≤ R.cells ∧ A₁.slots + A.slots.size ≤ R.slots ∧ P a D fV fC b A z a₁ A₁.U) (fun A₁ _ v₁ B₁ => E a D fV fC A v₁ A₁.U B₁.U ∧ B₁.locs = A₁.locs ++ [⟨a, fC.slot⟩, ⟨a, fV.slot⟩] ∧ B₁.cells = A₁.cells + 1 ∧ B₁.slots = A₁.slots + A.slots.size) :=
  (law l a D fV fC b A z).pays htab hfr (by omega)
end New1
/-- the byte, read back as charAt reads it, is the char -/
theorem lo8_mask {x : Int32} (h0 : ¬ x < 0) (h1 : ¬ 255 < x) : lo8 x &&& 255 = x := by
  have t : ∀ k : Fin 256, lo8 (Int32.ofNat k.val) &&& 255 = Int32.ofNat k.val := by decide +kernel
  rw [Int32.lt_iff_toInt_lt] at h0 h1
  have e0 : (0 : Int32).toInt = 0 := rfl
  have e1 : (255 : Int32).toInt = 255 := rfl
  obtain ⟨k, hk⟩ : ∃ k : Nat, x.toInt = k := ⟨x.toInt.toNat, by omega⟩
  have hx : x = Int32.ofNat k := Int32.toInt_inj.mp (by rw [hk, Int32.toInt_ofNat_small (by omega)])
  rw [hx]
  exact t ⟨k, by omega⟩
end StrChars
namespace StrChars.Road
open Jvm Sem ClassFile Op Lib Jvm.Stand Jvm.Free Jvm.Free.XT
open Jvm.Lib.Cold (StaticIs)
abbrev ST : String := "java/lang/String"
/-- every table word that New1's law asks, flat -/
abbrev words : List Jvm.Cond := [.code New1.yN New1.yB 2 none, .initialized ST, .methodLink ST 27 New4.yN, .instanceMethod New4.yN,
  .code New4.yN New4.yB 6 none, .fieldLink ST 38 ST "COMPACT_STRINGS" "Z", .laysFinal ST ST "value" "[B", .fieldLink ST 9 ST "value" "[B", .laysFinal ST ST "coder" "B", .fieldLink ST 15 ST "coder" "B",
  .methodLink ST 1 Lib.objectInit, .instanceMethod Lib.objectInit, .code Lib.objectInit ⟨#[0xb1]⟩ 1 none, .methodLink ST 177 Cmp3.yN, .static Cmp3.yN, .methodLink ST 47 CodL.yN, .static CodL.yN,
  .code Cmp3.yN Cmp3.yB 6 (some (.array .byte)), .initialized U16, .arrayClass .byte, .methodLink U16 115 Cmp5.yN, .static Cmp5.yN, .code Cmp5.yN Cmp5.yB 7 (some .int), .code CodL.yN CodL.yB 2 (some .byte)]
theorem tab_of {a : Array Value} {s : State} (h : ∀ w ∈ words, w.before a s = true) : New1.tab.before a s = true := by
  have h5 : Cmp5.tab.before a s = true := unparts (wk h (.code Cmp5.yN Cmp5.yB 7 (some .int))) (wks h (.initialized Cmp5.yN.cls :: Cmp5.site))
  have hc : CodL.tab.before a s = true := unparts (wk h (.code CodL.yN CodL.yB 2 (some .byte))) (wks h (.initialized CodL.yN.cls :: CodL.site))
  have q5 : ∀ w ∈ Cmp5.tab :: words, w.before a s = true := fun w hw => (List.mem_cons.mp hw).elim (fun e => e ▸ h5) (h w)
  have h3 : Cmp3.tab.before a s = true := unparts (wk q5 (.code Cmp3.yN Cmp3.yB 6 (some (.array .byte)))) (wks q5 (.initialized Cmp3.yN.cls :: Cmp3.site))
  have q3 : ∀ w ∈ Cmp3.tab :: CodL.tab :: words, w.before a s = true := fun w hw => (List.mem_cons.mp hw).elim (fun e => e ▸ h3) fun hw => (List.mem_cons.mp hw).elim (fun e => e ▸ hc) (h w)
  have h4 : New4.tab.before a s = true := unparts (wk q3 (.code New4.yN New4.yB 6 none)) (wks q3 (.initialized New4.yN.cls :: New4.site))
  have q4 : ∀ w ∈ New4.tab :: words, w.before a s = true := fun w hw => (List.mem_cons.mp hw).elim (fun e => e ▸ h4) (h w)
  exact unparts (wk q4 (.code New1.yN New1.yB 2 none)) (wks q4 (.initialized New1.yN.cls :: New1.site))
/-- the words ride from the start Z to the walk's own state -/
theorem moved {Z s : State} {a0 args : Array Value} (hZ : Z.Warmed39 s.vm) (hw : ∀ d ∈ words, d.before a0 Z = true) : ∀ d ∈ words, d.before args s = true := fun d hd => by
  have q := hw d hd
  have t : ∀ d ∈ words, d = .arrayClass .byte ∨ (d.onTables && d.keepsFace) = true := by decide +kernel
  rcases t d hd with rfl | t
  · exact RoadKit.mvA hZ q
  · exact RoadKit.mv hZ q t
/-- WHAT COMES BACK, over the tables of the start Z: h the heap at the call, h' behind it -/
def Q (Z : State) (x : Addr) (A : Cell) (h : Heap) (v : Option Value) (h' : Heap) (L : List Loc) : Prop := v = none ∧ (∀ y ∈ L, y.base = x) ∧ RoadKit.Keep h h' [x] ∧ h'.size = h.size + 1 ∧ RoadKit.Exa Z h' x ST ∧ RoadKit.Fld Z h' x ST "value" "[B" (.ref h.size) ∧ RoadKit.Fld Z h' x ST "coder" "B" (.int 0) ∧
  (∃ V : Cell, RoadKit.Arr Z h' h.size V .byte ∧ V.vm = .none ∧ Z.vm.findClass "[B" = some V.cls ∧ V.slots.size = A.slots.size ∧ ∀ j, j < A.slots.size → V.slots[j]? = some (.int (lo8 (cv A j)))) ∧
  ∀ (O n d : String) (w : Value), RoadKit.Fld Z h x O n d w → RoadKit.slotOf Z O n d ≠ RoadKit.slotOf Z ST "value" "[B" → RoadKit.slotOf Z O n d ≠ RoadKit.slotOf Z ST "coder" "B" → RoadKit.Fld Z h' x O n d w
/-- **new String(chars) AT A CALL, IN THE ROAD'S FORM**: for specialBack behind newO: x the fresh String, b the char[] with the cell A -/
theorem back {p : Program} {l : Launch} {e : Env} {R : Room} {s : State} {args : Array Value} {below : List Frame} {len W : Nat} {Z : State} {a0 : Array Value} {h : Heap} (hZ : Z.Warmed39 s.vm) (hw : ∀ d ∈ words, d.before a0 Z = true) {kI : Nat} (wi : (Jvm.Cond.instantiable ST kI).before a0 Z = true)
    {x b : Addr} {A : Cell} {z : Int32} {v0 c0 : Value} (E : RoadKit.Exa Z h x ST) (V : RoadKit.Fld Z h x ST "value" "[B" v0) (C : RoadKit.Fld Z h x ST "coder" "B" c0) (K : RoadKit.Arr Z h b A .char) (hty : Typed .char A) (S : RoadKit.Sta Z h ST "COMPACT_STRINGS" "Z" (.int z)) (hz : ¬ z = 0)
    (l0 : 0 < A.slots.size) (l2 : A.slots.size ≤ 536870912) (hp : ∀ i, i < A.slots.size → ¬ 255 < cv A i) (hfr : 4 ≤ R.frames) (hlo : W + 65 ≤ R.locals) :
    Back l R p e below s args New1.yN len W (fun P a => a = #[.ref x, .ref b] ∧ P.U.heap = h ∧ P.cells + 1 ≤ R.cells ∧ P.slots + A.slots.size ≤ R.slots)
      (fun P _ v B => ∃ L, Q Z x A h v B.U.heap L ∧ B.locs = P.locs ++ L ∧ B.cells = P.cells + 1 ∧ B.slots = P.slots + A.slots.size) := by
  intro m meth c P g ig mk a X hg hsize hdg hW hn hp'
  obtain ⟨rfl, rfl, r1, r2⟩ := hp'
  have al : Z.vm.Alike P.U.vm := hZ.alike.trans X.warmed.alike
  obtain ⟨D, cfV, kV, iV, fV, hD, gV, stV, knV, obV, asV, slV⟩ := id V
  obtain ⟨D', cfC, kC, iC, fC, hD', gC, stC, -, -, asC, slC⟩ := id C
  cases hD.symm.trans hD'
  obtain ⟨D2, kD, e1, e2, e3, e4, e5⟩ := id E
  cases hD.symm.trans e1
  obtain ⟨c2, k2, i1, i2, i3, -⟩ := Cond.instantiable_spec wi
  cases e2.symm.trans i1
  cases e3.symm.trans i2
  obtain ⟨kU, u1, u2⟩ := al.2.2 _ _ e3
  have hB : Blank ST x D P.U := ⟨hD, ⟨knV, fun q hq => by rw [hq] at obV; cases obV⟩, by rw [al.findClass]; exact e2, kU, u1, by rw [u2]; exact i3, by rw [u2]; exact e5 i3⟩
  have F1 : Found ST "value" "[B" fV P.U := ⟨SBG.found_only al ⟨cfV, kV, iV, gV⟩, stV⟩
  have F2 : Found ST "coder" "B" fC P.U := ⟨SBG.found_only al ⟨cfC, kC, iC, gC⟩, stC⟩
  have hA : Ch b A P.U := ⟨⟨K.1, State.isArrayOf_alike al K.2.1, K.2.2, by omega⟩, hty⟩
  have hS : StaticIs P.U ST "COMPACT_STRINGS" "Z" (.int z) := by
    obtain ⟨cfS, iS, kS, fS, st, cS, t1, t2, t3, t4, t5, t6, t7⟩ := S
    exact StaticIs.there (s := { Z with heap := P.U.heap }) ⟨cfS, iS, kS, fS, st, cS, t1, t2, t3, t4, t5, (fun q => by rw [q] at t6; cases t6), t7⟩ al rfl
  obtain ⟨v, B, X', ⟨⟨hv, E', V', q1, q2, q3, q4, q5, q6, q7, q8, q9, q10, q11⟩, hl, hc, hs⟩, st⟩ := New1.pays x D fV fC b A z (tab_of (moved hZ hw)) hfr hlo m meth c P g ig mk _ X hg hsize hdg hW hn ⟨r1, r2, rfl, hB, F1, F2, hA, hS, hz, l0, l2, hp⟩
  have al' : Z.vm.Alike B.U.vm := hZ.alike.trans X'.warmed.alike
  have hsz : E'.slots.size = D.slots.size := by
    obtain ⟨-, -, -, kB, w1, w2, w3⟩ := q1
    obtain ⟨kB', y1, y2⟩ := al'.2.2 _ _ e3
    rw [q2.2.1] at w1
    cases w1.symm.trans y1
    rw [w3, e5 i3, y2]
  refine ⟨v, B, X', ⟨_, ⟨hv, ?_, ⟨by omega, fun y cy hy hn' => q10 y cy (by simpa using hn') hy, fun y cy hy => ?_⟩, q11, ⟨E', _, q1.1, by rw [q2.2.1]; exact e2, by rw [q2.2.1]; exact e3, by rw [q2.1]; exact obV, fun _ => by rw [hsz]; exact e5 i3⟩,
    ⟨E', cfV, kV, iV, fV, q1.1, gV, stV, by rw [q2.1]; exact knV, by rw [q2.1]; exact obV, by rw [q2.2.1]; exact asV, q3⟩, ⟨E', cfC, kC, iC, fC, q1.1, gC, stC, by rw [q2.1]; exact knV, by rw [q2.1]; exact obV, by rw [q2.2.1]; exact asC, q4⟩,
    ⟨V', ⟨q5.1, State.isArrayOf_alike al'.symm q5.2.1, q5.2.2.1⟩, q6, by rw [← al'.findClass]; exact q7, q8, fun j hj => by have := q9 j hj; rwa [Nat.zero_add] at this⟩, fun O n d w F n1 n2 => ?_⟩, hl, hc, hs⟩, st⟩
  · intro y hy
    simp only [List.mem_cons, List.not_mem_nil, or_false] at hy
    rcases hy with rfl | rfl <;> rfl
  · by_cases q : y = x
    · subst q
      cases hD.symm.trans hy
      exact ⟨E', q1.1, q2.2.1, q2.1, hsz⟩
    · exact ⟨cy, q10 y cy q hy, rfl, rfl, rfl⟩
  · obtain ⟨D3, cf, k, i, f, g1, g2, g3, g4, g5, g6, g7⟩ := F
    cases hD.symm.trans g1
    simp only [RoadKit.slotOf, g2, gV, gC, Option.map_some, Option.getD_some] at n1 n2
    exact ⟨E', cf, k, i, f, q1.1, g2, g3, by rw [q2.1]; exact g4, by rw [q2.1]; exact g5, by rw [q2.2.1]; exact g6, by rw [q2.2.2 f.slot (by simp [n1, n2])]; exact g7⟩
end StrChars.Road
namespace StrChars.Road
open Jvm Sem ClassFile Op Lib Jvm.Stand Jvm.Free Jvm.Free.XT
/-- WHAT COMES BACK, the byte[] as a list of values -/
def QA (Z : State) (x : Addr) (zn : Int32) (cs : List Int32) (h : Heap) (v : Option Value) (h' : Heap) (L : List Loc) : Prop := v = none ∧ (∀ y ∈ L, y.base = x) ∧ RoadKit.Keep h h' [x] ∧ h'.size = h.size + 1 ∧ RoadKit.Exa Z h' x ST ∧ RoadKit.Fld Z h' x ST "value" "[B" (.ref h.size) ∧ RoadKit.Fld Z h' x ST "coder" "B" (.int 0) ∧
  (∃ kb, Z.vm.findClass "[B" = some kb ∧ RoadKit.Arv Z h' h.size kb .byte zn (cs.map fun c => .int (lo8 c)) (.int 0)) ∧
  ∀ (O n d : String) (w : Value), RoadKit.Fld Z h x O n d w → RoadKit.slotOf Z O n d ≠ RoadKit.slotOf Z ST "value" "[B" → RoadKit.slotOf Z O n d ≠ RoadKit.slotOf Z ST "coder" "B" → RoadKit.Fld Z h' x O n d w
/-- **new String(chars) AT A CALL, THE ARRAYS AS LISTS**: the char[] at b holds cs, not empty, no char above 255 -/
theorem backArv {p : Program} {l : Launch} {e : Env} {R : Room} {s : State} {args : Array Value} {below : List Frame} {len W : Nat} {Z : State} {a0 : Array Value} {h : Heap} (hZ : Z.Warmed39 s.vm) (hw : ∀ d ∈ words, d.before a0 Z = true) {kI : Nat} (wi : (Jvm.Cond.instantiable ST kI).before a0 Z = true)
    {x b : Addr} {k : ClassId} {zn z : Int32} {cs : List Int32} {dv v0 c0 : Value} (E : RoadKit.Exa Z h x ST) (V : RoadKit.Fld Z h x ST "value" "[B" v0) (C : RoadKit.Fld Z h x ST "coder" "B" c0) (K : RoadKit.Arv Z h b k .char zn (cs.map Value.int) dv) (S : RoadKit.Sta Z h ST "COMPACT_STRINGS" "Z" (.int z)) (hz : ¬ z = 0)
    (hlen : zn.toNatClampNeg = cs.length) (h0 : 0 < cs.length) (hbig : cs.length ≤ 536870912) (hall : ∀ c ∈ cs, ¬ 255 < c) (hfr : 4 ≤ R.frames) (hlo : W + 65 ≤ R.locals) :
    Back l R p e below s args New1.yN len W (fun P a => a = #[.ref x, .ref b] ∧ P.U.heap = h ∧ P.cells + 1 ≤ R.cells ∧ P.slots + cs.length ≤ R.slots)
      (fun P _ v B => ∃ L, QA Z x zn cs h v B.U.heap L ∧ B.locs = P.locs ++ L ∧ B.cells = P.cells + 1 ∧ B.slots = P.slots + cs.length) := by
  obtain ⟨A, K1, K2, K3, K4, K5, K6⟩ := K
  have e : A.slots.size = cs.length := K3.trans hlen
  have hat : ∀ (i : Nat) (hi : i < cs.length), A.slots[i]? = some (.int cs[i]) := fun i hi => by rw [K5 i (by omega)]; simp [List.getD_eq_getElem?_getD, hi]
  have hcv : ∀ (i : Nat) (hi : i < cs.length), cv A i = cs[i] := fun i hi => by unfold cv; rw [hat i hi]
  have hty : Typed .char A := fun i v hv => by
    have hi : i < A.slots.size := (Array.getElem?_eq_some_iff.mp hv).1
    have q := K5 i hi
    rw [hv] at q
    rw [Option.some.inj q]
    exact K6 i hi
  refine Back.mono (back hZ hw wi E V C K1 hty S hz (by omega) (by omega) (fun i hi => by rw [hcv i (by omega)]; exact hall _ (List.getElem_mem _)) hfr hlo) (fun P a hp => ⟨hp.1, hp.2.1, hp.2.2.1, by rw [e]; exact hp.2.2.2⟩) (fun P a v B hp hq => ?_)
  obtain ⟨L, ⟨q1, q2, q3, q4, q5, q6, q7, ⟨V', v1, v2, v3, v4, v5⟩, q9⟩, hl, hc, hs⟩ := hq
  refine ⟨L, ⟨q1, q2, q3, q4, q5, q6, q7, ⟨V'.cls, v3, V', v1, rfl, by rw [v4, e, hlen], K4, fun i hi => ?_, fun i hi => ?_⟩, q9⟩, hl, hc, by rw [hs, e]⟩
  · have hi' : i < cs.length := by omega
    rw [v5 i (by omega), hcv i hi']; simp [List.getD_eq_getElem?_getD, hi']
  · have hi' : i < cs.length := by omega
    simp only [List.getD_eq_getElem?_getD, List.getElem?_map, List.getElem?_eq_getElem hi', Option.map_some, Option.getD_some]
    exact fits_lo8 _
end StrChars.Road
namespace StrChars.Road
open Jvm Sem ClassFile Op Lib Jvm.Stand Jvm.Free Jvm.Free.XT
/-- WHAT COMES BACK, in the writer's own shape -/
def QV (Z : State) (x : Addr) (N : Int32) (bs : List Int32) (h : Heap) (n0 : Nat) (v : Option Value) (h' : Heap) (L : List Loc) : Prop := v = none ∧ RoadKit.Fr n0 L ∧ RoadKit.Keep h h' [x] ∧ RoadKit.Exa Z h' x ST ∧ RoadKit.Fld Z h' x ST "coder" "B" (.int 0) ∧
  ∃ (t : Addr) (kb : ClassId), n0 ≤ t ∧ h.size ≤ t ∧ ¬ t = x ∧ RoadKit.Fld Z h' x ST "value" "[B" (.ref t) ∧ RoadKit.Arv Z h' t kb .byte N (bs.map Value.int) (.int 0)
/-- **new String(chars) AT A CALL, FOR THE WRITER**: a char[] of n known ints, each 0 to 255 -/
theorem backV {p : Program} {l : Launch} {e : Env} {R : Room} {s : State} {args : Array Value} {below : List Frame} {len W : Nat} {Z : State} {a0 : Array Value} {h : Heap} (hZ : Z.Warmed39 s.vm) (hw : ∀ d ∈ words, d.before a0 Z = true) {kI : Nat} (wi : (Jvm.Cond.instantiable ST kI).before a0 Z = true)
    {x b : Addr} {kC : ClassId} {cs bs : List Int32} {d v0 c0 : Value} {z N : Int32} {n n0 : Nat} (hx0 : n0 ≤ x) (hh0 : n0 ≤ h.size) (E : RoadKit.Exa Z h x ST) (V : RoadKit.Fld Z h x ST "value" "[B" v0) (C : RoadKit.Fld Z h x ST "coder" "B" c0) (K : RoadKit.Arv Z h b kC .char N (cs.map Value.int) d) (S : RoadKit.Sta Z h ST "COMPACT_STRINGS" "Z" (.int z)) (hz : ¬ z = 0)
    (hn : cs.length = n) (hN : N = Int32.ofNat n) (l0 : 0 < n) (l2 : n ≤ 4000) (hp : ∀ c ∈ cs, ¬ c < 0 ∧ ¬ (255 : Int32) < c) (hb : bs = cs.map (fun c => c.toInt8.toInt32)) (hfr : 4 ≤ R.frames) (hlo : W + 65 ≤ R.locals) :
    Back l R p e below s args (⟨"java/lang/String", "<init>", "([C)V"⟩ : MethodName) len W (fun P a => a = #[.ref x, .ref b] ∧ P.U.heap = h ∧ P.cells + 1 ≤ R.cells ∧ P.slots + n ≤ R.slots)
      (fun P _ v B => ∃ L, QV Z x N bs h n0 v B.U.heap L ∧ B.locs = P.locs ++ L ∧ B.cells = P.cells + 1 ∧ B.slots = P.slots + n) := by
  subst hn hN hb
  refine Back.mono (backArv hZ hw wi E V C K S hz (n32 (by omega)) l0 (by omega) (fun c hc => (hp c hc).2) hfr hlo) (fun P a hp => hp) (fun P a v B hp hq => ?_)
  obtain ⟨L, ⟨q1, q2, q3, q4, q5, q6, q7, ⟨kb, v1, v2⟩, q9⟩, hl, hc, hs⟩ := hq
  exact ⟨L, ⟨q1, fun y hy => by rw [q2 y hy]; exact hx0, q3, q5, q7, h.size, kb, hh0, Nat.le_refl _, Nat.ne_of_gt E.lt, q6, by rw [List.map_map]; exact v2⟩, hl, hc, hs⟩
end StrChars.Road
namespace StrChars
open Jvm Sem ClassFile Op Lib Jvm.Stand Jvm.Free.XT Jvm.Free.ALB Jvm.Free.JM Jvm.Free
open Jvm.Lib.Cold (StaticIs)
def hi8 (x : Int32) : Int32 := lo8 (x >>> ((8 : Int32) &&& 31))
/-- what StringUTF16.getChar makes of two bytes -/
def pairCh (u v : Int32) : Int32 := (((u &&& 255) <<< ((0 : Int32) &&& 31)) ||| ((v &&& 255) <<< ((8 : Int32) &&& 31))).toUInt32.toUInt16.toUInt32.toInt32
theorem shr0 (c : Int32) : c >>> ((0 : Int32) &&& 31) = c := by
  have e : ((0 : Int32) &&& 31) = 0 := by decide
  rw [e]
  apply Int32.toBitVec_inj.mp
  rw [Int32.toBitVec_shiftRight]
  have e1 : ((0 : Int32).toBitVec.smod 32) = 0#32 := by decide
  rw [e1, BitVec.sshiftRight_eq']
  exact BitVec.sshiftRight_zero
theorem lo8_and (x : Int32) : (lo8 x &&& 255).toBitVec.toNat = x.toBitVec.toNat % 256 := by
  have h : (lo8 x).toBitVec = (x.toBitVec.signExtend 8).signExtend 32 := by rw [lo8, Int8.toBitVec_toInt32, Int32.toBitVec_toInt8]
  rw [Int32.toBitVec_and, BitVec.toNat_and, h]
  have e : ((x.toBitVec.signExtend 8).signExtend 32).toNat % 256 = x.toBitVec.toNat % 256 := by
    rw [BitVec.toNat_signExtend]
    have hlt := x.toBitVec.isLt
    simp only [BitVec.toNat_setWidth, BitVec.toNat_signExtend]
    split <;> split <;> omega
  rw [← e]
  exact Nat.and_two_pow_sub_one_eq_mod _ 8
theorem pair_says {c : Int32} (h0 : ¬ c < 0) (h1 : ¬ 65535 < c) : pairCh (lo8 c) (hi8 c) = c := by
  rw [Int32.lt_iff_toInt_lt] at h0 h1
  have e0 : (0 : Int32).toInt = 0 := rfl
  have e1 : (65535 : Int32).toInt = 65535 := rfl
  have hc : c.toInt = c.toBitVec.toNat := by
    have := c.toBitVec.isLt
    have e : c.toInt = c.toBitVec.toInt := rfl
    rw [e] at h0 h1
    rw [e]
    rw [BitVec.toInt_eq_toNat_cond] at h0 h1 ⊢
    split at h0 <;> split <;> omega
  have hn : c.toBitVec.toNat < 65536 := by omega
  have a1 := lo8_and c
  have a2 : (hi8 c &&& 255).toBitVec.toNat = c.toBitVec.toNat / 256 := by
    rw [hi8, lo8_and]
    have e : ((8 : Int32) &&& 31) = 8 := by decide
    rw [e, Int32.toBitVec_shiftRight]
    have e2 : ((8 : Int32).toBitVec.smod 32) = 8#32 := by decide
    rw [e2, BitVec.sshiftRight_eq', BitVec.toNat_sshiftRight_of_msb_false (by rw [BitVec.msb_eq_false_iff_two_mul_lt]; omega)]
    show c.toBitVec.toNat >>> 8 % 256 = _
    rw [Nat.shiftRight_eq_div_pow]
    omega
  unfold pairCh
  apply Int32.toBitVec_inj.mp
  apply BitVec.eq_of_toNat_eq
  have f0 : ((0 : Int32) &&& 31) = 0 := by decide
  have f8 : ((8 : Int32) &&& 31) = 8 := by decide
  rw [f0, f8]
  have g : (((lo8 c &&& 255) <<< (0 : Int32)) ||| ((hi8 c &&& 255) <<< (8 : Int32))).toBitVec.toNat = c.toBitVec.toNat := by
    rw [Int32.toBitVec_or, Int32.toBitVec_shiftLeft, Int32.toBitVec_shiftLeft]
    have s0 : ((0 : Int32).toBitVec.smod 32) = 0#32 := by decide
    have s8 : ((8 : Int32).toBitVec.smod 32) = 8#32 := by decide
    rw [s0, s8, BitVec.toNat_or]
    simp only [BitVec.shiftLeft_eq', BitVec.toNat_shiftLeft, a1, a2]
    show (c.toBitVec.toNat % 256) <<< 0 % 2 ^ 32 ||| (c.toBitVec.toNat / 256) <<< 8 % 2 ^ 32 = _
    rw [Nat.shiftLeft_zero, Nat.mod_eq_of_lt (show c.toBitVec.toNat % 256 < 2 ^ 32 by omega), Nat.mod_eq_of_lt (show (c.toBitVec.toNat / 256) <<< 8 < 2 ^ 32 by rw [Nat.shiftLeft_eq]; omega), Nat.or_comm, ← Nat.shiftLeft_add_eq_or_of_lt (by omega), Nat.shiftLeft_eq]
    omega
  show BitVec.toNat (((((lo8 c &&& 255) <<< (0 : Int32)) ||| ((hi8 c &&& 255) <<< (8 : Int32))).toBitVec.setWidth 16).setWidth 32) = _
  rw [BitVec.toNat_setWidth, BitVec.toNat_setWidth, g]
  omega
end StrChars
namespace StrChars
open Jvm Sem ClassFile Op Lib Jvm.Stand Jvm.Free.XT Jvm.Free.ALB Jvm.Free.JM Jvm.Free
open Jvm.Lib.Cold (StaticIs)
theorem shr1 {n : Nat} (h : 2 * n < 2 ^ 31) : Int32.ofNat (2 * n) >>> ((1 : Int32) &&& 31) = Int32.ofNat n := by
  have e : ((1 : Int32) &&& 31) = 1 := by decide
  rw [e]
  apply Int32.toBitVec_inj.mp
  rw [Int32.toBitVec_shiftRight]
  have e1 : ((1 : Int32).toBitVec.smod 32) = 1#32 := by decide
  have hm : (BitVec.ofNat 32 (2 * n)).toNat = 2 * n := by rw [BitVec.toNat_ofNat, Nat.mod_eq_of_lt (by omega)]
  rw [e1, BitVec.sshiftRight_eq']
  apply BitVec.eq_of_toNat_eq
  show ((BitVec.ofNat 32 (2 * n)).sshiftRight 1).toNat = (BitVec.ofNat 32 n).toNat
  rw [BitVec.toNat_sshiftRight_of_msb_false (by rw [BitVec.msb_eq_false_iff_two_mul_lt, hm]; omega), hm, BitVec.toNat_ofNat, Nat.shiftRight_eq_div_pow]
  omega
/-- charAt's cast of a byte read back -/
def chr8 (u : Int32) : Int32 := (u &&& 255).toUInt32.toUInt16.toUInt32.toInt32
theorem chr8_lo8 {c : Int32} (h0 : ¬ c < 0) (h1 : ¬ 255 < c) : chr8 (lo8 c) = c := by
  have t : ∀ k : Fin 256, (Int32.ofNat k.val).toUInt32.toUInt16.toUInt32.toInt32 = Int32.ofNat k.val := by decide +kernel
  unfold chr8
  rw [lo8_mask h0 h1]
  rw [Int32.lt_iff_toInt_lt] at h0 h1
  have e0 : (0 : Int32).toInt = 0 := rfl
  have e1 : (255 : Int32).toInt = 255 := rfl
  obtain ⟨k, hk⟩ : ∃ k : Nat, c.toInt = k := ⟨c.toInt.toNat, by omega⟩
  have hx : c = Int32.ofNat k := Int32.toInt_inj.mp (by rw [hk, Int32.toInt_ofNat_small (by omega)])
  rw [hx]
  exact t ⟨k, by omega⟩
theorem narrow_ch {c : Int32} (h0 : ¬ c < 0) (h1 : ¬ 65535 < c) : narrow .char (.int c) = .int c := by
  have q : narrow .char (.int (pairCh (lo8 c) (hi8 c))) = .int (pairCh (lo8 c) (hi8 c)) := narrow_c _
  rwa [pair_says h0 h1] at q
/-- the array's cell V codes the n chars f 0 .. f (n - 1) by the coder cd, as the JDK does: coder 1 just where some char is above 255 -/
def Cod (cd : Int32) (n : Nat) (f : Nat → Int32) (V : Cell) : Prop := (cd = 0 ∧ V.slots.size = n ∧ ∀ j, j < n → V.slots[j]? = some (.int (lo8 (f j))) ∧ ¬ 255 < f j) ∨ (cd = 1 ∧ V.slots.size = 2 * n ∧ (∀ j, j < n → V.slots[2 * j]? = some (.int (lo8 (f j))) ∧ V.slots[2 * j + 1]? = some (.int (hi8 (f j)))) ∧ ∃ j, j < n ∧ 255 < f j)
theorem Cod.cd {cd : Int32} {n : Nat} {f : Nat → Int32} {V : Cell} (h : Cod cd n f V) : cd = 0 ∨ cd = 1 := h.imp (fun q => q.1) fun q => q.1
theorem Cod.len {cd : Int32} {n : Nat} {f : Nat → Int32} {V : Cell} (h : Cod cd n f V) (hs : V.slots.size < 2 ^ 31) : Int32.ofNat V.slots.size >>> (cd &&& 31) = Int32.ofNat n := by
  rcases h with ⟨rfl, h, -⟩ | ⟨rfl, h, -⟩
  · rw [shr0, h]
  · rw [h, shr1 (by omega)]
/-- **x is a String of the n chars f 0 .. f (n - 1)**, Latin-1 or UTF-16; its array at t has the cell V -/
def Txt (x t : Addr) (V : Cell) (cd : Int32) (n : Nat) (f : Nat → Int32) (U : State) : Prop := Exact "java/lang/String" x U ∧ Has x "java/lang/String" "value" "[B" (.ref t) U ∧ Has x "java/lang/String" "coder" "B" (.int cd) U ∧ XT.Arr .byte t V U ∧ Cod cd n f V ∧ ∀ j, j < n → ¬ f j < 0 ∧ ¬ 65535 < f j
theorem Txt.mv {x t : Addr} {V : Cell} {cd : Int32} {n : Nat} {f : Nat → Int32} {U U' : State} (h : Txt x t V cd n f U) (hal : U.vm.Alike U'.vm) (hh : U'.heap = U.heap) : Txt x t V cd n f U' := ⟨h.1.mv hal hh, h.2.1.mv hal hh, h.2.2.1.mv hal hh, h.2.2.2.1.mv hal hh, h.2.2.2.2⟩
namespace Cdr
def yN : MethodName := ⟨"java/lang/String", "coder", "()B"⟩
abbrev yB : ByteArray := jdk_42_method_152_code
theorem d0 : decode yB 0 = .ok (.getstatic 38, 3) := by decide +kernel
theorem d3 : decode yB 3 = .ok (.ifCond (.eq) 10, 3) := by decide +kernel
theorem d6 : decode yB 6 = .ok (.aload_n 0, 1) := by decide +kernel
theorem d7 : decode yB 7 = .ok (.getfield 15, 3) := by decide +kernel
theorem d10 : decode yB 10 = .ok (.goto 4, 3) := by decide +kernel
theorem d14 : decode yB 14 = .ok (.ireturn, 1) := by decide +kernel
def site : List Cond := [.fieldLink "java/lang/String" 38 "java/lang/String" "COMPACT_STRINGS" "Z", .fieldLink "java/lang/String" 15 "java/lang/String" "coder" "B"]
def tab : Cond := tabOf yN yB 1 (some .byte) site
def P (x : Addr) (cd z : Int32) (args : Array Value) (s : State) : Prop := args = #[.ref x] ∧ Has x "java/lang/String" "coder" "B" (.int cd) s ∧ (cd = 0 ∨ cd = 1) ∧ StaticIs s "java/lang/String" "COMPACT_STRINGS" "Z" (.int z) ∧ ¬ z = 0
def E (cd : Int32) (r : Option Value) (s u : State) : Prop := XT.PureE (some (.int cd)) r s u
theorem law (l : Launch) (x : Addr) (cd z : Int32) : Law l yN 1 0 0 0 yB 1 (some .byte) site (P x cd z) (E cd) [] 0 0 := by
  refine Law.of_walk (plainFor_of_name (by decide +kernel)) (by decide +kernel) (by decide +kernel) (by decide) (fun _ _ h => by rw [h.1]; rfl) (fun _ U U' hal hh h => ⟨h.1, h.2.1.mv hal hh, h.2.2.1, h.2.2.2.1.there hal hh, h.2.2.2.2⟩) (fun r U U' V V' h1 hal h2 h => XT.PureE.mv r U U' V V' h1 hal h2 h) ?_
  intro p e s m args below meth c s₁ X0 hexec hbytes hml hret hlk hnm hown hh0 W hP
  obtain ⟨rfl, hx, hc, s1, hz⟩ := hP
  have c1 : Steps p.tables e below (s₁.setTop (entryFrame m #[.ref x] 1)) (s₁.setTop (mkF m 0 #[.val (.ref x)] [])) := entry rfl
  obtain ⟨T2, X2, q2, st2⟩ := X0.sget hexec hown (wk W (.fieldLink "java/lang/String" 38 "java/lang/String" "COMPACT_STRINGS" "Z")) s1 (fun _ _ h => by rw [hh0]; exact h) (g := (mkF m 0 #[.val (.ref x)] [])) rfl (hb hbytes d0)
  have hh2 := q2.trans hh0
  have c3 : Steps p.tables e below (s₁.setTop (entryFrame m #[.ref x] 1)) (T2.setTop (mkF m 7 #[.val (.ref x)] [.ref x])) := (c1.trans (st2 _ (Steps.refl _))).trans (by
    refine XS.ifNo X2.here hexec rfl (hb hbytes d3) rfl (i0_eq_f hz) ?_
    refine XS.aloadN X2.here hexec rfl (hb hbytes d6) rfl rfl ?_
    exact Steps.refl _)
  obtain ⟨T4, X4, q4, st4⟩ := X2.hget hexec hown (wk W (.fieldLink "java/lang/String" 15 "java/lang/String" "coder" "B")) (hx.mv X2.warmed.alike hh2) (g := (mkF m 7 #[.val (.ref x)] [.ref x])) rfl (rest := []) rfl (hb hbytes d7)
  have c5 : Steps p.tables e below (s₁.setTop (entryFrame m #[.ref x] 1)) (T4.setTop (mkF m 14 #[.val (.ref x)] [.int cd])) := (c3.trans (st4 _ (Steps.refl _))).trans (by
    refine XS.goto X4.here hexec rfl (pc0 := 10) rfl (hb hbytes d10) (by decide) rfl ?_
    exact Steps.refl _)
  exact ⟨T4, some (.int cd), _, _, _, X4, rfl, rfl, rfl, (fun h => by cases h), ⟨rfl, q4.trans hh2⟩, fun fs hl => c5.trans (X4.ireturnOut hexec hret (by rcases hc with rfl | rfl <;> rfl) (Or.inr (Or.inr (Or.inl rfl))) (hb hbytes d14) hl)⟩
end Cdr
namespace Len
def yN : MethodName := ⟨"java/lang/String", "length", "()I"⟩
abbrev yB : ByteArray := jdk_42_method_54_code
theorem d0 : decode yB 0 = .ok (.aload_n 0, 1) := by decide +kernel
theorem d1 : decode yB 1 = .ok (.getfield 9, 3) := by decide +kernel
theorem d4 : decode yB 4 = .ok (.arraylength, 1) := by decide +kernel
theorem d5 : decode yB 5 = .ok (.aload_n 0, 1) := by decide +kernel
theorem d6 : decode yB 6 = .ok (.invokevirtual 335, 3) := by decide +kernel
theorem d9 : decode yB 9 = .ok (.ishr, 1) := by decide +kernel
theorem d10 : decode yB 10 = .ok (.ireturn, 1) := by decide +kernel
def site : List Cond := [.fieldLink "java/lang/String" 9 "java/lang/String" "value" "[B", Cdr.tab] ++ virtW "java/lang/String" 335 "java/lang/String" Cdr.yN Cdr.yN
def tab : Cond := tabOf yN yB 1 (some .int) site
def P (x t : Addr) (V : Cell) (cd : Int32) (n : Nat) (f : Nat → Int32) (z : Int32) (args : Array Value) (s : State) : Prop := args = #[.ref x] ∧ Txt x t V cd n f s ∧ StaticIs s "java/lang/String" "COMPACT_STRINGS" "Z" (.int z) ∧ ¬ z = 0
def E (n : Nat) (r : Option Value) (s u : State) : Prop := XT.PureE (some (.int (Int32.ofNat n))) r s u
/-- length() of a String of n chars, in either coding -/
theorem law (l : Launch) (x t : Addr) (V : Cell) (cd : Int32) (n : Nat) (f : Nat → Int32) (z : Int32) : Law l yN 1 0 1 13 yB 1 (some .int) site (P x t V cd n f z) (E n) [] 0 0 := by
  refine Law.of_walk (plainFor_of_name (by decide +kernel)) (by decide +kernel) (by decide +kernel) (by decide) (fun _ _ h => by rw [h.1]; rfl) (fun _ U U' hal hh h => ⟨h.1, h.2.1.mv hal hh, h.2.2.1.there hal hh, h.2.2.2⟩) (fun r U U' V V' h1 hal h2 h => XT.PureE.mv r U U' V V' h1 hal h2 h) ?_
  intro p e s m args below meth c s₁ X0 hexec hbytes hml hret hlk hnm hown hh0 W hP
  obtain ⟨rfl, hx, s1, hz⟩ := hP
  have v31 := hx.2.2.2.1.2.2.2
  have c1 : Steps p.tables e below (s₁.setTop (entryFrame m #[.ref x] 1)) (s₁.setTop (mkF m 1 #[.val (.ref x)] [.ref x])) := Steps.trans (entry rfl) (by
    show Steps p.tables e below (s₁.setTop (mkF m 0 #[.val (.ref x)] [])) _
    refine XS.aloadN X0.here hexec rfl (hb hbytes d0) rfl rfl ?_
    exact Steps.refl _)
  obtain ⟨T2, X2, q2, st2⟩ := X0.hget hexec hown (wk W (.fieldLink "java/lang/String" 9 "java/lang/String" "value" "[B")) (hx.mv X0.warmed.alike hh0).2.1 (g := (mkF m 1 #[.val (.ref x)] [.ref x])) rfl (rest := []) rfl (hb hbytes d1)
  have hh2 := q2.trans hh0
  have hx2 := hx.mv X2.warmed.alike hh2
  have c3 : Steps p.tables e below (s₁.setTop (entryFrame m #[.ref x] 1)) (T2.setTop (mkF m 6 #[.val (.ref x)] [.ref x, .int (Int32.ofNat V.slots.size)])) := (c1.trans (st2 _ (Steps.refl _))).trans (by
    refine X2.alen hexec hx2.2.2.2.1 rfl rfl (hb hbytes d4) ?_
    refine XS.aloadN X2.here hexec rfl (hb hbytes d5) rfl rfl ?_
    exact Steps.refl _)
  obtain ⟨v4, T4, X4, E4, g4⟩ := X2.callV hexec (Cdr.law l x cd z) hown (wks W (virtW "java/lang/String" 335 "java/lang/String" Cdr.yN Cdr.yN)) rfl (by decide) (wk W Cdr.tab) (W := 1) (Nat.le_of_ble_eq_true rfl) (Nat.le_of_ble_eq_true rfl) (Nat.le_refl _) (Nat.le_refl _) (hx2.1.fc X2.warmed.alike) hx2.1.is (g := (mkF m 6 #[.val (.ref x)] [.ref x, .int (Int32.ofNat V.slots.size)])) rfl (by rw [hml]; rfl) c3 (argsL := []) (rest := [.int (Int32.ofNat V.slots.size)]) rfl rfl (by show 2 * 0 + (1 + 0) ≤ _; decide) (hb hbytes d6) (⟨rfl, hx2.2.2.1, hx.2.2.2.2.1.cd, s1.there X2.warmed.alike hh2, hz⟩)
  obtain ⟨rfl, q4⟩ := E4
  have c5 : Steps p.tables e below (s₁.setTop (entryFrame m #[.ref x] 1)) (T4.setTop (mkF m 10 #[.val (.ref x)] [.int (Int32.ofNat V.slots.size >>> (cd &&& 31))])) := Steps.trans g4 (by
    refine ishr X4.here hexec rfl (hb hbytes d9) rfl ?_
    exact Steps.refl _)
  rw [hx.2.2.2.2.1.len v31] at c5
  exact ⟨T4, some (.int (Int32.ofNat n)), _, _, _, X4, rfl, rfl, rfl, (fun h => by cases h), ⟨rfl, q4.trans hh2⟩, fun fs hl => c5.trans (X4.ireturnOut hexec hret rfl (Or.inl rfl) (hb hbytes d10) hl)⟩
theorem pays {l : Launch} {R : Room} {p : Program} {e : Env} {below : List Frame} {s : State} {sargs : Array Value} {len W : Nat} (x t : Addr) (V : Cell) (cd : Int32) (n : Nat) (f : Nat → Int32) (z : Int32) (htab : tab.before sargs s = true) (hfr : 2 ≤ R.frames) (hlo : W + 25 ≤ R.locals) :
    Back l R p e below s sargs yN len W (fun A₁ a₁ => A₁.cells + 0 ≤ R.cells ∧ A₁.slots + 0 ≤ R.slots ∧ P x t V cd n f z a₁ A₁.U) (fun A₁ _ v₁ B₁ => E n v₁ A₁.U B₁.U ∧ B₁.locs = A₁.locs ++ [] ∧ B₁.cells = A₁.cells + 0 ∧ B₁.slots = A₁.slots + 0) :=
  (law l x t V cd n f z).pays htab hfr (by omega)
end Len
namespace IsL
def yN : MethodName := ⟨"java/lang/String", "isLatin1", "()Z"⟩
abbrev yB : ByteArray := jdk_42_method_154_code
theorem d0 : decode yB 0 = .ok (.getstatic 38, 3) := by decide +kernel
theorem d3 : decode yB 3 = .ok (.ifCond (.eq) 14, 3) := by decide +kernel
theorem d6 : decode yB 6 = .ok (.aload_n 0, 1) := by decide +kernel
theorem d7 : decode yB 7 = .ok (.getfield 15, 3) := by decide +kernel
theorem d10 : decode yB 10 = .ok (.ifCond (.ne) 7, 3) := by decide +kernel
theorem d13 : decode yB 13 = .ok (.iconst 1, 1) := by decide +kernel
theorem d14 : decode yB 14 = .ok (.goto 4, 3) := by decide +kernel
theorem d17 : decode yB 17 = .ok (.iconst 0, 1) := by decide +kernel
theorem d18 : decode yB 18 = .ok (.ireturn, 1) := by decide +kernel
def site : List Cond := [.fieldLink "java/lang/String" 38 "java/lang/String" "COMPACT_STRINGS" "Z", .fieldLink "java/lang/String" 15 "java/lang/String" "coder" "B"]
def tab : Cond := tabOf yN yB 1 (some .boolean) site
def P (x : Addr) (cd z : Int32) (args : Array Value) (s : State) : Prop := args = #[.ref x] ∧ Has x "java/lang/String" "coder" "B" (.int cd) s ∧ (cd = 0 ∨ cd = 1) ∧ StaticIs s "java/lang/String" "COMPACT_STRINGS" "Z" (.int z) ∧ ¬ z = 0
def E (cd : Int32) (r : Option Value) (s u : State) : Prop := XT.PureE (some (.int (1 - cd))) r s u
theorem law (l : Launch) (x : Addr) (cd z : Int32) : Law l yN 1 0 0 0 yB 1 (some .boolean) site (P x cd z) (E cd) [] 0 0 := by
  refine Law.of_walk (plainFor_of_name (by decide +kernel)) (by decide +kernel) (by decide +kernel) (by decide) (fun _ _ h => by rw [h.1]; rfl) (fun _ U U' hal hh h => ⟨h.1, h.2.1.mv hal hh, h.2.2.1, h.2.2.2.1.there hal hh, h.2.2.2.2⟩) (fun r U U' V V' h1 hal h2 h => XT.PureE.mv r U U' V V' h1 hal h2 h) ?_
  intro p e s m args below meth c s₁ X0 hexec hbytes hml hret hlk hnm hown hh0 W hP
  obtain ⟨rfl, hx, hc, s1, hz⟩ := hP
  have c1 : Steps p.tables e below (s₁.setTop (entryFrame m #[.ref x] 1)) (s₁.setTop (mkF m 0 #[.val (.ref x)] [])) := entry rfl
  obtain ⟨T2, X2, q2, st2⟩ := X0.sget hexec hown (wk W (.fieldLink "java/lang/String" 38 "java/lang/String" "COMPACT_STRINGS" "Z")) s1 (fun _ _ h => by rw [hh0]; exact h) (g := (mkF m 0 #[.val (.ref x)] [])) rfl (hb hbytes d0)
  have hh2 := q2.trans hh0
  have c3 : Steps p.tables e below (s₁.setTop (entryFrame m #[.ref x] 1)) (T2.setTop (mkF m 7 #[.val (.ref x)] [.ref x])) := (c1.trans (st2 _ (Steps.refl _))).trans (by
    refine XS.ifNo X2.here hexec rfl (hb hbytes d3) rfl (i0_eq_f hz) ?_
    refine XS.aloadN X2.here hexec rfl (hb hbytes d6) rfl rfl ?_
    exact Steps.refl _)
  obtain ⟨T4, X4, q4, st4⟩ := X2.hget hexec hown (wk W (.fieldLink "java/lang/String" 15 "java/lang/String" "coder" "B")) (hx.mv X2.warmed.alike hh2) (g := (mkF m 7 #[.val (.ref x)] [.ref x])) rfl (rest := []) rfl (hb hbytes d7)
  have c5 : Steps p.tables e below (s₁.setTop (entryFrame m #[.ref x] 1)) (T4.setTop (mkF m 10 #[.val (.ref x)] [.int cd])) := c3.trans (st4 _ (Steps.refl _))
  have c6 : Steps p.tables e below (s₁.setTop (entryFrame m #[.ref x] 1)) (T4.setTop (mkF m 18 #[.val (.ref x)] [.int (1 - cd)])) := by
    rcases hc with rfl | rfl
    · exact c5.trans (by
        refine XS.ifNo X4.here hexec rfl (hb hbytes d10) rfl (i0_ne_f rfl) ?_
        refine iconstV X4.here hexec rfl 1 (hb hbytes d13) (by decide) ?_
        refine XS.goto X4.here hexec rfl (pc0 := 14) rfl (hb hbytes d14) (by decide) rfl ?_
        exact Steps.refl _)
    · exact c5.trans (by
        refine XS.ifYes X4.here hexec rfl (pc0 := 10) rfl (hb hbytes d10) rfl (i0_ne_t (by decide)) (by decide) rfl ?_
        refine iconstV X4.here hexec rfl 0 (hb hbytes d17) (by decide) ?_
        exact Steps.refl _)
  exact ⟨T4, some (.int (1 - cd)), _, _, _, X4, rfl, rfl, rfl, (fun h => by cases h), ⟨rfl, q4.trans hh2⟩, fun fs hl => c6.trans (X4.ireturnOut hexec hret (by rcases hc with rfl | rfl <;> rfl) (Or.inr (Or.inl rfl)) (hb hbytes d18) hl)⟩
end IsL
namespace LChA
def yN : MethodName := ⟨"java/lang/StringLatin1", "charAt", "([BI)C"⟩
abbrev yB : ByteArray := jdk_43_method_2_code
theorem d0 : decode yB 0 = .ok (.iload_n 1, 1) := by decide +kernel
theorem d1 : decode yB 1 = .ok (.aload_n 0, 1) := by decide +kernel
theorem d2 : decode yB 2 = .ok (.arraylength, 1) := by decide +kernel
theorem d3 : decode yB 3 = .ok (.invokestatic 9, 3) := by decide +kernel
theorem d6 : decode yB 6 = .ok (.aload_n 0, 1) := by decide +kernel
theorem d7 : decode yB 7 = .ok (.iload_n 1, 1) := by decide +kernel
theorem d8 : decode yB 8 = .ok (.baload, 1) := by decide +kernel
theorem d9 : decode yB 9 = .ok (.sipush 255, 3) := by decide +kernel
theorem d12 : decode yB 12 = .ok (.iand, 1) := by decide +kernel
theorem d13 : decode yB 13 = .ok (.i2c, 1) := by decide +kernel
theorem d14 : decode yB 14 = .ok (.ireturn, 1) := by decide +kernel
def site : List Cond := [JO.Str_checkIndex.tab] ++ staticW "java/lang/StringLatin1" 9 JO.Str_checkIndex.yN
def tab : Cond := tabOf yN yB 2 (some .char) site
def P (t : Addr) (V : Cell) (i : Nat) (u : Int32) (fm : Value) (args : Array Value) (s : State) : Prop := args = #[.ref t, .int (Int32.ofNat i)] ∧ XT.Arr .byte t V s ∧ V.slots[i]? = some (.int u) ∧ (StaticIs s "jdk/internal/util/Preconditions" "SIOOBE_FORMATTER" "Ljava/util/function/BiFunction;" fm ∧ fm.isRef = true)
def E (u : Int32) (r : Option Value) (s w : State) : Prop := XT.PureE (some (.int (chr8 u))) r s w
theorem law (l : Launch) (t : Addr) (V : Cell) (i : Nat) (u : Int32) (fm : Value) : Law l yN 2 2 2 27 yB 2 (some .char) site (P t V i u fm) (E u) [] 0 0 := by
  refine Law.of_walk (plainFor_of_name (by decide +kernel)) (by decide +kernel) (by decide +kernel) (by decide) (fun _ _ h => by rw [h.1]; rfl) (fun _ U U' hal hh h => ⟨h.1, h.2.1.mv hal hh, h.2.2.1, h.2.2.2.1.there hal hh, h.2.2.2.2⟩) (fun r U U' V V' h1 hal h2 h => XT.PureE.mv r U U' V V' h1 hal h2 h) ?_
  intro p e s m args below meth c s₁ X0 hexec hbytes hml hret hlk hnm hown hh0 W hP
  obtain ⟨rfl, hV, hu, s1, rf⟩ := hP
  have v31 := hV.2.2.2
  have hi : i < V.slots.size := (Array.getElem?_eq_some_iff.mp hu).1
  have c1 : Steps p.tables e below (s₁.setTop (entryFrame m #[.ref t, .int (Int32.ofNat i)] 2)) (s₁.setTop (mkF m 0 #[.val (.ref t), .val (.int (Int32.ofNat i))] [])) := entry rfl
  have c2 : Steps p.tables e below (s₁.setTop (entryFrame m #[.ref t, .int (Int32.ofNat i)] 2)) (s₁.setTop (mkF m 3 #[.val (.ref t), .val (.int (Int32.ofNat i))] [.int (Int32.ofNat V.slots.size), .int (Int32.ofNat i)])) := c1.trans (by
    refine XS.iloadN X0.here hexec rfl (hb hbytes d0) rfl ?_
    refine XS.aloadN X0.here hexec rfl (hb hbytes d1) rfl rfl ?_
    refine X0.alen hexec (hV.mv X0.warmed.alike hh0) rfl rfl (hb hbytes d2) ?_
    exact Steps.refl _)
  obtain ⟨v3, T3, X3, E3, g3⟩ := X0.callS hexec (JO.Str_checkIndex.law l (Int32.ofNat i) (Int32.ofNat V.slots.size) fm) hown (wks W (staticW "java/lang/StringLatin1" 9 JO.Str_checkIndex.yN)) (wk W JO.Str_checkIndex.tab) (W := 0) (Nat.le_of_ble_eq_true rfl) (Nat.le_of_ble_eq_true rfl) (Nat.le_refl _) (Nat.le_refl _) (g := (mkF m 3 #[.val (.ref t), .val (.int (Int32.ofNat i))] [.int (Int32.ofNat V.slots.size), .int (Int32.ofNat i)])) rfl (by rw [hml]; rfl) c2 (argsL := [.int (Int32.ofNat i), .int (Int32.ofNat V.slots.size)]) (rest := []) rfl rfl (by show 2 * 0 + 0 ≤ _; decide) (hb hbytes d3) (⟨rfl, rf, s1.there X0.warmed.alike hh0, Int32.ofNat_not_neg (by omega), lt32 v31 hi⟩)
  obtain ⟨rfl, q3⟩ := E3
  have hh3 := q3.trans hh0
  have c4 : Steps p.tables e below (s₁.setTop (entryFrame m #[.ref t, .int (Int32.ofNat i)] 2)) (T3.setTop (mkF m 14 #[.val (.ref t), .val (.int (Int32.ofNat i))] [.int (chr8 u)])) := Steps.trans g3 (by
    refine XS.aloadN X3.here hexec rfl (hb hbytes d6) rfl rfl ?_
    refine XS.iloadN X3.here hexec rfl (hb hbytes d7) rfl ?_
    refine X3.aget hexec (hV.mv X3.warmed.alike hh3) rfl hu rfl rfl (hb hbytes d8) ?_
    refine sipushV X3.here hexec rfl 255 (hb hbytes d9) (by decide) ?_
    refine XS.iand X3.here hexec rfl (hb hbytes d12) rfl ?_
    refine i2c X3.here hexec rfl (hb hbytes d13) rfl ?_
    exact Steps.refl _)
  exact ⟨T3, some (.int (chr8 u)), _, _, _, X3, rfl, rfl, rfl, (fun h => by cases h), ⟨rfl, hh3⟩, fun fs hl => c4.trans (X3.ireturnOut hexec hret (narrow_c _) (Or.inr (Or.inr (Or.inr (Or.inl rfl)))) (hb hbytes d14) hl)⟩
end LChA
end StrChars
namespace StrChars.Road
open Jvm Sem ClassFile Op Lib Jvm.Stand Jvm.Free Jvm.Free.XT
open Jvm.Lib.Cold (StaticIs)
theorem consq {a : Array Value} {s : State} {c : Jvm.Cond} {L : List Jvm.Cond} (h0 : c.before a s = true) (h : ∀ w ∈ L, w.before a s = true) : ∀ w ∈ c :: L, w.before a s = true := fun w hw => (List.mem_cons.mp hw).elim (fun e => e ▸ h0) (h w)
/-- the words of String.length(), either coding -/
abbrev wordsLen : List Jvm.Cond := [.code Len.yN Len.yB 1 (some .int), .initialized ST, .fieldLink ST 9 ST "value" "[B", .fieldLink ST 38 ST "COMPACT_STRINGS" "Z", .fieldLink ST 15 ST "coder" "B", .code Cdr.yN Cdr.yB 1 (some .byte), .methodLink ST 335 Cdr.yN, .declares Cdr.yN, .selects ST Cdr.yN Cdr.yN, .instanceMethod Cdr.yN]
theorem tabLen_of {a : Array Value} {s : State} (h : ∀ w ∈ wordsLen, w.before a s = true) : Len.tab.before a s = true := by
  have hc : Cdr.tab.before a s = true := unparts (wk h (.code Cdr.yN Cdr.yB 1 (some .byte))) (wks h (.initialized Cdr.yN.cls :: Cdr.site))
  have q := consq hc h
  exact unparts (wk q (.code Len.yN Len.yB 1 (some .int))) (wks q (.initialized Len.yN.cls :: Len.site))
theorem movedLen {Z s : State} {a0 args : Array Value} (hZ : Z.Warmed39 s.vm) (hw : ∀ d ∈ wordsLen, d.before a0 Z = true) : ∀ d ∈ wordsLen, d.before args s = true := fun d hd => by
  have q := hw d hd
  have t : ∀ d ∈ wordsLen, d = .arrayClass .byte ∨ (d.onTables && d.keepsFace) = true := by decide +kernel
  rcases t d hd with rfl | t
  · exact RoadKit.mvA hZ q
  · exact RoadKit.mv hZ q t
/-- the bytes of the chars cs, low before high -/
def wideBytes : List Int32 → List Value
  | [] => []
  | c :: cs => .int (lo8 c) :: .int (hi8 c) :: wideBytes cs
theorem wide_lo (d : Value) : ∀ (cs : List Int32) (j : Nat), j < cs.length → (wideBytes cs).getD (2 * j) d = .int (lo8 (cs.getD j 0))
  | [], j, h => absurd h (Nat.not_lt_zero j)
  | c :: cs, 0, _ => rfl
  | c :: cs, j + 1, h => by
    have q := wide_lo d cs j (by simpa using h)
    rw [show 2 * (j + 1) = 2 * j + 1 + 1 from by omega]
    simpa [wideBytes] using q
theorem wide_hi (d : Value) : ∀ (cs : List Int32) (j : Nat), j < cs.length → (wideBytes cs).getD (2 * j + 1) d = .int (hi8 (cs.getD j 0))
  | [], j, h => absurd h (Nat.not_lt_zero j)
  | c :: cs, 0, _ => rfl
  | c :: cs, j + 1, h => by
    have q := wide_hi d cs j (by simpa using h)
    rw [show 2 * (j + 1) + 1 = 2 * j + 1 + 1 + 1 from by omega]
    simpa [wideBytes] using q
theorem low_at (d : Value) (cs : List Int32) (j : Nat) (h : j < cs.length) : (cs.map fun c => Value.int (lo8 c)).getD j d = .int (lo8 (cs.getD j 0)) := by
  simp [List.getD_eq_getElem?_getD, h]
/-- an array of N2 bytes vs codes the chars cs by the coder cd -/
def CodA (cs : List Int32) (cd N2 : Int32) (vs : List Value) : Prop := (cd = 0 ∧ N2 = Int32.ofNat cs.length ∧ vs = (cs.map fun c => Value.int (lo8 c)) ∧ ∀ c ∈ cs, ¬ 255 < c) ∨ (cd = 1 ∧ N2 = Int32.ofNat (2 * cs.length) ∧ vs = wideBytes cs ∧ ∃ c ∈ cs, 255 < c)
theorem CodA.cod {cs : List Int32} {cd N2 : Int32} {vs : List Value} {V : Cell} (h : CodA cs cd N2 vs) (hn : 2 * cs.length < 2 ^ 31) (hs : V.slots.size = N2.toNatClampNeg) (hv : RoadKit.Has V vs (.int 0)) : Cod cd cs.length (fun j => cs.getD j 0) V := by
  rcases h with ⟨rfl, rfl, rfl, h⟩ | ⟨rfl, rfl, rfl, c, hc, hw⟩
  · rw [n32 (by omega)] at hs
    exact Or.inl ⟨rfl, hs, fun j hj => ⟨by rw [hv j (by omega), low_at _ _ _ hj], by
      have e : cs.getD j 0 = cs[j] := by simp [List.getD_eq_getElem?_getD, hj]
      show ¬ 255 < cs.getD j 0
      rw [e]; exact h _ (List.getElem_mem _)⟩⟩
  · rw [n32 (by omega)] at hs
    obtain ⟨j, hj, rfl⟩ := List.getElem_of_mem hc
    exact Or.inr ⟨rfl, hs, fun j hj => ⟨by rw [hv _ (by omega), wide_lo _ _ _ hj], by rw [hv _ (by omega), wide_hi _ _ _ hj]⟩, j, hj, by
      have e : cs.getD j 0 = cs[j] := by simp [List.getD_eq_getElem?_getD, hj]
      show 255 < cs.getD j 0
      rw [e]; exact hw⟩
/-- an object of exactly java/lang/String, its two fields found: as the laws ask it -/
theorem strObj {Z U : State} {a0 : Array Value} {kI : Nat} (wi : (Jvm.Cond.instantiable ST kI).before a0 Z = true) (al : Z.vm.Alike U.vm) {x : Addr} {v0 c0 : Value} (E : RoadKit.Exa Z U.heap x ST) (V : RoadKit.Fld Z U.heap x ST "value" "[B" v0) (C : RoadKit.Fld Z U.heap x ST "coder" "B" c0) :
    ∃ (D : Cell) (fV fC : Field), Blank ST x D U ∧ Found ST "value" "[B" fV U ∧ Found ST "coder" "B" fC U ∧ D.slots[fV.slot]? = some v0 ∧ D.slots[fC.slot]? = some c0 ∧ RoadKit.slotOf Z ST "value" "[B" = fV.slot ∧ RoadKit.slotOf Z ST "coder" "B" = fC.slot := by
  obtain ⟨D, cfV, kV, iV, fV, hD, gV, stV, knV, obV, asV, slV⟩ := V
  obtain ⟨D', cfC, kC, iC, fC, hD', gC, stC, -, -, asC, slC⟩ := C
  cases hD.symm.trans hD'
  obtain ⟨D2, kD, e1, e2, e3, e4, e5⟩ := E
  cases hD.symm.trans e1
  obtain ⟨c2, k2, i1, i2, i3, -⟩ := Cond.instantiable_spec wi
  cases e2.symm.trans i1
  cases e3.symm.trans i2
  obtain ⟨kU, u1, u2⟩ := al.2.2 _ _ e3
  exact ⟨D, fV, fC, ⟨hD, ⟨knV, fun q hq => by rw [hq] at obV; cases obV⟩, by rw [al.findClass]; exact e2, kU, u1, by rw [u2]; exact i3, by rw [u2]; exact e5 i3⟩, ⟨SBG.found_only al ⟨cfV, kV, iV, gV⟩, stV⟩, ⟨SBG.found_only al ⟨cfC, kC, iC, gC⟩, stC⟩, slV, slC, by simp [RoadKit.slotOf, gV], by simp [RoadKit.slotOf, gC]⟩
theorem sta_is {Z U : State} (al : Z.vm.Alike U.vm) {C n d : String} {v : Value} (S : RoadKit.Sta Z U.heap C n d v) : StaticIs U C n d v := by
  obtain ⟨cfS, iS, kS, fS, st, cS, t1, t2, t3, t4, t5, t6, t7⟩ := S
  exact StaticIs.there (s := { Z with heap := U.heap }) ⟨cfS, iS, kS, fS, st, cS, t1, t2, t3, t4, t5, (fun q => by rw [q] at t6; cases t6), t7⟩ al rfl
/-- **length() OF SUCH A STRING** -/
theorem lenW {p : Program} {l : Launch} {e : Env} {R : Room} {s : State} {args : Array Value} {below : List Frame} {len W : Nat} {Z : State} {a0 : Array Value} {h : Heap} (hZ : Z.Warmed39 s.vm) (hw : ∀ d ∈ wordsLen, d.before a0 Z = true) {kI : Nat} (wi : (Jvm.Cond.instantiable ST kI).before a0 Z = true)
    {x t : Addr} {kb : ClassId} {cs : List Int32} {cd N2 z : Int32} {vs : List Value} (E : RoadKit.Exa Z h x ST) (V : RoadKit.Fld Z h x ST "value" "[B" (.ref t)) (C : RoadKit.Fld Z h x ST "coder" "B" (.int cd)) (K : RoadKit.Arv Z h t kb .byte N2 vs (.int 0)) (hc : CodA cs cd N2 vs) (hb : ∀ c ∈ cs, ¬ c < 0 ∧ ¬ (65535 : Int32) < c)
    (S : RoadKit.Sta Z h ST "COMPACT_STRINGS" "Z" (.int z)) (hz : ¬ z = 0) (l2 : cs.length ≤ 4000) (hfr : 2 ≤ R.frames) (hlo : W + 25 ≤ R.locals) :
    Back l R p e below s args (⟨"java/lang/String", "length", "()I"⟩ : MethodName) len W (fun P a => a = #[.ref x] ∧ P.U.heap = h ∧ P.cells + 0 ≤ R.cells ∧ P.slots + 0 ≤ R.slots)
      (fun P _ v B => ∃ L, (v = some (.int (Int32.ofNat cs.length)) ∧ L = [] ∧ B.U.heap = h) ∧ B.locs = P.locs ++ L ∧ B.cells = P.cells + 0 ∧ B.slots = P.slots + 0) := by
  obtain ⟨A, K1, K2, K3, K4, K5, K6⟩ := K
  have hcod := hc.cod (by omega) K3 K5
  intro m meth c P g ig mk a X hg hsize hdg hW hn hp'
  obtain ⟨rfl, rfl, r1, r2⟩ := hp'
  have al : Z.vm.Alike P.U.vm := hZ.alike.trans X.warmed.alike
  obtain ⟨D, fV, fC, hB, F1, F2, g1, g2, -, -⟩ := strObj wi al E V C
  have hx : Txt x t A cd cs.length (fun j => cs.getD j 0) P.U := ⟨⟨_, hB.2.2.1, D, hB.1, rfl, by cases q : D.vm <;> first | rfl | exact absurd q (hB.2.1.2 _)⟩, Has.of hB F1 g1, Has.of hB F2 g2, ⟨K1.1, State.isArrayOf_alike al K1.2.1, K1.2.2, by rcases hcod with ⟨-, q, -⟩ | ⟨-, q, -⟩ <;> omega⟩, hcod, fun j hj => by
    have e : cs.getD j 0 = cs[j] := by simp [List.getD_eq_getElem?_getD, hj]
    show ¬ cs.getD j 0 < 0 ∧ ¬ 65535 < cs.getD j 0
    rw [e]; exact hb _ (List.getElem_mem _)⟩
  obtain ⟨v, B, X', ⟨⟨hv, hh⟩, hl, hk, hs⟩, st⟩ := Len.pays x t A cd cs.length (fun j => cs.getD j 0) z (tabLen_of (movedLen hZ hw)) hfr hlo m meth c P g ig mk _ X hg hsize hdg hW hn ⟨r1, r2, rfl, hx, sta_is al S, hz⟩
  exact ⟨v, B, X', ⟨[], ⟨hv, rfl, hh⟩, hl, hk, hs⟩, st⟩
end StrChars.Road
namespace StrChars.Road
open Jvm Sem ClassFile Op Lib Jvm.Stand Jvm.Free Jvm.Free.XT
open Jvm.Lib.Cold (StaticIs)
/-- the road's facts of a String, as the laws ask it -/
theorem txt_of {Z U : State} {a0 : Array Value} {kI : Nat} (wi : (Jvm.Cond.instantiable ST kI).before a0 Z = true) (al : Z.vm.Alike U.vm) {x t : Addr} {kb : ClassId} {cs : List Int32} {cd N2 : Int32} {vs : List Value} (E : RoadKit.Exa Z U.heap x ST) (V : RoadKit.Fld Z U.heap x ST "value" "[B" (.ref t)) (C : RoadKit.Fld Z U.heap x ST "coder" "B" (.int cd)) (K : RoadKit.Arv Z U.heap t kb .byte N2 vs (.int 0)) (hc : CodA cs cd N2 vs) (hb : ∀ c ∈ cs, ¬ c < 0 ∧ ¬ (65535 : Int32) < c) (l2 : cs.length ≤ 4000) :
    ∃ A, Txt x t A cd cs.length (fun j => cs.getD j 0) U := by
  obtain ⟨A, K1, K2, K3, K4, K5, K6⟩ := K
  have hcod := hc.cod (by omega) K3 K5
  obtain ⟨D, fV, fC, hB, F1, F2, g1, g2, -, -⟩ := strObj wi al E V C
  exact ⟨A, ⟨_, hB.2.2.1, D, hB.1, rfl, by cases q : D.vm <;> first | rfl | exact absurd q (hB.2.1.2 _)⟩, Has.of hB F1 g1, Has.of hB F2 g2, ⟨K1.1, State.isArrayOf_alike al K1.2.1, K1.2.2, by rcases hcod with ⟨-, q, -⟩ | ⟨-, q, -⟩ <;> omega⟩, hcod, fun j hj => by
    have e : cs.getD j 0 = cs[j] := by simp [List.getD_eq_getElem?_getD, hj]
    show ¬ cs.getD j 0 < 0 ∧ ¬ 65535 < cs.getD j 0
    rw [e]; exact hb _ (List.getElem_mem _)⟩
end StrChars.Road
namespace StrChars
open Jvm Sem ClassFile Op Lib Jvm.Stand Jvm.Free.XT Jvm.Free.ALB Jvm.Free.JM Jvm.Free
open Jvm.Lib.Cold (StaticIs)
namespace ChN
def yN : MethodName := ⟨"java/lang/String", "charAt", "(I)C"⟩
abbrev yB : ByteArray := jdk_42_method_56_code
theorem d0 : decode yB 0 = .ok (.aload_n 0, 1) := by decide +kernel
theorem d1 : decode yB 1 = .ok (.invokevirtual 492, 3) := by decide +kernel
theorem d4 : decode yB 4 = .ok (.ifCond (.eq) 12, 3) := by decide +kernel
theorem d7 : decode yB 7 = .ok (.aload_n 0, 1) := by decide +kernel
theorem d8 : decode yB 8 = .ok (.getfield 9, 3) := by decide +kernel
theorem d11 : decode yB 11 = .ok (.iload_n 1, 1) := by decide +kernel
theorem d12 : decode yB 12 = .ok (.invokestatic 495, 3) := by decide +kernel
theorem d15 : decode yB 15 = .ok (.ireturn, 1) := by decide +kernel
def site : List Cond := [.fieldLink "java/lang/String" 9 "java/lang/String" "value" "[B", IsL.tab, LChA.tab] ++ virtW "java/lang/String" 492 "java/lang/String" IsL.yN IsL.yN ++ staticW "java/lang/String" 495 LChA.yN
def tab : Cond := tabOf yN yB 2 (some .char) site
def P (x t : Addr) (V : Cell) (n : Nat) (f : Nat → Int32) (z : Int32) (fm : Value) (i : Nat) (args : Array Value) (s : State) : Prop := args = #[.ref x, .int (Int32.ofNat i)] ∧ Txt x t V 0 n f s ∧ i < n ∧ StaticIs s "java/lang/String" "COMPACT_STRINGS" "Z" (.int z) ∧ ¬ z = 0 ∧ StaticIs s "jdk/internal/util/Preconditions" "SIOOBE_FORMATTER" "Ljava/util/function/BiFunction;" fm ∧ fm.isRef = true
def E (f : Nat → Int32) (i : Nat) (r : Option Value) (s u : State) : Prop := XT.PureE (some (.int (f i))) r s u
/-- charAt(i) of a Latin-1 String of n chars, i < n: f i -/
theorem law (l : Launch) (x t : Addr) (V : Cell) (n : Nat) (f : Nat → Int32) (z : Int32) (fm : Value) (i : Nat) : Law l yN 2 1 3 40 yB 2 (some .char) site (P x t V n f z fm i) (E f i) [] 0 0 := by
  refine Law.of_walk (plainFor_of_name (by decide +kernel)) (by decide +kernel) (by decide +kernel) (by decide) (fun _ _ h => by rw [h.1]; rfl) (fun _ U U' hal hh h => ⟨h.1, h.2.1.mv hal hh, h.2.2.1, h.2.2.2.1.there hal hh, h.2.2.2.2.1, h.2.2.2.2.2.1.there hal hh, h.2.2.2.2.2.2⟩) (fun r U U' V V' h1 hal h2 h => XT.PureE.mv r U U' V V' h1 hal h2 h) ?_
  intro p e s m args below meth c s₁ X0 hexec hbytes hml hret hlk hnm hown hh0 W hP
  obtain ⟨rfl, hx, hi, s1, hz, s3, rf⟩ := hP
  have v31 := hx.2.2.2.1.2.2.2
  have hr := hx.2.2.2.2.2 i hi
  have hx0 := hx.mv X0.warmed.alike hh0
  have c1 : Steps p.tables e below (s₁.setTop (entryFrame m #[.ref x, .int (Int32.ofNat i)] 2)) (s₁.setTop (mkF m 1 #[.val (.ref x), .val (.int (Int32.ofNat i))] [.ref x])) := Steps.trans (entry rfl) (by
    show Steps p.tables e below (s₁.setTop (mkF m 0 #[.val (.ref x), .val (.int (Int32.ofNat i))] [])) _
    refine XS.aloadN X0.here hexec rfl (hb hbytes d0) rfl rfl ?_
    exact Steps.refl _)
  obtain ⟨v2, T2, X2, E2, g2⟩ := X0.callV hexec (IsL.law l x 0 z) hown (wks W (virtW "java/lang/String" 492 "java/lang/String" IsL.yN IsL.yN)) rfl (by decide) (wk W IsL.tab) (W := 0) (Nat.le_of_ble_eq_true rfl) (Nat.le_of_ble_eq_true rfl) (Nat.le_refl _) (Nat.le_refl _) (hx0.1.fc X0.warmed.alike) hx0.1.is (g := (mkF m 1 #[.val (.ref x), .val (.int (Int32.ofNat i))] [.ref x])) rfl (by rw [hml]; rfl) c1 (argsL := []) (rest := []) rfl rfl (by show 2 * 0 + 0 ≤ _; decide) (hb hbytes d1) (⟨rfl, hx0.2.2.1, hx.2.2.2.2.1.cd, s1.there X0.warmed.alike hh0, hz⟩)
  obtain ⟨rfl, q2⟩ := E2
  have hh2 := q2.trans hh0
  have hx2 := hx.mv X2.warmed.alike hh2
  obtain ⟨-, k1, k2⟩ | ⟨k0, -⟩ := hx.2.2.2.2.1
  · have c3 : Steps p.tables e below (s₁.setTop (entryFrame m #[.ref x, .int (Int32.ofNat i)] 2)) (T2.setTop (mkF m 8 #[.val (.ref x), .val (.int (Int32.ofNat i))] [.ref x])) := Steps.trans g2 (by
      refine XS.ifNo X2.here hexec rfl (hb hbytes d4) rfl (i0_eq_f (by decide)) ?_
      refine XS.aloadN X2.here hexec rfl (hb hbytes d7) rfl rfl ?_
      exact Steps.refl _)
    obtain ⟨T4, X4, q4, st4⟩ := X2.hget hexec hown (wk W (.fieldLink "java/lang/String" 9 "java/lang/String" "value" "[B")) hx2.2.1 (g := (mkF m 8 #[.val (.ref x), .val (.int (Int32.ofNat i))] [.ref x])) rfl (rest := []) rfl (hb hbytes d8)
    have hh4 := q4.trans hh2
    have c5 : Steps p.tables e below (s₁.setTop (entryFrame m #[.ref x, .int (Int32.ofNat i)] 2)) (T4.setTop (mkF m 12 #[.val (.ref x), .val (.int (Int32.ofNat i))] [.int (Int32.ofNat i), .ref t])) := (c3.trans (st4 _ (Steps.refl _))).trans (by
      refine XS.iloadN X4.here hexec rfl (hb hbytes d11) rfl ?_
      exact Steps.refl _)
    obtain ⟨v6, T6, X6, E6, g6⟩ := X4.callS hexec (LChA.law l t V i (lo8 (f i)) fm) hown (wks W (staticW "java/lang/String" 495 LChA.yN)) (wk W LChA.tab) (W := 0) (Nat.le_of_ble_eq_true rfl) (Nat.le_of_ble_eq_true rfl) (Nat.le_refl _) (Nat.le_refl _) (g := (mkF m 12 #[.val (.ref x), .val (.int (Int32.ofNat i))] [.int (Int32.ofNat i), .ref t])) rfl (by rw [hml]; rfl) c5 (argsL := [.ref t, .int (Int32.ofNat i)]) (rest := []) rfl rfl (by show 2 * 0 + 0 ≤ _; decide) (hb hbytes d12) (⟨rfl, hx.2.2.2.1.mv X4.warmed.alike hh4, (k2 i hi).1, s3.there X4.warmed.alike hh4, rf⟩)
    obtain ⟨rfl, q6⟩ := E6
    rw [chr8_lo8 hr.1 (k2 i hi).2] at g6
    exact ⟨T6, some (.int (f i)), _, _, _, X6, rfl, rfl, rfl, (fun h => by cases h), ⟨rfl, q6.trans hh4⟩, fun fs hl => Steps.trans g6 (X6.ireturnOut hexec hret (narrow_ch hr.1 hr.2) (Or.inr (Or.inr (Or.inr (Or.inl rfl)))) (hb hbytes d15) hl)⟩
  · exact absurd k0 (by decide)
theorem pays {l : Launch} {R : Room} {p : Program} {e : Env} {below : List Frame} {s : State} {sargs : Array Value} {len W : Nat} (x t : Addr) (V : Cell) (n : Nat) (f : Nat → Int32) (z : Int32) (fm : Value) (i : Nat) (htab : tab.before sargs s = true) (hfr : 4 ≤ R.frames) (hlo : W + 53 ≤ R.locals) :
    Back l R p e below s sargs yN len W (fun A₁ a₁ => A₁.cells + 0 ≤ R.cells ∧ A₁.slots + 0 ≤ R.slots ∧ P x t V n f z fm i a₁ A₁.U) (fun A₁ _ v₁ B₁ => E f i v₁ A₁.U B₁.U ∧ B₁.locs = A₁.locs ++ [] ∧ B₁.cells = A₁.cells + 0 ∧ B₁.slots = A₁.slots + 0) :=
  (law l x t V n f z fm i).pays htab hfr (by omega)
end ChN
end StrChars
namespace StrChars.Road
open Jvm Sem ClassFile Op Lib Jvm.Stand Jvm.Free Jvm.Free.XT
open Jvm.Lib.Cold (StaticIs)
/-- the words of String.charAt(int), the Latin-1 road alone -/
abbrev wordsChN : List Jvm.Cond := [.code ChN.yN ChN.yB 2 (some .char), .initialized ST, .fieldLink ST 9 ST "value" "[B", .fieldLink ST 38 ST "COMPACT_STRINGS" "Z", .fieldLink ST 15 ST "coder" "B", .code IsL.yN IsL.yB 1 (some .boolean), .methodLink ST 492 IsL.yN, .declares IsL.yN, .selects ST IsL.yN IsL.yN, .instanceMethod IsL.yN,
  .methodLink ST 495 LChA.yN, .static LChA.yN, .code LChA.yN LChA.yB 2 (some .char), .initialized "java/lang/StringLatin1", .methodLink "java/lang/StringLatin1" 9 JO.Str_checkIndex.yN, .static JO.Str_checkIndex.yN, .code JO.Str_checkIndex.yN JO.Str_checkIndex.yB 2 none,
  .fieldLink ST 1053 "jdk/internal/util/Preconditions" "SIOOBE_FORMATTER" "Ljava/util/function/BiFunction;", .methodLink ST 1059 JC.PreCheck.yN, .static JC.PreCheck.yN, .code JC.PreCheck.yN JC.PreCheck.yB 3 (some .int), .initialized "jdk/internal/util/Preconditions"]
theorem tabChN_of {a : Array Value} {s : State} (h : ∀ w ∈ wordsChN, w.before a s = true) : ChN.tab.before a s = true := by
  have hp : JC.PreCheck.tab.before a s = true := unparts (wk h (.code JC.PreCheck.yN JC.PreCheck.yB 3 (some .int))) (wks h (.initialized JC.PreCheck.yN.cls :: JC.PreCheck.site))
  have qk := consq hp h
  have hk : JO.Str_checkIndex.tab.before a s = true := unparts (wk qk (.code JO.Str_checkIndex.yN JO.Str_checkIndex.yB 2 none)) (wks qk (.initialized JO.Str_checkIndex.yN.cls :: JO.Str_checkIndex.site))
  have ql := consq hk h
  have hl : LChA.tab.before a s = true := unparts (wk ql (.code LChA.yN LChA.yB 2 (some .char))) (wks ql (.initialized LChA.yN.cls :: LChA.site))
  have hi : IsL.tab.before a s = true := unparts (wk h (.code IsL.yN IsL.yB 1 (some .boolean))) (wks h (.initialized IsL.yN.cls :: IsL.site))
  have q := consq hi (consq hl h)
  exact unparts (wk q (.code ChN.yN ChN.yB 2 (some .char))) (wks q (.initialized ChN.yN.cls :: ChN.site))
theorem movedChN {Z s : State} {a0 args : Array Value} (hZ : Z.Warmed39 s.vm) (hw : ∀ d ∈ wordsChN, d.before a0 Z = true) : ∀ d ∈ wordsChN, d.before args s = true := fun d hd => by
  have t : ∀ d ∈ wordsChN, (d.onTables && d.keepsFace) = true := by decide +kernel
  exact RoadKit.mv hZ (hw d hd) (t d hd)
/-- **charAt(i) OF A LATIN-1 STRING**, i < n: the char -/
theorem chN {p : Program} {l : Launch} {e : Env} {R : Room} {s : State} {args : Array Value} {below : List Frame} {len W : Nat} {Z : State} {a0 : Array Value} {h : Heap} (hZ : Z.Warmed39 s.vm) (hw : ∀ d ∈ wordsChN, d.before a0 Z = true) {kI : Nat} (wi : (Jvm.Cond.instantiable ST kI).before a0 Z = true)
    {x t : Addr} {kb : ClassId} {cs : List Int32} {N2 z : Int32} {vs : List Value} {fm : Value} {i : Nat} {j : Int32} (E : RoadKit.Exa Z h x ST) (V : RoadKit.Fld Z h x ST "value" "[B" (.ref t)) (C : RoadKit.Fld Z h x ST "coder" "B" (.int 0)) (K : RoadKit.Arv Z h t kb .byte N2 vs (.int 0)) (hc : CodA cs 0 N2 vs) (hb : ∀ c ∈ cs, ¬ c < 0 ∧ ¬ (65535 : Int32) < c)
    (S : RoadKit.Sta Z h ST "COMPACT_STRINGS" "Z" (.int z)) (hz : ¬ z = 0) (F : RoadKit.Sta Z h "jdk/internal/util/Preconditions" "SIOOBE_FORMATTER" "Ljava/util/function/BiFunction;" fm) (rf : fm.isRef = true) (l2 : cs.length ≤ 4000) (hi : i < cs.length) (hj : j = Int32.ofNat i) (hfr : 4 ≤ R.frames) (hlo : W + 53 ≤ R.locals) :
    Back l R p e below s args (⟨"java/lang/String", "charAt", "(I)C"⟩ : MethodName) len W (fun P a => a = #[.ref x, .int j] ∧ P.U.heap = h ∧ P.cells + 0 ≤ R.cells ∧ P.slots + 0 ≤ R.slots)
      (fun P _ v B => ∃ L, (v = some (.int (cs.getD i 0)) ∧ L = [] ∧ B.U.heap = h) ∧ B.locs = P.locs ++ L ∧ B.cells = P.cells + 0 ∧ B.slots = P.slots + 0) := by
  subst hj
  intro m meth c P g ig mk a X hg hsize hdg hW hn hp'
  obtain ⟨rfl, rfl, r1, r2⟩ := hp'
  have al : Z.vm.Alike P.U.vm := hZ.alike.trans X.warmed.alike
  obtain ⟨A, hx⟩ := txt_of wi al E V C K hc hb l2
  obtain ⟨v, B, X', ⟨⟨hv, hh⟩, hl, hk, hs⟩, st⟩ := ChN.pays x t A cs.length (fun j => cs.getD j 0) z fm i (tabChN_of (movedChN hZ hw)) hfr hlo m meth c P g ig mk _ X hg hsize hdg hW hn ⟨r1, r2, rfl, hx, hi, sta_is al S, hz, sta_is al F, rf⟩
  exact ⟨v, B, X', ⟨[], ⟨hv, rfl, hh⟩, hl, hk, hs⟩, st⟩
/-- what backV says of its String, as the contracts of this text ask it: cs's low bytes, coder 0 -/
theorem codOf {cs : List Int32} {n : Nat} (hn : cs.length = n) (hb : ∀ c ∈ cs, ¬ 255 < c) : CodA cs 0 (Int32.ofNat n) ((cs.map lo8).map Value.int) := Or.inl ⟨rfl, by rw [hn], by simp [List.map_map, Function.comp_def], hb⟩
end StrChars.Road
end Jvm.Pilot.@@N@@

namespace Jvm.Pilot.@@N@@
open Jvm Jvm.ClassFile Sem Op Lib Jvm.Free Jvm.Stand Jvm.LawKit Jvm.RoadKit Bundle Jvm.OwnKit Jvm.Pilot.@@N@@.Jvm.D
theorem b2_0 : Dc jdk_42_method_149_code 0 (.aload_n 0) 1 1 := ⟨by decide +kernel, rfl⟩
theorem b2_1 : Dc jdk_42_method_149_code 1 (.invokespecial 1) 3 4 := ⟨by decide +kernel, rfl⟩
theorem b2_4 : Dc jdk_42_method_149_code 4 (.iload_n 3) 1 5 := ⟨by decide +kernel, rfl⟩
theorem b2_5 : Db jdk_42_method_149_code 5 (.ifCond .ne 22) (22) 8 27 := ⟨by decide +kernel, rfl, by decide, by decide⟩
theorem b2_8 : Dc jdk_42_method_149_code 8 (.aload_n 0) 1 9 := ⟨by decide +kernel, rfl⟩
theorem b2_9 : Dc jdk_42_method_149_code 9 (.ldc 7) 2 11 := ⟨by decide +kernel, rfl⟩
theorem b2_11 : Dc jdk_42_method_149_code 11 (.getfield 9) 3 14 := ⟨by decide +kernel, rfl⟩
theorem b2_14 : Dc jdk_42_method_149_code 14 (.putfield 9) 3 17 := ⟨by decide +kernel, rfl⟩
theorem b2_17 : Dc jdk_42_method_149_code 17 (.aload_n 0) 1 18 := ⟨by decide +kernel, rfl⟩
theorem b2_18 : Dc jdk_42_method_149_code 18 (.ldc 7) 2 20 := ⟨by decide +kernel, rfl⟩
theorem b2_20 : Dc jdk_42_method_149_code 20 (.getfield 15) 3 23 := ⟨by decide +kernel, rfl⟩
theorem b2_23 : Dc jdk_42_method_149_code 23 (.putfield 15) 3 26 := ⟨by decide +kernel, rfl⟩
theorem b2_26 : Dc jdk_42_method_149_code 26 (.return_) 1 27 := ⟨by decide +kernel, rfl⟩
theorem b1_0 : Dc jdk_42_method_3_code 0 (.aload_n 0) 1 1 := ⟨by decide +kernel, rfl⟩
theorem b1_1 : Dc jdk_42_method_3_code 1 (.aload_n 1) 1 2 := ⟨by decide +kernel, rfl⟩
theorem b1_2 : Dc jdk_42_method_3_code 2 (.iconst 0) 1 3 := ⟨by decide +kernel, rfl⟩
theorem b1_3 : Dc jdk_42_method_3_code 3 (.aload_n 1) 1 4 := ⟨by decide +kernel, rfl⟩
theorem b1_4 : Dc jdk_42_method_3_code 4 (.arraylength) 1 5 := ⟨by decide +kernel, rfl⟩
theorem b1_5 : Dc jdk_42_method_3_code 5 (.aconst_null) 1 6 := ⟨by decide +kernel, rfl⟩
theorem b1_6 : Dc jdk_42_method_3_code 6 (.invokespecial 27) 3 9 := ⟨by decide +kernel, rfl⟩
theorem b1_9 : Dc jdk_42_method_3_code 9 (.return_) 1 10 := ⟨by decide +kernel, rfl⟩
theorem b29_0 : Dc jdk_52_method_4_code 0 (.getstatic 44) 3 3 := ⟨by decide +kernel, rfl⟩
theorem b29_3 : Db jdk_52_method_4_code 3 (.ifCond .ne 25) (25) 6 28 := ⟨by decide +kernel, rfl, by decide, by decide⟩
theorem b29_28 : Dc jdk_52_method_4_code 28 (.iload_n 1) 1 29 := ⟨by decide +kernel, rfl⟩
theorem b29_29 : Dc jdk_52_method_4_code 29 (.iconst 1) 1 30 := ⟨by decide +kernel, rfl⟩
theorem b29_30 : Dc jdk_52_method_4_code 30 (.ishl) 1 31 := ⟨by decide +kernel, rfl⟩
theorem b29_31 : Dc jdk_52_method_4_code 31 (.istore_n 1) 1 32 := ⟨by decide +kernel, rfl⟩
theorem b29_32 : Dc jdk_52_method_4_code 32 (.aload_n 0) 1 33 := ⟨by decide +kernel, rfl⟩
theorem b29_33 : Dc jdk_52_method_4_code 33 (.iload_n 1) 1 34 := ⟨by decide +kernel, rfl⟩
theorem b29_34 : Dc jdk_52_method_4_code 34 (.iinc 1 1) 3 37 := ⟨by decide +kernel, rfl⟩
theorem b29_37 : Dc jdk_52_method_4_code 37 (.iload_n 2) 1 38 := ⟨by decide +kernel, rfl⟩
theorem b29_38 : Dc jdk_52_method_4_code 38 (.getstatic 59) 3 41 := ⟨by decide +kernel, rfl⟩
theorem b29_41 : Dc jdk_52_method_4_code 41 (.ishr) 1 42 := ⟨by decide +kernel, rfl⟩
theorem b29_42 : Dc jdk_52_method_4_code 42 (.i2b) 1 43 := ⟨by decide +kernel, rfl⟩
theorem b29_43 : Dc jdk_52_method_4_code 43 (.bastore) 1 44 := ⟨by decide +kernel, rfl⟩
theorem b29_44 : Dc jdk_52_method_4_code 44 (.aload_n 0) 1 45 := ⟨by decide +kernel, rfl⟩
theorem b29_45 : Dc jdk_52_method_4_code 45 (.iload_n 1) 1 46 := ⟨by decide +kernel, rfl⟩
theorem b29_46 : Dc jdk_52_method_4_code 46 (.iload_n 2) 1 47 := ⟨by decide +kernel, rfl⟩
theorem b29_47 : Dc jdk_52_method_4_code 47 (.getstatic 63) 3 50 := ⟨by decide +kernel, rfl⟩
theorem b29_50 : Dc jdk_52_method_4_code 50 (.ishr) 1 51 := ⟨by decide +kernel, rfl⟩
theorem b29_51 : Dc jdk_52_method_4_code 51 (.i2b) 1 52 := ⟨by decide +kernel, rfl⟩
theorem b29_52 : Dc jdk_52_method_4_code 52 (.bastore) 1 53 := ⟨by decide +kernel, rfl⟩
theorem b29_53 : Dc jdk_52_method_4_code 53 (.return_) 1 54 := ⟨by decide +kernel, rfl⟩
theorem b30_0 : Dc jdk_52_method_5_code 0 (.getstatic 44) 3 3 := ⟨by decide +kernel, rfl⟩
theorem b30_3 : Db jdk_52_method_5_code 3 (.ifCond .ne 25) (25) 6 28 := ⟨by decide +kernel, rfl, by decide, by decide⟩
theorem b30_28 : Dc jdk_52_method_5_code 28 (.iload_n 1) 1 29 := ⟨by decide +kernel, rfl⟩
theorem b30_29 : Dc jdk_52_method_5_code 29 (.iconst 1) 1 30 := ⟨by decide +kernel, rfl⟩
theorem b30_30 : Dc jdk_52_method_5_code 30 (.ishl) 1 31 := ⟨by decide +kernel, rfl⟩
theorem b30_31 : Dc jdk_52_method_5_code 31 (.istore_n 1) 1 32 := ⟨by decide +kernel, rfl⟩
theorem b30_32 : Dc jdk_52_method_5_code 32 (.aload_n 0) 1 33 := ⟨by decide +kernel, rfl⟩
theorem b30_33 : Dc jdk_52_method_5_code 33 (.iload_n 1) 1 34 := ⟨by decide +kernel, rfl⟩
theorem b30_34 : Dc jdk_52_method_5_code 34 (.iinc 1 1) 3 37 := ⟨by decide +kernel, rfl⟩
theorem b30_37 : Dc jdk_52_method_5_code 37 (.baload) 1 38 := ⟨by decide +kernel, rfl⟩
theorem b30_38 : Dc jdk_52_method_5_code 38 (.sipush 255) 3 41 := ⟨by decide +kernel, rfl⟩
theorem b30_41 : Dc jdk_52_method_5_code 41 (.iand) 1 42 := ⟨by decide +kernel, rfl⟩
theorem b30_42 : Dc jdk_52_method_5_code 42 (.getstatic 59) 3 45 := ⟨by decide +kernel, rfl⟩
theorem b30_45 : Dc jdk_52_method_5_code 45 (.ishl) 1 46 := ⟨by decide +kernel, rfl⟩
theorem b30_46 : Dc jdk_52_method_5_code 46 (.aload_n 0) 1 47 := ⟨by decide +kernel, rfl⟩
theorem b30_47 : Dc jdk_52_method_5_code 47 (.iload_n 1) 1 48 := ⟨by decide +kernel, rfl⟩
theorem b30_48 : Dc jdk_52_method_5_code 48 (.baload) 1 49 := ⟨by decide +kernel, rfl⟩
theorem b30_49 : Dc jdk_52_method_5_code 49 (.sipush 255) 3 52 := ⟨by decide +kernel, rfl⟩
theorem b30_52 : Dc jdk_52_method_5_code 52 (.iand) 1 53 := ⟨by decide +kernel, rfl⟩
theorem b30_53 : Dc jdk_52_method_5_code 53 (.getstatic 63) 3 56 := ⟨by decide +kernel, rfl⟩
theorem b30_56 : Dc jdk_52_method_5_code 56 (.ishl) 1 57 := ⟨by decide +kernel, rfl⟩
theorem b30_57 : Dc jdk_52_method_5_code 57 (.ior) 1 58 := ⟨by decide +kernel, rfl⟩
theorem b30_58 : Dc jdk_52_method_5_code 58 (.i2c) 1 59 := ⟨by decide +kernel, rfl⟩
theorem b30_59 : Dc jdk_52_method_5_code 59 (.ireturn) 1 60 := ⟨by decide +kernel, rfl⟩
theorem b28_0 : Dc jdk_52_method_3_code 0 (.iload_n 0) 1 1 := ⟨by decide +kernel, rfl⟩
theorem b28_1 : Db jdk_52_method_3_code 1 (.ifCond .ge 11) (11) 4 12 := ⟨by decide +kernel, rfl, by decide, by decide⟩
theorem b28_12 : Dc jdk_52_method_3_code 12 (.iload_n 0) 1 13 := ⟨by decide +kernel, rfl⟩
theorem b28_13 : Dc jdk_52_method_3_code 13 (.ldc 20) 2 15 := ⟨by decide +kernel, rfl⟩
theorem b28_15 : Db jdk_52_method_3_code 15 (.if_icmp .lt 40) (40) 18 55 := ⟨by decide +kernel, rfl, by decide, by decide⟩
theorem b28_55 : Dc jdk_52_method_3_code 55 (.iload_n 0) 1 56 := ⟨by decide +kernel, rfl⟩
theorem b28_56 : Dc jdk_52_method_3_code 56 (.iconst 1) 1 57 := ⟨by decide +kernel, rfl⟩
theorem b28_57 : Dc jdk_52_method_3_code 57 (.ishl) 1 58 := ⟨by decide +kernel, rfl⟩
theorem b28_58 : Dc jdk_52_method_3_code 58 (.ireturn) 1 59 := ⟨by decide +kernel, rfl⟩
theorem b27_0 : Dc jdk_52_method_2_code 0 (.iload_n 0) 1 1 := ⟨by decide +kernel, rfl⟩
theorem b27_1 : Dc jdk_52_method_2_code 1 (.invokestatic 11) 3 4 := ⟨by decide +kernel, rfl⟩
theorem b27_4 : Dc jdk_52_method_2_code 4 (.newarray .byte) 2 6 := ⟨by decide +kernel, rfl⟩
theorem b27_6 : Dc jdk_52_method_2_code 6 (.areturn) 1 7 := ⟨by decide +kernel, rfl⟩
theorem b26_0 : Dc jdk_52_method_14_code 0 (.iload_n 2) 1 1 := ⟨by decide +kernel, rfl⟩
theorem b26_1 : Dc jdk_52_method_14_code 1 (.invokestatic 107) 3 4 := ⟨by decide +kernel, rfl⟩
theorem b26_4 : Dc jdk_52_method_14_code 4 (.astore_n 3) 1 5 := ⟨by decide +kernel, rfl⟩
theorem b26_5 : Dc jdk_52_method_14_code 5 (.iconst 0) 1 6 := ⟨by decide +kernel, rfl⟩
theorem b26_6 : Dc jdk_52_method_14_code 6 (.istore 4) 2 8 := ⟨by decide +kernel, rfl⟩
theorem b26_8 : Dc jdk_52_method_14_code 8 (.iload 4) 2 10 := ⟨by decide +kernel, rfl⟩
theorem b26_10 : Dc jdk_52_method_14_code 10 (.iload_n 2) 1 11 := ⟨by decide +kernel, rfl⟩
theorem b26_11 : Db jdk_52_method_14_code 11 (.if_icmp .ge 21) (21) 14 32 := ⟨by decide +kernel, rfl, by decide, by decide⟩
theorem b26_14 : Dc jdk_52_method_14_code 14 (.aload_n 3) 1 15 := ⟨by decide +kernel, rfl⟩
theorem b26_15 : Dc jdk_52_method_14_code 15 (.iload 4) 2 17 := ⟨by decide +kernel, rfl⟩
theorem b26_17 : Dc jdk_52_method_14_code 17 (.aload_n 0) 1 18 := ⟨by decide +kernel, rfl⟩
theorem b26_18 : Dc jdk_52_method_14_code 18 (.iload_n 1) 1 19 := ⟨by decide +kernel, rfl⟩
theorem b26_19 : Dc jdk_52_method_14_code 19 (.caload) 1 20 := ⟨by decide +kernel, rfl⟩
theorem b26_20 : Dc jdk_52_method_14_code 20 (.invokestatic 111) 3 23 := ⟨by decide +kernel, rfl⟩
theorem b26_23 : Dc jdk_52_method_14_code 23 (.iinc 1 1) 3 26 := ⟨by decide +kernel, rfl⟩
theorem b26_26 : Dc jdk_52_method_14_code 26 (.iinc 4 1) 3 29 := ⟨by decide +kernel, rfl⟩
theorem b26_29 : Db jdk_52_method_14_code 29 (.goto (-21)) (-21) 32 8 := ⟨by decide +kernel, rfl, by decide, by decide⟩
theorem b26_32 : Dc jdk_52_method_14_code 32 (.aload_n 3) 1 33 := ⟨by decide +kernel, rfl⟩
theorem b26_33 : Dc jdk_52_method_14_code 33 (.areturn) 1 34 := ⟨by decide +kernel, rfl⟩
theorem b12_0 : Dc jdk_52_method_21_code 0 (.iconst 0) 1 1 := ⟨by decide +kernel, rfl⟩
theorem b12_1 : Dc jdk_52_method_21_code 1 (.istore 5) 2 3 := ⟨by decide +kernel, rfl⟩
theorem b12_3 : Dc jdk_52_method_21_code 3 (.iload 5) 2 5 := ⟨by decide +kernel, rfl⟩
theorem b12_5 : Dc jdk_52_method_21_code 5 (.iload 4) 2 7 := ⟨by decide +kernel, rfl⟩
theorem b12_7 : Db jdk_52_method_21_code 7 (.if_icmp .ge 37) (37) 10 44 := ⟨by decide +kernel, rfl, by decide, by decide⟩
theorem b12_10 : Dc jdk_52_method_21_code 10 (.aload_n 0) 1 11 := ⟨by decide +kernel, rfl⟩
theorem b12_11 : Dc jdk_52_method_21_code 11 (.iload_n 1) 1 12 := ⟨by decide +kernel, rfl⟩
theorem b12_12 : Dc jdk_52_method_21_code 12 (.caload) 1 13 := ⟨by decide +kernel, rfl⟩
theorem b12_13 : Dc jdk_52_method_21_code 13 (.istore 6) 2 15 := ⟨by decide +kernel, rfl⟩
theorem b12_15 : Dc jdk_52_method_21_code 15 (.iload 6) 2 17 := ⟨by decide +kernel, rfl⟩
theorem b12_17 : Dc jdk_52_method_21_code 17 (.sipush 255) 3 20 := ⟨by decide +kernel, rfl⟩
theorem b12_20 : Db jdk_52_method_21_code 20 (.if_icmp .le 6) (6) 23 26 := ⟨by decide +kernel, rfl, by decide, by decide⟩
theorem b12_26 : Dc jdk_52_method_21_code 26 (.aload_n 2) 1 27 := ⟨by decide +kernel, rfl⟩
theorem b12_27 : Dc jdk_52_method_21_code 27 (.iload_n 3) 1 28 := ⟨by decide +kernel, rfl⟩
theorem b12_28 : Dc jdk_52_method_21_code 28 (.iload 6) 2 30 := ⟨by decide +kernel, rfl⟩
theorem b12_30 : Dc jdk_52_method_21_code 30 (.i2b) 1 31 := ⟨by decide +kernel, rfl⟩
theorem b12_31 : Dc jdk_52_method_21_code 31 (.bastore) 1 32 := ⟨by decide +kernel, rfl⟩
theorem b12_32 : Dc jdk_52_method_21_code 32 (.iinc 1 1) 3 35 := ⟨by decide +kernel, rfl⟩
theorem b12_35 : Dc jdk_52_method_21_code 35 (.iinc 3 1) 3 38 := ⟨by decide +kernel, rfl⟩
theorem b12_38 : Dc jdk_52_method_21_code 38 (.iinc 5 1) 3 41 := ⟨by decide +kernel, rfl⟩
theorem b12_41 : Db jdk_52_method_21_code 41 (.goto (-38)) (-38) 44 3 := ⟨by decide +kernel, rfl, by decide, by decide⟩
theorem b12_44 : Dc jdk_52_method_21_code 44 (.iload 4) 2 46 := ⟨by decide +kernel, rfl⟩
theorem b12_23 : Dc jdk_52_method_21_code 23 (.iload 5) 2 25 := ⟨by decide +kernel, rfl⟩
theorem b12_25 : Dc jdk_52_method_21_code 25 (.ireturn) 1 26 := ⟨by decide +kernel, rfl⟩
theorem b11_0 : Dc jdk_52_method_16_code 0 (.iload_n 2) 1 1 := ⟨by decide +kernel, rfl⟩
theorem b11_1 : Dc jdk_52_method_16_code 1 (.newarray .byte) 2 3 := ⟨by decide +kernel, rfl⟩
theorem b11_3 : Dc jdk_52_method_16_code 3 (.astore_n 3) 1 4 := ⟨by decide +kernel, rfl⟩
theorem b11_4 : Dc jdk_52_method_16_code 4 (.aload_n 0) 1 5 := ⟨by decide +kernel, rfl⟩
theorem b11_5 : Dc jdk_52_method_16_code 5 (.iload_n 1) 1 6 := ⟨by decide +kernel, rfl⟩
theorem b11_6 : Dc jdk_52_method_16_code 6 (.aload_n 3) 1 7 := ⟨by decide +kernel, rfl⟩
theorem b11_7 : Dc jdk_52_method_16_code 7 (.iconst 0) 1 8 := ⟨by decide +kernel, rfl⟩
theorem b11_8 : Dc jdk_52_method_16_code 8 (.iload_n 2) 1 9 := ⟨by decide +kernel, rfl⟩
theorem b11_9 : Dc jdk_52_method_16_code 9 (.invokestatic 115) 3 12 := ⟨by decide +kernel, rfl⟩
theorem b11_12 : Dc jdk_52_method_16_code 12 (.istore 4) 2 14 := ⟨by decide +kernel, rfl⟩
theorem b11_14 : Dc jdk_52_method_16_code 14 (.iload 4) 2 16 := ⟨by decide +kernel, rfl⟩
theorem b11_16 : Dc jdk_52_method_16_code 16 (.iload_n 2) 1 17 := ⟨by decide +kernel, rfl⟩
theorem b11_17 : Db jdk_52_method_16_code 17 (.if_icmp .eq 40) (40) 20 57 := ⟨by decide +kernel, rfl, by decide, by decide⟩
theorem b11_20 : Dc jdk_52_method_16_code 20 (.aload_n 0) 1 21 := ⟨by decide +kernel, rfl⟩
theorem b11_21 : Dc jdk_52_method_16_code 21 (.iload_n 1) 1 22 := ⟨by decide +kernel, rfl⟩
theorem b11_22 : Dc jdk_52_method_16_code 22 (.iload_n 2) 1 23 := ⟨by decide +kernel, rfl⟩
theorem b11_23 : Dc jdk_52_method_16_code 23 (.invokestatic 119) 3 26 := ⟨by decide +kernel, rfl⟩
theorem b11_26 : Dc jdk_52_method_16_code 26 (.astore 5) 2 28 := ⟨by decide +kernel, rfl⟩
theorem b11_28 : Dc jdk_52_method_16_code 28 (.aload 5) 2 30 := ⟨by decide +kernel, rfl⟩
theorem b11_30 : Dc jdk_52_method_16_code 30 (.iload 4) 2 32 := ⟨by decide +kernel, rfl⟩
theorem b11_32 : Dc jdk_52_method_16_code 32 (.invokestatic 71) 3 35 := ⟨by decide +kernel, rfl⟩
theorem b11_35 : Dc jdk_52_method_16_code 35 (.sipush 255) 3 38 := ⟨by decide +kernel, rfl⟩
theorem b11_38 : Db jdk_52_method_16_code 38 (.if_icmp .gt 16) (16) 41 54 := ⟨by decide +kernel, rfl, by decide, by decide⟩
theorem b11_54 : Dc jdk_52_method_16_code 54 (.aload 5) 2 56 := ⟨by decide +kernel, rfl⟩
theorem b11_56 : Dc jdk_52_method_16_code 56 (.areturn) 1 57 := ⟨by decide +kernel, rfl⟩
theorem b13_0 : Dc jdk_52_method_15_code 0 (.iload_n 1) 1 1 := ⟨by decide +kernel, rfl⟩
theorem b13_1 : Dc jdk_52_method_15_code 1 (.aload_n 0) 1 2 := ⟨by decide +kernel, rfl⟩
theorem b13_2 : Dc jdk_52_method_15_code 2 (.arraylength) 1 3 := ⟨by decide +kernel, rfl⟩
theorem b13_3 : Dc jdk_52_method_15_code 3 (.isub) 1 4 := ⟨by decide +kernel, rfl⟩
theorem b13_4 : Dc jdk_52_method_15_code 4 (.bipush 31) 2 6 := ⟨by decide +kernel, rfl⟩
theorem b13_6 : Dc jdk_52_method_15_code 6 (.iushr) 1 7 := ⟨by decide +kernel, rfl⟩
theorem b13_7 : Dc jdk_52_method_15_code 7 (.i2b) 1 8 := ⟨by decide +kernel, rfl⟩
theorem b13_8 : Dc jdk_52_method_15_code 8 (.ireturn) 1 9 := ⟨by decide +kernel, rfl⟩
theorem b2_27 : Dc jdk_42_method_149_code 27 (.getstatic 38) 3 30 := ⟨by decide +kernel, rfl⟩
theorem b2_30 : Db jdk_42_method_149_code 30 (.ifCond .eq 28) (28) 33 58 := ⟨by decide +kernel, rfl, by decide, by decide⟩
theorem b2_33 : Dc jdk_42_method_149_code 33 (.aload_n 1) 1 34 := ⟨by decide +kernel, rfl⟩
theorem b2_34 : Dc jdk_42_method_149_code 34 (.iload_n 2) 1 35 := ⟨by decide +kernel, rfl⟩
theorem b2_35 : Dc jdk_42_method_149_code 35 (.iload_n 3) 1 36 := ⟨by decide +kernel, rfl⟩
theorem b2_36 : Dc jdk_42_method_149_code 36 (.invokestatic 177) 3 39 := ⟨by decide +kernel, rfl⟩
theorem b2_39 : Dc jdk_42_method_149_code 39 (.astore 5) 2 41 := ⟨by decide +kernel, rfl⟩
theorem b2_41 : Dc jdk_42_method_149_code 41 (.aload_n 0) 1 42 := ⟨by decide +kernel, rfl⟩
theorem b2_42 : Dc jdk_42_method_149_code 42 (.aload 5) 2 44 := ⟨by decide +kernel, rfl⟩
theorem b2_44 : Dc jdk_42_method_149_code 44 (.iload_n 3) 1 45 := ⟨by decide +kernel, rfl⟩
theorem b2_45 : Dc jdk_42_method_149_code 45 (.invokestatic 47) 3 48 := ⟨by decide +kernel, rfl⟩
theorem b2_48 : Dc jdk_42_method_149_code 48 (.putfield 15) 3 51 := ⟨by decide +kernel, rfl⟩
theorem b2_51 : Dc jdk_42_method_149_code 51 (.aload_n 0) 1 52 := ⟨by decide +kernel, rfl⟩
theorem b2_52 : Dc jdk_42_method_149_code 52 (.aload 5) 2 54 := ⟨by decide +kernel, rfl⟩
theorem b2_54 : Dc jdk_42_method_149_code 54 (.putfield 9) 3 57 := ⟨by decide +kernel, rfl⟩
theorem b2_57 : Dc jdk_42_method_149_code 57 (.return_) 1 58 := ⟨by decide +kernel, rfl⟩
theorem b33_0 : Dc jdk_52_method_6_code 0 (.aload_n 0) 1 1 := ⟨by decide +kernel, rfl⟩
theorem b33_1 : Dc jdk_52_method_6_code 1 (.arraylength) 1 2 := ⟨by decide +kernel, rfl⟩
theorem b33_2 : Dc jdk_52_method_6_code 2 (.iconst 1) 1 3 := ⟨by decide +kernel, rfl⟩
theorem b33_3 : Dc jdk_52_method_6_code 3 (.ishr) 1 4 := ⟨by decide +kernel, rfl⟩
theorem b33_4 : Dc jdk_52_method_6_code 4 (.ireturn) 1 5 := ⟨by decide +kernel, rfl⟩
theorem b18_0 : Dc jdk_41_method_11_code 0 (.iload_n 0) 1 1 := ⟨by decide +kernel, rfl⟩
theorem b18_1 : Db jdk_41_method_11_code 1 (.ifCond .lt 8) (8) 4 9 := ⟨by decide +kernel, rfl, by decide, by decide⟩
theorem b18_4 : Dc jdk_41_method_11_code 4 (.iload_n 0) 1 5 := ⟨by decide +kernel, rfl⟩
theorem b18_5 : Dc jdk_41_method_11_code 5 (.iload_n 1) 1 6 := ⟨by decide +kernel, rfl⟩
theorem b18_6 : Db jdk_41_method_11_code 6 (.if_icmp .lt 10) (10) 9 16 := ⟨by decide +kernel, rfl, by decide, by decide⟩
theorem b18_16 : Dc jdk_41_method_11_code 16 (.iload_n 0) 1 17 := ⟨by decide +kernel, rfl⟩
theorem b18_17 : Dc jdk_41_method_11_code 17 (.ireturn) 1 18 := ⟨by decide +kernel, rfl⟩
theorem b17_0 : Dc jdk_42_method_155_code 0 (.iload_n 0) 1 1 := ⟨by decide +kernel, rfl⟩
theorem b17_1 : Dc jdk_42_method_155_code 1 (.iload_n 1) 1 2 := ⟨by decide +kernel, rfl⟩
theorem b17_2 : Dc jdk_42_method_155_code 2 (.getstatic 1053) 3 5 := ⟨by decide +kernel, rfl⟩
theorem b17_5 : Dc jdk_42_method_155_code 5 (.invokestatic 1059) 3 8 := ⟨by decide +kernel, rfl⟩
theorem b17_8 : Dc jdk_42_method_155_code 8 (.pop) 1 9 := ⟨by decide +kernel, rfl⟩
theorem b17_9 : Dc jdk_42_method_155_code 9 (.return_) 1 10 := ⟨by decide +kernel, rfl⟩
theorem b32_0 : Dc jdk_52_method_91_code 0 (.iload_n 0) 1 1 := ⟨by decide +kernel, rfl⟩
theorem b32_1 : Dc jdk_52_method_91_code 1 (.aload_n 1) 1 2 := ⟨by decide +kernel, rfl⟩
theorem b32_2 : Dc jdk_52_method_91_code 2 (.invokestatic 48) 3 5 := ⟨by decide +kernel, rfl⟩
theorem b32_5 : Dc jdk_52_method_91_code 5 (.invokestatic 414) 3 8 := ⟨by decide +kernel, rfl⟩
theorem b32_8 : Dc jdk_52_method_91_code 8 (.return_) 1 9 := ⟨by decide +kernel, rfl⟩
theorem b31_0 : Dc jdk_52_method_83_code 0 (.iload_n 1) 1 1 := ⟨by decide +kernel, rfl⟩
theorem b31_1 : Dc jdk_52_method_83_code 1 (.aload_n 0) 1 2 := ⟨by decide +kernel, rfl⟩
theorem b31_2 : Dc jdk_52_method_83_code 2 (.invokestatic 67) 3 5 := ⟨by decide +kernel, rfl⟩
theorem b31_5 : Dc jdk_52_method_83_code 5 (.aload_n 0) 1 6 := ⟨by decide +kernel, rfl⟩
theorem b31_6 : Dc jdk_52_method_83_code 6 (.iload_n 1) 1 7 := ⟨by decide +kernel, rfl⟩
theorem b31_7 : Dc jdk_52_method_83_code 7 (.invokestatic 71) 3 10 := ⟨by decide +kernel, rfl⟩
theorem b31_10 : Dc jdk_52_method_83_code 10 (.ireturn) 1 11 := ⟨by decide +kernel, rfl⟩
theorem b15_0 : Dc jdk_42_method_154_code 0 (.getstatic 38) 3 3 := ⟨by decide +kernel, rfl⟩
theorem b15_3 : Db jdk_42_method_154_code 3 (.ifCond .eq 14) (14) 6 17 := ⟨by decide +kernel, rfl, by decide, by decide⟩
theorem b15_6 : Dc jdk_42_method_154_code 6 (.aload_n 0) 1 7 := ⟨by decide +kernel, rfl⟩
theorem b15_7 : Dc jdk_42_method_154_code 7 (.getfield 15) 3 10 := ⟨by decide +kernel, rfl⟩
theorem b15_10 : Db jdk_42_method_154_code 10 (.ifCond .ne 7) (7) 13 17 := ⟨by decide +kernel, rfl, by decide, by decide⟩
theorem b15_17 : Dc jdk_42_method_154_code 17 (.iconst 0) 1 18 := ⟨by decide +kernel, rfl⟩
theorem b15_18 : Dc jdk_42_method_154_code 18 (.ireturn) 1 19 := ⟨by decide +kernel, rfl⟩
theorem b14_0 : Dc jdk_42_method_56_code 0 (.aload_n 0) 1 1 := ⟨by decide +kernel, rfl⟩
theorem b14_1 : Dc jdk_42_method_56_code 1 (.invokevirtual 492) 3 4 := ⟨by decide +kernel, rfl⟩
theorem b14_4 : Db jdk_42_method_56_code 4 (.ifCond .eq 12) (12) 7 16 := ⟨by decide +kernel, rfl, by decide, by decide⟩
theorem b14_16 : Dc jdk_42_method_56_code 16 (.aload_n 0) 1 17 := ⟨by decide +kernel, rfl⟩
theorem b14_17 : Dc jdk_42_method_56_code 17 (.getfield 9) 3 20 := ⟨by decide +kernel, rfl⟩
theorem b14_20 : Dc jdk_42_method_56_code 20 (.iload_n 1) 1 21 := ⟨by decide +kernel, rfl⟩
theorem b14_21 : Dc jdk_42_method_56_code 21 (.invokestatic 498) 3 24 := ⟨by decide +kernel, rfl⟩
theorem b14_24 : Dc jdk_42_method_56_code 24 (.ireturn) 1 25 := ⟨by decide +kernel, rfl⟩
theorem b0_0 : Dc method_2_code 0 (.iload_n 0) 1 1 := ⟨by decide +kernel, rfl⟩
theorem b0_1 : Dc method_2_code 1 (.iconst 3) 1 2 := ⟨by decide +kernel, rfl⟩
theorem b0_2 : Dc method_2_code 2 (.iand) 1 3 := ⟨by decide +kernel, rfl⟩
theorem b0_3 : Dc method_2_code 3 (.istore_n 1) 1 4 := ⟨by decide +kernel, rfl⟩
theorem b0_4 : Dc method_2_code 4 (.iload_n 1) 1 5 := ⟨by decide +kernel, rfl⟩
theorem b0_5 : Db method_2_code 5 (.ifCond .ne 5) (5) 8 10 := ⟨by decide +kernel, rfl, by decide, by decide⟩
theorem b0_10 : Dc method_2_code 10 (.iload_n 1) 1 11 := ⟨by decide +kernel, rfl⟩
theorem b0_11 : Dc method_2_code 11 (.iconst 1) 1 12 := ⟨by decide +kernel, rfl⟩
theorem b0_12 : Db method_2_code 12 (.if_icmp .ne 6) (6) 15 18 := ⟨by decide +kernel, rfl, by decide, by decide⟩
theorem b0_18 : Dc method_2_code 18 (.iload_n 0) 1 19 := ⟨by decide +kernel, rfl⟩
theorem b0_19 : Dc method_2_code 19 (.iconst 2) 1 20 := ⟨by decide +kernel, rfl⟩
theorem b0_20 : Dc method_2_code 20 (.iushr) 1 21 := ⟨by decide +kernel, rfl⟩
theorem b0_21 : Dc method_2_code 21 (.i2c) 1 22 := ⟨by decide +kernel, rfl⟩
theorem b0_22 : Dc method_2_code 22 (.ireturn) 1 23 := ⟨by decide +kernel, rfl⟩
theorem b0_15 : Dc method_2_code 15 (.bipush 32) 2 17 := ⟨by decide +kernel, rfl⟩
theorem b0_17 : Dc method_2_code 17 (.ireturn) 1 18 := ⟨by decide +kernel, rfl⟩
theorem b0_8 : Dc method_2_code 8 (.iconst 0) 1 9 := ⟨by decide +kernel, rfl⟩
theorem b0_9 : Dc method_2_code 9 (.ireturn) 1 10 := ⟨by decide +kernel, rfl⟩
theorem b19_0 : Dc method_3_code 0 (.iload_n 0) 1 1 := ⟨by decide +kernel, rfl⟩
theorem b19_1 : Db method_3_code 1 (.ifCond .eq 9) (9) 4 10 := ⟨by decide +kernel, rfl, by decide, by decide⟩
theorem b19_10 : Dc method_3_code 10 (.iconst 1) 1 11 := ⟨by decide +kernel, rfl⟩
theorem b19_11 : Db method_3_code 11 (.goto 4) (4) 14 15 := ⟨by decide +kernel, rfl, by decide, by decide⟩
theorem b19_15 : Dc method_3_code 15 (.ireturn) 1 16 := ⟨by decide +kernel, rfl⟩
theorem b19_4 : Dc method_3_code 4 (.iload_n 0) 1 5 := ⟨by decide +kernel, rfl⟩
theorem b19_5 : Dc method_3_code 5 (.bipush 32) 2 7 := ⟨by decide +kernel, rfl⟩
theorem b19_7 : Db method_3_code 7 (.if_icmp .ne 7) (7) 10 14 := ⟨by decide +kernel, rfl, by decide, by decide⟩
theorem b19_14 : Dc method_3_code 14 (.iconst 0) 1 15 := ⟨by decide +kernel, rfl⟩
theorem b6_0 : Dc jdk_42_method_152_code 0 (.getstatic 38) 3 3 := ⟨by decide +kernel, rfl⟩
theorem b6_3 : Db jdk_42_method_152_code 3 (.ifCond .eq 10) (10) 6 13 := ⟨by decide +kernel, rfl, by decide, by decide⟩
theorem b6_6 : Dc jdk_42_method_152_code 6 (.aload_n 0) 1 7 := ⟨by decide +kernel, rfl⟩
theorem b6_7 : Dc jdk_42_method_152_code 7 (.getfield 15) 3 10 := ⟨by decide +kernel, rfl⟩
theorem b6_10 : Db jdk_42_method_152_code 10 (.goto 4) (4) 13 14 := ⟨by decide +kernel, rfl, by decide, by decide⟩
theorem b6_14 : Dc jdk_42_method_152_code 14 (.ireturn) 1 15 := ⟨by decide +kernel, rfl⟩
theorem b5_0 : Dc jdk_42_method_54_code 0 (.aload_n 0) 1 1 := ⟨by decide +kernel, rfl⟩
theorem b5_1 : Dc jdk_42_method_54_code 1 (.getfield 9) 3 4 := ⟨by decide +kernel, rfl⟩
theorem b5_4 : Dc jdk_42_method_54_code 4 (.arraylength) 1 5 := ⟨by decide +kernel, rfl⟩
theorem b5_5 : Dc jdk_42_method_54_code 5 (.aload_n 0) 1 6 := ⟨by decide +kernel, rfl⟩
theorem b5_6 : Dc jdk_42_method_54_code 6 (.invokevirtual 335) 3 9 := ⟨by decide +kernel, rfl⟩
theorem b5_9 : Dc jdk_42_method_54_code 9 (.ishr) 1 10 := ⟨by decide +kernel, rfl⟩
theorem b5_10 : Dc jdk_42_method_54_code 10 (.ireturn) 1 11 := ⟨by decide +kernel, rfl⟩
theorem b25_0 : Dc jdk_42_method_151_code 0 (.aload_n 0) 1 1 := ⟨by decide +kernel, rfl⟩
theorem b25_1 : Dc jdk_42_method_151_code 1 (.invokespecial 1) 3 4 := ⟨by decide +kernel, rfl⟩
theorem b25_4 : Dc jdk_42_method_151_code 4 (.aload_n 0) 1 5 := ⟨by decide +kernel, rfl⟩
theorem b25_5 : Dc jdk_42_method_151_code 5 (.aload_n 1) 1 6 := ⟨by decide +kernel, rfl⟩
theorem b25_6 : Dc jdk_42_method_151_code 6 (.putfield 9) 3 9 := ⟨by decide +kernel, rfl⟩
theorem b25_9 : Dc jdk_42_method_151_code 9 (.aload_n 0) 1 10 := ⟨by decide +kernel, rfl⟩
theorem b25_10 : Dc jdk_42_method_151_code 10 (.iload_n 2) 1 11 := ⟨by decide +kernel, rfl⟩
theorem b25_11 : Dc jdk_42_method_151_code 11 (.putfield 15) 3 14 := ⟨by decide +kernel, rfl⟩
theorem b25_14 : Dc jdk_42_method_151_code 14 (.return_) 1 15 := ⟨by decide +kernel, rfl⟩
theorem b15_13 : Dc jdk_42_method_154_code 13 (.iconst 1) 1 14 := ⟨by decide +kernel, rfl⟩
theorem b15_14 : Db jdk_42_method_154_code 14 (.goto 4) (4) 17 18 := ⟨by decide +kernel, rfl, by decide, by decide⟩
theorem b9_0 : Dc jdk_41_method_12_code 0 (.iload_n 0) 1 1 := ⟨by decide +kernel, rfl⟩
theorem b9_1 : Db jdk_41_method_12_code 1 (.ifCond .lt 13) (13) 4 14 := ⟨by decide +kernel, rfl, by decide, by decide⟩
theorem b9_4 : Dc jdk_41_method_12_code 4 (.iload_n 0) 1 5 := ⟨by decide +kernel, rfl⟩
theorem b9_5 : Dc jdk_41_method_12_code 5 (.iload_n 1) 1 6 := ⟨by decide +kernel, rfl⟩
theorem b9_6 : Db jdk_41_method_12_code 6 (.if_icmp .gt 8) (8) 9 14 := ⟨by decide +kernel, rfl, by decide, by decide⟩
theorem b9_9 : Dc jdk_41_method_12_code 9 (.iload_n 1) 1 10 := ⟨by decide +kernel, rfl⟩
theorem b9_10 : Dc jdk_41_method_12_code 10 (.iload_n 2) 1 11 := ⟨by decide +kernel, rfl⟩
theorem b9_11 : Db jdk_41_method_12_code 11 (.if_icmp .le 11) (11) 14 22 := ⟨by decide +kernel, rfl, by decide, by decide⟩
theorem b9_22 : Dc jdk_41_method_12_code 22 (.iload_n 0) 1 23 := ⟨by decide +kernel, rfl⟩
theorem b9_23 : Dc jdk_41_method_12_code 23 (.ireturn) 1 24 := ⟨by decide +kernel, rfl⟩
theorem b8_0 : Dc jdk_42_method_158_code 0 (.iload_n 0) 1 1 := ⟨by decide +kernel, rfl⟩
theorem b8_1 : Dc jdk_42_method_158_code 1 (.iload_n 1) 1 2 := ⟨by decide +kernel, rfl⟩
theorem b8_2 : Dc jdk_42_method_158_code 2 (.iload_n 2) 1 3 := ⟨by decide +kernel, rfl⟩
theorem b8_3 : Dc jdk_42_method_158_code 3 (.getstatic 1053) 3 6 := ⟨by decide +kernel, rfl⟩
theorem b8_6 : Dc jdk_42_method_158_code 6 (.invokestatic 1062) 3 9 := ⟨by decide +kernel, rfl⟩
theorem b8_9 : Dc jdk_42_method_158_code 9 (.pop) 1 10 := ⟨by decide +kernel, rfl⟩
theorem b8_10 : Dc jdk_42_method_158_code 10 (.return_) 1 11 := ⟨by decide +kernel, rfl⟩
theorem b39_0 : Dc jdk_41_method_13_code 0 (.iload_n 2) 1 1 := ⟨by decide +kernel, rfl⟩
theorem b39_1 : Dc jdk_41_method_13_code 1 (.iload_n 0) 1 2 := ⟨by decide +kernel, rfl⟩
theorem b39_2 : Dc jdk_41_method_13_code 2 (.ior) 1 3 := ⟨by decide +kernel, rfl⟩
theorem b39_3 : Dc jdk_41_method_13_code 3 (.iload_n 1) 1 4 := ⟨by decide +kernel, rfl⟩
theorem b39_4 : Dc jdk_41_method_13_code 4 (.ior) 1 5 := ⟨by decide +kernel, rfl⟩
theorem b39_5 : Db jdk_41_method_13_code 5 (.ifCond .lt 10) (10) 8 15 := ⟨by decide +kernel, rfl, by decide, by decide⟩
theorem b39_8 : Dc jdk_41_method_13_code 8 (.iload_n 1) 1 9 := ⟨by decide +kernel, rfl⟩
theorem b39_9 : Dc jdk_41_method_13_code 9 (.iload_n 2) 1 10 := ⟨by decide +kernel, rfl⟩
theorem b39_10 : Dc jdk_41_method_13_code 10 (.iload_n 0) 1 11 := ⟨by decide +kernel, rfl⟩
theorem b39_11 : Dc jdk_41_method_13_code 11 (.isub) 1 12 := ⟨by decide +kernel, rfl⟩
theorem b39_12 : Db jdk_41_method_13_code 12 (.if_icmp .le 11) (11) 15 23 := ⟨by decide +kernel, rfl, by decide, by decide⟩
theorem b39_23 : Dc jdk_41_method_13_code 23 (.iload_n 0) 1 24 := ⟨by decide +kernel, rfl⟩
theorem b39_24 : Dc jdk_41_method_13_code 24 (.ireturn) 1 25 := ⟨by decide +kernel, rfl⟩
theorem b38_0 : Dc jdk_42_method_157_code 0 (.iload_n 0) 1 1 := ⟨by decide +kernel, rfl⟩
theorem b38_1 : Dc jdk_42_method_157_code 1 (.iload_n 1) 1 2 := ⟨by decide +kernel, rfl⟩
theorem b38_2 : Dc jdk_42_method_157_code 2 (.iload_n 2) 1 3 := ⟨by decide +kernel, rfl⟩
theorem b38_3 : Dc jdk_42_method_157_code 3 (.getstatic 1053) 3 6 := ⟨by decide +kernel, rfl⟩
theorem b38_6 : Dc jdk_42_method_157_code 6 (.invokestatic 1065) 3 9 := ⟨by decide +kernel, rfl⟩
theorem b38_9 : Dc jdk_42_method_157_code 9 (.ireturn) 1 10 := ⟨by decide +kernel, rfl⟩
theorem b37_0 : Dc jdk_52_method_94_code 0 (.iload_n 0) 1 1 := ⟨by decide +kernel, rfl⟩
theorem b37_1 : Dc jdk_52_method_94_code 1 (.iload_n 1) 1 2 := ⟨by decide +kernel, rfl⟩
theorem b37_2 : Dc jdk_52_method_94_code 2 (.aload_n 2) 1 3 := ⟨by decide +kernel, rfl⟩
theorem b37_3 : Dc jdk_52_method_94_code 3 (.invokestatic 48) 3 6 := ⟨by decide +kernel, rfl⟩
theorem b37_6 : Dc jdk_52_method_94_code 6 (.invokestatic 419) 3 9 := ⟨by decide +kernel, rfl⟩
theorem b37_9 : Dc jdk_52_method_94_code 9 (.pop) 1 10 := ⟨by decide +kernel, rfl⟩
theorem b37_10 : Dc jdk_52_method_94_code 10 (.return_) 1 11 := ⟨by decide +kernel, rfl⟩
theorem b7_0 : Dc jdk_42_method_92_code 0 (.aload_n 0) 1 1 := ⟨by decide +kernel, rfl⟩
theorem b7_1 : Dc jdk_42_method_92_code 1 (.invokevirtual 505) 3 4 := ⟨by decide +kernel, rfl⟩
theorem b7_4 : Dc jdk_42_method_92_code 4 (.istore_n 3) 1 5 := ⟨by decide +kernel, rfl⟩
theorem b7_5 : Dc jdk_42_method_92_code 5 (.iload_n 1) 1 6 := ⟨by decide +kernel, rfl⟩
theorem b7_6 : Dc jdk_42_method_92_code 6 (.iload_n 2) 1 7 := ⟨by decide +kernel, rfl⟩
theorem b7_7 : Dc jdk_42_method_92_code 7 (.iload_n 3) 1 8 := ⟨by decide +kernel, rfl⟩
theorem b7_8 : Dc jdk_42_method_92_code 8 (.invokestatic 521) 3 11 := ⟨by decide +kernel, rfl⟩
theorem b7_11 : Dc jdk_42_method_92_code 11 (.iload_n 1) 1 12 := ⟨by decide +kernel, rfl⟩
theorem b7_12 : Db jdk_42_method_92_code 12 (.ifCond .ne 10) (10) 15 22 := ⟨by decide +kernel, rfl, by decide, by decide⟩
theorem b7_15 : Dc jdk_42_method_92_code 15 (.iload_n 2) 1 16 := ⟨by decide +kernel, rfl⟩
theorem b7_16 : Dc jdk_42_method_92_code 16 (.iload_n 3) 1 17 := ⟨by decide +kernel, rfl⟩
theorem b7_17 : Db jdk_42_method_92_code 17 (.if_icmp .ne 5) (5) 20 22 := ⟨by decide +kernel, rfl, by decide, by decide⟩
theorem b7_20 : Dc jdk_42_method_92_code 20 (.aload_n 0) 1 21 := ⟨by decide +kernel, rfl⟩
theorem b7_21 : Dc jdk_42_method_92_code 21 (.areturn) 1 22 := ⟨by decide +kernel, rfl⟩
theorem b4_0 : Dc prog_11_method_5_code 0 (.aload_n 0) 1 1 := ⟨by decide +kernel, rfl⟩
theorem b4_1 : Dc prog_11_method_5_code 1 (.invokevirtual 7) 3 4 := ⟨by decide +kernel, rfl⟩
theorem b4_4 : Dc prog_11_method_5_code 4 (.istore_n 1) 1 5 := ⟨by decide +kernel, rfl⟩
theorem b4_5 : Dc prog_11_method_5_code 5 (.iload_n 1) 1 6 := ⟨by decide +kernel, rfl⟩
theorem b4_6 : Db prog_11_method_5_code 6 (.ifCond .le 31) (31) 9 37 := ⟨by decide +kernel, rfl, by decide, by decide⟩
theorem b4_37 : Dc prog_11_method_5_code 37 (.aload_n 0) 1 38 := ⟨by decide +kernel, rfl⟩
theorem b4_38 : Dc prog_11_method_5_code 38 (.iconst 0) 1 39 := ⟨by decide +kernel, rfl⟩
theorem b4_39 : Dc prog_11_method_5_code 39 (.iload_n 1) 1 40 := ⟨by decide +kernel, rfl⟩
theorem b4_40 : Dc prog_11_method_5_code 40 (.invokevirtual 49) 3 43 := ⟨by decide +kernel, rfl⟩
theorem b4_43 : Dc prog_11_method_5_code 43 (.areturn) 1 44 := ⟨by decide +kernel, rfl⟩
theorem b20_0 : Dc jdk_43_method_47_code 0 (.iload_n 2) 1 1 := ⟨by decide +kernel, rfl⟩
theorem b20_1 : Db jdk_43_method_47_code 1 (.ifCond .ne 6) (6) 4 7 := ⟨by decide +kernel, rfl, by decide, by decide⟩
theorem b20_4 : Dc jdk_43_method_47_code 4 (.ldc 151) 2 6 := ⟨by decide +kernel, rfl⟩
theorem b20_6 : Dc jdk_43_method_47_code 6 (.areturn) 1 7 := ⟨by decide +kernel, rfl⟩
theorem b7_22 : Dc jdk_42_method_92_code 22 (.iload_n 2) 1 23 := ⟨by decide +kernel, rfl⟩
theorem b7_23 : Dc jdk_42_method_92_code 23 (.iload_n 1) 1 24 := ⟨by decide +kernel, rfl⟩
theorem b7_24 : Dc jdk_42_method_92_code 24 (.isub) 1 25 := ⟨by decide +kernel, rfl⟩
theorem b7_25 : Dc jdk_42_method_92_code 25 (.istore 4) 2 27 := ⟨by decide +kernel, rfl⟩
theorem b7_27 : Dc jdk_42_method_92_code 27 (.aload_n 0) 1 28 := ⟨by decide +kernel, rfl⟩
theorem b7_28 : Dc jdk_42_method_92_code 28 (.invokevirtual 492) 3 31 := ⟨by decide +kernel, rfl⟩
theorem b7_31 : Db jdk_42_method_92_code 31 (.ifCond .eq 16) (16) 34 47 := ⟨by decide +kernel, rfl, by decide, by decide⟩
theorem b7_34 : Dc jdk_42_method_92_code 34 (.aload_n 0) 1 35 := ⟨by decide +kernel, rfl⟩
theorem b7_35 : Dc jdk_42_method_92_code 35 (.getfield 9) 3 38 := ⟨by decide +kernel, rfl⟩
theorem b7_38 : Dc jdk_42_method_92_code 38 (.iload_n 1) 1 39 := ⟨by decide +kernel, rfl⟩
theorem b7_39 : Dc jdk_42_method_92_code 39 (.iload 4) 2 41 := ⟨by decide +kernel, rfl⟩
theorem b7_41 : Dc jdk_42_method_92_code 41 (.invokestatic 685) 3 44 := ⟨by decide +kernel, rfl⟩
theorem b7_44 : Db jdk_42_method_92_code 44 (.goto 13) (13) 47 57 := ⟨by decide +kernel, rfl, by decide, by decide⟩
theorem b7_57 : Dc jdk_42_method_92_code 57 (.areturn) 1 58 := ⟨by decide +kernel, rfl⟩
theorem b4_9 : Dc prog_11_method_5_code 9 (.aload_n 0) 1 10 := ⟨by decide +kernel, rfl⟩
theorem b4_10 : Dc prog_11_method_5_code 10 (.iload_n 1) 1 11 := ⟨by decide +kernel, rfl⟩
theorem b4_11 : Dc prog_11_method_5_code 11 (.iconst 1) 1 12 := ⟨by decide +kernel, rfl⟩
theorem b4_12 : Dc prog_11_method_5_code 12 (.isub) 1 13 := ⟨by decide +kernel, rfl⟩
theorem b4_31 : Dc prog_11_method_5_code 31 (.iinc 1 (-1)) 3 34 := ⟨by decide +kernel, rfl⟩
theorem b4_34 : Db prog_11_method_5_code 34 (.goto (-29)) (-29) 37 5 := ⟨by decide +kernel, rfl, by decide, by decide⟩
theorem b4_13 : Dc prog_11_method_5_code 13 (.invokevirtual 15) 3 16 := ⟨by decide +kernel, rfl⟩
theorem b4_16 : Db prog_11_method_5_code 16 (.ifCond .eq 15) (15) 19 31 := ⟨by decide +kernel, rfl, by decide, by decide⟩
theorem b4_19 : Dc prog_11_method_5_code 19 (.aload_n 0) 1 20 := ⟨by decide +kernel, rfl⟩
theorem b4_20 : Dc prog_11_method_5_code 20 (.iload_n 1) 1 21 := ⟨by decide +kernel, rfl⟩
theorem b4_21 : Dc prog_11_method_5_code 21 (.iconst 1) 1 22 := ⟨by decide +kernel, rfl⟩
theorem b4_22 : Dc prog_11_method_5_code 22 (.isub) 1 23 := ⟨by decide +kernel, rfl⟩
theorem b4_23 : Dc prog_11_method_5_code 23 (.invokevirtual 15) 3 26 := ⟨by decide +kernel, rfl⟩
theorem b4_26 : Dc prog_11_method_5_code 26 (.bipush 32) 2 28 := ⟨by decide +kernel, rfl⟩
theorem b4_28 : Db prog_11_method_5_code 28 (.if_icmp .ne 9) (9) 31 37 := ⟨by decide +kernel, rfl, by decide, by decide⟩
theorem b23_0 : Dc jdk_65_method_131_code 0 (.iload_n 1) 1 1 := ⟨by decide +kernel, rfl⟩
theorem b23_1 : Dc jdk_65_method_131_code 1 (.iload_n 0) 1 2 := ⟨by decide +kernel, rfl⟩
theorem b23_2 : Db jdk_65_method_131_code 2 (.if_icmp .ge 35) (35) 5 37 := ⟨by decide +kernel, rfl, by decide, by decide⟩
theorem b23_37 : Dc jdk_65_method_131_code 37 (.return_) 1 38 := ⟨by decide +kernel, rfl⟩
theorem b24_0 : Dc jdk_29_method_69_code 0 (.iload_n 0) 1 1 := ⟨by decide +kernel, rfl⟩
theorem b24_1 : Dc jdk_29_method_69_code 1 (.iload_n 1) 1 2 := ⟨by decide +kernel, rfl⟩
theorem b24_2 : Db jdk_29_method_69_code 2 (.if_icmp .gt 7) (7) 5 9 := ⟨by decide +kernel, rfl, by decide, by decide⟩
theorem b24_9 : Dc jdk_29_method_69_code 9 (.iload_n 1) 1 10 := ⟨by decide +kernel, rfl⟩
theorem b24_10 : Dc jdk_29_method_69_code 10 (.ireturn) 1 11 := ⟨by decide +kernel, rfl⟩
theorem b22_0 : Dc jdk_65_method_133_code 0 (.iload_n 1) 1 1 := ⟨by decide +kernel, rfl⟩
theorem b22_1 : Dc jdk_65_method_133_code 1 (.iload_n 2) 1 2 := ⟨by decide +kernel, rfl⟩
theorem b22_2 : Dc jdk_65_method_133_code 2 (.invokestatic 343) 3 5 := ⟨by decide +kernel, rfl⟩
theorem b22_5 : Dc jdk_65_method_133_code 5 (.iload_n 2) 1 6 := ⟨by decide +kernel, rfl⟩
theorem b22_6 : Dc jdk_65_method_133_code 6 (.iload_n 1) 1 7 := ⟨by decide +kernel, rfl⟩
theorem b22_7 : Dc jdk_65_method_133_code 7 (.isub) 1 8 := ⟨by decide +kernel, rfl⟩
theorem b22_8 : Dc jdk_65_method_133_code 8 (.istore_n 3) 1 9 := ⟨by decide +kernel, rfl⟩
theorem b22_9 : Dc jdk_65_method_133_code 9 (.iload_n 3) 1 10 := ⟨by decide +kernel, rfl⟩
theorem b22_10 : Dc jdk_65_method_133_code 10 (.newarray .byte) 2 12 := ⟨by decide +kernel, rfl⟩
theorem b22_12 : Dc jdk_65_method_133_code 12 (.astore 4) 2 14 := ⟨by decide +kernel, rfl⟩
theorem b22_14 : Dc jdk_65_method_133_code 14 (.aload_n 0) 1 15 := ⟨by decide +kernel, rfl⟩
theorem b22_15 : Dc jdk_65_method_133_code 15 (.iload_n 1) 1 16 := ⟨by decide +kernel, rfl⟩
theorem b22_16 : Dc jdk_65_method_133_code 16 (.aload 4) 2 18 := ⟨by decide +kernel, rfl⟩
theorem b22_18 : Dc jdk_65_method_133_code 18 (.iconst 0) 1 19 := ⟨by decide +kernel, rfl⟩
theorem b22_19 : Dc jdk_65_method_133_code 19 (.aload_n 0) 1 20 := ⟨by decide +kernel, rfl⟩
theorem b22_20 : Dc jdk_65_method_133_code 20 (.arraylength) 1 21 := ⟨by decide +kernel, rfl⟩
theorem b22_21 : Dc jdk_65_method_133_code 21 (.iload_n 1) 1 22 := ⟨by decide +kernel, rfl⟩
theorem b22_22 : Dc jdk_65_method_133_code 22 (.isub) 1 23 := ⟨by decide +kernel, rfl⟩
theorem b22_23 : Dc jdk_65_method_133_code 23 (.iload_n 3) 1 24 := ⟨by decide +kernel, rfl⟩
theorem b22_24 : Dc jdk_65_method_133_code 24 (.invokestatic 304) 3 27 := ⟨by decide +kernel, rfl⟩
theorem b22_27 : Dc jdk_65_method_133_code 27 (.invokestatic 150) 3 30 := ⟨by decide +kernel, rfl⟩
theorem b22_30 : Dc jdk_65_method_133_code 30 (.aload 4) 2 32 := ⟨by decide +kernel, rfl⟩
theorem b22_32 : Dc jdk_65_method_133_code 32 (.areturn) 1 33 := ⟨by decide +kernel, rfl⟩
theorem b21_0 : Dc jdk_65_method_132_code 0 (.iload_n 1) 1 1 := ⟨by decide +kernel, rfl⟩
theorem b21_1 : Db jdk_65_method_132_code 1 (.ifCond .ne 9) (9) 4 10 := ⟨by decide +kernel, rfl, by decide, by decide⟩
theorem b21_4 : Dc jdk_65_method_132_code 4 (.iload_n 2) 1 5 := ⟨by decide +kernel, rfl⟩
theorem b21_5 : Dc jdk_65_method_132_code 5 (.aload_n 0) 1 6 := ⟨by decide +kernel, rfl⟩
theorem b21_6 : Dc jdk_65_method_132_code 6 (.arraylength) 1 7 := ⟨by decide +kernel, rfl⟩
theorem b21_7 : Db jdk_65_method_132_code 7 (.if_icmp .eq 10) (10) 10 17 := ⟨by decide +kernel, rfl, by decide, by decide⟩
theorem b21_10 : Dc jdk_65_method_132_code 10 (.aload_n 0) 1 11 := ⟨by decide +kernel, rfl⟩
theorem b21_11 : Dc jdk_65_method_132_code 11 (.iload_n 1) 1 12 := ⟨by decide +kernel, rfl⟩
theorem b21_12 : Dc jdk_65_method_132_code 12 (.iload_n 2) 1 13 := ⟨by decide +kernel, rfl⟩
theorem b21_13 : Dc jdk_65_method_132_code 13 (.invokestatic 339) 3 16 := ⟨by decide +kernel, rfl⟩
theorem b21_16 : Dc jdk_65_method_132_code 16 (.areturn) 1 17 := ⟨by decide +kernel, rfl⟩
theorem b36_0 : Dc jdk_52_method_22_code 0 (.iload_n 1) 1 1 := ⟨by decide +kernel, rfl⟩
theorem b36_1 : Dc jdk_52_method_22_code 1 (.iload 4) 2 3 := ⟨by decide +kernel, rfl⟩
theorem b36_3 : Dc jdk_52_method_22_code 3 (.aload_n 0) 1 4 := ⟨by decide +kernel, rfl⟩
theorem b36_4 : Dc jdk_52_method_22_code 4 (.invokestatic 173) 3 7 := ⟨by decide +kernel, rfl⟩
theorem b36_7 : Dc jdk_52_method_22_code 7 (.iconst 0) 1 8 := ⟨by decide +kernel, rfl⟩
theorem b36_8 : Dc jdk_52_method_22_code 8 (.istore 5) 2 10 := ⟨by decide +kernel, rfl⟩
theorem b36_10 : Dc jdk_52_method_22_code 10 (.iload 5) 2 12 := ⟨by decide +kernel, rfl⟩
theorem b36_12 : Dc jdk_52_method_22_code 12 (.iload 4) 2 14 := ⟨by decide +kernel, rfl⟩
theorem b36_14 : Db jdk_52_method_22_code 14 (.if_icmp .ge 39) (39) 17 53 := ⟨by decide +kernel, rfl, by decide, by decide⟩
theorem b36_17 : Dc jdk_52_method_22_code 17 (.aload_n 0) 1 18 := ⟨by decide +kernel, rfl⟩
theorem b36_18 : Dc jdk_52_method_22_code 18 (.iload_n 1) 1 19 := ⟨by decide +kernel, rfl⟩
theorem b36_19 : Dc jdk_52_method_22_code 19 (.invokestatic 71) 3 22 := ⟨by decide +kernel, rfl⟩
theorem b36_22 : Dc jdk_52_method_22_code 22 (.istore 6) 2 24 := ⟨by decide +kernel, rfl⟩
theorem b36_24 : Dc jdk_52_method_22_code 24 (.iload 6) 2 26 := ⟨by decide +kernel, rfl⟩
theorem b36_26 : Dc jdk_52_method_22_code 26 (.sipush 255) 3 29 := ⟨by decide +kernel, rfl⟩
theorem b36_29 : Db jdk_52_method_22_code 29 (.if_icmp .le 6) (6) 32 35 := ⟨by decide +kernel, rfl, by decide, by decide⟩
theorem b36_35 : Dc jdk_52_method_22_code 35 (.aload_n 2) 1 36 := ⟨by decide +kernel, rfl⟩
theorem b36_36 : Dc jdk_52_method_22_code 36 (.iload_n 3) 1 37 := ⟨by decide +kernel, rfl⟩
theorem b36_37 : Dc jdk_52_method_22_code 37 (.iload 6) 2 39 := ⟨by decide +kernel, rfl⟩
theorem b36_39 : Dc jdk_52_method_22_code 39 (.i2b) 1 40 := ⟨by decide +kernel, rfl⟩
theorem b36_40 : Dc jdk_52_method_22_code 40 (.bastore) 1 41 := ⟨by decide +kernel, rfl⟩
theorem b36_41 : Dc jdk_52_method_22_code 41 (.iinc 1 1) 3 44 := ⟨by decide +kernel, rfl⟩
theorem b36_44 : Dc jdk_52_method_22_code 44 (.iinc 3 1) 3 47 := ⟨by decide +kernel, rfl⟩
theorem b36_47 : Dc jdk_52_method_22_code 47 (.iinc 5 1) 3 50 := ⟨by decide +kernel, rfl⟩
theorem b36_50 : Db jdk_52_method_22_code 50 (.goto (-40)) (-40) 53 10 := ⟨by decide +kernel, rfl, by decide, by decide⟩
theorem b36_53 : Dc jdk_52_method_22_code 53 (.iload 4) 2 55 := ⟨by decide +kernel, rfl⟩
theorem b36_32 : Dc jdk_52_method_22_code 32 (.iload 5) 2 34 := ⟨by decide +kernel, rfl⟩
theorem b36_34 : Dc jdk_52_method_22_code 34 (.ireturn) 1 35 := ⟨by decide +kernel, rfl⟩
theorem b35_0 : Dc jdk_52_method_17_code 0 (.iload_n 2) 1 1 := ⟨by decide +kernel, rfl⟩
theorem b35_1 : Dc jdk_52_method_17_code 1 (.newarray .byte) 2 3 := ⟨by decide +kernel, rfl⟩
theorem b35_3 : Dc jdk_52_method_17_code 3 (.astore_n 3) 1 4 := ⟨by decide +kernel, rfl⟩
theorem b35_4 : Dc jdk_52_method_17_code 4 (.aload_n 0) 1 5 := ⟨by decide +kernel, rfl⟩
theorem b35_5 : Dc jdk_52_method_17_code 5 (.iload_n 1) 1 6 := ⟨by decide +kernel, rfl⟩
theorem b35_6 : Dc jdk_52_method_17_code 6 (.aload_n 3) 1 7 := ⟨by decide +kernel, rfl⟩
theorem b35_7 : Dc jdk_52_method_17_code 7 (.iconst 0) 1 8 := ⟨by decide +kernel, rfl⟩
theorem b35_8 : Dc jdk_52_method_17_code 8 (.iload_n 2) 1 9 := ⟨by decide +kernel, rfl⟩
theorem b35_9 : Dc jdk_52_method_17_code 9 (.invokestatic 123) 3 12 := ⟨by decide +kernel, rfl⟩
theorem b35_12 : Dc jdk_52_method_17_code 12 (.istore 4) 2 14 := ⟨by decide +kernel, rfl⟩
theorem b35_14 : Dc jdk_52_method_17_code 14 (.iload 4) 2 16 := ⟨by decide +kernel, rfl⟩
theorem b35_16 : Dc jdk_52_method_17_code 16 (.iload_n 2) 1 17 := ⟨by decide +kernel, rfl⟩
theorem b35_17 : Db jdk_52_method_17_code 17 (.if_icmp .eq 47) (47) 20 64 := ⟨by decide +kernel, rfl, by decide, by decide⟩
theorem b35_20 : Dc jdk_52_method_17_code 20 (.aload_n 0) 1 21 := ⟨by decide +kernel, rfl⟩
theorem b35_21 : Dc jdk_52_method_17_code 21 (.iload_n 1) 1 22 := ⟨by decide +kernel, rfl⟩
theorem b35_22 : Dc jdk_52_method_17_code 22 (.iconst 1) 1 23 := ⟨by decide +kernel, rfl⟩
theorem b35_23 : Dc jdk_52_method_17_code 23 (.ishl) 1 24 := ⟨by decide +kernel, rfl⟩
theorem b35_24 : Dc jdk_52_method_17_code 24 (.iload_n 1) 1 25 := ⟨by decide +kernel, rfl⟩
theorem b35_25 : Dc jdk_52_method_17_code 25 (.iload_n 2) 1 26 := ⟨by decide +kernel, rfl⟩
theorem b35_26 : Dc jdk_52_method_17_code 26 (.iadd) 1 27 := ⟨by decide +kernel, rfl⟩
theorem b35_27 : Dc jdk_52_method_17_code 27 (.invokestatic 11) 3 30 := ⟨by decide +kernel, rfl⟩
theorem b35_30 : Dc jdk_52_method_17_code 30 (.invokestatic 126) 3 33 := ⟨by decide +kernel, rfl⟩
theorem b35_33 : Dc jdk_52_method_17_code 33 (.astore 5) 2 35 := ⟨by decide +kernel, rfl⟩
theorem b35_35 : Dc jdk_52_method_17_code 35 (.aload 5) 2 37 := ⟨by decide +kernel, rfl⟩
theorem b35_37 : Dc jdk_52_method_17_code 37 (.iload 4) 2 39 := ⟨by decide +kernel, rfl⟩
theorem b35_39 : Dc jdk_52_method_17_code 39 (.invokestatic 71) 3 42 := ⟨by decide +kernel, rfl⟩
theorem b35_42 : Dc jdk_52_method_17_code 42 (.sipush 255) 3 45 := ⟨by decide +kernel, rfl⟩
theorem b35_45 : Db jdk_52_method_17_code 45 (.if_icmp .gt 16) (16) 48 61 := ⟨by decide +kernel, rfl, by decide, by decide⟩
theorem b35_61 : Dc jdk_52_method_17_code 61 (.aload 5) 2 63 := ⟨by decide +kernel, rfl⟩
theorem b35_63 : Dc jdk_52_method_17_code 63 (.areturn) 1 64 := ⟨by decide +kernel, rfl⟩
theorem b34_0 : Dc jdk_52_method_69_code 0 (.iload_n 2) 1 1 := ⟨by decide +kernel, rfl⟩
theorem b34_1 : Db jdk_52_method_69_code 1 (.ifCond .ne 7) (7) 4 8 := ⟨by decide +kernel, rfl, by decide, by decide⟩
theorem b34_8 : Dc jdk_52_method_69_code 8 (.getstatic 251) 3 11 := ⟨by decide +kernel, rfl⟩
theorem b34_11 : Db jdk_52_method_69_code 11 (.ifCond .eq 28) (28) 14 39 := ⟨by decide +kernel, rfl, by decide, by decide⟩
theorem b34_14 : Dc jdk_52_method_69_code 14 (.aload_n 0) 1 15 := ⟨by decide +kernel, rfl⟩
theorem b34_15 : Dc jdk_52_method_69_code 15 (.iload_n 1) 1 16 := ⟨by decide +kernel, rfl⟩
theorem b34_16 : Dc jdk_52_method_69_code 16 (.iload_n 2) 1 17 := ⟨by decide +kernel, rfl⟩
theorem b34_17 : Dc jdk_52_method_69_code 17 (.invokestatic 257) 3 20 := ⟨by decide +kernel, rfl⟩
theorem b34_20 : Dc jdk_52_method_69_code 20 (.astore_n 3) 1 21 := ⟨by decide +kernel, rfl⟩
theorem b34_21 : Dc jdk_52_method_69_code 21 (.aload_n 3) 1 22 := ⟨by decide +kernel, rfl⟩
theorem b34_22 : Dc jdk_52_method_69_code 22 (.iload_n 2) 1 23 := ⟨by decide +kernel, rfl⟩
theorem b34_23 : Dc jdk_52_method_69_code 23 (.invokestatic 259) 3 26 := ⟨by decide +kernel, rfl⟩
theorem b34_26 : Dc jdk_52_method_69_code 26 (.istore 4) 2 28 := ⟨by decide +kernel, rfl⟩
theorem b34_28 : Dc jdk_52_method_69_code 28 (.new 3) 3 31 := ⟨by decide +kernel, rfl⟩
theorem b34_31 : Dc jdk_52_method_69_code 31 (.dup) 1 32 := ⟨by decide +kernel, rfl⟩
theorem b34_32 : Dc jdk_52_method_69_code 32 (.aload_n 3) 1 33 := ⟨by decide +kernel, rfl⟩
theorem b34_33 : Dc jdk_52_method_69_code 33 (.iload 4) 2 35 := ⟨by decide +kernel, rfl⟩
theorem b34_35 : Dc jdk_52_method_69_code 35 (.invokespecial 263) 3 38 := ⟨by decide +kernel, rfl⟩
theorem b34_38 : Dc jdk_52_method_69_code 38 (.areturn) 1 39 := ⟨by decide +kernel, rfl⟩
theorem b20_7 : Dc jdk_43_method_47_code 7 (.new 1) 3 10 := ⟨by decide +kernel, rfl⟩
theorem b20_10 : Dc jdk_43_method_47_code 10 (.dup) 1 11 := ⟨by decide +kernel, rfl⟩
theorem b20_11 : Dc jdk_43_method_47_code 11 (.aload_n 0) 1 12 := ⟨by decide +kernel, rfl⟩
theorem b20_12 : Dc jdk_43_method_47_code 12 (.iload_n 1) 1 13 := ⟨by decide +kernel, rfl⟩
theorem b20_13 : Dc jdk_43_method_47_code 13 (.iload_n 1) 1 14 := ⟨by decide +kernel, rfl⟩
theorem b20_14 : Dc jdk_43_method_47_code 14 (.iload_n 2) 1 15 := ⟨by decide +kernel, rfl⟩
theorem b20_15 : Dc jdk_43_method_47_code 15 (.iadd) 1 16 := ⟨by decide +kernel, rfl⟩
theorem b20_16 : Dc jdk_43_method_47_code 16 (.invokestatic 232) 3 19 := ⟨by decide +kernel, rfl⟩
theorem b20_19 : Dc jdk_43_method_47_code 19 (.iconst 0) 1 20 := ⟨by decide +kernel, rfl⟩
theorem b20_20 : Dc jdk_43_method_47_code 20 (.invokespecial 112) 3 23 := ⟨by decide +kernel, rfl⟩
theorem b20_23 : Dc jdk_43_method_47_code 23 (.areturn) 1 24 := ⟨by decide +kernel, rfl⟩
theorem b7_47 : Dc jdk_42_method_92_code 47 (.aload_n 0) 1 48 := ⟨by decide +kernel, rfl⟩
theorem b7_48 : Dc jdk_42_method_92_code 48 (.getfield 9) 3 51 := ⟨by decide +kernel, rfl⟩
theorem b7_51 : Dc jdk_42_method_92_code 51 (.iload_n 1) 1 52 := ⟨by decide +kernel, rfl⟩
theorem b7_52 : Dc jdk_42_method_92_code 52 (.iload 4) 2 54 := ⟨by decide +kernel, rfl⟩
theorem b7_54 : Dc jdk_42_method_92_code 54 (.invokestatic 689) 3 57 := ⟨by decide +kernel, rfl⟩
theorem b10_0 : Dc method_4_code 0 (.iload_n 3) 1 1 := ⟨by decide +kernel, rfl⟩
theorem b10_1 : Dc method_4_code 1 (.iload_n 2) 1 2 := ⟨by decide +kernel, rfl⟩
theorem b10_2 : Db method_4_code 2 (.if_icmp .lt 5) (5) 5 7 := ⟨by decide +kernel, rfl, by decide, by decide⟩
theorem b10_7 : Dc method_4_code 7 (.iload_n 3) 1 8 := ⟨by decide +kernel, rfl⟩
theorem b10_8 : Dc method_4_code 8 (.iload_n 1) 1 9 := ⟨by decide +kernel, rfl⟩
theorem b10_9 : Db method_4_code 9 (.if_icmp .ge 19) (19) 12 28 := ⟨by decide +kernel, rfl, by decide, by decide⟩
theorem b10_28 : Dc method_4_code 28 (.iload 4) 2 30 := ⟨by decide +kernel, rfl⟩
theorem b10_30 : Dc method_4_code 30 (.invokestatic 13) 3 33 := ⟨by decide +kernel, rfl⟩
theorem b10_33 : Dc method_4_code 33 (.ireturn) 1 34 := ⟨by decide +kernel, rfl⟩
theorem b10_12 : Dc method_4_code 12 (.aload_n 0) 1 13 := ⟨by decide +kernel, rfl⟩
theorem b10_13 : Dc method_4_code 13 (.iload_n 3) 1 14 := ⟨by decide +kernel, rfl⟩
theorem b10_14 : Dc method_4_code 14 (.invokevirtual 7) 3 17 := ⟨by decide +kernel, rfl⟩
theorem b10_17 : Dc method_4_code 17 (.iload 4) 2 19 := ⟨by decide +kernel, rfl⟩
theorem b10_19 : Db method_4_code 19 (.if_icmp .ne 7) (7) 22 26 := ⟨by decide +kernel, rfl, by decide, by decide⟩
theorem b10_22 : Dc method_4_code 22 (.iconst 1) 1 23 := ⟨by decide +kernel, rfl⟩
theorem b10_23 : Db method_4_code 23 (.goto 4) (4) 26 27 := ⟨by decide +kernel, rfl, by decide, by decide⟩
theorem b10_27 : Dc method_4_code 27 (.ireturn) 1 28 := ⟨by decide +kernel, rfl⟩
theorem b10_5 : Dc method_4_code 5 (.iconst 1) 1 6 := ⟨by decide +kernel, rfl⟩
theorem b10_6 : Dc method_4_code 6 (.ireturn) 1 7 := ⟨by decide +kernel, rfl⟩
theorem L_0 : Dc code 0 (.iload_n 0) 1 1 := ⟨at_0, rfl⟩
theorem L_1 : Dc code 1 (.ldc 19) 2 3 := ⟨at_1, rfl⟩
theorem L_3 : Dc code 3 (.iand) 1 4 := ⟨at_3, rfl⟩
theorem L_4 : Dc code 4 (.iconst 5) 1 5 := ⟨at_4, rfl⟩
theorem L_5 : Dc code 5 (.irem) 1 6 := ⟨at_5, rfl⟩
theorem L_6 : Dc code 6 (.istore 5) 2 8 := ⟨at_6, rfl⟩
theorem L_8 : Dc code 8 (.iload_n 1) 1 9 := ⟨at_8, rfl⟩
theorem L_9 : Dc code 9 (.invokestatic 20) 3 12 := ⟨at_9, rfl⟩
theorem L_12 : Dc code 12 (.istore 6) 2 14 := ⟨at_12, rfl⟩
theorem L_14 : Dc code 14 (.iload_n 2) 1 15 := ⟨at_14, rfl⟩
theorem L_15 : Dc code 15 (.invokestatic 20) 3 18 := ⟨at_15, rfl⟩
theorem L_18 : Dc code 18 (.istore 7) 2 20 := ⟨at_18, rfl⟩
theorem L_20 : Dc code 20 (.iload_n 3) 1 21 := ⟨at_20, rfl⟩
theorem L_21 : Dc code 21 (.invokestatic 20) 3 24 := ⟨at_21, rfl⟩
theorem L_24 : Dc code 24 (.istore 8) 2 26 := ⟨at_24, rfl⟩
theorem L_26 : Dc code 26 (.iload 4) 2 28 := ⟨at_26, rfl⟩
theorem L_28 : Dc code 28 (.invokestatic 20) 3 31 := ⟨at_28, rfl⟩
theorem L_31 : Dc code 31 (.istore 9) 2 33 := ⟨at_31, rfl⟩
theorem L_178 : Dc code 178 (.aload 10) 2 180 := ⟨at_178, rfl⟩
theorem L_180 : Dc code 180 (.invokestatic 26) 3 183 := ⟨at_180, rfl⟩
theorem L_183 : Dc code 183 (.astore 11) 2 185 := ⟨at_183, rfl⟩
theorem L_185 : Dc code 185 (.aload 11) 2 187 := ⟨at_185, rfl⟩
theorem L_187 : Dc code 187 (.invokevirtual 32) 3 190 := ⟨at_187, rfl⟩
theorem L_190 : Dc code 190 (.istore 12) 2 192 := ⟨at_190, rfl⟩
theorem L_192 : Dc code 192 (.iload 12) 2 194 := ⟨at_192, rfl⟩
theorem L_194 : Dc code 194 (.iload 5) 2 196 := ⟨at_194, rfl⟩
theorem L_196 : Db code 196 (.if_icmp .le 5) (5) 199 201 := ⟨at_196, rfl, by decide, by decide⟩
theorem L_201 : Dc code 201 (.iload 12) 2 203 := ⟨at_201, rfl⟩
theorem L_203 : Db code 203 (.ifCond .le 20) (20) 206 223 := ⟨at_203, rfl, by decide, by decide⟩
theorem L_223 : Dc code 223 (.aload 11) 2 225 := ⟨at_223, rfl⟩
theorem L_225 : Dc code 225 (.iload 12) 2 227 := ⟨at_225, rfl⟩
theorem L_227 : Dc code 227 (.iload 5) 2 229 := ⟨at_227, rfl⟩
theorem L_229 : Dc code 229 (.iconst 0) 1 230 := ⟨at_229, rfl⟩
theorem L_230 : Dc code 230 (.iload 6) 2 232 := ⟨at_230, rfl⟩
theorem L_232 : Dc code 232 (.invokestatic 36) 3 235 := ⟨at_232, rfl⟩
theorem L_235 : Db code 235 (.ifCond .eq 52) (52) 238 287 := ⟨at_235, rfl, by decide, by decide⟩
theorem L_238 : Dc code 238 (.aload 11) 2 240 := ⟨at_238, rfl⟩
theorem L_240 : Dc code 240 (.iload 12) 2 242 := ⟨at_240, rfl⟩
theorem L_242 : Dc code 242 (.iload 5) 2 244 := ⟨at_242, rfl⟩
theorem L_244 : Dc code 244 (.iconst 1) 1 245 := ⟨at_244, rfl⟩
theorem L_245 : Dc code 245 (.iload 7) 2 247 := ⟨at_245, rfl⟩
theorem L_247 : Dc code 247 (.invokestatic 36) 3 250 := ⟨at_247, rfl⟩
theorem L_250 : Db code 250 (.ifCond .eq 37) (37) 253 287 := ⟨at_250, rfl, by decide, by decide⟩
theorem L_253 : Dc code 253 (.aload 11) 2 255 := ⟨at_253, rfl⟩
theorem L_255 : Dc code 255 (.iload 12) 2 257 := ⟨at_255, rfl⟩
theorem L_257 : Dc code 257 (.iload 5) 2 259 := ⟨at_257, rfl⟩
theorem L_259 : Dc code 259 (.iconst 2) 1 260 := ⟨at_259, rfl⟩
theorem L_260 : Dc code 260 (.iload 8) 2 262 := ⟨at_260, rfl⟩
theorem L_262 : Dc code 262 (.invokestatic 36) 3 265 := ⟨at_262, rfl⟩
theorem L_265 : Db code 265 (.ifCond .eq 22) (22) 268 287 := ⟨at_265, rfl, by decide, by decide⟩
theorem L_268 : Dc code 268 (.aload 11) 2 270 := ⟨at_268, rfl⟩
theorem L_270 : Dc code 270 (.iload 12) 2 272 := ⟨at_270, rfl⟩
theorem L_272 : Dc code 272 (.iload 5) 2 274 := ⟨at_272, rfl⟩
theorem L_274 : Dc code 274 (.iconst 3) 1 275 := ⟨at_274, rfl⟩
theorem L_275 : Dc code 275 (.iload 9) 2 277 := ⟨at_275, rfl⟩
theorem L_277 : Dc code 277 (.invokestatic 36) 3 280 := ⟨at_277, rfl⟩
theorem L_280 : Db code 280 (.ifCond .eq 7) (7) 283 287 := ⟨at_280, rfl, by decide, by decide⟩
theorem L_283 : Dc code 283 (.iconst 1) 1 284 := ⟨at_283, rfl⟩
theorem L_284 : Db code 284 (.goto 4) (4) 287 288 := ⟨at_284, rfl, by decide, by decide⟩
theorem L_288 : Dc code 288 (.ireturn) 1 289 := ⟨at_288, rfl⟩
theorem L_206 : Dc code 206 (.aload 11) 2 208 := ⟨at_206, rfl⟩
theorem L_208 : Dc code 208 (.iload 12) 2 210 := ⟨at_208, rfl⟩
theorem L_210 : Dc code 210 (.iconst 1) 1 211 := ⟨at_210, rfl⟩
theorem L_211 : Dc code 211 (.isub) 1 212 := ⟨at_211, rfl⟩
theorem L_212 : Dc code 212 (.invokevirtual 7) 3 215 := ⟨at_212, rfl⟩
theorem L_215 : Dc code 215 (.invokestatic 13) 3 218 := ⟨at_215, rfl⟩
theorem L_218 : Db code 218 (.ifCond .eq 5) (5) 221 223 := ⟨at_218, rfl, by decide, by decide⟩
theorem L_33 : Dc code 33 (.iload 5) 2 35 := ⟨at_33, rfl⟩
theorem L_35 : Db code 35 (.ifCond .ne 18) (18) 38 53 := ⟨at_35, rfl, by decide, by decide⟩
theorem L_38 : Dc code 38 (.new 8) 3 41 := ⟨at_38, rfl⟩
theorem L_41 : Dc code 41 (.dup) 1 42 := ⟨at_41, rfl⟩
theorem L_42 : Dc code 42 (.iconst 0) 1 43 := ⟨at_42, rfl⟩
theorem L_43 : Dc code 43 (.newarray .char) 2 45 := ⟨at_43, rfl⟩
theorem L_45 : Dc code 45 (.invokespecial 23) 3 48 := ⟨at_45, rfl⟩
theorem L_48 : Dc code 48 (.astore 10) 2 50 := ⟨at_48, rfl⟩
theorem L_50 : Db code 50 (.goto 128) (128) 53 178 := ⟨at_50, rfl, by decide, by decide⟩
theorem L_53 : Dc code 53 (.iload 5) 2 55 := ⟨at_53, rfl⟩
theorem L_55 : Dc code 55 (.iconst 1) 1 56 := ⟨at_55, rfl⟩
theorem L_56 : Db code 56 (.if_icmp .ne 23) (23) 59 79 := ⟨at_56, rfl, by decide, by decide⟩
theorem L_59 : Dc code 59 (.new 8) 3 62 := ⟨at_59, rfl⟩
theorem L_62 : Dc code 62 (.dup) 1 63 := ⟨at_62, rfl⟩
theorem L_63 : Dc code 63 (.iconst 1) 1 64 := ⟨at_63, rfl⟩
theorem L_64 : Dc code 64 (.newarray .char) 2 66 := ⟨at_64, rfl⟩
theorem L_66 : Dc code 66 (.dup) 1 67 := ⟨at_66, rfl⟩
theorem L_67 : Dc code 67 (.iconst 0) 1 68 := ⟨at_67, rfl⟩
theorem L_68 : Dc code 68 (.iload 6) 2 70 := ⟨at_68, rfl⟩
theorem L_70 : Dc code 70 (.castore) 1 71 := ⟨at_70, rfl⟩
theorem L_71 : Dc code 71 (.invokespecial 23) 3 74 := ⟨at_71, rfl⟩
theorem L_74 : Dc code 74 (.astore 10) 2 76 := ⟨at_74, rfl⟩
theorem L_76 : Db code 76 (.goto 102) (102) 79 178 := ⟨at_76, rfl, by decide, by decide⟩
theorem L_79 : Dc code 79 (.iload 5) 2 81 := ⟨at_79, rfl⟩
theorem L_81 : Dc code 81 (.iconst 2) 1 82 := ⟨at_81, rfl⟩
theorem L_82 : Db code 82 (.if_icmp .ne 28) (28) 85 110 := ⟨at_82, rfl, by decide, by decide⟩
theorem L_85 : Dc code 85 (.new 8) 3 88 := ⟨at_85, rfl⟩
theorem L_88 : Dc code 88 (.dup) 1 89 := ⟨at_88, rfl⟩
theorem L_89 : Dc code 89 (.iconst 2) 1 90 := ⟨at_89, rfl⟩
theorem L_90 : Dc code 90 (.newarray .char) 2 92 := ⟨at_90, rfl⟩
theorem L_92 : Dc code 92 (.dup) 1 93 := ⟨at_92, rfl⟩
theorem L_93 : Dc code 93 (.iconst 0) 1 94 := ⟨at_93, rfl⟩
theorem L_94 : Dc code 94 (.iload 6) 2 96 := ⟨at_94, rfl⟩
theorem L_96 : Dc code 96 (.castore) 1 97 := ⟨at_96, rfl⟩
theorem L_97 : Dc code 97 (.dup) 1 98 := ⟨at_97, rfl⟩
theorem L_98 : Dc code 98 (.iconst 1) 1 99 := ⟨at_98, rfl⟩
theorem L_99 : Dc code 99 (.iload 7) 2 101 := ⟨at_99, rfl⟩
theorem L_101 : Dc code 101 (.castore) 1 102 := ⟨at_101, rfl⟩
theorem L_102 : Dc code 102 (.invokespecial 23) 3 105 := ⟨at_102, rfl⟩
theorem L_105 : Dc code 105 (.astore 10) 2 107 := ⟨at_105, rfl⟩
theorem L_107 : Db code 107 (.goto 71) (71) 110 178 := ⟨at_107, rfl, by decide, by decide⟩
theorem L_110 : Dc code 110 (.iload 5) 2 112 := ⟨at_110, rfl⟩
theorem L_112 : Dc code 112 (.iconst 3) 1 113 := ⟨at_112, rfl⟩
theorem L_113 : Db code 113 (.if_icmp .ne 33) (33) 116 146 := ⟨at_113, rfl, by decide, by decide⟩
theorem L_116 : Dc code 116 (.new 8) 3 119 := ⟨at_116, rfl⟩
theorem L_119 : Dc code 119 (.dup) 1 120 := ⟨at_119, rfl⟩
theorem L_120 : Dc code 120 (.iconst 3) 1 121 := ⟨at_120, rfl⟩
theorem L_121 : Dc code 121 (.newarray .char) 2 123 := ⟨at_121, rfl⟩
theorem L_123 : Dc code 123 (.dup) 1 124 := ⟨at_123, rfl⟩
theorem L_124 : Dc code 124 (.iconst 0) 1 125 := ⟨at_124, rfl⟩
theorem L_125 : Dc code 125 (.iload 6) 2 127 := ⟨at_125, rfl⟩
theorem L_127 : Dc code 127 (.castore) 1 128 := ⟨at_127, rfl⟩
theorem L_128 : Dc code 128 (.dup) 1 129 := ⟨at_128, rfl⟩
theorem L_129 : Dc code 129 (.iconst 1) 1 130 := ⟨at_129, rfl⟩
theorem L_130 : Dc code 130 (.iload 7) 2 132 := ⟨at_130, rfl⟩
theorem L_132 : Dc code 132 (.castore) 1 133 := ⟨at_132, rfl⟩
theorem L_133 : Dc code 133 (.dup) 1 134 := ⟨at_133, rfl⟩
theorem L_134 : Dc code 134 (.iconst 2) 1 135 := ⟨at_134, rfl⟩
theorem L_135 : Dc code 135 (.iload 8) 2 137 := ⟨at_135, rfl⟩
theorem L_137 : Dc code 137 (.castore) 1 138 := ⟨at_137, rfl⟩
theorem L_138 : Dc code 138 (.invokespecial 23) 3 141 := ⟨at_138, rfl⟩
theorem L_141 : Dc code 141 (.astore 10) 2 143 := ⟨at_141, rfl⟩
theorem L_143 : Db code 143 (.goto 35) (35) 146 178 := ⟨at_143, rfl, by decide, by decide⟩
theorem L_146 : Dc code 146 (.new 8) 3 149 := ⟨at_146, rfl⟩
theorem L_149 : Dc code 149 (.dup) 1 150 := ⟨at_149, rfl⟩
theorem L_150 : Dc code 150 (.iconst 4) 1 151 := ⟨at_150, rfl⟩
theorem L_151 : Dc code 151 (.newarray .char) 2 153 := ⟨at_151, rfl⟩
theorem L_153 : Dc code 153 (.dup) 1 154 := ⟨at_153, rfl⟩
theorem L_154 : Dc code 154 (.iconst 0) 1 155 := ⟨at_154, rfl⟩
theorem L_155 : Dc code 155 (.iload 6) 2 157 := ⟨at_155, rfl⟩
theorem L_157 : Dc code 157 (.castore) 1 158 := ⟨at_157, rfl⟩
theorem L_158 : Dc code 158 (.dup) 1 159 := ⟨at_158, rfl⟩
theorem L_159 : Dc code 159 (.iconst 1) 1 160 := ⟨at_159, rfl⟩
theorem L_160 : Dc code 160 (.iload 7) 2 162 := ⟨at_160, rfl⟩
theorem L_162 : Dc code 162 (.castore) 1 163 := ⟨at_162, rfl⟩
theorem L_163 : Dc code 163 (.dup) 1 164 := ⟨at_163, rfl⟩
theorem L_164 : Dc code 164 (.iconst 2) 1 165 := ⟨at_164, rfl⟩
theorem L_165 : Dc code 165 (.iload 8) 2 167 := ⟨at_165, rfl⟩
theorem L_167 : Dc code 167 (.castore) 1 168 := ⟨at_167, rfl⟩
theorem L_168 : Dc code 168 (.dup) 1 169 := ⟨at_168, rfl⟩
theorem L_169 : Dc code 169 (.iconst 3) 1 170 := ⟨at_169, rfl⟩
theorem L_170 : Dc code 170 (.iload 9) 2 172 := ⟨at_170, rfl⟩
theorem L_172 : Dc code 172 (.castore) 1 173 := ⟨at_172, rfl⟩
theorem L_173 : Dc code 173 (.invokespecial 23) 3 176 := ⟨at_173, rfl⟩
theorem L_176 : Dc code 176 (.astore 10) 2 178 := ⟨at_176, rfl⟩
theorem pd0 : parseMethodDescriptor "([CIILjava/lang/Void;)V" = some ⟨[(.array .char), .int, .int, (.object "java/lang/Void")], none⟩ := by decide +kernel
theorem pd1 : parseMethodDescriptor "(I)I" = some ⟨[.int], some .int⟩ := by decide +kernel
theorem pd2 : parseMethodDescriptor "(I)[B" = some ⟨[.int], some (.array .byte)⟩ := by decide +kernel
theorem pd3 : parseMethodDescriptor "([BII)V" = some ⟨[(.array .byte), .int, .int], none⟩ := by decide +kernel
theorem pd4 : parseMethodDescriptor "([CI[BII)I" = some ⟨[(.array .char), .int, (.array .byte), .int, .int], some .int⟩ := by decide +kernel
theorem pd5 : parseMethodDescriptor "([CII)[B" = some ⟨[(.array .char), .int, .int], some (.array .byte)⟩ := by decide +kernel
theorem pd6 : parseMethodDescriptor "([BI)C" = some ⟨[(.array .byte), .int], some .char⟩ := by decide +kernel
theorem pd7 : parseMethodDescriptor "([BI)B" = some ⟨[(.array .byte), .int], some .byte⟩ := by decide +kernel
theorem pd8 : parseMethodDescriptor "(IILjava/util/function/BiFunction;)I" = some ⟨[.int, .int, (.object "java/util/function/BiFunction")], some .int⟩ := by decide +kernel
theorem pd9 : parseMethodDescriptor "([B)I" = some ⟨[(.array .byte)], some .int⟩ := by decide +kernel
theorem pd10 : parseMethodDescriptor "(II)V" = some ⟨[.int, .int], none⟩ := by decide +kernel
theorem pd11 : parseMethodDescriptor "(I[B)V" = some ⟨[.int, (.array .byte)], none⟩ := by decide +kernel
theorem pd12 : parseMethodDescriptor "()Z" = some ⟨[], some .boolean⟩ := by decide +kernel
theorem pd13 : parseMethodDescriptor "()B" = some ⟨[], some .byte⟩ := by decide +kernel
theorem pd14 : parseMethodDescriptor "(IIILjava/util/function/BiFunction;)I" = some ⟨[.int, .int, .int, (.object "java/util/function/BiFunction")], some .int⟩ := by decide +kernel
theorem pd15 : parseMethodDescriptor "(III)I" = some ⟨[.int, .int, .int], some .int⟩ := by decide +kernel
theorem pd16 : parseMethodDescriptor "()I" = some ⟨[], some .int⟩ := by decide +kernel
theorem pd17 : parseMethodDescriptor "(III)V" = some ⟨[.int, .int, .int], none⟩ := by decide +kernel
theorem pd18 : parseMethodDescriptor "(II)Ljava/lang/String;" = some ⟨[.int, .int], some (.object "java/lang/String")⟩ := by decide +kernel
theorem pd19 : parseMethodDescriptor "([BII)Ljava/lang/String;" = some ⟨[(.array .byte), .int, .int], some (.object "java/lang/String")⟩ := by decide +kernel
theorem pd20 : parseMethodDescriptor "(I)C" = some ⟨[.int], some .char⟩ := by decide +kernel
theorem pd21 : parseMethodDescriptor "(II)I" = some ⟨[.int, .int], some .int⟩ := by decide +kernel
theorem pd22 : parseMethodDescriptor "([BII)[B" = some ⟨[(.array .byte), .int, .int], some (.array .byte)⟩ := by decide +kernel
theorem pd23 : parseMethodDescriptor "(II[B)V" = some ⟨[.int, .int, (.array .byte)], none⟩ := by decide +kernel
theorem pd24 : parseMethodDescriptor "([BI[BII)I" = some ⟨[(.array .byte), .int, (.array .byte), .int, .int], some .int⟩ := by decide +kernel
theorem pd25 : parseMethodDescriptor "([BB)V" = some ⟨[(.array .byte), .byte], none⟩ := by decide +kernel
theorem pd26 : parseMethodDescriptor "(C)Z" = some ⟨[.char], some .boolean⟩ := by decide +kernel
theorem pd27 : parseMethodDescriptor "(Ljava/lang/String;)Ljava/lang/String;" = some ⟨[(.object "java/lang/String")], some (.object "java/lang/String")⟩ := by decide +kernel
theorem pd28 : parseMethodDescriptor "(Ljava/lang/String;IIIC)Z" = some ⟨[(.object "java/lang/String"), .int, .int, .int, .char], some .boolean⟩ := by decide +kernel
theorem pd29 : parseMethodDescriptor "([C)V" = some ⟨[(.array .char)], none⟩ := by decide +kernel
theorem pn0 : plainName "java/lang/String" = true := by first | (simp [plainName, overriddenIn]; done) | decide +kernel
theorem pn1 : plainName "java/lang/StringUTF16" = true := by first | (simp [plainName, overriddenIn]; done) | decide +kernel
theorem pn2 : plainName "jdk/internal/util/Preconditions" = true := by first | (simp [plainName, overriddenIn]; done) | decide +kernel
theorem pn3 : plainName "com/example/stowage/stowage/dicom/UidWithoutPaddingPinLaw" = true := by first | (simp [plainName, overriddenIn]; done) | decide +kernel
theorem pn4 : plainName "com/example/stowage/stowage/dicom/Uid" = true := by first | (simp [plainName, overriddenIn]; done) | decide +kernel
theorem pn5 : plainName "java/lang/StringLatin1" = true := by first | (simp [plainName, overriddenIn]; done) | decide +kernel
theorem pn6 : plainName "java/util/Arrays" = true := by first | (simp [plainName, overriddenIn]; done) | decide +kernel
def StrL (Z : State) (h : Heap) (x : Addr) (cs : List Int32) : Prop := ∃ (t : Addr) (kb : ClassId), Exa Z h x "java/lang/String" ∧ Fld Z h x "java/lang/String" "coder" "B" (.int 0) ∧ Fld Z h x "java/lang/String" "value" "[B" (.ref t) ∧ Arv Z h t kb .byte (Int32.ofNat cs.length) ((cs.map StrChars.lo8).map Value.int) (.int 0) ∧ (∀ c ∈ cs, ¬ c < 0 ∧ ¬ (255 : Int32) < c) ∧ cs.length ≤ 4000
theorem StrL.ext {Z : State} {h h' : Heap} {x : Addr} {cs : List Int32} (E : Ext h h') (S : StrL Z h x cs) : StrL Z h' x cs := by
  obtain ⟨t, kb, a, b, c, d, e, f⟩ := S
  exact ⟨t, kb, a.ext E, b.ext E, c.ext E, d.ext E, e, f⟩
theorem StrL.exa {Z : State} {h : Heap} {x : Addr} {cs : List Int32} (S : StrL Z h x cs) : Exa Z h x "java/lang/String" := by obtain ⟨t, kb, a, -⟩ := S; exact a
theorem StrL.up {Z : State} {h : Heap} {x : Addr} {cs : List Int32} (S : StrL Z h x cs) : ∀ c ∈ cs, ¬ c < 0 ∧ ¬ (65535 : Int32) < c := by obtain ⟨t, kb, -, -, -, -, e, -⟩ := S; exact fun c hc => ⟨(e c hc).1, ch_up (e c hc).2⟩

theorem hws_new {Z : State} {a0 : Array Value} (hw : ∀ d ∈ tables_1, d.before a0 Z = true) : ∀ d ∈ StrChars.Road.words, d.before a0 Z = true := fun d hd => hw d ((by decide +kernel : ∀ d ∈ StrChars.Road.words, d ∈ tables_1) d hd)

theorem hws_len {Z : State} {a0 : Array Value} (hw : ∀ d ∈ tables_1, d.before a0 Z = true) : ∀ d ∈ StrChars.Road.wordsLen, d.before a0 Z = true := fun d hd => hw d ((by decide +kernel : ∀ d ∈ StrChars.Road.wordsLen, d ∈ tables_1) d hd)

theorem hws_ch {Z : State} {a0 : Array Value} (hw : ∀ d ∈ tables_1, d.before a0 Z = true) : ∀ d ∈ StrChars.Road.wordsChN, d.before a0 Z = true := fun d hd => hw d ((by decide +kernel : ∀ d ∈ StrChars.Road.wordsChN, d ∈ tables_1) d hd)

theorem hsA {Z : State} {a0 : Array Value} (hw : ∀ d ∈ tables_1, d.before a0 Z = true) : ∀ d ∈ Bundle.stringAtoms, d.before a0 Z = true := fun d hd => hw d ((by decide +kernel : ∀ d ∈ Bundle.stringAtoms, d ∈ tables_1) d hd)

theorem cal_strN {md : Option EList} {p : Program} {l : Launch} {e : Env} {R : Room} {args : Array Value} {below : List Frame} {W : Nat} {Z : State} {a0 : Array Value} {h : Heap} {n0 : Nat} (hw : ∀ d ∈ tables_1, d.before a0 Z = true) {x b : Addr} {kC : ClassId} {cs : List Int32} {d v0 c0 : Value} {z : Int32} (n : Nat)
    (hx0 : n0 ≤ x) (hh0 : n0 ≤ h.size) (E : Exa Z h x "java/lang/String") (V : Fld Z h x "java/lang/String" "value" "[B" v0) (C : Fld Z h x "java/lang/String" "coder" "B" c0) (K : Arv Z h b kC .char (Int32.ofNat n) (cs.map Value.int) d) (S : Sta Z h "java/lang/String" "COMPACT_STRINGS" "Z" (.int z)) (hz : ¬ z = 0)
    (hn : cs.length = n) (l0 : 0 < n) (l2 : n ≤ 4000) (hp : ∀ c ∈ cs, ¬ c < 0 ∧ ¬ (255 : Int32) < c) (hfr : 4 ≤ R.frames) (hlo : W + 65 ≤ R.locals) :
    Cal md l R p e below args (⟨"java/lang/String", "<init>", "([C)V"⟩ : MethodName) 3 W Z n0 h [x] #[.ref x, .ref b] 1 n (fun v h' => v = none ∧ StrL Z h' x cs) :=
  Cal.ofBack (fun s' hZ => StrChars.Road.backV (W := W) hZ (hws_new hw) (kI := 4) (wd hw 6 rfl) (cs := cs) (bs := cs.map fun c => c.toInt8.toInt32) (n := n) (n0 := n0) hx0 hh0 E V C K S hz hn rfl l0 l2 hp rfl hfr hlo)
    (fun v h' L q => by
      obtain ⟨q1, q2, q3, q4, q5, t, kb, q6, q7, q8, q9, q10⟩ := q
      subst hn
      exact ⟨⟨q1, t, kb, q4, q5, q9, q10, hp, l2⟩, q3, q2⟩)

theorem cal_ch {md : Option EList} {p : Program} {l : Launch} {e : Env} {R : Room} {args : Array Value} {below : List Frame} {W : Nat} {Z : State} {a0 : Array Value} {h : Heap} {n0 : Nat} (hw : ∀ d ∈ tables_1, d.before a0 Z = true) {x : Addr} {cs : List Int32} {z : Int32} {fm : Value} {j : Int32} (i : Nat) (A : StrL Z h x cs) (S : Sta Z h "java/lang/String" "COMPACT_STRINGS" "Z" (.int z)) (hz : ¬ z = 0) (Sf : Sta Z h "jdk/internal/util/Preconditions" "SIOOBE_FORMATTER" "Ljava/util/function/BiFunction;" fm) (rf : fm.isRef = true) (hi : i < cs.length) (hj : j = Int32.ofNat i) (hfr : 4 ≤ R.frames) (hlo : W + 53 ≤ R.locals) :
    Cal md l R p e below args (⟨"java/lang/String", "charAt", "(I)C"⟩ : MethodName) 3 W Z n0 h [] #[.ref x, .int j] 0 0 (fun v h' => v = some (.int (cs.getD i 0))) := by
  have u1 := A.up
  obtain ⟨t, kb, a1, a2, a3, a4, a5, a6⟩ := A
  refine Cal.ofBack (Q := fun v h' L => v = some (.int (cs.getD i 0)) ∧ L = [] ∧ h' = h) (fun s' hZ => StrChars.Road.chN (W := W) hZ (hws_ch hw) (kI := 4) (wd hw 6 rfl) a1 a3 a2 a4 (StrChars.Road.codOf rfl fun c hc => (a5 c hc).2) u1 S hz Sf rf a6 hi hj hfr hlo) (fun v h' L q => ?_)
  obtain ⟨q1, rfl, rfl⟩ := q
  exact ⟨q1, Keep.refl _ _, Fr.nil _⟩

theorem cal_len {md : Option EList} {p : Program} {l : Launch} {e : Env} {R : Room} {args : Array Value} {below : List Frame} {W : Nat} {Z : State} {a0 : Array Value} {h : Heap} {n0 : Nat} (hw : ∀ d ∈ tables_1, d.before a0 Z = true) {x : Addr} {cs : List Int32} {z : Int32} (A : StrL Z h x cs) (S : Sta Z h "java/lang/String" "COMPACT_STRINGS" "Z" (.int z)) (hz : ¬ z = 0) (hfr : 2 ≤ R.frames) (hlo : W + 25 ≤ R.locals) :
    Cal md l R p e below args (⟨"java/lang/String", "length", "()I"⟩ : MethodName) 3 W Z n0 h [] #[.ref x] 0 0 (fun v h' => v = some (.int (Int32.ofNat cs.length))) := by
  have u1 := A.up
  obtain ⟨t, kb, a1, a2, a3, a4, a5, a6⟩ := A
  refine Cal.ofBack (Q := fun v h' L => v = some (.int (Int32.ofNat cs.length)) ∧ L = [] ∧ h' = h) (fun s' hZ => StrChars.Road.lenW (W := W) hZ (hws_len hw) (kI := 4) (wd hw 6 rfl) a1 a3 a2 a4 (StrChars.Road.codOf rfl fun c hc => (a5 c hc).2) u1 S hz a6 hfr hlo) (fun v h' L q => ?_)
  obtain ⟨q1, rfl, rfl⟩ := q
  exact ⟨q1, Keep.refl _ _, Fr.nil _⟩

set_option maxRecDepth 65536 in
set_option maxHeartbeats 40000000 in
theorem c_initE4 (l : Launch) (Z : State) (a0 : Array Value) (hw : ∀ d ∈ tables_1, d.before a0 Z = true) (h0 : Heap) (n0 : Nat) (Z0 : n0 ≤ h0.size) (x b : Addr) (v1 v2 : Value) (gx : n0 ≤ x) (Ex : Exa Z h0 x "java/lang/String") (F1 : Fld Z h0 x "java/lang/String" "value" "[B" v1) (F2 : Fld Z h0 x "java/lang/String" "coder" "B" v2) (hE : EW Z a0 [("java/lang/String", 7), ("java/lang/StringLatin1", 151)]) :
    Con (some [("java/lang/String", 7), ("java/lang/StringLatin1", 151)]) l (⟨"java/lang/String", "<init>", "([CIILjava/lang/Void;)V"⟩ : MethodName) jdk_42_method_149_code 6 none [] ({ frames := 1, cells := 4, slots := 8, locals := 12 } : Room) Z n0 h0 [x] #[(.ref x), (.ref b), (.int (0 : Int32)), (.int (0 : Int32)), .null] (fun v h => v = none ∧ StrL Z h x []) := by
  refine Con.intro pn0 Z0 (allS ⟨gx, Ex.lt⟩ all0) ⟨a0, hE⟩ #[.val (.ref x), .val (.ref b), .val (.int (0 : Int32)), .val (.int (0 : Int32)), .val .null, .unset] (fun m => by first | (simp [entryFrame, mkF, argsToLocals, Value.category]; done) | rfl) ?_
  intro p e s m below meth c T0 hlk hret hnm K0
  have P0 := Keep.refl h0 [x]
  refine gAloadN K0 b2_0 (v := (.ref x)) rfl rfl ?_
  refine gInitO K0 b2_1 (wd hw 16 rfl) (wd hw 17 rfl) (wd hw 18 rfl) rfl (by decide) (W := 0) (Nat.le_of_eq rfl) (by decide) (fun T101 K101 => ?_)
  refine gIloadN K101 b2_4 (v := (0 : Int32)) rfl ?_
  refine gIf_ne K101 b2_5 (fun q => absurd q (by first | decide | (intro hh; cases hh) | simp)) (fun q5 => ?_)
  refine gAloadN K101 b2_8 (v := (.ref x)) rfl rfl ?_
  refine gLdc K101 b2_9 (wd hw 19 rfl) (hsA hw) (by decide) (vs := []) (z := 0) (by decide) (by decide) (by decide) 0 (by decide) (by decide) (by decide) (by decide) (fun T102 h102 a102 b102 kA102 K102 E102 Ea102 Fc102 Fv102 Ab102 ne102 => ?_)
  have P103 := P0.ext E102
  refine gGet K102 b2_11 (wd hw 25 rfl) Fv102 (fun T104 K104 => ?_)
  refine gPut K104 b2_14 (wd hw 25 rfl) (me 0 rfl) (F1.ext E102) (Ex.ext E102) (Or.inr ⟨(wd hw 21 rfl), rfl, hnm⟩) (wd hw 6 rfl) (ty := (.array .byte)) (by decide) rfl rfl (fun T105 h105 K105 W105 F105 => ?_)
  have P106 := P103.trans (Keep.of_wr W105) (fun z q => by cases List.mem_singleton.mp q; exact Or.inl (me 0 rfl))
  have F107 := Fld.other W105 (F2.ext E102) (Or.inr (slot_ne (C := "java/lang/String") (a0 := a0) (Or.inr (wd hw 22 rfl)) (Or.inr (wd hw 21 rfl)) (by decide) (by decide : parseFieldDescriptor _ = some .byte) (by decide : parseFieldDescriptor _ = some (.array .byte))))
  have A108 := Exa.wr W105 (Ex.ext E102)
  refine gAloadN K105 b2_17 (v := (.ref x)) rfl rfl ?_
  refine gLdc K105 b2_18 (wd hw 19 rfl) (hsA hw) (by decide) (vs := []) (z := 0) (by decide) (by decide) (by decide) 0 (by decide) (by decide) (by decide) (by decide) (fun T109 h109 a109 b109 kA109 K109 E109 Ea109 Fc109 Fv109 Ab109 ne109 => ?_)
  have P110 := P106.ext E109
  refine gGet K109 b2_20 (wd hw 26 rfl) Fc109 (fun T111 K111 => ?_)
  refine gPut K111 b2_23 (wd hw 26 rfl) (me 0 rfl) (F107.ext E109) (A108.ext E109) (Or.inr ⟨(wd hw 22 rfl), rfl, hnm⟩) (wd hw 6 rfl) (ty := .byte) (by decide) rfl rfl (fun T112 h112 K112 W112 F112 => ?_)
  have P113 := P110.trans (Keep.of_wr W112) (fun z q => by cases List.mem_singleton.mp q; exact Or.inl (me 0 rfl))
  have F114 := Fld.other W112 (F105.ext E109) (Or.inr (slot_ne (C := "java/lang/String") (a0 := a0) (Or.inr (wd hw 21 rfl)) (Or.inr (wd hw 22 rfl)) (by decide) (by decide : parseFieldDescriptor _ = some (.array .byte)) (by decide : parseFieldDescriptor _ = some .byte)))
  have A115 := Exa.wr W112 (A108.ext E109)
  refine gRetV K112 hlk hret b2_26 P113 (by decide) (by decide) ?_
  exact ⟨rfl, b102, _, A115, F112, F114, (((Ab102.keep (Keep.of_wr W105) (ninS (ne102 x (me 0 rfl)).2.symm nin0)).ext E109).keep (Keep.of_wr W112) (ninS (ne102 x (me 0 rfl)).2.symm nin0)), (fun _ q => nomatch q), by decide⟩
set_option maxRecDepth 65536 in
set_option maxHeartbeats 40000000 in
theorem c_initE1 (l : Launch) (Z : State) (a0 : Array Value) (hw : ∀ d ∈ tables_1, d.before a0 Z = true) (h0 : Heap) (n0 : Nat) (Z0 : n0 ≤ h0.size) (x b : Addr) (kC : ClassId) (vs : List Value) (dv : Value) (v1 v2 : Value) (gx : n0 ≤ x) (Ex : Exa Z h0 x "java/lang/String") (F1 : Fld Z h0 x "java/lang/String" "value" "[B" v1) (F2 : Fld Z h0 x "java/lang/String" "coder" "B" v2) (Ab : Arv Z h0 b kC .char 0 vs dv) (hE : EW Z a0 [("java/lang/String", 7), ("java/lang/StringLatin1", 151)]) :
    Con (some [("java/lang/String", 7), ("java/lang/StringLatin1", 151)]) l (⟨"java/lang/String", "<init>", "([C)V"⟩ : MethodName) jdk_42_method_3_code 2 none [] ({ frames := 2, cells := 4, slots := 8, locals := 29 } : Room) Z n0 h0 [x] #[(.ref x), (.ref b)] (fun v h => v = none ∧ StrL Z h x []) := by
  refine Con.intro pn0 Z0 (allS ⟨gx, Ex.lt⟩ all0) ⟨a0, hE⟩ #[.val (.ref x), .val (.ref b)] (fun m => by first | (simp [entryFrame, mkF, argsToLocals, Value.category]; done) | rfl) ?_
  intro p e s m below meth c T0 hlk hret hnm K0
  have P0 := Keep.refl h0 [x]
  refine gAloadN K0 b1_0 (v := (.ref x)) rfl rfl ?_
  refine gAloadN K0 b1_1 (v := (.ref b)) rfl rfl ?_
  refine gIconst K0 (0 : Int32) b1_2 rfl ?_
  refine gAloadN K0 b1_3 (v := (.ref b)) rfl rfl ?_
  refine gLen K0 b1_4 Ab ?_
  refine gNull K0 b1_5 ?_
  refine gCallI K0 (W := 0) x [(.ref b), (.int (0 : Int32)), (.int (0 : Int32)), .null] [] b1_6 rfl (wd hw 12 rfl) (wd hw 13 rfl) (wd hw 15 rfl) (Cal.ofW (W := 0) (c_initE4 l Z a0 hw h0 n0 K0.n0le x b v1 v2 gx Ex F1 F2 hE) (wd hw 15 rfl) (wd hw 7 rfl) (by decide) (by decide)) (fun z q => by cases List.mem_singleton.mp q; exact (me 0 rfl)) pd0 rfl rfl (Nat.le_of_eq rfl) rfl (by decide) (by decide) (by decide) (fun v101 T101 h101 K101 Q101 q101 => ?_)
  have P102 := P0.trans Q101 (fun z q => by cases List.mem_singleton.mp q; exact Or.inl (me 0 rfl))
  obtain ⟨rfl, St101⟩ := q101
  refine gRetV K101 hlk hret b1_9 P102 (by decide) (by decide) ?_
  exact ⟨rfl, St101⟩
theorem cal_str {p : Program} {l : Launch} {e : Env} {R : Room} {args : Array Value} {below : List Frame} {W : Nat} {Z : State} {a0 : Array Value} {h : Heap} {n0 : Nat} (hw : ∀ d ∈ tables_1, d.before a0 Z = true) (hE : EW Z a0 [("java/lang/String", 7), ("java/lang/StringLatin1", 151)]) {x b : Addr} {kC : ClassId} {cs : List Int32} {d v0 c0 : Value} {z : Int32} (n : Nat)
    (hx0 : n0 ≤ x) (hh0 : n0 ≤ h.size) (E : Exa Z h x "java/lang/String") (V : Fld Z h x "java/lang/String" "value" "[B" v0) (C : Fld Z h x "java/lang/String" "coder" "B" c0) (K : Arv Z h b kC .char (Int32.ofNat n) (cs.map Value.int) d) (S : Sta Z h "java/lang/String" "COMPACT_STRINGS" "Z" (.int z)) (hz : ¬ z = 0)
    (hn : cs.length = n) (l2 : n ≤ 4000) (hp : ∀ c ∈ cs, ¬ c < 0 ∧ ¬ (255 : Int32) < c) (hfr : 4 ≤ R.frames) (hlo : W + 65 ≤ R.locals) (ks : Nat) (hk1 : n ≤ ks) (hk2 : 8 ≤ ks) :
    Cal (some [("java/lang/String", 7), ("java/lang/StringLatin1", 151)]) l R p e below args (⟨"java/lang/String", "<init>", "([C)V"⟩ : MethodName) 3 W Z n0 h [x] #[.ref x, .ref b] 4 ks (fun v h' => v = none ∧ StrL Z h' x cs) := by
  by_cases h0 : n = 0
  · subst h0
    obtain rfl : cs = [] := List.length_eq_zero_iff.mp hn
    exact Cal.mono (Cal.ofW (W := W) (c_initE1 l Z a0 hw h n0 hh0 x b kC _ d v0 c0 hx0 E V C K hE) (wd hw 11 rfl) (wd hw 7 rfl) (Nat.le_trans (by decide) hfr) (Nat.le_trans (show W + (2 + 11) + 29 ≤ W + 65 by omega) hlo)) (by decide) hk2 (fun _ _ q => q)
  · exact Cal.mono (cal_strN hw n hx0 hh0 E V C K S hz hn (Nat.pos_of_ne_zero h0) l2 hp hfr hlo) (by decide) hk1 (fun _ _ q => q)

def StrU (Z : State) (h : Heap) (x : Addr) (cs : List Int32) : Prop := ∃ (t : Addr) (kb : ClassId), Exa Z h x "java/lang/String" ∧ Fld Z h x "java/lang/String" "coder" "B" (.int 1) ∧ Fld Z h x "java/lang/String" "value" "[B" (.ref t) ∧ Arv Z h t kb .byte (Int32.ofNat (2 * cs.length)) (StrChars.Road.wideBytes cs) (.int 0) ∧ (∀ c ∈ cs, ¬ c < 0 ∧ ¬ (65535 : Int32) < c) ∧ (∃ c ∈ cs, (255 : Int32) < c) ∧ cs.length ≤ 4000
theorem StrU.ext {Z : State} {h h' : Heap} {x : Addr} {cs : List Int32} (E : Ext h h') (S : StrU Z h x cs) : StrU Z h' x cs := by
  obtain ⟨t, kb, a, b, c, d, e⟩ := S
  exact ⟨t, kb, a.ext E, b.ext E, c.ext E, d.ext E, e⟩
def StrA (Z : State) (h : Heap) (x : Addr) (cs : List Int32) : Prop := StrL Z h x cs ∨ StrU Z h x cs
theorem StrA.ext {Z : State} {h h' : Heap} {x : Addr} {cs : List Int32} (E : Ext h h') (S : StrA Z h x cs) : StrA Z h' x cs := S.imp (fun q => q.ext E) (fun q => q.ext E)
theorem StrA.exa {Z : State} {h : Heap} {x : Addr} {cs : List Int32} (S : StrA Z h x cs) : Exa Z h x "java/lang/String" := by
  rcases S with ⟨t, kb, a, -⟩ | ⟨t, kb, a, -⟩ <;> exact a
theorem StrA.up {Z : State} {h : Heap} {x : Addr} {cs : List Int32} (S : StrA Z h x cs) : ∀ c ∈ cs, ¬ c < 0 ∧ ¬ (65535 : Int32) < c := by
  rcases S with q | ⟨t, kb, -, -, -, -, e, -⟩
  · exact q.up
  · exact e
theorem StrA.le {Z : State} {h : Heap} {x : Addr} {cs : List Int32} (S : StrA Z h x cs) : cs.length ≤ 4000 := by
  rcases S with ⟨t, kb, -, -, -, -, -, e⟩ | ⟨t, kb, -, -, -, -, -, -, e⟩ <;> exact e
/-- StringUTF16's three statics, as the sheet says them -/
def US (Z : State) (h : Heap) : Prop := Sta Z h "java/lang/StringUTF16" "$assertionsDisabled" "Z" (.int 1) ∧ Sta Z h "java/lang/StringUTF16" "HI_BYTE_SHIFT" "I" (.int 0) ∧ Sta Z h "java/lang/StringUTF16" "LO_BYTE_SHIFT" "I" (.int 8)
theorem US.ext {Z : State} {h h' : Heap} (E : Ext h h') (u : US Z h) : US Z h' := ⟨u.1.ext E, u.2.1.ext E, u.2.2.ext E⟩
theorem US.kp {Z : State} {h h' : Heap} {ws : List Addr} (u : US Z h) (K : Keep h h' ws) (hn : ∀ x ∈ ws, ∀ cell : Cell, h[x]? = some cell → cell.vm.isStatics = false) : US Z h' := ⟨Sta.kp u.1 K hn, Sta.kp u.2.1 K hn, Sta.kp u.2.2 K hn⟩

set_option maxRecDepth 65536 in
set_option maxHeartbeats 40000000 in
theorem c_putChar (l : Launch) (Z : State) (a0 : Array Value) (hw : ∀ d ∈ tables_1, d.before a0 Z = true) (h0 : Heap) (n0 : Nat) (Z0 : n0 ≤ h0.size) (bb : Addr) (kA : ClassId) (vs : List Value) (k N : Nat) (cc : Int32) (gb : n0 ≤ bb) (Ab : Arv Z h0 bb kA .byte (Int32.ofNat (2 * N)) vs (.int 0)) (hl : vs.length = 2 * k) (hk : k < N) (hN : N ≤ 4000) (u : US Z h0) :
    Con none l (⟨"java/lang/StringUTF16", "putChar", "([BII)V"⟩ : MethodName) jdk_52_method_4_code 3 none [] ({ frames := 0, cells := 0, slots := 0, locals := 0 } : Room) Z n0 h0 [bb] #[(.ref bb), (.int (Int32.ofNat k)), (.int cc)] (fun v h => v = none ∧ Arv Z h bb kA .byte (Int32.ofNat (2 * N)) ((vs ++ [.int (StrChars.lo8 cc)]) ++ [.int (StrChars.hi8 cc)]) (.int 0)) := by
  refine Con.intro pn1 Z0 (allS ⟨gb, Ab.lt⟩ all0) trivial #[.val (.ref bb), .val (.int (Int32.ofNat k)), .val (.int cc)] (fun m => by first | (simp [entryFrame, mkF, argsToLocals, Value.category]; done) | rfl) ?_
  intro p e s m below meth c T0 hlk hret hnm K0
  have P0 := Keep.refl h0 [bb]
  refine gGetS K0 b29_0 (wd hw 133 rfl) u.1 (fun T101 K101 => ?_)
  refine gIf_ne K101 b29_3 (fun q3 => ?_) (fun q => absurd q (by first | decide | (intro hh; cases hh) | simp))
  refine gIloadN K101 b29_28 (v := (Int32.ofNat k)) rfl ?_
  refine gIconst K101 (1 : Int32) b29_29 rfl ?_
  refine gIshl K101 b29_30 ?_
  rw [show ((Int32.ofNat k) <<< ((1 : Int32) &&& 31)) = Int32.ofNat (2 * k) from shl1 (by omega)]
  refine gIstoreN K101 b29_31 (Ls' := #[.val (.ref bb), .val (.int (Int32.ofNat (2 * k))), .val (.int cc)]) rfl ?_
  refine gAloadN K101 b29_32 (v := (.ref bb)) rfl rfl ?_
  refine gIloadN K101 b29_33 (v := (Int32.ofNat (2 * k))) rfl ?_
  refine gIinc K101 (1 : Int32) b29_34 rfl (x := (Int32.ofNat (2 * k))) rfl (Ls' := #[.val (.ref bb), .val (.int ((Int32.ofNat (2 * k)) + (1 : Int32))), .val (.int cc)]) rfl ?_
  rw [show ((Int32.ofNat (2 * k)) + (1 : Int32)) = Int32.ofNat (2 * k + 1) from ofNat_s (by omega)]
  refine gIloadN K101 b29_37 (v := cc) rfl ?_
  refine gGetS K101 b29_38 (wd hw 134 rfl) u.2.1 (fun T102 K102 => ?_)
  refine gIshr K102 b29_41 ?_
  refine gI2b K102 b29_42 ?_
  refine gBastore K102 b29_43 (me 0 rfl) Ab ((ofNat_clamp (by omega)).trans hl.symm) ⟨ofNat_nn (by omega), ofNat_ltI (by omega) (by omega)⟩ (fun T103 h103 K103 Q103 A103 => ?_)
  have u103 := US.kp u Q103 (nsS (Arv.nostat Ab) ns0)
  rw [show nar .byte ((cc >>> ((0 : Int32) &&& 31))).toInt8.toInt32 = StrChars.lo8 cc from (by rw [shr0]; exact nar_b2 cc)] at A103
  have P104 := P0.trans Q103 (fun z q => by cases List.mem_singleton.mp q; exact Or.inl (me 0 rfl))
  refine gAloadN K103 b29_44 (v := (.ref bb)) rfl rfl ?_
  refine gIloadN K103 b29_45 (v := (Int32.ofNat (2 * k + 1))) rfl ?_
  refine gIloadN K103 b29_46 (v := cc) rfl ?_
  refine gGetS K103 b29_47 (wd hw 135 rfl) (u103).2.2 (fun T105 K105 => ?_)
  refine gIshr K105 b29_50 ?_
  refine gI2b K105 b29_51 ?_
  refine gBastore K105 b29_52 (me 0 rfl) A103 ((ofNat_clamp (by omega)).trans (by simp [hl])) ⟨ofNat_nn (by omega), ofNat_ltI (by omega) (by omega)⟩ (fun T106 h106 K106 Q106 A106 => ?_)
  rw [show nar .byte ((cc >>> ((8 : Int32) &&& 31))).toInt8.toInt32 = StrChars.hi8 cc from nar_b2 _] at A106
  have P107 := P104.trans Q106 (fun z q => by cases List.mem_singleton.mp q; exact Or.inl (me 0 rfl))
  refine gRetV K106 hlk hret b29_53 P107 (by decide) (by decide) ?_
  exact ⟨rfl, A106⟩
set_option maxRecDepth 65536 in
set_option maxHeartbeats 40000000 in
theorem c_getChar (l : Launch) (Z : State) (a0 : Array Value) (hw : ∀ d ∈ tables_1, d.before a0 Z = true) (h0 : Heap) (n0 : Nat) (Z0 : n0 ≤ h0.size) (bb : Addr) (kA : ClassId) (cs : List Int32) (k : Nat) (Ab : Arv Z h0 bb kA .byte (Int32.ofNat (2 * cs.length)) (StrChars.Road.wideBytes cs) (.int 0)) (hp : ∀ c ∈ cs, ¬ c < 0 ∧ ¬ (65535 : Int32) < c) (hk : k < cs.length) (hN : cs.length ≤ 4000) (u : US Z h0) :
    Con none l (⟨"java/lang/StringUTF16", "getChar", "([BI)C"⟩ : MethodName) jdk_52_method_5_code 2 (some .char) [] ({ frames := 0, cells := 0, slots := 0, locals := 0 } : Room) Z n0 h0 [] #[(.ref bb), (.int (Int32.ofNat k))] (fun v h => v = some (.int (cs.getD k 0))) := by
  refine Con.intro pn1 Z0 (fun _ q => nomatch q) trivial #[.val (.ref bb), .val (.int (Int32.ofNat k))] (fun m => by first | (simp [entryFrame, mkF, argsToLocals, Value.category]; done) | rfl) ?_
  intro p e s m below meth c T0 hlk hret hnm K0
  have P0 := Keep.refl h0 []
  refine gGetS K0 b30_0 (wd hw 133 rfl) u.1 (fun T101 K101 => ?_)
  refine gIf_ne K101 b30_3 (fun q3 => ?_) (fun q => absurd q (by first | decide | (intro hh; cases hh) | simp))
  refine gIloadN K101 b30_28 (v := (Int32.ofNat k)) rfl ?_
  refine gIconst K101 (1 : Int32) b30_29 rfl ?_
  refine gIshl K101 b30_30 ?_
  rw [show ((Int32.ofNat k) <<< ((1 : Int32) &&& 31)) = Int32.ofNat (2 * k) from shl1 (by omega)]
  refine gIstoreN K101 b30_31 (Ls' := #[.val (.ref bb), .val (.int (Int32.ofNat (2 * k)))]) rfl ?_
  refine gAloadN K101 b30_32 (v := (.ref bb)) rfl rfl ?_
  refine gIloadN K101 b30_33 (v := (Int32.ofNat (2 * k))) rfl ?_
  refine gIinc K101 (1 : Int32) b30_34 rfl (x := (Int32.ofNat (2 * k))) rfl (Ls' := #[.val (.ref bb), .val (.int ((Int32.ofNat (2 * k)) + (1 : Int32)))]) rfl ?_
  rw [show ((Int32.ofNat (2 * k)) + (1 : Int32)) = Int32.ofNat (2 * k + 1) from ofNat_s (by omega)]
  refine gBaload K101 b30_37 Ab ⟨ofNat_nn (by omega), ofNat_ltI (by omega) (by omega)⟩ (v := .int (StrChars.lo8 (cs.getD k 0))) (by rw [ofNat_clamp (by omega)]; exact StrChars.Road.wide_lo _ cs k hk) ?_
  refine gSipush K101 (255 : Int32) b30_38 rfl ?_
  refine gIand K101 b30_41 ?_
  refine gGetS K101 b30_42 (wd hw 134 rfl) u.2.1 (fun T102 K102 => ?_)
  refine gIshl K102 b30_45 ?_
  refine gAloadN K102 b30_46 (v := (.ref bb)) rfl rfl ?_
  refine gIloadN K102 b30_47 (v := (Int32.ofNat (2 * k + 1))) rfl ?_
  refine gBaload K102 b30_48 Ab ⟨ofNat_nn (by omega), ofNat_ltI (by omega) (by omega)⟩ (v := .int (StrChars.hi8 (cs.getD k 0))) (by rw [ofNat_clamp (by omega)]; exact StrChars.Road.wide_hi _ cs k hk) ?_
  refine gSipush K102 (255 : Int32) b30_49 rfl ?_
  refine gIand K102 b30_52 ?_
  refine gGetS K102 b30_53 (wd hw 135 rfl) u.2.2 (fun T103 K103 => ?_)
  refine gIshl K103 b30_56 ?_
  refine gIor K103 b30_57 ?_
  refine gI2c K103 b30_58 ?_
  rw [show (((((StrChars.lo8 (cs.getD k 0)) &&& (255 : Int32)) <<< ((0 : Int32) &&& 31)) ||| (((StrChars.hi8 (cs.getD k 0)) &&& (255 : Int32)) <<< ((8 : Int32) &&& 31)))).toUInt32.toUInt16.toUInt32.toInt32 = cs.getD k 0 from StrChars.pair_says (getD_bd16 hp k).1 (getD_bd16 hp k).2]
  refine gRetI K103 hlk hret (by simp) b30_59 (narrow_c16 (getD_bd16 hp k)) P0 (by decide) (by decide) ?_
  exact rfl
set_option maxRecDepth 65536 in
set_option maxHeartbeats 40000000 in
theorem c_nbl1 (l : Launch) (Z : State) (a0 : Array Value) (hw : ∀ d ∈ tables_1, d.before a0 Z = true) (h0 : Heap) (n0 : Nat) (Z0 : n0 ≤ h0.size)  :
    Con none l (⟨"java/lang/StringUTF16", "newBytesLength", "(I)I"⟩ : MethodName) jdk_52_method_3_code 1 (some .int) [] ({ frames := 0, cells := 0, slots := 0, locals := 0 } : Room) Z n0 h0 [] #[(.int (1 : Int32))] (fun v h => v = some (.int (2 : Int32))) := by
  refine Con.intro pn1 Z0 (fun _ q => nomatch q) trivial #[.val (.int (1 : Int32))] (fun m => by first | (simp [entryFrame, mkF, argsToLocals, Value.category]; done) | rfl) ?_
  intro p e s m below meth c T0 hlk hret hnm K0
  have P0 := Keep.refl h0 []
  refine gIloadN K0 b28_0 (v := (1 : Int32)) rfl ?_
  refine gIf_ge K0 b28_1 (fun q1 => ?_) (fun q => absurd q (by first | decide | (intro hh; cases hh) | simp))
  refine gIloadN K0 b28_12 (v := (1 : Int32)) rfl ?_
  refine gLdcI K0 (1073741823 : Int32) b28_13 (wd hw 129 rfl) ?_
  refine gIcmp_lt K0 b28_15 (fun q15 => ?_) (fun q => absurd q (by first | decide | (intro hh; cases hh) | simp))
  refine gIloadN K0 b28_55 (v := (1 : Int32)) rfl ?_
  refine gIconst K0 (1 : Int32) b28_56 rfl ?_
  refine gIshlV K0 (2 : Int32) b28_57 (by decide) ?_
  refine gRetI K0 hlk hret (by simp) b28_58 rfl P0 (by decide) (by decide) ?_
  exact rfl
set_option maxRecDepth 65536 in
set_option maxHeartbeats 40000000 in
theorem c_nbf1 (l : Launch) (Z : State) (a0 : Array Value) (hw : ∀ d ∈ tables_1, d.before a0 Z = true) (h0 : Heap) (n0 : Nat) (Z0 : n0 ≤ h0.size)  :
    Con none l (⟨"java/lang/StringUTF16", "newBytesFor", "(I)[B"⟩ : MethodName) jdk_52_method_2_code 1 (some (.array .byte)) [] ({ frames := 1, cells := 1, slots := 2, locals := 12 } : Room) Z n0 h0 [] #[(.int (1 : Int32))] (fun v h => ∃ (b : Addr) (kA : ClassId), v = some (.ref b) ∧ h0.size ≤ b ∧ Arv Z h b kA .byte (2 : Int32) [] (.int 0)) := by
  refine Con.intro pn1 Z0 (fun _ q => nomatch q) trivial #[.val (.int (1 : Int32))] (fun m => by first | (simp [entryFrame, mkF, argsToLocals, Value.category]; done) | rfl) ?_
  intro p e s m below meth c T0 hlk hret hnm K0
  have P0 := Keep.refl h0 []
  refine gIloadN K0 b27_0 (v := (1 : Int32)) rfl ?_
  refine gCallS K0 (W := 0) [(.int (1 : Int32))] [] b27_1 (wd hw 126 rfl) (wd hw 127 rfl) (wd hw 62 rfl) (wd hw 128 rfl) (Cal.ofN (W := 0) (c_nbl1 l Z a0 hw h0 n0 K0.n0le) (wd hw 128 rfl) (wd hw 62 rfl) (by decide) (by decide)) (fun _ q => nomatch q) pd1 rfl rfl (Nat.le_of_eq rfl) rfl (by decide) (by decide) (by decide) (fun v101 T101 h101 K101 Q101 q101 => ?_)
  have E101 := Ext.of0 Q101
  have P102 := P0.ext E101
  cases q101
  refine gNewarr K101 b27_4 (wd hw 20 rfl) (by decide) 2 (by decide) (by decide) (by decide) (by decide) (fun T103 h103 x103 kA103 K103 E103 g103 A103 ne103 => ?_)
  have P104 := P102.ext E103
  have ge_x103 : h0.size ≤ x103 := by rw [g103]; exact P102.1
  refine gRetA K103 hlk hret rfl rfl b27_6 P104 (by decide) (by decide) ?_
  exact ⟨_, _, rfl, ge_x103, A103⟩
set_option maxRecDepth 65536 in
set_option maxHeartbeats 40000000 in
theorem c_toB1 (l : Launch) (Z : State) (a0 : Array Value) (hw : ∀ d ∈ tables_1, d.before a0 Z = true) (h0 : Heap) (n0 : Nat) (Z0 : n0 ≤ h0.size) (ca : Addr) (kC : ClassId) (dv : Value) (c0 : Int32) (Ac : Arv Z h0 ca kC .char (1 : Int32) [.int c0] dv)  (u : US Z h0) :
    Con none l (⟨"java/lang/StringUTF16", "toBytes", "([CII)[B"⟩ : MethodName) jdk_52_method_14_code 5 (some (.array .byte)) [] ({ frames := 2, cells := 1, slots := 2, locals := 24 } : Room) Z n0 h0 [] #[(.ref ca), (.int (0 : Int32)), (.int (1 : Int32))] (fun v h => ∃ (b : Addr) (kA : ClassId), v = some (.ref b) ∧ h0.size ≤ b ∧ Arv Z h b kA .byte (Int32.ofNat (2 * 1)) (StrChars.Road.wideBytes [c0]) (.int 0)) := by
  refine Con.intro pn1 Z0 (fun _ q => nomatch q) trivial #[.val (.ref ca), .val (.int (0 : Int32)), .val (.int (1 : Int32)), .unset, .unset] (fun m => by first | (simp [entryFrame, mkF, argsToLocals, Value.category]; done) | rfl) ?_
  intro p e s m below meth c T0 hlk hret hnm K0
  have P0 := Keep.refl h0 []
  refine gIloadN K0 b26_0 (v := (1 : Int32)) rfl ?_
  refine gCallS K0 (W := 0) [(.int (1 : Int32))] [] b26_1 (wd hw 123 rfl) (wd hw 124 rfl) (wd hw 62 rfl) (wd hw 125 rfl) (Cal.ofN (W := 0) (c_nbf1 l Z a0 hw h0 n0 K0.n0le) (wd hw 125 rfl) (wd hw 62 rfl) (by decide) (by decide)) (fun _ q => nomatch q) pd2 rfl rfl (Nat.le_of_eq rfl) rfl (by decide) (by decide) (by decide) (fun v101 T101 h101 K101 Q101 q101 => ?_)
  have E101 := Ext.of0 Q101
  have P102 := P0.ext E101
  obtain ⟨bb, kb, rfl, gb, Ab⟩ := q101
  have K103 := Cx.addN K101 (Nat.le_trans Z0 gb) Ab.lt
  refine gAstoreN K103 b26_4 rfl (Ls' := #[.val (.ref ca), .val (.int (0 : Int32)), .val (.int (1 : Int32)), .val (.ref bb), .unset]) rfl ?_
  refine gIconst K103 (0 : Int32) b26_5 rfl ?_
  refine gIstore K103 b26_6 (Ls' := #[.val (.ref ca), .val (.int (0 : Int32)), .val (.int (1 : Int32)), .val (.ref bb), .val (.int (0 : Int32))]) rfl ?_
  refine gIload K103 b26_8 (v := (0 : Int32)) rfl ?_
  refine gIloadN K103 b26_10 (v := (1 : Int32)) rfl ?_
  refine gIcmp_ge K103 b26_11 (fun q => absurd q (by first | decide | (intro hh; cases hh) | simp)) (fun q11 => ?_)
  refine gAloadN K103 b26_14 (v := (.ref bb)) rfl rfl ?_
  refine gIload K103 b26_15 (v := (0 : Int32)) rfl ?_
  refine gAloadN K103 b26_17 (v := (.ref ca)) rfl rfl ?_
  refine gIloadN K103 b26_18 (v := (0 : Int32)) rfl ?_
  refine gCaload K103 b26_19 (Ac.ext E101) (by decide) (v := .int c0) rfl ?_
  refine gCallS K103 (W := 0) [(.ref bb), (.int (0 : Int32)), (.int c0)] [] b26_20 (wd hw 130 rfl) (wd hw 131 rfl) (wd hw 62 rfl) (wd hw 132 rfl) (Cal.ofN (W := 0) (c_putChar l Z a0 hw h101 n0 K103.n0le bb kb _ 0 1 c0 (Nat.le_trans Z0 gb) Ab rfl (by decide) (by decide) (u.ext E101)) (wd hw 132 rfl) (wd hw 62 rfl) (by decide) (by decide)) (fun z q => by cases List.mem_singleton.mp q; exact (me 0 rfl)) pd3 rfl rfl (Nat.le_of_eq rfl) rfl (by decide) (by decide) (by decide) (fun v104 T104 h104 K104 Q104 q104 => ?_)
  have P105 := P102.trans Q104 (fun z q => by cases List.mem_singleton.mp q; exact Or.inr gb)
  obtain ⟨rfl, A104⟩ := q104
  have u104 := US.kp (u.ext E101) Q104 (nsS (Arv.nostat Ab) ns0)
  refine gIinc K104 (1 : Int32) b26_23 rfl (x := (0 : Int32)) rfl (Ls' := #[.val (.ref ca), .val (.int (1 : Int32)), .val (.int (1 : Int32)), .val (.ref bb), .val (.int (0 : Int32))]) rfl ?_
  refine gIinc K104 (1 : Int32) b26_26 rfl (x := (0 : Int32)) rfl (Ls' := #[.val (.ref ca), .val (.int (1 : Int32)), .val (.int (1 : Int32)), .val (.ref bb), .val (.int (1 : Int32))]) rfl ?_
  refine gGoto K104 b26_29 ?_
  refine gIload K104 b26_8 (v := (1 : Int32)) rfl ?_
  refine gIloadN K104 b26_10 (v := (1 : Int32)) rfl ?_
  refine gIcmp_ge K104 b26_11 (fun q11 => ?_) (fun q => absurd q (by first | decide | (intro hh; cases hh) | simp))
  refine gAloadN K104 b26_32 (v := (.ref bb)) rfl rfl ?_
  refine gRetA K104 hlk hret rfl rfl b26_33 P105 (by decide) (by decide) ?_
  exact ⟨bb, kb, rfl, gb, A104⟩
theorem noHi {cs : List Int32} (h : ∀ c ∈ cs, ¬ (255 : Int32) < c) : ¬ ∃ c ∈ cs, (255 : Int32) < c := fun ⟨c, hc, q⟩ => h c hc q
set_option maxRecDepth 65536 in
set_option maxHeartbeats 40000000 in
theorem c_cmp5_1 (l : Launch) (Z : State) (a0 : Array Value) (hw : ∀ d ∈ tables_1, d.before a0 Z = true) (h0 : Heap) (n0 : Nat) (Z0 : n0 ≤ h0.size) (ca : Addr) (kC : ClassId) (dv : Value) (c0 : Int32) (Ac : Arv Z h0 ca kC .char (1 : Int32) [.int c0] dv) (hb0 : ¬ c0 < 0 ∧ ¬ (65535 : Int32) < c0) (u : US Z h0) (dd : Addr) (kD : ClassId) (gd : n0 ≤ dd) (Ad : Arv Z h0 dd kD .byte (1 : Int32) [] (.int 0)) (hcd : ca ≠ dd) (hu : ∃ c ∈ [c0], (255 : Int32) < c) :
    Con none l (⟨"java/lang/StringUTF16", "compress", "([CI[BII)I"⟩ : MethodName) jdk_52_method_21_code 7 (some .int) [] ({ frames := 0, cells := 0, slots := 0, locals := 0 } : Room) Z n0 h0 [dd] #[(.ref ca), (.int (0 : Int32)), (.ref dd), (.int (0 : Int32)), (.int (1 : Int32))] (fun v h => ∃ j : Nat, v = some (.int (Int32.ofNat j)) ∧ j < 1 ∧ (255 : Int32) < [c0].getD j 0) := by
  refine Con.intro pn1 Z0 (allS ⟨gd, Ad.lt⟩ all0) trivial #[.val (.ref ca), .val (.int (0 : Int32)), .val (.ref dd), .val (.int (0 : Int32)), .val (.int (1 : Int32)), .unset, .unset] (fun m => by first | (simp [entryFrame, mkF, argsToLocals, Value.category]; done) | rfl) ?_
  intro p e s m below meth c T0 hlk hret hnm K0
  have P0 := Keep.refl h0 [dd]
  refine gIconst K0 (0 : Int32) b12_0 rfl ?_
  refine gIstore K0 b12_1 (Ls' := #[.val (.ref ca), .val (.int (0 : Int32)), .val (.ref dd), .val (.int (0 : Int32)), .val (.int (1 : Int32)), .val (.int (0 : Int32)), .unset]) rfl ?_
  refine gIload K0 b12_3 (v := (0 : Int32)) rfl ?_
  refine gIload K0 b12_5 (v := (1 : Int32)) rfl ?_
  refine gIcmp_ge K0 b12_7 (fun q => absurd q (by first | decide | (intro hh; cases hh) | simp)) (fun q7 => ?_)
  refine gAloadN K0 b12_10 (v := (.ref ca)) rfl rfl ?_
  refine gIloadN K0 b12_11 (v := (0 : Int32)) rfl ?_
  refine gCaload K0 b12_12 Ac (by decide) (v := .int c0) rfl ?_
  refine gIstore K0 b12_13 (Ls' := #[.val (.ref ca), .val (.int (0 : Int32)), .val (.ref dd), .val (.int (0 : Int32)), .val (.int (1 : Int32)), .val (.int (0 : Int32)), .val (.int c0)]) rfl ?_
  refine gIload K0 b12_15 (v := c0) rfl ?_
  refine gSipush K0 (255 : Int32) b12_17 rfl ?_
  refine gIcmp_le K0 b12_20 (fun hl_c0 => ?_) (fun hl_c0 => ?_)
  · skip
    refine gAloadN K0 b12_26 (v := (.ref dd)) rfl rfl ?_
    refine gIloadN K0 b12_27 (v := (0 : Int32)) rfl ?_
    refine gIload K0 b12_28 (v := c0) rfl ?_
    refine gI2b K0 b12_30 ?_
    refine gBastore K0 b12_31 (me 0 rfl) Ad rfl (by decide) (fun T101 h101 K101 Q101 A101 => ?_)
    have P102 := P0.trans Q101 (fun z q => by cases List.mem_singleton.mp q; exact Or.inl (me 0 rfl))
    refine gIinc K101 (1 : Int32) b12_32 rfl (x := (0 : Int32)) rfl (Ls' := #[.val (.ref ca), .val (.int (1 : Int32)), .val (.ref dd), .val (.int (0 : Int32)), .val (.int (1 : Int32)), .val (.int (0 : Int32)), .val (.int c0)]) rfl ?_
    refine gIinc K101 (1 : Int32) b12_35 rfl (x := (0 : Int32)) rfl (Ls' := #[.val (.ref ca), .val (.int (1 : Int32)), .val (.ref dd), .val (.int (1 : Int32)), .val (.int (1 : Int32)), .val (.int (0 : Int32)), .val (.int c0)]) rfl ?_
    refine gIinc K101 (1 : Int32) b12_38 rfl (x := (0 : Int32)) rfl (Ls' := #[.val (.ref ca), .val (.int (1 : Int32)), .val (.ref dd), .val (.int (1 : Int32)), .val (.int (1 : Int32)), .val (.int (1 : Int32)), .val (.int c0)]) rfl ?_
    refine gGoto K101 b12_41 ?_
    refine gIload K101 b12_3 (v := (1 : Int32)) rfl ?_
    refine gIload K101 b12_5 (v := (1 : Int32)) rfl ?_
    refine gIcmp_ge K101 b12_7 (fun q7 => ?_) (fun q => absurd q (by first | decide | (intro hh; cases hh) | simp))
    refine gIload K101 b12_44 (v := (1 : Int32)) rfl ?_
    exact absurd hu (noHi (allI hl_c0 allI0))
  · skip
    refine gIload K0 b12_23 (v := (0 : Int32)) rfl ?_
    refine gRetI K0 hlk hret (by simp) b12_25 rfl P0 (by decide) (by decide) ?_
    exact ⟨0, rfl, by decide, hl_c0⟩
set_option maxRecDepth 65536 in
set_option maxHeartbeats 40000000 in
theorem c_cmp3_1 (l : Launch) (Z : State) (a0 : Array Value) (hw : ∀ d ∈ tables_1, d.before a0 Z = true) (h0 : Heap) (n0 : Nat) (Z0 : n0 ≤ h0.size) (ca : Addr) (kC : ClassId) (dv : Value) (c0 : Int32) (Ac : Arv Z h0 ca kC .char (1 : Int32) [.int c0] dv) (hb0 : ¬ c0 < 0 ∧ ¬ (65535 : Int32) < c0) (u : US Z h0) (hu : ∃ c ∈ [c0], (255 : Int32) < c) :
    Con none l (⟨"java/lang/StringUTF16", "compress", "([CII)[B"⟩ : MethodName) jdk_52_method_16_code 6 (some (.array .byte)) [] ({ frames := 3, cells := 2, slots := 3, locals := 40 } : Room) Z n0 h0 [] #[(.ref ca), (.int (0 : Int32)), (.int (1 : Int32))] (fun v h => ∃ (b : Addr) (kA : ClassId), v = some (.ref b) ∧ h0.size ≤ b ∧ Arv Z h b kA .byte (Int32.ofNat (2 * 1)) (StrChars.Road.wideBytes [c0]) (.int 0)) := by
  refine Con.intro pn1 Z0 (fun _ q => nomatch q) trivial #[.val (.ref ca), .val (.int (0 : Int32)), .val (.int (1 : Int32)), .unset, .unset, .unset] (fun m => by first | (simp [entryFrame, mkF, argsToLocals, Value.category]; done) | rfl) ?_
  intro p e s m below meth c T0 hlk hret hnm K0
  have P0 := Keep.refl h0 []
  refine gIloadN K0 b11_0 (v := (1 : Int32)) rfl ?_
  refine gNewarr K0 b11_1 (wd hw 20 rfl) (by decide) 1 (by decide) (by decide) (by decide) (by decide) (fun T101 h101 x101 kA101 K101 E101 g101 A101 ne101 => ?_)
  have P102 := P0.ext E101
  have ge_x101 : h0.size ≤ x101 := by rw [g101]; exact P0.1
  refine gAstoreN K101 b11_3 rfl (Ls' := #[.val (.ref ca), .val (.int (0 : Int32)), .val (.int (1 : Int32)), .val (.ref x101), .unset, .unset]) rfl ?_
  refine gAloadN K101 b11_4 (v := (.ref ca)) rfl rfl ?_
  refine gIloadN K101 b11_5 (v := (0 : Int32)) rfl ?_
  refine gAloadN K101 b11_6 (v := (.ref x101)) rfl rfl ?_
  refine gIconst K101 (0 : Int32) b11_7 rfl ?_
  refine gIloadN K101 b11_8 (v := (1 : Int32)) rfl ?_
  refine gCallS K101 (W := 0) [(.ref ca), (.int (0 : Int32)), (.ref x101), (.int (0 : Int32)), (.int (1 : Int32))] [] b11_9 (wd hw 64 rfl) (wd hw 65 rfl) (wd hw 62 rfl) (wd hw 66 rfl) (Cal.ofN (W := 0) (c_cmp5_1 l Z a0 hw h101 n0 K101.n0le ca kC dv c0 (Ac.ext E101) hb0 (u.ext E101) x101 _ (K101.wsge (me 0 rfl)) A101 (Nat.ne_of_lt (Nat.lt_of_lt_of_le Ac.lt ge_x101)) hu) (wd hw 66 rfl) (wd hw 62 rfl) (by decide) (by decide)) (fun z q => by cases List.mem_singleton.mp q; exact (me 0 rfl)) pd4 rfl rfl (Nat.le_of_eq rfl) rfl (by decide) (by decide) (by decide) (fun v103 T103 h103 K103 Q103 q103 => ?_)
  have P104 := P102.trans Q103 (fun z q => by cases List.mem_singleton.mp q; exact Or.inr ge_x101)
  obtain ⟨j, rfl, hj, hcj⟩ := q103
  refine gIstore K103 b11_12 (Ls' := #[.val (.ref ca), .val (.int (0 : Int32)), .val (.int (1 : Int32)), .val (.ref x101), .val (.int (Int32.ofNat j)), .unset]) rfl ?_
  refine gIload K103 b11_14 (v := (Int32.ofNat j)) rfl ?_
  refine gIloadN K103 b11_16 (v := (1 : Int32)) rfl ?_
  refine gIcmp_eq K103 b11_17 (fun q => absurd q (ofNat_ne hj (by decide))) (fun q17 => ?_)
  refine gAloadN K103 b11_20 (v := (.ref ca)) rfl rfl ?_
  refine gIloadN K103 b11_21 (v := (0 : Int32)) rfl ?_
  refine gIloadN K103 b11_22 (v := (1 : Int32)) rfl ?_
  refine gCallS K103 (W := 0) [(.ref ca), (.int (0 : Int32)), (.int (1 : Int32))] [] b11_23 (wd hw 120 rfl) (wd hw 121 rfl) (wd hw 62 rfl) (wd hw 122 rfl) (Cal.ofN (W := 0) (c_toB1 l Z a0 hw h103 n0 K103.n0le ca kC dv c0 (Ac.ext (Ext.kp1 E101 Q103 (Nat.le_of_eq g101.symm))) (u.ext (Ext.kp1 E101 Q103 (Nat.le_of_eq g101.symm)))) (wd hw 122 rfl) (wd hw 62 rfl) (by decide) (by decide)) (fun _ q => nomatch q) pd5 rfl rfl (Nat.le_of_eq rfl) rfl (by decide) (by decide) (by decide) (fun v105 T105 h105 K105 Q105 q105 => ?_)
  have E105 := Ext.of0 Q105
  have P106 := P104.ext E105
  obtain ⟨bb, kb, rfl, gb, Ab⟩ := q105
  have gb0 : h0.size ≤ bb := Nat.le_trans P104.1 gb
  refine gAstore K105 b11_26 rfl (Ls' := #[.val (.ref ca), .val (.int (0 : Int32)), .val (.int (1 : Int32)), .val (.ref x101), .val (.int (Int32.ofNat j)), .val (.ref bb)]) rfl ?_
  refine gAload K105 b11_28 (v := (.ref bb)) rfl rfl ?_
  refine gIload K105 b11_30 (v := (Int32.ofNat j)) rfl ?_
  refine gCallS K105 (W := 0) [(.ref bb), (.int (Int32.ofNat j))] [] b11_32 (wd hw 136 rfl) (wd hw 137 rfl) (wd hw 62 rfl) (wd hw 138 rfl) (Cal.ofN (W := 0) (c_getChar l Z a0 hw h105 n0 K105.n0le bb kb [c0] j Ab (allI hb0 allI0) hj (Nat.le_of_ble_eq_true rfl) (u.ext (Ext.tr (Ext.kp1 E101 Q103 (Nat.le_of_eq g101.symm)) E105))) (wd hw 138 rfl) (wd hw 62 rfl) (by decide) (by decide)) (fun _ q => nomatch q) pd6 rfl rfl (Nat.le_of_eq rfl) rfl (by decide) (by decide) (by decide) (fun v107 T107 h107 K107 Q107 q107 => ?_)
  have E107 := Ext.of0 Q107
  have P108 := P106.ext E107
  cases q107
  refine gSipush K107 (255 : Int32) b11_35 rfl ?_
  refine gIcmp_gt K107 b11_38 (fun q38 => ?_) (fun q => absurd q (not_not_intro hcj))
  refine gAload K107 b11_54 (v := (.ref bb)) rfl rfl ?_
  refine gRetA K107 hlk hret rfl rfl b11_56 P108 (by decide) (by decide) ?_
  exact ⟨bb, kb, rfl, gb0, (Ab.ext E107)⟩
set_option maxRecDepth 65536 in
set_option maxHeartbeats 40000000 in
theorem c_cfa1 (l : Launch) (Z : State) (a0 : Array Value) (hw : ∀ d ∈ tables_1, d.before a0 Z = true) (h0 : Heap) (n0 : Nat) (Z0 : n0 ≤ h0.size) (bb : Addr) (kA : ClassId) (vs : List Value) (dv : Value) (Ab : Arv Z h0 bb kA .byte (2 : Int32) vs dv) :
    Con none l (⟨"java/lang/StringUTF16", "coderFromArrayLen", "([BI)B"⟩ : MethodName) jdk_52_method_15_code 2 (some .byte) [] ({ frames := 0, cells := 0, slots := 0, locals := 0 } : Room) Z n0 h0 [] #[(.ref bb), (.int (1 : Int32))] (fun v h => v = some (.int 1)) := by
  refine Con.intro pn1 Z0 (fun _ q => nomatch q) trivial #[.val (.ref bb), .val (.int (1 : Int32))] (fun m => by first | (simp [entryFrame, mkF, argsToLocals, Value.category]; done) | rfl) ?_
  intro p e s m below meth c T0 hlk hret hnm K0
  have P0 := Keep.refl h0 []
  refine gIloadN K0 b13_0 (v := (1 : Int32)) rfl ?_
  refine gAloadN K0 b13_1 (v := (.ref bb)) rfl rfl ?_
  refine gLen K0 b13_2 Ab ?_
  refine gIsubV K0 (-1 : Int32) b13_3 (by decide) ?_
  refine gBipush K0 (31 : Int32) b13_4 rfl ?_
  refine gIushr K0 b13_6 ?_
  refine gI2b K0 b13_7 ?_
  rw [show ((XT.ushr (-1 : Int32) (31 : Int32))).toInt8.toInt32 = 1 from by decide]
  refine gRetI K0 hlk hret (by simp) b13_8 rfl P0 (by decide) (by decide) ?_
  exact rfl
set_option maxRecDepth 65536 in
set_option maxHeartbeats 40000000 in
theorem c_iU4_1 (l : Launch) (Z : State) (a0 : Array Value) (hw : ∀ d ∈ tables_1, d.before a0 Z = true) (h0 : Heap) (n0 : Nat) (Z0 : n0 ≤ h0.size) (ca : Addr) (kC : ClassId) (dv : Value) (c0 : Int32) (Ac : Arv Z h0 ca kC .char (1 : Int32) [.int c0] dv) (hb0 : ¬ c0 < 0 ∧ ¬ (65535 : Int32) < c0) (u : US Z h0) (hu : ∃ c ∈ [c0], (255 : Int32) < c) (z : Int32) (Sc : Sta Z h0 "java/lang/String" "COMPACT_STRINGS" "Z" (.int z)) (hz : ¬ z = 0) (x : Addr) (v1 v2 : Value) (gx : n0 ≤ x) (Ex : Exa Z h0 x "java/lang/String") (F1 : Fld Z h0 x "java/lang/String" "value" "[B" v1) (F2 : Fld Z h0 x "java/lang/String" "coder" "B" v2) :
    Con none l (⟨"java/lang/String", "<init>", "([CIILjava/lang/Void;)V"⟩ : MethodName) jdk_42_method_149_code 6 none [] ({ frames := 4, cells := 2, slots := 3, locals := 57 } : Room) Z n0 h0 [x] #[(.ref x), (.ref ca), (.int (0 : Int32)), (.int (1 : Int32)), .null] (fun v h => v = none ∧ StrU Z h x [c0]) := by
  refine Con.intro pn0 Z0 (allS ⟨gx, Ex.lt⟩ all0) trivial #[.val (.ref x), .val (.ref ca), .val (.int (0 : Int32)), .val (.int (1 : Int32)), .val .null, .unset] (fun m => by first | (simp [entryFrame, mkF, argsToLocals, Value.category]; done) | rfl) ?_
  intro p e s m below meth c T0 hlk hret hnm K0
  have P0 := Keep.refl h0 [x]
  refine gAloadN K0 b2_0 (v := (.ref x)) rfl rfl ?_
  refine gInitO K0 b2_1 (wd hw 16 rfl) (wd hw 17 rfl) (wd hw 18 rfl) rfl (by decide) (W := 0) (Nat.le_of_eq rfl) (by decide) (fun T101 K101 => ?_)
  refine gIloadN K101 b2_4 (v := (1 : Int32)) rfl ?_
  refine gIf_ne K101 b2_5 (fun q5 => ?_) (fun q => absurd q (by first | decide | (intro hh; cases hh) | simp))
  refine gGetS K101 b2_27 (wd hw 41 rfl) Sc (fun T102 K102 => ?_)
  refine gIf_eq K102 b2_30 (fun q => absurd q hz) (fun q30 => ?_)
  refine gAloadN K102 b2_33 (v := (.ref ca)) rfl rfl ?_
  refine gIloadN K102 b2_34 (v := (0 : Int32)) rfl ?_
  refine gIloadN K102 b2_35 (v := (1 : Int32)) rfl ?_
  refine gCallS K102 (W := 0) [(.ref ca), (.int (0 : Int32)), (.int (1 : Int32))] [] b2_36 (wd hw 60 rfl) (wd hw 61 rfl) (wd hw 62 rfl) (wd hw 63 rfl) (Cal.ofN (W := 0) (c_cmp3_1 l Z a0 hw h0 n0 K102.n0le ca kC dv c0 Ac hb0 u hu) (wd hw 63 rfl) (wd hw 62 rfl) (by decide) (by decide)) (fun _ q => nomatch q) pd5 rfl rfl (Nat.le_of_eq rfl) rfl (by decide) (by decide) (by decide) (fun v103 T103 h103 K103 Q103 q103 => ?_)
  have E103 := Ext.of0 Q103
  have P104 := P0.ext E103
  obtain ⟨bb, kb, rfl, gb, Ab⟩ := q103
  refine gAstore K103 b2_39 rfl (Ls' := #[.val (.ref x), .val (.ref ca), .val (.int (0 : Int32)), .val (.int (1 : Int32)), .val .null, .val (.ref bb)]) rfl ?_
  refine gAloadN K103 b2_41 (v := (.ref x)) rfl rfl ?_
  refine gAload K103 b2_42 (v := (.ref bb)) rfl rfl ?_
  refine gIloadN K103 b2_44 (v := (1 : Int32)) rfl ?_
  refine gCallS K103 (W := 1) [(.ref bb), (.int (1 : Int32))] [(.ref x)] b2_45 (wd hw 67 rfl) (wd hw 68 rfl) (wd hw 62 rfl) (wd hw 69 rfl) (Cal.ofN (W := 1) (c_cfa1 l Z a0 hw h103 n0 K103.n0le bb kb _ _ Ab) (wd hw 69 rfl) (wd hw 62 rfl) (by decide) (by decide)) (fun _ q => nomatch q) pd7 rfl rfl (Nat.le_of_eq rfl) rfl (by decide) (by decide) (by decide) (fun v105 T105 h105 K105 Q105 q105 => ?_)
  have E105 := Ext.of0 Q105
  have P106 := P104.ext E105
  cases q105
  refine gPut K105 b2_48 (wd hw 26 rfl) (me 0 rfl) (F2.ext (Ext.tr E103 E105)) (Ex.ext (Ext.tr E103 E105)) (Or.inr ⟨(wd hw 22 rfl), rfl, hnm⟩) (wd hw 6 rfl) (ty := .byte) (by decide) rfl rfl (fun T107 h107 K107 W107 F107 => ?_)
  have P108 := P106.trans (Keep.of_wr W107) (fun z q => by cases List.mem_singleton.mp q; exact Or.inl (me 0 rfl))
  have F109 := Fld.other W107 (F1.ext (Ext.tr E103 E105)) (Or.inr (slot_ne (C := "java/lang/String") (a0 := a0) (Or.inr (wd hw 21 rfl)) (Or.inr (wd hw 22 rfl)) (by decide) (by decide : parseFieldDescriptor _ = some (.array .byte)) (by decide : parseFieldDescriptor _ = some .byte)))
  have A110 := Exa.wr W107 (Ex.ext (Ext.tr E103 E105))
  refine gAloadN K107 b2_51 (v := (.ref x)) rfl rfl ?_
  refine gAload K107 b2_52 (v := (.ref bb)) rfl rfl ?_
  refine gPut K107 b2_54 (wd hw 25 rfl) (me 0 rfl) F109 A110 (Or.inr ⟨(wd hw 21 rfl), rfl, hnm⟩) (wd hw 6 rfl) (ty := (.array .byte)) (by decide) rfl rfl (fun T111 h111 K111 W111 F111 => ?_)
  have P112 := P108.trans (Keep.of_wr W111) (fun z q => by cases List.mem_singleton.mp q; exact Or.inl (me 0 rfl))
  have F113 := Fld.other W111 F107 (Or.inr (slot_ne (C := "java/lang/String") (a0 := a0) (Or.inr (wd hw 22 rfl)) (Or.inr (wd hw 21 rfl)) (by decide) (by decide : parseFieldDescriptor _ = some .byte) (by decide : parseFieldDescriptor _ = some (.array .byte))))
  have A114 := Exa.wr W111 A110
  refine gRetV K111 hlk hret b2_57 P112 (by decide) (by decide) ?_
  exact ⟨rfl, bb, kb, A114, F113, F111, (((Ab.ext E105).keep (Keep.of_wr W107) (ninS (Nat.ne_of_gt (Nat.lt_of_lt_of_le Ex.lt gb)) nin0)).keep (Keep.of_wr W111) (ninS (Nat.ne_of_gt (Nat.lt_of_lt_of_le Ex.lt gb)) nin0)), (allI hb0 allI0), hu, Nat.le_of_ble_eq_true rfl⟩
set_option maxRecDepth 65536 in
set_option maxHeartbeats 40000000 in
theorem c_iU1_1 (l : Launch) (Z : State) (a0 : Array Value) (hw : ∀ d ∈ tables_1, d.before a0 Z = true) (h0 : Heap) (n0 : Nat) (Z0 : n0 ≤ h0.size) (ca : Addr) (kC : ClassId) (dv : Value) (c0 : Int32) (Ac : Arv Z h0 ca kC .char (1 : Int32) [.int c0] dv) (hb0 : ¬ c0 < 0 ∧ ¬ (65535 : Int32) < c0) (u : US Z h0) (hu : ∃ c ∈ [c0], (255 : Int32) < c) (z : Int32) (Sc : Sta Z h0 "java/lang/String" "COMPACT_STRINGS" "Z" (.int z)) (hz : ¬ z = 0) (x : Addr) (v1 v2 : Value) (gx : n0 ≤ x) (Ex : Exa Z h0 x "java/lang/String") (F1 : Fld Z h0 x "java/lang/String" "value" "[B" v1) (F2 : Fld Z h0 x "java/lang/String" "coder" "B" v2) :
    Con none l (⟨"java/lang/String", "<init>", "([C)V"⟩ : MethodName) jdk_42_method_3_code 2 none [] ({ frames := 5, cells := 2, slots := 3, locals := 74 } : Room) Z n0 h0 [x] #[(.ref x), (.ref ca)] (fun v h => v = none ∧ StrU Z h x [c0]) := by
  refine Con.intro pn0 Z0 (allS ⟨gx, Ex.lt⟩ all0) trivial #[.val (.ref x), .val (.ref ca)] (fun m => by first | (simp [entryFrame, mkF, argsToLocals, Value.category]; done) | rfl) ?_
  intro p e s m below meth c T0 hlk hret hnm K0
  have P0 := Keep.refl h0 [x]
  refine gAloadN K0 b1_0 (v := (.ref x)) rfl rfl ?_
  refine gAloadN K0 b1_1 (v := (.ref ca)) rfl rfl ?_
  refine gIconst K0 (0 : Int32) b1_2 rfl ?_
  refine gAloadN K0 b1_3 (v := (.ref ca)) rfl rfl ?_
  refine gLen K0 b1_4 Ac ?_
  refine gNull K0 b1_5 ?_
  refine gCallI K0 (W := 0) x [(.ref ca), (.int (0 : Int32)), (.int (1 : Int32)), .null] [] b1_6 rfl (wd hw 12 rfl) (wd hw 13 rfl) (wd hw 15 rfl) (Cal.ofN (W := 0) (c_iU4_1 l Z a0 hw h0 n0 K0.n0le ca kC dv c0 Ac hb0 u hu z Sc hz x v1 v2 gx Ex F1 F2) (wd hw 15 rfl) (wd hw 7 rfl) (by decide) (by decide)) (fun z q => by cases List.mem_singleton.mp q; exact (me 0 rfl)) pd0 rfl rfl (Nat.le_of_eq rfl) rfl (by decide) (by decide) (by decide) (fun v101 T101 h101 K101 Q101 q101 => ?_)
  have P102 := P0.trans Q101 (fun z q => by cases List.mem_singleton.mp q; exact Or.inl (me 0 rfl))
  obtain ⟨rfl, Su⟩ := q101
  refine gRetV K101 hlk hret b1_9 P102 (by decide) (by decide) ?_
  exact ⟨rfl, Su⟩
theorem cal_strA1 {p : Program} {l : Launch} {e : Env} {R : Room} {args : Array Value} {below : List Frame} {W : Nat} {Z : State} {a0 : Array Value} {h : Heap} {n0 : Nat} (hw : ∀ d ∈ tables_1, d.before a0 Z = true) {x b : Addr} {kC : ClassId} {c0 : Int32} {d v0 c0' : Value} {z : Int32}
    (hx0 : n0 ≤ x) (hh0 : n0 ≤ h.size) (E : Exa Z h x "java/lang/String") (V : Fld Z h x "java/lang/String" "value" "[B" v0) (C : Fld Z h x "java/lang/String" "coder" "B" c0') (K : Arv Z h b kC .char (1 : Int32) [.int c0] d) (S : Sta Z h "java/lang/String" "COMPACT_STRINGS" "Z" (.int z)) (hz : ¬ z = 0) (u : US Z h)
    (hb0 : ¬ c0 < 0 ∧ ¬ (65535 : Int32) < c0) (hfr : 6 ≤ R.frames) (hlo : W + 87 ≤ R.locals) :
    Cal (some [("java/lang/String", 7), ("java/lang/StringLatin1", 151)]) l R p e below args (⟨"java/lang/String", "<init>", "([C)V"⟩ : MethodName) 3 W Z n0 h [x] #[.ref x, .ref b] 2 3 (fun v h' => v = none ∧ StrA Z h' x [c0]) := by
  by_cases hu : ∃ c ∈ [c0], (255 : Int32) < c
  · exact Cal.mono (Cal.ofN (W := W) (c_iU1_1 l Z a0 hw h n0 hh0 b kC d c0 K hb0 u hu z S hz x v0 c0' hx0 E V C) (wd hw 11 rfl) (wd hw 7 rfl) hfr (Nat.le_trans (show W + (2 + 11) + 74 ≤ W + 87 by omega) hlo)) (Nat.le_refl _) (Nat.le_refl _) (fun _ _ q => ⟨q.1, Or.inr q.2⟩)
  · exact Cal.mono (cal_strN hw (cs := [c0]) 1 hx0 hh0 E V C K S hz rfl (by decide) (by decide) (fun c hc => ⟨((((allI hb0 allI0) : ∀ c ∈ [c0], ¬ c < 0 ∧ ¬ (65535 : Int32) < c)) c hc).1, fun q => hu ⟨c, hc, q⟩⟩) (Nat.le_trans (by decide) hfr) (by omega)) (by decide) (by decide) (fun _ _ q => ⟨q.1, Or.inl q.2⟩)

set_option maxRecDepth 65536 in
set_option maxHeartbeats 40000000 in
theorem c_nbl2 (l : Launch) (Z : State) (a0 : Array Value) (hw : ∀ d ∈ tables_1, d.before a0 Z = true) (h0 : Heap) (n0 : Nat) (Z0 : n0 ≤ h0.size)  :
    Con none l (⟨"java/lang/StringUTF16", "newBytesLength", "(I)I"⟩ : MethodName) jdk_52_method_3_code 1 (some .int) [] ({ frames := 0, cells := 0, slots := 0, locals := 0 } : Room) Z n0 h0 [] #[(.int (2 : Int32))] (fun v h => v = some (.int (4 : Int32))) := by
  refine Con.intro pn1 Z0 (fun _ q => nomatch q) trivial #[.val (.int (2 : Int32))] (fun m => by first | (simp [entryFrame, mkF, argsToLocals, Value.category]; done) | rfl) ?_
  intro p e s m below meth c T0 hlk hret hnm K0
  have P0 := Keep.refl h0 []
  refine gIloadN K0 b28_0 (v := (2 : Int32)) rfl ?_
  refine gIf_ge K0 b28_1 (fun q1 => ?_) (fun q => absurd q (by first | decide | (intro hh; cases hh) | simp))
  refine gIloadN K0 b28_12 (v := (2 : Int32)) rfl ?_
  refine gLdcI K0 (1073741823 : Int32) b28_13 (wd hw 129 rfl) ?_
  refine gIcmp_lt K0 b28_15 (fun q15 => ?_) (fun q => absurd q (by first | decide | (intro hh; cases hh) | simp))
  refine gIloadN K0 b28_55 (v := (2 : Int32)) rfl ?_
  refine gIconst K0 (1 : Int32) b28_56 rfl ?_
  refine gIshlV K0 (4 : Int32) b28_57 (by decide) ?_
  refine gRetI K0 hlk hret (by simp) b28_58 rfl P0 (by decide) (by decide) ?_
  exact rfl
set_option maxRecDepth 65536 in
set_option maxHeartbeats 40000000 in
theorem c_nbf2 (l : Launch) (Z : State) (a0 : Array Value) (hw : ∀ d ∈ tables_1, d.before a0 Z = true) (h0 : Heap) (n0 : Nat) (Z0 : n0 ≤ h0.size)  :
    Con none l (⟨"java/lang/StringUTF16", "newBytesFor", "(I)[B"⟩ : MethodName) jdk_52_method_2_code 1 (some (.array .byte)) [] ({ frames := 1, cells := 1, slots := 4, locals := 12 } : Room) Z n0 h0 [] #[(.int (2 : Int32))] (fun v h => ∃ (b : Addr) (kA : ClassId), v = some (.ref b) ∧ h0.size ≤ b ∧ Arv Z h b kA .byte (4 : Int32) [] (.int 0)) := by
  refine Con.intro pn1 Z0 (fun _ q => nomatch q) trivial #[.val (.int (2 : Int32))] (fun m => by first | (simp [entryFrame, mkF, argsToLocals, Value.category]; done) | rfl) ?_
  intro p e s m below meth c T0 hlk hret hnm K0
  have P0 := Keep.refl h0 []
  refine gIloadN K0 b27_0 (v := (2 : Int32)) rfl ?_
  refine gCallS K0 (W := 0) [(.int (2 : Int32))] [] b27_1 (wd hw 126 rfl) (wd hw 127 rfl) (wd hw 62 rfl) (wd hw 128 rfl) (Cal.ofN (W := 0) (c_nbl2 l Z a0 hw h0 n0 K0.n0le) (wd hw 128 rfl) (wd hw 62 rfl) (by decide) (by decide)) (fun _ q => nomatch q) pd1 rfl rfl (Nat.le_of_eq rfl) rfl (by decide) (by decide) (by decide) (fun v101 T101 h101 K101 Q101 q101 => ?_)
  have E101 := Ext.of0 Q101
  have P102 := P0.ext E101
  cases q101
  refine gNewarr K101 b27_4 (wd hw 20 rfl) (by decide) 4 (by decide) (by decide) (by decide) (by decide) (fun T103 h103 x103 kA103 K103 E103 g103 A103 ne103 => ?_)
  have P104 := P102.ext E103
  have ge_x103 : h0.size ≤ x103 := by rw [g103]; exact P102.1
  refine gRetA K103 hlk hret rfl rfl b27_6 P104 (by decide) (by decide) ?_
  exact ⟨_, _, rfl, ge_x103, A103⟩
set_option maxRecDepth 65536 in
set_option maxHeartbeats 40000000 in
theorem c_toB2 (l : Launch) (Z : State) (a0 : Array Value) (hw : ∀ d ∈ tables_1, d.before a0 Z = true) (h0 : Heap) (n0 : Nat) (Z0 : n0 ≤ h0.size) (ca : Addr) (kC : ClassId) (dv : Value) (c0 c1 : Int32) (Ac : Arv Z h0 ca kC .char (2 : Int32) [.int c0, .int c1] dv)  (u : US Z h0) :
    Con none l (⟨"java/lang/StringUTF16", "toBytes", "([CII)[B"⟩ : MethodName) jdk_52_method_14_code 5 (some (.array .byte)) [] ({ frames := 2, cells := 1, slots := 4, locals := 24 } : Room) Z n0 h0 [] #[(.ref ca), (.int (0 : Int32)), (.int (2 : Int32))] (fun v h => ∃ (b : Addr) (kA : ClassId), v = some (.ref b) ∧ h0.size ≤ b ∧ Arv Z h b kA .byte (Int32.ofNat (2 * 2)) (StrChars.Road.wideBytes [c0, c1]) (.int 0)) := by
  refine Con.intro pn1 Z0 (fun _ q => nomatch q) trivial #[.val (.ref ca), .val (.int (0 : Int32)), .val (.int (2 : Int32)), .unset, .unset] (fun m => by first | (simp [entryFrame, mkF, argsToLocals, Value.category]; done) | rfl) ?_
  intro p e s m below meth c T0 hlk hret hnm K0
  have P0 := Keep.refl h0 []
  refine gIloadN K0 b26_0 (v := (2 : Int32)) rfl ?_
  refine gCallS K0 (W := 0) [(.int (2 : Int32))] [] b26_1 (wd hw 123 rfl) (wd hw 124 rfl) (wd hw 62 rfl) (wd hw 125 rfl) (Cal.ofN (W := 0) (c_nbf2 l Z a0 hw h0 n0 K0.n0le) (wd hw 125 rfl) (wd hw 62 rfl) (by decide) (by decide)) (fun _ q => nomatch q) pd2 rfl rfl (Nat.le_of_eq rfl) rfl (by decide) (by decide) (by decide) (fun v101 T101 h101 K101 Q101 q101 => ?_)
  have E101 := Ext.of0 Q101
  have P102 := P0.ext E101
  obtain ⟨bb, kb, rfl, gb, Ab⟩ := q101
  have K103 := Cx.addN K101 (Nat.le_trans Z0 gb) Ab.lt
  refine gAstoreN K103 b26_4 rfl (Ls' := #[.val (.ref ca), .val (.int (0 : Int32)), .val (.int (2 : Int32)), .val (.ref bb), .unset]) rfl ?_
  refine gIconst K103 (0 : Int32) b26_5 rfl ?_
  refine gIstore K103 b26_6 (Ls' := #[.val (.ref ca), .val (.int (0 : Int32)), .val (.int (2 : Int32)), .val (.ref bb), .val (.int (0 : Int32))]) rfl ?_
  refine gIload K103 b26_8 (v := (0 : Int32)) rfl ?_
  refine gIloadN K103 b26_10 (v := (2 : Int32)) rfl ?_
  refine gIcmp_ge K103 b26_11 (fun q => absurd q (by first | decide | (intro hh; cases hh) | simp)) (fun q11 => ?_)
  refine gAloadN K103 b26_14 (v := (.ref bb)) rfl rfl ?_
  refine gIload K103 b26_15 (v := (0 : Int32)) rfl ?_
  refine gAloadN K103 b26_17 (v := (.ref ca)) rfl rfl ?_
  refine gIloadN K103 b26_18 (v := (0 : Int32)) rfl ?_
  refine gCaload K103 b26_19 (Ac.ext E101) (by decide) (v := .int c0) rfl ?_
  refine gCallS K103 (W := 0) [(.ref bb), (.int (0 : Int32)), (.int c0)] [] b26_20 (wd hw 130 rfl) (wd hw 131 rfl) (wd hw 62 rfl) (wd hw 132 rfl) (Cal.ofN (W := 0) (c_putChar l Z a0 hw h101 n0 K103.n0le bb kb _ 0 2 c0 (Nat.le_trans Z0 gb) Ab rfl (by decide) (by decide) (u.ext E101)) (wd hw 132 rfl) (wd hw 62 rfl) (by decide) (by decide)) (fun z q => by cases List.mem_singleton.mp q; exact (me 0 rfl)) pd3 rfl rfl (Nat.le_of_eq rfl) rfl (by decide) (by decide) (by decide) (fun v104 T104 h104 K104 Q104 q104 => ?_)
  have P105 := P102.trans Q104 (fun z q => by cases List.mem_singleton.mp q; exact Or.inr gb)
  obtain ⟨rfl, A104⟩ := q104
  have u104 := US.kp (u.ext E101) Q104 (nsS (Arv.nostat Ab) ns0)
  refine gIinc K104 (1 : Int32) b26_23 rfl (x := (0 : Int32)) rfl (Ls' := #[.val (.ref ca), .val (.int (1 : Int32)), .val (.int (2 : Int32)), .val (.ref bb), .val (.int (0 : Int32))]) rfl ?_
  refine gIinc K104 (1 : Int32) b26_26 rfl (x := (0 : Int32)) rfl (Ls' := #[.val (.ref ca), .val (.int (1 : Int32)), .val (.int (2 : Int32)), .val (.ref bb), .val (.int (1 : Int32))]) rfl ?_
  refine gGoto K104 b26_29 ?_
  refine gIload K104 b26_8 (v := (1 : Int32)) rfl ?_
  refine gIloadN K104 b26_10 (v := (2 : Int32)) rfl ?_
  refine gIcmp_ge K104 b26_11 (fun q => absurd q (by first | decide | (intro hh; cases hh) | simp)) (fun q11 => ?_)
  refine gAloadN K104 b26_14 (v := (.ref bb)) rfl rfl ?_
  refine gIload K104 b26_15 (v := (1 : Int32)) rfl ?_
  refine gAloadN K104 b26_17 (v := (.ref ca)) rfl rfl ?_
  refine gIloadN K104 b26_18 (v := (1 : Int32)) rfl ?_
  refine gCaload K104 b26_19 (Ac.ext (Ext.kp1 E101 Q104 gb)) (by decide) (v := .int c1) rfl ?_
  refine gCallS K104 (W := 0) [(.ref bb), (.int (1 : Int32)), (.int c1)] [] b26_20 (wd hw 130 rfl) (wd hw 131 rfl) (wd hw 62 rfl) (wd hw 132 rfl) (Cal.ofN (W := 0) (c_putChar l Z a0 hw h104 n0 K104.n0le bb kb _ 1 2 c1 (Nat.le_trans Z0 gb) A104 rfl (by decide) (by decide) u104) (wd hw 132 rfl) (wd hw 62 rfl) (by decide) (by decide)) (fun z q => by cases List.mem_singleton.mp q; exact (me 0 rfl)) pd3 rfl rfl (Nat.le_of_eq rfl) rfl (by decide) (by decide) (by decide) (fun v106 T106 h106 K106 Q106 q106 => ?_)
  have P107 := P105.trans Q106 (fun z q => by cases List.mem_singleton.mp q; exact Or.inr gb)
  obtain ⟨rfl, A106⟩ := q106
  have u106 := US.kp u104 Q106 (nsS (Arv.nostat A104) ns0)
  refine gIinc K106 (1 : Int32) b26_23 rfl (x := (1 : Int32)) rfl (Ls' := #[.val (.ref ca), .val (.int (2 : Int32)), .val (.int (2 : Int32)), .val (.ref bb), .val (.int (1 : Int32))]) rfl ?_
  refine gIinc K106 (1 : Int32) b26_26 rfl (x := (1 : Int32)) rfl (Ls' := #[.val (.ref ca), .val (.int (2 : Int32)), .val (.int (2 : Int32)), .val (.ref bb), .val (.int (2 : Int32))]) rfl ?_
  refine gGoto K106 b26_29 ?_
  refine gIload K106 b26_8 (v := (2 : Int32)) rfl ?_
  refine gIloadN K106 b26_10 (v := (2 : Int32)) rfl ?_
  refine gIcmp_ge K106 b26_11 (fun q11 => ?_) (fun q => absurd q (by first | decide | (intro hh; cases hh) | simp))
  refine gAloadN K106 b26_32 (v := (.ref bb)) rfl rfl ?_
  refine gRetA K106 hlk hret rfl rfl b26_33 P107 (by decide) (by decide) ?_
  exact ⟨bb, kb, rfl, gb, A106⟩
set_option maxRecDepth 65536 in
set_option maxHeartbeats 40000000 in
theorem c_cmp5_2 (l : Launch) (Z : State) (a0 : Array Value) (hw : ∀ d ∈ tables_1, d.before a0 Z = true) (h0 : Heap) (n0 : Nat) (Z0 : n0 ≤ h0.size) (ca : Addr) (kC : ClassId) (dv : Value) (c0 c1 : Int32) (Ac : Arv Z h0 ca kC .char (2 : Int32) [.int c0, .int c1] dv) (hb0 : ¬ c0 < 0 ∧ ¬ (65535 : Int32) < c0) (hb1 : ¬ c1 < 0 ∧ ¬ (65535 : Int32) < c1) (u : US Z h0) (dd : Addr) (kD : ClassId) (gd : n0 ≤ dd) (Ad : Arv Z h0 dd kD .byte (2 : Int32) [] (.int 0)) (hcd : ca ≠ dd) (hu : ∃ c ∈ [c0, c1], (255 : Int32) < c) :
    Con none l (⟨"java/lang/StringUTF16", "compress", "([CI[BII)I"⟩ : MethodName) jdk_52_method_21_code 7 (some .int) [] ({ frames := 0, cells := 0, slots := 0, locals := 0 } : Room) Z n0 h0 [dd] #[(.ref ca), (.int (0 : Int32)), (.ref dd), (.int (0 : Int32)), (.int (2 : Int32))] (fun v h => ∃ j : Nat, v = some (.int (Int32.ofNat j)) ∧ j < 2 ∧ (255 : Int32) < [c0, c1].getD j 0) := by
  refine Con.intro pn1 Z0 (allS ⟨gd, Ad.lt⟩ all0) trivial #[.val (.ref ca), .val (.int (0 : Int32)), .val (.ref dd), .val (.int (0 : Int32)), .val (.int (2 : Int32)), .unset, .unset] (fun m => by first | (simp [entryFrame, mkF, argsToLocals, Value.category]; done) | rfl) ?_
  intro p e s m below meth c T0 hlk hret hnm K0
  have P0 := Keep.refl h0 [dd]
  refine gIconst K0 (0 : Int32) b12_0 rfl ?_
  refine gIstore K0 b12_1 (Ls' := #[.val (.ref ca), .val (.int (0 : Int32)), .val (.ref dd), .val (.int (0 : Int32)), .val (.int (2 : Int32)), .val (.int (0 : Int32)), .unset]) rfl ?_
  refine gIload K0 b12_3 (v := (0 : Int32)) rfl ?_
  refine gIload K0 b12_5 (v := (2 : Int32)) rfl ?_
  refine gIcmp_ge K0 b12_7 (fun q => absurd q (by first | decide | (intro hh; cases hh) | simp)) (fun q7 => ?_)
  refine gAloadN K0 b12_10 (v := (.ref ca)) rfl rfl ?_
  refine gIloadN K0 b12_11 (v := (0 : Int32)) rfl ?_
  refine gCaload K0 b12_12 Ac (by decide) (v := .int c0) rfl ?_
  refine gIstore K0 b12_13 (Ls' := #[.val (.ref ca), .val (.int (0 : Int32)), .val (.ref dd), .val (.int (0 : Int32)), .val (.int (2 : Int32)), .val (.int (0 : Int32)), .val (.int c0)]) rfl ?_
  refine gIload K0 b12_15 (v := c0) rfl ?_
  refine gSipush K0 (255 : Int32) b12_17 rfl ?_
  refine gIcmp_le K0 b12_20 (fun hl_c0 => ?_) (fun hl_c0 => ?_)
  · skip
    refine gAloadN K0 b12_26 (v := (.ref dd)) rfl rfl ?_
    refine gIloadN K0 b12_27 (v := (0 : Int32)) rfl ?_
    refine gIload K0 b12_28 (v := c0) rfl ?_
    refine gI2b K0 b12_30 ?_
    refine gBastore K0 b12_31 (me 0 rfl) Ad rfl (by decide) (fun T101 h101 K101 Q101 A101 => ?_)
    have P102 := P0.trans Q101 (fun z q => by cases List.mem_singleton.mp q; exact Or.inl (me 0 rfl))
    refine gIinc K101 (1 : Int32) b12_32 rfl (x := (0 : Int32)) rfl (Ls' := #[.val (.ref ca), .val (.int (1 : Int32)), .val (.ref dd), .val (.int (0 : Int32)), .val (.int (2 : Int32)), .val (.int (0 : Int32)), .val (.int c0)]) rfl ?_
    refine gIinc K101 (1 : Int32) b12_35 rfl (x := (0 : Int32)) rfl (Ls' := #[.val (.ref ca), .val (.int (1 : Int32)), .val (.ref dd), .val (.int (1 : Int32)), .val (.int (2 : Int32)), .val (.int (0 : Int32)), .val (.int c0)]) rfl ?_
    refine gIinc K101 (1 : Int32) b12_38 rfl (x := (0 : Int32)) rfl (Ls' := #[.val (.ref ca), .val (.int (1 : Int32)), .val (.ref dd), .val (.int (1 : Int32)), .val (.int (2 : Int32)), .val (.int (1 : Int32)), .val (.int c0)]) rfl ?_
    refine gGoto K101 b12_41 ?_
    refine gIload K101 b12_3 (v := (1 : Int32)) rfl ?_
    refine gIload K101 b12_5 (v := (2 : Int32)) rfl ?_
    refine gIcmp_ge K101 b12_7 (fun q => absurd q (by first | decide | (intro hh; cases hh) | simp)) (fun q7 => ?_)
    refine gAloadN K101 b12_10 (v := (.ref ca)) rfl rfl ?_
    refine gIloadN K101 b12_11 (v := (1 : Int32)) rfl ?_
    refine gCaload K101 b12_12 (Ac.keep Q101 (ninS hcd nin0)) (by decide) (v := .int c1) rfl ?_
    refine gIstore K101 b12_13 (Ls' := #[.val (.ref ca), .val (.int (1 : Int32)), .val (.ref dd), .val (.int (1 : Int32)), .val (.int (2 : Int32)), .val (.int (1 : Int32)), .val (.int c1)]) rfl ?_
    refine gIload K101 b12_15 (v := c1) rfl ?_
    refine gSipush K101 (255 : Int32) b12_17 rfl ?_
    refine gIcmp_le K101 b12_20 (fun hl_c1 => ?_) (fun hl_c1 => ?_)
    · skip
      refine gAloadN K101 b12_26 (v := (.ref dd)) rfl rfl ?_
      refine gIloadN K101 b12_27 (v := (1 : Int32)) rfl ?_
      refine gIload K101 b12_28 (v := c1) rfl ?_
      refine gI2b K101 b12_30 ?_
      refine gBastore K101 b12_31 (me 0 rfl) A101 rfl (by decide) (fun T103 h103 K103 Q103 A103 => ?_)
      have P104 := P102.trans Q103 (fun z q => by cases List.mem_singleton.mp q; exact Or.inl (me 0 rfl))
      refine gIinc K103 (1 : Int32) b12_32 rfl (x := (1 : Int32)) rfl (Ls' := #[.val (.ref ca), .val (.int (2 : Int32)), .val (.ref dd), .val (.int (1 : Int32)), .val (.int (2 : Int32)), .val (.int (1 : Int32)), .val (.int c1)]) rfl ?_
      refine gIinc K103 (1 : Int32) b12_35 rfl (x := (1 : Int32)) rfl (Ls' := #[.val (.ref ca), .val (.int (2 : Int32)), .val (.ref dd), .val (.int (2 : Int32)), .val (.int (2 : Int32)), .val (.int (1 : Int32)), .val (.int c1)]) rfl ?_
      refine gIinc K103 (1 : Int32) b12_38 rfl (x := (1 : Int32)) rfl (Ls' := #[.val (.ref ca), .val (.int (2 : Int32)), .val (.ref dd), .val (.int (2 : Int32)), .val (.int (2 : Int32)), .val (.int (2 : Int32)), .val (.int c1)]) rfl ?_
      refine gGoto K103 b12_41 ?_
      refine gIload K103 b12_3 (v := (2 : Int32)) rfl ?_
      refine gIload K103 b12_5 (v := (2 : Int32)) rfl ?_
      refine gIcmp_ge K103 b12_7 (fun q7 => ?_) (fun q => absurd q (by first | decide | (intro hh; cases hh) | simp))
      refine gIload K103 b12_44 (v := (2 : Int32)) rfl ?_
      exact absurd hu (noHi (allI hl_c0 (allI hl_c1 allI0)))
    · skip
      refine gIload K101 b12_23 (v := (1 : Int32)) rfl ?_
      refine gRetI K101 hlk hret (by simp) b12_25 rfl P102 (by decide) (by decide) ?_
      exact ⟨1, rfl, by decide, hl_c1⟩
  · skip
    refine gIload K0 b12_23 (v := (0 : Int32)) rfl ?_
    refine gRetI K0 hlk hret (by simp) b12_25 rfl P0 (by decide) (by decide) ?_
    exact ⟨0, rfl, by decide, hl_c0⟩
set_option maxRecDepth 65536 in
set_option maxHeartbeats 40000000 in
theorem c_cmp3_2 (l : Launch) (Z : State) (a0 : Array Value) (hw : ∀ d ∈ tables_1, d.before a0 Z = true) (h0 : Heap) (n0 : Nat) (Z0 : n0 ≤ h0.size) (ca : Addr) (kC : ClassId) (dv : Value) (c0 c1 : Int32) (Ac : Arv Z h0 ca kC .char (2 : Int32) [.int c0, .int c1] dv) (hb0 : ¬ c0 < 0 ∧ ¬ (65535 : Int32) < c0) (hb1 : ¬ c1 < 0 ∧ ¬ (65535 : Int32) < c1) (u : US Z h0) (hu : ∃ c ∈ [c0, c1], (255 : Int32) < c) :
    Con none l (⟨"java/lang/StringUTF16", "compress", "([CII)[B"⟩ : MethodName) jdk_52_method_16_code 6 (some (.array .byte)) [] ({ frames := 3, cells := 2, slots := 6, locals := 40 } : Room) Z n0 h0 [] #[(.ref ca), (.int (0 : Int32)), (.int (2 : Int32))] (fun v h => ∃ (b : Addr) (kA : ClassId), v = some (.ref b) ∧ h0.size ≤ b ∧ Arv Z h b kA .byte (Int32.ofNat (2 * 2)) (StrChars.Road.wideBytes [c0, c1]) (.int 0)) := by
  refine Con.intro pn1 Z0 (fun _ q => nomatch q) trivial #[.val (.ref ca), .val (.int (0 : Int32)), .val (.int (2 : Int32)), .unset, .unset, .unset] (fun m => by first | (simp [entryFrame, mkF, argsToLocals, Value.category]; done) | rfl) ?_
  intro p e s m below meth c T0 hlk hret hnm K0
  have P0 := Keep.refl h0 []
  refine gIloadN K0 b11_0 (v := (2 : Int32)) rfl ?_
  refine gNewarr K0 b11_1 (wd hw 20 rfl) (by decide) 2 (by decide) (by decide) (by decide) (by decide) (fun T101 h101 x101 kA101 K101 E101 g101 A101 ne101 => ?_)
  have P102 := P0.ext E101
  have ge_x101 : h0.size ≤ x101 := by rw [g101]; exact P0.1
  refine gAstoreN K101 b11_3 rfl (Ls' := #[.val (.ref ca), .val (.int (0 : Int32)), .val (.int (2 : Int32)), .val (.ref x101), .unset, .unset]) rfl ?_
  refine gAloadN K101 b11_4 (v := (.ref ca)) rfl rfl ?_
  refine gIloadN K101 b11_5 (v := (0 : Int32)) rfl ?_
  refine gAloadN K101 b11_6 (v := (.ref x101)) rfl rfl ?_
  refine gIconst K101 (0 : Int32) b11_7 rfl ?_
  refine gIloadN K101 b11_8 (v := (2 : Int32)) rfl ?_
  refine gCallS K101 (W := 0) [(.ref ca), (.int (0 : Int32)), (.ref x101), (.int (0 : Int32)), (.int (2 : Int32))] [] b11_9 (wd hw 64 rfl) (wd hw 65 rfl) (wd hw 62 rfl) (wd hw 66 rfl) (Cal.ofN (W := 0) (c_cmp5_2 l Z a0 hw h101 n0 K101.n0le ca kC dv c0 c1 (Ac.ext E101) hb0 hb1 (u.ext E101) x101 _ (K101.wsge (me 0 rfl)) A101 (Nat.ne_of_lt (Nat.lt_of_lt_of_le Ac.lt ge_x101)) hu) (wd hw 66 rfl) (wd hw 62 rfl) (by decide) (by decide)) (fun z q => by cases List.mem_singleton.mp q; exact (me 0 rfl)) pd4 rfl rfl (Nat.le_of_eq rfl) rfl (by decide) (by decide) (by decide) (fun v103 T103 h103 K103 Q103 q103 => ?_)
  have P104 := P102.trans Q103 (fun z q => by cases List.mem_singleton.mp q; exact Or.inr ge_x101)
  obtain ⟨j, rfl, hj, hcj⟩ := q103
  refine gIstore K103 b11_12 (Ls' := #[.val (.ref ca), .val (.int (0 : Int32)), .val (.int (2 : Int32)), .val (.ref x101), .val (.int (Int32.ofNat j)), .unset]) rfl ?_
  refine gIload K103 b11_14 (v := (Int32.ofNat j)) rfl ?_
  refine gIloadN K103 b11_16 (v := (2 : Int32)) rfl ?_
  refine gIcmp_eq K103 b11_17 (fun q => absurd q (ofNat_ne hj (by decide))) (fun q17 => ?_)
  refine gAloadN K103 b11_20 (v := (.ref ca)) rfl rfl ?_
  refine gIloadN K103 b11_21 (v := (0 : Int32)) rfl ?_
  refine gIloadN K103 b11_22 (v := (2 : Int32)) rfl ?_
  refine gCallS K103 (W := 0) [(.ref ca), (.int (0 : Int32)), (.int (2 : Int32))] [] b11_23 (wd hw 120 rfl) (wd hw 121 rfl) (wd hw 62 rfl) (wd hw 122 rfl) (Cal.ofN (W := 0) (c_toB2 l Z a0 hw h103 n0 K103.n0le ca kC dv c0 c1 (Ac.ext (Ext.kp1 E101 Q103 (Nat.le_of_eq g101.symm))) (u.ext (Ext.kp1 E101 Q103 (Nat.le_of_eq g101.symm)))) (wd hw 122 rfl) (wd hw 62 rfl) (by decide) (by decide)) (fun _ q => nomatch q) pd5 rfl rfl (Nat.le_of_eq rfl) rfl (by decide) (by decide) (by decide) (fun v105 T105 h105 K105 Q105 q105 => ?_)
  have E105 := Ext.of0 Q105
  have P106 := P104.ext E105
  obtain ⟨bb, kb, rfl, gb, Ab⟩ := q105
  have gb0 : h0.size ≤ bb := Nat.le_trans P104.1 gb
  refine gAstore K105 b11_26 rfl (Ls' := #[.val (.ref ca), .val (.int (0 : Int32)), .val (.int (2 : Int32)), .val (.ref x101), .val (.int (Int32.ofNat j)), .val (.ref bb)]) rfl ?_
  refine gAload K105 b11_28 (v := (.ref bb)) rfl rfl ?_
  refine gIload K105 b11_30 (v := (Int32.ofNat j)) rfl ?_
  refine gCallS K105 (W := 0) [(.ref bb), (.int (Int32.ofNat j))] [] b11_32 (wd hw 136 rfl) (wd hw 137 rfl) (wd hw 62 rfl) (wd hw 138 rfl) (Cal.ofN (W := 0) (c_getChar l Z a0 hw h105 n0 K105.n0le bb kb [c0, c1] j Ab (allI hb0 (allI hb1 allI0)) hj (Nat.le_of_ble_eq_true rfl) (u.ext (Ext.tr (Ext.kp1 E101 Q103 (Nat.le_of_eq g101.symm)) E105))) (wd hw 138 rfl) (wd hw 62 rfl) (by decide) (by decide)) (fun _ q => nomatch q) pd6 rfl rfl (Nat.le_of_eq rfl) rfl (by decide) (by decide) (by decide) (fun v107 T107 h107 K107 Q107 q107 => ?_)
  have E107 := Ext.of0 Q107
  have P108 := P106.ext E107
  cases q107
  refine gSipush K107 (255 : Int32) b11_35 rfl ?_
  refine gIcmp_gt K107 b11_38 (fun q38 => ?_) (fun q => absurd q (not_not_intro hcj))
  refine gAload K107 b11_54 (v := (.ref bb)) rfl rfl ?_
  refine gRetA K107 hlk hret rfl rfl b11_56 P108 (by decide) (by decide) ?_
  exact ⟨bb, kb, rfl, gb0, (Ab.ext E107)⟩
set_option maxRecDepth 65536 in
set_option maxHeartbeats 40000000 in
theorem c_cfa2 (l : Launch) (Z : State) (a0 : Array Value) (hw : ∀ d ∈ tables_1, d.before a0 Z = true) (h0 : Heap) (n0 : Nat) (Z0 : n0 ≤ h0.size) (bb : Addr) (kA : ClassId) (vs : List Value) (dv : Value) (Ab : Arv Z h0 bb kA .byte (4 : Int32) vs dv) :
    Con none l (⟨"java/lang/StringUTF16", "coderFromArrayLen", "([BI)B"⟩ : MethodName) jdk_52_method_15_code 2 (some .byte) [] ({ frames := 0, cells := 0, slots := 0, locals := 0 } : Room) Z n0 h0 [] #[(.ref bb), (.int (2 : Int32))] (fun v h => v = some (.int 1)) := by
  refine Con.intro pn1 Z0 (fun _ q => nomatch q) trivial #[.val (.ref bb), .val (.int (2 : Int32))] (fun m => by first | (simp [entryFrame, mkF, argsToLocals, Value.category]; done) | rfl) ?_
  intro p e s m below meth c T0 hlk hret hnm K0
  have P0 := Keep.refl h0 []
  refine gIloadN K0 b13_0 (v := (2 : Int32)) rfl ?_
  refine gAloadN K0 b13_1 (v := (.ref bb)) rfl rfl ?_
  refine gLen K0 b13_2 Ab ?_
  refine gIsubV K0 (-2 : Int32) b13_3 (by decide) ?_
  refine gBipush K0 (31 : Int32) b13_4 rfl ?_
  refine gIushr K0 b13_6 ?_
  refine gI2b K0 b13_7 ?_
  rw [show ((XT.ushr (-2 : Int32) (31 : Int32))).toInt8.toInt32 = 1 from by decide]
  refine gRetI K0 hlk hret (by simp) b13_8 rfl P0 (by decide) (by decide) ?_
  exact rfl
set_option maxRecDepth 65536 in
set_option maxHeartbeats 40000000 in
theorem c_iU4_2 (l : Launch) (Z : State) (a0 : Array Value) (hw : ∀ d ∈ tables_1, d.before a0 Z = true) (h0 : Heap) (n0 : Nat) (Z0 : n0 ≤ h0.size) (ca : Addr) (kC : ClassId) (dv : Value) (c0 c1 : Int32) (Ac : Arv Z h0 ca kC .char (2 : Int32) [.int c0, .int c1] dv) (hb0 : ¬ c0 < 0 ∧ ¬ (65535 : Int32) < c0) (hb1 : ¬ c1 < 0 ∧ ¬ (65535 : Int32) < c1) (u : US Z h0) (hu : ∃ c ∈ [c0, c1], (255 : Int32) < c) (z : Int32) (Sc : Sta Z h0 "java/lang/String" "COMPACT_STRINGS" "Z" (.int z)) (hz : ¬ z = 0) (x : Addr) (v1 v2 : Value) (gx : n0 ≤ x) (Ex : Exa Z h0 x "java/lang/String") (F1 : Fld Z h0 x "java/lang/String" "value" "[B" v1) (F2 : Fld Z h0 x "java/lang/String" "coder" "B" v2) :
    Con none l (⟨"java/lang/String", "<init>", "([CIILjava/lang/Void;)V"⟩ : MethodName) jdk_42_method_149_code 6 none [] ({ frames := 4, cells := 2, slots := 6, locals := 57 } : Room) Z n0 h0 [x] #[(.ref x), (.ref ca), (.int (0 : Int32)), (.int (2 : Int32)), .null] (fun v h => v = none ∧ StrU Z h x [c0, c1]) := by
  refine Con.intro pn0 Z0 (allS ⟨gx, Ex.lt⟩ all0) trivial #[.val (.ref x), .val (.ref ca), .val (.int (0 : Int32)), .val (.int (2 : Int32)), .val .null, .unset] (fun m => by first | (simp [entryFrame, mkF, argsToLocals, Value.category]; done) | rfl) ?_
  intro p e s m below meth c T0 hlk hret hnm K0
  have P0 := Keep.refl h0 [x]
  refine gAloadN K0 b2_0 (v := (.ref x)) rfl rfl ?_
  refine gInitO K0 b2_1 (wd hw 16 rfl) (wd hw 17 rfl) (wd hw 18 rfl) rfl (by decide) (W := 0) (Nat.le_of_eq rfl) (by decide) (fun T101 K101 => ?_)
  refine gIloadN K101 b2_4 (v := (2 : Int32)) rfl ?_
  refine gIf_ne K101 b2_5 (fun q5 => ?_) (fun q => absurd q (by first | decide | (intro hh; cases hh) | simp))
  refine gGetS K101 b2_27 (wd hw 41 rfl) Sc (fun T102 K102 => ?_)
  refine gIf_eq K102 b2_30 (fun q => absurd q hz) (fun q30 => ?_)
  refine gAloadN K102 b2_33 (v := (.ref ca)) rfl rfl ?_
  refine gIloadN K102 b2_34 (v := (0 : Int32)) rfl ?_
  refine gIloadN K102 b2_35 (v := (2 : Int32)) rfl ?_
  refine gCallS K102 (W := 0) [(.ref ca), (.int (0 : Int32)), (.int (2 : Int32))] [] b2_36 (wd hw 60 rfl) (wd hw 61 rfl) (wd hw 62 rfl) (wd hw 63 rfl) (Cal.ofN (W := 0) (c_cmp3_2 l Z a0 hw h0 n0 K102.n0le ca kC dv c0 c1 Ac hb0 hb1 u hu) (wd hw 63 rfl) (wd hw 62 rfl) (by decide) (by decide)) (fun _ q => nomatch q) pd5 rfl rfl (Nat.le_of_eq rfl) rfl (by decide) (by decide) (by decide) (fun v103 T103 h103 K103 Q103 q103 => ?_)
  have E103 := Ext.of0 Q103
  have P104 := P0.ext E103
  obtain ⟨bb, kb, rfl, gb, Ab⟩ := q103
  refine gAstore K103 b2_39 rfl (Ls' := #[.val (.ref x), .val (.ref ca), .val (.int (0 : Int32)), .val (.int (2 : Int32)), .val .null, .val (.ref bb)]) rfl ?_
  refine gAloadN K103 b2_41 (v := (.ref x)) rfl rfl ?_
  refine gAload K103 b2_42 (v := (.ref bb)) rfl rfl ?_
  refine gIloadN K103 b2_44 (v := (2 : Int32)) rfl ?_
  refine gCallS K103 (W := 1) [(.ref bb), (.int (2 : Int32))] [(.ref x)] b2_45 (wd hw 67 rfl) (wd hw 68 rfl) (wd hw 62 rfl) (wd hw 69 rfl) (Cal.ofN (W := 1) (c_cfa2 l Z a0 hw h103 n0 K103.n0le bb kb _ _ Ab) (wd hw 69 rfl) (wd hw 62 rfl) (by decide) (by decide)) (fun _ q => nomatch q) pd7 rfl rfl (Nat.le_of_eq rfl) rfl (by decide) (by decide) (by decide) (fun v105 T105 h105 K105 Q105 q105 => ?_)
  have E105 := Ext.of0 Q105
  have P106 := P104.ext E105
  cases q105
  refine gPut K105 b2_48 (wd hw 26 rfl) (me 0 rfl) (F2.ext (Ext.tr E103 E105)) (Ex.ext (Ext.tr E103 E105)) (Or.inr ⟨(wd hw 22 rfl), rfl, hnm⟩) (wd hw 6 rfl) (ty := .byte) (by decide) rfl rfl (fun T107 h107 K107 W107 F107 => ?_)
  have P108 := P106.trans (Keep.of_wr W107) (fun z q => by cases List.mem_singleton.mp q; exact Or.inl (me 0 rfl))
  have F109 := Fld.other W107 (F1.ext (Ext.tr E103 E105)) (Or.inr (slot_ne (C := "java/lang/String") (a0 := a0) (Or.inr (wd hw 21 rfl)) (Or.inr (wd hw 22 rfl)) (by decide) (by decide : parseFieldDescriptor _ = some (.array .byte)) (by decide : parseFieldDescriptor _ = some .byte)))
  have A110 := Exa.wr W107 (Ex.ext (Ext.tr E103 E105))
  refine gAloadN K107 b2_51 (v := (.ref x)) rfl rfl ?_
  refine gAload K107 b2_52 (v := (.ref bb)) rfl rfl ?_
  refine gPut K107 b2_54 (wd hw 25 rfl) (me 0 rfl) F109 A110 (Or.inr ⟨(wd hw 21 rfl), rfl, hnm⟩) (wd hw 6 rfl) (ty := (.array .byte)) (by decide) rfl rfl (fun T111 h111 K111 W111 F111 => ?_)
  have P112 := P108.trans (Keep.of_wr W111) (fun z q => by cases List.mem_singleton.mp q; exact Or.inl (me 0 rfl))
  have F113 := Fld.other W111 F107 (Or.inr (slot_ne (C := "java/lang/String") (a0 := a0) (Or.inr (wd hw 22 rfl)) (Or.inr (wd hw 21 rfl)) (by decide) (by decide : parseFieldDescriptor _ = some .byte) (by decide : parseFieldDescriptor _ = some (.array .byte))))
  have A114 := Exa.wr W111 A110
  refine gRetV K111 hlk hret b2_57 P112 (by decide) (by decide) ?_
  exact ⟨rfl, bb, kb, A114, F113, F111, (((Ab.ext E105).keep (Keep.of_wr W107) (ninS (Nat.ne_of_gt (Nat.lt_of_lt_of_le Ex.lt gb)) nin0)).keep (Keep.of_wr W111) (ninS (Nat.ne_of_gt (Nat.lt_of_lt_of_le Ex.lt gb)) nin0)), (allI hb0 (allI hb1 allI0)), hu, Nat.le_of_ble_eq_true rfl⟩
set_option maxRecDepth 65536 in
set_option maxHeartbeats 40000000 in
theorem c_iU1_2 (l : Launch) (Z : State) (a0 : Array Value) (hw : ∀ d ∈ tables_1, d.before a0 Z = true) (h0 : Heap) (n0 : Nat) (Z0 : n0 ≤ h0.size) (ca : Addr) (kC : ClassId) (dv : Value) (c0 c1 : Int32) (Ac : Arv Z h0 ca kC .char (2 : Int32) [.int c0, .int c1] dv) (hb0 : ¬ c0 < 0 ∧ ¬ (65535 : Int32) < c0) (hb1 : ¬ c1 < 0 ∧ ¬ (65535 : Int32) < c1) (u : US Z h0) (hu : ∃ c ∈ [c0, c1], (255 : Int32) < c) (z : Int32) (Sc : Sta Z h0 "java/lang/String" "COMPACT_STRINGS" "Z" (.int z)) (hz : ¬ z = 0) (x : Addr) (v1 v2 : Value) (gx : n0 ≤ x) (Ex : Exa Z h0 x "java/lang/String") (F1 : Fld Z h0 x "java/lang/String" "value" "[B" v1) (F2 : Fld Z h0 x "java/lang/String" "coder" "B" v2) :
    Con none l (⟨"java/lang/String", "<init>", "([C)V"⟩ : MethodName) jdk_42_method_3_code 2 none [] ({ frames := 5, cells := 2, slots := 6, locals := 74 } : Room) Z n0 h0 [x] #[(.ref x), (.ref ca)] (fun v h => v = none ∧ StrU Z h x [c0, c1]) := by
  refine Con.intro pn0 Z0 (allS ⟨gx, Ex.lt⟩ all0) trivial #[.val (.ref x), .val (.ref ca)] (fun m => by first | (simp [entryFrame, mkF, argsToLocals, Value.category]; done) | rfl) ?_
  intro p e s m below meth c T0 hlk hret hnm K0
  have P0 := Keep.refl h0 [x]
  refine gAloadN K0 b1_0 (v := (.ref x)) rfl rfl ?_
  refine gAloadN K0 b1_1 (v := (.ref ca)) rfl rfl ?_
  refine gIconst K0 (0 : Int32) b1_2 rfl ?_
  refine gAloadN K0 b1_3 (v := (.ref ca)) rfl rfl ?_
  refine gLen K0 b1_4 Ac ?_
  refine gNull K0 b1_5 ?_
  refine gCallI K0 (W := 0) x [(.ref ca), (.int (0 : Int32)), (.int (2 : Int32)), .null] [] b1_6 rfl (wd hw 12 rfl) (wd hw 13 rfl) (wd hw 15 rfl) (Cal.ofN (W := 0) (c_iU4_2 l Z a0 hw h0 n0 K0.n0le ca kC dv c0 c1 Ac hb0 hb1 u hu z Sc hz x v1 v2 gx Ex F1 F2) (wd hw 15 rfl) (wd hw 7 rfl) (by decide) (by decide)) (fun z q => by cases List.mem_singleton.mp q; exact (me 0 rfl)) pd0 rfl rfl (Nat.le_of_eq rfl) rfl (by decide) (by decide) (by decide) (fun v101 T101 h101 K101 Q101 q101 => ?_)
  have P102 := P0.trans Q101 (fun z q => by cases List.mem_singleton.mp q; exact Or.inl (me 0 rfl))
  obtain ⟨rfl, Su⟩ := q101
  refine gRetV K101 hlk hret b1_9 P102 (by decide) (by decide) ?_
  exact ⟨rfl, Su⟩
theorem cal_strA2 {p : Program} {l : Launch} {e : Env} {R : Room} {args : Array Value} {below : List Frame} {W : Nat} {Z : State} {a0 : Array Value} {h : Heap} {n0 : Nat} (hw : ∀ d ∈ tables_1, d.before a0 Z = true) {x b : Addr} {kC : ClassId} {c0 c1 : Int32} {d v0 c0' : Value} {z : Int32}
    (hx0 : n0 ≤ x) (hh0 : n0 ≤ h.size) (E : Exa Z h x "java/lang/String") (V : Fld Z h x "java/lang/String" "value" "[B" v0) (C : Fld Z h x "java/lang/String" "coder" "B" c0') (K : Arv Z h b kC .char (2 : Int32) [.int c0, .int c1] d) (S : Sta Z h "java/lang/String" "COMPACT_STRINGS" "Z" (.int z)) (hz : ¬ z = 0) (u : US Z h)
    (hb0 : ¬ c0 < 0 ∧ ¬ (65535 : Int32) < c0) (hb1 : ¬ c1 < 0 ∧ ¬ (65535 : Int32) < c1) (hfr : 6 ≤ R.frames) (hlo : W + 87 ≤ R.locals) :
    Cal (some [("java/lang/String", 7), ("java/lang/StringLatin1", 151)]) l R p e below args (⟨"java/lang/String", "<init>", "([C)V"⟩ : MethodName) 3 W Z n0 h [x] #[.ref x, .ref b] 2 6 (fun v h' => v = none ∧ StrA Z h' x [c0, c1]) := by
  by_cases hu : ∃ c ∈ [c0, c1], (255 : Int32) < c
  · exact Cal.mono (Cal.ofN (W := W) (c_iU1_2 l Z a0 hw h n0 hh0 b kC d c0 c1 K hb0 hb1 u hu z S hz x v0 c0' hx0 E V C) (wd hw 11 rfl) (wd hw 7 rfl) hfr (Nat.le_trans (show W + (2 + 11) + 74 ≤ W + 87 by omega) hlo)) (Nat.le_refl _) (Nat.le_refl _) (fun _ _ q => ⟨q.1, Or.inr q.2⟩)
  · exact Cal.mono (cal_strN hw (cs := [c0, c1]) 2 hx0 hh0 E V C K S hz rfl (by decide) (by decide) (fun c hc => ⟨((((allI hb0 (allI hb1 allI0)) : ∀ c ∈ [c0, c1], ¬ c < 0 ∧ ¬ (65535 : Int32) < c)) c hc).1, fun q => hu ⟨c, hc, q⟩⟩) (Nat.le_trans (by decide) hfr) (by omega)) (by decide) (by decide) (fun _ _ q => ⟨q.1, Or.inl q.2⟩)

set_option maxRecDepth 65536 in
set_option maxHeartbeats 40000000 in
theorem c_nbl3 (l : Launch) (Z : State) (a0 : Array Value) (hw : ∀ d ∈ tables_1, d.before a0 Z = true) (h0 : Heap) (n0 : Nat) (Z0 : n0 ≤ h0.size)  :
    Con none l (⟨"java/lang/StringUTF16", "newBytesLength", "(I)I"⟩ : MethodName) jdk_52_method_3_code 1 (some .int) [] ({ frames := 0, cells := 0, slots := 0, locals := 0 } : Room) Z n0 h0 [] #[(.int (3 : Int32))] (fun v h => v = some (.int (6 : Int32))) := by
  refine Con.intro pn1 Z0 (fun _ q => nomatch q) trivial #[.val (.int (3 : Int32))] (fun m => by first | (simp [entryFrame, mkF, argsToLocals, Value.category]; done) | rfl) ?_
  intro p e s m below meth c T0 hlk hret hnm K0
  have P0 := Keep.refl h0 []
  refine gIloadN K0 b28_0 (v := (3 : Int32)) rfl ?_
  refine gIf_ge K0 b28_1 (fun q1 => ?_) (fun q => absurd q (by first | decide | (intro hh; cases hh) | simp))
  refine gIloadN K0 b28_12 (v := (3 : Int32)) rfl ?_
  refine gLdcI K0 (1073741823 : Int32) b28_13 (wd hw 129 rfl) ?_
  refine gIcmp_lt K0 b28_15 (fun q15 => ?_) (fun q => absurd q (by first | decide | (intro hh; cases hh) | simp))
  refine gIloadN K0 b28_55 (v := (3 : Int32)) rfl ?_
  refine gIconst K0 (1 : Int32) b28_56 rfl ?_
  refine gIshlV K0 (6 : Int32) b28_57 (by decide) ?_
  refine gRetI K0 hlk hret (by simp) b28_58 rfl P0 (by decide) (by decide) ?_
  exact rfl
set_option maxRecDepth 65536 in
set_option maxHeartbeats 40000000 in
theorem c_nbf3 (l : Launch) (Z : State) (a0 : Array Value) (hw : ∀ d ∈ tables_1, d.before a0 Z = true) (h0 : Heap) (n0 : Nat) (Z0 : n0 ≤ h0.size)  :
    Con none l (⟨"java/lang/StringUTF16", "newBytesFor", "(I)[B"⟩ : MethodName) jdk_52_method_2_code 1 (some (.array .byte)) [] ({ frames := 1, cells := 1, slots := 6, locals := 12 } : Room) Z n0 h0 [] #[(.int (3 : Int32))] (fun v h => ∃ (b : Addr) (kA : ClassId), v = some (.ref b) ∧ h0.size ≤ b ∧ Arv Z h b kA .byte (6 : Int32) [] (.int 0)) := by
  refine Con.intro pn1 Z0 (fun _ q => nomatch q) trivial #[.val (.int (3 : Int32))] (fun m => by first | (simp [entryFrame, mkF, argsToLocals, Value.category]; done) | rfl) ?_
  intro p e s m below meth c T0 hlk hret hnm K0
  have P0 := Keep.refl h0 []
  refine gIloadN K0 b27_0 (v := (3 : Int32)) rfl ?_
  refine gCallS K0 (W := 0) [(.int (3 : Int32))] [] b27_1 (wd hw 126 rfl) (wd hw 127 rfl) (wd hw 62 rfl) (wd hw 128 rfl) (Cal.ofN (W := 0) (c_nbl3 l Z a0 hw h0 n0 K0.n0le) (wd hw 128 rfl) (wd hw 62 rfl) (by decide) (by decide)) (fun _ q => nomatch q) pd1 rfl rfl (Nat.le_of_eq rfl) rfl (by decide) (by decide) (by decide) (fun v101 T101 h101 K101 Q101 q101 => ?_)
  have E101 := Ext.of0 Q101
  have P102 := P0.ext E101
  cases q101
  refine gNewarr K101 b27_4 (wd hw 20 rfl) (by decide) 6 (by decide) (by decide) (by decide) (by decide) (fun T103 h103 x103 kA103 K103 E103 g103 A103 ne103 => ?_)
  have P104 := P102.ext E103
  have ge_x103 : h0.size ≤ x103 := by rw [g103]; exact P102.1
  refine gRetA K103 hlk hret rfl rfl b27_6 P104 (by decide) (by decide) ?_
  exact ⟨_, _, rfl, ge_x103, A103⟩
set_option maxRecDepth 65536 in
set_option maxHeartbeats 40000000 in
theorem c_toB3 (l : Launch) (Z : State) (a0 : Array Value) (hw : ∀ d ∈ tables_1, d.before a0 Z = true) (h0 : Heap) (n0 : Nat) (Z0 : n0 ≤ h0.size) (ca : Addr) (kC : ClassId) (dv : Value) (c0 c1 c2 : Int32) (Ac : Arv Z h0 ca kC .char (3 : Int32) [.int c0, .int c1, .int c2] dv)  (u : US Z h0) :
    Con none l (⟨"java/lang/StringUTF16", "toBytes", "([CII)[B"⟩ : MethodName) jdk_52_method_14_code 5 (some (.array .byte)) [] ({ frames := 2, cells := 1, slots := 6, locals := 24 } : Room) Z n0 h0 [] #[(.ref ca), (.int (0 : Int32)), (.int (3 : Int32))] (fun v h => ∃ (b : Addr) (kA : ClassId), v = some (.ref b) ∧ h0.size ≤ b ∧ Arv Z h b kA .byte (Int32.ofNat (2 * 3)) (StrChars.Road.wideBytes [c0, c1, c2]) (.int 0)) := by
  refine Con.intro pn1 Z0 (fun _ q => nomatch q) trivial #[.val (.ref ca), .val (.int (0 : Int32)), .val (.int (3 : Int32)), .unset, .unset] (fun m => by first | (simp [entryFrame, mkF, argsToLocals, Value.category]; done) | rfl) ?_
  intro p e s m below meth c T0 hlk hret hnm K0
  have P0 := Keep.refl h0 []
  refine gIloadN K0 b26_0 (v := (3 : Int32)) rfl ?_
  refine gCallS K0 (W := 0) [(.int (3 : Int32))] [] b26_1 (wd hw 123 rfl) (wd hw 124 rfl) (wd hw 62 rfl) (wd hw 125 rfl) (Cal.ofN (W := 0) (c_nbf3 l Z a0 hw h0 n0 K0.n0le) (wd hw 125 rfl) (wd hw 62 rfl) (by decide) (by decide)) (fun _ q => nomatch q) pd2 rfl rfl (Nat.le_of_eq rfl) rfl (by decide) (by decide) (by decide) (fun v101 T101 h101 K101 Q101 q101 => ?_)
  have E101 := Ext.of0 Q101
  have P102 := P0.ext E101
  obtain ⟨bb, kb, rfl, gb, Ab⟩ := q101
  have K103 := Cx.addN K101 (Nat.le_trans Z0 gb) Ab.lt
  refine gAstoreN K103 b26_4 rfl (Ls' := #[.val (.ref ca), .val (.int (0 : Int32)), .val (.int (3 : Int32)), .val (.ref bb), .unset]) rfl ?_
  refine gIconst K103 (0 : Int32) b26_5 rfl ?_
  refine gIstore K103 b26_6 (Ls' := #[.val (.ref ca), .val (.int (0 : Int32)), .val (.int (3 : Int32)), .val (.ref bb), .val (.int (0 : Int32))]) rfl ?_
  refine gIload K103 b26_8 (v := (0 : Int32)) rfl ?_
  refine gIloadN K103 b26_10 (v := (3 : Int32)) rfl ?_
  refine gIcmp_ge K103 b26_11 (fun q => absurd q (by first | decide | (intro hh; cases hh) | simp)) (fun q11 => ?_)
  refine gAloadN K103 b26_14 (v := (.ref bb)) rfl rfl ?_
  refine gIload K103 b26_15 (v := (0 : Int32)) rfl ?_
  refine gAloadN K103 b26_17 (v := (.ref ca)) rfl rfl ?_
  refine gIloadN K103 b26_18 (v := (0 : Int32)) rfl ?_
  refine gCaload K103 b26_19 (Ac.ext E101) (by decide) (v := .int c0) rfl ?_
  refine gCallS K103 (W := 0) [(.ref bb), (.int (0 : Int32)), (.int c0)] [] b26_20 (wd hw 130 rfl) (wd hw 131 rfl) (wd hw 62 rfl) (wd hw 132 rfl) (Cal.ofN (W := 0) (c_putChar l Z a0 hw h101 n0 K103.n0le bb kb _ 0 3 c0 (Nat.le_trans Z0 gb) Ab rfl (by decide) (by decide) (u.ext E101)) (wd hw 132 rfl) (wd hw 62 rfl) (by decide) (by decide)) (fun z q => by cases List.mem_singleton.mp q; exact (me 0 rfl)) pd3 rfl rfl (Nat.le_of_eq rfl) rfl (by decide) (by decide) (by decide) (fun v104 T104 h104 K104 Q104 q104 => ?_)
  have P105 := P102.trans Q104 (fun z q => by cases List.mem_singleton.mp q; exact Or.inr gb)
  obtain ⟨rfl, A104⟩ := q104
  have u104 := US.kp (u.ext E101) Q104 (nsS (Arv.nostat Ab) ns0)
  refine gIinc K104 (1 : Int32) b26_23 rfl (x := (0 : Int32)) rfl (Ls' := #[.val (.ref ca), .val (.int (1 : Int32)), .val (.int (3 : Int32)), .val (.ref bb), .val (.int (0 : Int32))]) rfl ?_
  refine gIinc K104 (1 : Int32) b26_26 rfl (x := (0 : Int32)) rfl (Ls' := #[.val (.ref ca), .val (.int (1 : Int32)), .val (.int (3 : Int32)), .val (.ref bb), .val (.int (1 : Int32))]) rfl ?_
  refine gGoto K104 b26_29 ?_
  refine gIload K104 b26_8 (v := (1 : Int32)) rfl ?_
  refine gIloadN K104 b26_10 (v := (3 : Int32)) rfl ?_
  refine gIcmp_ge K104 b26_11 (fun q => absurd q (by first | decide | (intro hh; cases hh) | simp)) (fun q11 => ?_)
  refine gAloadN K104 b26_14 (v := (.ref bb)) rfl rfl ?_
  refine gIload K104 b26_15 (v := (1 : Int32)) rfl ?_
  refine gAloadN K104 b26_17 (v := (.ref ca)) rfl rfl ?_
  refine gIloadN K104 b26_18 (v := (1 : Int32)) rfl ?_
  refine gCaload K104 b26_19 (Ac.ext (Ext.kp1 E101 Q104 gb)) (by decide) (v := .int c1) rfl ?_
  refine gCallS K104 (W := 0) [(.ref bb), (.int (1 : Int32)), (.int c1)] [] b26_20 (wd hw 130 rfl) (wd hw 131 rfl) (wd hw 62 rfl) (wd hw 132 rfl) (Cal.ofN (W := 0) (c_putChar l Z a0 hw h104 n0 K104.n0le bb kb _ 1 3 c1 (Nat.le_trans Z0 gb) A104 rfl (by decide) (by decide) u104) (wd hw 132 rfl) (wd hw 62 rfl) (by decide) (by decide)) (fun z q => by cases List.mem_singleton.mp q; exact (me 0 rfl)) pd3 rfl rfl (Nat.le_of_eq rfl) rfl (by decide) (by decide) (by decide) (fun v106 T106 h106 K106 Q106 q106 => ?_)
  have P107 := P105.trans Q106 (fun z q => by cases List.mem_singleton.mp q; exact Or.inr gb)
  obtain ⟨rfl, A106⟩ := q106
  have u106 := US.kp u104 Q106 (nsS (Arv.nostat A104) ns0)
  refine gIinc K106 (1 : Int32) b26_23 rfl (x := (1 : Int32)) rfl (Ls' := #[.val (.ref ca), .val (.int (2 : Int32)), .val (.int (3 : Int32)), .val (.ref bb), .val (.int (1 : Int32))]) rfl ?_
  refine gIinc K106 (1 : Int32) b26_26 rfl (x := (1 : Int32)) rfl (Ls' := #[.val (.ref ca), .val (.int (2 : Int32)), .val (.int (3 : Int32)), .val (.ref bb), .val (.int (2 : Int32))]) rfl ?_
  refine gGoto K106 b26_29 ?_
  refine gIload K106 b26_8 (v := (2 : Int32)) rfl ?_
  refine gIloadN K106 b26_10 (v := (3 : Int32)) rfl ?_
  refine gIcmp_ge K106 b26_11 (fun q => absurd q (by first | decide | (intro hh; cases hh) | simp)) (fun q11 => ?_)
  refine gAloadN K106 b26_14 (v := (.ref bb)) rfl rfl ?_
  refine gIload K106 b26_15 (v := (2 : Int32)) rfl ?_
  refine gAloadN K106 b26_17 (v := (.ref ca)) rfl rfl ?_
  refine gIloadN K106 b26_18 (v := (2 : Int32)) rfl ?_
  refine gCaload K106 b26_19 (Ac.ext (Ext.kp1 (Ext.kp1 E101 Q104 gb) Q106 gb)) (by decide) (v := .int c2) rfl ?_
  refine gCallS K106 (W := 0) [(.ref bb), (.int (2 : Int32)), (.int c2)] [] b26_20 (wd hw 130 rfl) (wd hw 131 rfl) (wd hw 62 rfl) (wd hw 132 rfl) (Cal.ofN (W := 0) (c_putChar l Z a0 hw h106 n0 K106.n0le bb kb _ 2 3 c2 (Nat.le_trans Z0 gb) A106 rfl (by decide) (by decide) u106) (wd hw 132 rfl) (wd hw 62 rfl) (by decide) (by decide)) (fun z q => by cases List.mem_singleton.mp q; exact (me 0 rfl)) pd3 rfl rfl (Nat.le_of_eq rfl) rfl (by decide) (by decide) (by decide) (fun v108 T108 h108 K108 Q108 q108 => ?_)
  have P109 := P107.trans Q108 (fun z q => by cases List.mem_singleton.mp q; exact Or.inr gb)
  obtain ⟨rfl, A108⟩ := q108
  have u108 := US.kp u106 Q108 (nsS (Arv.nostat A106) ns0)
  refine gIinc K108 (1 : Int32) b26_23 rfl (x := (2 : Int32)) rfl (Ls' := #[.val (.ref ca), .val (.int (3 : Int32)), .val (.int (3 : Int32)), .val (.ref bb), .val (.int (2 : Int32))]) rfl ?_
  refine gIinc K108 (1 : Int32) b26_26 rfl (x := (2 : Int32)) rfl (Ls' := #[.val (.ref ca), .val (.int (3 : Int32)), .val (.int (3 : Int32)), .val (.ref bb), .val (.int (3 : Int32))]) rfl ?_
  refine gGoto K108 b26_29 ?_
  refine gIload K108 b26_8 (v := (3 : Int32)) rfl ?_
  refine gIloadN K108 b26_10 (v := (3 : Int32)) rfl ?_
  refine gIcmp_ge K108 b26_11 (fun q11 => ?_) (fun q => absurd q (by first | decide | (intro hh; cases hh) | simp))
  refine gAloadN K108 b26_32 (v := (.ref bb)) rfl rfl ?_
  refine gRetA K108 hlk hret rfl rfl b26_33 P109 (by decide) (by decide) ?_
  exact ⟨bb, kb, rfl, gb, A108⟩
set_option maxRecDepth 65536 in
set_option maxHeartbeats 40000000 in
theorem c_cmp5_3 (l : Launch) (Z : State) (a0 : Array Value) (hw : ∀ d ∈ tables_1, d.before a0 Z = true) (h0 : Heap) (n0 : Nat) (Z0 : n0 ≤ h0.size) (ca : Addr) (kC : ClassId) (dv : Value) (c0 c1 c2 : Int32) (Ac : Arv Z h0 ca kC .char (3 : Int32) [.int c0, .int c1, .int c2] dv) (hb0 : ¬ c0 < 0 ∧ ¬ (65535 : Int32) < c0) (hb1 : ¬ c1 < 0 ∧ ¬ (65535 : Int32) < c1) (hb2 : ¬ c2 < 0 ∧ ¬ (65535 : Int32) < c2) (u : US Z h0) (dd : Addr) (kD : ClassId) (gd : n0 ≤ dd) (Ad : Arv Z h0 dd kD .byte (3 : Int32) [] (.int 0)) (hcd : ca ≠ dd) (hu : ∃ c ∈ [c0, c1, c2], (255 : Int32) < c) :
    Con none l (⟨"java/lang/StringUTF16", "compress", "([CI[BII)I"⟩ : MethodName) jdk_52_method_21_code 7 (some .int) [] ({ frames := 0, cells := 0, slots := 0, locals := 0 } : Room) Z n0 h0 [dd] #[(.ref ca), (.int (0 : Int32)), (.ref dd), (.int (0 : Int32)), (.int (3 : Int32))] (fun v h => ∃ j : Nat, v = some (.int (Int32.ofNat j)) ∧ j < 3 ∧ (255 : Int32) < [c0, c1, c2].getD j 0) := by
  refine Con.intro pn1 Z0 (allS ⟨gd, Ad.lt⟩ all0) trivial #[.val (.ref ca), .val (.int (0 : Int32)), .val (.ref dd), .val (.int (0 : Int32)), .val (.int (3 : Int32)), .unset, .unset] (fun m => by first | (simp [entryFrame, mkF, argsToLocals, Value.category]; done) | rfl) ?_
  intro p e s m below meth c T0 hlk hret hnm K0
  have P0 := Keep.refl h0 [dd]
  refine gIconst K0 (0 : Int32) b12_0 rfl ?_
  refine gIstore K0 b12_1 (Ls' := #[.val (.ref ca), .val (.int (0 : Int32)), .val (.ref dd), .val (.int (0 : Int32)), .val (.int (3 : Int32)), .val (.int (0 : Int32)), .unset]) rfl ?_
  refine gIload K0 b12_3 (v := (0 : Int32)) rfl ?_
  refine gIload K0 b12_5 (v := (3 : Int32)) rfl ?_
  refine gIcmp_ge K0 b12_7 (fun q => absurd q (by first | decide | (intro hh; cases hh) | simp)) (fun q7 => ?_)
  refine gAloadN K0 b12_10 (v := (.ref ca)) rfl rfl ?_
  refine gIloadN K0 b12_11 (v := (0 : Int32)) rfl ?_
  refine gCaload K0 b12_12 Ac (by decide) (v := .int c0) rfl ?_
  refine gIstore K0 b12_13 (Ls' := #[.val (.ref ca), .val (.int (0 : Int32)), .val (.ref dd), .val (.int (0 : Int32)), .val (.int (3 : Int32)), .val (.int (0 : Int32)), .val (.int c0)]) rfl ?_
  refine gIload K0 b12_15 (v := c0) rfl ?_
  refine gSipush K0 (255 : Int32) b12_17 rfl ?_
  refine gIcmp_le K0 b12_20 (fun hl_c0 => ?_) (fun hl_c0 => ?_)
  · skip
    refine gAloadN K0 b12_26 (v := (.ref dd)) rfl rfl ?_
    refine gIloadN K0 b12_27 (v := (0 : Int32)) rfl ?_
    refine gIload K0 b12_28 (v := c0) rfl ?_
    refine gI2b K0 b12_30 ?_
    refine gBastore K0 b12_31 (me 0 rfl) Ad rfl (by decide) (fun T101 h101 K101 Q101 A101 => ?_)
    have P102 := P0.trans Q101 (fun z q => by cases List.mem_singleton.mp q; exact Or.inl (me 0 rfl))
    refine gIinc K101 (1 : Int32) b12_32 rfl (x := (0 : Int32)) rfl (Ls' := #[.val (.ref ca), .val (.int (1 : Int32)), .val (.ref dd), .val (.int (0 : Int32)), .val (.int (3 : Int32)), .val (.int (0 : Int32)), .val (.int c0)]) rfl ?_
    refine gIinc K101 (1 : Int32) b12_35 rfl (x := (0 : Int32)) rfl (Ls' := #[.val (.ref ca), .val (.int (1 : Int32)), .val (.ref dd), .val (.int (1 : Int32)), .val (.int (3 : Int32)), .val (.int (0 : Int32)), .val (.int c0)]) rfl ?_
    refine gIinc K101 (1 : Int32) b12_38 rfl (x := (0 : Int32)) rfl (Ls' := #[.val (.ref ca), .val (.int (1 : Int32)), .val (.ref dd), .val (.int (1 : Int32)), .val (.int (3 : Int32)), .val (.int (1 : Int32)), .val (.int c0)]) rfl ?_
    refine gGoto K101 b12_41 ?_
    refine gIload K101 b12_3 (v := (1 : Int32)) rfl ?_
    refine gIload K101 b12_5 (v := (3 : Int32)) rfl ?_
    refine gIcmp_ge K101 b12_7 (fun q => absurd q (by first | decide | (intro hh; cases hh) | simp)) (fun q7 => ?_)
    refine gAloadN K101 b12_10 (v := (.ref ca)) rfl rfl ?_
    refine gIloadN K101 b12_11 (v := (1 : Int32)) rfl ?_
    refine gCaload K101 b12_12 (Ac.keep Q101 (ninS hcd nin0)) (by decide) (v := .int c1) rfl ?_
    refine gIstore K101 b12_13 (Ls' := #[.val (.ref ca), .val (.int (1 : Int32)), .val (.ref dd), .val (.int (1 : Int32)), .val (.int (3 : Int32)), .val (.int (1 : Int32)), .val (.int c1)]) rfl ?_
    refine gIload K101 b12_15 (v := c1) rfl ?_
    refine gSipush K101 (255 : Int32) b12_17 rfl ?_
    refine gIcmp_le K101 b12_20 (fun hl_c1 => ?_) (fun hl_c1 => ?_)
    · skip
      refine gAloadN K101 b12_26 (v := (.ref dd)) rfl rfl ?_
      refine gIloadN K101 b12_27 (v := (1 : Int32)) rfl ?_
      refine gIload K101 b12_28 (v := c1) rfl ?_
      refine gI2b K101 b12_30 ?_
      refine gBastore K101 b12_31 (me 0 rfl) A101 rfl (by decide) (fun T103 h103 K103 Q103 A103 => ?_)
      have P104 := P102.trans Q103 (fun z q => by cases List.mem_singleton.mp q; exact Or.inl (me 0 rfl))
      refine gIinc K103 (1 : Int32) b12_32 rfl (x := (1 : Int32)) rfl (Ls' := #[.val (.ref ca), .val (.int (2 : Int32)), .val (.ref dd), .val (.int (1 : Int32)), .val (.int (3 : Int32)), .val (.int (1 : Int32)), .val (.int c1)]) rfl ?_
      refine gIinc K103 (1 : Int32) b12_35 rfl (x := (1 : Int32)) rfl (Ls' := #[.val (.ref ca), .val (.int (2 : Int32)), .val (.ref dd), .val (.int (2 : Int32)), .val (.int (3 : Int32)), .val (.int (1 : Int32)), .val (.int c1)]) rfl ?_
      refine gIinc K103 (1 : Int32) b12_38 rfl (x := (1 : Int32)) rfl (Ls' := #[.val (.ref ca), .val (.int (2 : Int32)), .val (.ref dd), .val (.int (2 : Int32)), .val (.int (3 : Int32)), .val (.int (2 : Int32)), .val (.int c1)]) rfl ?_
      refine gGoto K103 b12_41 ?_
      refine gIload K103 b12_3 (v := (2 : Int32)) rfl ?_
      refine gIload K103 b12_5 (v := (3 : Int32)) rfl ?_
      refine gIcmp_ge K103 b12_7 (fun q => absurd q (by first | decide | (intro hh; cases hh) | simp)) (fun q7 => ?_)
      refine gAloadN K103 b12_10 (v := (.ref ca)) rfl rfl ?_
      refine gIloadN K103 b12_11 (v := (2 : Int32)) rfl ?_
      refine gCaload K103 b12_12 ((Ac.keep Q101 (ninS hcd nin0)).keep Q103 (ninS hcd nin0)) (by decide) (v := .int c2) rfl ?_
      refine gIstore K103 b12_13 (Ls' := #[.val (.ref ca), .val (.int (2 : Int32)), .val (.ref dd), .val (.int (2 : Int32)), .val (.int (3 : Int32)), .val (.int (2 : Int32)), .val (.int c2)]) rfl ?_
      refine gIload K103 b12_15 (v := c2) rfl ?_
      refine gSipush K103 (255 : Int32) b12_17 rfl ?_
      refine gIcmp_le K103 b12_20 (fun hl_c2 => ?_) (fun hl_c2 => ?_)
      · skip
        refine gAloadN K103 b12_26 (v := (.ref dd)) rfl rfl ?_
        refine gIloadN K103 b12_27 (v := (2 : Int32)) rfl ?_
        refine gIload K103 b12_28 (v := c2) rfl ?_
        refine gI2b K103 b12_30 ?_
        refine gBastore K103 b12_31 (me 0 rfl) A103 rfl (by decide) (fun T105 h105 K105 Q105 A105 => ?_)
        have P106 := P104.trans Q105 (fun z q => by cases List.mem_singleton.mp q; exact Or.inl (me 0 rfl))
        refine gIinc K105 (1 : Int32) b12_32 rfl (x := (2 : Int32)) rfl (Ls' := #[.val (.ref ca), .val (.int (3 : Int32)), .val (.ref dd), .val (.int (2 : Int32)), .val (.int (3 : Int32)), .val (.int (2 : Int32)), .val (.int c2)]) rfl ?_
        refine gIinc K105 (1 : Int32) b12_35 rfl (x := (2 : Int32)) rfl (Ls' := #[.val (.ref ca), .val (.int (3 : Int32)), .val (.ref dd), .val (.int (3 : Int32)), .val (.int (3 : Int32)), .val (.int (2 : Int32)), .val (.int c2)]) rfl ?_
        refine gIinc K105 (1 : Int32) b12_38 rfl (x := (2 : Int32)) rfl (Ls' := #[.val (.ref ca), .val (.int (3 : Int32)), .val (.ref dd), .val (.int (3 : Int32)), .val (.int (3 : Int32)), .val (.int (3 : Int32)), .val (.int c2)]) rfl ?_
        refine gGoto K105 b12_41 ?_
        refine gIload K105 b12_3 (v := (3 : Int32)) rfl ?_
        refine gIload K105 b12_5 (v := (3 : Int32)) rfl ?_
        refine gIcmp_ge K105 b12_7 (fun q7 => ?_) (fun q => absurd q (by first | decide | (intro hh; cases hh) | simp))
        refine gIload K105 b12_44 (v := (3 : Int32)) rfl ?_
        exact absurd hu (noHi (allI hl_c0 (allI hl_c1 (allI hl_c2 allI0))))
      · skip
        refine gIload K103 b12_23 (v := (2 : Int32)) rfl ?_
        refine gRetI K103 hlk hret (by simp) b12_25 rfl P104 (by decide) (by decide) ?_
        exact ⟨2, rfl, by decide, hl_c2⟩
    · skip
      refine gIload K101 b12_23 (v := (1 : Int32)) rfl ?_
      refine gRetI K101 hlk hret (by simp) b12_25 rfl P102 (by decide) (by decide) ?_
      exact ⟨1, rfl, by decide, hl_c1⟩
  · skip
    refine gIload K0 b12_23 (v := (0 : Int32)) rfl ?_
    refine gRetI K0 hlk hret (by simp) b12_25 rfl P0 (by decide) (by decide) ?_
    exact ⟨0, rfl, by decide, hl_c0⟩
set_option maxRecDepth 65536 in
set_option maxHeartbeats 40000000 in
theorem c_cmp3_3 (l : Launch) (Z : State) (a0 : Array Value) (hw : ∀ d ∈ tables_1, d.before a0 Z = true) (h0 : Heap) (n0 : Nat) (Z0 : n0 ≤ h0.size) (ca : Addr) (kC : ClassId) (dv : Value) (c0 c1 c2 : Int32) (Ac : Arv Z h0 ca kC .char (3 : Int32) [.int c0, .int c1, .int c2] dv) (hb0 : ¬ c0 < 0 ∧ ¬ (65535 : Int32) < c0) (hb1 : ¬ c1 < 0 ∧ ¬ (65535 : Int32) < c1) (hb2 : ¬ c2 < 0 ∧ ¬ (65535 : Int32) < c2) (u : US Z h0) (hu : ∃ c ∈ [c0, c1, c2], (255 : Int32) < c) :
    Con none l (⟨"java/lang/StringUTF16", "compress", "([CII)[B"⟩ : MethodName) jdk_52_method_16_code 6 (some (.array .byte)) [] ({ frames := 3, cells := 2, slots := 9, locals := 40 } : Room) Z n0 h0 [] #[(.ref ca), (.int (0 : Int32)), (.int (3 : Int32))] (fun v h => ∃ (b : Addr) (kA : ClassId), v = some (.ref b) ∧ h0.size ≤ b ∧ Arv Z h b kA .byte (Int32.ofNat (2 * 3)) (StrChars.Road.wideBytes [c0, c1, c2]) (.int 0)) := by
  refine Con.intro pn1 Z0 (fun _ q => nomatch q) trivial #[.val (.ref ca), .val (.int (0 : Int32)), .val (.int (3 : Int32)), .unset, .unset, .unset] (fun m => by first | (simp [entryFrame, mkF, argsToLocals, Value.category]; done) | rfl) ?_
  intro p e s m below meth c T0 hlk hret hnm K0
  have P0 := Keep.refl h0 []
  refine gIloadN K0 b11_0 (v := (3 : Int32)) rfl ?_
  refine gNewarr K0 b11_1 (wd hw 20 rfl) (by decide) 3 (by decide) (by decide) (by decide) (by decide) (fun T101 h101 x101 kA101 K101 E101 g101 A101 ne101 => ?_)
  have P102 := P0.ext E101
  have ge_x101 : h0.size ≤ x101 := by rw [g101]; exact P0.1
  refine gAstoreN K101 b11_3 rfl (Ls' := #[.val (.ref ca), .val (.int (0 : Int32)), .val (.int (3 : Int32)), .val (.ref x101), .unset, .unset]) rfl ?_
  refine gAloadN K101 b11_4 (v := (.ref ca)) rfl rfl ?_
  refine gIloadN K101 b11_5 (v := (0 : Int32)) rfl ?_
  refine gAloadN K101 b11_6 (v := (.ref x101)) rfl rfl ?_
  refine gIconst K101 (0 : Int32) b11_7 rfl ?_
  refine gIloadN K101 b11_8 (v := (3 : Int32)) rfl ?_
  refine gCallS K101 (W := 0) [(.ref ca), (.int (0 : Int32)), (.ref x101), (.int (0 : Int32)), (.int (3 : Int32))] [] b11_9 (wd hw 64 rfl) (wd hw 65 rfl) (wd hw 62 rfl) (wd hw 66 rfl) (Cal.ofN (W := 0) (c_cmp5_3 l Z a0 hw h101 n0 K101.n0le ca kC dv c0 c1 c2 (Ac.ext E101) hb0 hb1 hb2 (u.ext E101) x101 _ (K101.wsge (me 0 rfl)) A101 (Nat.ne_of_lt (Nat.lt_of_lt_of_le Ac.lt ge_x101)) hu) (wd hw 66 rfl) (wd hw 62 rfl) (by decide) (by decide)) (fun z q => by cases List.mem_singleton.mp q; exact (me 0 rfl)) pd4 rfl rfl (Nat.le_of_eq rfl) rfl (by decide) (by decide) (by decide) (fun v103 T103 h103 K103 Q103 q103 => ?_)
  have P104 := P102.trans Q103 (fun z q => by cases List.mem_singleton.mp q; exact Or.inr ge_x101)
  obtain ⟨j, rfl, hj, hcj⟩ := q103
  refine gIstore K103 b11_12 (Ls' := #[.val (.ref ca), .val (.int (0 : Int32)), .val (.int (3 : Int32)), .val (.ref x101), .val (.int (Int32.ofNat j)), .unset]) rfl ?_
  refine gIload K103 b11_14 (v := (Int32.ofNat j)) rfl ?_
  refine gIloadN K103 b11_16 (v := (3 : Int32)) rfl ?_
  refine gIcmp_eq K103 b11_17 (fun q => absurd q (ofNat_ne hj (by decide))) (fun q17 => ?_)
  refine gAloadN K103 b11_20 (v := (.ref ca)) rfl rfl ?_
  refine gIloadN K103 b11_21 (v := (0 : Int32)) rfl ?_
  refine gIloadN K103 b11_22 (v := (3 : Int32)) rfl ?_
  refine gCallS K103 (W := 0) [(.ref ca), (.int (0 : Int32)), (.int (3 : Int32))] [] b11_23 (wd hw 120 rfl) (wd hw 121 rfl) (wd hw 62 rfl) (wd hw 122 rfl) (Cal.ofN (W := 0) (c_toB3 l Z a0 hw h103 n0 K103.n0le ca kC dv c0 c1 c2 (Ac.ext (Ext.kp1 E101 Q103 (Nat.le_of_eq g101.symm))) (u.ext (Ext.kp1 E101 Q103 (Nat.le_of_eq g101.symm)))) (wd hw 122 rfl) (wd hw 62 rfl) (by decide) (by decide)) (fun _ q => nomatch q) pd5 rfl rfl (Nat.le_of_eq rfl) rfl (by decide) (by decide) (by decide) (fun v105 T105 h105 K105 Q105 q105 => ?_)
  have E105 := Ext.of0 Q105
  have P106 := P104.ext E105
  obtain ⟨bb, kb, rfl, gb, Ab⟩ := q105
  have gb0 : h0.size ≤ bb := Nat.le_trans P104.1 gb
  refine gAstore K105 b11_26 rfl (Ls' := #[.val (.ref ca), .val (.int (0 : Int32)), .val (.int (3 : Int32)), .val (.ref x101), .val (.int (Int32.ofNat j)), .val (.ref bb)]) rfl ?_
  refine gAload K105 b11_28 (v := (.ref bb)) rfl rfl ?_
  refine gIload K105 b11_30 (v := (Int32.ofNat j)) rfl ?_
  refine gCallS K105 (W := 0) [(.ref bb), (.int (Int32.ofNat j))] [] b11_32 (wd hw 136 rfl) (wd hw 137 rfl) (wd hw 62 rfl) (wd hw 138 rfl) (Cal.ofN (W := 0) (c_getChar l Z a0 hw h105 n0 K105.n0le bb kb [c0, c1, c2] j Ab (allI hb0 (allI hb1 (allI hb2 allI0))) hj (Nat.le_of_ble_eq_true rfl) (u.ext (Ext.tr (Ext.kp1 E101 Q103 (Nat.le_of_eq g101.symm)) E105))) (wd hw 138 rfl) (wd hw 62 rfl) (by decide) (by decide)) (fun _ q => nomatch q) pd6 rfl rfl (Nat.le_of_eq rfl) rfl (by decide) (by decide) (by decide) (fun v107 T107 h107 K107 Q107 q107 => ?_)
  have E107 := Ext.of0 Q107
  have P108 := P106.ext E107
  cases q107
  refine gSipush K107 (255 : Int32) b11_35 rfl ?_
  refine gIcmp_gt K107 b11_38 (fun q38 => ?_) (fun q => absurd q (not_not_intro hcj))
  refine gAload K107 b11_54 (v := (.ref bb)) rfl rfl ?_
  refine gRetA K107 hlk hret rfl rfl b11_56 P108 (by decide) (by decide) ?_
  exact ⟨bb, kb, rfl, gb0, (Ab.ext E107)⟩
set_option maxRecDepth 65536 in
set_option maxHeartbeats 40000000 in
theorem c_cfa3 (l : Launch) (Z : State) (a0 : Array Value) (hw : ∀ d ∈ tables_1, d.before a0 Z = true) (h0 : Heap) (n0 : Nat) (Z0 : n0 ≤ h0.size) (bb : Addr) (kA : ClassId) (vs : List Value) (dv : Value) (Ab : Arv Z h0 bb kA .byte (6 : Int32) vs dv) :
    Con none l (⟨"java/lang/StringUTF16", "coderFromArrayLen", "([BI)B"⟩ : MethodName) jdk_52_method_15_code 2 (some .byte) [] ({ frames := 0, cells := 0, slots := 0, locals := 0 } : Room) Z n0 h0 [] #[(.ref bb), (.int (3 : Int32))] (fun v h => v = some (.int 1)) := by
  refine Con.intro pn1 Z0 (fun _ q => nomatch q) trivial #[.val (.ref bb), .val (.int (3 : Int32))] (fun m => by first | (simp [entryFrame, mkF, argsToLocals, Value.category]; done) | rfl) ?_
  intro p e s m below meth c T0 hlk hret hnm K0
  have P0 := Keep.refl h0 []
  refine gIloadN K0 b13_0 (v := (3 : Int32)) rfl ?_
  refine gAloadN K0 b13_1 (v := (.ref bb)) rfl rfl ?_
  refine gLen K0 b13_2 Ab ?_
  refine gIsubV K0 (-3 : Int32) b13_3 (by decide) ?_
  refine gBipush K0 (31 : Int32) b13_4 rfl ?_
  refine gIushr K0 b13_6 ?_
  refine gI2b K0 b13_7 ?_
  rw [show ((XT.ushr (-3 : Int32) (31 : Int32))).toInt8.toInt32 = 1 from by decide]
  refine gRetI K0 hlk hret (by simp) b13_8 rfl P0 (by decide) (by decide) ?_
  exact rfl
set_option maxRecDepth 65536 in
set_option maxHeartbeats 40000000 in
theorem c_iU4_3 (l : Launch) (Z : State) (a0 : Array Value) (hw : ∀ d ∈ tables_1, d.before a0 Z = true) (h0 : Heap) (n0 : Nat) (Z0 : n0 ≤ h0.size) (ca : Addr) (kC : ClassId) (dv : Value) (c0 c1 c2 : Int32) (Ac : Arv Z h0 ca kC .char (3 : Int32) [.int c0, .int c1, .int c2] dv) (hb0 : ¬ c0 < 0 ∧ ¬ (65535 : Int32) < c0) (hb1 : ¬ c1 < 0 ∧ ¬ (65535 : Int32) < c1) (hb2 : ¬ c2 < 0 ∧ ¬ (65535 : Int32) < c2) (u : US Z h0) (hu : ∃ c ∈ [c0, c1, c2], (255 : Int32) < c) (z : Int32) (Sc : Sta Z h0 "java/lang/String" "COMPACT_STRINGS" "Z" (.int z)) (hz : ¬ z = 0) (x : Addr) (v1 v2 : Value) (gx : n0 ≤ x) (Ex : Exa Z h0 x "java/lang/String") (F1 : Fld Z h0 x "java/lang/String" "value" "[B" v1) (F2 : Fld Z h0 x "java/lang/String" "coder" "B" v2) :
    Con none l (⟨"java/lang/String", "<init>", "([CIILjava/lang/Void;)V"⟩ : MethodName) jdk_42_method_149_code 6 none [] ({ frames := 4, cells := 2, slots := 9, locals := 57 } : Room) Z n0 h0 [x] #[(.ref x), (.ref ca), (.int (0 : Int32)), (.int (3 : Int32)), .null] (fun v h => v = none ∧ StrU Z h x [c0, c1, c2]) := by
  refine Con.intro pn0 Z0 (allS ⟨gx, Ex.lt⟩ all0) trivial #[.val (.ref x), .val (.ref ca), .val (.int (0 : Int32)), .val (.int (3 : Int32)), .val .null, .unset] (fun m => by first | (simp [entryFrame, mkF, argsToLocals, Value.category]; done) | rfl) ?_
  intro p e s m below meth c T0 hlk hret hnm K0
  have P0 := Keep.refl h0 [x]
  refine gAloadN K0 b2_0 (v := (.ref x)) rfl rfl ?_
  refine gInitO K0 b2_1 (wd hw 16 rfl) (wd hw 17 rfl) (wd hw 18 rfl) rfl (by decide) (W := 0) (Nat.le_of_eq rfl) (by decide) (fun T101 K101 => ?_)
  refine gIloadN K101 b2_4 (v := (3 : Int32)) rfl ?_
  refine gIf_ne K101 b2_5 (fun q5 => ?_) (fun q => absurd q (by first | decide | (intro hh; cases hh) | simp))
  refine gGetS K101 b2_27 (wd hw 41 rfl) Sc (fun T102 K102 => ?_)
  refine gIf_eq K102 b2_30 (fun q => absurd q hz) (fun q30 => ?_)
  refine gAloadN K102 b2_33 (v := (.ref ca)) rfl rfl ?_
  refine gIloadN K102 b2_34 (v := (0 : Int32)) rfl ?_
  refine gIloadN K102 b2_35 (v := (3 : Int32)) rfl ?_
  refine gCallS K102 (W := 0) [(.ref ca), (.int (0 : Int32)), (.int (3 : Int32))] [] b2_36 (wd hw 60 rfl) (wd hw 61 rfl) (wd hw 62 rfl) (wd hw 63 rfl) (Cal.ofN (W := 0) (c_cmp3_3 l Z a0 hw h0 n0 K102.n0le ca kC dv c0 c1 c2 Ac hb0 hb1 hb2 u hu) (wd hw 63 rfl) (wd hw 62 rfl) (by decide) (by decide)) (fun _ q => nomatch q) pd5 rfl rfl (Nat.le_of_eq rfl) rfl (by decide) (by decide) (by decide) (fun v103 T103 h103 K103 Q103 q103 => ?_)
  have E103 := Ext.of0 Q103
  have P104 := P0.ext E103
  obtain ⟨bb, kb, rfl, gb, Ab⟩ := q103
  refine gAstore K103 b2_39 rfl (Ls' := #[.val (.ref x), .val (.ref ca), .val (.int (0 : Int32)), .val (.int (3 : Int32)), .val .null, .val (.ref bb)]) rfl ?_
  refine gAloadN K103 b2_41 (v := (.ref x)) rfl rfl ?_
  refine gAload K103 b2_42 (v := (.ref bb)) rfl rfl ?_
  refine gIloadN K103 b2_44 (v := (3 : Int32)) rfl ?_
  refine gCallS K103 (W := 1) [(.ref bb), (.int (3 : Int32))] [(.ref x)] b2_45 (wd hw 67 rfl) (wd hw 68 rfl) (wd hw 62 rfl) (wd hw 69 rfl) (Cal.ofN (W := 1) (c_cfa3 l Z a0 hw h103 n0 K103.n0le bb kb _ _ Ab) (wd hw 69 rfl) (wd hw 62 rfl) (by decide) (by decide)) (fun _ q => nomatch q) pd7 rfl rfl (Nat.le_of_eq rfl) rfl (by decide) (by decide) (by decide) (fun v105 T105 h105 K105 Q105 q105 => ?_)
  have E105 := Ext.of0 Q105
  have P106 := P104.ext E105
  cases q105
  refine gPut K105 b2_48 (wd hw 26 rfl) (me 0 rfl) (F2.ext (Ext.tr E103 E105)) (Ex.ext (Ext.tr E103 E105)) (Or.inr ⟨(wd hw 22 rfl), rfl, hnm⟩) (wd hw 6 rfl) (ty := .byte) (by decide) rfl rfl (fun T107 h107 K107 W107 F107 => ?_)
  have P108 := P106.trans (Keep.of_wr W107) (fun z q => by cases List.mem_singleton.mp q; exact Or.inl (me 0 rfl))
  have F109 := Fld.other W107 (F1.ext (Ext.tr E103 E105)) (Or.inr (slot_ne (C := "java/lang/String") (a0 := a0) (Or.inr (wd hw 21 rfl)) (Or.inr (wd hw 22 rfl)) (by decide) (by decide : parseFieldDescriptor _ = some (.array .byte)) (by decide : parseFieldDescriptor _ = some .byte)))
  have A110 := Exa.wr W107 (Ex.ext (Ext.tr E103 E105))
  refine gAloadN K107 b2_51 (v := (.ref x)) rfl rfl ?_
  refine gAload K107 b2_52 (v := (.ref bb)) rfl rfl ?_
  refine gPut K107 b2_54 (wd hw 25 rfl) (me 0 rfl) F109 A110 (Or.inr ⟨(wd hw 21 rfl), rfl, hnm⟩) (wd hw 6 rfl) (ty := (.array .byte)) (by decide) rfl rfl (fun T111 h111 K111 W111 F111 => ?_)
  have P112 := P108.trans (Keep.of_wr W111) (fun z q => by cases List.mem_singleton.mp q; exact Or.inl (me 0 rfl))
  have F113 := Fld.other W111 F107 (Or.inr (slot_ne (C := "java/lang/String") (a0 := a0) (Or.inr (wd hw 22 rfl)) (Or.inr (wd hw 21 rfl)) (by decide) (by decide : parseFieldDescriptor _ = some .byte) (by decide : parseFieldDescriptor _ = some (.array .byte))))
  have A114 := Exa.wr W111 A110
  refine gRetV K111 hlk hret b2_57 P112 (by decide) (by decide) ?_
  exact ⟨rfl, bb, kb, A114, F113, F111, (((Ab.ext E105).keep (Keep.of_wr W107) (ninS (Nat.ne_of_gt (Nat.lt_of_lt_of_le Ex.lt gb)) nin0)).keep (Keep.of_wr W111) (ninS (Nat.ne_of_gt (Nat.lt_of_lt_of_le Ex.lt gb)) nin0)), (allI hb0 (allI hb1 (allI hb2 allI0))), hu, Nat.le_of_ble_eq_true rfl⟩
set_option maxRecDepth 65536 in
set_option maxHeartbeats 40000000 in
theorem c_iU1_3 (l : Launch) (Z : State) (a0 : Array Value) (hw : ∀ d ∈ tables_1, d.before a0 Z = true) (h0 : Heap) (n0 : Nat) (Z0 : n0 ≤ h0.size) (ca : Addr) (kC : ClassId) (dv : Value) (c0 c1 c2 : Int32) (Ac : Arv Z h0 ca kC .char (3 : Int32) [.int c0, .int c1, .int c2] dv) (hb0 : ¬ c0 < 0 ∧ ¬ (65535 : Int32) < c0) (hb1 : ¬ c1 < 0 ∧ ¬ (65535 : Int32) < c1) (hb2 : ¬ c2 < 0 ∧ ¬ (65535 : Int32) < c2) (u : US Z h0) (hu : ∃ c ∈ [c0, c1, c2], (255 : Int32) < c) (z : Int32) (Sc : Sta Z h0 "java/lang/String" "COMPACT_STRINGS" "Z" (.int z)) (hz : ¬ z = 0) (x : Addr) (v1 v2 : Value) (gx : n0 ≤ x) (Ex : Exa Z h0 x "java/lang/String") (F1 : Fld Z h0 x "java/lang/String" "value" "[B" v1) (F2 : Fld Z h0 x "java/lang/String" "coder" "B" v2) :
    Con none l (⟨"java/lang/String", "<init>", "([C)V"⟩ : MethodName) jdk_42_method_3_code 2 none [] ({ frames := 5, cells := 2, slots := 9, locals := 74 } : Room) Z n0 h0 [x] #[(.ref x), (.ref ca)] (fun v h => v = none ∧ StrU Z h x [c0, c1, c2]) := by
  refine Con.intro pn0 Z0 (allS ⟨gx, Ex.lt⟩ all0) trivial #[.val (.ref x), .val (.ref ca)] (fun m => by first | (simp [entryFrame, mkF, argsToLocals, Value.category]; done) | rfl) ?_
  intro p e s m below meth c T0 hlk hret hnm K0
  have P0 := Keep.refl h0 [x]
  refine gAloadN K0 b1_0 (v := (.ref x)) rfl rfl ?_
  refine gAloadN K0 b1_1 (v := (.ref ca)) rfl rfl ?_
  refine gIconst K0 (0 : Int32) b1_2 rfl ?_
  refine gAloadN K0 b1_3 (v := (.ref ca)) rfl rfl ?_
  refine gLen K0 b1_4 Ac ?_
  refine gNull K0 b1_5 ?_
  refine gCallI K0 (W := 0) x [(.ref ca), (.int (0 : Int32)), (.int (3 : Int32)), .null] [] b1_6 rfl (wd hw 12 rfl) (wd hw 13 rfl) (wd hw 15 rfl) (Cal.ofN (W := 0) (c_iU4_3 l Z a0 hw h0 n0 K0.n0le ca kC dv c0 c1 c2 Ac hb0 hb1 hb2 u hu z Sc hz x v1 v2 gx Ex F1 F2) (wd hw 15 rfl) (wd hw 7 rfl) (by decide) (by decide)) (fun z q => by cases List.mem_singleton.mp q; exact (me 0 rfl)) pd0 rfl rfl (Nat.le_of_eq rfl) rfl (by decide) (by decide) (by decide) (fun v101 T101 h101 K101 Q101 q101 => ?_)
  have P102 := P0.trans Q101 (fun z q => by cases List.mem_singleton.mp q; exact Or.inl (me 0 rfl))
  obtain ⟨rfl, Su⟩ := q101
  refine gRetV K101 hlk hret b1_9 P102 (by decide) (by decide) ?_
  exact ⟨rfl, Su⟩
theorem cal_strA3 {p : Program} {l : Launch} {e : Env} {R : Room} {args : Array Value} {below : List Frame} {W : Nat} {Z : State} {a0 : Array Value} {h : Heap} {n0 : Nat} (hw : ∀ d ∈ tables_1, d.before a0 Z = true) {x b : Addr} {kC : ClassId} {c0 c1 c2 : Int32} {d v0 c0' : Value} {z : Int32}
    (hx0 : n0 ≤ x) (hh0 : n0 ≤ h.size) (E : Exa Z h x "java/lang/String") (V : Fld Z h x "java/lang/String" "value" "[B" v0) (C : Fld Z h x "java/lang/String" "coder" "B" c0') (K : Arv Z h b kC .char (3 : Int32) [.int c0, .int c1, .int c2] d) (S : Sta Z h "java/lang/String" "COMPACT_STRINGS" "Z" (.int z)) (hz : ¬ z = 0) (u : US Z h)
    (hb0 : ¬ c0 < 0 ∧ ¬ (65535 : Int32) < c0) (hb1 : ¬ c1 < 0 ∧ ¬ (65535 : Int32) < c1) (hb2 : ¬ c2 < 0 ∧ ¬ (65535 : Int32) < c2) (hfr : 6 ≤ R.frames) (hlo : W + 87 ≤ R.locals) :
    Cal (some [("java/lang/String", 7), ("java/lang/StringLatin1", 151)]) l R p e below args (⟨"java/lang/String", "<init>", "([C)V"⟩ : MethodName) 3 W Z n0 h [x] #[.ref x, .ref b] 2 9 (fun v h' => v = none ∧ StrA Z h' x [c0, c1, c2]) := by
  by_cases hu : ∃ c ∈ [c0, c1, c2], (255 : Int32) < c
  · exact Cal.mono (Cal.ofN (W := W) (c_iU1_3 l Z a0 hw h n0 hh0 b kC d c0 c1 c2 K hb0 hb1 hb2 u hu z S hz x v0 c0' hx0 E V C) (wd hw 11 rfl) (wd hw 7 rfl) hfr (Nat.le_trans (show W + (2 + 11) + 74 ≤ W + 87 by omega) hlo)) (Nat.le_refl _) (Nat.le_refl _) (fun _ _ q => ⟨q.1, Or.inr q.2⟩)
  · exact Cal.mono (cal_strN hw (cs := [c0, c1, c2]) 3 hx0 hh0 E V C K S hz rfl (by decide) (by decide) (fun c hc => ⟨((((allI hb0 (allI hb1 (allI hb2 allI0))) : ∀ c ∈ [c0, c1, c2], ¬ c < 0 ∧ ¬ (65535 : Int32) < c)) c hc).1, fun q => hu ⟨c, hc, q⟩⟩) (Nat.le_trans (by decide) hfr) (by omega)) (by decide) (by decide) (fun _ _ q => ⟨q.1, Or.inl q.2⟩)

set_option maxRecDepth 65536 in
set_option maxHeartbeats 40000000 in
theorem c_nbl4 (l : Launch) (Z : State) (a0 : Array Value) (hw : ∀ d ∈ tables_1, d.before a0 Z = true) (h0 : Heap) (n0 : Nat) (Z0 : n0 ≤ h0.size)  :
    Con none l (⟨"java/lang/StringUTF16", "newBytesLength", "(I)I"⟩ : MethodName) jdk_52_method_3_code 1 (some .int) [] ({ frames := 0, cells := 0, slots := 0, locals := 0 } : Room) Z n0 h0 [] #[(.int (4 : Int32))] (fun v h => v = some (.int (8 : Int32))) := by
  refine Con.intro pn1 Z0 (fun _ q => nomatch q) trivial #[.val (.int (4 : Int32))] (fun m => by first | (simp [entryFrame, mkF, argsToLocals, Value.category]; done) | rfl) ?_
  intro p e s m below meth c T0 hlk hret hnm K0
  have P0 := Keep.refl h0 []
  refine gIloadN K0 b28_0 (v := (4 : Int32)) rfl ?_
  refine gIf_ge K0 b28_1 (fun q1 => ?_) (fun q => absurd q (by first | decide | (intro hh; cases hh) | simp))
  refine gIloadN K0 b28_12 (v := (4 : Int32)) rfl ?_
  refine gLdcI K0 (1073741823 : Int32) b28_13 (wd hw 129 rfl) ?_
  refine gIcmp_lt K0 b28_15 (fun q15 => ?_) (fun q => absurd q (by first | decide | (intro hh; cases hh) | simp))
  refine gIloadN K0 b28_55 (v := (4 : Int32)) rfl ?_
  refine gIconst K0 (1 : Int32) b28_56 rfl ?_
  refine gIshlV K0 (8 : Int32) b28_57 (by decide) ?_
  refine gRetI K0 hlk hret (by simp) b28_58 rfl P0 (by decide) (by decide) ?_
  exact rfl
set_option maxRecDepth 65536 in
set_option maxHeartbeats 40000000 in
theorem c_nbf4 (l : Launch) (Z : State) (a0 : Array Value) (hw : ∀ d ∈ tables_1, d.before a0 Z = true) (h0 : Heap) (n0 : Nat) (Z0 : n0 ≤ h0.size)  :
    Con none l (⟨"java/lang/StringUTF16", "newBytesFor", "(I)[B"⟩ : MethodName) jdk_52_method_2_code 1 (some (.array .byte)) [] ({ frames := 1, cells := 1, slots := 8, locals := 12 } : Room) Z n0 h0 [] #[(.int (4 : Int32))] (fun v h => ∃ (b : Addr) (kA : ClassId), v = some (.ref b) ∧ h0.size ≤ b ∧ Arv Z h b kA .byte (8 : Int32) [] (.int 0)) := by
  refine Con.intro pn1 Z0 (fun _ q => nomatch q) trivial #[.val (.int (4 : Int32))] (fun m => by first | (simp [entryFrame, mkF, argsToLocals, Value.category]; done) | rfl) ?_
  intro p e s m below meth c T0 hlk hret hnm K0
  have P0 := Keep.refl h0 []
  refine gIloadN K0 b27_0 (v := (4 : Int32)) rfl ?_
  refine gCallS K0 (W := 0) [(.int (4 : Int32))] [] b27_1 (wd hw 126 rfl) (wd hw 127 rfl) (wd hw 62 rfl) (wd hw 128 rfl) (Cal.ofN (W := 0) (c_nbl4 l Z a0 hw h0 n0 K0.n0le) (wd hw 128 rfl) (wd hw 62 rfl) (by decide) (by decide)) (fun _ q => nomatch q) pd1 rfl rfl (Nat.le_of_eq rfl) rfl (by decide) (by decide) (by decide) (fun v101 T101 h101 K101 Q101 q101 => ?_)
  have E101 := Ext.of0 Q101
  have P102 := P0.ext E101
  cases q101
  refine gNewarr K101 b27_4 (wd hw 20 rfl) (by decide) 8 (by decide) (by decide) (by decide) (by decide) (fun T103 h103 x103 kA103 K103 E103 g103 A103 ne103 => ?_)
  have P104 := P102.ext E103
  have ge_x103 : h0.size ≤ x103 := by rw [g103]; exact P102.1
  refine gRetA K103 hlk hret rfl rfl b27_6 P104 (by decide) (by decide) ?_
  exact ⟨_, _, rfl, ge_x103, A103⟩
set_option maxRecDepth 65536 in
set_option maxHeartbeats 40000000 in
theorem c_toB4 (l : Launch) (Z : State) (a0 : Array Value) (hw : ∀ d ∈ tables_1, d.before a0 Z = true) (h0 : Heap) (n0 : Nat) (Z0 : n0 ≤ h0.size) (ca : Addr) (kC : ClassId) (dv : Value) (c0 c1 c2 c3 : Int32) (Ac : Arv Z h0 ca kC .char (4 : Int32) [.int c0, .int c1, .int c2, .int c3] dv)  (u : US Z h0) :
    Con none l (⟨"java/lang/StringUTF16", "toBytes", "([CII)[B"⟩ : MethodName) jdk_52_method_14_code 5 (some (.array .byte)) [] ({ frames := 2, cells := 1, slots := 8, locals := 24 } : Room) Z n0 h0 [] #[(.ref ca), (.int (0 : Int32)), (.int (4 : Int32))] (fun v h => ∃ (b : Addr) (kA : ClassId), v = some (.ref b) ∧ h0.size ≤ b ∧ Arv Z h b kA .byte (Int32.ofNat (2 * 4)) (StrChars.Road.wideBytes [c0, c1, c2, c3]) (.int 0)) := by
  refine Con.intro pn1 Z0 (fun _ q => nomatch q) trivial #[.val (.ref ca), .val (.int (0 : Int32)), .val (.int (4 : Int32)), .unset, .unset] (fun m => by first | (simp [entryFrame, mkF, argsToLocals, Value.category]; done) | rfl) ?_
  intro p e s m below meth c T0 hlk hret hnm K0
  have P0 := Keep.refl h0 []
  refine gIloadN K0 b26_0 (v := (4 : Int32)) rfl ?_
  refine gCallS K0 (W := 0) [(.int (4 : Int32))] [] b26_1 (wd hw 123 rfl) (wd hw 124 rfl) (wd hw 62 rfl) (wd hw 125 rfl) (Cal.ofN (W := 0) (c_nbf4 l Z a0 hw h0 n0 K0.n0le) (wd hw 125 rfl) (wd hw 62 rfl) (by decide) (by decide)) (fun _ q => nomatch q) pd2 rfl rfl (Nat.le_of_eq rfl) rfl (by decide) (by decide) (by decide) (fun v101 T101 h101 K101 Q101 q101 => ?_)
  have E101 := Ext.of0 Q101
  have P102 := P0.ext E101
  obtain ⟨bb, kb, rfl, gb, Ab⟩ := q101
  have K103 := Cx.addN K101 (Nat.le_trans Z0 gb) Ab.lt
  refine gAstoreN K103 b26_4 rfl (Ls' := #[.val (.ref ca), .val (.int (0 : Int32)), .val (.int (4 : Int32)), .val (.ref bb), .unset]) rfl ?_
  refine gIconst K103 (0 : Int32) b26_5 rfl ?_
  refine gIstore K103 b26_6 (Ls' := #[.val (.ref ca), .val (.int (0 : Int32)), .val (.int (4 : Int32)), .val (.ref bb), .val (.int (0 : Int32))]) rfl ?_
  refine gIload K103 b26_8 (v := (0 : Int32)) rfl ?_
  refine gIloadN K103 b26_10 (v := (4 : Int32)) rfl ?_
  refine gIcmp_ge K103 b26_11 (fun q => absurd q (by first | decide | (intro hh; cases hh) | simp)) (fun q11 => ?_)
  refine gAloadN K103 b26_14 (v := (.ref bb)) rfl rfl ?_
  refine gIload K103 b26_15 (v := (0 : Int32)) rfl ?_
  refine gAloadN K103 b26_17 (v := (.ref ca)) rfl rfl ?_
  refine gIloadN K103 b26_18 (v := (0 : Int32)) rfl ?_
  refine gCaload K103 b26_19 (Ac.ext E101) (by decide) (v := .int c0) rfl ?_
  refine gCallS K103 (W := 0) [(.ref bb), (.int (0 : Int32)), (.int c0)] [] b26_20 (wd hw 130 rfl) (wd hw 131 rfl) (wd hw 62 rfl) (wd hw 132 rfl) (Cal.ofN (W := 0) (c_putChar l Z a0 hw h101 n0 K103.n0le bb kb _ 0 4 c0 (Nat.le_trans Z0 gb) Ab rfl (by decide) (by decide) (u.ext E101)) (wd hw 132 rfl) (wd hw 62 rfl) (by decide) (by decide)) (fun z q => by cases List.mem_singleton.mp q; exact (me 0 rfl)) pd3 rfl rfl (Nat.le_of_eq rfl) rfl (by decide) (by decide) (by decide) (fun v104 T104 h104 K104 Q104 q104 => ?_)
  have P105 := P102.trans Q104 (fun z q => by cases List.mem_singleton.mp q; exact Or.inr gb)
  obtain ⟨rfl, A104⟩ := q104
  have u104 := US.kp (u.ext E101) Q104 (nsS (Arv.nostat Ab) ns0)
  refine gIinc K104 (1 : Int32) b26_23 rfl (x := (0 : Int32)) rfl (Ls' := #[.val (.ref ca), .val (.int (1 : Int32)), .val (.int (4 : Int32)), .val (.ref bb), .val (.int (0 : Int32))]) rfl ?_
  refine gIinc K104 (1 : Int32) b26_26 rfl (x := (0 : Int32)) rfl (Ls' := #[.val (.ref ca), .val (.int (1 : Int32)), .val (.int (4 : Int32)), .val (.ref bb), .val (.int (1 : Int32))]) rfl ?_
  refine gGoto K104 b26_29 ?_
  refine gIload K104 b26_8 (v := (1 : Int32)) rfl ?_
  refine gIloadN K104 b26_10 (v := (4 : Int32)) rfl ?_
  refine gIcmp_ge K104 b26_11 (fun q => absurd q (by first | decide | (intro hh; cases hh) | simp)) (fun q11 => ?_)
  refine gAloadN K104 b26_14 (v := (.ref bb)) rfl rfl ?_
  refine gIload K104 b26_15 (v := (1 : Int32)) rfl ?_
  refine gAloadN K104 b26_17 (v := (.ref ca)) rfl rfl ?_
  refine gIloadN K104 b26_18 (v := (1 : Int32)) rfl ?_
  refine gCaload K104 b26_19 (Ac.ext (Ext.kp1 E101 Q104 gb)) (by decide) (v := .int c1) rfl ?_
  refine gCallS K104 (W := 0) [(.ref bb), (.int (1 : Int32)), (.int c1)] [] b26_20 (wd hw 130 rfl) (wd hw 131 rfl) (wd hw 62 rfl) (wd hw 132 rfl) (Cal.ofN (W := 0) (c_putChar l Z a0 hw h104 n0 K104.n0le bb kb _ 1 4 c1 (Nat.le_trans Z0 gb) A104 rfl (by decide) (by decide) u104) (wd hw 132 rfl) (wd hw 62 rfl) (by decide) (by decide)) (fun z q => by cases List.mem_singleton.mp q; exact (me 0 rfl)) pd3 rfl rfl (Nat.le_of_eq rfl) rfl (by decide) (by decide) (by decide) (fun v106 T106 h106 K106 Q106 q106 => ?_)
  have P107 := P105.trans Q106 (fun z q => by cases List.mem_singleton.mp q; exact Or.inr gb)
  obtain ⟨rfl, A106⟩ := q106
  have u106 := US.kp u104 Q106 (nsS (Arv.nostat A104) ns0)
  refine gIinc K106 (1 : Int32) b26_23 rfl (x := (1 : Int32)) rfl (Ls' := #[.val (.ref ca), .val (.int (2 : Int32)), .val (.int (4 : Int32)), .val (.ref bb), .val (.int (1 : Int32))]) rfl ?_
  refine gIinc K106 (1 : Int32) b26_26 rfl (x := (1 : Int32)) rfl (Ls' := #[.val (.ref ca), .val (.int (2 : Int32)), .val (.int (4 : Int32)), .val (.ref bb), .val (.int (2 : Int32))]) rfl ?_
  refine gGoto K106 b26_29 ?_
  refine gIload K106 b26_8 (v := (2 : Int32)) rfl ?_
  refine gIloadN K106 b26_10 (v := (4 : Int32)) rfl ?_
  refine gIcmp_ge K106 b26_11 (fun q => absurd q (by first | decide | (intro hh; cases hh) | simp)) (fun q11 => ?_)
  refine gAloadN K106 b26_14 (v := (.ref bb)) rfl rfl ?_
  refine gIload K106 b26_15 (v := (2 : Int32)) rfl ?_
  refine gAloadN K106 b26_17 (v := (.ref ca)) rfl rfl ?_
  refine gIloadN K106 b26_18 (v := (2 : Int32)) rfl ?_
  refine gCaload K106 b26_19 (Ac.ext (Ext.kp1 (Ext.kp1 E101 Q104 gb) Q106 gb)) (by decide) (v := .int c2) rfl ?_
  refine gCallS K106 (W := 0) [(.ref bb), (.int (2 : Int32)), (.int c2)] [] b26_20 (wd hw 130 rfl) (wd hw 131 rfl) (wd hw 62 rfl) (wd hw 132 rfl) (Cal.ofN (W := 0) (c_putChar l Z a0 hw h106 n0 K106.n0le bb kb _ 2 4 c2 (Nat.le_trans Z0 gb) A106 rfl (by decide) (by decide) u106) (wd hw 132 rfl) (wd hw 62 rfl) (by decide) (by decide)) (fun z q => by cases List.mem_singleton.mp q; exact (me 0 rfl)) pd3 rfl rfl (Nat.le_of_eq rfl) rfl (by decide) (by decide) (by decide) (fun v108 T108 h108 K108 Q108 q108 => ?_)
  have P109 := P107.trans Q108 (fun z q => by cases List.mem_singleton.mp q; exact Or.inr gb)
  obtain ⟨rfl, A108⟩ := q108
  have u108 := US.kp u106 Q108 (nsS (Arv.nostat A106) ns0)
  refine gIinc K108 (1 : Int32) b26_23 rfl (x := (2 : Int32)) rfl (Ls' := #[.val (.ref ca), .val (.int (3 : Int32)), .val (.int (4 : Int32)), .val (.ref bb), .val (.int (2 : Int32))]) rfl ?_
  refine gIinc K108 (1 : Int32) b26_26 rfl (x := (2 : Int32)) rfl (Ls' := #[.val (.ref ca), .val (.int (3 : Int32)), .val (.int (4 : Int32)), .val (.ref bb), .val (.int (3 : Int32))]) rfl ?_
  refine gGoto K108 b26_29 ?_
  refine gIload K108 b26_8 (v := (3 : Int32)) rfl ?_
  refine gIloadN K108 b26_10 (v := (4 : Int32)) rfl ?_
  refine gIcmp_ge K108 b26_11 (fun q => absurd q (by first | decide | (intro hh; cases hh) | simp)) (fun q11 => ?_)
  refine gAloadN K108 b26_14 (v := (.ref bb)) rfl rfl ?_
  refine gIload K108 b26_15 (v := (3 : Int32)) rfl ?_
  refine gAloadN K108 b26_17 (v := (.ref ca)) rfl rfl ?_
  refine gIloadN K108 b26_18 (v := (3 : Int32)) rfl ?_
  refine gCaload K108 b26_19 (Ac.ext (Ext.kp1 (Ext.kp1 (Ext.kp1 E101 Q104 gb) Q106 gb) Q108 gb)) (by decide) (v := .int c3) rfl ?_
  refine gCallS K108 (W := 0) [(.ref bb), (.int (3 : Int32)), (.int c3)] [] b26_20 (wd hw 130 rfl) (wd hw 131 rfl) (wd hw 62 rfl) (wd hw 132 rfl) (Cal.ofN (W := 0) (c_putChar l Z a0 hw h108 n0 K108.n0le bb kb _ 3 4 c3 (Nat.le_trans Z0 gb) A108 rfl (by decide) (by decide) u108) (wd hw 132 rfl) (wd hw 62 rfl) (by decide) (by decide)) (fun z q => by cases List.mem_singleton.mp q; exact (me 0 rfl)) pd3 rfl rfl (Nat.le_of_eq rfl) rfl (by decide) (by decide) (by decide) (fun v110 T110 h110 K110 Q110 q110 => ?_)
  have P111 := P109.trans Q110 (fun z q => by cases List.mem_singleton.mp q; exact Or.inr gb)
  obtain ⟨rfl, A110⟩ := q110
  have u110 := US.kp u108 Q110 (nsS (Arv.nostat A108) ns0)
  refine gIinc K110 (1 : Int32) b26_23 rfl (x := (3 : Int32)) rfl (Ls' := #[.val (.ref ca), .val (.int (4 : Int32)), .val (.int (4 : Int32)), .val (.ref bb), .val (.int (3 : Int32))]) rfl ?_
  refine gIinc K110 (1 : Int32) b26_26 rfl (x := (3 : Int32)) rfl (Ls' := #[.val (.ref ca), .val (.int (4 : Int32)), .val (.int (4 : Int32)), .val (.ref bb), .val (.int (4 : Int32))]) rfl ?_
  refine gGoto K110 b26_29 ?_
  refine gIload K110 b26_8 (v := (4 : Int32)) rfl ?_
  refine gIloadN K110 b26_10 (v := (4 : Int32)) rfl ?_
  refine gIcmp_ge K110 b26_11 (fun q11 => ?_) (fun q => absurd q (by first | decide | (intro hh; cases hh) | simp))
  refine gAloadN K110 b26_32 (v := (.ref bb)) rfl rfl ?_
  refine gRetA K110 hlk hret rfl rfl b26_33 P111 (by decide) (by decide) ?_
  exact ⟨bb, kb, rfl, gb, A110⟩
set_option maxRecDepth 65536 in
set_option maxHeartbeats 40000000 in
theorem c_cmp5_4 (l : Launch) (Z : State) (a0 : Array Value) (hw : ∀ d ∈ tables_1, d.before a0 Z = true) (h0 : Heap) (n0 : Nat) (Z0 : n0 ≤ h0.size) (ca : Addr) (kC : ClassId) (dv : Value) (c0 c1 c2 c3 : Int32) (Ac : Arv Z h0 ca kC .char (4 : Int32) [.int c0, .int c1, .int c2, .int c3] dv) (hb0 : ¬ c0 < 0 ∧ ¬ (65535 : Int32) < c0) (hb1 : ¬ c1 < 0 ∧ ¬ (65535 : Int32) < c1) (hb2 : ¬ c2 < 0 ∧ ¬ (65535 : Int32) < c2) (hb3 : ¬ c3 < 0 ∧ ¬ (65535 : Int32) < c3) (u : US Z h0) (dd : Addr) (kD : ClassId) (gd : n0 ≤ dd) (Ad : Arv Z h0 dd kD .byte (4 : Int32) [] (.int 0)) (hcd : ca ≠ dd) (hu : ∃ c ∈ [c0, c1, c2, c3], (255 : Int32) < c) :
    Con none l (⟨"java/lang/StringUTF16", "compress", "([CI[BII)I"⟩ : MethodName) jdk_52_method_21_code 7 (some .int) [] ({ frames := 0, cells := 0, slots := 0, locals := 0 } : Room) Z n0 h0 [dd] #[(.ref ca), (.int (0 : Int32)), (.ref dd), (.int (0 : Int32)), (.int (4 : Int32))] (fun v h => ∃ j : Nat, v = some (.int (Int32.ofNat j)) ∧ j < 4 ∧ (255 : Int32) < [c0, c1, c2, c3].getD j 0) := by
  refine Con.intro pn1 Z0 (allS ⟨gd, Ad.lt⟩ all0) trivial #[.val (.ref ca), .val (.int (0 : Int32)), .val (.ref dd), .val (.int (0 : Int32)), .val (.int (4 : Int32)), .unset, .unset] (fun m => by first | (simp [entryFrame, mkF, argsToLocals, Value.category]; done) | rfl) ?_
  intro p e s m below meth c T0 hlk hret hnm K0
  have P0 := Keep.refl h0 [dd]
  refine gIconst K0 (0 : Int32) b12_0 rfl ?_
  refine gIstore K0 b12_1 (Ls' := #[.val (.ref ca), .val (.int (0 : Int32)), .val (.ref dd), .val (.int (0 : Int32)), .val (.int (4 : Int32)), .val (.int (0 : Int32)), .unset]) rfl ?_
  refine gIload K0 b12_3 (v := (0 : Int32)) rfl ?_
  refine gIload K0 b12_5 (v := (4 : Int32)) rfl ?_
  refine gIcmp_ge K0 b12_7 (fun q => absurd q (by first | decide | (intro hh; cases hh) | simp)) (fun q7 => ?_)
  refine gAloadN K0 b12_10 (v := (.ref ca)) rfl rfl ?_
  refine gIloadN K0 b12_11 (v := (0 : Int32)) rfl ?_
  refine gCaload K0 b12_12 Ac (by decide) (v := .int c0) rfl ?_
  refine gIstore K0 b12_13 (Ls' := #[.val (.ref ca), .val (.int (0 : Int32)), .val (.ref dd), .val (.int (0 : Int32)), .val (.int (4 : Int32)), .val (.int (0 : Int32)), .val (.int c0)]) rfl ?_
  refine gIload K0 b12_15 (v := c0) rfl ?_
  refine gSipush K0 (255 : Int32) b12_17 rfl ?_
  refine gIcmp_le K0 b12_20 (fun hl_c0 => ?_) (fun hl_c0 => ?_)
  · skip
    refine gAloadN K0 b12_26 (v := (.ref dd)) rfl rfl ?_
    refine gIloadN K0 b12_27 (v := (0 : Int32)) rfl ?_
    refine gIload K0 b12_28 (v := c0) rfl ?_
    refine gI2b K0 b12_30 ?_
    refine gBastore K0 b12_31 (me 0 rfl) Ad rfl (by decide) (fun T101 h101 K101 Q101 A101 => ?_)
    have P102 := P0.trans Q101 (fun z q => by cases List.mem_singleton.mp q; exact Or.inl (me 0 rfl))
    refine gIinc K101 (1 : Int32) b12_32 rfl (x := (0 : Int32)) rfl (Ls' := #[.val (.ref ca), .val (.int (1 : Int32)), .val (.ref dd), .val (.int (0 : Int32)), .val (.int (4 : Int32)), .val (.int (0 : Int32)), .val (.int c0)]) rfl ?_
    refine gIinc K101 (1 : Int32) b12_35 rfl (x := (0 : Int32)) rfl (Ls' := #[.val (.ref ca), .val (.int (1 : Int32)), .val (.ref dd), .val (.int (1 : Int32)), .val (.int (4 : Int32)), .val (.int (0 : Int32)), .val (.int c0)]) rfl ?_
    refine gIinc K101 (1 : Int32) b12_38 rfl (x := (0 : Int32)) rfl (Ls' := #[.val (.ref ca), .val (.int (1 : Int32)), .val (.ref dd), .val (.int (1 : Int32)), .val (.int (4 : Int32)), .val (.int (1 : Int32)), .val (.int c0)]) rfl ?_
    refine gGoto K101 b12_41 ?_
    refine gIload K101 b12_3 (v := (1 : Int32)) rfl ?_
    refine gIload K101 b12_5 (v := (4 : Int32)) rfl ?_
    refine gIcmp_ge K101 b12_7 (fun q => absurd q (by first | decide | (intro hh; cases hh) | simp)) (fun q7 => ?_)
    refine gAloadN K101 b12_10 (v := (.ref ca)) rfl rfl ?_
    refine gIloadN K101 b12_11 (v := (1 : Int32)) rfl ?_
    refine gCaload K101 b12_12 (Ac.keep Q101 (ninS hcd nin0)) (by decide) (v := .int c1) rfl ?_
    refine gIstore K101 b12_13 (Ls' := #[.val (.ref ca), .val (.int (1 : Int32)), .val (.ref dd), .val (.int (1 : Int32)), .val (.int (4 : Int32)), .val (.int (1 : Int32)), .val (.int c1)]) rfl ?_
    refine gIload K101 b12_15 (v := c1) rfl ?_
    refine gSipush K101 (255 : Int32) b12_17 rfl ?_
    refine gIcmp_le K101 b12_20 (fun hl_c1 => ?_) (fun hl_c1 => ?_)
    · skip
      refine gAloadN K101 b12_26 (v := (.ref dd)) rfl rfl ?_
      refine gIloadN K101 b12_27 (v := (1 : Int32)) rfl ?_
      refine gIload K101 b12_28 (v := c1) rfl ?_
      refine gI2b K101 b12_30 ?_
      refine gBastore K101 b12_31 (me 0 rfl) A101 rfl (by decide) (fun T103 h103 K103 Q103 A103 => ?_)
      have P104 := P102.trans Q103 (fun z q => by cases List.mem_singleton.mp q; exact Or.inl (me 0 rfl))
      refine gIinc K103 (1 : Int32) b12_32 rfl (x := (1 : Int32)) rfl (Ls' := #[.val (.ref ca), .val (.int (2 : Int32)), .val (.ref dd), .val (.int (1 : Int32)), .val (.int (4 : Int32)), .val (.int (1 : Int32)), .val (.int c1)]) rfl ?_
      refine gIinc K103 (1 : Int32) b12_35 rfl (x := (1 : Int32)) rfl (Ls' := #[.val (.ref ca), .val (.int (2 : Int32)), .val (.ref dd), .val (.int (2 : Int32)), .val (.int (4 : Int32)), .val (.int (1 : Int32)), .val (.int c1)]) rfl ?_
      refine gIinc K103 (1 : Int32) b12_38 rfl (x := (1 : Int32)) rfl (Ls' := #[.val (.ref ca), .val (.int (2 : Int32)), .val (.ref dd), .val (.int (2 : Int32)), .val (.int (4 : Int32)), .val (.int (2 : Int32)), .val (.int c1)]) rfl ?_
      refine gGoto K103 b12_41 ?_
      refine gIload K103 b12_3 (v := (2 : Int32)) rfl ?_
      refine gIload K103 b12_5 (v := (4 : Int32)) rfl ?_
      refine gIcmp_ge K103 b12_7 (fun q => absurd q (by first | decide | (intro hh; cases hh) | simp)) (fun q7 => ?_)
      refine gAloadN K103 b12_10 (v := (.ref ca)) rfl rfl ?_
      refine gIloadN K103 b12_11 (v := (2 : Int32)) rfl ?_
      refine gCaload K103 b12_12 ((Ac.keep Q101 (ninS hcd nin0)).keep Q103 (ninS hcd nin0)) (by decide) (v := .int c2) rfl ?_
      refine gIstore K103 b12_13 (Ls' := #[.val (.ref ca), .val (.int (2 : Int32)), .val (.ref dd), .val (.int (2 : Int32)), .val (.int (4 : Int32)), .val (.int (2 : Int32)), .val (.int c2)]) rfl ?_
      refine gIload K103 b12_15 (v := c2) rfl ?_
      refine gSipush K103 (255 : Int32) b12_17 rfl ?_
      refine gIcmp_le K103 b12_20 (fun hl_c2 => ?_) (fun hl_c2 => ?_)
      · skip
        refine gAloadN K103 b12_26 (v := (.ref dd)) rfl rfl ?_
        refine gIloadN K103 b12_27 (v := (2 : Int32)) rfl ?_
        refine gIload K103 b12_28 (v := c2) rfl ?_
        refine gI2b K103 b12_30 ?_
        refine gBastore K103 b12_31 (me 0 rfl) A103 rfl (by decide) (fun T105 h105 K105 Q105 A105 => ?_)
        have P106 := P104.trans Q105 (fun z q => by cases List.mem_singleton.mp q; exact Or.inl (me 0 rfl))
        refine gIinc K105 (1 : Int32) b12_32 rfl (x := (2 : Int32)) rfl (Ls' := #[.val (.ref ca), .val (.int (3 : Int32)), .val (.ref dd), .val (.int (2 : Int32)), .val (.int (4 : Int32)), .val (.int (2 : Int32)), .val (.int c2)]) rfl ?_
        refine gIinc K105 (1 : Int32) b12_35 rfl (x := (2 : Int32)) rfl (Ls' := #[.val (.ref ca), .val (.int (3 : Int32)), .val (.ref dd), .val (.int (3 : Int32)), .val (.int (4 : Int32)), .val (.int (2 : Int32)), .val (.int c2)]) rfl ?_
        refine gIinc K105 (1 : Int32) b12_38 rfl (x := (2 : Int32)) rfl (Ls' := #[.val (.ref ca), .val (.int (3 : Int32)), .val (.ref dd), .val (.int (3 : Int32)), .val (.int (4 : Int32)), .val (.int (3 : Int32)), .val (.int c2)]) rfl ?_
        refine gGoto K105 b12_41 ?_
        refine gIload K105 b12_3 (v := (3 : Int32)) rfl ?_
        refine gIload K105 b12_5 (v := (4 : Int32)) rfl ?_
        refine gIcmp_ge K105 b12_7 (fun q => absurd q (by first | decide | (intro hh; cases hh) | simp)) (fun q7 => ?_)
        refine gAloadN K105 b12_10 (v := (.ref ca)) rfl rfl ?_
        refine gIloadN K105 b12_11 (v := (3 : Int32)) rfl ?_
        refine gCaload K105 b12_12 (((Ac.keep Q101 (ninS hcd nin0)).keep Q103 (ninS hcd nin0)).keep Q105 (ninS hcd nin0)) (by decide) (v := .int c3) rfl ?_
        refine gIstore K105 b12_13 (Ls' := #[.val (.ref ca), .val (.int (3 : Int32)), .val (.ref dd), .val (.int (3 : Int32)), .val (.int (4 : Int32)), .val (.int (3 : Int32)), .val (.int c3)]) rfl ?_
        refine gIload K105 b12_15 (v := c3) rfl ?_
        refine gSipush K105 (255 : Int32) b12_17 rfl ?_
        refine gIcmp_le K105 b12_20 (fun hl_c3 => ?_) (fun hl_c3 => ?_)
        · skip
          refine gAloadN K105 b12_26 (v := (.ref dd)) rfl rfl ?_
          refine gIloadN K105 b12_27 (v := (3 : Int32)) rfl ?_
          refine gIload K105 b12_28 (v := c3) rfl ?_
          refine gI2b K105 b12_30 ?_
          refine gBastore K105 b12_31 (me 0 rfl) A105 rfl (by decide) (fun T107 h107 K107 Q107 A107 => ?_)
          have P108 := P106.trans Q107 (fun z q => by cases List.mem_singleton.mp q; exact Or.inl (me 0 rfl))
          refine gIinc K107 (1 : Int32) b12_32 rfl (x := (3 : Int32)) rfl (Ls' := #[.val (.ref ca), .val (.int (4 : Int32)), .val (.ref dd), .val (.int (3 : Int32)), .val (.int (4 : Int32)), .val (.int (3 : Int32)), .val (.int c3)]) rfl ?_
          refine gIinc K107 (1 : Int32) b12_35 rfl (x := (3 : Int32)) rfl (Ls' := #[.val (.ref ca), .val (.int (4 : Int32)), .val (.ref dd), .val (.int (4 : Int32)), .val (.int (4 : Int32)), .val (.int (3 : Int32)), .val (.int c3)]) rfl ?_
          refine gIinc K107 (1 : Int32) b12_38 rfl (x := (3 : Int32)) rfl (Ls' := #[.val (.ref ca), .val (.int (4 : Int32)), .val (.ref dd), .val (.int (4 : Int32)), .val (.int (4 : Int32)), .val (.int (4 : Int32)), .val (.int c3)]) rfl ?_
          refine gGoto K107 b12_41 ?_
          refine gIload K107 b12_3 (v := (4 : Int32)) rfl ?_
          refine gIload K107 b12_5 (v := (4 : Int32)) rfl ?_
          refine gIcmp_ge K107 b12_7 (fun q7 => ?_) (fun q => absurd q (by first | decide | (intro hh; cases hh) | simp))
          refine gIload K107 b12_44 (v := (4 : Int32)) rfl ?_
          exact absurd hu (noHi (allI hl_c0 (allI hl_c1 (allI hl_c2 (allI hl_c3 allI0)))))
        · skip
          refine gIload K105 b12_23 (v := (3 : Int32)) rfl ?_
          refine gRetI K105 hlk hret (by simp) b12_25 rfl P106 (by decide) (by decide) ?_
          exact ⟨3, rfl, by decide, hl_c3⟩
      · skip
        refine gIload K103 b12_23 (v := (2 : Int32)) rfl ?_
        refine gRetI K103 hlk hret (by simp) b12_25 rfl P104 (by decide) (by decide) ?_
        exact ⟨2, rfl, by decide, hl_c2⟩
    · skip
      refine gIload K101 b12_23 (v := (1 : Int32)) rfl ?_
      refine gRetI K101 hlk hret (by simp) b12_25 rfl P102 (by decide) (by decide) ?_
      exact ⟨1, rfl, by decide, hl_c1⟩
  · skip
    refine gIload K0 b12_23 (v := (0 : Int32)) rfl ?_
    refine gRetI K0 hlk hret (by simp) b12_25 rfl P0 (by decide) (by decide) ?_
    exact ⟨0, rfl, by decide, hl_c0⟩
set_option maxRecDepth 65536 in
set_option maxHeartbeats 40000000 in
theorem c_cmp3_4 (l : Launch) (Z : State) (a0 : Array Value) (hw : ∀ d ∈ tables_1, d.before a0 Z = true) (h0 : Heap) (n0 : Nat) (Z0 : n0 ≤ h0.size) (ca : Addr) (kC : ClassId) (dv : Value) (c0 c1 c2 c3 : Int32) (Ac : Arv Z h0 ca kC .char (4 : Int32) [.int c0, .int c1, .int c2, .int c3] dv) (hb0 : ¬ c0 < 0 ∧ ¬ (65535 : Int32) < c0) (hb1 : ¬ c1 < 0 ∧ ¬ (65535 : Int32) < c1) (hb2 : ¬ c2 < 0 ∧ ¬ (65535 : Int32) < c2) (hb3 : ¬ c3 < 0 ∧ ¬ (65535 : Int32) < c3) (u : US Z h0) (hu : ∃ c ∈ [c0, c1, c2, c3], (255 : Int32) < c) :
    Con none l (⟨"java/lang/StringUTF16", "compress", "([CII)[B"⟩ : MethodName) jdk_52_method_16_code 6 (some (.array .byte)) [] ({ frames := 3, cells := 2, slots := 12, locals := 40 } : Room) Z n0 h0 [] #[(.ref ca), (.int (0 : Int32)), (.int (4 : Int32))] (fun v h => ∃ (b : Addr) (kA : ClassId), v = some (.ref b) ∧ h0.size ≤ b ∧ Arv Z h b kA .byte (Int32.ofNat (2 * 4)) (StrChars.Road.wideBytes [c0, c1, c2, c3]) (.int 0)) := by
  refine Con.intro pn1 Z0 (fun _ q => nomatch q) trivial #[.val (.ref ca), .val (.int (0 : Int32)), .val (.int (4 : Int32)), .unset, .unset, .unset] (fun m => by first | (simp [entryFrame, mkF, argsToLocals, Value.category]; done) | rfl) ?_
  intro p e s m below meth c T0 hlk hret hnm K0
  have P0 := Keep.refl h0 []
  refine gIloadN K0 b11_0 (v := (4 : Int32)) rfl ?_
  refine gNewarr K0 b11_1 (wd hw 20 rfl) (by decide) 4 (by decide) (by decide) (by decide) (by decide) (fun T101 h101 x101 kA101 K101 E101 g101 A101 ne101 => ?_)
  have P102 := P0.ext E101
  have ge_x101 : h0.size ≤ x101 := by rw [g101]; exact P0.1
  refine gAstoreN K101 b11_3 rfl (Ls' := #[.val (.ref ca), .val (.int (0 : Int32)), .val (.int (4 : Int32)), .val (.ref x101), .unset, .unset]) rfl ?_
  refine gAloadN K101 b11_4 (v := (.ref ca)) rfl rfl ?_
  refine gIloadN K101 b11_5 (v := (0 : Int32)) rfl ?_
  refine gAloadN K101 b11_6 (v := (.ref x101)) rfl rfl ?_
  refine gIconst K101 (0 : Int32) b11_7 rfl ?_
  refine gIloadN K101 b11_8 (v := (4 : Int32)) rfl ?_
  refine gCallS K101 (W := 0) [(.ref ca), (.int (0 : Int32)), (.ref x101), (.int (0 : Int32)), (.int (4 : Int32))] [] b11_9 (wd hw 64 rfl) (wd hw 65 rfl) (wd hw 62 rfl) (wd hw 66 rfl) (Cal.ofN (W := 0) (c_cmp5_4 l Z a0 hw h101 n0 K101.n0le ca kC dv c0 c1 c2 c3 (Ac.ext E101) hb0 hb1 hb2 hb3 (u.ext E101) x101 _ (K101.wsge (me 0 rfl)) A101 (Nat.ne_of_lt (Nat.lt_of_lt_of_le Ac.lt ge_x101)) hu) (wd hw 66 rfl) (wd hw 62 rfl) (by decide) (by decide)) (fun z q => by cases List.mem_singleton.mp q; exact (me 0 rfl)) pd4 rfl rfl (Nat.le_of_eq rfl) rfl (by decide) (by decide) (by decide) (fun v103 T103 h103 K103 Q103 q103 => ?_)
  have P104 := P102.trans Q103 (fun z q => by cases List.mem_singleton.mp q; exact Or.inr ge_x101)
  obtain ⟨j, rfl, hj, hcj⟩ := q103
  refine gIstore K103 b11_12 (Ls' := #[.val (.ref ca), .val (.int (0 : Int32)), .val (.int (4 : Int32)), .val (.ref x101), .val (.int (Int32.ofNat j)), .unset]) rfl ?_
  refine gIload K103 b11_14 (v := (Int32.ofNat j)) rfl ?_
  refine gIloadN K103 b11_16 (v := (4 : Int32)) rfl ?_
  refine gIcmp_eq K103 b11_17 (fun q => absurd q (ofNat_ne hj (by decide))) (fun q17 => ?_)
  refine gAloadN K103 b11_20 (v := (.ref ca)) rfl rfl ?_
  refine gIloadN K103 b11_21 (v := (0 : Int32)) rfl ?_
  refine gIloadN K103 b11_22 (v := (4 : Int32)) rfl ?_
  refine gCallS K103 (W := 0) [(.ref ca), (.int (0 : Int32)), (.int (4 : Int32))] [] b11_23 (wd hw 120 rfl) (wd hw 121 rfl) (wd hw 62 rfl) (wd hw 122 rfl) (Cal.ofN (W := 0) (c_toB4 l Z a0 hw h103 n0 K103.n0le ca kC dv c0 c1 c2 c3 (Ac.ext (Ext.kp1 E101 Q103 (Nat.le_of_eq g101.symm))) (u.ext (Ext.kp1 E101 Q103 (Nat.le_of_eq g101.symm)))) (wd hw 122 rfl) (wd hw 62 rfl) (by decide) (by decide)) (fun _ q => nomatch q) pd5 rfl rfl (Nat.le_of_eq rfl) rfl (by decide) (by decide) (by decide) (fun v105 T105 h105 K105 Q105 q105 => ?_)
  have E105 := Ext.of0 Q105
  have P106 := P104.ext E105
  obtain ⟨bb, kb, rfl, gb, Ab⟩ := q105
  have gb0 : h0.size ≤ bb := Nat.le_trans P104.1 gb
  refine gAstore K105 b11_26 rfl (Ls' := #[.val (.ref ca), .val (.int (0 : Int32)), .val (.int (4 : Int32)), .val (.ref x101), .val (.int (Int32.ofNat j)), .val (.ref bb)]) rfl ?_
  refine gAload K105 b11_28 (v := (.ref bb)) rfl rfl ?_
  refine gIload K105 b11_30 (v := (Int32.ofNat j)) rfl ?_
  refine gCallS K105 (W := 0) [(.ref bb), (.int (Int32.ofNat j))] [] b11_32 (wd hw 136 rfl) (wd hw 137 rfl) (wd hw 62 rfl) (wd hw 138 rfl) (Cal.ofN (W := 0) (c_getChar l Z a0 hw h105 n0 K105.n0le bb kb [c0, c1, c2, c3] j Ab (allI hb0 (allI hb1 (allI hb2 (allI hb3 allI0)))) hj (Nat.le_of_ble_eq_true rfl) (u.ext (Ext.tr (Ext.kp1 E101 Q103 (Nat.le_of_eq g101.symm)) E105))) (wd hw 138 rfl) (wd hw 62 rfl) (by decide) (by decide)) (fun _ q => nomatch q) pd6 rfl rfl (Nat.le_of_eq rfl) rfl (by decide) (by decide) (by decide) (fun v107 T107 h107 K107 Q107 q107 => ?_)
  have E107 := Ext.of0 Q107
  have P108 := P106.ext E107
  cases q107
  refine gSipush K107 (255 : Int32) b11_35 rfl ?_
  refine gIcmp_gt K107 b11_38 (fun q38 => ?_) (fun q => absurd q (not_not_intro hcj))
  refine gAload K107 b11_54 (v := (.ref bb)) rfl rfl ?_
  refine gRetA K107 hlk hret rfl rfl b11_56 P108 (by decide) (by decide) ?_
  exact ⟨bb, kb, rfl, gb0, (Ab.ext E107)⟩
set_option maxRecDepth 65536 in
set_option maxHeartbeats 40000000 in
theorem c_cfa4 (l : Launch) (Z : State) (a0 : Array Value) (hw : ∀ d ∈ tables_1, d.before a0 Z = true) (h0 : Heap) (n0 : Nat) (Z0 : n0 ≤ h0.size) (bb : Addr) (kA : ClassId) (vs : List Value) (dv : Value) (Ab : Arv Z h0 bb kA .byte (8 : Int32) vs dv) :
    Con none l (⟨"java/lang/StringUTF16", "coderFromArrayLen", "([BI)B"⟩ : MethodName) jdk_52_method_15_code 2 (some .byte) [] ({ frames := 0, cells := 0, slots := 0, locals := 0 } : Room) Z n0 h0 [] #[(.ref bb), (.int (4 : Int32))] (fun v h => v = some (.int 1)) := by
  refine Con.intro pn1 Z0 (fun _ q => nomatch q) trivial #[.val (.ref bb), .val (.int (4 : Int32))] (fun m => by first | (simp [entryFrame, mkF, argsToLocals, Value.category]; done) | rfl) ?_
  intro p e s m below meth c T0 hlk hret hnm K0
  have P0 := Keep.refl h0 []
  refine gIloadN K0 b13_0 (v := (4 : Int32)) rfl ?_
  refine gAloadN K0 b13_1 (v := (.ref bb)) rfl rfl ?_
  refine gLen K0 b13_2 Ab ?_
  refine gIsubV K0 (-4 : Int32) b13_3 (by decide) ?_
  refine gBipush K0 (31 : Int32) b13_4 rfl ?_
  refine gIushr K0 b13_6 ?_
  refine gI2b K0 b13_7 ?_
  rw [show ((XT.ushr (-4 : Int32) (31 : Int32))).toInt8.toInt32 = 1 from by decide]
  refine gRetI K0 hlk hret (by simp) b13_8 rfl P0 (by decide) (by decide) ?_
  exact rfl
set_option maxRecDepth 65536 in
set_option maxHeartbeats 40000000 in
theorem c_iU4_4 (l : Launch) (Z : State) (a0 : Array Value) (hw : ∀ d ∈ tables_1, d.before a0 Z = true) (h0 : Heap) (n0 : Nat) (Z0 : n0 ≤ h0.size) (ca : Addr) (kC : ClassId) (dv : Value) (c0 c1 c2 c3 : Int32) (Ac : Arv Z h0 ca kC .char (4 : Int32) [.int c0, .int c1, .int c2, .int c3] dv) (hb0 : ¬ c0 < 0 ∧ ¬ (65535 : Int32) < c0) (hb1 : ¬ c1 < 0 ∧ ¬ (65535 : Int32) < c1) (hb2 : ¬ c2 < 0 ∧ ¬ (65535 : Int32) < c2) (hb3 : ¬ c3 < 0 ∧ ¬ (65535 : Int32) < c3) (u : US Z h0) (hu : ∃ c ∈ [c0, c1, c2, c3], (255 : Int32) < c) (z : Int32) (Sc : Sta Z h0 "java/lang/String" "COMPACT_STRINGS" "Z" (.int z)) (hz : ¬ z = 0) (x : Addr) (v1 v2 : Value) (gx : n0 ≤ x) (Ex : Exa Z h0 x "java/lang/String") (F1 : Fld Z h0 x "java/lang/String" "value" "[B" v1) (F2 : Fld Z h0 x "java/lang/String" "coder" "B" v2) :
    Con none l (⟨"java/lang/String", "<init>", "([CIILjava/lang/Void;)V"⟩ : MethodName) jdk_42_method_149_code 6 none [] ({ frames := 4, cells := 2, slots := 12, locals := 57 } : Room) Z n0 h0 [x] #[(.ref x), (.ref ca), (.int (0 : Int32)), (.int (4 : Int32)), .null] (fun v h => v = none ∧ StrU Z h x [c0, c1, c2, c3]) := by
  refine Con.intro pn0 Z0 (allS ⟨gx, Ex.lt⟩ all0) trivial #[.val (.ref x), .val (.ref ca), .val (.int (0 : Int32)), .val (.int (4 : Int32)), .val .null, .unset] (fun m => by first | (simp [entryFrame, mkF, argsToLocals, Value.category]; done) | rfl) ?_
  intro p e s m below meth c T0 hlk hret hnm K0
  have P0 := Keep.refl h0 [x]
  refine gAloadN K0 b2_0 (v := (.ref x)) rfl rfl ?_
  refine gInitO K0 b2_1 (wd hw 16 rfl) (wd hw 17 rfl) (wd hw 18 rfl) rfl (by decide) (W := 0) (Nat.le_of_eq rfl) (by decide) (fun T101 K101 => ?_)
  refine gIloadN K101 b2_4 (v := (4 : Int32)) rfl ?_
  refine gIf_ne K101 b2_5 (fun q5 => ?_) (fun q => absurd q (by first | decide | (intro hh; cases hh) | simp))
  refine gGetS K101 b2_27 (wd hw 41 rfl) Sc (fun T102 K102 => ?_)
  refine gIf_eq K102 b2_30 (fun q => absurd q hz) (fun q30 => ?_)
  refine gAloadN K102 b2_33 (v := (.ref ca)) rfl rfl ?_
  refine gIloadN K102 b2_34 (v := (0 : Int32)) rfl ?_
  refine gIloadN K102 b2_35 (v := (4 : Int32)) rfl ?_
  refine gCallS K102 (W := 0) [(.ref ca), (.int (0 : Int32)), (.int (4 : Int32))] [] b2_36 (wd hw 60 rfl) (wd hw 61 rfl) (wd hw 62 rfl) (wd hw 63 rfl) (Cal.ofN (W := 0) (c_cmp3_4 l Z a0 hw h0 n0 K102.n0le ca kC dv c0 c1 c2 c3 Ac hb0 hb1 hb2 hb3 u hu) (wd hw 63 rfl) (wd hw 62 rfl) (by decide) (by decide)) (fun _ q => nomatch q) pd5 rfl rfl (Nat.le_of_eq rfl) rfl (by decide) (by decide) (by decide) (fun v103 T103 h103 K103 Q103 q103 => ?_)
  have E103 := Ext.of0 Q103
  have P104 := P0.ext E103
  obtain ⟨bb, kb, rfl, gb, Ab⟩ := q103
  refine gAstore K103 b2_39 rfl (Ls' := #[.val (.ref x), .val (.ref ca), .val (.int (0 : Int32)), .val (.int (4 : Int32)), .val .null, .val (.ref bb)]) rfl ?_
  refine gAloadN K103 b2_41 (v := (.ref x)) rfl rfl ?_
  refine gAload K103 b2_42 (v := (.ref bb)) rfl rfl ?_
  refine gIloadN K103 b2_44 (v := (4 : Int32)) rfl ?_
  refine gCallS K103 (W := 1) [(.ref bb), (.int (4 : Int32))] [(.ref x)] b2_45 (wd hw 67 rfl) (wd hw 68 rfl) (wd hw 62 rfl) (wd hw 69 rfl) (Cal.ofN (W := 1) (c_cfa4 l Z a0 hw h103 n0 K103.n0le bb kb _ _ Ab) (wd hw 69 rfl) (wd hw 62 rfl) (by decide) (by decide)) (fun _ q => nomatch q) pd7 rfl rfl (Nat.le_of_eq rfl) rfl (by decide) (by decide) (by decide) (fun v105 T105 h105 K105 Q105 q105 => ?_)
  have E105 := Ext.of0 Q105
  have P106 := P104.ext E105
  cases q105
  refine gPut K105 b2_48 (wd hw 26 rfl) (me 0 rfl) (F2.ext (Ext.tr E103 E105)) (Ex.ext (Ext.tr E103 E105)) (Or.inr ⟨(wd hw 22 rfl), rfl, hnm⟩) (wd hw 6 rfl) (ty := .byte) (by decide) rfl rfl (fun T107 h107 K107 W107 F107 => ?_)
  have P108 := P106.trans (Keep.of_wr W107) (fun z q => by cases List.mem_singleton.mp q; exact Or.inl (me 0 rfl))
  have F109 := Fld.other W107 (F1.ext (Ext.tr E103 E105)) (Or.inr (slot_ne (C := "java/lang/String") (a0 := a0) (Or.inr (wd hw 21 rfl)) (Or.inr (wd hw 22 rfl)) (by decide) (by decide : parseFieldDescriptor _ = some (.array .byte)) (by decide : parseFieldDescriptor _ = some .byte)))
  have A110 := Exa.wr W107 (Ex.ext (Ext.tr E103 E105))
  refine gAloadN K107 b2_51 (v := (.ref x)) rfl rfl ?_
  refine gAload K107 b2_52 (v := (.ref bb)) rfl rfl ?_
  refine gPut K107 b2_54 (wd hw 25 rfl) (me 0 rfl) F109 A110 (Or.inr ⟨(wd hw 21 rfl), rfl, hnm⟩) (wd hw 6 rfl) (ty := (.array .byte)) (by decide) rfl rfl (fun T111 h111 K111 W111 F111 => ?_)
  have P112 := P108.trans (Keep.of_wr W111) (fun z q => by cases List.mem_singleton.mp q; exact Or.inl (me 0 rfl))
  have F113 := Fld.other W111 F107 (Or.inr (slot_ne (C := "java/lang/String") (a0 := a0) (Or.inr (wd hw 22 rfl)) (Or.inr (wd hw 21 rfl)) (by decide) (by decide : parseFieldDescriptor _ = some .byte) (by decide : parseFieldDescriptor _ = some (.array .byte))))
  have A114 := Exa.wr W111 A110
  refine gRetV K111 hlk hret b2_57 P112 (by decide) (by decide) ?_
  exact ⟨rfl, bb, kb, A114, F113, F111, (((Ab.ext E105).keep (Keep.of_wr W107) (ninS (Nat.ne_of_gt (Nat.lt_of_lt_of_le Ex.lt gb)) nin0)).keep (Keep.of_wr W111) (ninS (Nat.ne_of_gt (Nat.lt_of_lt_of_le Ex.lt gb)) nin0)), (allI hb0 (allI hb1 (allI hb2 (allI hb3 allI0)))), hu, Nat.le_of_ble_eq_true rfl⟩
set_option maxRecDepth 65536 in
set_option maxHeartbeats 40000000 in
theorem c_iU1_4 (l : Launch) (Z : State) (a0 : Array Value) (hw : ∀ d ∈ tables_1, d.before a0 Z = true) (h0 : Heap) (n0 : Nat) (Z0 : n0 ≤ h0.size) (ca : Addr) (kC : ClassId) (dv : Value) (c0 c1 c2 c3 : Int32) (Ac : Arv Z h0 ca kC .char (4 : Int32) [.int c0, .int c1, .int c2, .int c3] dv) (hb0 : ¬ c0 < 0 ∧ ¬ (65535 : Int32) < c0) (hb1 : ¬ c1 < 0 ∧ ¬ (65535 : Int32) < c1) (hb2 : ¬ c2 < 0 ∧ ¬ (65535 : Int32) < c2) (hb3 : ¬ c3 < 0 ∧ ¬ (65535 : Int32) < c3) (u : US Z h0) (hu : ∃ c ∈ [c0, c1, c2, c3], (255 : Int32) < c) (z : Int32) (Sc : Sta Z h0 "java/lang/String" "COMPACT_STRINGS" "Z" (.int z)) (hz : ¬ z = 0) (x : Addr) (v1 v2 : Value) (gx : n0 ≤ x) (Ex : Exa Z h0 x "java/lang/String") (F1 : Fld Z h0 x "java/lang/String" "value" "[B" v1) (F2 : Fld Z h0 x "java/lang/String" "coder" "B" v2) :
    Con none l (⟨"java/lang/String", "<init>", "([C)V"⟩ : MethodName) jdk_42_method_3_code 2 none [] ({ frames := 5, cells := 2, slots := 12, locals := 74 } : Room) Z n0 h0 [x] #[(.ref x), (.ref ca)] (fun v h => v = none ∧ StrU Z h x [c0, c1, c2, c3]) := by
  refine Con.intro pn0 Z0 (allS ⟨gx, Ex.lt⟩ all0) trivial #[.val (.ref x), .val (.ref ca)] (fun m => by first | (simp [entryFrame, mkF, argsToLocals, Value.category]; done) | rfl) ?_
  intro p e s m below meth c T0 hlk hret hnm K0
  have P0 := Keep.refl h0 [x]
  refine gAloadN K0 b1_0 (v := (.ref x)) rfl rfl ?_
  refine gAloadN K0 b1_1 (v := (.ref ca)) rfl rfl ?_
  refine gIconst K0 (0 : Int32) b1_2 rfl ?_
  refine gAloadN K0 b1_3 (v := (.ref ca)) rfl rfl ?_
  refine gLen K0 b1_4 Ac ?_
  refine gNull K0 b1_5 ?_
  refine gCallI K0 (W := 0) x [(.ref ca), (.int (0 : Int32)), (.int (4 : Int32)), .null] [] b1_6 rfl (wd hw 12 rfl) (wd hw 13 rfl) (wd hw 15 rfl) (Cal.ofN (W := 0) (c_iU4_4 l Z a0 hw h0 n0 K0.n0le ca kC dv c0 c1 c2 c3 Ac hb0 hb1 hb2 hb3 u hu z Sc hz x v1 v2 gx Ex F1 F2) (wd hw 15 rfl) (wd hw 7 rfl) (by decide) (by decide)) (fun z q => by cases List.mem_singleton.mp q; exact (me 0 rfl)) pd0 rfl rfl (Nat.le_of_eq rfl) rfl (by decide) (by decide) (by decide) (fun v101 T101 h101 K101 Q101 q101 => ?_)
  have P102 := P0.trans Q101 (fun z q => by cases List.mem_singleton.mp q; exact Or.inl (me 0 rfl))
  obtain ⟨rfl, Su⟩ := q101
  refine gRetV K101 hlk hret b1_9 P102 (by decide) (by decide) ?_
  exact ⟨rfl, Su⟩
theorem cal_strA4 {p : Program} {l : Launch} {e : Env} {R : Room} {args : Array Value} {below : List Frame} {W : Nat} {Z : State} {a0 : Array Value} {h : Heap} {n0 : Nat} (hw : ∀ d ∈ tables_1, d.before a0 Z = true) {x b : Addr} {kC : ClassId} {c0 c1 c2 c3 : Int32} {d v0 c0' : Value} {z : Int32}
    (hx0 : n0 ≤ x) (hh0 : n0 ≤ h.size) (E : Exa Z h x "java/lang/String") (V : Fld Z h x "java/lang/String" "value" "[B" v0) (C : Fld Z h x "java/lang/String" "coder" "B" c0') (K : Arv Z h b kC .char (4 : Int32) [.int c0, .int c1, .int c2, .int c3] d) (S : Sta Z h "java/lang/String" "COMPACT_STRINGS" "Z" (.int z)) (hz : ¬ z = 0) (u : US Z h)
    (hb0 : ¬ c0 < 0 ∧ ¬ (65535 : Int32) < c0) (hb1 : ¬ c1 < 0 ∧ ¬ (65535 : Int32) < c1) (hb2 : ¬ c2 < 0 ∧ ¬ (65535 : Int32) < c2) (hb3 : ¬ c3 < 0 ∧ ¬ (65535 : Int32) < c3) (hfr : 6 ≤ R.frames) (hlo : W + 87 ≤ R.locals) :
    Cal (some [("java/lang/String", 7), ("java/lang/StringLatin1", 151)]) l R p e below args (⟨"java/lang/String", "<init>", "([C)V"⟩ : MethodName) 3 W Z n0 h [x] #[.ref x, .ref b] 2 12 (fun v h' => v = none ∧ StrA Z h' x [c0, c1, c2, c3]) := by
  by_cases hu : ∃ c ∈ [c0, c1, c2, c3], (255 : Int32) < c
  · exact Cal.mono (Cal.ofN (W := W) (c_iU1_4 l Z a0 hw h n0 hh0 b kC d c0 c1 c2 c3 K hb0 hb1 hb2 hb3 u hu z S hz x v0 c0' hx0 E V C) (wd hw 11 rfl) (wd hw 7 rfl) hfr (Nat.le_trans (show W + (2 + 11) + 74 ≤ W + 87 by omega) hlo)) (Nat.le_refl _) (Nat.le_refl _) (fun _ _ q => ⟨q.1, Or.inr q.2⟩)
  · exact Cal.mono (cal_strN hw (cs := [c0, c1, c2, c3]) 4 hx0 hh0 E V C K S hz rfl (by decide) (by decide) (fun c hc => ⟨((((allI hb0 (allI hb1 (allI hb2 (allI hb3 allI0)))) : ∀ c ∈ [c0, c1, c2, c3], ¬ c < 0 ∧ ¬ (65535 : Int32) < c)) c hc).1, fun q => hu ⟨c, hc, q⟩⟩) (Nat.le_trans (by decide) hfr) (by omega)) (by decide) (by decide) (fun _ _ q => ⟨q.1, Or.inl q.2⟩)

set_option maxRecDepth 65536 in
set_option maxHeartbeats 40000000 in
theorem c_ulen (l : Launch) (Z : State) (a0 : Array Value) (hw : ∀ d ∈ tables_1, d.before a0 Z = true) (h0 : Heap) (n0 : Nat) (Z0 : n0 ≤ h0.size) (bb : Addr) (kA : ClassId) (N : Nat) (vs : List Value) (dv : Value) (hN : N ≤ 4000) (Ab : Arv Z h0 bb kA .byte (Int32.ofNat (2 * N)) vs dv) :
    Con none l (⟨"java/lang/StringUTF16", "length", "([B)I"⟩ : MethodName) jdk_52_method_6_code 1 (some .int) [] ({ frames := 0, cells := 0, slots := 0, locals := 0 } : Room) Z n0 h0 [] #[(.ref bb)] (fun v h => v = some (.int (Int32.ofNat N))) := by
  refine Con.intro pn1 Z0 (fun _ q => nomatch q) trivial #[.val (.ref bb)] (fun m => by first | (simp [entryFrame, mkF, argsToLocals, Value.category]; done) | rfl) ?_
  intro p e s m below meth c T0 hlk hret hnm K0
  have P0 := Keep.refl h0 []
  refine gAloadN K0 b33_0 (v := (.ref bb)) rfl rfl ?_
  refine gLen K0 b33_1 Ab ?_
  refine gIconst K0 (1 : Int32) b33_2 rfl ?_
  refine gIshr K0 b33_3 ?_
  rw [show ((Int32.ofNat (2 * N)) >>> ((1 : Int32) &&& 31)) = Int32.ofNat N from shr1 (by omega)]
  refine gRetI K0 hlk hret (by simp) b33_4 rfl P0 (by decide) (by decide) ?_
  exact rfl
set_option maxRecDepth 65536 in
set_option maxHeartbeats 40000000 in
theorem c_pchk (l : Launch) (Z : State) (a0 : Array Value) (hw : ∀ d ∈ tables_1, d.before a0 Z = true) (h0 : Heap) (n0 : Nat) (Z0 : n0 ≤ h0.size) (k N : Nat) (hk : k < N) (hN : N ≤ 4000) (fm : Value) (rf : fm.isRef = true) :
    Con none l (⟨"jdk/internal/util/Preconditions", "checkIndex", "(IILjava/util/function/BiFunction;)I"⟩ : MethodName) jdk_41_method_11_code 3 (some .int) [] ({ frames := 0, cells := 0, slots := 0, locals := 0 } : Room) Z n0 h0 [] #[(.int (Int32.ofNat k)), (.int (Int32.ofNat N)), fm] (fun v h => v = some (.int (Int32.ofNat k))) := by
  refine Con.intro pn2 Z0 (fun _ q => nomatch q) trivial #[.val (.int (Int32.ofNat k)), .val (.int (Int32.ofNat N)), .val fm] (fun m => by rcases ref_cases rf with rfl | ⟨q, rfl⟩ <;> first | (simp [entryFrame, mkF, argsToLocals, Value.category]; done) | rfl) ?_
  intro p e s m below meth c T0 hlk hret hnm K0
  have P0 := Keep.refl h0 []
  refine gIloadN K0 b18_0 (v := (Int32.ofNat k)) rfl ?_
  refine gIf_lt K0 b18_1 (fun q => absurd q (ofNat_nn (by omega))) (fun q1 => ?_)
  refine gIloadN K0 b18_4 (v := (Int32.ofNat k)) rfl ?_
  refine gIloadN K0 b18_5 (v := (Int32.ofNat N)) rfl ?_
  refine gIcmp_lt K0 b18_6 (fun q6 => ?_) (fun q => absurd q (not_not_intro (ofNat_ltI hk (by omega))))
  refine gIloadN K0 b18_16 (v := (Int32.ofNat k)) rfl ?_
  refine gRetI K0 hlk hret (by simp) b18_17 rfl P0 (by decide) (by decide) ?_
  exact rfl
set_option maxRecDepth 65536 in
set_option maxHeartbeats 40000000 in
theorem c_schk (l : Launch) (Z : State) (a0 : Array Value) (hw : ∀ d ∈ tables_1, d.before a0 Z = true) (h0 : Heap) (n0 : Nat) (Z0 : n0 ≤ h0.size) (k N : Nat) (hk : k < N) (hN : N ≤ 4000) (fm : Value) (Sf : Sta Z h0 "jdk/internal/util/Preconditions" "SIOOBE_FORMATTER" "Ljava/util/function/BiFunction;" fm) (rf : fm.isRef = true) :
    Con none l (⟨"java/lang/String", "checkIndex", "(II)V"⟩ : MethodName) jdk_42_method_155_code 2 none [] ({ frames := 1, cells := 0, slots := 0, locals := 14 } : Room) Z n0 h0 [] #[(.int (Int32.ofNat k)), (.int (Int32.ofNat N))] (fun v h => v = none) := by
  refine Con.intro pn0 Z0 (fun _ q => nomatch q) trivial #[.val (.int (Int32.ofNat k)), .val (.int (Int32.ofNat N))] (fun m => by first | (simp [entryFrame, mkF, argsToLocals, Value.category]; done) | rfl) ?_
  intro p e s m below meth c T0 hlk hret hnm K0
  have P0 := Keep.refl h0 []
  refine gIloadN K0 b17_0 (v := (Int32.ofNat k)) rfl ?_
  refine gIloadN K0 b17_1 (v := (Int32.ofNat N)) rfl ?_
  refine gGetS K0 b17_2 (wd hw 51 rfl) Sf (fun T101 K101 => ?_)
  refine gCallS K101 (W := 0) [(.int (Int32.ofNat k)), (.int (Int32.ofNat N)), fm] [] b17_5 (wd hw 87 rfl) (wd hw 88 rfl) (wd hw 52 rfl) (wd hw 89 rfl) (Cal.ofN (W := 0) (c_pchk l Z a0 hw h0 n0 K101.n0le k N hk hN fm rf) (wd hw 89 rfl) (wd hw 52 rfl) (by decide) (by decide)) (fun _ q => nomatch q) pd8 rfl rfl (Nat.le_of_eq rfl) rfl (by decide) (by decide) (by decide) (fun v102 T102 h102 K102 Q102 q102 => ?_)
  have E102 := Ext.of0 Q102
  have P103 := P0.ext E102
  cases q102
  refine gPop K102 b17_8 rfl ?_
  refine gRetV K102 hlk hret b17_9 P103 (by decide) (by decide) ?_
  exact rfl
set_option maxRecDepth 65536 in
set_option maxHeartbeats 40000000 in
theorem c_uchk (l : Launch) (Z : State) (a0 : Array Value) (hw : ∀ d ∈ tables_1, d.before a0 Z = true) (h0 : Heap) (n0 : Nat) (Z0 : n0 ≤ h0.size) (bb : Addr) (kA : ClassId) (cs : List Int32) (k : Nat) (Ab : Arv Z h0 bb kA .byte (Int32.ofNat (2 * cs.length)) (StrChars.Road.wideBytes cs) (.int 0)) (hp : ∀ c ∈ cs, ¬ c < 0 ∧ ¬ (65535 : Int32) < c) (hk : k < cs.length) (hN : cs.length ≤ 4000) (u : US Z h0) (fm : Value) (Sf : Sta Z h0 "jdk/internal/util/Preconditions" "SIOOBE_FORMATTER" "Ljava/util/function/BiFunction;" fm) (rf : fm.isRef = true) :
    Con none l (⟨"java/lang/StringUTF16", "checkIndex", "(I[B)V"⟩ : MethodName) jdk_52_method_91_code 2 none [] ({ frames := 2, cells := 0, slots := 0, locals := 27 } : Room) Z n0 h0 [] #[(.int (Int32.ofNat k)), (.ref bb)] (fun v h => v = none) := by
  refine Con.intro pn1 Z0 (fun _ q => nomatch q) trivial #[.val (.int (Int32.ofNat k)), .val (.ref bb)] (fun m => by first | (simp [entryFrame, mkF, argsToLocals, Value.category]; done) | rfl) ?_
  intro p e s m below meth c T0 hlk hret hnm K0
  have P0 := Keep.refl h0 []
  refine gIloadN K0 b32_0 (v := (Int32.ofNat k)) rfl ?_
  refine gAloadN K0 b32_1 (v := (.ref bb)) rfl rfl ?_
  refine gCallS K0 (W := 1) [(.ref bb)] [(.int (Int32.ofNat k))] b32_2 (wd hw 145 rfl) (wd hw 146 rfl) (wd hw 62 rfl) (wd hw 147 rfl) (Cal.ofN (W := 1) (c_ulen l Z a0 hw h0 n0 K0.n0le bb kA cs.length _ _ hN Ab) (wd hw 147 rfl) (wd hw 62 rfl) (by decide) (by decide)) (fun _ q => nomatch q) pd9 rfl rfl (Nat.le_of_eq rfl) rfl (by decide) (by decide) (by decide) (fun v101 T101 h101 K101 Q101 q101 => ?_)
  have E101 := Ext.of0 Q101
  have P102 := P0.ext E101
  cases q101
  refine gCallS K101 (W := 0) [(.int (Int32.ofNat k)), (.int (Int32.ofNat cs.length))] [] b32_5 (wd hw 148 rfl) (wd hw 85 rfl) (wd hw 7 rfl) (wd hw 86 rfl) (Cal.ofN (W := 0) (c_schk l Z a0 hw h101 n0 K101.n0le k cs.length hk hN fm (Sf.ext E101) rf) (wd hw 86 rfl) (wd hw 7 rfl) (by decide) (by decide)) (fun _ q => nomatch q) pd10 rfl rfl (Nat.le_of_eq rfl) rfl (by decide) (by decide) (by decide) (fun v103 T103 h103 K103 Q103 q103 => ?_)
  have E103 := Ext.of0 Q103
  have P104 := P102.ext E103
  cases q103
  refine gRetV K103 hlk hret b32_8 P104 (by decide) (by decide) ?_
  exact rfl
set_option maxRecDepth 65536 in
set_option maxHeartbeats 40000000 in
theorem c_uch (l : Launch) (Z : State) (a0 : Array Value) (hw : ∀ d ∈ tables_1, d.before a0 Z = true) (h0 : Heap) (n0 : Nat) (Z0 : n0 ≤ h0.size) (bb : Addr) (kA : ClassId) (cs : List Int32) (k : Nat) (Ab : Arv Z h0 bb kA .byte (Int32.ofNat (2 * cs.length)) (StrChars.Road.wideBytes cs) (.int 0)) (hp : ∀ c ∈ cs, ¬ c < 0 ∧ ¬ (65535 : Int32) < c) (hk : k < cs.length) (hN : cs.length ≤ 4000) (u : US Z h0) (fm : Value) (Sf : Sta Z h0 "jdk/internal/util/Preconditions" "SIOOBE_FORMATTER" "Ljava/util/function/BiFunction;" fm) (rf : fm.isRef = true) :
    Con none l (⟨"java/lang/StringUTF16", "charAt", "([BI)C"⟩ : MethodName) jdk_52_method_83_code 2 (some .char) [] ({ frames := 3, cells := 0, slots := 0, locals := 40 } : Room) Z n0 h0 [] #[(.ref bb), (.int (Int32.ofNat k))] (fun v h => v = some (.int (cs.getD k 0))) := by
  refine Con.intro pn1 Z0 (fun _ q => nomatch q) trivial #[.val (.ref bb), .val (.int (Int32.ofNat k))] (fun m => by first | (simp [entryFrame, mkF, argsToLocals, Value.category]; done) | rfl) ?_
  intro p e s m below meth c T0 hlk hret hnm K0
  have P0 := Keep.refl h0 []
  refine gIloadN K0 b31_0 (v := (Int32.ofNat k)) rfl ?_
  refine gAloadN K0 b31_1 (v := (.ref bb)) rfl rfl ?_
  refine gCallS K0 (W := 0) [(.int (Int32.ofNat k)), (.ref bb)] [] b31_2 (wd hw 142 rfl) (wd hw 143 rfl) (wd hw 62 rfl) (wd hw 144 rfl) (Cal.ofN (W := 0) (c_uchk l Z a0 hw h0 n0 K0.n0le bb kA cs k Ab hp hk hN u fm Sf rf) (wd hw 144 rfl) (wd hw 62 rfl) (by decide) (by decide)) (fun _ q => nomatch q) pd11 rfl rfl (Nat.le_of_eq rfl) rfl (by decide) (by decide) (by decide) (fun v101 T101 h101 K101 Q101 q101 => ?_)
  have E101 := Ext.of0 Q101
  have P102 := P0.ext E101
  cases q101
  refine gAloadN K101 b31_5 (v := (.ref bb)) rfl rfl ?_
  refine gIloadN K101 b31_6 (v := (Int32.ofNat k)) rfl ?_
  refine gCallS K101 (W := 0) [(.ref bb), (.int (Int32.ofNat k))] [] b31_7 (wd hw 136 rfl) (wd hw 137 rfl) (wd hw 62 rfl) (wd hw 138 rfl) (Cal.ofN (W := 0) (c_getChar l Z a0 hw h101 n0 K101.n0le bb kA cs k (Ab.ext E101) hp hk hN (u.ext E101)) (wd hw 138 rfl) (wd hw 62 rfl) (by decide) (by decide)) (fun _ q => nomatch q) pd6 rfl rfl (Nat.le_of_eq rfl) rfl (by decide) (by decide) (by decide) (fun v103 T103 h103 K103 Q103 q103 => ?_)
  have E103 := Ext.of0 Q103
  have P104 := P102.ext E103
  cases q103
  refine gRetI K103 hlk hret (by simp) b31_10 (narrow_c16 (getD_bd16 hp k)) P104 (by decide) (by decide) ?_
  exact rfl
set_option maxRecDepth 65536 in
set_option maxHeartbeats 40000000 in
theorem c_isL1 (l : Launch) (Z : State) (a0 : Array Value) (hw : ∀ d ∈ tables_1, d.before a0 Z = true) (h0 : Heap) (n0 : Nat) (Z0 : n0 ≤ h0.size) (x : Addr) (Fc : Fld Z h0 x "java/lang/String" "coder" "B" (.int 1)) (z : Int32) (Sc : Sta Z h0 "java/lang/String" "COMPACT_STRINGS" "Z" (.int z)) (hz : ¬ z = 0) :
    Con none l (⟨"java/lang/String", "isLatin1", "()Z"⟩ : MethodName) jdk_42_method_154_code 1 (some .boolean) [] ({ frames := 0, cells := 0, slots := 0, locals := 0 } : Room) Z n0 h0 [] #[(.ref x)] (fun v h => v = some (.int 0)) := by
  refine Con.intro pn0 Z0 (fun _ q => nomatch q) trivial #[.val (.ref x)] (fun m => by first | (simp [entryFrame, mkF, argsToLocals, Value.category]; done) | rfl) ?_
  intro p e s m below meth c T0 hlk hret hnm K0
  have P0 := Keep.refl h0 []
  refine gGetS K0 b15_0 (wd hw 41 rfl) Sc (fun T101 K101 => ?_)
  refine gIf_eq K101 b15_3 (fun q => absurd q hz) (fun q3 => ?_)
  refine gAloadN K101 b15_6 (v := (.ref x)) rfl rfl ?_
  refine gGet K101 b15_7 (wd hw 26 rfl) Fc (fun T102 K102 => ?_)
  refine gIf_ne K102 b15_10 (fun q10 => ?_) (fun q => absurd q (by first | decide | (intro hh; cases hh) | simp))
  refine gIconst K102 (0 : Int32) b15_17 rfl ?_
  refine gRetI K102 hlk hret (by simp) b15_18 rfl P0 (by decide) (by decide) ?_
  exact rfl
set_option maxRecDepth 65536 in
set_option maxHeartbeats 40000000 in
theorem c_chU (l : Launch) (Z : State) (a0 : Array Value) (hw : ∀ d ∈ tables_1, d.before a0 Z = true) (h0 : Heap) (n0 : Nat) (Z0 : n0 ≤ h0.size) (x : Addr) (cs : List Int32) (k : Nat) (Su : StrU Z h0 x cs) (hk : k < cs.length) (u : US Z h0) (z : Int32) (Sc : Sta Z h0 "java/lang/String" "COMPACT_STRINGS" "Z" (.int z)) (hz : ¬ z = 0) (fm : Value) (Sf : Sta Z h0 "jdk/internal/util/Preconditions" "SIOOBE_FORMATTER" "Ljava/util/function/BiFunction;" fm) (rf : fm.isRef = true) :
    Con none l (⟨"java/lang/String", "charAt", "(I)C"⟩ : MethodName) jdk_42_method_56_code 2 (some .char) [] ({ frames := 4, cells := 0, slots := 0, locals := 53 } : Room) Z n0 h0 [] #[(.ref x), (.int (Int32.ofNat k))] (fun v h => v = some (.int (cs.getD k 0))) := by
  refine Con.intro pn0 Z0 (fun _ q => nomatch q) trivial #[.val (.ref x), .val (.int (Int32.ofNat k))] (fun m => by first | (simp [entryFrame, mkF, argsToLocals, Value.category]; done) | rfl) ?_
  intro p e s m below meth c T0 hlk hret hnm K0
  have P0 := Keep.refl h0 []
  obtain ⟨bb, kA, Ex, Fc, Fv, Ab, hp, -, hN⟩ := Su
  refine gAloadN K0 b14_0 (v := (.ref x)) rfl rfl ?_
  refine gCallV K0 (W := 0) (C := "java/lang/String") x [] [] b14_1 (wd hw 75 rfl) (wd hw 76 rfl) (wd hw 78 rfl) (wd hw 77 rfl) (Cal.ofN (W := 0) (c_isL1 l Z a0 hw h0 n0 K0.n0le x Fc z Sc hz) (wd hw 79 rfl) (wd hw 7 rfl) (by decide) (by decide)) Ex (fun _ q => nomatch q) pd12 rfl rfl (Nat.le_of_eq rfl) rfl (by decide) (by decide) (by decide) (fun v101 T101 h101 K101 Q101 q101 => ?_)
  have E101 := Ext.of0 Q101
  have P102 := P0.ext E101
  cases q101
  refine gIf_eq K101 b14_4 (fun q4 => ?_) (fun q => absurd q (by first | decide | (intro hh; cases hh) | simp))
  refine gAloadN K101 b14_16 (v := (.ref x)) rfl rfl ?_
  refine gGet K101 b14_17 (wd hw 25 rfl) (Fv.ext E101) (fun T103 K103 => ?_)
  refine gIloadN K103 b14_20 (v := (Int32.ofNat k)) rfl ?_
  refine gCallS K103 (W := 0) [(.ref bb), (.int (Int32.ofNat k))] [] b14_21 (wd hw 139 rfl) (wd hw 140 rfl) (wd hw 62 rfl) (wd hw 141 rfl) (Cal.ofN (W := 0) (c_uch l Z a0 hw h101 n0 K103.n0le bb kA cs k (Ab.ext E101) hp hk hN (u.ext E101) fm (Sf.ext E101) rf) (wd hw 141 rfl) (wd hw 62 rfl) (by decide) (by decide)) (fun _ q => nomatch q) pd6 rfl rfl (Nat.le_of_eq rfl) rfl (by decide) (by decide) (by decide) (fun v104 T104 h104 K104 Q104 q104 => ?_)
  have E104 := Ext.of0 Q104
  have P105 := P102.ext E104
  cases q104
  refine gRetI K104 hlk hret (by simp) b14_24 (narrow_c16 (getD_bd16 hp k)) P105 (by decide) (by decide) ?_
  exact rfl
theorem cal_chA {md : Option EList} {p : Program} {l : Launch} {e : Env} {R : Room} {args : Array Value} {below : List Frame} {W : Nat} {Z : State} {a0 : Array Value} {h : Heap} {n0 : Nat} (hw : ∀ d ∈ tables_1, d.before a0 Z = true) (hh0 : n0 ≤ h.size) {x : Addr} {cs : List Int32} {z : Int32} {fm : Value} (i : Nat) (A : StrA Z h x cs) (S : Sta Z h "java/lang/String" "COMPACT_STRINGS" "Z" (.int z)) (hz : ¬ z = 0) (Sf : Sta Z h "jdk/internal/util/Preconditions" "SIOOBE_FORMATTER" "Ljava/util/function/BiFunction;" fm) (rf : fm.isRef = true) (u : US Z h) (hi : i < cs.length) (hfr : 5 ≤ R.frames) (hlo : W + 66 ≤ R.locals) :
    Cal md l R p e below args (⟨"java/lang/String", "charAt", "(I)C"⟩ : MethodName) 3 W Z n0 h [] #[.ref x, .int (Int32.ofNat i)] 0 0 (fun v h' => v = some (.int (cs.getD i 0))) := by
  rcases A with A | A
  · exact cal_ch hw i A S hz Sf rf hi rfl (Nat.le_trans (by decide) hfr) (Nat.le_trans (by omega) hlo)
  · exact Cal.mono (Cal.ofN (W := W) (c_chU l Z a0 hw h n0 hh0 x cs i A hi u z S hz fm Sf rf) (wd hw 74 rfl) (wd hw 7 rfl) hfr (Nat.le_trans (show W + (2 + 11) + 53 ≤ W + 66 by omega) hlo)) (Nat.le_refl _) (Nat.le_refl _) (fun _ _ q => q)

def pd (c : Int32) : Prop := c = 0 ∨ c = 32
instance (c : Int32) : Decidable (pd c) := inferInstanceAs (Decidable (_ ∨ _))
theorem pd_lo {c : Int32} (h : pd c) : ¬ (255 : Int32) < c := by rcases h with rfl | rfl <;> decide
theorem hiPre {a b : List Int32} (h : ∃ c ∈ a ++ b, (255 : Int32) < c) (q : ∀ c ∈ b, pd c) : ∃ c ∈ a, (255 : Int32) < c := by
  obtain ⟨c, hc, hh⟩ := h
  rcases List.mem_append.mp hc with r | r
  · exact ⟨c, r, hh⟩
  · exact absurd hh (pd_lo (q c r))
def WP (cs : List Int32) (t : Nat) : Prop := t ≤ cs.length ∧ (0 < t → ¬ pd (cs.getD (t - 1) 0)) ∧ ∀ c ∈ cs.drop t, pd c
theorem WP.len {cs : List Int32} {t : Nat} (h : WP cs t) : (cs.take t).length = t := by rw [List.length_take]; exact Nat.min_eq_left h.1
theorem WP.at {cs : List Int32} {t i : Nat} (h : WP cs t) (h1 : t ≤ i) (h2 : i < cs.length) : pd (cs.getD i 0) := by
  apply h.2.2
  rw [List.getD_eq_getElem?_getD, List.getElem?_eq_getElem h2]
  exact List.mem_drop_iff_getElem.mpr ⟨i - t, by omega, by congr 1; omega⟩
theorem take_getD {cs : List Int32} {t i : Nat} (h : i < t) : (cs.take t).getD i 0 = cs.getD i 0 := by
  rw [List.getD_eq_getElem?_getD, List.getD_eq_getElem?_getD, List.getElem?_take_of_lt h]
theorem mod5 (x : Int32) : (x &&& 2147483647) % 5 = 0 ∨ (x &&& 2147483647) % 5 = 1 ∨ (x &&& 2147483647) % 5 = 2 ∨ (x &&& 2147483647) % 5 = 3 ∨ (x &&& 2147483647) % 5 = 4 := by
  obtain ⟨k, hk, e⟩ := mod_nat x 5 (by decide) (by decide)
  rw [show (5 : Int32) = Int32.ofNat 5 from rfl, e]
  match k, hk with
  | 0, _ => exact Or.inl rfl
  | 1, _ => exact Or.inr (Or.inl rfl)
  | 2, _ => exact Or.inr (Or.inr (Or.inl rfl))
  | 3, _ => exact Or.inr (Or.inr (Or.inr (Or.inl rfl)))
  | 4, _ => exact Or.inr (Or.inr (Or.inr (Or.inr rfl)))

set_option maxRecDepth 65536 in
set_option maxHeartbeats 40000000 in
theorem c_draw (l : Launch) (Z : State) (a0 : Array Value) (hw : ∀ d ∈ tables_1, d.before a0 Z = true) (h0 : Heap) (n0 : Nat) (Z0 : n0 ≤ h0.size) (v0 : Int32) :
    Con none l (⟨"com/example/stowage/stowage/dicom/UidWithoutPaddingPinLaw", "draw", "(I)C"⟩ : MethodName) method_2_code 2 (some .char) [] ({ frames := 0, cells := 0, slots := 0, locals := 0 } : Room) Z n0 h0 [] #[(.int v0)] (fun v h => ∃ r : Int32, v = some (.int r) ∧ (¬ r < 0 ∧ ¬ (65535 : Int32) < r)) := by
  refine Con.intro pn3 Z0 (fun _ q => nomatch q) trivial #[.val (.int v0), .unset] (fun m => by first | (simp [entryFrame, mkF, argsToLocals, Value.category]; done) | rfl) ?_
  intro p e s m below meth c T0 hlk hret hnm K0
  have P0 := Keep.refl h0 []
  refine gIloadN K0 b0_0 (v := v0) rfl ?_
  refine gIconst K0 (3 : Int32) b0_1 rfl ?_
  refine gIand K0 b0_2 ?_
  refine gIstoreN K0 b0_3 (Ls' := #[.val (.int v0), .val (.int (v0 &&& (3 : Int32)))]) rfl ?_
  refine gIloadN K0 b0_4 (v := (v0 &&& (3 : Int32))) rfl ?_
  refine gIf_ne K0 b0_5 (fun q5 => ?_) (fun q5 => ?_)
  · skip
    refine gIloadN K0 b0_10 (v := (v0 &&& (3 : Int32))) rfl ?_
    refine gIconst K0 (1 : Int32) b0_11 rfl ?_
    refine gIcmp_ne K0 b0_12 (fun q12 => ?_) (fun q12 => ?_)
    · skip
      refine gIloadN K0 b0_18 (v := v0) rfl ?_
      refine gIconst K0 (2 : Int32) b0_19 rfl ?_
      refine gIushr K0 b0_20 ?_
      refine gI2c K0 b0_21 ?_
      have hr := i2c_bd (XT.ushr v0 (2 : Int32))
      generalize ((XT.ushr v0 (2 : Int32))).toUInt32.toUInt16.toUInt32.toInt32 = r at hr ⊢
      refine gRetI K0 hlk hret (by simp) b0_22 (narrow_c16 hr) P0 (by decide) (by decide) ?_
      exact ⟨_, rfl, hr⟩
    · skip
      refine gBipush K0 (32 : Int32) b0_15 rfl ?_
      refine gRetI K0 hlk hret (by simp) b0_17 rfl P0 (by decide) (by decide) ?_
      exact ⟨_, rfl, by decide⟩
  · skip
    refine gIconst K0 (0 : Int32) b0_8 rfl ?_
    refine gRetI K0 hlk hret (by simp) b0_9 rfl P0 (by decide) (by decide) ?_
    exact ⟨_, rfl, by decide⟩
set_option maxRecDepth 65536 in
set_option maxHeartbeats 40000000 in
theorem c_pad (l : Launch) (Z : State) (a0 : Array Value) (hw : ∀ d ∈ tables_1, d.before a0 Z = true) (h0 : Heap) (n0 : Nat) (Z0 : n0 ≤ h0.size) (cc : Int32) :
    Con none l (⟨"com/example/stowage/stowage/dicom/UidWithoutPaddingPinLaw", "pad", "(C)Z"⟩ : MethodName) method_3_code 1 (some .boolean) [] ({ frames := 0, cells := 0, slots := 0, locals := 0 } : Room) Z n0 h0 [] #[(.int cc)] (fun v h => v = some (.int (if pd cc then 1 else 0))) := by
  refine Con.intro pn3 Z0 (fun _ q => nomatch q) trivial #[.val (.int cc)] (fun m => by first | (simp [entryFrame, mkF, argsToLocals, Value.category]; done) | rfl) ?_
  intro p e s m below meth c T0 hlk hret hnm K0
  have P0 := Keep.refl h0 []
  refine gIloadN K0 b19_0 (v := cc) rfl ?_
  refine gIf_eq K0 b19_1 (fun q1 => ?_) (fun q1 => ?_)
  · skip
    refine gIconst K0 (1 : Int32) b19_10 rfl ?_
    refine gGoto K0 b19_11 ?_
    refine gRetI K0 hlk hret (by simp) b19_15 rfl P0 (by decide) (by decide) ?_
    exact congrArg (fun z => some (Value.int z)) (if_pos (Or.inl q1)).symm
  · skip
    refine gIloadN K0 b19_4 (v := cc) rfl ?_
    refine gBipush K0 (32 : Int32) b19_5 rfl ?_
    refine gIcmp_ne K0 b19_7 (fun q7 => ?_) (fun q7 => ?_)
    · skip
      refine gIconst K0 (0 : Int32) b19_14 rfl ?_
      refine gRetI K0 hlk hret (by simp) b19_15 rfl P0 (by decide) (by decide) ?_
      exact congrArg (fun z => some (Value.int z)) (if_neg (fun q => q.elim q1 q7)).symm
    · skip
      refine gIconst K0 (1 : Int32) b19_10 rfl ?_
      refine gGoto K0 b19_11 ?_
      refine gRetI K0 hlk hret (by simp) b19_15 rfl P0 (by decide) (by decide) ?_
      exact congrArg (fun z => some (Value.int z)) (if_pos (Or.inr q7)).symm
set_option maxRecDepth 65536 in
set_option maxHeartbeats 40000000 in
theorem c_cdr1 (l : Launch) (Z : State) (a0 : Array Value) (hw : ∀ d ∈ tables_1, d.before a0 Z = true) (h0 : Heap) (n0 : Nat) (Z0 : n0 ≤ h0.size) (x : Addr) (Fc : Fld Z h0 x "java/lang/String" "coder" "B" (.int 1)) (z : Int32) (Sc : Sta Z h0 "java/lang/String" "COMPACT_STRINGS" "Z" (.int z)) (hz : ¬ z = 0) :
    Con none l (⟨"java/lang/String", "coder", "()B"⟩ : MethodName) jdk_42_method_152_code 1 (some .byte) [] ({ frames := 0, cells := 0, slots := 0, locals := 0 } : Room) Z n0 h0 [] #[(.ref x)] (fun v h => v = some (.int 1)) := by
  refine Con.intro pn0 Z0 (fun _ q => nomatch q) trivial #[.val (.ref x)] (fun m => by first | (simp [entryFrame, mkF, argsToLocals, Value.category]; done) | rfl) ?_
  intro p e s m below meth c T0 hlk hret hnm K0
  have P0 := Keep.refl h0 []
  refine gGetS K0 b6_0 (wd hw 41 rfl) Sc (fun T101 K101 => ?_)
  refine gIf_eq K101 b6_3 (fun q => absurd q hz) (fun q3 => ?_)
  refine gAloadN K101 b6_6 (v := (.ref x)) rfl rfl ?_
  refine gGet K101 b6_7 (wd hw 26 rfl) Fc (fun T102 K102 => ?_)
  refine gGoto K102 b6_10 ?_
  refine gRetI K102 hlk hret (by simp) b6_14 rfl P0 (by decide) (by decide) ?_
  exact rfl
set_option maxRecDepth 65536 in
set_option maxHeartbeats 40000000 in
theorem c_lenU (l : Launch) (Z : State) (a0 : Array Value) (hw : ∀ d ∈ tables_1, d.before a0 Z = true) (h0 : Heap) (n0 : Nat) (Z0 : n0 ≤ h0.size) (x : Addr) (cs : List Int32) (Su : StrU Z h0 x cs) (z : Int32) (Sc : Sta Z h0 "java/lang/String" "COMPACT_STRINGS" "Z" (.int z)) (hz : ¬ z = 0) :
    Con none l (⟨"java/lang/String", "length", "()I"⟩ : MethodName) jdk_42_method_54_code 1 (some .int) [] ({ frames := 1, cells := 0, slots := 0, locals := 14 } : Room) Z n0 h0 [] #[(.ref x)] (fun v h => v = some (.int (Int32.ofNat cs.length))) := by
  refine Con.intro pn0 Z0 (fun _ q => nomatch q) trivial #[.val (.ref x)] (fun m => by first | (simp [entryFrame, mkF, argsToLocals, Value.category]; done) | rfl) ?_
  intro p e s m below meth c T0 hlk hret hnm K0
  have P0 := Keep.refl h0 []
  obtain ⟨bb, kA, Ex, Fc, Fv, Ab, hp, -, hN⟩ := Su
  refine gAloadN K0 b5_0 (v := (.ref x)) rfl rfl ?_
  refine gGet K0 b5_1 (wd hw 25 rfl) Fv (fun T101 K101 => ?_)
  refine gLen K101 b5_4 Ab ?_
  refine gAloadN K101 b5_5 (v := (.ref x)) rfl rfl ?_
  refine gCallV K101 (W := 1) (C := "java/lang/String") x [] [(.int (Int32.ofNat (2 * cs.length)))] b5_6 (wd hw 36 rfl) (wd hw 37 rfl) (wd hw 39 rfl) (wd hw 38 rfl) (Cal.ofN (W := 1) (c_cdr1 l Z a0 hw h0 n0 K101.n0le x Fc z Sc hz) (wd hw 40 rfl) (wd hw 7 rfl) (by decide) (by decide)) Ex (fun _ q => nomatch q) pd13 rfl rfl (Nat.le_of_eq rfl) rfl (by decide) (by decide) (by decide) (fun v102 T102 h102 K102 Q102 q102 => ?_)
  have E102 := Ext.of0 Q102
  have P103 := P0.ext E102
  cases q102
  refine gIshr K102 b5_9 ?_
  rw [show ((Int32.ofNat (2 * cs.length)) >>> ((1 : Int32) &&& 31)) = Int32.ofNat cs.length from shr1 (by omega)]
  refine gRetI K102 hlk hret (by simp) b5_10 rfl P103 (by decide) (by decide) ?_
  exact rfl
theorem cal_lenA {md : Option EList} {p : Program} {l : Launch} {e : Env} {R : Room} {args : Array Value} {below : List Frame} {W : Nat} {Z : State} {a0 : Array Value} {h : Heap} {n0 : Nat} (hw : ∀ d ∈ tables_1, d.before a0 Z = true) (hh0 : n0 ≤ h.size) {x : Addr} {cs : List Int32} {z : Int32} (A : StrA Z h x cs) (S : Sta Z h "java/lang/String" "COMPACT_STRINGS" "Z" (.int z)) (hz : ¬ z = 0) (hfr : 2 ≤ R.frames) (hlo : W + 26 ≤ R.locals) :
    Cal md l R p e below args (⟨"java/lang/String", "length", "()I"⟩ : MethodName) 3 W Z n0 h [] #[.ref x] 0 0 (fun v h' => v = some (.int (Int32.ofNat cs.length))) := by
  rcases A with A | A
  · exact cal_len hw A S hz hfr (Nat.le_trans (by omega) hlo)
  · exact Cal.mono (Cal.ofN (W := W) (c_lenU l Z a0 hw h n0 hh0 x cs A z S hz) (wd hw 35 rfl) (wd hw 7 rfl) hfr (Nat.le_trans (show W + (1 + 11) + 14 ≤ W + 26 by omega) hlo)) (Nat.le_refl _) (Nat.le_refl _) (fun _ _ q => q)

set_option maxRecDepth 65536 in
set_option maxHeartbeats 40000000 in
theorem c_initBB (l : Launch) (Z : State) (a0 : Array Value) (hw : ∀ d ∈ tables_1, d.before a0 Z = true) (h0 : Heap) (n0 : Nat) (Z0 : n0 ≤ h0.size) (x b : Addr) (cd : Int32) (v1 v2 : Value) (hcd : narrow .byte (.int cd) = .int cd ∧ fits .byte (.int cd) = true) (gx : n0 ≤ x) (Ex : Exa Z h0 x "java/lang/String") (F1 : Fld Z h0 x "java/lang/String" "value" "[B" v1) (F2 : Fld Z h0 x "java/lang/String" "coder" "B" v2) :
    Con none l (⟨"java/lang/String", "<init>", "([BB)V"⟩ : MethodName) jdk_42_method_151_code 3 none [] ({ frames := 1, cells := 0, slots := 0, locals := 12 } : Room) Z n0 h0 [x] #[(.ref x), (.ref b), (.int cd)] (fun v h => v = none ∧ Exa Z h x "java/lang/String" ∧ Fld Z h x "java/lang/String" "value" "[B" (.ref b) ∧ Fld Z h x "java/lang/String" "coder" "B" (.int cd)) := by
  refine Con.intro pn0 Z0 (allS ⟨gx, Ex.lt⟩ all0) trivial #[.val (.ref x), .val (.ref b), .val (.int cd)] (fun m => by first | (simp [entryFrame, mkF, argsToLocals, Value.category]; done) | rfl) ?_
  intro p e s m below meth c T0 hlk hret hnm K0
  have P0 := Keep.refl h0 [x]
  refine gAloadN K0 b25_0 (v := (.ref x)) rfl rfl ?_
  refine gInitO K0 b25_1 (wd hw 16 rfl) (wd hw 17 rfl) (wd hw 18 rfl) rfl (by decide) (W := 0) (Nat.le_of_eq rfl) (by decide) (fun T101 K101 => ?_)
  refine gAloadN K101 b25_4 (v := (.ref x)) rfl rfl ?_
  refine gAloadN K101 b25_5 (v := (.ref b)) rfl rfl ?_
  refine gPut K101 b25_6 (wd hw 25 rfl) (me 0 rfl) F1 Ex (Or.inr ⟨(wd hw 21 rfl), rfl, hnm⟩) (wd hw 6 rfl) (ty := (.array .byte)) (by decide) rfl rfl (fun T102 h102 K102 W102 F102 => ?_)
  have P103 := P0.trans (Keep.of_wr W102) (fun z q => by cases List.mem_singleton.mp q; exact Or.inl (me 0 rfl))
  have F104 := Fld.other W102 F2 (Or.inr (slot_ne (C := "java/lang/String") (a0 := a0) (Or.inr (wd hw 22 rfl)) (Or.inr (wd hw 21 rfl)) (by decide) (by decide : parseFieldDescriptor _ = some .byte) (by decide : parseFieldDescriptor _ = some (.array .byte))))
  have A105 := Exa.wr W102 Ex
  refine gAloadN K102 b25_9 (v := (.ref x)) rfl rfl ?_
  refine gIloadN K102 b25_10 (v := cd) rfl ?_
  refine gPut K102 b25_11 (wd hw 26 rfl) (me 0 rfl) F104 A105 (Or.inr ⟨(wd hw 22 rfl), rfl, hnm⟩) (wd hw 6 rfl) (ty := .byte) (by decide) hcd.1 hcd.2 (fun T106 h106 K106 W106 F106 => ?_)
  have P107 := P103.trans (Keep.of_wr W106) (fun z q => by cases List.mem_singleton.mp q; exact Or.inl (me 0 rfl))
  have F108 := Fld.other W106 F102 (Or.inr (slot_ne (C := "java/lang/String") (a0 := a0) (Or.inr (wd hw 21 rfl)) (Or.inr (wd hw 22 rfl)) (by decide) (by decide : parseFieldDescriptor _ = some (.array .byte)) (by decide : parseFieldDescriptor _ = some .byte)))
  have A109 := Exa.wr W106 A105
  refine gRetV K106 hlk hret b25_14 P107 (by decide) (by decide) ?_
  exact ⟨rfl, A109, F108, F106⟩
set_option maxRecDepth 65536 in
set_option maxHeartbeats 40000000 in
theorem c_isL0 (l : Launch) (Z : State) (a0 : Array Value) (hw : ∀ d ∈ tables_1, d.before a0 Z = true) (h0 : Heap) (n0 : Nat) (Z0 : n0 ≤ h0.size) (x : Addr) (Fc : Fld Z h0 x "java/lang/String" "coder" "B" (.int 0)) (z : Int32) (Sc : Sta Z h0 "java/lang/String" "COMPACT_STRINGS" "Z" (.int z)) (hz : ¬ z = 0) :
    Con none l (⟨"java/lang/String", "isLatin1", "()Z"⟩ : MethodName) jdk_42_method_154_code 1 (some .boolean) [] ({ frames := 0, cells := 0, slots := 0, locals := 0 } : Room) Z n0 h0 [] #[(.ref x)] (fun v h => v = some (.int 1)) := by
  refine Con.intro pn0 Z0 (fun _ q => nomatch q) trivial #[.val (.ref x)] (fun m => by first | (simp [entryFrame, mkF, argsToLocals, Value.category]; done) | rfl) ?_
  intro p e s m below meth c T0 hlk hret hnm K0
  have P0 := Keep.refl h0 []
  refine gGetS K0 b15_0 (wd hw 41 rfl) Sc (fun T101 K101 => ?_)
  refine gIf_eq K101 b15_3 (fun q => absurd q hz) (fun q3 => ?_)
  refine gAloadN K101 b15_6 (v := (.ref x)) rfl rfl ?_
  refine gGet K101 b15_7 (wd hw 26 rfl) Fc (fun T102 K102 => ?_)
  refine gIf_ne K102 b15_10 (fun q => absurd q (by first | decide | (intro hh; cases hh) | simp)) (fun q10 => ?_)
  refine gIconst K102 (1 : Int32) b15_13 rfl ?_
  refine gGoto K102 b15_14 ?_
  refine gRetI K102 hlk hret (by simp) b15_18 rfl P0 (by decide) (by decide) ?_
  exact rfl
set_option maxRecDepth 65536 in
set_option maxHeartbeats 40000000 in
theorem c_pft (l : Launch) (Z : State) (a0 : Array Value) (hw : ∀ d ∈ tables_1, d.before a0 Z = true) (h0 : Heap) (n0 : Nat) (Z0 : n0 ≤ h0.size) (N t : Nat) (ht : t ≤ N) (hN : N ≤ 100) (fm : Value) (rf : fm.isRef = true) :
    Con none l (⟨"jdk/internal/util/Preconditions", "checkFromToIndex", "(IIILjava/util/function/BiFunction;)I"⟩ : MethodName) jdk_41_method_12_code 4 (some .int) [] ({ frames := 0, cells := 0, slots := 0, locals := 0 } : Room) Z n0 h0 [] #[(.int (0 : Int32)), (.int (Int32.ofNat t)), (.int (Int32.ofNat N)), fm] (fun v h => v = some (.int (0 : Int32))) := by
  refine Con.intro pn2 Z0 (fun _ q => nomatch q) trivial #[.val (.int (0 : Int32)), .val (.int (Int32.ofNat t)), .val (.int (Int32.ofNat N)), .val fm] (fun m => by rcases ref_cases rf with rfl | ⟨q, rfl⟩ <;> first | (simp [entryFrame, mkF, argsToLocals, Value.category]; done) | rfl) ?_
  intro p e s m below meth c T0 hlk hret hnm K0
  have P0 := Keep.refl h0 []
  refine gIloadN K0 b9_0 (v := (0 : Int32)) rfl ?_
  refine gIf_lt K0 b9_1 (fun q => absurd q (by first | decide | (intro hh; cases hh) | simp)) (fun q1 => ?_)
  refine gIloadN K0 b9_4 (v := (0 : Int32)) rfl ?_
  refine gIloadN K0 b9_5 (v := (Int32.ofNat t)) rfl ?_
  refine gIcmp_gt K0 b9_6 (fun q => absurd q (ofNat_nn (by omega))) (fun q6 => ?_)
  refine gIloadN K0 b9_9 (v := (Int32.ofNat t)) rfl ?_
  refine gIloadN K0 b9_10 (v := (Int32.ofNat N)) rfl ?_
  refine gIcmp_le K0 b9_11 (fun q11 => ?_) (fun q => absurd q (ofNat_nlt (by omega) (by omega)))
  refine gIloadN K0 b9_22 (v := (0 : Int32)) rfl ?_
  refine gRetI K0 hlk hret (by simp) b9_23 rfl P0 (by decide) (by decide) ?_
  exact rfl
set_option maxRecDepth 65536 in
set_option maxHeartbeats 40000000 in
theorem c_cbe (l : Launch) (Z : State) (a0 : Array Value) (hw : ∀ d ∈ tables_1, d.before a0 Z = true) (h0 : Heap) (n0 : Nat) (Z0 : n0 ≤ h0.size) (N t : Nat) (ht : t ≤ N) (hN : N ≤ 100) (fm : Value) (Sf : Sta Z h0 "jdk/internal/util/Preconditions" "SIOOBE_FORMATTER" "Ljava/util/function/BiFunction;" fm) (rf : fm.isRef = true) :
    Con none l (⟨"java/lang/String", "checkBoundsBeginEnd", "(III)V"⟩ : MethodName) jdk_42_method_158_code 3 none [] ({ frames := 1, cells := 0, slots := 0, locals := 16 } : Room) Z n0 h0 [] #[(.int (0 : Int32)), (.int (Int32.ofNat t)), (.int (Int32.ofNat N))] (fun v h => v = none) := by
  refine Con.intro pn0 Z0 (fun _ q => nomatch q) trivial #[.val (.int (0 : Int32)), .val (.int (Int32.ofNat t)), .val (.int (Int32.ofNat N))] (fun m => by first | (simp [entryFrame, mkF, argsToLocals, Value.category]; done) | rfl) ?_
  intro p e s m below meth c T0 hlk hret hnm K0
  have P0 := Keep.refl h0 []
  refine gIloadN K0 b8_0 (v := (0 : Int32)) rfl ?_
  refine gIloadN K0 b8_1 (v := (Int32.ofNat t)) rfl ?_
  refine gIloadN K0 b8_2 (v := (Int32.ofNat N)) rfl ?_
  refine gGetS K0 b8_3 (wd hw 51 rfl) Sf (fun T101 K101 => ?_)
  refine gCallS K101 (W := 0) [(.int (0 : Int32)), (.int (Int32.ofNat t)), (.int (Int32.ofNat N)), fm] [] b8_6 (wd hw 53 rfl) (wd hw 54 rfl) (wd hw 52 rfl) (wd hw 55 rfl) (Cal.ofN (W := 0) (c_pft l Z a0 hw h0 n0 K101.n0le N t ht hN fm rf) (wd hw 55 rfl) (wd hw 52 rfl) (by decide) (by decide)) (fun _ q => nomatch q) pd14 rfl rfl (Nat.le_of_eq rfl) rfl (by decide) (by decide) (by decide) (fun v102 T102 h102 K102 Q102 q102 => ?_)
  have E102 := Ext.of0 Q102
  have P103 := P0.ext E102
  cases q102
  refine gPop K102 b8_9 rfl ?_
  refine gRetV K102 hlk hret b8_10 P103 (by decide) (by decide) ?_
  exact rfl
theorem or3 {a b : Nat} (ha : a < 2147483648) (hb : b < 2147483648) : ¬ ((Int32.ofNat a ||| (0 : Int32)) ||| Int32.ofNat b) < 0 := by
  rw [Int32.lt_iff_toInt_lt]
  have h1 := (c_orS (Int32.ofNat a) (0 : Int32)).1 (by rw [ofNat_toInt ha]; omega) (by decide)
  have h2 := (c_orS (Int32.ofNat a ||| (0 : Int32)) (Int32.ofNat b)).1 h1 (by rw [ofNat_toInt hb]; omega)
  have e2 : (0 : Int32).toInt = 0 := by decide
  omega
set_option maxRecDepth 65536 in
set_option maxHeartbeats 40000000 in
theorem c_pfs (l : Launch) (Z : State) (a0 : Array Value) (hw : ∀ d ∈ tables_1, d.before a0 Z = true) (h0 : Heap) (n0 : Nat) (Z0 : n0 ≤ h0.size) (N t : Nat) (ht : t ≤ N) (hN : N ≤ 100) (fm : Value) (rf : fm.isRef = true) :
    Con none l (⟨"jdk/internal/util/Preconditions", "checkFromIndexSize", "(IIILjava/util/function/BiFunction;)I"⟩ : MethodName) jdk_41_method_13_code 4 (some .int) [] ({ frames := 0, cells := 0, slots := 0, locals := 0 } : Room) Z n0 h0 [] #[(.int (0 : Int32)), (.int (Int32.ofNat t)), (.int (Int32.ofNat N)), fm] (fun v h => v = some (.int (0 : Int32))) := by
  refine Con.intro pn2 Z0 (fun _ q => nomatch q) trivial #[.val (.int (0 : Int32)), .val (.int (Int32.ofNat t)), .val (.int (Int32.ofNat N)), .val fm] (fun m => by rcases ref_cases rf with rfl | ⟨q, rfl⟩ <;> first | (simp [entryFrame, mkF, argsToLocals, Value.category]; done) | rfl) ?_
  intro p e s m below meth c T0 hlk hret hnm K0
  have P0 := Keep.refl h0 []
  refine gIloadN K0 b39_0 (v := (Int32.ofNat N)) rfl ?_
  refine gIloadN K0 b39_1 (v := (0 : Int32)) rfl ?_
  refine gIor K0 b39_2 ?_
  refine gIloadN K0 b39_3 (v := (Int32.ofNat t)) rfl ?_
  refine gIor K0 b39_4 ?_
  refine gIf_lt K0 b39_5 (fun q => absurd q (or3 (by omega) (by omega))) (fun q5 => ?_)
  refine gIloadN K0 b39_8 (v := (Int32.ofNat t)) rfl ?_
  refine gIloadN K0 b39_9 (v := (Int32.ofNat N)) rfl ?_
  refine gIloadN K0 b39_10 (v := (0 : Int32)) rfl ?_
  refine gIsub K0 b39_11 ?_
  rw [show ((Int32.ofNat N) - (0 : Int32)) = Int32.ofNat N from Int32.sub_zero _]
  refine gIcmp_le K0 b39_12 (fun q12 => ?_) (fun q => absurd q (ofNat_nlt (by omega) (by omega)))
  refine gIloadN K0 b39_23 (v := (0 : Int32)) rfl ?_
  refine gRetI K0 hlk hret (by simp) b39_24 rfl P0 (by decide) (by decide) ?_
  exact rfl
set_option maxRecDepth 65536 in
set_option maxHeartbeats 40000000 in
theorem c_sbo (l : Launch) (Z : State) (a0 : Array Value) (hw : ∀ d ∈ tables_1, d.before a0 Z = true) (h0 : Heap) (n0 : Nat) (Z0 : n0 ≤ h0.size) (N t : Nat) (ht : t ≤ N) (hN : N ≤ 100) (fm : Value) (Sf : Sta Z h0 "jdk/internal/util/Preconditions" "SIOOBE_FORMATTER" "Ljava/util/function/BiFunction;" fm) (rf : fm.isRef = true) :
    Con none l (⟨"java/lang/String", "checkBoundsOffCount", "(III)I"⟩ : MethodName) jdk_42_method_157_code 3 (some .int) [] ({ frames := 1, cells := 0, slots := 0, locals := 16 } : Room) Z n0 h0 [] #[(.int (0 : Int32)), (.int (Int32.ofNat t)), (.int (Int32.ofNat N))] (fun v h => v = some (.int (0 : Int32))) := by
  refine Con.intro pn0 Z0 (fun _ q => nomatch q) trivial #[.val (.int (0 : Int32)), .val (.int (Int32.ofNat t)), .val (.int (Int32.ofNat N))] (fun m => by first | (simp [entryFrame, mkF, argsToLocals, Value.category]; done) | rfl) ?_
  intro p e s m below meth c T0 hlk hret hnm K0
  have P0 := Keep.refl h0 []
  refine gIloadN K0 b38_0 (v := (0 : Int32)) rfl ?_
  refine gIloadN K0 b38_1 (v := (Int32.ofNat t)) rfl ?_
  refine gIloadN K0 b38_2 (v := (Int32.ofNat N)) rfl ?_
  refine gGetS K0 b38_3 (wd hw 51 rfl) Sf (fun T101 K101 => ?_)
  refine gCallS K101 (W := 0) [(.int (0 : Int32)), (.int (Int32.ofNat t)), (.int (Int32.ofNat N)), fm] [] b38_6 (wd hw 165 rfl) (wd hw 166 rfl) (wd hw 52 rfl) (wd hw 167 rfl) (Cal.ofN (W := 0) (c_pfs l Z a0 hw h0 n0 K101.n0le N t ht hN fm rf) (wd hw 167 rfl) (wd hw 52 rfl) (by decide) (by decide)) (fun _ q => nomatch q) pd14 rfl rfl (Nat.le_of_eq rfl) rfl (by decide) (by decide) (by decide) (fun v102 T102 h102 K102 Q102 q102 => ?_)
  have E102 := Ext.of0 Q102
  have P103 := P0.ext E102
  cases q102
  refine gRetI K102 hlk hret (by simp) b38_9 rfl P103 (by decide) (by decide) ?_
  exact rfl
set_option maxRecDepth 65536 in
set_option maxHeartbeats 40000000 in
theorem c_ubo (l : Launch) (Z : State) (a0 : Array Value) (hw : ∀ d ∈ tables_1, d.before a0 Z = true) (h0 : Heap) (n0 : Nat) (Z0 : n0 ≤ h0.size) (N t : Nat) (ht : t ≤ N) (hN : N ≤ 100) (bb : Addr) (kA : ClassId) (vs : List Value) (dv : Value) (Ab : Arv Z h0 bb kA .byte (Int32.ofNat (2 * N)) vs dv) (fm : Value) (Sf : Sta Z h0 "jdk/internal/util/Preconditions" "SIOOBE_FORMATTER" "Ljava/util/function/BiFunction;" fm) (rf : fm.isRef = true) :
    Con none l (⟨"java/lang/StringUTF16", "checkBoundsOffCount", "(II[B)V"⟩ : MethodName) jdk_52_method_94_code 3 none [] ({ frames := 2, cells := 0, slots := 0, locals := 32 } : Room) Z n0 h0 [] #[(.int (0 : Int32)), (.int (Int32.ofNat t)), (.ref bb)] (fun v h => v = none) := by
  refine Con.intro pn1 Z0 (fun _ q => nomatch q) trivial #[.val (.int (0 : Int32)), .val (.int (Int32.ofNat t)), .val (.ref bb)] (fun m => by first | (simp [entryFrame, mkF, argsToLocals, Value.category]; done) | rfl) ?_
  intro p e s m below meth c T0 hlk hret hnm K0
  have P0 := Keep.refl h0 []
  refine gIloadN K0 b37_0 (v := (0 : Int32)) rfl ?_
  refine gIloadN K0 b37_1 (v := (Int32.ofNat t)) rfl ?_
  refine gAloadN K0 b37_2 (v := (.ref bb)) rfl rfl ?_
  refine gCallS K0 (W := 2) [(.ref bb)] [(.int (Int32.ofNat t)), (.int (0 : Int32))] b37_3 (wd hw 145 rfl) (wd hw 146 rfl) (wd hw 62 rfl) (wd hw 147 rfl) (Cal.ofN (W := 2) (c_ulen l Z a0 hw h0 n0 K0.n0le bb kA N vs dv (by omega) Ab) (wd hw 147 rfl) (wd hw 62 rfl) (by decide) (by decide)) (fun _ q => nomatch q) pd9 rfl rfl (Nat.le_of_eq rfl) rfl (by decide) (by decide) (by decide) (fun v101 T101 h101 K101 Q101 q101 => ?_)
  have E101 := Ext.of0 Q101
  have P102 := P0.ext E101
  cases q101
  refine gCallS K101 (W := 0) [(.int (0 : Int32)), (.int (Int32.ofNat t)), (.int (Int32.ofNat N))] [] b37_6 (wd hw 162 rfl) (wd hw 163 rfl) (wd hw 7 rfl) (wd hw 164 rfl) (Cal.ofN (W := 0) (c_sbo l Z a0 hw h101 n0 K101.n0le N t ht hN fm (Sf.ext E101) rf) (wd hw 164 rfl) (wd hw 7 rfl) (by decide) (by decide)) (fun _ q => nomatch q) pd15 rfl rfl (Nat.le_of_eq rfl) rfl (by decide) (by decide) (by decide) (fun v103 T103 h103 K103 Q103 q103 => ?_)
  have E103 := Ext.of0 Q103
  have P104 := P102.ext E103
  cases q103
  refine gPop K103 b37_9 rfl ?_
  refine gRetV K103 hlk hret b37_10 P104 (by decide) (by decide) ?_
  exact rfl
set_option maxRecDepth 65536 in
set_option maxHeartbeats 40000000 in
theorem c_subE0_0 (l : Launch) (Z : State) (a0 : Array Value) (hw : ∀ d ∈ tables_1, d.before a0 Z = true) (h0 : Heap) (n0 : Nat) (Z0 : n0 ≤ h0.size) (x : Addr) (A : StrA Z h0 x ([] : List Int32)) (z : Int32) (Sc : Sta Z h0 "java/lang/String" "COMPACT_STRINGS" "Z" (.int z)) (hz : ¬ z = 0) (fm : Value) (Sf : Sta Z h0 "jdk/internal/util/Preconditions" "SIOOBE_FORMATTER" "Ljava/util/function/BiFunction;" fm) (rf : fm.isRef = true) (u : US Z h0) :
    Con none l (⟨"java/lang/String", "substring", "(II)Ljava/lang/String;"⟩ : MethodName) jdk_42_method_92_code 5 (some (.object "java/lang/String")) [] ({ frames := 6, cells := 3, slots := 16, locals := 112 } : Room) Z n0 h0 [] #[(.ref x), (.int (0 : Int32)), (.int (0 : Int32))] (fun v h => ∃ x : Addr, v = some (.ref x) ∧ StrA Z h x ([] : List Int32)) := by
  refine Con.intro pn0 Z0 (fun _ q => nomatch q) trivial #[.val (.ref x), .val (.int (0 : Int32)), .val (.int (0 : Int32)), .unset, .unset] (fun m => by first | (simp [entryFrame, mkF, argsToLocals, Value.category]; done) | rfl) ?_
  intro p e s m below meth c T0 hlk hret hnm K0
  have P0 := Keep.refl h0 []
  refine gAloadN K0 b7_0 (v := (.ref x)) rfl rfl ?_
  refine gCallV K0 (W := 0) (C := "java/lang/String") x [] [] b7_1 (wd hw 47 rfl) (wd hw 32 rfl) (wd hw 34 rfl) (wd hw 33 rfl) (cal_lenA hw K0.n0le (W := 0) (cs := ([] : List Int32)) A Sc hz (by decide) (by decide)) (StrA.exa (A : StrA Z _ x ([] : List Int32))) (fun _ q => nomatch q) pd16 rfl rfl (Nat.le_of_eq rfl) rfl (by decide) (by decide) (by decide) (fun v101 T101 h101 K101 Q101 q101 => ?_)
  have E101 := Ext.of0 Q101
  have P102 := P0.ext E101
  have q101' : v101 = some (.int (0 : Int32)) := q101
  cases q101'
  refine gIstoreN K101 b7_4 (Ls' := #[.val (.ref x), .val (.int (0 : Int32)), .val (.int (0 : Int32)), .val (.int (0 : Int32)), .unset]) rfl ?_
  refine gIloadN K101 b7_5 (v := (0 : Int32)) rfl ?_
  refine gIloadN K101 b7_6 (v := (0 : Int32)) rfl ?_
  refine gIloadN K101 b7_7 (v := (0 : Int32)) rfl ?_
  refine gCallS K101 (W := 0) [(.int (0 : Int32)), (.int (0 : Int32)), (.int (0 : Int32))] [] b7_8 (wd hw 48 rfl) (wd hw 49 rfl) (wd hw 7 rfl) (wd hw 50 rfl) (Cal.ofN (W := 0) (c_cbe l Z a0 hw h101 n0 K101.n0le 0 0 (by decide) (by decide) fm (Sf.ext E101) rf) (wd hw 50 rfl) (wd hw 7 rfl) (by decide) (by decide)) (fun _ q => nomatch q) pd17 rfl rfl (Nat.le_of_eq rfl) rfl (by decide) (by decide) (by decide) (fun v103 T103 h103 K103 Q103 q103 => ?_)
  have E103 := Ext.of0 Q103
  have P104 := P102.ext E103
  cases q103
  refine gIloadN K103 b7_11 (v := (0 : Int32)) rfl ?_
  refine gIf_ne K103 b7_12 (fun q => absurd q (by first | decide | (intro hh; cases hh) | simp)) (fun q12 => ?_)
  refine gIloadN K103 b7_15 (v := (0 : Int32)) rfl ?_
  refine gIloadN K103 b7_16 (v := (0 : Int32)) rfl ?_
  refine gIcmp_ne K103 b7_17 (fun q => absurd q (by first | decide | (intro hh; cases hh) | simp)) (fun q17 => ?_)
  refine gAloadN K103 b7_20 (v := (.ref x)) rfl rfl ?_
  refine gRetA K103 hlk hret rfl rfl b7_21 P104 (by decide) (by decide) ?_
  exact ⟨_, rfl, (A.ext (Ext.tr E101 E103))⟩
set_option maxRecDepth 65536 in
set_option maxHeartbeats 40000000 in
theorem c_wp0 (l : Launch) (Z : State) (a0 : Array Value) (hw : ∀ d ∈ tables_1, d.before a0 Z = true) (h0 : Heap) (n0 : Nat) (Z0 : n0 ≤ h0.size) (x : Addr) (A : StrA Z h0 x ([] : List Int32)) (z : Int32) (Sc : Sta Z h0 "java/lang/String" "COMPACT_STRINGS" "Z" (.int z)) (hz : ¬ z = 0) (fm : Value) (Sf : Sta Z h0 "jdk/internal/util/Preconditions" "SIOOBE_FORMATTER" "Ljava/util/function/BiFunction;" fm) (rf : fm.isRef = true) (u : US Z h0) (hE : EW Z a0 [("java/lang/String", 7), ("java/lang/StringLatin1", 151)]) :
    Con (some [("java/lang/String", 7), ("java/lang/StringLatin1", 151)]) l (⟨"com/example/stowage/stowage/dicom/Uid", "withoutPadding", "(Ljava/lang/String;)Ljava/lang/String;"⟩ : MethodName) prog_11_method_5_code 2 (some (.object "java/lang/String")) [] ({ frames := 7, cells := 3, slots := 16, locals := 130 } : Room) Z n0 h0 [] #[(.ref x)] (fun v h => ∃ (x : Addr) (t : Nat), v = some (.ref x) ∧ StrA Z h x (([] : List Int32).take t) ∧ WP ([] : List Int32) t) := by
  refine Con.intro pn4 Z0 (fun _ q => nomatch q) ⟨a0, hE⟩ #[.val (.ref x), .unset] (fun m => by first | (simp [entryFrame, mkF, argsToLocals, Value.category]; done) | rfl) ?_
  intro p e s m below meth c T0 hlk hret hnm K0
  have P0 := Keep.refl h0 []
  refine gAloadN K0 b4_0 (v := (.ref x)) rfl rfl ?_
  refine gCallV K0 (W := 0) (C := "java/lang/String") x [] [] b4_1 (wd hw 31 rfl) (wd hw 32 rfl) (wd hw 34 rfl) (wd hw 33 rfl) (cal_lenA hw K0.n0le (W := 0) (cs := ([] : List Int32)) A Sc hz (by decide) (by decide)) (A).exa (fun _ q => nomatch q) pd16 rfl rfl (Nat.le_of_eq rfl) rfl (by decide) (by decide) (by decide) (fun v101 T101 h101 K101 Q101 q101 => ?_)
  have E101 := Ext.of0 Q101
  have P102 := P0.ext E101
  have q101' : v101 = some (.int (0 : Int32)) := q101
  cases q101'
  refine gIstoreN K101 b4_4 (Ls' := #[.val (.ref x), .val (.int (0 : Int32))]) rfl ?_
  refine gIloadN K101 b4_5 (v := (0 : Int32)) rfl ?_
  refine gIf_le K101 b4_6 (fun q6 => ?_) (fun q => absurd q (by first | decide | (intro hh; cases hh) | simp))
  refine gAloadN K101 b4_37 (v := (.ref x)) rfl rfl ?_
  refine gIconst K101 (0 : Int32) b4_38 rfl ?_
  refine gIloadN K101 b4_39 (v := (0 : Int32)) rfl ?_
  refine gCallV K101 (W := 0) (C := "java/lang/String") x [(.int (0 : Int32)), (.int (0 : Int32))] [] b4_40 (wd hw 42 rfl) (wd hw 43 rfl) (wd hw 45 rfl) (wd hw 44 rfl) (Cal.ofN (W := 0) (c_subE0_0 l Z a0 hw h101 n0 K101.n0le x (A.ext E101) z (Sc.ext E101) hz fm (Sf.ext E101) rf (u.ext E101)) (wd hw 46 rfl) (wd hw 7 rfl) (by decide) (by decide)) ((A.ext E101)).exa (fun _ q => nomatch q) pd18 rfl rfl (Nat.le_of_eq rfl) rfl (by decide) (by decide) (by decide) (fun v103 T103 h103 K103 Q103 q103 => ?_)
  have E103 := Ext.of0 Q103
  have P104 := P102.ext E103
  obtain ⟨xr, rfl, Sr⟩ := q103
  refine gRetA K103 hlk hret rfl rfl b4_43 P104 (by decide) (by decide) ?_
  exact ⟨_, 0, rfl, Sr, Nat.le_of_ble_eq_true rfl, (fun q => absurd q (Nat.lt_irrefl 0)), allI0⟩
set_option maxRecDepth 65536 in
set_option maxHeartbeats 40000000 in
theorem c_nsL1_0 (l : Launch) (Z : State) (a0 : Array Value) (hw : ∀ d ∈ tables_1, d.before a0 Z = true) (h0 : Heap) (n0 : Nat) (Z0 : n0 ≤ h0.size) (c0 : Int32) (bb : Addr) (kA : ClassId) (Ab : Arv Z h0 bb kA .byte (1 : Int32) (([c0].map StrChars.lo8).map Value.int) (.int 0)) (hp : ∀ c ∈ ([] : List Int32), ¬ c < 0 ∧ ¬ (255 : Int32) < c) (hE : EW Z a0 [("java/lang/String", 7), ("java/lang/StringLatin1", 151)]) :
    Con (some [("java/lang/String", 7), ("java/lang/StringLatin1", 151)]) l (⟨"java/lang/StringLatin1", "newString", "([BII)Ljava/lang/String;"⟩ : MethodName) jdk_43_method_47_code 3 (some (.object "java/lang/String")) [] ({ frames := 0, cells := 2, slots := 4, locals := 0 } : Room) Z n0 h0 [] #[(.ref bb), (.int (0 : Int32)), (.int (0 : Int32))] (fun v h => ∃ x : Addr, v = some (.ref x) ∧ StrL Z h x ([] : List Int32)) := by
  refine Con.intro pn5 Z0 (fun _ q => nomatch q) ⟨a0, hE⟩ #[.val (.ref bb), .val (.int (0 : Int32)), .val (.int (0 : Int32))] (fun m => by first | (simp [entryFrame, mkF, argsToLocals, Value.category]; done) | rfl) ?_
  intro p e s m below meth c T0 hlk hret hnm K0
  have P0 := Keep.refl h0 []
  refine gIloadN K0 b20_0 (v := (0 : Int32)) rfl ?_
  refine gIf_ne K0 b20_1 (fun q => absurd q (by first | decide | (intro hh; cases hh) | simp)) (fun q1 => ?_)
  refine gLdc K0 b20_4 (wd hw 119 rfl) (hsA hw) (by decide) (vs := []) (z := 0) (by decide) (by decide) (by decide) 0 (by decide) (by decide) (by decide) (by decide) (fun T101 h101 a101 b101 kA101 K101 E101 Ea101 Fc101 Fv101 Ab101 ne101 => ?_)
  have P102 := P0.ext E101
  refine gRetA K101 hlk hret rfl rfl b20_6 P102 (by decide) (by decide) ?_
  exact ⟨_, rfl, b101, _, Ea101, Fc101, Fv101, Ab101, (fun _ q => nomatch q), by decide⟩
set_option maxRecDepth 65536 in
set_option maxHeartbeats 40000000 in
theorem c_subL1_0 (l : Launch) (Z : State) (a0 : Array Value) (hw : ∀ d ∈ tables_1, d.before a0 Z = true) (h0 : Heap) (n0 : Nat) (Z0 : n0 ≤ h0.size) (c0 : Int32) (x : Addr) (A : StrL Z h0 x [c0]) (z : Int32) (Sc : Sta Z h0 "java/lang/String" "COMPACT_STRINGS" "Z" (.int z)) (hz : ¬ z = 0) (fm : Value) (Sf : Sta Z h0 "jdk/internal/util/Preconditions" "SIOOBE_FORMATTER" "Ljava/util/function/BiFunction;" fm) (rf : fm.isRef = true) (u : US Z h0) (hE : EW Z a0 [("java/lang/String", 7), ("java/lang/StringLatin1", 151)]) :
    Con (some [("java/lang/String", 7), ("java/lang/StringLatin1", 151)]) l (⟨"java/lang/String", "substring", "(II)Ljava/lang/String;"⟩ : MethodName) jdk_42_method_92_code 5 (some (.object "java/lang/String")) [] ({ frames := 6, cells := 3, slots := 16, locals := 112 } : Room) Z n0 h0 [] #[(.ref x), (.int (0 : Int32)), (.int (0 : Int32))] (fun v h => ∃ x : Addr, v = some (.ref x) ∧ StrA Z h x ([] : List Int32)) := by
  refine Con.intro pn0 Z0 (fun _ q => nomatch q) ⟨a0, hE⟩ #[.val (.ref x), .val (.int (0 : Int32)), .val (.int (0 : Int32)), .unset, .unset] (fun m => by first | (simp [entryFrame, mkF, argsToLocals, Value.category]; done) | rfl) ?_
  intro p e s m below meth c T0 hlk hret hnm K0
  have P0 := Keep.refl h0 []
  have A_ := A
  obtain ⟨bb, kA, Ex, Fc, Fv, Ab, hp, hN⟩ := A_
  refine gAloadN K0 b7_0 (v := (.ref x)) rfl rfl ?_
  refine gCallV K0 (W := 0) (C := "java/lang/String") x [] [] b7_1 (wd hw 47 rfl) (wd hw 32 rfl) (wd hw 34 rfl) (wd hw 33 rfl) (cal_lenA hw K0.n0le (W := 0) (cs := [c0]) (Or.inl A) Sc hz (by decide) (by decide)) (StrA.exa ((Or.inl A) : StrA Z _ x [c0])) (fun _ q => nomatch q) pd16 rfl rfl (Nat.le_of_eq rfl) rfl (by decide) (by decide) (by decide) (fun v101 T101 h101 K101 Q101 q101 => ?_)
  have E101 := Ext.of0 Q101
  have P102 := P0.ext E101
  have q101' : v101 = some (.int (1 : Int32)) := q101
  cases q101'
  refine gIstoreN K101 b7_4 (Ls' := #[.val (.ref x), .val (.int (0 : Int32)), .val (.int (0 : Int32)), .val (.int (1 : Int32)), .unset]) rfl ?_
  refine gIloadN K101 b7_5 (v := (0 : Int32)) rfl ?_
  refine gIloadN K101 b7_6 (v := (0 : Int32)) rfl ?_
  refine gIloadN K101 b7_7 (v := (1 : Int32)) rfl ?_
  refine gCallS K101 (W := 0) [(.int (0 : Int32)), (.int (0 : Int32)), (.int (1 : Int32))] [] b7_8 (wd hw 48 rfl) (wd hw 49 rfl) (wd hw 7 rfl) (wd hw 50 rfl) (Cal.ofN (W := 0) (c_cbe l Z a0 hw h101 n0 K101.n0le 1 0 (by decide) (by decide) fm (Sf.ext E101) rf) (wd hw 50 rfl) (wd hw 7 rfl) (by decide) (by decide)) (fun _ q => nomatch q) pd17 rfl rfl (Nat.le_of_eq rfl) rfl (by decide) (by decide) (by decide) (fun v103 T103 h103 K103 Q103 q103 => ?_)
  have E103 := Ext.of0 Q103
  have P104 := P102.ext E103
  cases q103
  refine gIloadN K103 b7_11 (v := (0 : Int32)) rfl ?_
  refine gIf_ne K103 b7_12 (fun q => absurd q (by first | decide | (intro hh; cases hh) | simp)) (fun q12 => ?_)
  refine gIloadN K103 b7_15 (v := (0 : Int32)) rfl ?_
  refine gIloadN K103 b7_16 (v := (1 : Int32)) rfl ?_
  refine gIcmp_ne K103 b7_17 (fun q17 => ?_) (fun q => absurd q (by first | decide | (intro hh; cases hh) | simp))
  refine gIloadN K103 b7_22 (v := (0 : Int32)) rfl ?_
  refine gIloadN K103 b7_23 (v := (0 : Int32)) rfl ?_
  refine gIsubV K103 (0 : Int32) b7_24 (by decide) ?_
  refine gIstore K103 b7_25 (Ls' := #[.val (.ref x), .val (.int (0 : Int32)), .val (.int (0 : Int32)), .val (.int (1 : Int32)), .val (.int (0 : Int32))]) rfl ?_
  refine gAloadN K103 b7_27 (v := (.ref x)) rfl rfl ?_
  refine gCallV K103 (W := 0) (C := "java/lang/String") x [] [] b7_28 (wd hw 75 rfl) (wd hw 76 rfl) (wd hw 78 rfl) (wd hw 77 rfl) (Cal.ofN (W := 0) (c_isL0 l Z a0 hw h103 n0 K103.n0le x (Fc.ext (Ext.tr E101 E103)) z (Sc.ext (Ext.tr E101 E103)) hz) (wd hw 79 rfl) (wd hw 7 rfl) (by decide) (by decide)) (Ex.ext (Ext.tr E101 E103)) (fun _ q => nomatch q) pd12 rfl rfl (Nat.le_of_eq rfl) rfl (by decide) (by decide) (by decide) (fun v105 T105 h105 K105 Q105 q105 => ?_)
  have E105 := Ext.of0 Q105
  have P106 := P104.ext E105
  cases q105
  refine gIf_eq K105 b7_31 (fun q => absurd q (by first | decide | (intro hh; cases hh) | simp)) (fun q31 => ?_)
  refine gAloadN K105 b7_34 (v := (.ref x)) rfl rfl ?_
  refine gGet K105 b7_35 (wd hw 25 rfl) (Fv.ext (Ext.tr (Ext.tr E101 E103) E105)) (fun T107 K107 => ?_)
  refine gIloadN K107 b7_38 (v := (0 : Int32)) rfl ?_
  refine gIload K107 b7_39 (v := (0 : Int32)) rfl ?_
  refine gCallS K107 (W := 0) [(.ref bb), (.int (0 : Int32)), (.int (0 : Int32))] [] b7_41 (wd hw 94 rfl) (wd hw 95 rfl) (wd hw 82 rfl) (wd hw 96 rfl) (Cal.ofW (W := 0) (c_nsL1_0 l Z a0 hw h105 n0 K107.n0le c0 bb kA (Ab.ext (Ext.tr (Ext.tr E101 E103) E105)) (fun c hc => hp c (List.mem_append_left [c0] hc)) hE) (wd hw 96 rfl) (wd hw 82 rfl) (by decide) (by decide)) (fun _ q => nomatch q) pd19 rfl rfl (Nat.le_of_eq rfl) rfl (by decide) (by decide) (by decide) (fun v108 T108 h108 K108 Q108 q108 => ?_)
  have E108 := Ext.of0 Q108
  have P109 := P106.ext E108
  obtain ⟨xr, rfl, Sr⟩ := q108
  refine gGoto K108 b7_44 ?_
  refine gRetA K108 hlk hret rfl rfl b7_57 P109 (by decide) (by decide) ?_
  exact ⟨_, rfl, Or.inl Sr⟩
set_option maxRecDepth 65536 in
set_option maxHeartbeats 40000000 in
theorem c_subE1_1 (l : Launch) (Z : State) (a0 : Array Value) (hw : ∀ d ∈ tables_1, d.before a0 Z = true) (h0 : Heap) (n0 : Nat) (Z0 : n0 ≤ h0.size) (c0 : Int32) (x : Addr) (A : StrA Z h0 x [c0]) (z : Int32) (Sc : Sta Z h0 "java/lang/String" "COMPACT_STRINGS" "Z" (.int z)) (hz : ¬ z = 0) (fm : Value) (Sf : Sta Z h0 "jdk/internal/util/Preconditions" "SIOOBE_FORMATTER" "Ljava/util/function/BiFunction;" fm) (rf : fm.isRef = true) (u : US Z h0) :
    Con none l (⟨"java/lang/String", "substring", "(II)Ljava/lang/String;"⟩ : MethodName) jdk_42_method_92_code 5 (some (.object "java/lang/String")) [] ({ frames := 6, cells := 3, slots := 16, locals := 112 } : Room) Z n0 h0 [] #[(.ref x), (.int (0 : Int32)), (.int (1 : Int32))] (fun v h => ∃ x : Addr, v = some (.ref x) ∧ StrA Z h x [c0]) := by
  refine Con.intro pn0 Z0 (fun _ q => nomatch q) trivial #[.val (.ref x), .val (.int (0 : Int32)), .val (.int (1 : Int32)), .unset, .unset] (fun m => by first | (simp [entryFrame, mkF, argsToLocals, Value.category]; done) | rfl) ?_
  intro p e s m below meth c T0 hlk hret hnm K0
  have P0 := Keep.refl h0 []
  refine gAloadN K0 b7_0 (v := (.ref x)) rfl rfl ?_
  refine gCallV K0 (W := 0) (C := "java/lang/String") x [] [] b7_1 (wd hw 47 rfl) (wd hw 32 rfl) (wd hw 34 rfl) (wd hw 33 rfl) (cal_lenA hw K0.n0le (W := 0) (cs := [c0]) A Sc hz (by decide) (by decide)) (StrA.exa (A : StrA Z _ x [c0])) (fun _ q => nomatch q) pd16 rfl rfl (Nat.le_of_eq rfl) rfl (by decide) (by decide) (by decide) (fun v101 T101 h101 K101 Q101 q101 => ?_)
  have E101 := Ext.of0 Q101
  have P102 := P0.ext E101
  have q101' : v101 = some (.int (1 : Int32)) := q101
  cases q101'
  refine gIstoreN K101 b7_4 (Ls' := #[.val (.ref x), .val (.int (0 : Int32)), .val (.int (1 : Int32)), .val (.int (1 : Int32)), .unset]) rfl ?_
  refine gIloadN K101 b7_5 (v := (0 : Int32)) rfl ?_
  refine gIloadN K101 b7_6 (v := (1 : Int32)) rfl ?_
  refine gIloadN K101 b7_7 (v := (1 : Int32)) rfl ?_
  refine gCallS K101 (W := 0) [(.int (0 : Int32)), (.int (1 : Int32)), (.int (1 : Int32))] [] b7_8 (wd hw 48 rfl) (wd hw 49 rfl) (wd hw 7 rfl) (wd hw 50 rfl) (Cal.ofN (W := 0) (c_cbe l Z a0 hw h101 n0 K101.n0le 1 1 (by decide) (by decide) fm (Sf.ext E101) rf) (wd hw 50 rfl) (wd hw 7 rfl) (by decide) (by decide)) (fun _ q => nomatch q) pd17 rfl rfl (Nat.le_of_eq rfl) rfl (by decide) (by decide) (by decide) (fun v103 T103 h103 K103 Q103 q103 => ?_)
  have E103 := Ext.of0 Q103
  have P104 := P102.ext E103
  cases q103
  refine gIloadN K103 b7_11 (v := (0 : Int32)) rfl ?_
  refine gIf_ne K103 b7_12 (fun q => absurd q (by first | decide | (intro hh; cases hh) | simp)) (fun q12 => ?_)
  refine gIloadN K103 b7_15 (v := (1 : Int32)) rfl ?_
  refine gIloadN K103 b7_16 (v := (1 : Int32)) rfl ?_
  refine gIcmp_ne K103 b7_17 (fun q => absurd q (by first | decide | (intro hh; cases hh) | simp)) (fun q17 => ?_)
  refine gAloadN K103 b7_20 (v := (.ref x)) rfl rfl ?_
  refine gRetA K103 hlk hret rfl rfl b7_21 P104 (by decide) (by decide) ?_
  exact ⟨_, rfl, (A.ext (Ext.tr E101 E103))⟩
set_option maxRecDepth 65536 in
set_option maxHeartbeats 40000000 in
theorem c_wp1 (l : Launch) (Z : State) (a0 : Array Value) (hw : ∀ d ∈ tables_1, d.before a0 Z = true) (h0 : Heap) (n0 : Nat) (Z0 : n0 ≤ h0.size) (c0 : Int32) (x : Addr) (A : StrA Z h0 x [c0]) (z : Int32) (Sc : Sta Z h0 "java/lang/String" "COMPACT_STRINGS" "Z" (.int z)) (hz : ¬ z = 0) (fm : Value) (Sf : Sta Z h0 "jdk/internal/util/Preconditions" "SIOOBE_FORMATTER" "Ljava/util/function/BiFunction;" fm) (rf : fm.isRef = true) (u : US Z h0) (hE : EW Z a0 [("java/lang/String", 7), ("java/lang/StringLatin1", 151)]) :
    Con (some [("java/lang/String", 7), ("java/lang/StringLatin1", 151)]) l (⟨"com/example/stowage/stowage/dicom/Uid", "withoutPadding", "(Ljava/lang/String;)Ljava/lang/String;"⟩ : MethodName) prog_11_method_5_code 2 (some (.object "java/lang/String")) [] ({ frames := 7, cells := 3, slots := 16, locals := 130 } : Room) Z n0 h0 [] #[(.ref x)] (fun v h => ∃ (x : Addr) (t : Nat), v = some (.ref x) ∧ StrA Z h x ([c0].take t) ∧ WP [c0] t) := by
  refine Con.intro pn4 Z0 (fun _ q => nomatch q) ⟨a0, hE⟩ #[.val (.ref x), .unset] (fun m => by first | (simp [entryFrame, mkF, argsToLocals, Value.category]; done) | rfl) ?_
  intro p e s m below meth c T0 hlk hret hnm K0
  have P0 := Keep.refl h0 []
  refine gAloadN K0 b4_0 (v := (.ref x)) rfl rfl ?_
  refine gCallV K0 (W := 0) (C := "java/lang/String") x [] [] b4_1 (wd hw 31 rfl) (wd hw 32 rfl) (wd hw 34 rfl) (wd hw 33 rfl) (cal_lenA hw K0.n0le (W := 0) (cs := [c0]) A Sc hz (by decide) (by decide)) (A).exa (fun _ q => nomatch q) pd16 rfl rfl (Nat.le_of_eq rfl) rfl (by decide) (by decide) (by decide) (fun v101 T101 h101 K101 Q101 q101 => ?_)
  have E101 := Ext.of0 Q101
  have P102 := P0.ext E101
  have q101' : v101 = some (.int (1 : Int32)) := q101
  cases q101'
  refine gIstoreN K101 b4_4 (Ls' := #[.val (.ref x), .val (.int (1 : Int32))]) rfl ?_
  refine gIloadN K101 b4_5 (v := (1 : Int32)) rfl ?_
  refine gIf_le K101 b4_6 (fun q => absurd q (by first | decide | (intro hh; cases hh) | simp)) (fun q6 => ?_)
  refine gAloadN K101 b4_9 (v := (.ref x)) rfl rfl ?_
  refine gIloadN K101 b4_10 (v := (1 : Int32)) rfl ?_
  refine gIconst K101 (1 : Int32) b4_11 rfl ?_
  refine gIsubV K101 (0 : Int32) b4_12 (by decide) ?_
  have j_c0 : ∀ (hp_c0 : pd c0) (Tj : State) (hj : Heap) (Kj : Cx p l e ({ frames := 7, cells := 3, slots := 16, locals := 130 } : Room) s m #[(.ref x)] below meth c prog_11_method_5_code 2 Z "com/example/stowage/stowage/dicom/Uid" n0 (some [("java/lang/String", 7), ("java/lang/StringLatin1", 151)]) Tj hj [] 0 0) (Pj : Keep h0 hj []) (Aj : StrA Z hj x [c0]) (Scj : Sta Z hj "java/lang/String" "COMPACT_STRINGS" "Z" (.int z)) (Sfj : Sta Z hj "jdk/internal/util/Preconditions" "SIOOBE_FORMATTER" "Ljava/util/function/BiFunction;" fm) (uj : US Z hj), Go p e below (End (some [("java/lang/String", 7), ("java/lang/StringLatin1", 151)]) s Z n0 h0 [] ({ frames := 7, cells := 3, slots := 16, locals := 130 } : Room).cells ({ frames := 7, cells := 3, slots := 16, locals := 130 } : Room).slots (fun v h => ∃ (x : Addr) (t : Nat), v = some (.ref x) ∧ StrA Z h x ([c0].take t) ∧ WP [c0] t)) Tj (mkF m 31 #[.val (.ref x), .val (.int (1 : Int32))] []) := by
    intro hp_c0 Tj hj Kj Pj Aj Scj Sfj uj
    refine gIinc Kj (-1 : Int32) b4_31 rfl (x := (1 : Int32)) rfl (Ls' := #[.val (.ref x), .val (.int (0 : Int32))]) rfl ?_
    refine gGoto Kj b4_34 ?_
    refine gIloadN Kj b4_5 (v := (0 : Int32)) rfl ?_
    refine gIf_le Kj b4_6 (fun q6 => ?_) (fun q => absurd q (by first | decide | (intro hh; cases hh) | simp))
    refine gAloadN Kj b4_37 (v := (.ref x)) rfl rfl ?_
    refine gIconst Kj (0 : Int32) b4_38 rfl ?_
    refine gIloadN Kj b4_39 (v := (0 : Int32)) rfl ?_
    rcases Aj with hA | hA
    · skip
      refine gCallV Kj (W := 0) (C := "java/lang/String") x [(.int (0 : Int32)), (.int (0 : Int32))] [] b4_40 (wd hw 42 rfl) (wd hw 43 rfl) (wd hw 45 rfl) (wd hw 44 rfl) (Cal.ofW (W := 0) (c_subL1_0 l Z a0 hw hj n0 Kj.n0le c0 x hA z Scj hz fm Sfj rf uj hE) (wd hw 46 rfl) (wd hw 7 rfl) (by decide) (by decide)) (StrL.exa hA) (fun _ q => nomatch q) pd18 rfl rfl (Nat.le_of_eq rfl) rfl (by decide) (by decide) (by decide) (fun v103 T103 h103 K103 Q103 q103 => ?_)
      have E103 := Ext.of0 Q103
      have P104 := Pj.ext E103
      obtain ⟨xr, rfl, Sr⟩ := q103
      refine gRetA K103 hlk hret rfl rfl b4_43 P104 (by decide) (by decide) ?_
      exact ⟨_, 0, rfl, Sr, Nat.le_of_ble_eq_true rfl, (fun q => absurd q (Nat.lt_irrefl 0)), (allI hp_c0 allI0)⟩
    · skip
      have hu : ∃ c ∈ ([] : List Int32), (255 : Int32) < c := hiPre (a := ([] : List Int32)) (b := [c0]) (by obtain ⟨t, kb, -, -, -, -, -, q, -⟩ := hA; exact q) ((allI hp_c0 allI0))
      exact absurd hu (noHi (fun _ q => nomatch q))
  refine gCallV K101 (W := 0) (C := "java/lang/String") x [(.int (0 : Int32))] [] b4_13 (wd hw 70 rfl) (wd hw 71 rfl) (wd hw 73 rfl) (wd hw 72 rfl) (cal_chA hw K101.n0le (W := 0) (cs := [c0]) 0 (A.ext E101) (Sc.ext E101) hz (Sf.ext E101) rf (u.ext E101) (Nat.le_of_ble_eq_true rfl) (by decide) (by decide)) ((A.ext E101)).exa (fun _ q => nomatch q) pd20 rfl rfl (Nat.le_of_eq rfl) rfl (by decide) (by decide) (by decide) (fun v105 T105 h105 K105 Q105 q105 => ?_)
  have E105 := Ext.of0 Q105
  have P106 := P102.ext E105
  have q105' : v105 = some (.int c0) := q105
  cases q105'
  refine gIf_eq K105 b4_16 (fun hz_c0 => ?_) (fun hz_c0 => ?_)
  · skip
    exact j_c0 (Or.inl hz_c0) _ _ K105 P106 (A.ext (Ext.tr E101 E105)) (Sc.ext (Ext.tr E101 E105)) (Sf.ext (Ext.tr E101 E105)) (u.ext (Ext.tr E101 E105))
  · skip
    refine gAloadN K105 b4_19 (v := (.ref x)) rfl rfl ?_
    refine gIloadN K105 b4_20 (v := (1 : Int32)) rfl ?_
    refine gIconst K105 (1 : Int32) b4_21 rfl ?_
    refine gIsubV K105 (0 : Int32) b4_22 (by decide) ?_
    refine gCallV K105 (W := 0) (C := "java/lang/String") x [(.int (0 : Int32))] [] b4_23 (wd hw 70 rfl) (wd hw 71 rfl) (wd hw 73 rfl) (wd hw 72 rfl) (cal_chA hw K105.n0le (W := 0) (cs := [c0]) 0 (A.ext (Ext.tr E101 E105)) (Sc.ext (Ext.tr E101 E105)) hz (Sf.ext (Ext.tr E101 E105)) rf (u.ext (Ext.tr E101 E105)) (Nat.le_of_ble_eq_true rfl) (by decide) (by decide)) ((A.ext (Ext.tr E101 E105))).exa (fun _ q => nomatch q) pd20 rfl rfl (Nat.le_of_eq rfl) rfl (by decide) (by decide) (by decide) (fun v107 T107 h107 K107 Q107 q107 => ?_)
    have E107 := Ext.of0 Q107
    have P108 := P106.ext E107
    have q107' : v107 = some (.int c0) := q107
    cases q107'
    refine gBipush K107 (32 : Int32) b4_26 rfl ?_
    refine gIcmp_ne K107 b4_28 (fun hs_c0 => ?_) (fun hs_c0 => ?_)
    · skip
      refine gAloadN K107 b4_37 (v := (.ref x)) rfl rfl ?_
      refine gIconst K107 (0 : Int32) b4_38 rfl ?_
      refine gIloadN K107 b4_39 (v := (1 : Int32)) rfl ?_
      refine gCallV K107 (W := 0) (C := "java/lang/String") x [(.int (0 : Int32)), (.int (1 : Int32))] [] b4_40 (wd hw 42 rfl) (wd hw 43 rfl) (wd hw 45 rfl) (wd hw 44 rfl) (Cal.ofN (W := 0) (c_subE1_1 l Z a0 hw h107 n0 K107.n0le c0 x (A.ext (Ext.tr (Ext.tr E101 E105) E107)) z (Sc.ext (Ext.tr (Ext.tr E101 E105) E107)) hz fm (Sf.ext (Ext.tr (Ext.tr E101 E105) E107)) rf (u.ext (Ext.tr (Ext.tr E101 E105) E107))) (wd hw 46 rfl) (wd hw 7 rfl) (by decide) (by decide)) ((A.ext (Ext.tr (Ext.tr E101 E105) E107))).exa (fun _ q => nomatch q) pd18 rfl rfl (Nat.le_of_eq rfl) rfl (by decide) (by decide) (by decide) (fun v109 T109 h109 K109 Q109 q109 => ?_)
      have E109 := Ext.of0 Q109
      have P110 := P108.ext E109
      obtain ⟨xr, rfl, Sr⟩ := q109
      refine gRetA K109 hlk hret rfl rfl b4_43 P110 (by decide) (by decide) ?_
      exact ⟨_, 1, rfl, Sr, Nat.le_of_ble_eq_true rfl, (fun _ q => q.elim hz_c0 hs_c0), allI0⟩
    · skip
      exact j_c0 (Or.inr hs_c0) _ _ K107 P108 (A.ext (Ext.tr (Ext.tr E101 E105) E107)) (Sc.ext (Ext.tr (Ext.tr E101 E105) E107)) (Sf.ext (Ext.tr (Ext.tr E101 E105) E107)) (u.ext (Ext.tr (Ext.tr E101 E105) E107))
set_option maxRecDepth 65536 in
set_option maxHeartbeats 40000000 in
theorem c_nsL2_0 (l : Launch) (Z : State) (a0 : Array Value) (hw : ∀ d ∈ tables_1, d.before a0 Z = true) (h0 : Heap) (n0 : Nat) (Z0 : n0 ≤ h0.size) (c0 c1 : Int32) (bb : Addr) (kA : ClassId) (Ab : Arv Z h0 bb kA .byte (2 : Int32) (([c0, c1].map StrChars.lo8).map Value.int) (.int 0)) (hp : ∀ c ∈ ([] : List Int32), ¬ c < 0 ∧ ¬ (255 : Int32) < c) (hE : EW Z a0 [("java/lang/String", 7), ("java/lang/StringLatin1", 151)]) :
    Con (some [("java/lang/String", 7), ("java/lang/StringLatin1", 151)]) l (⟨"java/lang/StringLatin1", "newString", "([BII)Ljava/lang/String;"⟩ : MethodName) jdk_43_method_47_code 3 (some (.object "java/lang/String")) [] ({ frames := 0, cells := 2, slots := 4, locals := 0 } : Room) Z n0 h0 [] #[(.ref bb), (.int (0 : Int32)), (.int (0 : Int32))] (fun v h => ∃ x : Addr, v = some (.ref x) ∧ StrL Z h x ([] : List Int32)) := by
  refine Con.intro pn5 Z0 (fun _ q => nomatch q) ⟨a0, hE⟩ #[.val (.ref bb), .val (.int (0 : Int32)), .val (.int (0 : Int32))] (fun m => by first | (simp [entryFrame, mkF, argsToLocals, Value.category]; done) | rfl) ?_
  intro p e s m below meth c T0 hlk hret hnm K0
  have P0 := Keep.refl h0 []
  refine gIloadN K0 b20_0 (v := (0 : Int32)) rfl ?_
  refine gIf_ne K0 b20_1 (fun q => absurd q (by first | decide | (intro hh; cases hh) | simp)) (fun q1 => ?_)
  refine gLdc K0 b20_4 (wd hw 119 rfl) (hsA hw) (by decide) (vs := []) (z := 0) (by decide) (by decide) (by decide) 0 (by decide) (by decide) (by decide) (by decide) (fun T101 h101 a101 b101 kA101 K101 E101 Ea101 Fc101 Fv101 Ab101 ne101 => ?_)
  have P102 := P0.ext E101
  refine gRetA K101 hlk hret rfl rfl b20_6 P102 (by decide) (by decide) ?_
  exact ⟨_, rfl, b101, _, Ea101, Fc101, Fv101, Ab101, (fun _ q => nomatch q), by decide⟩
set_option maxRecDepth 65536 in
set_option maxHeartbeats 40000000 in
theorem c_subL2_0 (l : Launch) (Z : State) (a0 : Array Value) (hw : ∀ d ∈ tables_1, d.before a0 Z = true) (h0 : Heap) (n0 : Nat) (Z0 : n0 ≤ h0.size) (c0 c1 : Int32) (x : Addr) (A : StrL Z h0 x [c0, c1]) (z : Int32) (Sc : Sta Z h0 "java/lang/String" "COMPACT_STRINGS" "Z" (.int z)) (hz : ¬ z = 0) (fm : Value) (Sf : Sta Z h0 "jdk/internal/util/Preconditions" "SIOOBE_FORMATTER" "Ljava/util/function/BiFunction;" fm) (rf : fm.isRef = true) (u : US Z h0) (hE : EW Z a0 [("java/lang/String", 7), ("java/lang/StringLatin1", 151)]) :
    Con (some [("java/lang/String", 7), ("java/lang/StringLatin1", 151)]) l (⟨"java/lang/String", "substring", "(II)Ljava/lang/String;"⟩ : MethodName) jdk_42_method_92_code 5 (some (.object "java/lang/String")) [] ({ frames := 6, cells := 3, slots := 16, locals := 112 } : Room) Z n0 h0 [] #[(.ref x), (.int (0 : Int32)), (.int (0 : Int32))] (fun v h => ∃ x : Addr, v = some (.ref x) ∧ StrA Z h x ([] : List Int32)) := by
  refine Con.intro pn0 Z0 (fun _ q => nomatch q) ⟨a0, hE⟩ #[.val (.ref x), .val (.int (0 : Int32)), .val (.int (0 : Int32)), .unset, .unset] (fun m => by first | (simp [entryFrame, mkF, argsToLocals, Value.category]; done) | rfl) ?_
  intro p e s m below meth c T0 hlk hret hnm K0
  have P0 := Keep.refl h0 []
  have A_ := A
  obtain ⟨bb, kA, Ex, Fc, Fv, Ab, hp, hN⟩ := A_
  refine gAloadN K0 b7_0 (v := (.ref x)) rfl rfl ?_
  refine gCallV K0 (W := 0) (C := "java/lang/String") x [] [] b7_1 (wd hw 47 rfl) (wd hw 32 rfl) (wd hw 34 rfl) (wd hw 33 rfl) (cal_lenA hw K0.n0le (W := 0) (cs := [c0, c1]) (Or.inl A) Sc hz (by decide) (by decide)) (StrA.exa ((Or.inl A) : StrA Z _ x [c0, c1])) (fun _ q => nomatch q) pd16 rfl rfl (Nat.le_of_eq rfl) rfl (by decide) (by decide) (by decide) (fun v101 T101 h101 K101 Q101 q101 => ?_)
  have E101 := Ext.of0 Q101
  have P102 := P0.ext E101
  have q101' : v101 = some (.int (2 : Int32)) := q101
  cases q101'
  refine gIstoreN K101 b7_4 (Ls' := #[.val (.ref x), .val (.int (0 : Int32)), .val (.int (0 : Int32)), .val (.int (2 : Int32)), .unset]) rfl ?_
  refine gIloadN K101 b7_5 (v := (0 : Int32)) rfl ?_
  refine gIloadN K101 b7_6 (v := (0 : Int32)) rfl ?_
  refine gIloadN K101 b7_7 (v := (2 : Int32)) rfl ?_
  refine gCallS K101 (W := 0) [(.int (0 : Int32)), (.int (0 : Int32)), (.int (2 : Int32))] [] b7_8 (wd hw 48 rfl) (wd hw 49 rfl) (wd hw 7 rfl) (wd hw 50 rfl) (Cal.ofN (W := 0) (c_cbe l Z a0 hw h101 n0 K101.n0le 2 0 (by decide) (by decide) fm (Sf.ext E101) rf) (wd hw 50 rfl) (wd hw 7 rfl) (by decide) (by decide)) (fun _ q => nomatch q) pd17 rfl rfl (Nat.le_of_eq rfl) rfl (by decide) (by decide) (by decide) (fun v103 T103 h103 K103 Q103 q103 => ?_)
  have E103 := Ext.of0 Q103
  have P104 := P102.ext E103
  cases q103
  refine gIloadN K103 b7_11 (v := (0 : Int32)) rfl ?_
  refine gIf_ne K103 b7_12 (fun q => absurd q (by first | decide | (intro hh; cases hh) | simp)) (fun q12 => ?_)
  refine gIloadN K103 b7_15 (v := (0 : Int32)) rfl ?_
  refine gIloadN K103 b7_16 (v := (2 : Int32)) rfl ?_
  refine gIcmp_ne K103 b7_17 (fun q17 => ?_) (fun q => absurd q (by first | decide | (intro hh; cases hh) | simp))
  refine gIloadN K103 b7_22 (v := (0 : Int32)) rfl ?_
  refine gIloadN K103 b7_23 (v := (0 : Int32)) rfl ?_
  refine gIsubV K103 (0 : Int32) b7_24 (by decide) ?_
  refine gIstore K103 b7_25 (Ls' := #[.val (.ref x), .val (.int (0 : Int32)), .val (.int (0 : Int32)), .val (.int (2 : Int32)), .val (.int (0 : Int32))]) rfl ?_
  refine gAloadN K103 b7_27 (v := (.ref x)) rfl rfl ?_
  refine gCallV K103 (W := 0) (C := "java/lang/String") x [] [] b7_28 (wd hw 75 rfl) (wd hw 76 rfl) (wd hw 78 rfl) (wd hw 77 rfl) (Cal.ofN (W := 0) (c_isL0 l Z a0 hw h103 n0 K103.n0le x (Fc.ext (Ext.tr E101 E103)) z (Sc.ext (Ext.tr E101 E103)) hz) (wd hw 79 rfl) (wd hw 7 rfl) (by decide) (by decide)) (Ex.ext (Ext.tr E101 E103)) (fun _ q => nomatch q) pd12 rfl rfl (Nat.le_of_eq rfl) rfl (by decide) (by decide) (by decide) (fun v105 T105 h105 K105 Q105 q105 => ?_)
  have E105 := Ext.of0 Q105
  have P106 := P104.ext E105
  cases q105
  refine gIf_eq K105 b7_31 (fun q => absurd q (by first | decide | (intro hh; cases hh) | simp)) (fun q31 => ?_)
  refine gAloadN K105 b7_34 (v := (.ref x)) rfl rfl ?_
  refine gGet K105 b7_35 (wd hw 25 rfl) (Fv.ext (Ext.tr (Ext.tr E101 E103) E105)) (fun T107 K107 => ?_)
  refine gIloadN K107 b7_38 (v := (0 : Int32)) rfl ?_
  refine gIload K107 b7_39 (v := (0 : Int32)) rfl ?_
  refine gCallS K107 (W := 0) [(.ref bb), (.int (0 : Int32)), (.int (0 : Int32))] [] b7_41 (wd hw 94 rfl) (wd hw 95 rfl) (wd hw 82 rfl) (wd hw 96 rfl) (Cal.ofW (W := 0) (c_nsL2_0 l Z a0 hw h105 n0 K107.n0le c0 c1 bb kA (Ab.ext (Ext.tr (Ext.tr E101 E103) E105)) (fun c hc => hp c (List.mem_append_left [c0, c1] hc)) hE) (wd hw 96 rfl) (wd hw 82 rfl) (by decide) (by decide)) (fun _ q => nomatch q) pd19 rfl rfl (Nat.le_of_eq rfl) rfl (by decide) (by decide) (by decide) (fun v108 T108 h108 K108 Q108 q108 => ?_)
  have E108 := Ext.of0 Q108
  have P109 := P106.ext E108
  obtain ⟨xr, rfl, Sr⟩ := q108
  refine gGoto K108 b7_44 ?_
  refine gRetA K108 hlk hret rfl rfl b7_57 P109 (by decide) (by decide) ?_
  exact ⟨_, rfl, Or.inl Sr⟩
set_option maxRecDepth 65536 in
set_option maxHeartbeats 40000000 in
theorem c_ckl (l : Launch) (Z : State) (a0 : Array Value) (hw : ∀ d ∈ tables_1, d.before a0 Z = true) (h0 : Heap) (n0 : Nat) (Z0 : n0 ≤ h0.size) (t : Nat) (ht : t ≤ 100) :
    Con none l (⟨"java/util/Arrays", "checkLength", "(II)V"⟩ : MethodName) jdk_65_method_131_code 2 none [] ({ frames := 0, cells := 0, slots := 0, locals := 0 } : Room) Z n0 h0 [] #[(.int (0 : Int32)), (.int (Int32.ofNat t))] (fun v h => v = none) := by
  refine Con.intro pn6 Z0 (fun _ q => nomatch q) trivial #[.val (.int (0 : Int32)), .val (.int (Int32.ofNat t))] (fun m => by first | (simp [entryFrame, mkF, argsToLocals, Value.category]; done) | rfl) ?_
  intro p e s m below meth c T0 hlk hret hnm K0
  have P0 := Keep.refl h0 []
  refine gIloadN K0 b23_0 (v := (Int32.ofNat t)) rfl ?_
  refine gIloadN K0 b23_1 (v := (0 : Int32)) rfl ?_
  refine gIcmp_ge K0 b23_2 (fun q2 => ?_) (fun q => absurd q (ofNat_nn (by omega)))
  refine gRetV K0 hlk hret b23_37 P0 (by decide) (by decide) ?_
  exact rfl
set_option maxRecDepth 65536 in
set_option maxHeartbeats 40000000 in
theorem c_min (l : Launch) (Z : State) (a0 : Array Value) (hw : ∀ d ∈ tables_1, d.before a0 Z = true) (h0 : Heap) (n0 : Nat) (Z0 : n0 ≤ h0.size) (M t : Nat) (ht : t < M) (hM : M ≤ 100) :
    Con none l (⟨"java/lang/Math", "min", "(II)I"⟩ : MethodName) jdk_29_method_69_code 2 (some .int) [] ({ frames := 0, cells := 0, slots := 0, locals := 0 } : Room) Z n0 h0 [] #[(.int (Int32.ofNat M)), (.int (Int32.ofNat t))] (fun v h => v = some (.int (Int32.ofNat t))) := by
  refine Con.introF (by decide +kernel) Z0 (fun _ q => nomatch q) trivial #[.val (.int (Int32.ofNat M)), .val (.int (Int32.ofNat t))] (fun m => by first | (simp [entryFrame, mkF, argsToLocals, Value.category]; done) | rfl) ?_
  intro p e s m below meth c T0 hlk hret hnm K0
  have P0 := Keep.refl h0 []
  refine gIloadN K0 b24_0 (v := (Int32.ofNat M)) rfl ?_
  refine gIloadN K0 b24_1 (v := (Int32.ofNat t)) rfl ?_
  refine gIcmp_gt K0 b24_2 (fun q2 => ?_) (fun q => absurd q (not_not_intro (ofNat_ltI ht (by omega))))
  refine gIloadN K0 b24_9 (v := (Int32.ofNat t)) rfl ?_
  refine gRetI K0 hlk hret (by simp) b24_10 rfl P0 (by decide) (by decide) ?_
  exact rfl
set_option maxRecDepth 65536 in
set_option maxHeartbeats 40000000 in
theorem c_corB2_1 (l : Launch) (Z : State) (a0 : Array Value) (hw : ∀ d ∈ tables_1, d.before a0 Z = true) (h0 : Heap) (n0 : Nat) (Z0 : n0 ≤ h0.size) (bb : Addr) (kA : ClassId) (vs : List Value) (Ab : Arv Z h0 bb kA .byte (2 : Int32) vs (.int 0)) (hv : vs.length = 2) :
    Con none l (⟨"java/util/Arrays", "copyOfRangeByte", "([BII)[B"⟩ : MethodName) jdk_65_method_133_code 5 (some (.array .byte)) [] ({ frames := 1, cells := 1, slots := 1, locals := 40 } : Room) Z n0 h0 [] #[(.ref bb), (.int (0 : Int32)), (.int (1 : Int32))] (fun v h => ∃ (b : Addr) (kA : ClassId), v = some (.ref b) ∧ h0.size ≤ b ∧ Arv Z h b kA .byte (1 : Int32) (vs.take 1) (.int 0)) := by
  refine Con.intro pn6 Z0 (fun _ q => nomatch q) trivial #[.val (.ref bb), .val (.int (0 : Int32)), .val (.int (1 : Int32)), .unset, .unset] (fun m => by first | (simp [entryFrame, mkF, argsToLocals, Value.category]; done) | rfl) ?_
  intro p e s m below meth c T0 hlk hret hnm K0
  have P0 := Keep.refl h0 []
  refine gIloadN K0 b22_0 (v := (0 : Int32)) rfl ?_
  refine gIloadN K0 b22_1 (v := (1 : Int32)) rfl ?_
  refine gCallS K0 (W := 0) [(.int (0 : Int32)), (.int (1 : Int32))] [] b22_2 (wd hw 105 rfl) (wd hw 106 rfl) (wd hw 100 rfl) (wd hw 107 rfl) (Cal.ofN (W := 0) (c_ckl l Z a0 hw h0 n0 K0.n0le 1 (by decide)) (wd hw 107 rfl) (wd hw 100 rfl) (by decide) (by decide)) (fun _ q => nomatch q) pd10 rfl rfl (Nat.le_of_eq rfl) rfl (by decide) (by decide) (by decide) (fun v101 T101 h101 K101 Q101 q101 => ?_)
  have E101 := Ext.of0 Q101
  have P102 := P0.ext E101
  cases q101
  refine gIloadN K101 b22_5 (v := (1 : Int32)) rfl ?_
  refine gIloadN K101 b22_6 (v := (0 : Int32)) rfl ?_
  refine gIsubV K101 (1 : Int32) b22_7 (by decide) ?_
  refine gIstoreN K101 b22_8 (Ls' := #[.val (.ref bb), .val (.int (0 : Int32)), .val (.int (1 : Int32)), .val (.int (1 : Int32)), .unset]) rfl ?_
  refine gIloadN K101 b22_9 (v := (1 : Int32)) rfl ?_
  refine gNewarr K101 b22_10 (wd hw 20 rfl) (by decide) 1 (by decide) (by decide) (by decide) (by decide) (fun T103 h103 x103 kA103 K103 E103 g103 A103 ne103 => ?_)
  have P104 := P102.ext E103
  have ge_x103 : h0.size ≤ x103 := by rw [g103]; exact P102.1
  refine gAstore K103 b22_12 rfl (Ls' := #[.val (.ref bb), .val (.int (0 : Int32)), .val (.int (1 : Int32)), .val (.int (1 : Int32)), .val (.ref x103)]) rfl ?_
  refine gAloadN K103 b22_14 (v := (.ref bb)) rfl rfl ?_
  refine gIloadN K103 b22_15 (v := (0 : Int32)) rfl ?_
  refine gAload K103 b22_16 (v := (.ref x103)) rfl rfl ?_
  refine gIconst K103 (0 : Int32) b22_18 rfl ?_
  refine gAloadN K103 b22_19 (v := (.ref bb)) rfl rfl ?_
  refine gLen K103 b22_20 (Ab.ext (Ext.tr E101 E103)) ?_
  refine gIloadN K103 b22_21 (v := (0 : Int32)) rfl ?_
  refine gIsubV K103 (2 : Int32) b22_22 (by decide) ?_
  refine gIloadN K103 b22_23 (v := (1 : Int32)) rfl ?_
  refine gCallS K103 (W := 4) [(.int (2 : Int32)), (.int (1 : Int32))] [(.int (0 : Int32)), (.ref x103), (.int (0 : Int32)), (.ref bb)] b22_24 (wd hw 108 rfl) (wd hw 109 rfl) (wd hw 110 rfl) (wd hw 111 rfl) (Cal.ofN (W := 4) (c_min l Z a0 hw h103 n0 K103.n0le 2 1 (by decide) (by decide)) (wd hw 111 rfl) (wd hw 110 rfl) (by decide) (by decide)) (fun _ q => nomatch q) pd21 rfl rfl (Nat.le_of_eq rfl) rfl (by decide) (by decide) (by decide) (fun v105 T105 h105 K105 Q105 q105 => ?_)
  have E105 := Ext.of0 Q105
  have P106 := P104.ext E105
  have q105' : v105 = some (.int (1 : Int32)) := q105
  cases q105'
  refine gCopy K105 b22_27 (wd hw 112 rfl) (wd hw 115 rfl) (wd hw 113 rfl) (wd hw 114 rfl) (me 0 rfl) (Ab.ext (Ext.tr (Ext.tr E101 E103) E105)) (Arv.pad (A103.ext E105) (pad_rep [] (.int 0) 1)) (by decide) (by decide) (by decide) (by decide) (by decide) (us := vs.take 1) (range_take (t := 1) (by omega)) (by decide) rfl (by decide) (W := 0) (Nat.le_of_eq rfl) (by decide) (fun T107 h107 K107 Q107 A107 => ?_)
  have P108 := P106.trans Q107 (fun z q => by cases List.mem_singleton.mp q; exact Or.inr ge_x103)
  have B107 : Arv Z h107 x103 kA103 .byte (1 : Int32) (vs.take 1) (.int 0) := by rw [show vs.take 1 = [] ++ vs.take 1 ++ [] from (List.append_nil _).symm]; exact A107
  refine gAload K107 b22_30 (v := (.ref x103)) rfl rfl ?_
  refine gRetA K107 hlk hret rfl rfl b22_32 P108 (by decide) (by decide) ?_
  exact ⟨_, _, rfl, ge_x103, B107⟩
set_option maxRecDepth 65536 in
set_option maxHeartbeats 40000000 in
theorem c_cor2_1 (l : Launch) (Z : State) (a0 : Array Value) (hw : ∀ d ∈ tables_1, d.before a0 Z = true) (h0 : Heap) (n0 : Nat) (Z0 : n0 ≤ h0.size) (bb : Addr) (kA : ClassId) (vs : List Value) (Ab : Arv Z h0 bb kA .byte (2 : Int32) vs (.int 0)) (hv : vs.length = 2) :
    Con none l (⟨"java/util/Arrays", "copyOfRange", "([BII)[B"⟩ : MethodName) jdk_65_method_132_code 3 (some (.array .byte)) [] ({ frames := 2, cells := 1, slots := 1, locals := 56 } : Room) Z n0 h0 [] #[(.ref bb), (.int (0 : Int32)), (.int (1 : Int32))] (fun v h => ∃ (b : Addr) (kA : ClassId), v = some (.ref b) ∧ h0.size ≤ b ∧ Arv Z h b kA .byte (1 : Int32) (vs.take 1) (.int 0)) := by
  refine Con.intro pn6 Z0 (fun _ q => nomatch q) trivial #[.val (.ref bb), .val (.int (0 : Int32)), .val (.int (1 : Int32))] (fun m => by first | (simp [entryFrame, mkF, argsToLocals, Value.category]; done) | rfl) ?_
  intro p e s m below meth c T0 hlk hret hnm K0
  have P0 := Keep.refl h0 []
  refine gIloadN K0 b21_0 (v := (0 : Int32)) rfl ?_
  refine gIf_ne K0 b21_1 (fun q => absurd q (by first | decide | (intro hh; cases hh) | simp)) (fun q1 => ?_)
  refine gIloadN K0 b21_4 (v := (1 : Int32)) rfl ?_
  refine gAloadN K0 b21_5 (v := (.ref bb)) rfl rfl ?_
  refine gLen K0 b21_6 Ab ?_
  refine gIcmp_eq K0 b21_7 (fun q => absurd q (by first | decide | (intro hh; cases hh) | simp)) (fun q7 => ?_)
  refine gAloadN K0 b21_10 (v := (.ref bb)) rfl rfl ?_
  refine gIloadN K0 b21_11 (v := (0 : Int32)) rfl ?_
  refine gIloadN K0 b21_12 (v := (1 : Int32)) rfl ?_
  refine gCallS K0 (W := 0) [(.ref bb), (.int (0 : Int32)), (.int (1 : Int32))] [] b21_13 (wd hw 102 rfl) (wd hw 103 rfl) (wd hw 100 rfl) (wd hw 104 rfl) (Cal.ofN (W := 0) (c_corB2_1 l Z a0 hw h0 n0 K0.n0le bb kA vs Ab hv) (wd hw 104 rfl) (wd hw 100 rfl) (by decide) (by decide)) (fun _ q => nomatch q) pd22 rfl rfl (Nat.le_of_eq rfl) rfl (by decide) (by decide) (by decide) (fun v101 T101 h101 K101 Q101 q101 => ?_)
  have E101 := Ext.of0 Q101
  have P102 := P0.ext E101
  obtain ⟨b2, k2, rfl, g2, A2⟩ := q101
  refine gRetA K101 hlk hret rfl rfl b21_16 P102 (by decide) (by decide) ?_
  exact ⟨_, _, rfl, g2, A2⟩
set_option maxRecDepth 65536 in
set_option maxHeartbeats 40000000 in
theorem c_corB4_2 (l : Launch) (Z : State) (a0 : Array Value) (hw : ∀ d ∈ tables_1, d.before a0 Z = true) (h0 : Heap) (n0 : Nat) (Z0 : n0 ≤ h0.size) (bb : Addr) (kA : ClassId) (vs : List Value) (Ab : Arv Z h0 bb kA .byte (4 : Int32) vs (.int 0)) (hv : vs.length = 4) :
    Con none l (⟨"java/util/Arrays", "copyOfRangeByte", "([BII)[B"⟩ : MethodName) jdk_65_method_133_code 5 (some (.array .byte)) [] ({ frames := 1, cells := 1, slots := 2, locals := 40 } : Room) Z n0 h0 [] #[(.ref bb), (.int (0 : Int32)), (.int (2 : Int32))] (fun v h => ∃ (b : Addr) (kA : ClassId), v = some (.ref b) ∧ h0.size ≤ b ∧ Arv Z h b kA .byte (2 : Int32) (vs.take 2) (.int 0)) := by
  refine Con.intro pn6 Z0 (fun _ q => nomatch q) trivial #[.val (.ref bb), .val (.int (0 : Int32)), .val (.int (2 : Int32)), .unset, .unset] (fun m => by first | (simp [entryFrame, mkF, argsToLocals, Value.category]; done) | rfl) ?_
  intro p e s m below meth c T0 hlk hret hnm K0
  have P0 := Keep.refl h0 []
  refine gIloadN K0 b22_0 (v := (0 : Int32)) rfl ?_
  refine gIloadN K0 b22_1 (v := (2 : Int32)) rfl ?_
  refine gCallS K0 (W := 0) [(.int (0 : Int32)), (.int (2 : Int32))] [] b22_2 (wd hw 105 rfl) (wd hw 106 rfl) (wd hw 100 rfl) (wd hw 107 rfl) (Cal.ofN (W := 0) (c_ckl l Z a0 hw h0 n0 K0.n0le 2 (by decide)) (wd hw 107 rfl) (wd hw 100 rfl) (by decide) (by decide)) (fun _ q => nomatch q) pd10 rfl rfl (Nat.le_of_eq rfl) rfl (by decide) (by decide) (by decide) (fun v101 T101 h101 K101 Q101 q101 => ?_)
  have E101 := Ext.of0 Q101
  have P102 := P0.ext E101
  cases q101
  refine gIloadN K101 b22_5 (v := (2 : Int32)) rfl ?_
  refine gIloadN K101 b22_6 (v := (0 : Int32)) rfl ?_
  refine gIsubV K101 (2 : Int32) b22_7 (by decide) ?_
  refine gIstoreN K101 b22_8 (Ls' := #[.val (.ref bb), .val (.int (0 : Int32)), .val (.int (2 : Int32)), .val (.int (2 : Int32)), .unset]) rfl ?_
  refine gIloadN K101 b22_9 (v := (2 : Int32)) rfl ?_
  refine gNewarr K101 b22_10 (wd hw 20 rfl) (by decide) 2 (by decide) (by decide) (by decide) (by decide) (fun T103 h103 x103 kA103 K103 E103 g103 A103 ne103 => ?_)
  have P104 := P102.ext E103
  have ge_x103 : h0.size ≤ x103 := by rw [g103]; exact P102.1
  refine gAstore K103 b22_12 rfl (Ls' := #[.val (.ref bb), .val (.int (0 : Int32)), .val (.int (2 : Int32)), .val (.int (2 : Int32)), .val (.ref x103)]) rfl ?_
  refine gAloadN K103 b22_14 (v := (.ref bb)) rfl rfl ?_
  refine gIloadN K103 b22_15 (v := (0 : Int32)) rfl ?_
  refine gAload K103 b22_16 (v := (.ref x103)) rfl rfl ?_
  refine gIconst K103 (0 : Int32) b22_18 rfl ?_
  refine gAloadN K103 b22_19 (v := (.ref bb)) rfl rfl ?_
  refine gLen K103 b22_20 (Ab.ext (Ext.tr E101 E103)) ?_
  refine gIloadN K103 b22_21 (v := (0 : Int32)) rfl ?_
  refine gIsubV K103 (4 : Int32) b22_22 (by decide) ?_
  refine gIloadN K103 b22_23 (v := (2 : Int32)) rfl ?_
  refine gCallS K103 (W := 4) [(.int (4 : Int32)), (.int (2 : Int32))] [(.int (0 : Int32)), (.ref x103), (.int (0 : Int32)), (.ref bb)] b22_24 (wd hw 108 rfl) (wd hw 109 rfl) (wd hw 110 rfl) (wd hw 111 rfl) (Cal.ofN (W := 4) (c_min l Z a0 hw h103 n0 K103.n0le 4 2 (by decide) (by decide)) (wd hw 111 rfl) (wd hw 110 rfl) (by decide) (by decide)) (fun _ q => nomatch q) pd21 rfl rfl (Nat.le_of_eq rfl) rfl (by decide) (by decide) (by decide) (fun v105 T105 h105 K105 Q105 q105 => ?_)
  have E105 := Ext.of0 Q105
  have P106 := P104.ext E105
  have q105' : v105 = some (.int (2 : Int32)) := q105
  cases q105'
  refine gCopy K105 b22_27 (wd hw 112 rfl) (wd hw 115 rfl) (wd hw 113 rfl) (wd hw 114 rfl) (me 0 rfl) (Ab.ext (Ext.tr (Ext.tr E101 E103) E105)) (Arv.pad (A103.ext E105) (pad_rep [] (.int 0) 2)) (by decide) (by decide) (by decide) (by decide) (by decide) (us := vs.take 2) (range_take (t := 2) (by omega)) (by decide) rfl (by decide) (W := 0) (Nat.le_of_eq rfl) (by decide) (fun T107 h107 K107 Q107 A107 => ?_)
  have P108 := P106.trans Q107 (fun z q => by cases List.mem_singleton.mp q; exact Or.inr ge_x103)
  have B107 : Arv Z h107 x103 kA103 .byte (2 : Int32) (vs.take 2) (.int 0) := by rw [show vs.take 2 = [] ++ vs.take 2 ++ [] from (List.append_nil _).symm]; exact A107
  refine gAload K107 b22_30 (v := (.ref x103)) rfl rfl ?_
  refine gRetA K107 hlk hret rfl rfl b22_32 P108 (by decide) (by decide) ?_
  exact ⟨_, _, rfl, ge_x103, B107⟩
set_option maxRecDepth 65536 in
set_option maxHeartbeats 40000000 in
theorem c_cor4_2 (l : Launch) (Z : State) (a0 : Array Value) (hw : ∀ d ∈ tables_1, d.before a0 Z = true) (h0 : Heap) (n0 : Nat) (Z0 : n0 ≤ h0.size) (bb : Addr) (kA : ClassId) (vs : List Value) (Ab : Arv Z h0 bb kA .byte (4 : Int32) vs (.int 0)) (hv : vs.length = 4) :
    Con none l (⟨"java/util/Arrays", "copyOfRange", "([BII)[B"⟩ : MethodName) jdk_65_method_132_code 3 (some (.array .byte)) [] ({ frames := 2, cells := 1, slots := 2, locals := 56 } : Room) Z n0 h0 [] #[(.ref bb), (.int (0 : Int32)), (.int (2 : Int32))] (fun v h => ∃ (b : Addr) (kA : ClassId), v = some (.ref b) ∧ h0.size ≤ b ∧ Arv Z h b kA .byte (2 : Int32) (vs.take 2) (.int 0)) := by
  refine Con.intro pn6 Z0 (fun _ q => nomatch q) trivial #[.val (.ref bb), .val (.int (0 : Int32)), .val (.int (2 : Int32))] (fun m => by first | (simp [entryFrame, mkF, argsToLocals, Value.category]; done) | rfl) ?_
  intro p e s m below meth c T0 hlk hret hnm K0
  have P0 := Keep.refl h0 []
  refine gIloadN K0 b21_0 (v := (0 : Int32)) rfl ?_
  refine gIf_ne K0 b21_1 (fun q => absurd q (by first | decide | (intro hh; cases hh) | simp)) (fun q1 => ?_)
  refine gIloadN K0 b21_4 (v := (2 : Int32)) rfl ?_
  refine gAloadN K0 b21_5 (v := (.ref bb)) rfl rfl ?_
  refine gLen K0 b21_6 Ab ?_
  refine gIcmp_eq K0 b21_7 (fun q => absurd q (by first | decide | (intro hh; cases hh) | simp)) (fun q7 => ?_)
  refine gAloadN K0 b21_10 (v := (.ref bb)) rfl rfl ?_
  refine gIloadN K0 b21_11 (v := (0 : Int32)) rfl ?_
  refine gIloadN K0 b21_12 (v := (2 : Int32)) rfl ?_
  refine gCallS K0 (W := 0) [(.ref bb), (.int (0 : Int32)), (.int (2 : Int32))] [] b21_13 (wd hw 102 rfl) (wd hw 103 rfl) (wd hw 100 rfl) (wd hw 104 rfl) (Cal.ofN (W := 0) (c_corB4_2 l Z a0 hw h0 n0 K0.n0le bb kA vs Ab hv) (wd hw 104 rfl) (wd hw 100 rfl) (by decide) (by decide)) (fun _ q => nomatch q) pd22 rfl rfl (Nat.le_of_eq rfl) rfl (by decide) (by decide) (by decide) (fun v101 T101 h101 K101 Q101 q101 => ?_)
  have E101 := Ext.of0 Q101
  have P102 := P0.ext E101
  obtain ⟨b2, k2, rfl, g2, A2⟩ := q101
  refine gRetA K101 hlk hret rfl rfl b21_16 P102 (by decide) (by decide) ?_
  exact ⟨_, _, rfl, g2, A2⟩
set_option maxRecDepth 65536 in
set_option maxHeartbeats 40000000 in
theorem c_cb5_2_1 (l : Launch) (Z : State) (a0 : Array Value) (hw : ∀ d ∈ tables_1, d.before a0 Z = true) (h0 : Heap) (n0 : Nat) (Z0 : n0 ≤ h0.size) (c0 c1 : Int32) (bb : Addr) (kA : ClassId) (Ab : Arv Z h0 bb kA .byte (Int32.ofNat (2 * 2)) (StrChars.Road.wideBytes [c0, c1]) (.int 0)) (hp : ∀ c ∈ [c0, c1], ¬ c < 0 ∧ ¬ (65535 : Int32) < c) (u : US Z h0) (fm : Value) (Sf : Sta Z h0 "jdk/internal/util/Preconditions" "SIOOBE_FORMATTER" "Ljava/util/function/BiFunction;" fm) (rf : fm.isRef = true) (dd : Addr) (kD : ClassId) (gd : n0 ≤ dd) (Ad : Arv Z h0 dd kD .byte (1 : Int32) [] (.int 0)) (hbd : bb ≠ dd) (hu : ∃ c ∈ [c0], (255 : Int32) < c) :
    Con none l (⟨"java/lang/StringUTF16", "compress", "([BI[BII)I"⟩ : MethodName) jdk_52_method_22_code 7 (some .int) [] ({ frames := 3, cells := 0, slots := 0, locals := 46 } : Room) Z n0 h0 [dd] #[(.ref bb), (.int (0 : Int32)), (.ref dd), (.int (0 : Int32)), (.int (1 : Int32))] (fun v h => ∃ j : Nat, v = some (.int (Int32.ofNat j)) ∧ j < 1 ∧ (255 : Int32) < [c0].getD j 0) := by
  refine Con.intro pn1 Z0 (allS ⟨gd, Ad.lt⟩ all0) trivial #[.val (.ref bb), .val (.int (0 : Int32)), .val (.ref dd), .val (.int (0 : Int32)), .val (.int (1 : Int32)), .unset, .unset] (fun m => by first | (simp [entryFrame, mkF, argsToLocals, Value.category]; done) | rfl) ?_
  intro p e s m below meth c T0 hlk hret hnm K0
  have P0 := Keep.refl h0 [dd]
  refine gIloadN K0 b36_0 (v := (0 : Int32)) rfl ?_
  refine gIload K0 b36_1 (v := (1 : Int32)) rfl ?_
  refine gAloadN K0 b36_3 (v := (.ref bb)) rfl rfl ?_
  refine gCallS K0 (W := 0) [(.int (0 : Int32)), (.int (1 : Int32)), (.ref bb)] [] b36_4 (wd hw 159 rfl) (wd hw 160 rfl) (wd hw 62 rfl) (wd hw 161 rfl) (Cal.ofN (W := 0) (c_ubo l Z a0 hw h0 n0 K0.n0le 2 1 (by decide) (by decide) bb kA _ _ Ab fm Sf rf) (wd hw 161 rfl) (wd hw 62 rfl) (by decide) (by decide)) (fun _ q => nomatch q) pd23 rfl rfl (Nat.le_of_eq rfl) rfl (by decide) (by decide) (by decide) (fun v101 T101 h101 K101 Q101 q101 => ?_)
  have E101 := Ext.of0 Q101
  have P102 := P0.ext E101
  cases q101
  refine gIconst K101 (0 : Int32) b36_7 rfl ?_
  refine gIstore K101 b36_8 (Ls' := #[.val (.ref bb), .val (.int (0 : Int32)), .val (.ref dd), .val (.int (0 : Int32)), .val (.int (1 : Int32)), .val (.int (0 : Int32)), .unset]) rfl ?_
  refine gIload K101 b36_10 (v := (0 : Int32)) rfl ?_
  refine gIload K101 b36_12 (v := (1 : Int32)) rfl ?_
  refine gIcmp_ge K101 b36_14 (fun q => absurd q (by first | decide | (intro hh; cases hh) | simp)) (fun q14 => ?_)
  refine gAloadN K101 b36_17 (v := (.ref bb)) rfl rfl ?_
  refine gIloadN K101 b36_18 (v := (0 : Int32)) rfl ?_
  refine gCallS K101 (W := 0) [(.ref bb), (.int (0 : Int32))] [] b36_19 (wd hw 136 rfl) (wd hw 137 rfl) (wd hw 62 rfl) (wd hw 138 rfl) (Cal.ofN (W := 0) (c_getChar l Z a0 hw h101 n0 K101.n0le bb kA [c0, c1] 0 (Ab.ext E101) hp (Nat.le_of_ble_eq_true rfl) (Nat.le_of_ble_eq_true rfl) (u.ext E101)) (wd hw 138 rfl) (wd hw 62 rfl) (by decide) (by decide)) (fun _ q => nomatch q) pd6 rfl rfl (Nat.le_of_eq rfl) rfl (by decide) (by decide) (by decide) (fun v103 T103 h103 K103 Q103 q103 => ?_)
  have E103 := Ext.of0 Q103
  have P104 := P102.ext E103
  have q103' : v103 = some (.int c0) := q103
  cases q103'
  refine gIstore K103 b36_22 (Ls' := #[.val (.ref bb), .val (.int (0 : Int32)), .val (.ref dd), .val (.int (0 : Int32)), .val (.int (1 : Int32)), .val (.int (0 : Int32)), .val (.int c0)]) rfl ?_
  refine gIload K103 b36_24 (v := c0) rfl ?_
  refine gSipush K103 (255 : Int32) b36_26 rfl ?_
  refine gIcmp_le K103 b36_29 (fun hl_c0 => ?_) (fun hl_c0 => ?_)
  · skip
    refine gAloadN K103 b36_35 (v := (.ref dd)) rfl rfl ?_
    refine gIloadN K103 b36_36 (v := (0 : Int32)) rfl ?_
    refine gIload K103 b36_37 (v := c0) rfl ?_
    refine gI2b K103 b36_39 ?_
    refine gBastore K103 b36_40 (me 0 rfl) (Ad.ext (Ext.tr E101 E103)) rfl (by decide) (fun T105 h105 K105 Q105 A105 => ?_)
    have u105 := US.kp (u.ext (Ext.tr E101 E103)) Q105 (nsS (Arv.nostat (Ad.ext (Ext.tr E101 E103))) ns0)
    have P106 := P104.trans Q105 (fun z q => by cases List.mem_singleton.mp q; exact Or.inl (me 0 rfl))
    refine gIinc K105 (1 : Int32) b36_41 rfl (x := (0 : Int32)) rfl (Ls' := #[.val (.ref bb), .val (.int (1 : Int32)), .val (.ref dd), .val (.int (0 : Int32)), .val (.int (1 : Int32)), .val (.int (0 : Int32)), .val (.int c0)]) rfl ?_
    refine gIinc K105 (1 : Int32) b36_44 rfl (x := (0 : Int32)) rfl (Ls' := #[.val (.ref bb), .val (.int (1 : Int32)), .val (.ref dd), .val (.int (1 : Int32)), .val (.int (1 : Int32)), .val (.int (0 : Int32)), .val (.int c0)]) rfl ?_
    refine gIinc K105 (1 : Int32) b36_47 rfl (x := (0 : Int32)) rfl (Ls' := #[.val (.ref bb), .val (.int (1 : Int32)), .val (.ref dd), .val (.int (1 : Int32)), .val (.int (1 : Int32)), .val (.int (1 : Int32)), .val (.int c0)]) rfl ?_
    refine gGoto K105 b36_50 ?_
    refine gIload K105 b36_10 (v := (1 : Int32)) rfl ?_
    refine gIload K105 b36_12 (v := (1 : Int32)) rfl ?_
    refine gIcmp_ge K105 b36_14 (fun q14 => ?_) (fun q => absurd q (by first | decide | (intro hh; cases hh) | simp))
    refine gIload K105 b36_53 (v := (1 : Int32)) rfl ?_
    exact absurd hu (noHi (allI hl_c0 allI0))
  · skip
    refine gIload K103 b36_32 (v := (0 : Int32)) rfl ?_
    refine gRetI K103 hlk hret (by simp) b36_34 rfl P104 (by decide) (by decide) ?_
    exact ⟨0, rfl, by decide, hl_c0⟩
set_option maxRecDepth 65536 in
set_option maxHeartbeats 40000000 in
theorem c_cb3_2_1 (l : Launch) (Z : State) (a0 : Array Value) (hw : ∀ d ∈ tables_1, d.before a0 Z = true) (h0 : Heap) (n0 : Nat) (Z0 : n0 ≤ h0.size) (c0 c1 : Int32) (bb : Addr) (kA : ClassId) (Ab : Arv Z h0 bb kA .byte (Int32.ofNat (2 * 2)) (StrChars.Road.wideBytes [c0, c1]) (.int 0)) (hp : ∀ c ∈ [c0, c1], ¬ c < 0 ∧ ¬ (65535 : Int32) < c) (u : US Z h0) (fm : Value) (Sf : Sta Z h0 "jdk/internal/util/Preconditions" "SIOOBE_FORMATTER" "Ljava/util/function/BiFunction;" fm) (rf : fm.isRef = true) (hu : ∃ c ∈ [c0], (255 : Int32) < c) :
    Con none l (⟨"java/lang/StringUTF16", "compress", "([BII)[B"⟩ : MethodName) jdk_52_method_17_code 6 (some (.array .byte)) [] ({ frames := 4, cells := 2, slots := 3, locals := 74 } : Room) Z n0 h0 [] #[(.ref bb), (.int (0 : Int32)), (.int (1 : Int32))] (fun v h => ∃ (b : Addr) (kA : ClassId), v = some (.ref b) ∧ h0.size ≤ b ∧ Arv Z h b kA .byte (Int32.ofNat (2 * 1)) (StrChars.Road.wideBytes [c0]) (.int 0)) := by
  refine Con.intro pn1 Z0 (fun _ q => nomatch q) trivial #[.val (.ref bb), .val (.int (0 : Int32)), .val (.int (1 : Int32)), .unset, .unset, .unset] (fun m => by first | (simp [entryFrame, mkF, argsToLocals, Value.category]; done) | rfl) ?_
  intro p e s m below meth c T0 hlk hret hnm K0
  have P0 := Keep.refl h0 []
  refine gIloadN K0 b35_0 (v := (1 : Int32)) rfl ?_
  refine gNewarr K0 b35_1 (wd hw 20 rfl) (by decide) 1 (by decide) (by decide) (by decide) (by decide) (fun T101 h101 x101 kA101 K101 E101 g101 A101 ne101 => ?_)
  have P102 := P0.ext E101
  have ge_x101 : h0.size ≤ x101 := by rw [g101]; exact P0.1
  refine gAstoreN K101 b35_3 rfl (Ls' := #[.val (.ref bb), .val (.int (0 : Int32)), .val (.int (1 : Int32)), .val (.ref x101), .unset, .unset]) rfl ?_
  refine gAloadN K101 b35_4 (v := (.ref bb)) rfl rfl ?_
  refine gIloadN K101 b35_5 (v := (0 : Int32)) rfl ?_
  refine gAloadN K101 b35_6 (v := (.ref x101)) rfl rfl ?_
  refine gIconst K101 (0 : Int32) b35_7 rfl ?_
  refine gIloadN K101 b35_8 (v := (1 : Int32)) rfl ?_
  refine gCallS K101 (W := 0) [(.ref bb), (.int (0 : Int32)), (.ref x101), (.int (0 : Int32)), (.int (1 : Int32))] [] b35_9 (wd hw 156 rfl) (wd hw 157 rfl) (wd hw 62 rfl) (wd hw 158 rfl) (Cal.ofN (W := 0) (c_cb5_2_1 l Z a0 hw h101 n0 K101.n0le c0 c1 bb kA (Ab.ext E101) hp (u.ext E101) fm (Sf.ext E101) rf x101 _ (K101.wsge (me 0 rfl)) A101 (Nat.ne_of_lt (Nat.lt_of_lt_of_le Ab.lt ge_x101)) hu) (wd hw 158 rfl) (wd hw 62 rfl) (by decide) (by decide)) (fun z q => by cases List.mem_singleton.mp q; exact (me 0 rfl)) pd24 rfl rfl (Nat.le_of_eq rfl) rfl (by decide) (by decide) (by decide) (fun v103 T103 h103 K103 Q103 q103 => ?_)
  have P104 := P102.trans Q103 (fun z q => by cases List.mem_singleton.mp q; exact Or.inr ge_x101)
  obtain ⟨j, rfl, hj, hcj⟩ := q103
  refine gIstore K103 b35_12 (Ls' := #[.val (.ref bb), .val (.int (0 : Int32)), .val (.int (1 : Int32)), .val (.ref x101), .val (.int (Int32.ofNat j)), .unset]) rfl ?_
  refine gIload K103 b35_14 (v := (Int32.ofNat j)) rfl ?_
  refine gIloadN K103 b35_16 (v := (1 : Int32)) rfl ?_
  refine gIcmp_eq K103 b35_17 (fun q => absurd q (ofNat_ne hj (by decide))) (fun q17 => ?_)
  refine gAloadN K103 b35_20 (v := (.ref bb)) rfl rfl ?_
  refine gIloadN K103 b35_21 (v := (0 : Int32)) rfl ?_
  refine gIconst K103 (1 : Int32) b35_22 rfl ?_
  refine gIshlV K103 (0 : Int32) b35_23 (by decide) ?_
  refine gIloadN K103 b35_24 (v := (0 : Int32)) rfl ?_
  refine gIloadN K103 b35_25 (v := (1 : Int32)) rfl ?_
  refine gIaddV K103 (1 : Int32) b35_26 (by decide) ?_
  refine gCallS K103 (W := 2) [(.int (1 : Int32))] [(.int (0 : Int32)), (.ref bb)] b35_27 (wd hw 126 rfl) (wd hw 127 rfl) (wd hw 62 rfl) (wd hw 128 rfl) (Cal.ofN (W := 2) (c_nbl1 l Z a0 hw h103 n0 K103.n0le) (wd hw 128 rfl) (wd hw 62 rfl) (by decide) (by decide)) (fun _ q => nomatch q) pd1 rfl rfl (Nat.le_of_eq rfl) rfl (by decide) (by decide) (by decide) (fun v105 T105 h105 K105 Q105 q105 => ?_)
  have E105 := Ext.of0 Q105
  have P106 := P104.ext E105
  cases q105
  refine gCallS K105 (W := 0) [(.ref bb), (.int (0 : Int32)), (.int (2 : Int32))] [] b35_30 (wd hw 168 rfl) (wd hw 99 rfl) (wd hw 100 rfl) (wd hw 101 rfl) (Cal.ofN (W := 0) (c_cor4_2 l Z a0 hw h105 n0 K105.n0le bb kA _ (Ab.ext (Ext.tr (Ext.kp1 E101 Q103 (Nat.le_of_eq g101.symm)) E105)) rfl) (wd hw 101 rfl) (wd hw 100 rfl) (by decide) (by decide)) (fun _ q => nomatch q) pd22 rfl rfl (Nat.le_of_eq rfl) rfl (by decide) (by decide) (by decide) (fun v107 T107 h107 K107 Q107 q107 => ?_)
  have E107 := Ext.of0 Q107
  have P108 := P106.ext E107
  obtain ⟨b2, k2, rfl, g2, A2⟩ := q107
  have A2' : Arv Z h107 b2 k2 .byte (Int32.ofNat (2 * [c0].length)) (StrChars.Road.wideBytes [c0]) (.int 0) := A2
  have gb0 : h0.size ≤ b2 := Nat.le_trans P106.1 g2
  refine gAstore K107 b35_33 rfl (Ls' := #[.val (.ref bb), .val (.int (0 : Int32)), .val (.int (1 : Int32)), .val (.ref x101), .val (.int (Int32.ofNat j)), .val (.ref b2)]) rfl ?_
  refine gAload K107 b35_35 (v := (.ref b2)) rfl rfl ?_
  refine gIload K107 b35_37 (v := (Int32.ofNat j)) rfl ?_
  refine gCallS K107 (W := 0) [(.ref b2), (.int (Int32.ofNat j))] [] b35_39 (wd hw 136 rfl) (wd hw 137 rfl) (wd hw 62 rfl) (wd hw 138 rfl) (Cal.ofN (W := 0) (c_getChar l Z a0 hw h107 n0 K107.n0le b2 k2 [c0] j A2' (fun c hc => hp c (List.mem_append_left [c1] hc)) hj (Nat.le_of_ble_eq_true rfl) (u.ext (Ext.tr (Ext.tr (Ext.kp1 E101 Q103 (Nat.le_of_eq g101.symm)) E105) E107))) (wd hw 138 rfl) (wd hw 62 rfl) (by decide) (by decide)) (fun _ q => nomatch q) pd6 rfl rfl (Nat.le_of_eq rfl) rfl (by decide) (by decide) (by decide) (fun v109 T109 h109 K109 Q109 q109 => ?_)
  have E109 := Ext.of0 Q109
  have P110 := P108.ext E109
  cases q109
  refine gSipush K109 (255 : Int32) b35_42 rfl ?_
  refine gIcmp_gt K109 b35_45 (fun q45 => ?_) (fun q => absurd q (not_not_intro hcj))
  refine gAload K109 b35_61 (v := (.ref b2)) rfl rfl ?_
  refine gRetA K109 hlk hret rfl rfl b35_63 P110 (by decide) (by decide) ?_
  exact ⟨b2, k2, rfl, gb0, (A2'.ext E109)⟩
set_option maxRecDepth 65536 in
set_option maxHeartbeats 40000000 in
theorem c_nsU2_1 (l : Launch) (Z : State) (a0 : Array Value) (hw : ∀ d ∈ tables_1, d.before a0 Z = true) (h0 : Heap) (n0 : Nat) (Z0 : n0 ≤ h0.size) (c0 c1 : Int32) (bb : Addr) (kA : ClassId) (Ab : Arv Z h0 bb kA .byte (Int32.ofNat (2 * 2)) (StrChars.Road.wideBytes [c0, c1]) (.int 0)) (hp : ∀ c ∈ [c0, c1], ¬ c < 0 ∧ ¬ (65535 : Int32) < c) (u : US Z h0) (fm : Value) (Sf : Sta Z h0 "jdk/internal/util/Preconditions" "SIOOBE_FORMATTER" "Ljava/util/function/BiFunction;" fm) (rf : fm.isRef = true) (hu : ∃ c ∈ [c0], (255 : Int32) < c) (z : Int32) (Sc : Sta Z h0 "java/lang/String" "COMPACT_STRINGS" "Z" (.int z)) (hz : ¬ z = 0) :
    Con none l (⟨"java/lang/StringUTF16", "newString", "([BII)Ljava/lang/String;"⟩ : MethodName) jdk_52_method_69_code 5 (some (.object "java/lang/String")) [] ({ frames := 5, cells := 3, slots := 7, locals := 94 } : Room) Z n0 h0 [] #[(.ref bb), (.int (0 : Int32)), (.int (1 : Int32))] (fun v h => ∃ x : Addr, v = some (.ref x) ∧ StrU Z h x [c0]) := by
  refine Con.intro pn1 Z0 (fun _ q => nomatch q) trivial #[.val (.ref bb), .val (.int (0 : Int32)), .val (.int (1 : Int32)), .unset, .unset] (fun m => by first | (simp [entryFrame, mkF, argsToLocals, Value.category]; done) | rfl) ?_
  intro p e s m below meth c T0 hlk hret hnm K0
  have P0 := Keep.refl h0 []
  refine gIloadN K0 b34_0 (v := (1 : Int32)) rfl ?_
  refine gIf_ne K0 b34_1 (fun q1 => ?_) (fun q => absurd q (by first | decide | (intro hh; cases hh) | simp))
  refine gGetS K0 b34_8 (wd hw 152 rfl) Sc (fun T101 K101 => ?_)
  refine gIf_eq K101 b34_11 (fun q => absurd q hz) (fun q11 => ?_)
  refine gAloadN K101 b34_14 (v := (.ref bb)) rfl rfl ?_
  refine gIloadN K101 b34_15 (v := (0 : Int32)) rfl ?_
  refine gIloadN K101 b34_16 (v := (1 : Int32)) rfl ?_
  refine gCallS K101 (W := 0) [(.ref bb), (.int (0 : Int32)), (.int (1 : Int32))] [] b34_17 (wd hw 153 rfl) (wd hw 154 rfl) (wd hw 62 rfl) (wd hw 155 rfl) (Cal.ofN (W := 0) (c_cb3_2_1 l Z a0 hw h0 n0 K101.n0le c0 c1 bb kA Ab hp u fm Sf rf hu) (wd hw 155 rfl) (wd hw 62 rfl) (by decide) (by decide)) (fun _ q => nomatch q) pd22 rfl rfl (Nat.le_of_eq rfl) rfl (by decide) (by decide) (by decide) (fun v102 T102 h102 K102 Q102 q102 => ?_)
  have E102 := Ext.of0 Q102
  have P103 := P0.ext E102
  obtain ⟨b2, k2, rfl, g2, A2⟩ := q102
  refine gAstoreN K102 b34_20 rfl (Ls' := #[.val (.ref bb), .val (.int (0 : Int32)), .val (.int (1 : Int32)), .val (.ref b2), .unset]) rfl ?_
  refine gAloadN K102 b34_21 (v := (.ref b2)) rfl rfl ?_
  refine gIloadN K102 b34_22 (v := (1 : Int32)) rfl ?_
  refine gCallS K102 (W := 0) [(.ref b2), (.int (1 : Int32))] [] b34_23 (wd hw 169 rfl) (wd hw 68 rfl) (wd hw 62 rfl) (wd hw 69 rfl) (Cal.ofN (W := 0) (c_cfa1 l Z a0 hw h102 n0 K102.n0le b2 k2 _ _ A2) (wd hw 69 rfl) (wd hw 62 rfl) (by decide) (by decide)) (fun _ q => nomatch q) pd7 rfl rfl (Nat.le_of_eq rfl) rfl (by decide) (by decide) (by decide) (fun v104 T104 h104 K104 Q104 q104 => ?_)
  have E104 := Ext.of0 Q104
  have P105 := P103.ext E104
  cases q104
  refine gIstore K104 b34_26 (Ls' := #[.val (.ref bb), .val (.int (0 : Int32)), .val (.int (1 : Int32)), .val (.ref b2), .val (.int (1 : Int32))]) rfl ?_
  refine gNew K104 b34_28 (wd hw 170 rfl) (wd hw 6 rfl) (wd hw 7 rfl) (by decide) (by decide) (fun T106 h106 x106 K106 E106 g106 A106 D106 ne106 => ?_)
  have P107 := P105.ext E106
  have ge_x106 : h0.size ≤ x106 := by rw [g106]; exact P105.1
  have F108 : Fld Z h106 x106 "java/lang/String" "value" "[B" .null := (D106 (Or.inr (wd hw 21 rfl)) (ty := (.array .byte)) (by decide))
  have F109 : Fld Z h106 x106 "java/lang/String" "coder" "B" (.int (0 : Int32)) := (D106 (Or.inr (wd hw 22 rfl)) (ty := .byte) (by decide))
  refine gDup K106 b34_31 rfl ?_
  refine gAloadN K106 b34_32 (v := (.ref b2)) rfl rfl ?_
  refine gIload K106 b34_33 (v := (1 : Int32)) rfl ?_
  refine gCallI K106 (W := 1) x106 [(.ref b2), (.int (1 : Int32))] [(.ref x106)] b34_35 rfl (wd hw 171 rfl) (wd hw 117 rfl) (wd hw 118 rfl) (Cal.ofN (W := 1) (c_initBB l Z a0 hw h106 n0 K106.n0le x106 b2 (1 : Int32) _ _ (by decide) (K106.wsge (me 0 rfl)) A106 F108 F109) (wd hw 118 rfl) (wd hw 7 rfl) (by decide) (by decide)) (fun z q => by cases List.mem_singleton.mp q; exact (me 0 rfl)) pd25 rfl rfl (Nat.le_of_eq rfl) rfl (by decide) (by decide) (by decide) (fun v110 T110 h110 K110 Q110 q110 => ?_)
  have P111 := P107.trans Q110 (fun z q => by cases List.mem_singleton.mp q; exact Or.inr ge_x106)
  obtain ⟨rfl, Ex110, Fv110, Fc110⟩ := q110
  refine gRetA K110 hlk hret rfl rfl b34_38 P111 (by decide) (by decide) ?_
  exact ⟨_, rfl, b2, k2, Ex110, Fc110, Fv110, (A2.ext (Ext.kp1 (Ext.tr E104 E106) Q110 (Nat.le_trans E104.1 (Nat.le_of_eq g106.symm)))), (fun c hc => hp c (List.mem_append_left [c1] hc)), hu, Nat.le_of_ble_eq_true rfl⟩
set_option maxRecDepth 65536 in
set_option maxHeartbeats 40000000 in
theorem c_nsL2_1 (l : Launch) (Z : State) (a0 : Array Value) (hw : ∀ d ∈ tables_1, d.before a0 Z = true) (h0 : Heap) (n0 : Nat) (Z0 : n0 ≤ h0.size) (c0 c1 : Int32) (bb : Addr) (kA : ClassId) (Ab : Arv Z h0 bb kA .byte (2 : Int32) (([c0, c1].map StrChars.lo8).map Value.int) (.int 0)) (hp : ∀ c ∈ [c0], ¬ c < 0 ∧ ¬ (255 : Int32) < c) :
    Con none l (⟨"java/lang/StringLatin1", "newString", "([BII)Ljava/lang/String;"⟩ : MethodName) jdk_43_method_47_code 3 (some (.object "java/lang/String")) [] ({ frames := 3, cells := 2, slots := 5, locals := 75 } : Room) Z n0 h0 [] #[(.ref bb), (.int (0 : Int32)), (.int (1 : Int32))] (fun v h => ∃ x : Addr, v = some (.ref x) ∧ StrL Z h x [c0]) := by
  refine Con.intro pn5 Z0 (fun _ q => nomatch q) trivial #[.val (.ref bb), .val (.int (0 : Int32)), .val (.int (1 : Int32))] (fun m => by first | (simp [entryFrame, mkF, argsToLocals, Value.category]; done) | rfl) ?_
  intro p e s m below meth c T0 hlk hret hnm K0
  have P0 := Keep.refl h0 []
  refine gIloadN K0 b20_0 (v := (1 : Int32)) rfl ?_
  refine gIf_ne K0 b20_1 (fun q1 => ?_) (fun q => absurd q (by first | decide | (intro hh; cases hh) | simp))
  refine gNew K0 b20_7 (wd hw 97 rfl) (wd hw 6 rfl) (wd hw 7 rfl) (by decide) (by decide) (fun T101 h101 x101 K101 E101 g101 A101 D101 ne101 => ?_)
  have P102 := P0.ext E101
  have ge_x101 : h0.size ≤ x101 := by rw [g101]; exact P0.1
  have F103 : Fld Z h101 x101 "java/lang/String" "value" "[B" .null := (D101 (Or.inr (wd hw 21 rfl)) (ty := (.array .byte)) (by decide))
  have F104 : Fld Z h101 x101 "java/lang/String" "coder" "B" (.int (0 : Int32)) := (D101 (Or.inr (wd hw 22 rfl)) (ty := .byte) (by decide))
  refine gDup K101 b20_10 rfl ?_
  refine gAloadN K101 b20_11 (v := (.ref bb)) rfl rfl ?_
  refine gIloadN K101 b20_12 (v := (0 : Int32)) rfl ?_
  refine gIloadN K101 b20_13 (v := (0 : Int32)) rfl ?_
  refine gIloadN K101 b20_14 (v := (1 : Int32)) rfl ?_
  refine gIaddV K101 (1 : Int32) b20_15 (by decide) ?_
  refine gCallS K101 (W := 2) [(.ref bb), (.int (0 : Int32)), (.int (1 : Int32))] [(.ref x101), (.ref x101)] b20_16 (wd hw 98 rfl) (wd hw 99 rfl) (wd hw 100 rfl) (wd hw 101 rfl) (Cal.ofN (W := 2) (c_cor2_1 l Z a0 hw h101 n0 K101.n0le bb kA _ (Ab.ext E101) rfl) (wd hw 101 rfl) (wd hw 100 rfl) (by decide) (by decide)) (fun _ q => nomatch q) pd22 rfl rfl (Nat.le_of_eq rfl) rfl (by decide) (by decide) (by decide) (fun v105 T105 h105 K105 Q105 q105 => ?_)
  have E105 := Ext.of0 Q105
  have P106 := P102.ext E105
  obtain ⟨b2, k2, rfl, g2, A2⟩ := q105
  have A2' : Arv Z h105 b2 k2 .byte (Int32.ofNat [c0].length) (([c0].map StrChars.lo8).map Value.int) (.int 0) := A2
  refine gIconst K105 (0 : Int32) b20_19 rfl ?_
  refine gCallI K105 (W := 1) x101 [(.ref b2), (.int (0 : Int32))] [(.ref x101)] b20_20 rfl (wd hw 116 rfl) (wd hw 117 rfl) (wd hw 118 rfl) (Cal.ofN (W := 1) (c_initBB l Z a0 hw h105 n0 K105.n0le x101 b2 (0 : Int32) _ _ (by decide) (K105.wsge (me 0 rfl)) (A101.ext E105) (F103.ext E105) (F104.ext E105)) (wd hw 118 rfl) (wd hw 7 rfl) (by decide) (by decide)) (fun z q => by cases List.mem_singleton.mp q; exact (me 0 rfl)) pd25 rfl rfl (Nat.le_of_eq rfl) rfl (by decide) (by decide) (by decide) (fun v107 T107 h107 K107 Q107 q107 => ?_)
  have P108 := P106.trans Q107 (fun z q => by cases List.mem_singleton.mp q; exact Or.inr ge_x101)
  obtain ⟨rfl, Ex107, Fv107, Fc107⟩ := q107
  refine gRetA K107 hlk hret rfl rfl b20_23 P108 (by decide) (by decide) ?_
  exact ⟨_, rfl, b2, k2, Ex107, Fc107, Fv107, (A2'.keep Q107 (ninS (Nat.ne_of_gt (Nat.lt_of_lt_of_le A101.lt g2)) nin0)), hp, Nat.le_of_ble_eq_true rfl⟩
set_option maxRecDepth 65536 in
set_option maxHeartbeats 40000000 in
theorem c_subL2_1 (l : Launch) (Z : State) (a0 : Array Value) (hw : ∀ d ∈ tables_1, d.before a0 Z = true) (h0 : Heap) (n0 : Nat) (Z0 : n0 ≤ h0.size) (c0 c1 : Int32) (x : Addr) (A : StrL Z h0 x [c0, c1]) (z : Int32) (Sc : Sta Z h0 "java/lang/String" "COMPACT_STRINGS" "Z" (.int z)) (hz : ¬ z = 0) (fm : Value) (Sf : Sta Z h0 "jdk/internal/util/Preconditions" "SIOOBE_FORMATTER" "Ljava/util/function/BiFunction;" fm) (rf : fm.isRef = true) (u : US Z h0) :
    Con none l (⟨"java/lang/String", "substring", "(II)Ljava/lang/String;"⟩ : MethodName) jdk_42_method_92_code 5 (some (.object "java/lang/String")) [] ({ frames := 6, cells := 3, slots := 16, locals := 112 } : Room) Z n0 h0 [] #[(.ref x), (.int (0 : Int32)), (.int (1 : Int32))] (fun v h => ∃ x : Addr, v = some (.ref x) ∧ StrA Z h x [c0]) := by
  refine Con.intro pn0 Z0 (fun _ q => nomatch q) trivial #[.val (.ref x), .val (.int (0 : Int32)), .val (.int (1 : Int32)), .unset, .unset] (fun m => by first | (simp [entryFrame, mkF, argsToLocals, Value.category]; done) | rfl) ?_
  intro p e s m below meth c T0 hlk hret hnm K0
  have P0 := Keep.refl h0 []
  have A_ := A
  obtain ⟨bb, kA, Ex, Fc, Fv, Ab, hp, hN⟩ := A_
  refine gAloadN K0 b7_0 (v := (.ref x)) rfl rfl ?_
  refine gCallV K0 (W := 0) (C := "java/lang/String") x [] [] b7_1 (wd hw 47 rfl) (wd hw 32 rfl) (wd hw 34 rfl) (wd hw 33 rfl) (cal_lenA hw K0.n0le (W := 0) (cs := [c0, c1]) (Or.inl A) Sc hz (by decide) (by decide)) (StrA.exa ((Or.inl A) : StrA Z _ x [c0, c1])) (fun _ q => nomatch q) pd16 rfl rfl (Nat.le_of_eq rfl) rfl (by decide) (by decide) (by decide) (fun v101 T101 h101 K101 Q101 q101 => ?_)
  have E101 := Ext.of0 Q101
  have P102 := P0.ext E101
  have q101' : v101 = some (.int (2 : Int32)) := q101
  cases q101'
  refine gIstoreN K101 b7_4 (Ls' := #[.val (.ref x), .val (.int (0 : Int32)), .val (.int (1 : Int32)), .val (.int (2 : Int32)), .unset]) rfl ?_
  refine gIloadN K101 b7_5 (v := (0 : Int32)) rfl ?_
  refine gIloadN K101 b7_6 (v := (1 : Int32)) rfl ?_
  refine gIloadN K101 b7_7 (v := (2 : Int32)) rfl ?_
  refine gCallS K101 (W := 0) [(.int (0 : Int32)), (.int (1 : Int32)), (.int (2 : Int32))] [] b7_8 (wd hw 48 rfl) (wd hw 49 rfl) (wd hw 7 rfl) (wd hw 50 rfl) (Cal.ofN (W := 0) (c_cbe l Z a0 hw h101 n0 K101.n0le 2 1 (by decide) (by decide) fm (Sf.ext E101) rf) (wd hw 50 rfl) (wd hw 7 rfl) (by decide) (by decide)) (fun _ q => nomatch q) pd17 rfl rfl (Nat.le_of_eq rfl) rfl (by decide) (by decide) (by decide) (fun v103 T103 h103 K103 Q103 q103 => ?_)
  have E103 := Ext.of0 Q103
  have P104 := P102.ext E103
  cases q103
  refine gIloadN K103 b7_11 (v := (0 : Int32)) rfl ?_
  refine gIf_ne K103 b7_12 (fun q => absurd q (by first | decide | (intro hh; cases hh) | simp)) (fun q12 => ?_)
  refine gIloadN K103 b7_15 (v := (1 : Int32)) rfl ?_
  refine gIloadN K103 b7_16 (v := (2 : Int32)) rfl ?_
  refine gIcmp_ne K103 b7_17 (fun q17 => ?_) (fun q => absurd q (by first | decide | (intro hh; cases hh) | simp))
  refine gIloadN K103 b7_22 (v := (1 : Int32)) rfl ?_
  refine gIloadN K103 b7_23 (v := (0 : Int32)) rfl ?_
  refine gIsubV K103 (1 : Int32) b7_24 (by decide) ?_
  refine gIstore K103 b7_25 (Ls' := #[.val (.ref x), .val (.int (0 : Int32)), .val (.int (1 : Int32)), .val (.int (2 : Int32)), .val (.int (1 : Int32))]) rfl ?_
  refine gAloadN K103 b7_27 (v := (.ref x)) rfl rfl ?_
  refine gCallV K103 (W := 0) (C := "java/lang/String") x [] [] b7_28 (wd hw 75 rfl) (wd hw 76 rfl) (wd hw 78 rfl) (wd hw 77 rfl) (Cal.ofN (W := 0) (c_isL0 l Z a0 hw h103 n0 K103.n0le x (Fc.ext (Ext.tr E101 E103)) z (Sc.ext (Ext.tr E101 E103)) hz) (wd hw 79 rfl) (wd hw 7 rfl) (by decide) (by decide)) (Ex.ext (Ext.tr E101 E103)) (fun _ q => nomatch q) pd12 rfl rfl (Nat.le_of_eq rfl) rfl (by decide) (by decide) (by decide) (fun v105 T105 h105 K105 Q105 q105 => ?_)
  have E105 := Ext.of0 Q105
  have P106 := P104.ext E105
  cases q105
  refine gIf_eq K105 b7_31 (fun q => absurd q (by first | decide | (intro hh; cases hh) | simp)) (fun q31 => ?_)
  refine gAloadN K105 b7_34 (v := (.ref x)) rfl rfl ?_
  refine gGet K105 b7_35 (wd hw 25 rfl) (Fv.ext (Ext.tr (Ext.tr E101 E103) E105)) (fun T107 K107 => ?_)
  refine gIloadN K107 b7_38 (v := (0 : Int32)) rfl ?_
  refine gIload K107 b7_39 (v := (1 : Int32)) rfl ?_
  refine gCallS K107 (W := 0) [(.ref bb), (.int (0 : Int32)), (.int (1 : Int32))] [] b7_41 (wd hw 94 rfl) (wd hw 95 rfl) (wd hw 82 rfl) (wd hw 96 rfl) (Cal.ofN (W := 0) (c_nsL2_1 l Z a0 hw h105 n0 K107.n0le c0 c1 bb kA (Ab.ext (Ext.tr (Ext.tr E101 E103) E105)) (fun c hc => hp c (List.mem_append_left [c1] hc))) (wd hw 96 rfl) (wd hw 82 rfl) (by decide) (by decide)) (fun _ q => nomatch q) pd19 rfl rfl (Nat.le_of_eq rfl) rfl (by decide) (by decide) (by decide) (fun v108 T108 h108 K108 Q108 q108 => ?_)
  have E108 := Ext.of0 Q108
  have P109 := P106.ext E108
  obtain ⟨xr, rfl, Sr⟩ := q108
  refine gGoto K108 b7_44 ?_
  refine gRetA K108 hlk hret rfl rfl b7_57 P109 (by decide) (by decide) ?_
  exact ⟨_, rfl, Or.inl Sr⟩
set_option maxRecDepth 65536 in
set_option maxHeartbeats 40000000 in
theorem c_subU2_1 (l : Launch) (Z : State) (a0 : Array Value) (hw : ∀ d ∈ tables_1, d.before a0 Z = true) (h0 : Heap) (n0 : Nat) (Z0 : n0 ≤ h0.size) (c0 c1 : Int32) (x : Addr) (A : StrU Z h0 x [c0, c1]) (z : Int32) (Sc : Sta Z h0 "java/lang/String" "COMPACT_STRINGS" "Z" (.int z)) (hz : ¬ z = 0) (fm : Value) (Sf : Sta Z h0 "jdk/internal/util/Preconditions" "SIOOBE_FORMATTER" "Ljava/util/function/BiFunction;" fm) (rf : fm.isRef = true) (u : US Z h0) (hu : ∃ c ∈ [c0], (255 : Int32) < c) :
    Con none l (⟨"java/lang/String", "substring", "(II)Ljava/lang/String;"⟩ : MethodName) jdk_42_method_92_code 5 (some (.object "java/lang/String")) [] ({ frames := 6, cells := 3, slots := 16, locals := 112 } : Room) Z n0 h0 [] #[(.ref x), (.int (0 : Int32)), (.int (1 : Int32))] (fun v h => ∃ x : Addr, v = some (.ref x) ∧ StrA Z h x [c0]) := by
  refine Con.intro pn0 Z0 (fun _ q => nomatch q) trivial #[.val (.ref x), .val (.int (0 : Int32)), .val (.int (1 : Int32)), .unset, .unset] (fun m => by first | (simp [entryFrame, mkF, argsToLocals, Value.category]; done) | rfl) ?_
  intro p e s m below meth c T0 hlk hret hnm K0
  have P0 := Keep.refl h0 []
  have A_ := A
  obtain ⟨bb, kA, Ex, Fc, Fv, Ab, hp, hu0, hN⟩ := A_
  refine gAloadN K0 b7_0 (v := (.ref x)) rfl rfl ?_
  refine gCallV K0 (W := 0) (C := "java/lang/String") x [] [] b7_1 (wd hw 47 rfl) (wd hw 32 rfl) (wd hw 34 rfl) (wd hw 33 rfl) (cal_lenA hw K0.n0le (W := 0) (cs := [c0, c1]) (Or.inr A) Sc hz (by decide) (by decide)) (StrA.exa ((Or.inr A) : StrA Z _ x [c0, c1])) (fun _ q => nomatch q) pd16 rfl rfl (Nat.le_of_eq rfl) rfl (by decide) (by decide) (by decide) (fun v101 T101 h101 K101 Q101 q101 => ?_)
  have E101 := Ext.of0 Q101
  have P102 := P0.ext E101
  have q101' : v101 = some (.int (2 : Int32)) := q101
  cases q101'
  refine gIstoreN K101 b7_4 (Ls' := #[.val (.ref x), .val (.int (0 : Int32)), .val (.int (1 : Int32)), .val (.int (2 : Int32)), .unset]) rfl ?_
  refine gIloadN K101 b7_5 (v := (0 : Int32)) rfl ?_
  refine gIloadN K101 b7_6 (v := (1 : Int32)) rfl ?_
  refine gIloadN K101 b7_7 (v := (2 : Int32)) rfl ?_
  refine gCallS K101 (W := 0) [(.int (0 : Int32)), (.int (1 : Int32)), (.int (2 : Int32))] [] b7_8 (wd hw 48 rfl) (wd hw 49 rfl) (wd hw 7 rfl) (wd hw 50 rfl) (Cal.ofN (W := 0) (c_cbe l Z a0 hw h101 n0 K101.n0le 2 1 (by decide) (by decide) fm (Sf.ext E101) rf) (wd hw 50 rfl) (wd hw 7 rfl) (by decide) (by decide)) (fun _ q => nomatch q) pd17 rfl rfl (Nat.le_of_eq rfl) rfl (by decide) (by decide) (by decide) (fun v103 T103 h103 K103 Q103 q103 => ?_)
  have E103 := Ext.of0 Q103
  have P104 := P102.ext E103
  cases q103
  refine gIloadN K103 b7_11 (v := (0 : Int32)) rfl ?_
  refine gIf_ne K103 b7_12 (fun q => absurd q (by first | decide | (intro hh; cases hh) | simp)) (fun q12 => ?_)
  refine gIloadN K103 b7_15 (v := (1 : Int32)) rfl ?_
  refine gIloadN K103 b7_16 (v := (2 : Int32)) rfl ?_
  refine gIcmp_ne K103 b7_17 (fun q17 => ?_) (fun q => absurd q (by first | decide | (intro hh; cases hh) | simp))
  refine gIloadN K103 b7_22 (v := (1 : Int32)) rfl ?_
  refine gIloadN K103 b7_23 (v := (0 : Int32)) rfl ?_
  refine gIsubV K103 (1 : Int32) b7_24 (by decide) ?_
  refine gIstore K103 b7_25 (Ls' := #[.val (.ref x), .val (.int (0 : Int32)), .val (.int (1 : Int32)), .val (.int (2 : Int32)), .val (.int (1 : Int32))]) rfl ?_
  refine gAloadN K103 b7_27 (v := (.ref x)) rfl rfl ?_
  refine gCallV K103 (W := 0) (C := "java/lang/String") x [] [] b7_28 (wd hw 75 rfl) (wd hw 76 rfl) (wd hw 78 rfl) (wd hw 77 rfl) (Cal.ofN (W := 0) (c_isL1 l Z a0 hw h103 n0 K103.n0le x (Fc.ext (Ext.tr E101 E103)) z (Sc.ext (Ext.tr E101 E103)) hz) (wd hw 79 rfl) (wd hw 7 rfl) (by decide) (by decide)) (Ex.ext (Ext.tr E101 E103)) (fun _ q => nomatch q) pd12 rfl rfl (Nat.le_of_eq rfl) rfl (by decide) (by decide) (by decide) (fun v105 T105 h105 K105 Q105 q105 => ?_)
  have E105 := Ext.of0 Q105
  have P106 := P104.ext E105
  cases q105
  refine gIf_eq K105 b7_31 (fun q31 => ?_) (fun q => absurd q (by first | decide | (intro hh; cases hh) | simp))
  refine gAloadN K105 b7_47 (v := (.ref x)) rfl rfl ?_
  refine gGet K105 b7_48 (wd hw 25 rfl) (Fv.ext (Ext.tr (Ext.tr E101 E103) E105)) (fun T107 K107 => ?_)
  refine gIloadN K107 b7_51 (v := (0 : Int32)) rfl ?_
  refine gIload K107 b7_52 (v := (1 : Int32)) rfl ?_
  refine gCallS K107 (W := 0) [(.ref bb), (.int (0 : Int32)), (.int (1 : Int32))] [] b7_54 (wd hw 149 rfl) (wd hw 150 rfl) (wd hw 62 rfl) (wd hw 151 rfl) (Cal.ofN (W := 0) (c_nsU2_1 l Z a0 hw h105 n0 K107.n0le c0 c1 bb kA (Ab.ext (Ext.tr (Ext.tr E101 E103) E105)) hp (u.ext (Ext.tr (Ext.tr E101 E103) E105)) fm (Sf.ext (Ext.tr (Ext.tr E101 E103) E105)) rf hu z (Sc.ext (Ext.tr (Ext.tr E101 E103) E105)) hz) (wd hw 151 rfl) (wd hw 62 rfl) (by decide) (by decide)) (fun _ q => nomatch q) pd19 rfl rfl (Nat.le_of_eq rfl) rfl (by decide) (by decide) (by decide) (fun v108 T108 h108 K108 Q108 q108 => ?_)
  have E108 := Ext.of0 Q108
  have P109 := P106.ext E108
  obtain ⟨xr, rfl, Sr⟩ := q108
  refine gRetA K108 hlk hret rfl rfl b7_57 P109 (by decide) (by decide) ?_
  exact ⟨_, rfl, Or.inr Sr⟩
set_option maxRecDepth 65536 in
set_option maxHeartbeats 40000000 in
theorem c_subE2_2 (l : Launch) (Z : State) (a0 : Array Value) (hw : ∀ d ∈ tables_1, d.before a0 Z = true) (h0 : Heap) (n0 : Nat) (Z0 : n0 ≤ h0.size) (c0 c1 : Int32) (x : Addr) (A : StrA Z h0 x [c0, c1]) (z : Int32) (Sc : Sta Z h0 "java/lang/String" "COMPACT_STRINGS" "Z" (.int z)) (hz : ¬ z = 0) (fm : Value) (Sf : Sta Z h0 "jdk/internal/util/Preconditions" "SIOOBE_FORMATTER" "Ljava/util/function/BiFunction;" fm) (rf : fm.isRef = true) (u : US Z h0) :
    Con none l (⟨"java/lang/String", "substring", "(II)Ljava/lang/String;"⟩ : MethodName) jdk_42_method_92_code 5 (some (.object "java/lang/String")) [] ({ frames := 6, cells := 3, slots := 16, locals := 112 } : Room) Z n0 h0 [] #[(.ref x), (.int (0 : Int32)), (.int (2 : Int32))] (fun v h => ∃ x : Addr, v = some (.ref x) ∧ StrA Z h x [c0, c1]) := by
  refine Con.intro pn0 Z0 (fun _ q => nomatch q) trivial #[.val (.ref x), .val (.int (0 : Int32)), .val (.int (2 : Int32)), .unset, .unset] (fun m => by first | (simp [entryFrame, mkF, argsToLocals, Value.category]; done) | rfl) ?_
  intro p e s m below meth c T0 hlk hret hnm K0
  have P0 := Keep.refl h0 []
  refine gAloadN K0 b7_0 (v := (.ref x)) rfl rfl ?_
  refine gCallV K0 (W := 0) (C := "java/lang/String") x [] [] b7_1 (wd hw 47 rfl) (wd hw 32 rfl) (wd hw 34 rfl) (wd hw 33 rfl) (cal_lenA hw K0.n0le (W := 0) (cs := [c0, c1]) A Sc hz (by decide) (by decide)) (StrA.exa (A : StrA Z _ x [c0, c1])) (fun _ q => nomatch q) pd16 rfl rfl (Nat.le_of_eq rfl) rfl (by decide) (by decide) (by decide) (fun v101 T101 h101 K101 Q101 q101 => ?_)
  have E101 := Ext.of0 Q101
  have P102 := P0.ext E101
  have q101' : v101 = some (.int (2 : Int32)) := q101
  cases q101'
  refine gIstoreN K101 b7_4 (Ls' := #[.val (.ref x), .val (.int (0 : Int32)), .val (.int (2 : Int32)), .val (.int (2 : Int32)), .unset]) rfl ?_
  refine gIloadN K101 b7_5 (v := (0 : Int32)) rfl ?_
  refine gIloadN K101 b7_6 (v := (2 : Int32)) rfl ?_
  refine gIloadN K101 b7_7 (v := (2 : Int32)) rfl ?_
  refine gCallS K101 (W := 0) [(.int (0 : Int32)), (.int (2 : Int32)), (.int (2 : Int32))] [] b7_8 (wd hw 48 rfl) (wd hw 49 rfl) (wd hw 7 rfl) (wd hw 50 rfl) (Cal.ofN (W := 0) (c_cbe l Z a0 hw h101 n0 K101.n0le 2 2 (by decide) (by decide) fm (Sf.ext E101) rf) (wd hw 50 rfl) (wd hw 7 rfl) (by decide) (by decide)) (fun _ q => nomatch q) pd17 rfl rfl (Nat.le_of_eq rfl) rfl (by decide) (by decide) (by decide) (fun v103 T103 h103 K103 Q103 q103 => ?_)
  have E103 := Ext.of0 Q103
  have P104 := P102.ext E103
  cases q103
  refine gIloadN K103 b7_11 (v := (0 : Int32)) rfl ?_
  refine gIf_ne K103 b7_12 (fun q => absurd q (by first | decide | (intro hh; cases hh) | simp)) (fun q12 => ?_)
  refine gIloadN K103 b7_15 (v := (2 : Int32)) rfl ?_
  refine gIloadN K103 b7_16 (v := (2 : Int32)) rfl ?_
  refine gIcmp_ne K103 b7_17 (fun q => absurd q (by first | decide | (intro hh; cases hh) | simp)) (fun q17 => ?_)
  refine gAloadN K103 b7_20 (v := (.ref x)) rfl rfl ?_
  refine gRetA K103 hlk hret rfl rfl b7_21 P104 (by decide) (by decide) ?_
  exact ⟨_, rfl, (A.ext (Ext.tr E101 E103))⟩
set_option maxRecDepth 65536 in
set_option maxHeartbeats 40000000 in
theorem c_wp2 (l : Launch) (Z : State) (a0 : Array Value) (hw : ∀ d ∈ tables_1, d.before a0 Z = true) (h0 : Heap) (n0 : Nat) (Z0 : n0 ≤ h0.size) (c0 c1 : Int32) (x : Addr) (A : StrA Z h0 x [c0, c1]) (z : Int32) (Sc : Sta Z h0 "java/lang/String" "COMPACT_STRINGS" "Z" (.int z)) (hz : ¬ z = 0) (fm : Value) (Sf : Sta Z h0 "jdk/internal/util/Preconditions" "SIOOBE_FORMATTER" "Ljava/util/function/BiFunction;" fm) (rf : fm.isRef = true) (u : US Z h0) (hE : EW Z a0 [("java/lang/String", 7), ("java/lang/StringLatin1", 151)]) :
    Con (some [("java/lang/String", 7), ("java/lang/StringLatin1", 151)]) l (⟨"com/example/stowage/stowage/dicom/Uid", "withoutPadding", "(Ljava/lang/String;)Ljava/lang/String;"⟩ : MethodName) prog_11_method_5_code 2 (some (.object "java/lang/String")) [] ({ frames := 7, cells := 3, slots := 16, locals := 130 } : Room) Z n0 h0 [] #[(.ref x)] (fun v h => ∃ (x : Addr) (t : Nat), v = some (.ref x) ∧ StrA Z h x ([c0, c1].take t) ∧ WP [c0, c1] t) := by
  refine Con.intro pn4 Z0 (fun _ q => nomatch q) ⟨a0, hE⟩ #[.val (.ref x), .unset] (fun m => by first | (simp [entryFrame, mkF, argsToLocals, Value.category]; done) | rfl) ?_
  intro p e s m below meth c T0 hlk hret hnm K0
  have P0 := Keep.refl h0 []
  refine gAloadN K0 b4_0 (v := (.ref x)) rfl rfl ?_
  refine gCallV K0 (W := 0) (C := "java/lang/String") x [] [] b4_1 (wd hw 31 rfl) (wd hw 32 rfl) (wd hw 34 rfl) (wd hw 33 rfl) (cal_lenA hw K0.n0le (W := 0) (cs := [c0, c1]) A Sc hz (by decide) (by decide)) (A).exa (fun _ q => nomatch q) pd16 rfl rfl (Nat.le_of_eq rfl) rfl (by decide) (by decide) (by decide) (fun v101 T101 h101 K101 Q101 q101 => ?_)
  have E101 := Ext.of0 Q101
  have P102 := P0.ext E101
  have q101' : v101 = some (.int (2 : Int32)) := q101
  cases q101'
  refine gIstoreN K101 b4_4 (Ls' := #[.val (.ref x), .val (.int (2 : Int32))]) rfl ?_
  refine gIloadN K101 b4_5 (v := (2 : Int32)) rfl ?_
  refine gIf_le K101 b4_6 (fun q => absurd q (by first | decide | (intro hh; cases hh) | simp)) (fun q6 => ?_)
  refine gAloadN K101 b4_9 (v := (.ref x)) rfl rfl ?_
  refine gIloadN K101 b4_10 (v := (2 : Int32)) rfl ?_
  refine gIconst K101 (1 : Int32) b4_11 rfl ?_
  refine gIsubV K101 (1 : Int32) b4_12 (by decide) ?_
  have j_c1 : ∀ (hp_c1 : pd c1) (Tj : State) (hj : Heap) (Kj : Cx p l e ({ frames := 7, cells := 3, slots := 16, locals := 130 } : Room) s m #[(.ref x)] below meth c prog_11_method_5_code 2 Z "com/example/stowage/stowage/dicom/Uid" n0 (some [("java/lang/String", 7), ("java/lang/StringLatin1", 151)]) Tj hj [] 0 0) (Pj : Keep h0 hj []) (Aj : StrA Z hj x [c0, c1]) (Scj : Sta Z hj "java/lang/String" "COMPACT_STRINGS" "Z" (.int z)) (Sfj : Sta Z hj "jdk/internal/util/Preconditions" "SIOOBE_FORMATTER" "Ljava/util/function/BiFunction;" fm) (uj : US Z hj), Go p e below (End (some [("java/lang/String", 7), ("java/lang/StringLatin1", 151)]) s Z n0 h0 [] ({ frames := 7, cells := 3, slots := 16, locals := 130 } : Room).cells ({ frames := 7, cells := 3, slots := 16, locals := 130 } : Room).slots (fun v h => ∃ (x : Addr) (t : Nat), v = some (.ref x) ∧ StrA Z h x ([c0, c1].take t) ∧ WP [c0, c1] t)) Tj (mkF m 31 #[.val (.ref x), .val (.int (2 : Int32))] []) := by
    intro hp_c1 Tj hj Kj Pj Aj Scj Sfj uj
    refine gIinc Kj (-1 : Int32) b4_31 rfl (x := (2 : Int32)) rfl (Ls' := #[.val (.ref x), .val (.int (1 : Int32))]) rfl ?_
    refine gGoto Kj b4_34 ?_
    refine gIloadN Kj b4_5 (v := (1 : Int32)) rfl ?_
    refine gIf_le Kj b4_6 (fun q => absurd q (by first | decide | (intro hh; cases hh) | simp)) (fun q6 => ?_)
    refine gAloadN Kj b4_9 (v := (.ref x)) rfl rfl ?_
    refine gIloadN Kj b4_10 (v := (1 : Int32)) rfl ?_
    refine gIconst Kj (1 : Int32) b4_11 rfl ?_
    refine gIsubV Kj (0 : Int32) b4_12 (by decide) ?_
    have j_c0 : ∀ (hp_c0 : pd c0) (Tj : State) (hj : Heap) (Kj : Cx p l e ({ frames := 7, cells := 3, slots := 16, locals := 130 } : Room) s m #[(.ref x)] below meth c prog_11_method_5_code 2 Z "com/example/stowage/stowage/dicom/Uid" n0 (some [("java/lang/String", 7), ("java/lang/StringLatin1", 151)]) Tj hj [] 0 0) (Pj : Keep h0 hj []) (Aj : StrA Z hj x [c0, c1]) (Scj : Sta Z hj "java/lang/String" "COMPACT_STRINGS" "Z" (.int z)) (Sfj : Sta Z hj "jdk/internal/util/Preconditions" "SIOOBE_FORMATTER" "Ljava/util/function/BiFunction;" fm) (uj : US Z hj), Go p e below (End (some [("java/lang/String", 7), ("java/lang/StringLatin1", 151)]) s Z n0 h0 [] ({ frames := 7, cells := 3, slots := 16, locals := 130 } : Room).cells ({ frames := 7, cells := 3, slots := 16, locals := 130 } : Room).slots (fun v h => ∃ (x : Addr) (t : Nat), v = some (.ref x) ∧ StrA Z h x ([c0, c1].take t) ∧ WP [c0, c1] t)) Tj (mkF m 31 #[.val (.ref x), .val (.int (1 : Int32))] []) := by
      intro hp_c0 Tj hj Kj Pj Aj Scj Sfj uj
      refine gIinc Kj (-1 : Int32) b4_31 rfl (x := (1 : Int32)) rfl (Ls' := #[.val (.ref x), .val (.int (0 : Int32))]) rfl ?_
      refine gGoto Kj b4_34 ?_
      refine gIloadN Kj b4_5 (v := (0 : Int32)) rfl ?_
      refine gIf_le Kj b4_6 (fun q6 => ?_) (fun q => absurd q (by first | decide | (intro hh; cases hh) | simp))
      refine gAloadN Kj b4_37 (v := (.ref x)) rfl rfl ?_
      refine gIconst Kj (0 : Int32) b4_38 rfl ?_
      refine gIloadN Kj b4_39 (v := (0 : Int32)) rfl ?_
      rcases Aj with hA | hA
      · skip
        refine gCallV Kj (W := 0) (C := "java/lang/String") x [(.int (0 : Int32)), (.int (0 : Int32))] [] b4_40 (wd hw 42 rfl) (wd hw 43 rfl) (wd hw 45 rfl) (wd hw 44 rfl) (Cal.ofW (W := 0) (c_subL2_0 l Z a0 hw hj n0 Kj.n0le c0 c1 x hA z Scj hz fm Sfj rf uj hE) (wd hw 46 rfl) (wd hw 7 rfl) (by decide) (by decide)) (StrL.exa hA) (fun _ q => nomatch q) pd18 rfl rfl (Nat.le_of_eq rfl) rfl (by decide) (by decide) (by decide) (fun v103 T103 h103 K103 Q103 q103 => ?_)
        have E103 := Ext.of0 Q103
        have P104 := Pj.ext E103
        obtain ⟨xr, rfl, Sr⟩ := q103
        refine gRetA K103 hlk hret rfl rfl b4_43 P104 (by decide) (by decide) ?_
        exact ⟨_, 0, rfl, Sr, Nat.le_of_ble_eq_true rfl, (fun q => absurd q (Nat.lt_irrefl 0)), (allI hp_c0 (allI hp_c1 allI0))⟩
      · skip
        have hu : ∃ c ∈ ([] : List Int32), (255 : Int32) < c := hiPre (a := ([] : List Int32)) (b := [c0, c1]) (by obtain ⟨t, kb, -, -, -, -, -, q, -⟩ := hA; exact q) ((allI hp_c0 (allI hp_c1 allI0)))
        exact absurd hu (noHi (fun _ q => nomatch q))
    refine gCallV Kj (W := 0) (C := "java/lang/String") x [(.int (0 : Int32))] [] b4_13 (wd hw 70 rfl) (wd hw 71 rfl) (wd hw 73 rfl) (wd hw 72 rfl) (cal_chA hw Kj.n0le (W := 0) (cs := [c0, c1]) 0 Aj Scj hz Sfj rf uj (Nat.le_of_ble_eq_true rfl) (by decide) (by decide)) (Aj).exa (fun _ q => nomatch q) pd20 rfl rfl (Nat.le_of_eq rfl) rfl (by decide) (by decide) (by decide) (fun v105 T105 h105 K105 Q105 q105 => ?_)
    have E105 := Ext.of0 Q105
    have P106 := Pj.ext E105
    have q105' : v105 = some (.int c0) := q105
    cases q105'
    refine gIf_eq K105 b4_16 (fun hz_c0 => ?_) (fun hz_c0 => ?_)
    · skip
      exact j_c0 (Or.inl hz_c0) _ _ K105 P106 (Aj.ext E105) (Scj.ext E105) (Sfj.ext E105) (uj.ext E105)
    · skip
      refine gAloadN K105 b4_19 (v := (.ref x)) rfl rfl ?_
      refine gIloadN K105 b4_20 (v := (1 : Int32)) rfl ?_
      refine gIconst K105 (1 : Int32) b4_21 rfl ?_
      refine gIsubV K105 (0 : Int32) b4_22 (by decide) ?_
      refine gCallV K105 (W := 0) (C := "java/lang/String") x [(.int (0 : Int32))] [] b4_23 (wd hw 70 rfl) (wd hw 71 rfl) (wd hw 73 rfl) (wd hw 72 rfl) (cal_chA hw K105.n0le (W := 0) (cs := [c0, c1]) 0 (Aj.ext E105) (Scj.ext E105) hz (Sfj.ext E105) rf (uj.ext E105) (Nat.le_of_ble_eq_true rfl) (by decide) (by decide)) ((Aj.ext E105)).exa (fun _ q => nomatch q) pd20 rfl rfl (Nat.le_of_eq rfl) rfl (by decide) (by decide) (by decide) (fun v107 T107 h107 K107 Q107 q107 => ?_)
      have E107 := Ext.of0 Q107
      have P108 := P106.ext E107
      have q107' : v107 = some (.int c0) := q107
      cases q107'
      refine gBipush K107 (32 : Int32) b4_26 rfl ?_
      refine gIcmp_ne K107 b4_28 (fun hs_c0 => ?_) (fun hs_c0 => ?_)
      · skip
        refine gAloadN K107 b4_37 (v := (.ref x)) rfl rfl ?_
        refine gIconst K107 (0 : Int32) b4_38 rfl ?_
        refine gIloadN K107 b4_39 (v := (1 : Int32)) rfl ?_
        rcases (Aj.ext (Ext.tr E105 E107)) with hA | hA
        · skip
          refine gCallV K107 (W := 0) (C := "java/lang/String") x [(.int (0 : Int32)), (.int (1 : Int32))] [] b4_40 (wd hw 42 rfl) (wd hw 43 rfl) (wd hw 45 rfl) (wd hw 44 rfl) (Cal.ofN (W := 0) (c_subL2_1 l Z a0 hw h107 n0 K107.n0le c0 c1 x hA z (Scj.ext (Ext.tr E105 E107)) hz fm (Sfj.ext (Ext.tr E105 E107)) rf (uj.ext (Ext.tr E105 E107))) (wd hw 46 rfl) (wd hw 7 rfl) (by decide) (by decide)) (StrL.exa hA) (fun _ q => nomatch q) pd18 rfl rfl (Nat.le_of_eq rfl) rfl (by decide) (by decide) (by decide) (fun v109 T109 h109 K109 Q109 q109 => ?_)
          have E109 := Ext.of0 Q109
          have P110 := P108.ext E109
          obtain ⟨xr, rfl, Sr⟩ := q109
          refine gRetA K109 hlk hret rfl rfl b4_43 P110 (by decide) (by decide) ?_
          exact ⟨_, 1, rfl, Sr, Nat.le_of_ble_eq_true rfl, (fun _ q => q.elim hz_c0 hs_c0), (allI hp_c1 allI0)⟩
        · skip
          have hu : ∃ c ∈ [c0], (255 : Int32) < c := hiPre (a := [c0]) (b := [c1]) (by obtain ⟨t, kb, -, -, -, -, -, q, -⟩ := hA; exact q) ((allI hp_c1 allI0))
          refine gCallV K107 (W := 0) (C := "java/lang/String") x [(.int (0 : Int32)), (.int (1 : Int32))] [] b4_40 (wd hw 42 rfl) (wd hw 43 rfl) (wd hw 45 rfl) (wd hw 44 rfl) (Cal.ofN (W := 0) (c_subU2_1 l Z a0 hw h107 n0 K107.n0le c0 c1 x hA z (Scj.ext (Ext.tr E105 E107)) hz fm (Sfj.ext (Ext.tr E105 E107)) rf (uj.ext (Ext.tr E105 E107)) hu) (wd hw 46 rfl) (wd hw 7 rfl) (by decide) (by decide)) (StrA.exa (Or.inr hA)) (fun _ q => nomatch q) pd18 rfl rfl (Nat.le_of_eq rfl) rfl (by decide) (by decide) (by decide) (fun v111 T111 h111 K111 Q111 q111 => ?_)
          have E111 := Ext.of0 Q111
          have P112 := P108.ext E111
          obtain ⟨xr, rfl, Sr⟩ := q111
          refine gRetA K111 hlk hret rfl rfl b4_43 P112 (by decide) (by decide) ?_
          exact ⟨_, 1, rfl, Sr, Nat.le_of_ble_eq_true rfl, (fun _ q => q.elim hz_c0 hs_c0), (allI hp_c1 allI0)⟩
      · skip
        exact j_c0 (Or.inr hs_c0) _ _ K107 P108 (Aj.ext (Ext.tr E105 E107)) (Scj.ext (Ext.tr E105 E107)) (Sfj.ext (Ext.tr E105 E107)) (uj.ext (Ext.tr E105 E107))
  refine gCallV K101 (W := 0) (C := "java/lang/String") x [(.int (1 : Int32))] [] b4_13 (wd hw 70 rfl) (wd hw 71 rfl) (wd hw 73 rfl) (wd hw 72 rfl) (cal_chA hw K101.n0le (W := 0) (cs := [c0, c1]) 1 (A.ext E101) (Sc.ext E101) hz (Sf.ext E101) rf (u.ext E101) (Nat.le_of_ble_eq_true rfl) (by decide) (by decide)) ((A.ext E101)).exa (fun _ q => nomatch q) pd20 rfl rfl (Nat.le_of_eq rfl) rfl (by decide) (by decide) (by decide) (fun v113 T113 h113 K113 Q113 q113 => ?_)
  have E113 := Ext.of0 Q113
  have P114 := P102.ext E113
  have q113' : v113 = some (.int c1) := q113
  cases q113'
  refine gIf_eq K113 b4_16 (fun hz_c1 => ?_) (fun hz_c1 => ?_)
  · skip
    exact j_c1 (Or.inl hz_c1) _ _ K113 P114 (A.ext (Ext.tr E101 E113)) (Sc.ext (Ext.tr E101 E113)) (Sf.ext (Ext.tr E101 E113)) (u.ext (Ext.tr E101 E113))
  · skip
    refine gAloadN K113 b4_19 (v := (.ref x)) rfl rfl ?_
    refine gIloadN K113 b4_20 (v := (2 : Int32)) rfl ?_
    refine gIconst K113 (1 : Int32) b4_21 rfl ?_
    refine gIsubV K113 (1 : Int32) b4_22 (by decide) ?_
    refine gCallV K113 (W := 0) (C := "java/lang/String") x [(.int (1 : Int32))] [] b4_23 (wd hw 70 rfl) (wd hw 71 rfl) (wd hw 73 rfl) (wd hw 72 rfl) (cal_chA hw K113.n0le (W := 0) (cs := [c0, c1]) 1 (A.ext (Ext.tr E101 E113)) (Sc.ext (Ext.tr E101 E113)) hz (Sf.ext (Ext.tr E101 E113)) rf (u.ext (Ext.tr E101 E113)) (Nat.le_of_ble_eq_true rfl) (by decide) (by decide)) ((A.ext (Ext.tr E101 E113))).exa (fun _ q => nomatch q) pd20 rfl rfl (Nat.le_of_eq rfl) rfl (by decide) (by decide) (by decide) (fun v115 T115 h115 K115 Q115 q115 => ?_)
    have E115 := Ext.of0 Q115
    have P116 := P114.ext E115
    have q115' : v115 = some (.int c1) := q115
    cases q115'
    refine gBipush K115 (32 : Int32) b4_26 rfl ?_
    refine gIcmp_ne K115 b4_28 (fun hs_c1 => ?_) (fun hs_c1 => ?_)
    · skip
      refine gAloadN K115 b4_37 (v := (.ref x)) rfl rfl ?_
      refine gIconst K115 (0 : Int32) b4_38 rfl ?_
      refine gIloadN K115 b4_39 (v := (2 : Int32)) rfl ?_
      refine gCallV K115 (W := 0) (C := "java/lang/String") x [(.int (0 : Int32)), (.int (2 : Int32))] [] b4_40 (wd hw 42 rfl) (wd hw 43 rfl) (wd hw 45 rfl) (wd hw 44 rfl) (Cal.ofN (W := 0) (c_subE2_2 l Z a0 hw h115 n0 K115.n0le c0 c1 x (A.ext (Ext.tr (Ext.tr E101 E113) E115)) z (Sc.ext (Ext.tr (Ext.tr E101 E113) E115)) hz fm (Sf.ext (Ext.tr (Ext.tr E101 E113) E115)) rf (u.ext (Ext.tr (Ext.tr E101 E113) E115))) (wd hw 46 rfl) (wd hw 7 rfl) (by decide) (by decide)) ((A.ext (Ext.tr (Ext.tr E101 E113) E115))).exa (fun _ q => nomatch q) pd18 rfl rfl (Nat.le_of_eq rfl) rfl (by decide) (by decide) (by decide) (fun v117 T117 h117 K117 Q117 q117 => ?_)
      have E117 := Ext.of0 Q117
      have P118 := P116.ext E117
      obtain ⟨xr, rfl, Sr⟩ := q117
      refine gRetA K117 hlk hret rfl rfl b4_43 P118 (by decide) (by decide) ?_
      exact ⟨_, 2, rfl, Sr, Nat.le_of_ble_eq_true rfl, (fun _ q => q.elim hz_c1 hs_c1), allI0⟩
    · skip
      exact j_c1 (Or.inr hs_c1) _ _ K115 P116 (A.ext (Ext.tr (Ext.tr E101 E113) E115)) (Sc.ext (Ext.tr (Ext.tr E101 E113) E115)) (Sf.ext (Ext.tr (Ext.tr E101 E113) E115)) (u.ext (Ext.tr (Ext.tr E101 E113) E115))
set_option maxRecDepth 65536 in
set_option maxHeartbeats 40000000 in
theorem c_nsL3_0 (l : Launch) (Z : State) (a0 : Array Value) (hw : ∀ d ∈ tables_1, d.before a0 Z = true) (h0 : Heap) (n0 : Nat) (Z0 : n0 ≤ h0.size) (c0 c1 c2 : Int32) (bb : Addr) (kA : ClassId) (Ab : Arv Z h0 bb kA .byte (3 : Int32) (([c0, c1, c2].map StrChars.lo8).map Value.int) (.int 0)) (hp : ∀ c ∈ ([] : List Int32), ¬ c < 0 ∧ ¬ (255 : Int32) < c) (hE : EW Z a0 [("java/lang/String", 7), ("java/lang/StringLatin1", 151)]) :
    Con (some [("java/lang/String", 7), ("java/lang/StringLatin1", 151)]) l (⟨"java/lang/StringLatin1", "newString", "([BII)Ljava/lang/String;"⟩ : MethodName) jdk_43_method_47_code 3 (some (.object "java/lang/String")) [] ({ frames := 0, cells := 2, slots := 4, locals := 0 } : Room) Z n0 h0 [] #[(.ref bb), (.int (0 : Int32)), (.int (0 : Int32))] (fun v h => ∃ x : Addr, v = some (.ref x) ∧ StrL Z h x ([] : List Int32)) := by
  refine Con.intro pn5 Z0 (fun _ q => nomatch q) ⟨a0, hE⟩ #[.val (.ref bb), .val (.int (0 : Int32)), .val (.int (0 : Int32))] (fun m => by first | (simp [entryFrame, mkF, argsToLocals, Value.category]; done) | rfl) ?_
  intro p e s m below meth c T0 hlk hret hnm K0
  have P0 := Keep.refl h0 []
  refine gIloadN K0 b20_0 (v := (0 : Int32)) rfl ?_
  refine gIf_ne K0 b20_1 (fun q => absurd q (by first | decide | (intro hh; cases hh) | simp)) (fun q1 => ?_)
  refine gLdc K0 b20_4 (wd hw 119 rfl) (hsA hw) (by decide) (vs := []) (z := 0) (by decide) (by decide) (by decide) 0 (by decide) (by decide) (by decide) (by decide) (fun T101 h101 a101 b101 kA101 K101 E101 Ea101 Fc101 Fv101 Ab101 ne101 => ?_)
  have P102 := P0.ext E101
  refine gRetA K101 hlk hret rfl rfl b20_6 P102 (by decide) (by decide) ?_
  exact ⟨_, rfl, b101, _, Ea101, Fc101, Fv101, Ab101, (fun _ q => nomatch q), by decide⟩
set_option maxRecDepth 65536 in
set_option maxHeartbeats 40000000 in
theorem c_subL3_0 (l : Launch) (Z : State) (a0 : Array Value) (hw : ∀ d ∈ tables_1, d.before a0 Z = true) (h0 : Heap) (n0 : Nat) (Z0 : n0 ≤ h0.size) (c0 c1 c2 : Int32) (x : Addr) (A : StrL Z h0 x [c0, c1, c2]) (z : Int32) (Sc : Sta Z h0 "java/lang/String" "COMPACT_STRINGS" "Z" (.int z)) (hz : ¬ z = 0) (fm : Value) (Sf : Sta Z h0 "jdk/internal/util/Preconditions" "SIOOBE_FORMATTER" "Ljava/util/function/BiFunction;" fm) (rf : fm.isRef = true) (u : US Z h0) (hE : EW Z a0 [("java/lang/String", 7), ("java/lang/StringLatin1", 151)]) :
    Con (some [("java/lang/String", 7), ("java/lang/StringLatin1", 151)]) l (⟨"java/lang/String", "substring", "(II)Ljava/lang/String;"⟩ : MethodName) jdk_42_method_92_code 5 (some (.object "java/lang/String")) [] ({ frames := 6, cells := 3, slots := 16, locals := 112 } : Room) Z n0 h0 [] #[(.ref x), (.int (0 : Int32)), (.int (0 : Int32))] (fun v h => ∃ x : Addr, v = some (.ref x) ∧ StrA Z h x ([] : List Int32)) := by
  refine Con.intro pn0 Z0 (fun _ q => nomatch q) ⟨a0, hE⟩ #[.val (.ref x), .val (.int (0 : Int32)), .val (.int (0 : Int32)), .unset, .unset] (fun m => by first | (simp [entryFrame, mkF, argsToLocals, Value.category]; done) | rfl) ?_
  intro p e s m below meth c T0 hlk hret hnm K0
  have P0 := Keep.refl h0 []
  have A_ := A
  obtain ⟨bb, kA, Ex, Fc, Fv, Ab, hp, hN⟩ := A_
  refine gAloadN K0 b7_0 (v := (.ref x)) rfl rfl ?_
  refine gCallV K0 (W := 0) (C := "java/lang/String") x [] [] b7_1 (wd hw 47 rfl) (wd hw 32 rfl) (wd hw 34 rfl) (wd hw 33 rfl) (cal_lenA hw K0.n0le (W := 0) (cs := [c0, c1, c2]) (Or.inl A) Sc hz (by decide) (by decide)) (StrA.exa ((Or.inl A) : StrA Z _ x [c0, c1, c2])) (fun _ q => nomatch q) pd16 rfl rfl (Nat.le_of_eq rfl) rfl (by decide) (by decide) (by decide) (fun v101 T101 h101 K101 Q101 q101 => ?_)
  have E101 := Ext.of0 Q101
  have P102 := P0.ext E101
  have q101' : v101 = some (.int (3 : Int32)) := q101
  cases q101'
  refine gIstoreN K101 b7_4 (Ls' := #[.val (.ref x), .val (.int (0 : Int32)), .val (.int (0 : Int32)), .val (.int (3 : Int32)), .unset]) rfl ?_
  refine gIloadN K101 b7_5 (v := (0 : Int32)) rfl ?_
  refine gIloadN K101 b7_6 (v := (0 : Int32)) rfl ?_
  refine gIloadN K101 b7_7 (v := (3 : Int32)) rfl ?_
  refine gCallS K101 (W := 0) [(.int (0 : Int32)), (.int (0 : Int32)), (.int (3 : Int32))] [] b7_8 (wd hw 48 rfl) (wd hw 49 rfl) (wd hw 7 rfl) (wd hw 50 rfl) (Cal.ofN (W := 0) (c_cbe l Z a0 hw h101 n0 K101.n0le 3 0 (by decide) (by decide) fm (Sf.ext E101) rf) (wd hw 50 rfl) (wd hw 7 rfl) (by decide) (by decide)) (fun _ q => nomatch q) pd17 rfl rfl (Nat.le_of_eq rfl) rfl (by decide) (by decide) (by decide) (fun v103 T103 h103 K103 Q103 q103 => ?_)
  have E103 := Ext.of0 Q103
  have P104 := P102.ext E103
  cases q103
  refine gIloadN K103 b7_11 (v := (0 : Int32)) rfl ?_
  refine gIf_ne K103 b7_12 (fun q => absurd q (by first | decide | (intro hh; cases hh) | simp)) (fun q12 => ?_)
  refine gIloadN K103 b7_15 (v := (0 : Int32)) rfl ?_
  refine gIloadN K103 b7_16 (v := (3 : Int32)) rfl ?_
  refine gIcmp_ne K103 b7_17 (fun q17 => ?_) (fun q => absurd q (by first | decide | (intro hh; cases hh) | simp))
  refine gIloadN K103 b7_22 (v := (0 : Int32)) rfl ?_
  refine gIloadN K103 b7_23 (v := (0 : Int32)) rfl ?_
  refine gIsubV K103 (0 : Int32) b7_24 (by decide) ?_
  refine gIstore K103 b7_25 (Ls' := #[.val (.ref x), .val (.int (0 : Int32)), .val (.int (0 : Int32)), .val (.int (3 : Int32)), .val (.int (0 : Int32))]) rfl ?_
  refine gAloadN K103 b7_27 (v := (.ref x)) rfl rfl ?_
  refine gCallV K103 (W := 0) (C := "java/lang/String") x [] [] b7_28 (wd hw 75 rfl) (wd hw 76 rfl) (wd hw 78 rfl) (wd hw 77 rfl) (Cal.ofN (W := 0) (c_isL0 l Z a0 hw h103 n0 K103.n0le x (Fc.ext (Ext.tr E101 E103)) z (Sc.ext (Ext.tr E101 E103)) hz) (wd hw 79 rfl) (wd hw 7 rfl) (by decide) (by decide)) (Ex.ext (Ext.tr E101 E103)) (fun _ q => nomatch q) pd12 rfl rfl (Nat.le_of_eq rfl) rfl (by decide) (by decide) (by decide) (fun v105 T105 h105 K105 Q105 q105 => ?_)
  have E105 := Ext.of0 Q105
  have P106 := P104.ext E105
  cases q105
  refine gIf_eq K105 b7_31 (fun q => absurd q (by first | decide | (intro hh; cases hh) | simp)) (fun q31 => ?_)
  refine gAloadN K105 b7_34 (v := (.ref x)) rfl rfl ?_
  refine gGet K105 b7_35 (wd hw 25 rfl) (Fv.ext (Ext.tr (Ext.tr E101 E103) E105)) (fun T107 K107 => ?_)
  refine gIloadN K107 b7_38 (v := (0 : Int32)) rfl ?_
  refine gIload K107 b7_39 (v := (0 : Int32)) rfl ?_
  refine gCallS K107 (W := 0) [(.ref bb), (.int (0 : Int32)), (.int (0 : Int32))] [] b7_41 (wd hw 94 rfl) (wd hw 95 rfl) (wd hw 82 rfl) (wd hw 96 rfl) (Cal.ofW (W := 0) (c_nsL3_0 l Z a0 hw h105 n0 K107.n0le c0 c1 c2 bb kA (Ab.ext (Ext.tr (Ext.tr E101 E103) E105)) (fun c hc => hp c (List.mem_append_left [c0, c1, c2] hc)) hE) (wd hw 96 rfl) (wd hw 82 rfl) (by decide) (by decide)) (fun _ q => nomatch q) pd19 rfl rfl (Nat.le_of_eq rfl) rfl (by decide) (by decide) (by decide) (fun v108 T108 h108 K108 Q108 q108 => ?_)
  have E108 := Ext.of0 Q108
  have P109 := P106.ext E108
  obtain ⟨xr, rfl, Sr⟩ := q108
  refine gGoto K108 b7_44 ?_
  refine gRetA K108 hlk hret rfl rfl b7_57 P109 (by decide) (by decide) ?_
  exact ⟨_, rfl, Or.inl Sr⟩
set_option maxRecDepth 65536 in
set_option maxHeartbeats 40000000 in
theorem c_corB3_1 (l : Launch) (Z : State) (a0 : Array Value) (hw : ∀ d ∈ tables_1, d.before a0 Z = true) (h0 : Heap) (n0 : Nat) (Z0 : n0 ≤ h0.size) (bb : Addr) (kA : ClassId) (vs : List Value) (Ab : Arv Z h0 bb kA .byte (3 : Int32) vs (.int 0)) (hv : vs.length = 3) :
    Con none l (⟨"java/util/Arrays", "copyOfRangeByte", "([BII)[B"⟩ : MethodName) jdk_65_method_133_code 5 (some (.array .byte)) [] ({ frames := 1, cells := 1, slots := 1, locals := 40 } : Room) Z n0 h0 [] #[(.ref bb), (.int (0 : Int32)), (.int (1 : Int32))] (fun v h => ∃ (b : Addr) (kA : ClassId), v = some (.ref b) ∧ h0.size ≤ b ∧ Arv Z h b kA .byte (1 : Int32) (vs.take 1) (.int 0)) := by
  refine Con.intro pn6 Z0 (fun _ q => nomatch q) trivial #[.val (.ref bb), .val (.int (0 : Int32)), .val (.int (1 : Int32)), .unset, .unset] (fun m => by first | (simp [entryFrame, mkF, argsToLocals, Value.category]; done) | rfl) ?_
  intro p e s m below meth c T0 hlk hret hnm K0
  have P0 := Keep.refl h0 []
  refine gIloadN K0 b22_0 (v := (0 : Int32)) rfl ?_
  refine gIloadN K0 b22_1 (v := (1 : Int32)) rfl ?_
  refine gCallS K0 (W := 0) [(.int (0 : Int32)), (.int (1 : Int32))] [] b22_2 (wd hw 105 rfl) (wd hw 106 rfl) (wd hw 100 rfl) (wd hw 107 rfl) (Cal.ofN (W := 0) (c_ckl l Z a0 hw h0 n0 K0.n0le 1 (by decide)) (wd hw 107 rfl) (wd hw 100 rfl) (by decide) (by decide)) (fun _ q => nomatch q) pd10 rfl rfl (Nat.le_of_eq rfl) rfl (by decide) (by decide) (by decide) (fun v101 T101 h101 K101 Q101 q101 => ?_)
  have E101 := Ext.of0 Q101
  have P102 := P0.ext E101
  cases q101
  refine gIloadN K101 b22_5 (v := (1 : Int32)) rfl ?_
  refine gIloadN K101 b22_6 (v := (0 : Int32)) rfl ?_
  refine gIsubV K101 (1 : Int32) b22_7 (by decide) ?_
  refine gIstoreN K101 b22_8 (Ls' := #[.val (.ref bb), .val (.int (0 : Int32)), .val (.int (1 : Int32)), .val (.int (1 : Int32)), .unset]) rfl ?_
  refine gIloadN K101 b22_9 (v := (1 : Int32)) rfl ?_
  refine gNewarr K101 b22_10 (wd hw 20 rfl) (by decide) 1 (by decide) (by decide) (by decide) (by decide) (fun T103 h103 x103 kA103 K103 E103 g103 A103 ne103 => ?_)
  have P104 := P102.ext E103
  have ge_x103 : h0.size ≤ x103 := by rw [g103]; exact P102.1
  refine gAstore K103 b22_12 rfl (Ls' := #[.val (.ref bb), .val (.int (0 : Int32)), .val (.int (1 : Int32)), .val (.int (1 : Int32)), .val (.ref x103)]) rfl ?_
  refine gAloadN K103 b22_14 (v := (.ref bb)) rfl rfl ?_
  refine gIloadN K103 b22_15 (v := (0 : Int32)) rfl ?_
  refine gAload K103 b22_16 (v := (.ref x103)) rfl rfl ?_
  refine gIconst K103 (0 : Int32) b22_18 rfl ?_
  refine gAloadN K103 b22_19 (v := (.ref bb)) rfl rfl ?_
  refine gLen K103 b22_20 (Ab.ext (Ext.tr E101 E103)) ?_
  refine gIloadN K103 b22_21 (v := (0 : Int32)) rfl ?_
  refine gIsubV K103 (3 : Int32) b22_22 (by decide) ?_
  refine gIloadN K103 b22_23 (v := (1 : Int32)) rfl ?_
  refine gCallS K103 (W := 4) [(.int (3 : Int32)), (.int (1 : Int32))] [(.int (0 : Int32)), (.ref x103), (.int (0 : Int32)), (.ref bb)] b22_24 (wd hw 108 rfl) (wd hw 109 rfl) (wd hw 110 rfl) (wd hw 111 rfl) (Cal.ofN (W := 4) (c_min l Z a0 hw h103 n0 K103.n0le 3 1 (by decide) (by decide)) (wd hw 111 rfl) (wd hw 110 rfl) (by decide) (by decide)) (fun _ q => nomatch q) pd21 rfl rfl (Nat.le_of_eq rfl) rfl (by decide) (by decide) (by decide) (fun v105 T105 h105 K105 Q105 q105 => ?_)
  have E105 := Ext.of0 Q105
  have P106 := P104.ext E105
  have q105' : v105 = some (.int (1 : Int32)) := q105
  cases q105'
  refine gCopy K105 b22_27 (wd hw 112 rfl) (wd hw 115 rfl) (wd hw 113 rfl) (wd hw 114 rfl) (me 0 rfl) (Ab.ext (Ext.tr (Ext.tr E101 E103) E105)) (Arv.pad (A103.ext E105) (pad_rep [] (.int 0) 1)) (by decide) (by decide) (by decide) (by decide) (by decide) (us := vs.take 1) (range_take (t := 1) (by omega)) (by decide) rfl (by decide) (W := 0) (Nat.le_of_eq rfl) (by decide) (fun T107 h107 K107 Q107 A107 => ?_)
  have P108 := P106.trans Q107 (fun z q => by cases List.mem_singleton.mp q; exact Or.inr ge_x103)
  have B107 : Arv Z h107 x103 kA103 .byte (1 : Int32) (vs.take 1) (.int 0) := by rw [show vs.take 1 = [] ++ vs.take 1 ++ [] from (List.append_nil _).symm]; exact A107
  refine gAload K107 b22_30 (v := (.ref x103)) rfl rfl ?_
  refine gRetA K107 hlk hret rfl rfl b22_32 P108 (by decide) (by decide) ?_
  exact ⟨_, _, rfl, ge_x103, B107⟩
set_option maxRecDepth 65536 in
set_option maxHeartbeats 40000000 in
theorem c_cor3_1 (l : Launch) (Z : State) (a0 : Array Value) (hw : ∀ d ∈ tables_1, d.before a0 Z = true) (h0 : Heap) (n0 : Nat) (Z0 : n0 ≤ h0.size) (bb : Addr) (kA : ClassId) (vs : List Value) (Ab : Arv Z h0 bb kA .byte (3 : Int32) vs (.int 0)) (hv : vs.length = 3) :
    Con none l (⟨"java/util/Arrays", "copyOfRange", "([BII)[B"⟩ : MethodName) jdk_65_method_132_code 3 (some (.array .byte)) [] ({ frames := 2, cells := 1, slots := 1, locals := 56 } : Room) Z n0 h0 [] #[(.ref bb), (.int (0 : Int32)), (.int (1 : Int32))] (fun v h => ∃ (b : Addr) (kA : ClassId), v = some (.ref b) ∧ h0.size ≤ b ∧ Arv Z h b kA .byte (1 : Int32) (vs.take 1) (.int 0)) := by
  refine Con.intro pn6 Z0 (fun _ q => nomatch q) trivial #[.val (.ref bb), .val (.int (0 : Int32)), .val (.int (1 : Int32))] (fun m => by first | (simp [entryFrame, mkF, argsToLocals, Value.category]; done) | rfl) ?_
  intro p e s m below meth c T0 hlk hret hnm K0
  have P0 := Keep.refl h0 []
  refine gIloadN K0 b21_0 (v := (0 : Int32)) rfl ?_
  refine gIf_ne K0 b21_1 (fun q => absurd q (by first | decide | (intro hh; cases hh) | simp)) (fun q1 => ?_)
  refine gIloadN K0 b21_4 (v := (1 : Int32)) rfl ?_
  refine gAloadN K0 b21_5 (v := (.ref bb)) rfl rfl ?_
  refine gLen K0 b21_6 Ab ?_
  refine gIcmp_eq K0 b21_7 (fun q => absurd q (by first | decide | (intro hh; cases hh) | simp)) (fun q7 => ?_)
  refine gAloadN K0 b21_10 (v := (.ref bb)) rfl rfl ?_
  refine gIloadN K0 b21_11 (v := (0 : Int32)) rfl ?_
  refine gIloadN K0 b21_12 (v := (1 : Int32)) rfl ?_
  refine gCallS K0 (W := 0) [(.ref bb), (.int (0 : Int32)), (.int (1 : Int32))] [] b21_13 (wd hw 102 rfl) (wd hw 103 rfl) (wd hw 100 rfl) (wd hw 104 rfl) (Cal.ofN (W := 0) (c_corB3_1 l Z a0 hw h0 n0 K0.n0le bb kA vs Ab hv) (wd hw 104 rfl) (wd hw 100 rfl) (by decide) (by decide)) (fun _ q => nomatch q) pd22 rfl rfl (Nat.le_of_eq rfl) rfl (by decide) (by decide) (by decide) (fun v101 T101 h101 K101 Q101 q101 => ?_)
  have E101 := Ext.of0 Q101
  have P102 := P0.ext E101
  obtain ⟨b2, k2, rfl, g2, A2⟩ := q101
  refine gRetA K101 hlk hret rfl rfl b21_16 P102 (by decide) (by decide) ?_
  exact ⟨_, _, rfl, g2, A2⟩
set_option maxRecDepth 65536 in
set_option maxHeartbeats 40000000 in
theorem c_corB6_2 (l : Launch) (Z : State) (a0 : Array Value) (hw : ∀ d ∈ tables_1, d.before a0 Z = true) (h0 : Heap) (n0 : Nat) (Z0 : n0 ≤ h0.size) (bb : Addr) (kA : ClassId) (vs : List Value) (Ab : Arv Z h0 bb kA .byte (6 : Int32) vs (.int 0)) (hv : vs.length = 6) :
    Con none l (⟨"java/util/Arrays", "copyOfRangeByte", "([BII)[B"⟩ : MethodName) jdk_65_method_133_code 5 (some (.array .byte)) [] ({ frames := 1, cells := 1, slots := 2, locals := 40 } : Room) Z n0 h0 [] #[(.ref bb), (.int (0 : Int32)), (.int (2 : Int32))] (fun v h => ∃ (b : Addr) (kA : ClassId), v = some (.ref b) ∧ h0.size ≤ b ∧ Arv Z h b kA .byte (2 : Int32) (vs.take 2) (.int 0)) := by
  refine Con.intro pn6 Z0 (fun _ q => nomatch q) trivial #[.val (.ref bb), .val (.int (0 : Int32)), .val (.int (2 : Int32)), .unset, .unset] (fun m => by first | (simp [entryFrame, mkF, argsToLocals, Value.category]; done) | rfl) ?_
  intro p e s m below meth c T0 hlk hret hnm K0
  have P0 := Keep.refl h0 []
  refine gIloadN K0 b22_0 (v := (0 : Int32)) rfl ?_
  refine gIloadN K0 b22_1 (v := (2 : Int32)) rfl ?_
  refine gCallS K0 (W := 0) [(.int (0 : Int32)), (.int (2 : Int32))] [] b22_2 (wd hw 105 rfl) (wd hw 106 rfl) (wd hw 100 rfl) (wd hw 107 rfl) (Cal.ofN (W := 0) (c_ckl l Z a0 hw h0 n0 K0.n0le 2 (by decide)) (wd hw 107 rfl) (wd hw 100 rfl) (by decide) (by decide)) (fun _ q => nomatch q) pd10 rfl rfl (Nat.le_of_eq rfl) rfl (by decide) (by decide) (by decide) (fun v101 T101 h101 K101 Q101 q101 => ?_)
  have E101 := Ext.of0 Q101
  have P102 := P0.ext E101
  cases q101
  refine gIloadN K101 b22_5 (v := (2 : Int32)) rfl ?_
  refine gIloadN K101 b22_6 (v := (0 : Int32)) rfl ?_
  refine gIsubV K101 (2 : Int32) b22_7 (by decide) ?_
  refine gIstoreN K101 b22_8 (Ls' := #[.val (.ref bb), .val (.int (0 : Int32)), .val (.int (2 : Int32)), .val (.int (2 : Int32)), .unset]) rfl ?_
  refine gIloadN K101 b22_9 (v := (2 : Int32)) rfl ?_
  refine gNewarr K101 b22_10 (wd hw 20 rfl) (by decide) 2 (by decide) (by decide) (by decide) (by decide) (fun T103 h103 x103 kA103 K103 E103 g103 A103 ne103 => ?_)
  have P104 := P102.ext E103
  have ge_x103 : h0.size ≤ x103 := by rw [g103]; exact P102.1
  refine gAstore K103 b22_12 rfl (Ls' := #[.val (.ref bb), .val (.int (0 : Int32)), .val (.int (2 : Int32)), .val (.int (2 : Int32)), .val (.ref x103)]) rfl ?_
  refine gAloadN K103 b22_14 (v := (.ref bb)) rfl rfl ?_
  refine gIloadN K103 b22_15 (v := (0 : Int32)) rfl ?_
  refine gAload K103 b22_16 (v := (.ref x103)) rfl rfl ?_
  refine gIconst K103 (0 : Int32) b22_18 rfl ?_
  refine gAloadN K103 b22_19 (v := (.ref bb)) rfl rfl ?_
  refine gLen K103 b22_20 (Ab.ext (Ext.tr E101 E103)) ?_
  refine gIloadN K103 b22_21 (v := (0 : Int32)) rfl ?_
  refine gIsubV K103 (6 : Int32) b22_22 (by decide) ?_
  refine gIloadN K103 b22_23 (v := (2 : Int32)) rfl ?_
  refine gCallS K103 (W := 4) [(.int (6 : Int32)), (.int (2 : Int32))] [(.int (0 : Int32)), (.ref x103), (.int (0 : Int32)), (.ref bb)] b22_24 (wd hw 108 rfl) (wd hw 109 rfl) (wd hw 110 rfl) (wd hw 111 rfl) (Cal.ofN (W := 4) (c_min l Z a0 hw h103 n0 K103.n0le 6 2 (by decide) (by decide)) (wd hw 111 rfl) (wd hw 110 rfl) (by decide) (by decide)) (fun _ q => nomatch q) pd21 rfl rfl (Nat.le_of_eq rfl) rfl (by decide) (by decide) (by decide) (fun v105 T105 h105 K105 Q105 q105 => ?_)
  have E105 := Ext.of0 Q105
  have P106 := P104.ext E105
  have q105' : v105 = some (.int (2 : Int32)) := q105
  cases q105'
  refine gCopy K105 b22_27 (wd hw 112 rfl) (wd hw 115 rfl) (wd hw 113 rfl) (wd hw 114 rfl) (me 0 rfl) (Ab.ext (Ext.tr (Ext.tr E101 E103) E105)) (Arv.pad (A103.ext E105) (pad_rep [] (.int 0) 2)) (by decide) (by decide) (by decide) (by decide) (by decide) (us := vs.take 2) (range_take (t := 2) (by omega)) (by decide) rfl (by decide) (W := 0) (Nat.le_of_eq rfl) (by decide) (fun T107 h107 K107 Q107 A107 => ?_)
  have P108 := P106.trans Q107 (fun z q => by cases List.mem_singleton.mp q; exact Or.inr ge_x103)
  have B107 : Arv Z h107 x103 kA103 .byte (2 : Int32) (vs.take 2) (.int 0) := by rw [show vs.take 2 = [] ++ vs.take 2 ++ [] from (List.append_nil _).symm]; exact A107
  refine gAload K107 b22_30 (v := (.ref x103)) rfl rfl ?_
  refine gRetA K107 hlk hret rfl rfl b22_32 P108 (by decide) (by decide) ?_
  exact ⟨_, _, rfl, ge_x103, B107⟩
set_option maxRecDepth 65536 in
set_option maxHeartbeats 40000000 in
theorem c_cor6_2 (l : Launch) (Z : State) (a0 : Array Value) (hw : ∀ d ∈ tables_1, d.before a0 Z = true) (h0 : Heap) (n0 : Nat) (Z0 : n0 ≤ h0.size) (bb : Addr) (kA : ClassId) (vs : List Value) (Ab : Arv Z h0 bb kA .byte (6 : Int32) vs (.int 0)) (hv : vs.length = 6) :
    Con none l (⟨"java/util/Arrays", "copyOfRange", "([BII)[B"⟩ : MethodName) jdk_65_method_132_code 3 (some (.array .byte)) [] ({ frames := 2, cells := 1, slots := 2, locals := 56 } : Room) Z n0 h0 [] #[(.ref bb), (.int (0 : Int32)), (.int (2 : Int32))] (fun v h => ∃ (b : Addr) (kA : ClassId), v = some (.ref b) ∧ h0.size ≤ b ∧ Arv Z h b kA .byte (2 : Int32) (vs.take 2) (.int 0)) := by
  refine Con.intro pn6 Z0 (fun _ q => nomatch q) trivial #[.val (.ref bb), .val (.int (0 : Int32)), .val (.int (2 : Int32))] (fun m => by first | (simp [entryFrame, mkF, argsToLocals, Value.category]; done) | rfl) ?_
  intro p e s m below meth c T0 hlk hret hnm K0
  have P0 := Keep.refl h0 []
  refine gIloadN K0 b21_0 (v := (0 : Int32)) rfl ?_
  refine gIf_ne K0 b21_1 (fun q => absurd q (by first | decide | (intro hh; cases hh) | simp)) (fun q1 => ?_)
  refine gIloadN K0 b21_4 (v := (2 : Int32)) rfl ?_
  refine gAloadN K0 b21_5 (v := (.ref bb)) rfl rfl ?_
  refine gLen K0 b21_6 Ab ?_
  refine gIcmp_eq K0 b21_7 (fun q => absurd q (by first | decide | (intro hh; cases hh) | simp)) (fun q7 => ?_)
  refine gAloadN K0 b21_10 (v := (.ref bb)) rfl rfl ?_
  refine gIloadN K0 b21_11 (v := (0 : Int32)) rfl ?_
  refine gIloadN K0 b21_12 (v := (2 : Int32)) rfl ?_
  refine gCallS K0 (W := 0) [(.ref bb), (.int (0 : Int32)), (.int (2 : Int32))] [] b21_13 (wd hw 102 rfl) (wd hw 103 rfl) (wd hw 100 rfl) (wd hw 104 rfl) (Cal.ofN (W := 0) (c_corB6_2 l Z a0 hw h0 n0 K0.n0le bb kA vs Ab hv) (wd hw 104 rfl) (wd hw 100 rfl) (by decide) (by decide)) (fun _ q => nomatch q) pd22 rfl rfl (Nat.le_of_eq rfl) rfl (by decide) (by decide) (by decide) (fun v101 T101 h101 K101 Q101 q101 => ?_)
  have E101 := Ext.of0 Q101
  have P102 := P0.ext E101
  obtain ⟨b2, k2, rfl, g2, A2⟩ := q101
  refine gRetA K101 hlk hret rfl rfl b21_16 P102 (by decide) (by decide) ?_
  exact ⟨_, _, rfl, g2, A2⟩
set_option maxRecDepth 65536 in
set_option maxHeartbeats 40000000 in
theorem c_cb5_3_1 (l : Launch) (Z : State) (a0 : Array Value) (hw : ∀ d ∈ tables_1, d.before a0 Z = true) (h0 : Heap) (n0 : Nat) (Z0 : n0 ≤ h0.size) (c0 c1 c2 : Int32) (bb : Addr) (kA : ClassId) (Ab : Arv Z h0 bb kA .byte (Int32.ofNat (2 * 3)) (StrChars.Road.wideBytes [c0, c1, c2]) (.int 0)) (hp : ∀ c ∈ [c0, c1, c2], ¬ c < 0 ∧ ¬ (65535 : Int32) < c) (u : US Z h0) (fm : Value) (Sf : Sta Z h0 "jdk/internal/util/Preconditions" "SIOOBE_FORMATTER" "Ljava/util/function/BiFunction;" fm) (rf : fm.isRef = true) (dd : Addr) (kD : ClassId) (gd : n0 ≤ dd) (Ad : Arv Z h0 dd kD .byte (1 : Int32) [] (.int 0)) (hbd : bb ≠ dd) (hu : ∃ c ∈ [c0], (255 : Int32) < c) :
    Con none l (⟨"java/lang/StringUTF16", "compress", "([BI[BII)I"⟩ : MethodName) jdk_52_method_22_code 7 (some .int) [] ({ frames := 3, cells := 0, slots := 0, locals := 46 } : Room) Z n0 h0 [dd] #[(.ref bb), (.int (0 : Int32)), (.ref dd), (.int (0 : Int32)), (.int (1 : Int32))] (fun v h => ∃ j : Nat, v = some (.int (Int32.ofNat j)) ∧ j < 1 ∧ (255 : Int32) < [c0].getD j 0) := by
  refine Con.intro pn1 Z0 (allS ⟨gd, Ad.lt⟩ all0) trivial #[.val (.ref bb), .val (.int (0 : Int32)), .val (.ref dd), .val (.int (0 : Int32)), .val (.int (1 : Int32)), .unset, .unset] (fun m => by first | (simp [entryFrame, mkF, argsToLocals, Value.category]; done) | rfl) ?_
  intro p e s m below meth c T0 hlk hret hnm K0
  have P0 := Keep.refl h0 [dd]
  refine gIloadN K0 b36_0 (v := (0 : Int32)) rfl ?_
  refine gIload K0 b36_1 (v := (1 : Int32)) rfl ?_
  refine gAloadN K0 b36_3 (v := (.ref bb)) rfl rfl ?_
  refine gCallS K0 (W := 0) [(.int (0 : Int32)), (.int (1 : Int32)), (.ref bb)] [] b36_4 (wd hw 159 rfl) (wd hw 160 rfl) (wd hw 62 rfl) (wd hw 161 rfl) (Cal.ofN (W := 0) (c_ubo l Z a0 hw h0 n0 K0.n0le 3 1 (by decide) (by decide) bb kA _ _ Ab fm Sf rf) (wd hw 161 rfl) (wd hw 62 rfl) (by decide) (by decide)) (fun _ q => nomatch q) pd23 rfl rfl (Nat.le_of_eq rfl) rfl (by decide) (by decide) (by decide) (fun v101 T101 h101 K101 Q101 q101 => ?_)
  have E101 := Ext.of0 Q101
  have P102 := P0.ext E101
  cases q101
  refine gIconst K101 (0 : Int32) b36_7 rfl ?_
  refine gIstore K101 b36_8 (Ls' := #[.val (.ref bb), .val (.int (0 : Int32)), .val (.ref dd), .val (.int (0 : Int32)), .val (.int (1 : Int32)), .val (.int (0 : Int32)), .unset]) rfl ?_
  refine gIload K101 b36_10 (v := (0 : Int32)) rfl ?_
  refine gIload K101 b36_12 (v := (1 : Int32)) rfl ?_
  refine gIcmp_ge K101 b36_14 (fun q => absurd q (by first | decide | (intro hh; cases hh) | simp)) (fun q14 => ?_)
  refine gAloadN K101 b36_17 (v := (.ref bb)) rfl rfl ?_
  refine gIloadN K101 b36_18 (v := (0 : Int32)) rfl ?_
  refine gCallS K101 (W := 0) [(.ref bb), (.int (0 : Int32))] [] b36_19 (wd hw 136 rfl) (wd hw 137 rfl) (wd hw 62 rfl) (wd hw 138 rfl) (Cal.ofN (W := 0) (c_getChar l Z a0 hw h101 n0 K101.n0le bb kA [c0, c1, c2] 0 (Ab.ext E101) hp (Nat.le_of_ble_eq_true rfl) (Nat.le_of_ble_eq_true rfl) (u.ext E101)) (wd hw 138 rfl) (wd hw 62 rfl) (by decide) (by decide)) (fun _ q => nomatch q) pd6 rfl rfl (Nat.le_of_eq rfl) rfl (by decide) (by decide) (by decide) (fun v103 T103 h103 K103 Q103 q103 => ?_)
  have E103 := Ext.of0 Q103
  have P104 := P102.ext E103
  have q103' : v103 = some (.int c0) := q103
  cases q103'
  refine gIstore K103 b36_22 (Ls' := #[.val (.ref bb), .val (.int (0 : Int32)), .val (.ref dd), .val (.int (0 : Int32)), .val (.int (1 : Int32)), .val (.int (0 : Int32)), .val (.int c0)]) rfl ?_
  refine gIload K103 b36_24 (v := c0) rfl ?_
  refine gSipush K103 (255 : Int32) b36_26 rfl ?_
  refine gIcmp_le K103 b36_29 (fun hl_c0 => ?_) (fun hl_c0 => ?_)
  · skip
    refine gAloadN K103 b36_35 (v := (.ref dd)) rfl rfl ?_
    refine gIloadN K103 b36_36 (v := (0 : Int32)) rfl ?_
    refine gIload K103 b36_37 (v := c0) rfl ?_
    refine gI2b K103 b36_39 ?_
    refine gBastore K103 b36_40 (me 0 rfl) (Ad.ext (Ext.tr E101 E103)) rfl (by decide) (fun T105 h105 K105 Q105 A105 => ?_)
    have u105 := US.kp (u.ext (Ext.tr E101 E103)) Q105 (nsS (Arv.nostat (Ad.ext (Ext.tr E101 E103))) ns0)
    have P106 := P104.trans Q105 (fun z q => by cases List.mem_singleton.mp q; exact Or.inl (me 0 rfl))
    refine gIinc K105 (1 : Int32) b36_41 rfl (x := (0 : Int32)) rfl (Ls' := #[.val (.ref bb), .val (.int (1 : Int32)), .val (.ref dd), .val (.int (0 : Int32)), .val (.int (1 : Int32)), .val (.int (0 : Int32)), .val (.int c0)]) rfl ?_
    refine gIinc K105 (1 : Int32) b36_44 rfl (x := (0 : Int32)) rfl (Ls' := #[.val (.ref bb), .val (.int (1 : Int32)), .val (.ref dd), .val (.int (1 : Int32)), .val (.int (1 : Int32)), .val (.int (0 : Int32)), .val (.int c0)]) rfl ?_
    refine gIinc K105 (1 : Int32) b36_47 rfl (x := (0 : Int32)) rfl (Ls' := #[.val (.ref bb), .val (.int (1 : Int32)), .val (.ref dd), .val (.int (1 : Int32)), .val (.int (1 : Int32)), .val (.int (1 : Int32)), .val (.int c0)]) rfl ?_
    refine gGoto K105 b36_50 ?_
    refine gIload K105 b36_10 (v := (1 : Int32)) rfl ?_
    refine gIload K105 b36_12 (v := (1 : Int32)) rfl ?_
    refine gIcmp_ge K105 b36_14 (fun q14 => ?_) (fun q => absurd q (by first | decide | (intro hh; cases hh) | simp))
    refine gIload K105 b36_53 (v := (1 : Int32)) rfl ?_
    exact absurd hu (noHi (allI hl_c0 allI0))
  · skip
    refine gIload K103 b36_32 (v := (0 : Int32)) rfl ?_
    refine gRetI K103 hlk hret (by simp) b36_34 rfl P104 (by decide) (by decide) ?_
    exact ⟨0, rfl, by decide, hl_c0⟩
set_option maxRecDepth 65536 in
set_option maxHeartbeats 40000000 in
theorem c_cb3_3_1 (l : Launch) (Z : State) (a0 : Array Value) (hw : ∀ d ∈ tables_1, d.before a0 Z = true) (h0 : Heap) (n0 : Nat) (Z0 : n0 ≤ h0.size) (c0 c1 c2 : Int32) (bb : Addr) (kA : ClassId) (Ab : Arv Z h0 bb kA .byte (Int32.ofNat (2 * 3)) (StrChars.Road.wideBytes [c0, c1, c2]) (.int 0)) (hp : ∀ c ∈ [c0, c1, c2], ¬ c < 0 ∧ ¬ (65535 : Int32) < c) (u : US Z h0) (fm : Value) (Sf : Sta Z h0 "jdk/internal/util/Preconditions" "SIOOBE_FORMATTER" "Ljava/util/function/BiFunction;" fm) (rf : fm.isRef = true) (hu : ∃ c ∈ [c0], (255 : Int32) < c) :
    Con none l (⟨"java/lang/StringUTF16", "compress", "([BII)[B"⟩ : MethodName) jdk_52_method_17_code 6 (some (.array .byte)) [] ({ frames := 4, cells := 2, slots := 3, locals := 74 } : Room) Z n0 h0 [] #[(.ref bb), (.int (0 : Int32)), (.int (1 : Int32))] (fun v h => ∃ (b : Addr) (kA : ClassId), v = some (.ref b) ∧ h0.size ≤ b ∧ Arv Z h b kA .byte (Int32.ofNat (2 * 1)) (StrChars.Road.wideBytes [c0]) (.int 0)) := by
  refine Con.intro pn1 Z0 (fun _ q => nomatch q) trivial #[.val (.ref bb), .val (.int (0 : Int32)), .val (.int (1 : Int32)), .unset, .unset, .unset] (fun m => by first | (simp [entryFrame, mkF, argsToLocals, Value.category]; done) | rfl) ?_
  intro p e s m below meth c T0 hlk hret hnm K0
  have P0 := Keep.refl h0 []
  refine gIloadN K0 b35_0 (v := (1 : Int32)) rfl ?_
  refine gNewarr K0 b35_1 (wd hw 20 rfl) (by decide) 1 (by decide) (by decide) (by decide) (by decide) (fun T101 h101 x101 kA101 K101 E101 g101 A101 ne101 => ?_)
  have P102 := P0.ext E101
  have ge_x101 : h0.size ≤ x101 := by rw [g101]; exact P0.1
  refine gAstoreN K101 b35_3 rfl (Ls' := #[.val (.ref bb), .val (.int (0 : Int32)), .val (.int (1 : Int32)), .val (.ref x101), .unset, .unset]) rfl ?_
  refine gAloadN K101 b35_4 (v := (.ref bb)) rfl rfl ?_
  refine gIloadN K101 b35_5 (v := (0 : Int32)) rfl ?_
  refine gAloadN K101 b35_6 (v := (.ref x101)) rfl rfl ?_
  refine gIconst K101 (0 : Int32) b35_7 rfl ?_
  refine gIloadN K101 b35_8 (v := (1 : Int32)) rfl ?_
  refine gCallS K101 (W := 0) [(.ref bb), (.int (0 : Int32)), (.ref x101), (.int (0 : Int32)), (.int (1 : Int32))] [] b35_9 (wd hw 156 rfl) (wd hw 157 rfl) (wd hw 62 rfl) (wd hw 158 rfl) (Cal.ofN (W := 0) (c_cb5_3_1 l Z a0 hw h101 n0 K101.n0le c0 c1 c2 bb kA (Ab.ext E101) hp (u.ext E101) fm (Sf.ext E101) rf x101 _ (K101.wsge (me 0 rfl)) A101 (Nat.ne_of_lt (Nat.lt_of_lt_of_le Ab.lt ge_x101)) hu) (wd hw 158 rfl) (wd hw 62 rfl) (by decide) (by decide)) (fun z q => by cases List.mem_singleton.mp q; exact (me 0 rfl)) pd24 rfl rfl (Nat.le_of_eq rfl) rfl (by decide) (by decide) (by decide) (fun v103 T103 h103 K103 Q103 q103 => ?_)
  have P104 := P102.trans Q103 (fun z q => by cases List.mem_singleton.mp q; exact Or.inr ge_x101)
  obtain ⟨j, rfl, hj, hcj⟩ := q103
  refine gIstore K103 b35_12 (Ls' := #[.val (.ref bb), .val (.int (0 : Int32)), .val (.int (1 : Int32)), .val (.ref x101), .val (.int (Int32.ofNat j)), .unset]) rfl ?_
  refine gIload K103 b35_14 (v := (Int32.ofNat j)) rfl ?_
  refine gIloadN K103 b35_16 (v := (1 : Int32)) rfl ?_
  refine gIcmp_eq K103 b35_17 (fun q => absurd q (ofNat_ne hj (by decide))) (fun q17 => ?_)
  refine gAloadN K103 b35_20 (v := (.ref bb)) rfl rfl ?_
  refine gIloadN K103 b35_21 (v := (0 : Int32)) rfl ?_
  refine gIconst K103 (1 : Int32) b35_22 rfl ?_
  refine gIshlV K103 (0 : Int32) b35_23 (by decide) ?_
  refine gIloadN K103 b35_24 (v := (0 : Int32)) rfl ?_
  refine gIloadN K103 b35_25 (v := (1 : Int32)) rfl ?_
  refine gIaddV K103 (1 : Int32) b35_26 (by decide) ?_
  refine gCallS K103 (W := 2) [(.int (1 : Int32))] [(.int (0 : Int32)), (.ref bb)] b35_27 (wd hw 126 rfl) (wd hw 127 rfl) (wd hw 62 rfl) (wd hw 128 rfl) (Cal.ofN (W := 2) (c_nbl1 l Z a0 hw h103 n0 K103.n0le) (wd hw 128 rfl) (wd hw 62 rfl) (by decide) (by decide)) (fun _ q => nomatch q) pd1 rfl rfl (Nat.le_of_eq rfl) rfl (by decide) (by decide) (by decide) (fun v105 T105 h105 K105 Q105 q105 => ?_)
  have E105 := Ext.of0 Q105
  have P106 := P104.ext E105
  cases q105
  refine gCallS K105 (W := 0) [(.ref bb), (.int (0 : Int32)), (.int (2 : Int32))] [] b35_30 (wd hw 168 rfl) (wd hw 99 rfl) (wd hw 100 rfl) (wd hw 101 rfl) (Cal.ofN (W := 0) (c_cor6_2 l Z a0 hw h105 n0 K105.n0le bb kA _ (Ab.ext (Ext.tr (Ext.kp1 E101 Q103 (Nat.le_of_eq g101.symm)) E105)) rfl) (wd hw 101 rfl) (wd hw 100 rfl) (by decide) (by decide)) (fun _ q => nomatch q) pd22 rfl rfl (Nat.le_of_eq rfl) rfl (by decide) (by decide) (by decide) (fun v107 T107 h107 K107 Q107 q107 => ?_)
  have E107 := Ext.of0 Q107
  have P108 := P106.ext E107
  obtain ⟨b2, k2, rfl, g2, A2⟩ := q107
  have A2' : Arv Z h107 b2 k2 .byte (Int32.ofNat (2 * [c0].length)) (StrChars.Road.wideBytes [c0]) (.int 0) := A2
  have gb0 : h0.size ≤ b2 := Nat.le_trans P106.1 g2
  refine gAstore K107 b35_33 rfl (Ls' := #[.val (.ref bb), .val (.int (0 : Int32)), .val (.int (1 : Int32)), .val (.ref x101), .val (.int (Int32.ofNat j)), .val (.ref b2)]) rfl ?_
  refine gAload K107 b35_35 (v := (.ref b2)) rfl rfl ?_
  refine gIload K107 b35_37 (v := (Int32.ofNat j)) rfl ?_
  refine gCallS K107 (W := 0) [(.ref b2), (.int (Int32.ofNat j))] [] b35_39 (wd hw 136 rfl) (wd hw 137 rfl) (wd hw 62 rfl) (wd hw 138 rfl) (Cal.ofN (W := 0) (c_getChar l Z a0 hw h107 n0 K107.n0le b2 k2 [c0] j A2' (fun c hc => hp c (List.mem_append_left [c1, c2] hc)) hj (Nat.le_of_ble_eq_true rfl) (u.ext (Ext.tr (Ext.tr (Ext.kp1 E101 Q103 (Nat.le_of_eq g101.symm)) E105) E107))) (wd hw 138 rfl) (wd hw 62 rfl) (by decide) (by decide)) (fun _ q => nomatch q) pd6 rfl rfl (Nat.le_of_eq rfl) rfl (by decide) (by decide) (by decide) (fun v109 T109 h109 K109 Q109 q109 => ?_)
  have E109 := Ext.of0 Q109
  have P110 := P108.ext E109
  cases q109
  refine gSipush K109 (255 : Int32) b35_42 rfl ?_
  refine gIcmp_gt K109 b35_45 (fun q45 => ?_) (fun q => absurd q (not_not_intro hcj))
  refine gAload K109 b35_61 (v := (.ref b2)) rfl rfl ?_
  refine gRetA K109 hlk hret rfl rfl b35_63 P110 (by decide) (by decide) ?_
  exact ⟨b2, k2, rfl, gb0, (A2'.ext E109)⟩
set_option maxRecDepth 65536 in
set_option maxHeartbeats 40000000 in
theorem c_nsU3_1 (l : Launch) (Z : State) (a0 : Array Value) (hw : ∀ d ∈ tables_1, d.before a0 Z = true) (h0 : Heap) (n0 : Nat) (Z0 : n0 ≤ h0.size) (c0 c1 c2 : Int32) (bb : Addr) (kA : ClassId) (Ab : Arv Z h0 bb kA .byte (Int32.ofNat (2 * 3)) (StrChars.Road.wideBytes [c0, c1, c2]) (.int 0)) (hp : ∀ c ∈ [c0, c1, c2], ¬ c < 0 ∧ ¬ (65535 : Int32) < c) (u : US Z h0) (fm : Value) (Sf : Sta Z h0 "jdk/internal/util/Preconditions" "SIOOBE_FORMATTER" "Ljava/util/function/BiFunction;" fm) (rf : fm.isRef = true) (hu : ∃ c ∈ [c0], (255 : Int32) < c) (z : Int32) (Sc : Sta Z h0 "java/lang/String" "COMPACT_STRINGS" "Z" (.int z)) (hz : ¬ z = 0) :
    Con none l (⟨"java/lang/StringUTF16", "newString", "([BII)Ljava/lang/String;"⟩ : MethodName) jdk_52_method_69_code 5 (some (.object "java/lang/String")) [] ({ frames := 5, cells := 3, slots := 7, locals := 94 } : Room) Z n0 h0 [] #[(.ref bb), (.int (0 : Int32)), (.int (1 : Int32))] (fun v h => ∃ x : Addr, v = some (.ref x) ∧ StrU Z h x [c0]) := by
  refine Con.intro pn1 Z0 (fun _ q => nomatch q) trivial #[.val (.ref bb), .val (.int (0 : Int32)), .val (.int (1 : Int32)), .unset, .unset] (fun m => by first | (simp [entryFrame, mkF, argsToLocals, Value.category]; done) | rfl) ?_
  intro p e s m below meth c T0 hlk hret hnm K0
  have P0 := Keep.refl h0 []
  refine gIloadN K0 b34_0 (v := (1 : Int32)) rfl ?_
  refine gIf_ne K0 b34_1 (fun q1 => ?_) (fun q => absurd q (by first | decide | (intro hh; cases hh) | simp))
  refine gGetS K0 b34_8 (wd hw 152 rfl) Sc (fun T101 K101 => ?_)
  refine gIf_eq K101 b34_11 (fun q => absurd q hz) (fun q11 => ?_)
  refine gAloadN K101 b34_14 (v := (.ref bb)) rfl rfl ?_
  refine gIloadN K101 b34_15 (v := (0 : Int32)) rfl ?_
  refine gIloadN K101 b34_16 (v := (1 : Int32)) rfl ?_
  refine gCallS K101 (W := 0) [(.ref bb), (.int (0 : Int32)), (.int (1 : Int32))] [] b34_17 (wd hw 153 rfl) (wd hw 154 rfl) (wd hw 62 rfl) (wd hw 155 rfl) (Cal.ofN (W := 0) (c_cb3_3_1 l Z a0 hw h0 n0 K101.n0le c0 c1 c2 bb kA Ab hp u fm Sf rf hu) (wd hw 155 rfl) (wd hw 62 rfl) (by decide) (by decide)) (fun _ q => nomatch q) pd22 rfl rfl (Nat.le_of_eq rfl) rfl (by decide) (by decide) (by decide) (fun v102 T102 h102 K102 Q102 q102 => ?_)
  have E102 := Ext.of0 Q102
  have P103 := P0.ext E102
  obtain ⟨b2, k2, rfl, g2, A2⟩ := q102
  refine gAstoreN K102 b34_20 rfl (Ls' := #[.val (.ref bb), .val (.int (0 : Int32)), .val (.int (1 : Int32)), .val (.ref b2), .unset]) rfl ?_
  refine gAloadN K102 b34_21 (v := (.ref b2)) rfl rfl ?_
  refine gIloadN K102 b34_22 (v := (1 : Int32)) rfl ?_
  refine gCallS K102 (W := 0) [(.ref b2), (.int (1 : Int32))] [] b34_23 (wd hw 169 rfl) (wd hw 68 rfl) (wd hw 62 rfl) (wd hw 69 rfl) (Cal.ofN (W := 0) (c_cfa1 l Z a0 hw h102 n0 K102.n0le b2 k2 _ _ A2) (wd hw 69 rfl) (wd hw 62 rfl) (by decide) (by decide)) (fun _ q => nomatch q) pd7 rfl rfl (Nat.le_of_eq rfl) rfl (by decide) (by decide) (by decide) (fun v104 T104 h104 K104 Q104 q104 => ?_)
  have E104 := Ext.of0 Q104
  have P105 := P103.ext E104
  cases q104
  refine gIstore K104 b34_26 (Ls' := #[.val (.ref bb), .val (.int (0 : Int32)), .val (.int (1 : Int32)), .val (.ref b2), .val (.int (1 : Int32))]) rfl ?_
  refine gNew K104 b34_28 (wd hw 170 rfl) (wd hw 6 rfl) (wd hw 7 rfl) (by decide) (by decide) (fun T106 h106 x106 K106 E106 g106 A106 D106 ne106 => ?_)
  have P107 := P105.ext E106
  have ge_x106 : h0.size ≤ x106 := by rw [g106]; exact P105.1
  have F108 : Fld Z h106 x106 "java/lang/String" "value" "[B" .null := (D106 (Or.inr (wd hw 21 rfl)) (ty := (.array .byte)) (by decide))
  have F109 : Fld Z h106 x106 "java/lang/String" "coder" "B" (.int (0 : Int32)) := (D106 (Or.inr (wd hw 22 rfl)) (ty := .byte) (by decide))
  refine gDup K106 b34_31 rfl ?_
  refine gAloadN K106 b34_32 (v := (.ref b2)) rfl rfl ?_
  refine gIload K106 b34_33 (v := (1 : Int32)) rfl ?_
  refine gCallI K106 (W := 1) x106 [(.ref b2), (.int (1 : Int32))] [(.ref x106)] b34_35 rfl (wd hw 171 rfl) (wd hw 117 rfl) (wd hw 118 rfl) (Cal.ofN (W := 1) (c_initBB l Z a0 hw h106 n0 K106.n0le x106 b2 (1 : Int32) _ _ (by decide) (K106.wsge (me 0 rfl)) A106 F108 F109) (wd hw 118 rfl) (wd hw 7 rfl) (by decide) (by decide)) (fun z q => by cases List.mem_singleton.mp q; exact (me 0 rfl)) pd25 rfl rfl (Nat.le_of_eq rfl) rfl (by decide) (by decide) (by decide) (fun v110 T110 h110 K110 Q110 q110 => ?_)
  have P111 := P107.trans Q110 (fun z q => by cases List.mem_singleton.mp q; exact Or.inr ge_x106)
  obtain ⟨rfl, Ex110, Fv110, Fc110⟩ := q110
  refine gRetA K110 hlk hret rfl rfl b34_38 P111 (by decide) (by decide) ?_
  exact ⟨_, rfl, b2, k2, Ex110, Fc110, Fv110, (A2.ext (Ext.kp1 (Ext.tr E104 E106) Q110 (Nat.le_trans E104.1 (Nat.le_of_eq g106.symm)))), (fun c hc => hp c (List.mem_append_left [c1, c2] hc)), hu, Nat.le_of_ble_eq_true rfl⟩
set_option maxRecDepth 65536 in
set_option maxHeartbeats 40000000 in
theorem c_nsL3_1 (l : Launch) (Z : State) (a0 : Array Value) (hw : ∀ d ∈ tables_1, d.before a0 Z = true) (h0 : Heap) (n0 : Nat) (Z0 : n0 ≤ h0.size) (c0 c1 c2 : Int32) (bb : Addr) (kA : ClassId) (Ab : Arv Z h0 bb kA .byte (3 : Int32) (([c0, c1, c2].map StrChars.lo8).map Value.int) (.int 0)) (hp : ∀ c ∈ [c0], ¬ c < 0 ∧ ¬ (255 : Int32) < c) :
    Con none l (⟨"java/lang/StringLatin1", "newString", "([BII)Ljava/lang/String;"⟩ : MethodName) jdk_43_method_47_code 3 (some (.object "java/lang/String")) [] ({ frames := 3, cells := 2, slots := 5, locals := 75 } : Room) Z n0 h0 [] #[(.ref bb), (.int (0 : Int32)), (.int (1 : Int32))] (fun v h => ∃ x : Addr, v = some (.ref x) ∧ StrL Z h x [c0]) := by
  refine Con.intro pn5 Z0 (fun _ q => nomatch q) trivial #[.val (.ref bb), .val (.int (0 : Int32)), .val (.int (1 : Int32))] (fun m => by first | (simp [entryFrame, mkF, argsToLocals, Value.category]; done) | rfl) ?_
  intro p e s m below meth c T0 hlk hret hnm K0
  have P0 := Keep.refl h0 []
  refine gIloadN K0 b20_0 (v := (1 : Int32)) rfl ?_
  refine gIf_ne K0 b20_1 (fun q1 => ?_) (fun q => absurd q (by first | decide | (intro hh; cases hh) | simp))
  refine gNew K0 b20_7 (wd hw 97 rfl) (wd hw 6 rfl) (wd hw 7 rfl) (by decide) (by decide) (fun T101 h101 x101 K101 E101 g101 A101 D101 ne101 => ?_)
  have P102 := P0.ext E101
  have ge_x101 : h0.size ≤ x101 := by rw [g101]; exact P0.1
  have F103 : Fld Z h101 x101 "java/lang/String" "value" "[B" .null := (D101 (Or.inr (wd hw 21 rfl)) (ty := (.array .byte)) (by decide))
  have F104 : Fld Z h101 x101 "java/lang/String" "coder" "B" (.int (0 : Int32)) := (D101 (Or.inr (wd hw 22 rfl)) (ty := .byte) (by decide))
  refine gDup K101 b20_10 rfl ?_
  refine gAloadN K101 b20_11 (v := (.ref bb)) rfl rfl ?_
  refine gIloadN K101 b20_12 (v := (0 : Int32)) rfl ?_
  refine gIloadN K101 b20_13 (v := (0 : Int32)) rfl ?_
  refine gIloadN K101 b20_14 (v := (1 : Int32)) rfl ?_
  refine gIaddV K101 (1 : Int32) b20_15 (by decide) ?_
  refine gCallS K101 (W := 2) [(.ref bb), (.int (0 : Int32)), (.int (1 : Int32))] [(.ref x101), (.ref x101)] b20_16 (wd hw 98 rfl) (wd hw 99 rfl) (wd hw 100 rfl) (wd hw 101 rfl) (Cal.ofN (W := 2) (c_cor3_1 l Z a0 hw h101 n0 K101.n0le bb kA _ (Ab.ext E101) rfl) (wd hw 101 rfl) (wd hw 100 rfl) (by decide) (by decide)) (fun _ q => nomatch q) pd22 rfl rfl (Nat.le_of_eq rfl) rfl (by decide) (by decide) (by decide) (fun v105 T105 h105 K105 Q105 q105 => ?_)
  have E105 := Ext.of0 Q105
  have P106 := P102.ext E105
  obtain ⟨b2, k2, rfl, g2, A2⟩ := q105
  have A2' : Arv Z h105 b2 k2 .byte (Int32.ofNat [c0].length) (([c0].map StrChars.lo8).map Value.int) (.int 0) := A2
  refine gIconst K105 (0 : Int32) b20_19 rfl ?_
  refine gCallI K105 (W := 1) x101 [(.ref b2), (.int (0 : Int32))] [(.ref x101)] b20_20 rfl (wd hw 116 rfl) (wd hw 117 rfl) (wd hw 118 rfl) (Cal.ofN (W := 1) (c_initBB l Z a0 hw h105 n0 K105.n0le x101 b2 (0 : Int32) _ _ (by decide) (K105.wsge (me 0 rfl)) (A101.ext E105) (F103.ext E105) (F104.ext E105)) (wd hw 118 rfl) (wd hw 7 rfl) (by decide) (by decide)) (fun z q => by cases List.mem_singleton.mp q; exact (me 0 rfl)) pd25 rfl rfl (Nat.le_of_eq rfl) rfl (by decide) (by decide) (by decide) (fun v107 T107 h107 K107 Q107 q107 => ?_)
  have P108 := P106.trans Q107 (fun z q => by cases List.mem_singleton.mp q; exact Or.inr ge_x101)
  obtain ⟨rfl, Ex107, Fv107, Fc107⟩ := q107
  refine gRetA K107 hlk hret rfl rfl b20_23 P108 (by decide) (by decide) ?_
  exact ⟨_, rfl, b2, k2, Ex107, Fc107, Fv107, (A2'.keep Q107 (ninS (Nat.ne_of_gt (Nat.lt_of_lt_of_le A101.lt g2)) nin0)), hp, Nat.le_of_ble_eq_true rfl⟩
set_option maxRecDepth 65536 in
set_option maxHeartbeats 40000000 in
theorem c_subL3_1 (l : Launch) (Z : State) (a0 : Array Value) (hw : ∀ d ∈ tables_1, d.before a0 Z = true) (h0 : Heap) (n0 : Nat) (Z0 : n0 ≤ h0.size) (c0 c1 c2 : Int32) (x : Addr) (A : StrL Z h0 x [c0, c1, c2]) (z : Int32) (Sc : Sta Z h0 "java/lang/String" "COMPACT_STRINGS" "Z" (.int z)) (hz : ¬ z = 0) (fm : Value) (Sf : Sta Z h0 "jdk/internal/util/Preconditions" "SIOOBE_FORMATTER" "Ljava/util/function/BiFunction;" fm) (rf : fm.isRef = true) (u : US Z h0) :
    Con none l (⟨"java/lang/String", "substring", "(II)Ljava/lang/String;"⟩ : MethodName) jdk_42_method_92_code 5 (some (.object "java/lang/String")) [] ({ frames := 6, cells := 3, slots := 16, locals := 112 } : Room) Z n0 h0 [] #[(.ref x), (.int (0 : Int32)), (.int (1 : Int32))] (fun v h => ∃ x : Addr, v = some (.ref x) ∧ StrA Z h x [c0]) := by
  refine Con.intro pn0 Z0 (fun _ q => nomatch q) trivial #[.val (.ref x), .val (.int (0 : Int32)), .val (.int (1 : Int32)), .unset, .unset] (fun m => by first | (simp [entryFrame, mkF, argsToLocals, Value.category]; done) | rfl) ?_
  intro p e s m below meth c T0 hlk hret hnm K0
  have P0 := Keep.refl h0 []
  have A_ := A
  obtain ⟨bb, kA, Ex, Fc, Fv, Ab, hp, hN⟩ := A_
  refine gAloadN K0 b7_0 (v := (.ref x)) rfl rfl ?_
  refine gCallV K0 (W := 0) (C := "java/lang/String") x [] [] b7_1 (wd hw 47 rfl) (wd hw 32 rfl) (wd hw 34 rfl) (wd hw 33 rfl) (cal_lenA hw K0.n0le (W := 0) (cs := [c0, c1, c2]) (Or.inl A) Sc hz (by decide) (by decide)) (StrA.exa ((Or.inl A) : StrA Z _ x [c0, c1, c2])) (fun _ q => nomatch q) pd16 rfl rfl (Nat.le_of_eq rfl) rfl (by decide) (by decide) (by decide) (fun v101 T101 h101 K101 Q101 q101 => ?_)
  have E101 := Ext.of0 Q101
  have P102 := P0.ext E101
  have q101' : v101 = some (.int (3 : Int32)) := q101
  cases q101'
  refine gIstoreN K101 b7_4 (Ls' := #[.val (.ref x), .val (.int (0 : Int32)), .val (.int (1 : Int32)), .val (.int (3 : Int32)), .unset]) rfl ?_
  refine gIloadN K101 b7_5 (v := (0 : Int32)) rfl ?_
  refine gIloadN K101 b7_6 (v := (1 : Int32)) rfl ?_
  refine gIloadN K101 b7_7 (v := (3 : Int32)) rfl ?_
  refine gCallS K101 (W := 0) [(.int (0 : Int32)), (.int (1 : Int32)), (.int (3 : Int32))] [] b7_8 (wd hw 48 rfl) (wd hw 49 rfl) (wd hw 7 rfl) (wd hw 50 rfl) (Cal.ofN (W := 0) (c_cbe l Z a0 hw h101 n0 K101.n0le 3 1 (by decide) (by decide) fm (Sf.ext E101) rf) (wd hw 50 rfl) (wd hw 7 rfl) (by decide) (by decide)) (fun _ q => nomatch q) pd17 rfl rfl (Nat.le_of_eq rfl) rfl (by decide) (by decide) (by decide) (fun v103 T103 h103 K103 Q103 q103 => ?_)
  have E103 := Ext.of0 Q103
  have P104 := P102.ext E103
  cases q103
  refine gIloadN K103 b7_11 (v := (0 : Int32)) rfl ?_
  refine gIf_ne K103 b7_12 (fun q => absurd q (by first | decide | (intro hh; cases hh) | simp)) (fun q12 => ?_)
  refine gIloadN K103 b7_15 (v := (1 : Int32)) rfl ?_
  refine gIloadN K103 b7_16 (v := (3 : Int32)) rfl ?_
  refine gIcmp_ne K103 b7_17 (fun q17 => ?_) (fun q => absurd q (by first | decide | (intro hh; cases hh) | simp))
  refine gIloadN K103 b7_22 (v := (1 : Int32)) rfl ?_
  refine gIloadN K103 b7_23 (v := (0 : Int32)) rfl ?_
  refine gIsubV K103 (1 : Int32) b7_24 (by decide) ?_
  refine gIstore K103 b7_25 (Ls' := #[.val (.ref x), .val (.int (0 : Int32)), .val (.int (1 : Int32)), .val (.int (3 : Int32)), .val (.int (1 : Int32))]) rfl ?_
  refine gAloadN K103 b7_27 (v := (.ref x)) rfl rfl ?_
  refine gCallV K103 (W := 0) (C := "java/lang/String") x [] [] b7_28 (wd hw 75 rfl) (wd hw 76 rfl) (wd hw 78 rfl) (wd hw 77 rfl) (Cal.ofN (W := 0) (c_isL0 l Z a0 hw h103 n0 K103.n0le x (Fc.ext (Ext.tr E101 E103)) z (Sc.ext (Ext.tr E101 E103)) hz) (wd hw 79 rfl) (wd hw 7 rfl) (by decide) (by decide)) (Ex.ext (Ext.tr E101 E103)) (fun _ q => nomatch q) pd12 rfl rfl (Nat.le_of_eq rfl) rfl (by decide) (by decide) (by decide) (fun v105 T105 h105 K105 Q105 q105 => ?_)
  have E105 := Ext.of0 Q105
  have P106 := P104.ext E105
  cases q105
  refine gIf_eq K105 b7_31 (fun q => absurd q (by first | decide | (intro hh; cases hh) | simp)) (fun q31 => ?_)
  refine gAloadN K105 b7_34 (v := (.ref x)) rfl rfl ?_
  refine gGet K105 b7_35 (wd hw 25 rfl) (Fv.ext (Ext.tr (Ext.tr E101 E103) E105)) (fun T107 K107 => ?_)
  refine gIloadN K107 b7_38 (v := (0 : Int32)) rfl ?_
  refine gIload K107 b7_39 (v := (1 : Int32)) rfl ?_
  refine gCallS K107 (W := 0) [(.ref bb), (.int (0 : Int32)), (.int (1 : Int32))] [] b7_41 (wd hw 94 rfl) (wd hw 95 rfl) (wd hw 82 rfl) (wd hw 96 rfl) (Cal.ofN (W := 0) (c_nsL3_1 l Z a0 hw h105 n0 K107.n0le c0 c1 c2 bb kA (Ab.ext (Ext.tr (Ext.tr E101 E103) E105)) (fun c hc => hp c (List.mem_append_left [c1, c2] hc))) (wd hw 96 rfl) (wd hw 82 rfl) (by decide) (by decide)) (fun _ q => nomatch q) pd19 rfl rfl (Nat.le_of_eq rfl) rfl (by decide) (by decide) (by decide) (fun v108 T108 h108 K108 Q108 q108 => ?_)
  have E108 := Ext.of0 Q108
  have P109 := P106.ext E108
  obtain ⟨xr, rfl, Sr⟩ := q108
  refine gGoto K108 b7_44 ?_
  refine gRetA K108 hlk hret rfl rfl b7_57 P109 (by decide) (by decide) ?_
  exact ⟨_, rfl, Or.inl Sr⟩
set_option maxRecDepth 65536 in
set_option maxHeartbeats 40000000 in
theorem c_subU3_1 (l : Launch) (Z : State) (a0 : Array Value) (hw : ∀ d ∈ tables_1, d.before a0 Z = true) (h0 : Heap) (n0 : Nat) (Z0 : n0 ≤ h0.size) (c0 c1 c2 : Int32) (x : Addr) (A : StrU Z h0 x [c0, c1, c2]) (z : Int32) (Sc : Sta Z h0 "java/lang/String" "COMPACT_STRINGS" "Z" (.int z)) (hz : ¬ z = 0) (fm : Value) (Sf : Sta Z h0 "jdk/internal/util/Preconditions" "SIOOBE_FORMATTER" "Ljava/util/function/BiFunction;" fm) (rf : fm.isRef = true) (u : US Z h0) (hu : ∃ c ∈ [c0], (255 : Int32) < c) :
    Con none l (⟨"java/lang/String", "substring", "(II)Ljava/lang/String;"⟩ : MethodName) jdk_42_method_92_code 5 (some (.object "java/lang/String")) [] ({ frames := 6, cells := 3, slots := 16, locals := 112 } : Room) Z n0 h0 [] #[(.ref x), (.int (0 : Int32)), (.int (1 : Int32))] (fun v h => ∃ x : Addr, v = some (.ref x) ∧ StrA Z h x [c0]) := by
  refine Con.intro pn0 Z0 (fun _ q => nomatch q) trivial #[.val (.ref x), .val (.int (0 : Int32)), .val (.int (1 : Int32)), .unset, .unset] (fun m => by first | (simp [entryFrame, mkF, argsToLocals, Value.category]; done) | rfl) ?_
  intro p e s m below meth c T0 hlk hret hnm K0
  have P0 := Keep.refl h0 []
  have A_ := A
  obtain ⟨bb, kA, Ex, Fc, Fv, Ab, hp, hu0, hN⟩ := A_
  refine gAloadN K0 b7_0 (v := (.ref x)) rfl rfl ?_
  refine gCallV K0 (W := 0) (C := "java/lang/String") x [] [] b7_1 (wd hw 47 rfl) (wd hw 32 rfl) (wd hw 34 rfl) (wd hw 33 rfl) (cal_lenA hw K0.n0le (W := 0) (cs := [c0, c1, c2]) (Or.inr A) Sc hz (by decide) (by decide)) (StrA.exa ((Or.inr A) : StrA Z _ x [c0, c1, c2])) (fun _ q => nomatch q) pd16 rfl rfl (Nat.le_of_eq rfl) rfl (by decide) (by decide) (by decide) (fun v101 T101 h101 K101 Q101 q101 => ?_)
  have E101 := Ext.of0 Q101
  have P102 := P0.ext E101
  have q101' : v101 = some (.int (3 : Int32)) := q101
  cases q101'
  refine gIstoreN K101 b7_4 (Ls' := #[.val (.ref x), .val (.int (0 : Int32)), .val (.int (1 : Int32)), .val (.int (3 : Int32)), .unset]) rfl ?_
  refine gIloadN K101 b7_5 (v := (0 : Int32)) rfl ?_
  refine gIloadN K101 b7_6 (v := (1 : Int32)) rfl ?_
  refine gIloadN K101 b7_7 (v := (3 : Int32)) rfl ?_
  refine gCallS K101 (W := 0) [(.int (0 : Int32)), (.int (1 : Int32)), (.int (3 : Int32))] [] b7_8 (wd hw 48 rfl) (wd hw 49 rfl) (wd hw 7 rfl) (wd hw 50 rfl) (Cal.ofN (W := 0) (c_cbe l Z a0 hw h101 n0 K101.n0le 3 1 (by decide) (by decide) fm (Sf.ext E101) rf) (wd hw 50 rfl) (wd hw 7 rfl) (by decide) (by decide)) (fun _ q => nomatch q) pd17 rfl rfl (Nat.le_of_eq rfl) rfl (by decide) (by decide) (by decide) (fun v103 T103 h103 K103 Q103 q103 => ?_)
  have E103 := Ext.of0 Q103
  have P104 := P102.ext E103
  cases q103
  refine gIloadN K103 b7_11 (v := (0 : Int32)) rfl ?_
  refine gIf_ne K103 b7_12 (fun q => absurd q (by first | decide | (intro hh; cases hh) | simp)) (fun q12 => ?_)
  refine gIloadN K103 b7_15 (v := (1 : Int32)) rfl ?_
  refine gIloadN K103 b7_16 (v := (3 : Int32)) rfl ?_
  refine gIcmp_ne K103 b7_17 (fun q17 => ?_) (fun q => absurd q (by first | decide | (intro hh; cases hh) | simp))
  refine gIloadN K103 b7_22 (v := (1 : Int32)) rfl ?_
  refine gIloadN K103 b7_23 (v := (0 : Int32)) rfl ?_
  refine gIsubV K103 (1 : Int32) b7_24 (by decide) ?_
  refine gIstore K103 b7_25 (Ls' := #[.val (.ref x), .val (.int (0 : Int32)), .val (.int (1 : Int32)), .val (.int (3 : Int32)), .val (.int (1 : Int32))]) rfl ?_
  refine gAloadN K103 b7_27 (v := (.ref x)) rfl rfl ?_
  refine gCallV K103 (W := 0) (C := "java/lang/String") x [] [] b7_28 (wd hw 75 rfl) (wd hw 76 rfl) (wd hw 78 rfl) (wd hw 77 rfl) (Cal.ofN (W := 0) (c_isL1 l Z a0 hw h103 n0 K103.n0le x (Fc.ext (Ext.tr E101 E103)) z (Sc.ext (Ext.tr E101 E103)) hz) (wd hw 79 rfl) (wd hw 7 rfl) (by decide) (by decide)) (Ex.ext (Ext.tr E101 E103)) (fun _ q => nomatch q) pd12 rfl rfl (Nat.le_of_eq rfl) rfl (by decide) (by decide) (by decide) (fun v105 T105 h105 K105 Q105 q105 => ?_)
  have E105 := Ext.of0 Q105
  have P106 := P104.ext E105
  cases q105
  refine gIf_eq K105 b7_31 (fun q31 => ?_) (fun q => absurd q (by first | decide | (intro hh; cases hh) | simp))
  refine gAloadN K105 b7_47 (v := (.ref x)) rfl rfl ?_
  refine gGet K105 b7_48 (wd hw 25 rfl) (Fv.ext (Ext.tr (Ext.tr E101 E103) E105)) (fun T107 K107 => ?_)
  refine gIloadN K107 b7_51 (v := (0 : Int32)) rfl ?_
  refine gIload K107 b7_52 (v := (1 : Int32)) rfl ?_
  refine gCallS K107 (W := 0) [(.ref bb), (.int (0 : Int32)), (.int (1 : Int32))] [] b7_54 (wd hw 149 rfl) (wd hw 150 rfl) (wd hw 62 rfl) (wd hw 151 rfl) (Cal.ofN (W := 0) (c_nsU3_1 l Z a0 hw h105 n0 K107.n0le c0 c1 c2 bb kA (Ab.ext (Ext.tr (Ext.tr E101 E103) E105)) hp (u.ext (Ext.tr (Ext.tr E101 E103) E105)) fm (Sf.ext (Ext.tr (Ext.tr E101 E103) E105)) rf hu z (Sc.ext (Ext.tr (Ext.tr E101 E103) E105)) hz) (wd hw 151 rfl) (wd hw 62 rfl) (by decide) (by decide)) (fun _ q => nomatch q) pd19 rfl rfl (Nat.le_of_eq rfl) rfl (by decide) (by decide) (by decide) (fun v108 T108 h108 K108 Q108 q108 => ?_)
  have E108 := Ext.of0 Q108
  have P109 := P106.ext E108
  obtain ⟨xr, rfl, Sr⟩ := q108
  refine gRetA K108 hlk hret rfl rfl b7_57 P109 (by decide) (by decide) ?_
  exact ⟨_, rfl, Or.inr Sr⟩
set_option maxRecDepth 65536 in
set_option maxHeartbeats 40000000 in
theorem c_corB3_2 (l : Launch) (Z : State) (a0 : Array Value) (hw : ∀ d ∈ tables_1, d.before a0 Z = true) (h0 : Heap) (n0 : Nat) (Z0 : n0 ≤ h0.size) (bb : Addr) (kA : ClassId) (vs : List Value) (Ab : Arv Z h0 bb kA .byte (3 : Int32) vs (.int 0)) (hv : vs.length = 3) :
    Con none l (⟨"java/util/Arrays", "copyOfRangeByte", "([BII)[B"⟩ : MethodName) jdk_65_method_133_code 5 (some (.array .byte)) [] ({ frames := 1, cells := 1, slots := 2, locals := 40 } : Room) Z n0 h0 [] #[(.ref bb), (.int (0 : Int32)), (.int (2 : Int32))] (fun v h => ∃ (b : Addr) (kA : ClassId), v = some (.ref b) ∧ h0.size ≤ b ∧ Arv Z h b kA .byte (2 : Int32) (vs.take 2) (.int 0)) := by
  refine Con.intro pn6 Z0 (fun _ q => nomatch q) trivial #[.val (.ref bb), .val (.int (0 : Int32)), .val (.int (2 : Int32)), .unset, .unset] (fun m => by first | (simp [entryFrame, mkF, argsToLocals, Value.category]; done) | rfl) ?_
  intro p e s m below meth c T0 hlk hret hnm K0
  have P0 := Keep.refl h0 []
  refine gIloadN K0 b22_0 (v := (0 : Int32)) rfl ?_
  refine gIloadN K0 b22_1 (v := (2 : Int32)) rfl ?_
  refine gCallS K0 (W := 0) [(.int (0 : Int32)), (.int (2 : Int32))] [] b22_2 (wd hw 105 rfl) (wd hw 106 rfl) (wd hw 100 rfl) (wd hw 107 rfl) (Cal.ofN (W := 0) (c_ckl l Z a0 hw h0 n0 K0.n0le 2 (by decide)) (wd hw 107 rfl) (wd hw 100 rfl) (by decide) (by decide)) (fun _ q => nomatch q) pd10 rfl rfl (Nat.le_of_eq rfl) rfl (by decide) (by decide) (by decide) (fun v101 T101 h101 K101 Q101 q101 => ?_)
  have E101 := Ext.of0 Q101
  have P102 := P0.ext E101
  cases q101
  refine gIloadN K101 b22_5 (v := (2 : Int32)) rfl ?_
  refine gIloadN K101 b22_6 (v := (0 : Int32)) rfl ?_
  refine gIsubV K101 (2 : Int32) b22_7 (by decide) ?_
  refine gIstoreN K101 b22_8 (Ls' := #[.val (.ref bb), .val (.int (0 : Int32)), .val (.int (2 : Int32)), .val (.int (2 : Int32)), .unset]) rfl ?_
  refine gIloadN K101 b22_9 (v := (2 : Int32)) rfl ?_
  refine gNewarr K101 b22_10 (wd hw 20 rfl) (by decide) 2 (by decide) (by decide) (by decide) (by decide) (fun T103 h103 x103 kA103 K103 E103 g103 A103 ne103 => ?_)
  have P104 := P102.ext E103
  have ge_x103 : h0.size ≤ x103 := by rw [g103]; exact P102.1
  refine gAstore K103 b22_12 rfl (Ls' := #[.val (.ref bb), .val (.int (0 : Int32)), .val (.int (2 : Int32)), .val (.int (2 : Int32)), .val (.ref x103)]) rfl ?_
  refine gAloadN K103 b22_14 (v := (.ref bb)) rfl rfl ?_
  refine gIloadN K103 b22_15 (v := (0 : Int32)) rfl ?_
  refine gAload K103 b22_16 (v := (.ref x103)) rfl rfl ?_
  refine gIconst K103 (0 : Int32) b22_18 rfl ?_
  refine gAloadN K103 b22_19 (v := (.ref bb)) rfl rfl ?_
  refine gLen K103 b22_20 (Ab.ext (Ext.tr E101 E103)) ?_
  refine gIloadN K103 b22_21 (v := (0 : Int32)) rfl ?_
  refine gIsubV K103 (3 : Int32) b22_22 (by decide) ?_
  refine gIloadN K103 b22_23 (v := (2 : Int32)) rfl ?_
  refine gCallS K103 (W := 4) [(.int (3 : Int32)), (.int (2 : Int32))] [(.int (0 : Int32)), (.ref x103), (.int (0 : Int32)), (.ref bb)] b22_24 (wd hw 108 rfl) (wd hw 109 rfl) (wd hw 110 rfl) (wd hw 111 rfl) (Cal.ofN (W := 4) (c_min l Z a0 hw h103 n0 K103.n0le 3 2 (by decide) (by decide)) (wd hw 111 rfl) (wd hw 110 rfl) (by decide) (by decide)) (fun _ q => nomatch q) pd21 rfl rfl (Nat.le_of_eq rfl) rfl (by decide) (by decide) (by decide) (fun v105 T105 h105 K105 Q105 q105 => ?_)
  have E105 := Ext.of0 Q105
  have P106 := P104.ext E105
  have q105' : v105 = some (.int (2 : Int32)) := q105
  cases q105'
  refine gCopy K105 b22_27 (wd hw 112 rfl) (wd hw 115 rfl) (wd hw 113 rfl) (wd hw 114 rfl) (me 0 rfl) (Ab.ext (Ext.tr (Ext.tr E101 E103) E105)) (Arv.pad (A103.ext E105) (pad_rep [] (.int 0) 2)) (by decide) (by decide) (by decide) (by decide) (by decide) (us := vs.take 2) (range_take (t := 2) (by omega)) (by decide) rfl (by decide) (W := 0) (Nat.le_of_eq rfl) (by decide) (fun T107 h107 K107 Q107 A107 => ?_)
  have P108 := P106.trans Q107 (fun z q => by cases List.mem_singleton.mp q; exact Or.inr ge_x103)
  have B107 : Arv Z h107 x103 kA103 .byte (2 : Int32) (vs.take 2) (.int 0) := by rw [show vs.take 2 = [] ++ vs.take 2 ++ [] from (List.append_nil _).symm]; exact A107
  refine gAload K107 b22_30 (v := (.ref x103)) rfl rfl ?_
  refine gRetA K107 hlk hret rfl rfl b22_32 P108 (by decide) (by decide) ?_
  exact ⟨_, _, rfl, ge_x103, B107⟩
set_option maxRecDepth 65536 in
set_option maxHeartbeats 40000000 in
theorem c_cor3_2 (l : Launch) (Z : State) (a0 : Array Value) (hw : ∀ d ∈ tables_1, d.before a0 Z = true) (h0 : Heap) (n0 : Nat) (Z0 : n0 ≤ h0.size) (bb : Addr) (kA : ClassId) (vs : List Value) (Ab : Arv Z h0 bb kA .byte (3 : Int32) vs (.int 0)) (hv : vs.length = 3) :
    Con none l (⟨"java/util/Arrays", "copyOfRange", "([BII)[B"⟩ : MethodName) jdk_65_method_132_code 3 (some (.array .byte)) [] ({ frames := 2, cells := 1, slots := 2, locals := 56 } : Room) Z n0 h0 [] #[(.ref bb), (.int (0 : Int32)), (.int (2 : Int32))] (fun v h => ∃ (b : Addr) (kA : ClassId), v = some (.ref b) ∧ h0.size ≤ b ∧ Arv Z h b kA .byte (2 : Int32) (vs.take 2) (.int 0)) := by
  refine Con.intro pn6 Z0 (fun _ q => nomatch q) trivial #[.val (.ref bb), .val (.int (0 : Int32)), .val (.int (2 : Int32))] (fun m => by first | (simp [entryFrame, mkF, argsToLocals, Value.category]; done) | rfl) ?_
  intro p e s m below meth c T0 hlk hret hnm K0
  have P0 := Keep.refl h0 []
  refine gIloadN K0 b21_0 (v := (0 : Int32)) rfl ?_
  refine gIf_ne K0 b21_1 (fun q => absurd q (by first | decide | (intro hh; cases hh) | simp)) (fun q1 => ?_)
  refine gIloadN K0 b21_4 (v := (2 : Int32)) rfl ?_
  refine gAloadN K0 b21_5 (v := (.ref bb)) rfl rfl ?_
  refine gLen K0 b21_6 Ab ?_
  refine gIcmp_eq K0 b21_7 (fun q => absurd q (by first | decide | (intro hh; cases hh) | simp)) (fun q7 => ?_)
  refine gAloadN K0 b21_10 (v := (.ref bb)) rfl rfl ?_
  refine gIloadN K0 b21_11 (v := (0 : Int32)) rfl ?_
  refine gIloadN K0 b21_12 (v := (2 : Int32)) rfl ?_
  refine gCallS K0 (W := 0) [(.ref bb), (.int (0 : Int32)), (.int (2 : Int32))] [] b21_13 (wd hw 102 rfl) (wd hw 103 rfl) (wd hw 100 rfl) (wd hw 104 rfl) (Cal.ofN (W := 0) (c_corB3_2 l Z a0 hw h0 n0 K0.n0le bb kA vs Ab hv) (wd hw 104 rfl) (wd hw 100 rfl) (by decide) (by decide)) (fun _ q => nomatch q) pd22 rfl rfl (Nat.le_of_eq rfl) rfl (by decide) (by decide) (by decide) (fun v101 T101 h101 K101 Q101 q101 => ?_)
  have E101 := Ext.of0 Q101
  have P102 := P0.ext E101
  obtain ⟨b2, k2, rfl, g2, A2⟩ := q101
  refine gRetA K101 hlk hret rfl rfl b21_16 P102 (by decide) (by decide) ?_
  exact ⟨_, _, rfl, g2, A2⟩
set_option maxRecDepth 65536 in
set_option maxHeartbeats 40000000 in
theorem c_corB6_4 (l : Launch) (Z : State) (a0 : Array Value) (hw : ∀ d ∈ tables_1, d.before a0 Z = true) (h0 : Heap) (n0 : Nat) (Z0 : n0 ≤ h0.size) (bb : Addr) (kA : ClassId) (vs : List Value) (Ab : Arv Z h0 bb kA .byte (6 : Int32) vs (.int 0)) (hv : vs.length = 6) :
    Con none l (⟨"java/util/Arrays", "copyOfRangeByte", "([BII)[B"⟩ : MethodName) jdk_65_method_133_code 5 (some (.array .byte)) [] ({ frames := 1, cells := 1, slots := 4, locals := 40 } : Room) Z n0 h0 [] #[(.ref bb), (.int (0 : Int32)), (.int (4 : Int32))] (fun v h => ∃ (b : Addr) (kA : ClassId), v = some (.ref b) ∧ h0.size ≤ b ∧ Arv Z h b kA .byte (4 : Int32) (vs.take 4) (.int 0)) := by
  refine Con.intro pn6 Z0 (fun _ q => nomatch q) trivial #[.val (.ref bb), .val (.int (0 : Int32)), .val (.int (4 : Int32)), .unset, .unset] (fun m => by first | (simp [entryFrame, mkF, argsToLocals, Value.category]; done) | rfl) ?_
  intro p e s m below meth c T0 hlk hret hnm K0
  have P0 := Keep.refl h0 []
  refine gIloadN K0 b22_0 (v := (0 : Int32)) rfl ?_
  refine gIloadN K0 b22_1 (v := (4 : Int32)) rfl ?_
  refine gCallS K0 (W := 0) [(.int (0 : Int32)), (.int (4 : Int32))] [] b22_2 (wd hw 105 rfl) (wd hw 106 rfl) (wd hw 100 rfl) (wd hw 107 rfl) (Cal.ofN (W := 0) (c_ckl l Z a0 hw h0 n0 K0.n0le 4 (by decide)) (wd hw 107 rfl) (wd hw 100 rfl) (by decide) (by decide)) (fun _ q => nomatch q) pd10 rfl rfl (Nat.le_of_eq rfl) rfl (by decide) (by decide) (by decide) (fun v101 T101 h101 K101 Q101 q101 => ?_)
  have E101 := Ext.of0 Q101
  have P102 := P0.ext E101
  cases q101
  refine gIloadN K101 b22_5 (v := (4 : Int32)) rfl ?_
  refine gIloadN K101 b22_6 (v := (0 : Int32)) rfl ?_
  refine gIsubV K101 (4 : Int32) b22_7 (by decide) ?_
  refine gIstoreN K101 b22_8 (Ls' := #[.val (.ref bb), .val (.int (0 : Int32)), .val (.int (4 : Int32)), .val (.int (4 : Int32)), .unset]) rfl ?_
  refine gIloadN K101 b22_9 (v := (4 : Int32)) rfl ?_
  refine gNewarr K101 b22_10 (wd hw 20 rfl) (by decide) 4 (by decide) (by decide) (by decide) (by decide) (fun T103 h103 x103 kA103 K103 E103 g103 A103 ne103 => ?_)
  have P104 := P102.ext E103
  have ge_x103 : h0.size ≤ x103 := by rw [g103]; exact P102.1
  refine gAstore K103 b22_12 rfl (Ls' := #[.val (.ref bb), .val (.int (0 : Int32)), .val (.int (4 : Int32)), .val (.int (4 : Int32)), .val (.ref x103)]) rfl ?_
  refine gAloadN K103 b22_14 (v := (.ref bb)) rfl rfl ?_
  refine gIloadN K103 b22_15 (v := (0 : Int32)) rfl ?_
  refine gAload K103 b22_16 (v := (.ref x103)) rfl rfl ?_
  refine gIconst K103 (0 : Int32) b22_18 rfl ?_
  refine gAloadN K103 b22_19 (v := (.ref bb)) rfl rfl ?_
  refine gLen K103 b22_20 (Ab.ext (Ext.tr E101 E103)) ?_
  refine gIloadN K103 b22_21 (v := (0 : Int32)) rfl ?_
  refine gIsubV K103 (6 : Int32) b22_22 (by decide) ?_
  refine gIloadN K103 b22_23 (v := (4 : Int32)) rfl ?_
  refine gCallS K103 (W := 4) [(.int (6 : Int32)), (.int (4 : Int32))] [(.int (0 : Int32)), (.ref x103), (.int (0 : Int32)), (.ref bb)] b22_24 (wd hw 108 rfl) (wd hw 109 rfl) (wd hw 110 rfl) (wd hw 111 rfl) (Cal.ofN (W := 4) (c_min l Z a0 hw h103 n0 K103.n0le 6 4 (by decide) (by decide)) (wd hw 111 rfl) (wd hw 110 rfl) (by decide) (by decide)) (fun _ q => nomatch q) pd21 rfl rfl (Nat.le_of_eq rfl) rfl (by decide) (by decide) (by decide) (fun v105 T105 h105 K105 Q105 q105 => ?_)
  have E105 := Ext.of0 Q105
  have P106 := P104.ext E105
  have q105' : v105 = some (.int (4 : Int32)) := q105
  cases q105'
  refine gCopy K105 b22_27 (wd hw 112 rfl) (wd hw 115 rfl) (wd hw 113 rfl) (wd hw 114 rfl) (me 0 rfl) (Ab.ext (Ext.tr (Ext.tr E101 E103) E105)) (Arv.pad (A103.ext E105) (pad_rep [] (.int 0) 4)) (by decide) (by decide) (by decide) (by decide) (by decide) (us := vs.take 4) (range_take (t := 4) (by omega)) (by decide) rfl (by decide) (W := 0) (Nat.le_of_eq rfl) (by decide) (fun T107 h107 K107 Q107 A107 => ?_)
  have P108 := P106.trans Q107 (fun z q => by cases List.mem_singleton.mp q; exact Or.inr ge_x103)
  have B107 : Arv Z h107 x103 kA103 .byte (4 : Int32) (vs.take 4) (.int 0) := by rw [show vs.take 4 = [] ++ vs.take 4 ++ [] from (List.append_nil _).symm]; exact A107
  refine gAload K107 b22_30 (v := (.ref x103)) rfl rfl ?_
  refine gRetA K107 hlk hret rfl rfl b22_32 P108 (by decide) (by decide) ?_
  exact ⟨_, _, rfl, ge_x103, B107⟩
set_option maxRecDepth 65536 in
set_option maxHeartbeats 40000000 in
theorem c_cor6_4 (l : Launch) (Z : State) (a0 : Array Value) (hw : ∀ d ∈ tables_1, d.before a0 Z = true) (h0 : Heap) (n0 : Nat) (Z0 : n0 ≤ h0.size) (bb : Addr) (kA : ClassId) (vs : List Value) (Ab : Arv Z h0 bb kA .byte (6 : Int32) vs (.int 0)) (hv : vs.length = 6) :
    Con none l (⟨"java/util/Arrays", "copyOfRange", "([BII)[B"⟩ : MethodName) jdk_65_method_132_code 3 (some (.array .byte)) [] ({ frames := 2, cells := 1, slots := 4, locals := 56 } : Room) Z n0 h0 [] #[(.ref bb), (.int (0 : Int32)), (.int (4 : Int32))] (fun v h => ∃ (b : Addr) (kA : ClassId), v = some (.ref b) ∧ h0.size ≤ b ∧ Arv Z h b kA .byte (4 : Int32) (vs.take 4) (.int 0)) := by
  refine Con.intro pn6 Z0 (fun _ q => nomatch q) trivial #[.val (.ref bb), .val (.int (0 : Int32)), .val (.int (4 : Int32))] (fun m => by first | (simp [entryFrame, mkF, argsToLocals, Value.category]; done) | rfl) ?_
  intro p e s m below meth c T0 hlk hret hnm K0
  have P0 := Keep.refl h0 []
  refine gIloadN K0 b21_0 (v := (0 : Int32)) rfl ?_
  refine gIf_ne K0 b21_1 (fun q => absurd q (by first | decide | (intro hh; cases hh) | simp)) (fun q1 => ?_)
  refine gIloadN K0 b21_4 (v := (4 : Int32)) rfl ?_
  refine gAloadN K0 b21_5 (v := (.ref bb)) rfl rfl ?_
  refine gLen K0 b21_6 Ab ?_
  refine gIcmp_eq K0 b21_7 (fun q => absurd q (by first | decide | (intro hh; cases hh) | simp)) (fun q7 => ?_)
  refine gAloadN K0 b21_10 (v := (.ref bb)) rfl rfl ?_
  refine gIloadN K0 b21_11 (v := (0 : Int32)) rfl ?_
  refine gIloadN K0 b21_12 (v := (4 : Int32)) rfl ?_
  refine gCallS K0 (W := 0) [(.ref bb), (.int (0 : Int32)), (.int (4 : Int32))] [] b21_13 (wd hw 102 rfl) (wd hw 103 rfl) (wd hw 100 rfl) (wd hw 104 rfl) (Cal.ofN (W := 0) (c_corB6_4 l Z a0 hw h0 n0 K0.n0le bb kA vs Ab hv) (wd hw 104 rfl) (wd hw 100 rfl) (by decide) (by decide)) (fun _ q => nomatch q) pd22 rfl rfl (Nat.le_of_eq rfl) rfl (by decide) (by decide) (by decide) (fun v101 T101 h101 K101 Q101 q101 => ?_)
  have E101 := Ext.of0 Q101
  have P102 := P0.ext E101
  obtain ⟨b2, k2, rfl, g2, A2⟩ := q101
  refine gRetA K101 hlk hret rfl rfl b21_16 P102 (by decide) (by decide) ?_
  exact ⟨_, _, rfl, g2, A2⟩
set_option maxRecDepth 65536 in
set_option maxHeartbeats 40000000 in
theorem c_cb5_3_2 (l : Launch) (Z : State) (a0 : Array Value) (hw : ∀ d ∈ tables_1, d.before a0 Z = true) (h0 : Heap) (n0 : Nat) (Z0 : n0 ≤ h0.size) (c0 c1 c2 : Int32) (bb : Addr) (kA : ClassId) (Ab : Arv Z h0 bb kA .byte (Int32.ofNat (2 * 3)) (StrChars.Road.wideBytes [c0, c1, c2]) (.int 0)) (hp : ∀ c ∈ [c0, c1, c2], ¬ c < 0 ∧ ¬ (65535 : Int32) < c) (u : US Z h0) (fm : Value) (Sf : Sta Z h0 "jdk/internal/util/Preconditions" "SIOOBE_FORMATTER" "Ljava/util/function/BiFunction;" fm) (rf : fm.isRef = true) (dd : Addr) (kD : ClassId) (gd : n0 ≤ dd) (Ad : Arv Z h0 dd kD .byte (2 : Int32) [] (.int 0)) (hbd : bb ≠ dd) (hu : ∃ c ∈ [c0, c1], (255 : Int32) < c) :
    Con none l (⟨"java/lang/StringUTF16", "compress", "([BI[BII)I"⟩ : MethodName) jdk_52_method_22_code 7 (some .int) [] ({ frames := 3, cells := 0, slots := 0, locals := 46 } : Room) Z n0 h0 [dd] #[(.ref bb), (.int (0 : Int32)), (.ref dd), (.int (0 : Int32)), (.int (2 : Int32))] (fun v h => ∃ j : Nat, v = some (.int (Int32.ofNat j)) ∧ j < 2 ∧ (255 : Int32) < [c0, c1].getD j 0) := by
  refine Con.intro pn1 Z0 (allS ⟨gd, Ad.lt⟩ all0) trivial #[.val (.ref bb), .val (.int (0 : Int32)), .val (.ref dd), .val (.int (0 : Int32)), .val (.int (2 : Int32)), .unset, .unset] (fun m => by first | (simp [entryFrame, mkF, argsToLocals, Value.category]; done) | rfl) ?_
  intro p e s m below meth c T0 hlk hret hnm K0
  have P0 := Keep.refl h0 [dd]
  refine gIloadN K0 b36_0 (v := (0 : Int32)) rfl ?_
  refine gIload K0 b36_1 (v := (2 : Int32)) rfl ?_
  refine gAloadN K0 b36_3 (v := (.ref bb)) rfl rfl ?_
  refine gCallS K0 (W := 0) [(.int (0 : Int32)), (.int (2 : Int32)), (.ref bb)] [] b36_4 (wd hw 159 rfl) (wd hw 160 rfl) (wd hw 62 rfl) (wd hw 161 rfl) (Cal.ofN (W := 0) (c_ubo l Z a0 hw h0 n0 K0.n0le 3 2 (by decide) (by decide) bb kA _ _ Ab fm Sf rf) (wd hw 161 rfl) (wd hw 62 rfl) (by decide) (by decide)) (fun _ q => nomatch q) pd23 rfl rfl (Nat.le_of_eq rfl) rfl (by decide) (by decide) (by decide) (fun v101 T101 h101 K101 Q101 q101 => ?_)
  have E101 := Ext.of0 Q101
  have P102 := P0.ext E101
  cases q101
  refine gIconst K101 (0 : Int32) b36_7 rfl ?_
  refine gIstore K101 b36_8 (Ls' := #[.val (.ref bb), .val (.int (0 : Int32)), .val (.ref dd), .val (.int (0 : Int32)), .val (.int (2 : Int32)), .val (.int (0 : Int32)), .unset]) rfl ?_
  refine gIload K101 b36_10 (v := (0 : Int32)) rfl ?_
  refine gIload K101 b36_12 (v := (2 : Int32)) rfl ?_
  refine gIcmp_ge K101 b36_14 (fun q => absurd q (by first | decide | (intro hh; cases hh) | simp)) (fun q14 => ?_)
  refine gAloadN K101 b36_17 (v := (.ref bb)) rfl rfl ?_
  refine gIloadN K101 b36_18 (v := (0 : Int32)) rfl ?_
  refine gCallS K101 (W := 0) [(.ref bb), (.int (0 : Int32))] [] b36_19 (wd hw 136 rfl) (wd hw 137 rfl) (wd hw 62 rfl) (wd hw 138 rfl) (Cal.ofN (W := 0) (c_getChar l Z a0 hw h101 n0 K101.n0le bb kA [c0, c1, c2] 0 (Ab.ext E101) hp (Nat.le_of_ble_eq_true rfl) (Nat.le_of_ble_eq_true rfl) (u.ext E101)) (wd hw 138 rfl) (wd hw 62 rfl) (by decide) (by decide)) (fun _ q => nomatch q) pd6 rfl rfl (Nat.le_of_eq rfl) rfl (by decide) (by decide) (by decide) (fun v103 T103 h103 K103 Q103 q103 => ?_)
  have E103 := Ext.of0 Q103
  have P104 := P102.ext E103
  have q103' : v103 = some (.int c0) := q103
  cases q103'
  refine gIstore K103 b36_22 (Ls' := #[.val (.ref bb), .val (.int (0 : Int32)), .val (.ref dd), .val (.int (0 : Int32)), .val (.int (2 : Int32)), .val (.int (0 : Int32)), .val (.int c0)]) rfl ?_
  refine gIload K103 b36_24 (v := c0) rfl ?_
  refine gSipush K103 (255 : Int32) b36_26 rfl ?_
  refine gIcmp_le K103 b36_29 (fun hl_c0 => ?_) (fun hl_c0 => ?_)
  · skip
    refine gAloadN K103 b36_35 (v := (.ref dd)) rfl rfl ?_
    refine gIloadN K103 b36_36 (v := (0 : Int32)) rfl ?_
    refine gIload K103 b36_37 (v := c0) rfl ?_
    refine gI2b K103 b36_39 ?_
    refine gBastore K103 b36_40 (me 0 rfl) (Ad.ext (Ext.tr E101 E103)) rfl (by decide) (fun T105 h105 K105 Q105 A105 => ?_)
    have u105 := US.kp (u.ext (Ext.tr E101 E103)) Q105 (nsS (Arv.nostat (Ad.ext (Ext.tr E101 E103))) ns0)
    have P106 := P104.trans Q105 (fun z q => by cases List.mem_singleton.mp q; exact Or.inl (me 0 rfl))
    refine gIinc K105 (1 : Int32) b36_41 rfl (x := (0 : Int32)) rfl (Ls' := #[.val (.ref bb), .val (.int (1 : Int32)), .val (.ref dd), .val (.int (0 : Int32)), .val (.int (2 : Int32)), .val (.int (0 : Int32)), .val (.int c0)]) rfl ?_
    refine gIinc K105 (1 : Int32) b36_44 rfl (x := (0 : Int32)) rfl (Ls' := #[.val (.ref bb), .val (.int (1 : Int32)), .val (.ref dd), .val (.int (1 : Int32)), .val (.int (2 : Int32)), .val (.int (0 : Int32)), .val (.int c0)]) rfl ?_
    refine gIinc K105 (1 : Int32) b36_47 rfl (x := (0 : Int32)) rfl (Ls' := #[.val (.ref bb), .val (.int (1 : Int32)), .val (.ref dd), .val (.int (1 : Int32)), .val (.int (2 : Int32)), .val (.int (1 : Int32)), .val (.int c0)]) rfl ?_
    refine gGoto K105 b36_50 ?_
    refine gIload K105 b36_10 (v := (1 : Int32)) rfl ?_
    refine gIload K105 b36_12 (v := (2 : Int32)) rfl ?_
    refine gIcmp_ge K105 b36_14 (fun q => absurd q (by first | decide | (intro hh; cases hh) | simp)) (fun q14 => ?_)
    refine gAloadN K105 b36_17 (v := (.ref bb)) rfl rfl ?_
    refine gIloadN K105 b36_18 (v := (1 : Int32)) rfl ?_
    refine gCallS K105 (W := 0) [(.ref bb), (.int (1 : Int32))] [] b36_19 (wd hw 136 rfl) (wd hw 137 rfl) (wd hw 62 rfl) (wd hw 138 rfl) (Cal.ofN (W := 0) (c_getChar l Z a0 hw h105 n0 K105.n0le bb kA [c0, c1, c2] 1 ((Ab.ext (Ext.tr E101 E103)).keep Q105 (ninS hbd nin0)) hp (Nat.le_of_ble_eq_true rfl) (Nat.le_of_ble_eq_true rfl) u105) (wd hw 138 rfl) (wd hw 62 rfl) (by decide) (by decide)) (fun _ q => nomatch q) pd6 rfl rfl (Nat.le_of_eq rfl) rfl (by decide) (by decide) (by decide) (fun v107 T107 h107 K107 Q107 q107 => ?_)
    have E107 := Ext.of0 Q107
    have P108 := P106.ext E107
    have q107' : v107 = some (.int c1) := q107
    cases q107'
    refine gIstore K107 b36_22 (Ls' := #[.val (.ref bb), .val (.int (1 : Int32)), .val (.ref dd), .val (.int (1 : Int32)), .val (.int (2 : Int32)), .val (.int (1 : Int32)), .val (.int c1)]) rfl ?_
    refine gIload K107 b36_24 (v := c1) rfl ?_
    refine gSipush K107 (255 : Int32) b36_26 rfl ?_
    refine gIcmp_le K107 b36_29 (fun hl_c1 => ?_) (fun hl_c1 => ?_)
    · skip
      refine gAloadN K107 b36_35 (v := (.ref dd)) rfl rfl ?_
      refine gIloadN K107 b36_36 (v := (1 : Int32)) rfl ?_
      refine gIload K107 b36_37 (v := c1) rfl ?_
      refine gI2b K107 b36_39 ?_
      refine gBastore K107 b36_40 (me 0 rfl) (A105.ext E107) rfl (by decide) (fun T109 h109 K109 Q109 A109 => ?_)
      have u109 := US.kp (u105.ext E107) Q109 (nsS (Arv.nostat (A105.ext E107)) ns0)
      have P110 := P108.trans Q109 (fun z q => by cases List.mem_singleton.mp q; exact Or.inl (me 0 rfl))
      refine gIinc K109 (1 : Int32) b36_41 rfl (x := (1 : Int32)) rfl (Ls' := #[.val (.ref bb), .val (.int (2 : Int32)), .val (.ref dd), .val (.int (1 : Int32)), .val (.int (2 : Int32)), .val (.int (1 : Int32)), .val (.int c1)]) rfl ?_
      refine gIinc K109 (1 : Int32) b36_44 rfl (x := (1 : Int32)) rfl (Ls' := #[.val (.ref bb), .val (.int (2 : Int32)), .val (.ref dd), .val (.int (2 : Int32)), .val (.int (2 : Int32)), .val (.int (1 : Int32)), .val (.int c1)]) rfl ?_
      refine gIinc K109 (1 : Int32) b36_47 rfl (x := (1 : Int32)) rfl (Ls' := #[.val (.ref bb), .val (.int (2 : Int32)), .val (.ref dd), .val (.int (2 : Int32)), .val (.int (2 : Int32)), .val (.int (2 : Int32)), .val (.int c1)]) rfl ?_
      refine gGoto K109 b36_50 ?_
      refine gIload K109 b36_10 (v := (2 : Int32)) rfl ?_
      refine gIload K109 b36_12 (v := (2 : Int32)) rfl ?_
      refine gIcmp_ge K109 b36_14 (fun q14 => ?_) (fun q => absurd q (by first | decide | (intro hh; cases hh) | simp))
      refine gIload K109 b36_53 (v := (2 : Int32)) rfl ?_
      exact absurd hu (noHi (allI hl_c0 (allI hl_c1 allI0)))
    · skip
      refine gIload K107 b36_32 (v := (1 : Int32)) rfl ?_
      refine gRetI K107 hlk hret (by simp) b36_34 rfl P108 (by decide) (by decide) ?_
      exact ⟨1, rfl, by decide, hl_c1⟩
  · skip
    refine gIload K103 b36_32 (v := (0 : Int32)) rfl ?_
    refine gRetI K103 hlk hret (by simp) b36_34 rfl P104 (by decide) (by decide) ?_
    exact ⟨0, rfl, by decide, hl_c0⟩
set_option maxRecDepth 65536 in
set_option maxHeartbeats 40000000 in
theorem c_cb3_3_2 (l : Launch) (Z : State) (a0 : Array Value) (hw : ∀ d ∈ tables_1, d.before a0 Z = true) (h0 : Heap) (n0 : Nat) (Z0 : n0 ≤ h0.size) (c0 c1 c2 : Int32) (bb : Addr) (kA : ClassId) (Ab : Arv Z h0 bb kA .byte (Int32.ofNat (2 * 3)) (StrChars.Road.wideBytes [c0, c1, c2]) (.int 0)) (hp : ∀ c ∈ [c0, c1, c2], ¬ c < 0 ∧ ¬ (65535 : Int32) < c) (u : US Z h0) (fm : Value) (Sf : Sta Z h0 "jdk/internal/util/Preconditions" "SIOOBE_FORMATTER" "Ljava/util/function/BiFunction;" fm) (rf : fm.isRef = true) (hu : ∃ c ∈ [c0, c1], (255 : Int32) < c) :
    Con none l (⟨"java/lang/StringUTF16", "compress", "([BII)[B"⟩ : MethodName) jdk_52_method_17_code 6 (some (.array .byte)) [] ({ frames := 4, cells := 2, slots := 6, locals := 74 } : Room) Z n0 h0 [] #[(.ref bb), (.int (0 : Int32)), (.int (2 : Int32))] (fun v h => ∃ (b : Addr) (kA : ClassId), v = some (.ref b) ∧ h0.size ≤ b ∧ Arv Z h b kA .byte (Int32.ofNat (2 * 2)) (StrChars.Road.wideBytes [c0, c1]) (.int 0)) := by
  refine Con.intro pn1 Z0 (fun _ q => nomatch q) trivial #[.val (.ref bb), .val (.int (0 : Int32)), .val (.int (2 : Int32)), .unset, .unset, .unset] (fun m => by first | (simp [entryFrame, mkF, argsToLocals, Value.category]; done) | rfl) ?_
  intro p e s m below meth c T0 hlk hret hnm K0
  have P0 := Keep.refl h0 []
  refine gIloadN K0 b35_0 (v := (2 : Int32)) rfl ?_
  refine gNewarr K0 b35_1 (wd hw 20 rfl) (by decide) 2 (by decide) (by decide) (by decide) (by decide) (fun T101 h101 x101 kA101 K101 E101 g101 A101 ne101 => ?_)
  have P102 := P0.ext E101
  have ge_x101 : h0.size ≤ x101 := by rw [g101]; exact P0.1
  refine gAstoreN K101 b35_3 rfl (Ls' := #[.val (.ref bb), .val (.int (0 : Int32)), .val (.int (2 : Int32)), .val (.ref x101), .unset, .unset]) rfl ?_
  refine gAloadN K101 b35_4 (v := (.ref bb)) rfl rfl ?_
  refine gIloadN K101 b35_5 (v := (0 : Int32)) rfl ?_
  refine gAloadN K101 b35_6 (v := (.ref x101)) rfl rfl ?_
  refine gIconst K101 (0 : Int32) b35_7 rfl ?_
  refine gIloadN K101 b35_8 (v := (2 : Int32)) rfl ?_
  refine gCallS K101 (W := 0) [(.ref bb), (.int (0 : Int32)), (.ref x101), (.int (0 : Int32)), (.int (2 : Int32))] [] b35_9 (wd hw 156 rfl) (wd hw 157 rfl) (wd hw 62 rfl) (wd hw 158 rfl) (Cal.ofN (W := 0) (c_cb5_3_2 l Z a0 hw h101 n0 K101.n0le c0 c1 c2 bb kA (Ab.ext E101) hp (u.ext E101) fm (Sf.ext E101) rf x101 _ (K101.wsge (me 0 rfl)) A101 (Nat.ne_of_lt (Nat.lt_of_lt_of_le Ab.lt ge_x101)) hu) (wd hw 158 rfl) (wd hw 62 rfl) (by decide) (by decide)) (fun z q => by cases List.mem_singleton.mp q; exact (me 0 rfl)) pd24 rfl rfl (Nat.le_of_eq rfl) rfl (by decide) (by decide) (by decide) (fun v103 T103 h103 K103 Q103 q103 => ?_)
  have P104 := P102.trans Q103 (fun z q => by cases List.mem_singleton.mp q; exact Or.inr ge_x101)
  obtain ⟨j, rfl, hj, hcj⟩ := q103
  refine gIstore K103 b35_12 (Ls' := #[.val (.ref bb), .val (.int (0 : Int32)), .val (.int (2 : Int32)), .val (.ref x101), .val (.int (Int32.ofNat j)), .unset]) rfl ?_
  refine gIload K103 b35_14 (v := (Int32.ofNat j)) rfl ?_
  refine gIloadN K103 b35_16 (v := (2 : Int32)) rfl ?_
  refine gIcmp_eq K103 b35_17 (fun q => absurd q (ofNat_ne hj (by decide))) (fun q17 => ?_)
  refine gAloadN K103 b35_20 (v := (.ref bb)) rfl rfl ?_
  refine gIloadN K103 b35_21 (v := (0 : Int32)) rfl ?_
  refine gIconst K103 (1 : Int32) b35_22 rfl ?_
  refine gIshlV K103 (0 : Int32) b35_23 (by decide) ?_
  refine gIloadN K103 b35_24 (v := (0 : Int32)) rfl ?_
  refine gIloadN K103 b35_25 (v := (2 : Int32)) rfl ?_
  refine gIaddV K103 (2 : Int32) b35_26 (by decide) ?_
  refine gCallS K103 (W := 2) [(.int (2 : Int32))] [(.int (0 : Int32)), (.ref bb)] b35_27 (wd hw 126 rfl) (wd hw 127 rfl) (wd hw 62 rfl) (wd hw 128 rfl) (Cal.ofN (W := 2) (c_nbl2 l Z a0 hw h103 n0 K103.n0le) (wd hw 128 rfl) (wd hw 62 rfl) (by decide) (by decide)) (fun _ q => nomatch q) pd1 rfl rfl (Nat.le_of_eq rfl) rfl (by decide) (by decide) (by decide) (fun v105 T105 h105 K105 Q105 q105 => ?_)
  have E105 := Ext.of0 Q105
  have P106 := P104.ext E105
  cases q105
  refine gCallS K105 (W := 0) [(.ref bb), (.int (0 : Int32)), (.int (4 : Int32))] [] b35_30 (wd hw 168 rfl) (wd hw 99 rfl) (wd hw 100 rfl) (wd hw 101 rfl) (Cal.ofN (W := 0) (c_cor6_4 l Z a0 hw h105 n0 K105.n0le bb kA _ (Ab.ext (Ext.tr (Ext.kp1 E101 Q103 (Nat.le_of_eq g101.symm)) E105)) rfl) (wd hw 101 rfl) (wd hw 100 rfl) (by decide) (by decide)) (fun _ q => nomatch q) pd22 rfl rfl (Nat.le_of_eq rfl) rfl (by decide) (by decide) (by decide) (fun v107 T107 h107 K107 Q107 q107 => ?_)
  have E107 := Ext.of0 Q107
  have P108 := P106.ext E107
  obtain ⟨b2, k2, rfl, g2, A2⟩ := q107
  have A2' : Arv Z h107 b2 k2 .byte (Int32.ofNat (2 * [c0, c1].length)) (StrChars.Road.wideBytes [c0, c1]) (.int 0) := A2
  have gb0 : h0.size ≤ b2 := Nat.le_trans P106.1 g2
  refine gAstore K107 b35_33 rfl (Ls' := #[.val (.ref bb), .val (.int (0 : Int32)), .val (.int (2 : Int32)), .val (.ref x101), .val (.int (Int32.ofNat j)), .val (.ref b2)]) rfl ?_
  refine gAload K107 b35_35 (v := (.ref b2)) rfl rfl ?_
  refine gIload K107 b35_37 (v := (Int32.ofNat j)) rfl ?_
  refine gCallS K107 (W := 0) [(.ref b2), (.int (Int32.ofNat j))] [] b35_39 (wd hw 136 rfl) (wd hw 137 rfl) (wd hw 62 rfl) (wd hw 138 rfl) (Cal.ofN (W := 0) (c_getChar l Z a0 hw h107 n0 K107.n0le b2 k2 [c0, c1] j A2' (fun c hc => hp c (List.mem_append_left [c2] hc)) hj (Nat.le_of_ble_eq_true rfl) (u.ext (Ext.tr (Ext.tr (Ext.kp1 E101 Q103 (Nat.le_of_eq g101.symm)) E105) E107))) (wd hw 138 rfl) (wd hw 62 rfl) (by decide) (by decide)) (fun _ q => nomatch q) pd6 rfl rfl (Nat.le_of_eq rfl) rfl (by decide) (by decide) (by decide) (fun v109 T109 h109 K109 Q109 q109 => ?_)
  have E109 := Ext.of0 Q109
  have P110 := P108.ext E109
  cases q109
  refine gSipush K109 (255 : Int32) b35_42 rfl ?_
  refine gIcmp_gt K109 b35_45 (fun q45 => ?_) (fun q => absurd q (not_not_intro hcj))
  refine gAload K109 b35_61 (v := (.ref b2)) rfl rfl ?_
  refine gRetA K109 hlk hret rfl rfl b35_63 P110 (by decide) (by decide) ?_
  exact ⟨b2, k2, rfl, gb0, (A2'.ext E109)⟩
set_option maxRecDepth 65536 in
set_option maxHeartbeats 40000000 in
theorem c_nsU3_2 (l : Launch) (Z : State) (a0 : Array Value) (hw : ∀ d ∈ tables_1, d.before a0 Z = true) (h0 : Heap) (n0 : Nat) (Z0 : n0 ≤ h0.size) (c0 c1 c2 : Int32) (bb : Addr) (kA : ClassId) (Ab : Arv Z h0 bb kA .byte (Int32.ofNat (2 * 3)) (StrChars.Road.wideBytes [c0, c1, c2]) (.int 0)) (hp : ∀ c ∈ [c0, c1, c2], ¬ c < 0 ∧ ¬ (65535 : Int32) < c) (u : US Z h0) (fm : Value) (Sf : Sta Z h0 "jdk/internal/util/Preconditions" "SIOOBE_FORMATTER" "Ljava/util/function/BiFunction;" fm) (rf : fm.isRef = true) (hu : ∃ c ∈ [c0, c1], (255 : Int32) < c) (z : Int32) (Sc : Sta Z h0 "java/lang/String" "COMPACT_STRINGS" "Z" (.int z)) (hz : ¬ z = 0) :
    Con none l (⟨"java/lang/StringUTF16", "newString", "([BII)Ljava/lang/String;"⟩ : MethodName) jdk_52_method_69_code 5 (some (.object "java/lang/String")) [] ({ frames := 5, cells := 3, slots := 10, locals := 94 } : Room) Z n0 h0 [] #[(.ref bb), (.int (0 : Int32)), (.int (2 : Int32))] (fun v h => ∃ x : Addr, v = some (.ref x) ∧ StrU Z h x [c0, c1]) := by
  refine Con.intro pn1 Z0 (fun _ q => nomatch q) trivial #[.val (.ref bb), .val (.int (0 : Int32)), .val (.int (2 : Int32)), .unset, .unset] (fun m => by first | (simp [entryFrame, mkF, argsToLocals, Value.category]; done) | rfl) ?_
  intro p e s m below meth c T0 hlk hret hnm K0
  have P0 := Keep.refl h0 []
  refine gIloadN K0 b34_0 (v := (2 : Int32)) rfl ?_
  refine gIf_ne K0 b34_1 (fun q1 => ?_) (fun q => absurd q (by first | decide | (intro hh; cases hh) | simp))
  refine gGetS K0 b34_8 (wd hw 152 rfl) Sc (fun T101 K101 => ?_)
  refine gIf_eq K101 b34_11 (fun q => absurd q hz) (fun q11 => ?_)
  refine gAloadN K101 b34_14 (v := (.ref bb)) rfl rfl ?_
  refine gIloadN K101 b34_15 (v := (0 : Int32)) rfl ?_
  refine gIloadN K101 b34_16 (v := (2 : Int32)) rfl ?_
  refine gCallS K101 (W := 0) [(.ref bb), (.int (0 : Int32)), (.int (2 : Int32))] [] b34_17 (wd hw 153 rfl) (wd hw 154 rfl) (wd hw 62 rfl) (wd hw 155 rfl) (Cal.ofN (W := 0) (c_cb3_3_2 l Z a0 hw h0 n0 K101.n0le c0 c1 c2 bb kA Ab hp u fm Sf rf hu) (wd hw 155 rfl) (wd hw 62 rfl) (by decide) (by decide)) (fun _ q => nomatch q) pd22 rfl rfl (Nat.le_of_eq rfl) rfl (by decide) (by decide) (by decide) (fun v102 T102 h102 K102 Q102 q102 => ?_)
  have E102 := Ext.of0 Q102
  have P103 := P0.ext E102
  obtain ⟨b2, k2, rfl, g2, A2⟩ := q102
  refine gAstoreN K102 b34_20 rfl (Ls' := #[.val (.ref bb), .val (.int (0 : Int32)), .val (.int (2 : Int32)), .val (.ref b2), .unset]) rfl ?_
  refine gAloadN K102 b34_21 (v := (.ref b2)) rfl rfl ?_
  refine gIloadN K102 b34_22 (v := (2 : Int32)) rfl ?_
  refine gCallS K102 (W := 0) [(.ref b2), (.int (2 : Int32))] [] b34_23 (wd hw 169 rfl) (wd hw 68 rfl) (wd hw 62 rfl) (wd hw 69 rfl) (Cal.ofN (W := 0) (c_cfa2 l Z a0 hw h102 n0 K102.n0le b2 k2 _ _ A2) (wd hw 69 rfl) (wd hw 62 rfl) (by decide) (by decide)) (fun _ q => nomatch q) pd7 rfl rfl (Nat.le_of_eq rfl) rfl (by decide) (by decide) (by decide) (fun v104 T104 h104 K104 Q104 q104 => ?_)
  have E104 := Ext.of0 Q104
  have P105 := P103.ext E104
  cases q104
  refine gIstore K104 b34_26 (Ls' := #[.val (.ref bb), .val (.int (0 : Int32)), .val (.int (2 : Int32)), .val (.ref b2), .val (.int (1 : Int32))]) rfl ?_
  refine gNew K104 b34_28 (wd hw 170 rfl) (wd hw 6 rfl) (wd hw 7 rfl) (by decide) (by decide) (fun T106 h106 x106 K106 E106 g106 A106 D106 ne106 => ?_)
  have P107 := P105.ext E106
  have ge_x106 : h0.size ≤ x106 := by rw [g106]; exact P105.1
  have F108 : Fld Z h106 x106 "java/lang/String" "value" "[B" .null := (D106 (Or.inr (wd hw 21 rfl)) (ty := (.array .byte)) (by decide))
  have F109 : Fld Z h106 x106 "java/lang/String" "coder" "B" (.int (0 : Int32)) := (D106 (Or.inr (wd hw 22 rfl)) (ty := .byte) (by decide))
  refine gDup K106 b34_31 rfl ?_
  refine gAloadN K106 b34_32 (v := (.ref b2)) rfl rfl ?_
  refine gIload K106 b34_33 (v := (1 : Int32)) rfl ?_
  refine gCallI K106 (W := 1) x106 [(.ref b2), (.int (1 : Int32))] [(.ref x106)] b34_35 rfl (wd hw 171 rfl) (wd hw 117 rfl) (wd hw 118 rfl) (Cal.ofN (W := 1) (c_initBB l Z a0 hw h106 n0 K106.n0le x106 b2 (1 : Int32) _ _ (by decide) (K106.wsge (me 0 rfl)) A106 F108 F109) (wd hw 118 rfl) (wd hw 7 rfl) (by decide) (by decide)) (fun z q => by cases List.mem_singleton.mp q; exact (me 0 rfl)) pd25 rfl rfl (Nat.le_of_eq rfl) rfl (by decide) (by decide) (by decide) (fun v110 T110 h110 K110 Q110 q110 => ?_)
  have P111 := P107.trans Q110 (fun z q => by cases List.mem_singleton.mp q; exact Or.inr ge_x106)
  obtain ⟨rfl, Ex110, Fv110, Fc110⟩ := q110
  refine gRetA K110 hlk hret rfl rfl b34_38 P111 (by decide) (by decide) ?_
  exact ⟨_, rfl, b2, k2, Ex110, Fc110, Fv110, (A2.ext (Ext.kp1 (Ext.tr E104 E106) Q110 (Nat.le_trans E104.1 (Nat.le_of_eq g106.symm)))), (fun c hc => hp c (List.mem_append_left [c2] hc)), hu, Nat.le_of_ble_eq_true rfl⟩
set_option maxRecDepth 65536 in
set_option maxHeartbeats 40000000 in
theorem c_nsL3_2 (l : Launch) (Z : State) (a0 : Array Value) (hw : ∀ d ∈ tables_1, d.before a0 Z = true) (h0 : Heap) (n0 : Nat) (Z0 : n0 ≤ h0.size) (c0 c1 c2 : Int32) (bb : Addr) (kA : ClassId) (Ab : Arv Z h0 bb kA .byte (3 : Int32) (([c0, c1, c2].map StrChars.lo8).map Value.int) (.int 0)) (hp : ∀ c ∈ [c0, c1], ¬ c < 0 ∧ ¬ (255 : Int32) < c) :
    Con none l (⟨"java/lang/StringLatin1", "newString", "([BII)Ljava/lang/String;"⟩ : MethodName) jdk_43_method_47_code 3 (some (.object "java/lang/String")) [] ({ frames := 3, cells := 2, slots := 6, locals := 75 } : Room) Z n0 h0 [] #[(.ref bb), (.int (0 : Int32)), (.int (2 : Int32))] (fun v h => ∃ x : Addr, v = some (.ref x) ∧ StrL Z h x [c0, c1]) := by
  refine Con.intro pn5 Z0 (fun _ q => nomatch q) trivial #[.val (.ref bb), .val (.int (0 : Int32)), .val (.int (2 : Int32))] (fun m => by first | (simp [entryFrame, mkF, argsToLocals, Value.category]; done) | rfl) ?_
  intro p e s m below meth c T0 hlk hret hnm K0
  have P0 := Keep.refl h0 []
  refine gIloadN K0 b20_0 (v := (2 : Int32)) rfl ?_
  refine gIf_ne K0 b20_1 (fun q1 => ?_) (fun q => absurd q (by first | decide | (intro hh; cases hh) | simp))
  refine gNew K0 b20_7 (wd hw 97 rfl) (wd hw 6 rfl) (wd hw 7 rfl) (by decide) (by decide) (fun T101 h101 x101 K101 E101 g101 A101 D101 ne101 => ?_)
  have P102 := P0.ext E101
  have ge_x101 : h0.size ≤ x101 := by rw [g101]; exact P0.1
  have F103 : Fld Z h101 x101 "java/lang/String" "value" "[B" .null := (D101 (Or.inr (wd hw 21 rfl)) (ty := (.array .byte)) (by decide))
  have F104 : Fld Z h101 x101 "java/lang/String" "coder" "B" (.int (0 : Int32)) := (D101 (Or.inr (wd hw 22 rfl)) (ty := .byte) (by decide))
  refine gDup K101 b20_10 rfl ?_
  refine gAloadN K101 b20_11 (v := (.ref bb)) rfl rfl ?_
  refine gIloadN K101 b20_12 (v := (0 : Int32)) rfl ?_
  refine gIloadN K101 b20_13 (v := (0 : Int32)) rfl ?_
  refine gIloadN K101 b20_14 (v := (2 : Int32)) rfl ?_
  refine gIaddV K101 (2 : Int32) b20_15 (by decide) ?_
  refine gCallS K101 (W := 2) [(.ref bb), (.int (0 : Int32)), (.int (2 : Int32))] [(.ref x101), (.ref x101)] b20_16 (wd hw 98 rfl) (wd hw 99 rfl) (wd hw 100 rfl) (wd hw 101 rfl) (Cal.ofN (W := 2) (c_cor3_2 l Z a0 hw h101 n0 K101.n0le bb kA _ (Ab.ext E101) rfl) (wd hw 101 rfl) (wd hw 100 rfl) (by decide) (by decide)) (fun _ q => nomatch q) pd22 rfl rfl (Nat.le_of_eq rfl) rfl (by decide) (by decide) (by decide) (fun v105 T105 h105 K105 Q105 q105 => ?_)
  have E105 := Ext.of0 Q105
  have P106 := P102.ext E105
  obtain ⟨b2, k2, rfl, g2, A2⟩ := q105
  have A2' : Arv Z h105 b2 k2 .byte (Int32.ofNat [c0, c1].length) (([c0, c1].map StrChars.lo8).map Value.int) (.int 0) := A2
  refine gIconst K105 (0 : Int32) b20_19 rfl ?_
  refine gCallI K105 (W := 1) x101 [(.ref b2), (.int (0 : Int32))] [(.ref x101)] b20_20 rfl (wd hw 116 rfl) (wd hw 117 rfl) (wd hw 118 rfl) (Cal.ofN (W := 1) (c_initBB l Z a0 hw h105 n0 K105.n0le x101 b2 (0 : Int32) _ _ (by decide) (K105.wsge (me 0 rfl)) (A101.ext E105) (F103.ext E105) (F104.ext E105)) (wd hw 118 rfl) (wd hw 7 rfl) (by decide) (by decide)) (fun z q => by cases List.mem_singleton.mp q; exact (me 0 rfl)) pd25 rfl rfl (Nat.le_of_eq rfl) rfl (by decide) (by decide) (by decide) (fun v107 T107 h107 K107 Q107 q107 => ?_)
  have P108 := P106.trans Q107 (fun z q => by cases List.mem_singleton.mp q; exact Or.inr ge_x101)
  obtain ⟨rfl, Ex107, Fv107, Fc107⟩ := q107
  refine gRetA K107 hlk hret rfl rfl b20_23 P108 (by decide) (by decide) ?_
  exact ⟨_, rfl, b2, k2, Ex107, Fc107, Fv107, (A2'.keep Q107 (ninS (Nat.ne_of_gt (Nat.lt_of_lt_of_le A101.lt g2)) nin0)), hp, Nat.le_of_ble_eq_true rfl⟩
set_option maxRecDepth 65536 in
set_option maxHeartbeats 40000000 in
theorem c_subL3_2 (l : Launch) (Z : State) (a0 : Array Value) (hw : ∀ d ∈ tables_1, d.before a0 Z = true) (h0 : Heap) (n0 : Nat) (Z0 : n0 ≤ h0.size) (c0 c1 c2 : Int32) (x : Addr) (A : StrL Z h0 x [c0, c1, c2]) (z : Int32) (Sc : Sta Z h0 "java/lang/String" "COMPACT_STRINGS" "Z" (.int z)) (hz : ¬ z = 0) (fm : Value) (Sf : Sta Z h0 "jdk/internal/util/Preconditions" "SIOOBE_FORMATTER" "Ljava/util/function/BiFunction;" fm) (rf : fm.isRef = true) (u : US Z h0) :
    Con none l (⟨"java/lang/String", "substring", "(II)Ljava/lang/String;"⟩ : MethodName) jdk_42_method_92_code 5 (some (.object "java/lang/String")) [] ({ frames := 6, cells := 3, slots := 16, locals := 112 } : Room) Z n0 h0 [] #[(.ref x), (.int (0 : Int32)), (.int (2 : Int32))] (fun v h => ∃ x : Addr, v = some (.ref x) ∧ StrA Z h x [c0, c1]) := by
  refine Con.intro pn0 Z0 (fun _ q => nomatch q) trivial #[.val (.ref x), .val (.int (0 : Int32)), .val (.int (2 : Int32)), .unset, .unset] (fun m => by first | (simp [entryFrame, mkF, argsToLocals, Value.category]; done) | rfl) ?_
  intro p e s m below meth c T0 hlk hret hnm K0
  have P0 := Keep.refl h0 []
  have A_ := A
  obtain ⟨bb, kA, Ex, Fc, Fv, Ab, hp, hN⟩ := A_
  refine gAloadN K0 b7_0 (v := (.ref x)) rfl rfl ?_
  refine gCallV K0 (W := 0) (C := "java/lang/String") x [] [] b7_1 (wd hw 47 rfl) (wd hw 32 rfl) (wd hw 34 rfl) (wd hw 33 rfl) (cal_lenA hw K0.n0le (W := 0) (cs := [c0, c1, c2]) (Or.inl A) Sc hz (by decide) (by decide)) (StrA.exa ((Or.inl A) : StrA Z _ x [c0, c1, c2])) (fun _ q => nomatch q) pd16 rfl rfl (Nat.le_of_eq rfl) rfl (by decide) (by decide) (by decide) (fun v101 T101 h101 K101 Q101 q101 => ?_)
  have E101 := Ext.of0 Q101
  have P102 := P0.ext E101
  have q101' : v101 = some (.int (3 : Int32)) := q101
  cases q101'
  refine gIstoreN K101 b7_4 (Ls' := #[.val (.ref x), .val (.int (0 : Int32)), .val (.int (2 : Int32)), .val (.int (3 : Int32)), .unset]) rfl ?_
  refine gIloadN K101 b7_5 (v := (0 : Int32)) rfl ?_
  refine gIloadN K101 b7_6 (v := (2 : Int32)) rfl ?_
  refine gIloadN K101 b7_7 (v := (3 : Int32)) rfl ?_
  refine gCallS K101 (W := 0) [(.int (0 : Int32)), (.int (2 : Int32)), (.int (3 : Int32))] [] b7_8 (wd hw 48 rfl) (wd hw 49 rfl) (wd hw 7 rfl) (wd hw 50 rfl) (Cal.ofN (W := 0) (c_cbe l Z a0 hw h101 n0 K101.n0le 3 2 (by decide) (by decide) fm (Sf.ext E101) rf) (wd hw 50 rfl) (wd hw 7 rfl) (by decide) (by decide)) (fun _ q => nomatch q) pd17 rfl rfl (Nat.le_of_eq rfl) rfl (by decide) (by decide) (by decide) (fun v103 T103 h103 K103 Q103 q103 => ?_)
  have E103 := Ext.of0 Q103
  have P104 := P102.ext E103
  cases q103
  refine gIloadN K103 b7_11 (v := (0 : Int32)) rfl ?_
  refine gIf_ne K103 b7_12 (fun q => absurd q (by first | decide | (intro hh; cases hh) | simp)) (fun q12 => ?_)
  refine gIloadN K103 b7_15 (v := (2 : Int32)) rfl ?_
  refine gIloadN K103 b7_16 (v := (3 : Int32)) rfl ?_
  refine gIcmp_ne K103 b7_17 (fun q17 => ?_) (fun q => absurd q (by first | decide | (intro hh; cases hh) | simp))
  refine gIloadN K103 b7_22 (v := (2 : Int32)) rfl ?_
  refine gIloadN K103 b7_23 (v := (0 : Int32)) rfl ?_
  refine gIsubV K103 (2 : Int32) b7_24 (by decide) ?_
  refine gIstore K103 b7_25 (Ls' := #[.val (.ref x), .val (.int (0 : Int32)), .val (.int (2 : Int32)), .val (.int (3 : Int32)), .val (.int (2 : Int32))]) rfl ?_
  refine gAloadN K103 b7_27 (v := (.ref x)) rfl rfl ?_
  refine gCallV K103 (W := 0) (C := "java/lang/String") x [] [] b7_28 (wd hw 75 rfl) (wd hw 76 rfl) (wd hw 78 rfl) (wd hw 77 rfl) (Cal.ofN (W := 0) (c_isL0 l Z a0 hw h103 n0 K103.n0le x (Fc.ext (Ext.tr E101 E103)) z (Sc.ext (Ext.tr E101 E103)) hz) (wd hw 79 rfl) (wd hw 7 rfl) (by decide) (by decide)) (Ex.ext (Ext.tr E101 E103)) (fun _ q => nomatch q) pd12 rfl rfl (Nat.le_of_eq rfl) rfl (by decide) (by decide) (by decide) (fun v105 T105 h105 K105 Q105 q105 => ?_)
  have E105 := Ext.of0 Q105
  have P106 := P104.ext E105
  cases q105
  refine gIf_eq K105 b7_31 (fun q => absurd q (by first | decide | (intro hh; cases hh) | simp)) (fun q31 => ?_)
  refine gAloadN K105 b7_34 (v := (.ref x)) rfl rfl ?_
  refine gGet K105 b7_35 (wd hw 25 rfl) (Fv.ext (Ext.tr (Ext.tr E101 E103) E105)) (fun T107 K107 => ?_)
  refine gIloadN K107 b7_38 (v := (0 : Int32)) rfl ?_
  refine gIload K107 b7_39 (v := (2 : Int32)) rfl ?_
  refine gCallS K107 (W := 0) [(.ref bb), (.int (0 : Int32)), (.int (2 : Int32))] [] b7_41 (wd hw 94 rfl) (wd hw 95 rfl) (wd hw 82 rfl) (wd hw 96 rfl) (Cal.ofN (W := 0) (c_nsL3_2 l Z a0 hw h105 n0 K107.n0le c0 c1 c2 bb kA (Ab.ext (Ext.tr (Ext.tr E101 E103) E105)) (fun c hc => hp c (List.mem_append_left [c2] hc))) (wd hw 96 rfl) (wd hw 82 rfl) (by decide) (by decide)) (fun _ q => nomatch q) pd19 rfl rfl (Nat.le_of_eq rfl) rfl (by decide) (by decide) (by decide) (fun v108 T108 h108 K108 Q108 q108 => ?_)
  have E108 := Ext.of0 Q108
  have P109 := P106.ext E108
  obtain ⟨xr, rfl, Sr⟩ := q108
  refine gGoto K108 b7_44 ?_
  refine gRetA K108 hlk hret rfl rfl b7_57 P109 (by decide) (by decide) ?_
  exact ⟨_, rfl, Or.inl Sr⟩
set_option maxRecDepth 65536 in
set_option maxHeartbeats 40000000 in
theorem c_subU3_2 (l : Launch) (Z : State) (a0 : Array Value) (hw : ∀ d ∈ tables_1, d.before a0 Z = true) (h0 : Heap) (n0 : Nat) (Z0 : n0 ≤ h0.size) (c0 c1 c2 : Int32) (x : Addr) (A : StrU Z h0 x [c0, c1, c2]) (z : Int32) (Sc : Sta Z h0 "java/lang/String" "COMPACT_STRINGS" "Z" (.int z)) (hz : ¬ z = 0) (fm : Value) (Sf : Sta Z h0 "jdk/internal/util/Preconditions" "SIOOBE_FORMATTER" "Ljava/util/function/BiFunction;" fm) (rf : fm.isRef = true) (u : US Z h0) (hu : ∃ c ∈ [c0, c1], (255 : Int32) < c) :
    Con none l (⟨"java/lang/String", "substring", "(II)Ljava/lang/String;"⟩ : MethodName) jdk_42_method_92_code 5 (some (.object "java/lang/String")) [] ({ frames := 6, cells := 3, slots := 16, locals := 112 } : Room) Z n0 h0 [] #[(.ref x), (.int (0 : Int32)), (.int (2 : Int32))] (fun v h => ∃ x : Addr, v = some (.ref x) ∧ StrA Z h x [c0, c1]) := by
  refine Con.intro pn0 Z0 (fun _ q => nomatch q) trivial #[.val (.ref x), .val (.int (0 : Int32)), .val (.int (2 : Int32)), .unset, .unset] (fun m => by first | (simp [entryFrame, mkF, argsToLocals, Value.category]; done) | rfl) ?_
  intro p e s m below meth c T0 hlk hret hnm K0
  have P0 := Keep.refl h0 []
  have A_ := A
  obtain ⟨bb, kA, Ex, Fc, Fv, Ab, hp, hu0, hN⟩ := A_
  refine gAloadN K0 b7_0 (v := (.ref x)) rfl rfl ?_
  refine gCallV K0 (W := 0) (C := "java/lang/String") x [] [] b7_1 (wd hw 47 rfl) (wd hw 32 rfl) (wd hw 34 rfl) (wd hw 33 rfl) (cal_lenA hw K0.n0le (W := 0) (cs := [c0, c1, c2]) (Or.inr A) Sc hz (by decide) (by decide)) (StrA.exa ((Or.inr A) : StrA Z _ x [c0, c1, c2])) (fun _ q => nomatch q) pd16 rfl rfl (Nat.le_of_eq rfl) rfl (by decide) (by decide) (by decide) (fun v101 T101 h101 K101 Q101 q101 => ?_)
  have E101 := Ext.of0 Q101
  have P102 := P0.ext E101
  have q101' : v101 = some (.int (3 : Int32)) := q101
  cases q101'
  refine gIstoreN K101 b7_4 (Ls' := #[.val (.ref x), .val (.int (0 : Int32)), .val (.int (2 : Int32)), .val (.int (3 : Int32)), .unset]) rfl ?_
  refine gIloadN K101 b7_5 (v := (0 : Int32)) rfl ?_
  refine gIloadN K101 b7_6 (v := (2 : Int32)) rfl ?_
  refine gIloadN K101 b7_7 (v := (3 : Int32)) rfl ?_
  refine gCallS K101 (W := 0) [(.int (0 : Int32)), (.int (2 : Int32)), (.int (3 : Int32))] [] b7_8 (wd hw 48 rfl) (wd hw 49 rfl) (wd hw 7 rfl) (wd hw 50 rfl) (Cal.ofN (W := 0) (c_cbe l Z a0 hw h101 n0 K101.n0le 3 2 (by decide) (by decide) fm (Sf.ext E101) rf) (wd hw 50 rfl) (wd hw 7 rfl) (by decide) (by decide)) (fun _ q => nomatch q) pd17 rfl rfl (Nat.le_of_eq rfl) rfl (by decide) (by decide) (by decide) (fun v103 T103 h103 K103 Q103 q103 => ?_)
  have E103 := Ext.of0 Q103
  have P104 := P102.ext E103
  cases q103
  refine gIloadN K103 b7_11 (v := (0 : Int32)) rfl ?_
  refine gIf_ne K103 b7_12 (fun q => absurd q (by first | decide | (intro hh; cases hh) | simp)) (fun q12 => ?_)
  refine gIloadN K103 b7_15 (v := (2 : Int32)) rfl ?_
  refine gIloadN K103 b7_16 (v := (3 : Int32)) rfl ?_
  refine gIcmp_ne K103 b7_17 (fun q17 => ?_) (fun q => absurd q (by first | decide | (intro hh; cases hh) | simp))
  refine gIloadN K103 b7_22 (v := (2 : Int32)) rfl ?_
  refine gIloadN K103 b7_23 (v := (0 : Int32)) rfl ?_
  refine gIsubV K103 (2 : Int32) b7_24 (by decide) ?_
  refine gIstore K103 b7_25 (Ls' := #[.val (.ref x), .val (.int (0 : Int32)), .val (.int (2 : Int32)), .val (.int (3 : Int32)), .val (.int (2 : Int32))]) rfl ?_
  refine gAloadN K103 b7_27 (v := (.ref x)) rfl rfl ?_
  refine gCallV K103 (W := 0) (C := "java/lang/String") x [] [] b7_28 (wd hw 75 rfl) (wd hw 76 rfl) (wd hw 78 rfl) (wd hw 77 rfl) (Cal.ofN (W := 0) (c_isL1 l Z a0 hw h103 n0 K103.n0le x (Fc.ext (Ext.tr E101 E103)) z (Sc.ext (Ext.tr E101 E103)) hz) (wd hw 79 rfl) (wd hw 7 rfl) (by decide) (by decide)) (Ex.ext (Ext.tr E101 E103)) (fun _ q => nomatch q) pd12 rfl rfl (Nat.le_of_eq rfl) rfl (by decide) (by decide) (by decide) (fun v105 T105 h105 K105 Q105 q105 => ?_)
  have E105 := Ext.of0 Q105
  have P106 := P104.ext E105
  cases q105
  refine gIf_eq K105 b7_31 (fun q31 => ?_) (fun q => absurd q (by first | decide | (intro hh; cases hh) | simp))
  refine gAloadN K105 b7_47 (v := (.ref x)) rfl rfl ?_
  refine gGet K105 b7_48 (wd hw 25 rfl) (Fv.ext (Ext.tr (Ext.tr E101 E103) E105)) (fun T107 K107 => ?_)
  refine gIloadN K107 b7_51 (v := (0 : Int32)) rfl ?_
  refine gIload K107 b7_52 (v := (2 : Int32)) rfl ?_
  refine gCallS K107 (W := 0) [(.ref bb), (.int (0 : Int32)), (.int (2 : Int32))] [] b7_54 (wd hw 149 rfl) (wd hw 150 rfl) (wd hw 62 rfl) (wd hw 151 rfl) (Cal.ofN (W := 0) (c_nsU3_2 l Z a0 hw h105 n0 K107.n0le c0 c1 c2 bb kA (Ab.ext (Ext.tr (Ext.tr E101 E103) E105)) hp (u.ext (Ext.tr (Ext.tr E101 E103) E105)) fm (Sf.ext (Ext.tr (Ext.tr E101 E103) E105)) rf hu z (Sc.ext (Ext.tr (Ext.tr E101 E103) E105)) hz) (wd hw 151 rfl) (wd hw 62 rfl) (by decide) (by decide)) (fun _ q => nomatch q) pd19 rfl rfl (Nat.le_of_eq rfl) rfl (by decide) (by decide) (by decide) (fun v108 T108 h108 K108 Q108 q108 => ?_)
  have E108 := Ext.of0 Q108
  have P109 := P106.ext E108
  obtain ⟨xr, rfl, Sr⟩ := q108
  refine gRetA K108 hlk hret rfl rfl b7_57 P109 (by decide) (by decide) ?_
  exact ⟨_, rfl, Or.inr Sr⟩
set_option maxRecDepth 65536 in
set_option maxHeartbeats 40000000 in
theorem c_subE3_3 (l : Launch) (Z : State) (a0 : Array Value) (hw : ∀ d ∈ tables_1, d.before a0 Z = true) (h0 : Heap) (n0 : Nat) (Z0 : n0 ≤ h0.size) (c0 c1 c2 : Int32) (x : Addr) (A : StrA Z h0 x [c0, c1, c2]) (z : Int32) (Sc : Sta Z h0 "java/lang/String" "COMPACT_STRINGS" "Z" (.int z)) (hz : ¬ z = 0) (fm : Value) (Sf : Sta Z h0 "jdk/internal/util/Preconditions" "SIOOBE_FORMATTER" "Ljava/util/function/BiFunction;" fm) (rf : fm.isRef = true) (u : US Z h0) :
    Con none l (⟨"java/lang/String", "substring", "(II)Ljava/lang/String;"⟩ : MethodName) jdk_42_method_92_code 5 (some (.object "java/lang/String")) [] ({ frames := 6, cells := 3, slots := 16, locals := 112 } : Room) Z n0 h0 [] #[(.ref x), (.int (0 : Int32)), (.int (3 : Int32))] (fun v h => ∃ x : Addr, v = some (.ref x) ∧ StrA Z h x [c0, c1, c2]) := by
  refine Con.intro pn0 Z0 (fun _ q => nomatch q) trivial #[.val (.ref x), .val (.int (0 : Int32)), .val (.int (3 : Int32)), .unset, .unset] (fun m => by first | (simp [entryFrame, mkF, argsToLocals, Value.category]; done) | rfl) ?_
  intro p e s m below meth c T0 hlk hret hnm K0
  have P0 := Keep.refl h0 []
  refine gAloadN K0 b7_0 (v := (.ref x)) rfl rfl ?_
  refine gCallV K0 (W := 0) (C := "java/lang/String") x [] [] b7_1 (wd hw 47 rfl) (wd hw 32 rfl) (wd hw 34 rfl) (wd hw 33 rfl) (cal_lenA hw K0.n0le (W := 0) (cs := [c0, c1, c2]) A Sc hz (by decide) (by decide)) (StrA.exa (A : StrA Z _ x [c0, c1, c2])) (fun _ q => nomatch q) pd16 rfl rfl (Nat.le_of_eq rfl) rfl (by decide) (by decide) (by decide) (fun v101 T101 h101 K101 Q101 q101 => ?_)
  have E101 := Ext.of0 Q101
  have P102 := P0.ext E101
  have q101' : v101 = some (.int (3 : Int32)) := q101
  cases q101'
  refine gIstoreN K101 b7_4 (Ls' := #[.val (.ref x), .val (.int (0 : Int32)), .val (.int (3 : Int32)), .val (.int (3 : Int32)), .unset]) rfl ?_
  refine gIloadN K101 b7_5 (v := (0 : Int32)) rfl ?_
  refine gIloadN K101 b7_6 (v := (3 : Int32)) rfl ?_
  refine gIloadN K101 b7_7 (v := (3 : Int32)) rfl ?_
  refine gCallS K101 (W := 0) [(.int (0 : Int32)), (.int (3 : Int32)), (.int (3 : Int32))] [] b7_8 (wd hw 48 rfl) (wd hw 49 rfl) (wd hw 7 rfl) (wd hw 50 rfl) (Cal.ofN (W := 0) (c_cbe l Z a0 hw h101 n0 K101.n0le 3 3 (by decide) (by decide) fm (Sf.ext E101) rf) (wd hw 50 rfl) (wd hw 7 rfl) (by decide) (by decide)) (fun _ q => nomatch q) pd17 rfl rfl (Nat.le_of_eq rfl) rfl (by decide) (by decide) (by decide) (fun v103 T103 h103 K103 Q103 q103 => ?_)
  have E103 := Ext.of0 Q103
  have P104 := P102.ext E103
  cases q103
  refine gIloadN K103 b7_11 (v := (0 : Int32)) rfl ?_
  refine gIf_ne K103 b7_12 (fun q => absurd q (by first | decide | (intro hh; cases hh) | simp)) (fun q12 => ?_)
  refine gIloadN K103 b7_15 (v := (3 : Int32)) rfl ?_
  refine gIloadN K103 b7_16 (v := (3 : Int32)) rfl ?_
  refine gIcmp_ne K103 b7_17 (fun q => absurd q (by first | decide | (intro hh; cases hh) | simp)) (fun q17 => ?_)
  refine gAloadN K103 b7_20 (v := (.ref x)) rfl rfl ?_
  refine gRetA K103 hlk hret rfl rfl b7_21 P104 (by decide) (by decide) ?_
  exact ⟨_, rfl, (A.ext (Ext.tr E101 E103))⟩
set_option maxRecDepth 65536 in
set_option maxHeartbeats 40000000 in
theorem c_wp3 (l : Launch) (Z : State) (a0 : Array Value) (hw : ∀ d ∈ tables_1, d.before a0 Z = true) (h0 : Heap) (n0 : Nat) (Z0 : n0 ≤ h0.size) (c0 c1 c2 : Int32) (x : Addr) (A : StrA Z h0 x [c0, c1, c2]) (z : Int32) (Sc : Sta Z h0 "java/lang/String" "COMPACT_STRINGS" "Z" (.int z)) (hz : ¬ z = 0) (fm : Value) (Sf : Sta Z h0 "jdk/internal/util/Preconditions" "SIOOBE_FORMATTER" "Ljava/util/function/BiFunction;" fm) (rf : fm.isRef = true) (u : US Z h0) (hE : EW Z a0 [("java/lang/String", 7), ("java/lang/StringLatin1", 151)]) :
    Con (some [("java/lang/String", 7), ("java/lang/StringLatin1", 151)]) l (⟨"com/example/stowage/stowage/dicom/Uid", "withoutPadding", "(Ljava/lang/String;)Ljava/lang/String;"⟩ : MethodName) prog_11_method_5_code 2 (some (.object "java/lang/String")) [] ({ frames := 7, cells := 3, slots := 16, locals := 130 } : Room) Z n0 h0 [] #[(.ref x)] (fun v h => ∃ (x : Addr) (t : Nat), v = some (.ref x) ∧ StrA Z h x ([c0, c1, c2].take t) ∧ WP [c0, c1, c2] t) := by
  refine Con.intro pn4 Z0 (fun _ q => nomatch q) ⟨a0, hE⟩ #[.val (.ref x), .unset] (fun m => by first | (simp [entryFrame, mkF, argsToLocals, Value.category]; done) | rfl) ?_
  intro p e s m below meth c T0 hlk hret hnm K0
  have P0 := Keep.refl h0 []
  refine gAloadN K0 b4_0 (v := (.ref x)) rfl rfl ?_
  refine gCallV K0 (W := 0) (C := "java/lang/String") x [] [] b4_1 (wd hw 31 rfl) (wd hw 32 rfl) (wd hw 34 rfl) (wd hw 33 rfl) (cal_lenA hw K0.n0le (W := 0) (cs := [c0, c1, c2]) A Sc hz (by decide) (by decide)) (A).exa (fun _ q => nomatch q) pd16 rfl rfl (Nat.le_of_eq rfl) rfl (by decide) (by decide) (by decide) (fun v101 T101 h101 K101 Q101 q101 => ?_)
  have E101 := Ext.of0 Q101
  have P102 := P0.ext E101
  have q101' : v101 = some (.int (3 : Int32)) := q101
  cases q101'
  refine gIstoreN K101 b4_4 (Ls' := #[.val (.ref x), .val (.int (3 : Int32))]) rfl ?_
  refine gIloadN K101 b4_5 (v := (3 : Int32)) rfl ?_
  refine gIf_le K101 b4_6 (fun q => absurd q (by first | decide | (intro hh; cases hh) | simp)) (fun q6 => ?_)
  refine gAloadN K101 b4_9 (v := (.ref x)) rfl rfl ?_
  refine gIloadN K101 b4_10 (v := (3 : Int32)) rfl ?_
  refine gIconst K101 (1 : Int32) b4_11 rfl ?_
  refine gIsubV K101 (2 : Int32) b4_12 (by decide) ?_
  have j_c2 : ∀ (hp_c2 : pd c2) (Tj : State) (hj : Heap) (Kj : Cx p l e ({ frames := 7, cells := 3, slots := 16, locals := 130 } : Room) s m #[(.ref x)] below meth c prog_11_method_5_code 2 Z "com/example/stowage/stowage/dicom/Uid" n0 (some [("java/lang/String", 7), ("java/lang/StringLatin1", 151)]) Tj hj [] 0 0) (Pj : Keep h0 hj []) (Aj : StrA Z hj x [c0, c1, c2]) (Scj : Sta Z hj "java/lang/String" "COMPACT_STRINGS" "Z" (.int z)) (Sfj : Sta Z hj "jdk/internal/util/Preconditions" "SIOOBE_FORMATTER" "Ljava/util/function/BiFunction;" fm) (uj : US Z hj), Go p e below (End (some [("java/lang/String", 7), ("java/lang/StringLatin1", 151)]) s Z n0 h0 [] ({ frames := 7, cells := 3, slots := 16, locals := 130 } : Room).cells ({ frames := 7, cells := 3, slots := 16, locals := 130 } : Room).slots (fun v h => ∃ (x : Addr) (t : Nat), v = some (.ref x) ∧ StrA Z h x ([c0, c1, c2].take t) ∧ WP [c0, c1, c2] t)) Tj (mkF m 31 #[.val (.ref x), .val (.int (3 : Int32))] []) := by
    intro hp_c2 Tj hj Kj Pj Aj Scj Sfj uj
    refine gIinc Kj (-1 : Int32) b4_31 rfl (x := (3 : Int32)) rfl (Ls' := #[.val (.ref x), .val (.int (2 : Int32))]) rfl ?_
    refine gGoto Kj b4_34 ?_
    refine gIloadN Kj b4_5 (v := (2 : Int32)) rfl ?_
    refine gIf_le Kj b4_6 (fun q => absurd q (by first | decide | (intro hh; cases hh) | simp)) (fun q6 => ?_)
    refine gAloadN Kj b4_9 (v := (.ref x)) rfl rfl ?_
    refine gIloadN Kj b4_10 (v := (2 : Int32)) rfl ?_
    refine gIconst Kj (1 : Int32) b4_11 rfl ?_
    refine gIsubV Kj (1 : Int32) b4_12 (by decide) ?_
    have j_c1 : ∀ (hp_c1 : pd c1) (Tj : State) (hj : Heap) (Kj : Cx p l e ({ frames := 7, cells := 3, slots := 16, locals := 130 } : Room) s m #[(.ref x)] below meth c prog_11_method_5_code 2 Z "com/example/stowage/stowage/dicom/Uid" n0 (some [("java/lang/String", 7), ("java/lang/StringLatin1", 151)]) Tj hj [] 0 0) (Pj : Keep h0 hj []) (Aj : StrA Z hj x [c0, c1, c2]) (Scj : Sta Z hj "java/lang/String" "COMPACT_STRINGS" "Z" (.int z)) (Sfj : Sta Z hj "jdk/internal/util/Preconditions" "SIOOBE_FORMATTER" "Ljava/util/function/BiFunction;" fm) (uj : US Z hj), Go p e below (End (some [("java/lang/String", 7), ("java/lang/StringLatin1", 151)]) s Z n0 h0 [] ({ frames := 7, cells := 3, slots := 16, locals := 130 } : Room).cells ({ frames := 7, cells := 3, slots := 16, locals := 130 } : Room).slots (fun v h => ∃ (x : Addr) (t : Nat), v = some (.ref x) ∧ StrA Z h x ([c0, c1, c2].take t) ∧ WP [c0, c1, c2] t)) Tj (mkF m 31 #[.val (.ref x), .val (.int (2 : Int32))] []) := by
      intro hp_c1 Tj hj Kj Pj Aj Scj Sfj uj
      refine gIinc Kj (-1 : Int32) b4_31 rfl (x := (2 : Int32)) rfl (Ls' := #[.val (.ref x), .val (.int (1 : Int32))]) rfl ?_
      refine gGoto Kj b4_34 ?_
      refine gIloadN Kj b4_5 (v := (1 : Int32)) rfl ?_
      refine gIf_le Kj b4_6 (fun q => absurd q (by first | decide | (intro hh; cases hh) | simp)) (fun q6 => ?_)
      refine gAloadN Kj b4_9 (v := (.ref x)) rfl rfl ?_
      refine gIloadN Kj b4_10 (v := (1 : Int32)) rfl ?_
      refine gIconst Kj (1 : Int32) b4_11 rfl ?_
      refine gIsubV Kj (0 : Int32) b4_12 (by decide) ?_
      have j_c0 : ∀ (hp_c0 : pd c0) (Tj : State) (hj : Heap) (Kj : Cx p l e ({ frames := 7, cells := 3, slots := 16, locals := 130 } : Room) s m #[(.ref x)] below meth c prog_11_method_5_code 2 Z "com/example/stowage/stowage/dicom/Uid" n0 (some [("java/lang/String", 7), ("java/lang/StringLatin1", 151)]) Tj hj [] 0 0) (Pj : Keep h0 hj []) (Aj : StrA Z hj x [c0, c1, c2]) (Scj : Sta Z hj "java/lang/String" "COMPACT_STRINGS" "Z" (.int z)) (Sfj : Sta Z hj "jdk/internal/util/Preconditions" "SIOOBE_FORMATTER" "Ljava/util/function/BiFunction;" fm) (uj : US Z hj), Go p e below (End (some [("java/lang/String", 7), ("java/lang/StringLatin1", 151)]) s Z n0 h0 [] ({ frames := 7, cells := 3, slots := 16, locals := 130 } : Room).cells ({ frames := 7, cells := 3, slots := 16, locals := 130 } : Room).slots (fun v h => ∃ (x : Addr) (t : Nat), v = some (.ref x) ∧ StrA Z h x ([c0, c1, c2].take t) ∧ WP [c0, c1, c2] t)) Tj (mkF m 31 #[.val (.ref x), .val (.int (1 : Int32))] []) := by
        intro hp_c0 Tj hj Kj Pj Aj Scj Sfj uj
        refine gIinc Kj (-1 : Int32) b4_31 rfl (x := (1 : Int32)) rfl (Ls' := #[.val (.ref x), .val (.int (0 : Int32))]) rfl ?_
        refine gGoto Kj b4_34 ?_
        refine gIloadN Kj b4_5 (v := (0 : Int32)) rfl ?_
        refine gIf_le Kj b4_6 (fun q6 => ?_) (fun q => absurd q (by first | decide | (intro hh; cases hh) | simp))
        refine gAloadN Kj b4_37 (v := (.ref x)) rfl rfl ?_
        refine gIconst Kj (0 : Int32) b4_38 rfl ?_
        refine gIloadN Kj b4_39 (v := (0 : Int32)) rfl ?_
        rcases Aj with hA | hA
        · skip
          refine gCallV Kj (W := 0) (C := "java/lang/String") x [(.int (0 : Int32)), (.int (0 : Int32))] [] b4_40 (wd hw 42 rfl) (wd hw 43 rfl) (wd hw 45 rfl) (wd hw 44 rfl) (Cal.ofW (W := 0) (c_subL3_0 l Z a0 hw hj n0 Kj.n0le c0 c1 c2 x hA z Scj hz fm Sfj rf uj hE) (wd hw 46 rfl) (wd hw 7 rfl) (by decide) (by decide)) (StrL.exa hA) (fun _ q => nomatch q) pd18 rfl rfl (Nat.le_of_eq rfl) rfl (by decide) (by decide) (by decide) (fun v103 T103 h103 K103 Q103 q103 => ?_)
          have E103 := Ext.of0 Q103
          have P104 := Pj.ext E103
          obtain ⟨xr, rfl, Sr⟩ := q103
          refine gRetA K103 hlk hret rfl rfl b4_43 P104 (by decide) (by decide) ?_
          exact ⟨_, 0, rfl, Sr, Nat.le_of_ble_eq_true rfl, (fun q => absurd q (Nat.lt_irrefl 0)), (allI hp_c0 (allI hp_c1 (allI hp_c2 allI0)))⟩
        · skip
          have hu : ∃ c ∈ ([] : List Int32), (255 : Int32) < c := hiPre (a := ([] : List Int32)) (b := [c0, c1, c2]) (by obtain ⟨t, kb, -, -, -, -, -, q, -⟩ := hA; exact q) ((allI hp_c0 (allI hp_c1 (allI hp_c2 allI0))))
          exact absurd hu (noHi (fun _ q => nomatch q))
      refine gCallV Kj (W := 0) (C := "java/lang/String") x [(.int (0 : Int32))] [] b4_13 (wd hw 70 rfl) (wd hw 71 rfl) (wd hw 73 rfl) (wd hw 72 rfl) (cal_chA hw Kj.n0le (W := 0) (cs := [c0, c1, c2]) 0 Aj Scj hz Sfj rf uj (Nat.le_of_ble_eq_true rfl) (by decide) (by decide)) (Aj).exa (fun _ q => nomatch q) pd20 rfl rfl (Nat.le_of_eq rfl) rfl (by decide) (by decide) (by decide) (fun v105 T105 h105 K105 Q105 q105 => ?_)
      have E105 := Ext.of0 Q105
      have P106 := Pj.ext E105
      have q105' : v105 = some (.int c0) := q105
      cases q105'
      refine gIf_eq K105 b4_16 (fun hz_c0 => ?_) (fun hz_c0 => ?_)
      · skip
        exact j_c0 (Or.inl hz_c0) _ _ K105 P106 (Aj.ext E105) (Scj.ext E105) (Sfj.ext E105) (uj.ext E105)
      · skip
        refine gAloadN K105 b4_19 (v := (.ref x)) rfl rfl ?_
        refine gIloadN K105 b4_20 (v := (1 : Int32)) rfl ?_
        refine gIconst K105 (1 : Int32) b4_21 rfl ?_
        refine gIsubV K105 (0 : Int32) b4_22 (by decide) ?_
        refine gCallV K105 (W := 0) (C := "java/lang/String") x [(.int (0 : Int32))] [] b4_23 (wd hw 70 rfl) (wd hw 71 rfl) (wd hw 73 rfl) (wd hw 72 rfl) (cal_chA hw K105.n0le (W := 0) (cs := [c0, c1, c2]) 0 (Aj.ext E105) (Scj.ext E105) hz (Sfj.ext E105) rf (uj.ext E105) (Nat.le_of_ble_eq_true rfl) (by decide) (by decide)) ((Aj.ext E105)).exa (fun _ q => nomatch q) pd20 rfl rfl (Nat.le_of_eq rfl) rfl (by decide) (by decide) (by decide) (fun v107 T107 h107 K107 Q107 q107 => ?_)
        have E107 := Ext.of0 Q107
        have P108 := P106.ext E107
        have q107' : v107 = some (.int c0) := q107
        cases q107'
        refine gBipush K107 (32 : Int32) b4_26 rfl ?_
        refine gIcmp_ne K107 b4_28 (fun hs_c0 => ?_) (fun hs_c0 => ?_)
        · skip
          refine gAloadN K107 b4_37 (v := (.ref x)) rfl rfl ?_
          refine gIconst K107 (0 : Int32) b4_38 rfl ?_
          refine gIloadN K107 b4_39 (v := (1 : Int32)) rfl ?_
          rcases (Aj.ext (Ext.tr E105 E107)) with hA | hA
          · skip
            refine gCallV K107 (W := 0) (C := "java/lang/String") x [(.int (0 : Int32)), (.int (1 : Int32))] [] b4_40 (wd hw 42 rfl) (wd hw 43 rfl) (wd hw 45 rfl) (wd hw 44 rfl) (Cal.ofN (W := 0) (c_subL3_1 l Z a0 hw h107 n0 K107.n0le c0 c1 c2 x hA z (Scj.ext (Ext.tr E105 E107)) hz fm (Sfj.ext (Ext.tr E105 E107)) rf (uj.ext (Ext.tr E105 E107))) (wd hw 46 rfl) (wd hw 7 rfl) (by decide) (by decide)) (StrL.exa hA) (fun _ q => nomatch q) pd18 rfl rfl (Nat.le_of_eq rfl) rfl (by decide) (by decide) (by decide) (fun v109 T109 h109 K109 Q109 q109 => ?_)
            have E109 := Ext.of0 Q109
            have P110 := P108.ext E109
            obtain ⟨xr, rfl, Sr⟩ := q109
            refine gRetA K109 hlk hret rfl rfl b4_43 P110 (by decide) (by decide) ?_
            exact ⟨_, 1, rfl, Sr, Nat.le_of_ble_eq_true rfl, (fun _ q => q.elim hz_c0 hs_c0), (allI hp_c1 (allI hp_c2 allI0))⟩
          · skip
            have hu : ∃ c ∈ [c0], (255 : Int32) < c := hiPre (a := [c0]) (b := [c1, c2]) (by obtain ⟨t, kb, -, -, -, -, -, q, -⟩ := hA; exact q) ((allI hp_c1 (allI hp_c2 allI0)))
            refine gCallV K107 (W := 0) (C := "java/lang/String") x [(.int (0 : Int32)), (.int (1 : Int32))] [] b4_40 (wd hw 42 rfl) (wd hw 43 rfl) (wd hw 45 rfl) (wd hw 44 rfl) (Cal.ofN (W := 0) (c_subU3_1 l Z a0 hw h107 n0 K107.n0le c0 c1 c2 x hA z (Scj.ext (Ext.tr E105 E107)) hz fm (Sfj.ext (Ext.tr E105 E107)) rf (uj.ext (Ext.tr E105 E107)) hu) (wd hw 46 rfl) (wd hw 7 rfl) (by decide) (by decide)) (StrA.exa (Or.inr hA)) (fun _ q => nomatch q) pd18 rfl rfl (Nat.le_of_eq rfl) rfl (by decide) (by decide) (by decide) (fun v111 T111 h111 K111 Q111 q111 => ?_)
            have E111 := Ext.of0 Q111
            have P112 := P108.ext E111
            obtain ⟨xr, rfl, Sr⟩ := q111
            refine gRetA K111 hlk hret rfl rfl b4_43 P112 (by decide) (by decide) ?_
            exact ⟨_, 1, rfl, Sr, Nat.le_of_ble_eq_true rfl, (fun _ q => q.elim hz_c0 hs_c0), (allI hp_c1 (allI hp_c2 allI0))⟩
        · skip
          exact j_c0 (Or.inr hs_c0) _ _ K107 P108 (Aj.ext (Ext.tr E105 E107)) (Scj.ext (Ext.tr E105 E107)) (Sfj.ext (Ext.tr E105 E107)) (uj.ext (Ext.tr E105 E107))
    refine gCallV Kj (W := 0) (C := "java/lang/String") x [(.int (1 : Int32))] [] b4_13 (wd hw 70 rfl) (wd hw 71 rfl) (wd hw 73 rfl) (wd hw 72 rfl) (cal_chA hw Kj.n0le (W := 0) (cs := [c0, c1, c2]) 1 Aj Scj hz Sfj rf uj (Nat.le_of_ble_eq_true rfl) (by decide) (by decide)) (Aj).exa (fun _ q => nomatch q) pd20 rfl rfl (Nat.le_of_eq rfl) rfl (by decide) (by decide) (by decide) (fun v113 T113 h113 K113 Q113 q113 => ?_)
    have E113 := Ext.of0 Q113
    have P114 := Pj.ext E113
    have q113' : v113 = some (.int c1) := q113
    cases q113'
    refine gIf_eq K113 b4_16 (fun hz_c1 => ?_) (fun hz_c1 => ?_)
    · skip
      exact j_c1 (Or.inl hz_c1) _ _ K113 P114 (Aj.ext E113) (Scj.ext E113) (Sfj.ext E113) (uj.ext E113)
    · skip
      refine gAloadN K113 b4_19 (v := (.ref x)) rfl rfl ?_
      refine gIloadN K113 b4_20 (v := (2 : Int32)) rfl ?_
      refine gIconst K113 (1 : Int32) b4_21 rfl ?_
      refine gIsubV K113 (1 : Int32) b4_22 (by decide) ?_
      refine gCallV K113 (W := 0) (C := "java/lang/String") x [(.int (1 : Int32))] [] b4_23 (wd hw 70 rfl) (wd hw 71 rfl) (wd hw 73 rfl) (wd hw 72 rfl) (cal_chA hw K113.n0le (W := 0) (cs := [c0, c1, c2]) 1 (Aj.ext E113) (Scj.ext E113) hz (Sfj.ext E113) rf (uj.ext E113) (Nat.le_of_ble_eq_true rfl) (by decide) (by decide)) ((Aj.ext E113)).exa (fun _ q => nomatch q) pd20 rfl rfl (Nat.le_of_eq rfl) rfl (by decide) (by decide) (by decide) (fun v115 T115 h115 K115 Q115 q115 => ?_)
      have E115 := Ext.of0 Q115
      have P116 := P114.ext E115
      have q115' : v115 = some (.int c1) := q115
      cases q115'
      refine gBipush K115 (32 : Int32) b4_26 rfl ?_
      refine gIcmp_ne K115 b4_28 (fun hs_c1 => ?_) (fun hs_c1 => ?_)
      · skip
        refine gAloadN K115 b4_37 (v := (.ref x)) rfl rfl ?_
        refine gIconst K115 (0 : Int32) b4_38 rfl ?_
        refine gIloadN K115 b4_39 (v := (2 : Int32)) rfl ?_
        rcases (Aj.ext (Ext.tr E113 E115)) with hA | hA
        · skip
          refine gCallV K115 (W := 0) (C := "java/lang/String") x [(.int (0 : Int32)), (.int (2 : Int32))] [] b4_40 (wd hw 42 rfl) (wd hw 43 rfl) (wd hw 45 rfl) (wd hw 44 rfl) (Cal.ofN (W := 0) (c_subL3_2 l Z a0 hw h115 n0 K115.n0le c0 c1 c2 x hA z (Scj.ext (Ext.tr E113 E115)) hz fm (Sfj.ext (Ext.tr E113 E115)) rf (uj.ext (Ext.tr E113 E115))) (wd hw 46 rfl) (wd hw 7 rfl) (by decide) (by decide)) (StrL.exa hA) (fun _ q => nomatch q) pd18 rfl rfl (Nat.le_of_eq rfl) rfl (by decide) (by decide) (by decide) (fun v117 T117 h117 K117 Q117 q117 => ?_)
          have E117 := Ext.of0 Q117
          have P118 := P116.ext E117
          obtain ⟨xr, rfl, Sr⟩ := q117
          refine gRetA K117 hlk hret rfl rfl b4_43 P118 (by decide) (by decide) ?_
          exact ⟨_, 2, rfl, Sr, Nat.le_of_ble_eq_true rfl, (fun _ q => q.elim hz_c1 hs_c1), (allI hp_c2 allI0)⟩
        · skip
          have hu : ∃ c ∈ [c0, c1], (255 : Int32) < c := hiPre (a := [c0, c1]) (b := [c2]) (by obtain ⟨t, kb, -, -, -, -, -, q, -⟩ := hA; exact q) ((allI hp_c2 allI0))
          refine gCallV K115 (W := 0) (C := "java/lang/String") x [(.int (0 : Int32)), (.int (2 : Int32))] [] b4_40 (wd hw 42 rfl) (wd hw 43 rfl) (wd hw 45 rfl) (wd hw 44 rfl) (Cal.ofN (W := 0) (c_subU3_2 l Z a0 hw h115 n0 K115.n0le c0 c1 c2 x hA z (Scj.ext (Ext.tr E113 E115)) hz fm (Sfj.ext (Ext.tr E113 E115)) rf (uj.ext (Ext.tr E113 E115)) hu) (wd hw 46 rfl) (wd hw 7 rfl) (by decide) (by decide)) (StrA.exa (Or.inr hA)) (fun _ q => nomatch q) pd18 rfl rfl (Nat.le_of_eq rfl) rfl (by decide) (by decide) (by decide) (fun v119 T119 h119 K119 Q119 q119 => ?_)
          have E119 := Ext.of0 Q119
          have P120 := P116.ext E119
          obtain ⟨xr, rfl, Sr⟩ := q119
          refine gRetA K119 hlk hret rfl rfl b4_43 P120 (by decide) (by decide) ?_
          exact ⟨_, 2, rfl, Sr, Nat.le_of_ble_eq_true rfl, (fun _ q => q.elim hz_c1 hs_c1), (allI hp_c2 allI0)⟩
      · skip
        exact j_c1 (Or.inr hs_c1) _ _ K115 P116 (Aj.ext (Ext.tr E113 E115)) (Scj.ext (Ext.tr E113 E115)) (Sfj.ext (Ext.tr E113 E115)) (uj.ext (Ext.tr E113 E115))
  refine gCallV K101 (W := 0) (C := "java/lang/String") x [(.int (2 : Int32))] [] b4_13 (wd hw 70 rfl) (wd hw 71 rfl) (wd hw 73 rfl) (wd hw 72 rfl) (cal_chA hw K101.n0le (W := 0) (cs := [c0, c1, c2]) 2 (A.ext E101) (Sc.ext E101) hz (Sf.ext E101) rf (u.ext E101) (Nat.le_of_ble_eq_true rfl) (by decide) (by decide)) ((A.ext E101)).exa (fun _ q => nomatch q) pd20 rfl rfl (Nat.le_of_eq rfl) rfl (by decide) (by decide) (by decide) (fun v121 T121 h121 K121 Q121 q121 => ?_)
  have E121 := Ext.of0 Q121
  have P122 := P102.ext E121
  have q121' : v121 = some (.int c2) := q121
  cases q121'
  refine gIf_eq K121 b4_16 (fun hz_c2 => ?_) (fun hz_c2 => ?_)
  · skip
    exact j_c2 (Or.inl hz_c2) _ _ K121 P122 (A.ext (Ext.tr E101 E121)) (Sc.ext (Ext.tr E101 E121)) (Sf.ext (Ext.tr E101 E121)) (u.ext (Ext.tr E101 E121))
  · skip
    refine gAloadN K121 b4_19 (v := (.ref x)) rfl rfl ?_
    refine gIloadN K121 b4_20 (v := (3 : Int32)) rfl ?_
    refine gIconst K121 (1 : Int32) b4_21 rfl ?_
    refine gIsubV K121 (2 : Int32) b4_22 (by decide) ?_
    refine gCallV K121 (W := 0) (C := "java/lang/String") x [(.int (2 : Int32))] [] b4_23 (wd hw 70 rfl) (wd hw 71 rfl) (wd hw 73 rfl) (wd hw 72 rfl) (cal_chA hw K121.n0le (W := 0) (cs := [c0, c1, c2]) 2 (A.ext (Ext.tr E101 E121)) (Sc.ext (Ext.tr E101 E121)) hz (Sf.ext (Ext.tr E101 E121)) rf (u.ext (Ext.tr E101 E121)) (Nat.le_of_ble_eq_true rfl) (by decide) (by decide)) ((A.ext (Ext.tr E101 E121))).exa (fun _ q => nomatch q) pd20 rfl rfl (Nat.le_of_eq rfl) rfl (by decide) (by decide) (by decide) (fun v123 T123 h123 K123 Q123 q123 => ?_)
    have E123 := Ext.of0 Q123
    have P124 := P122.ext E123
    have q123' : v123 = some (.int c2) := q123
    cases q123'
    refine gBipush K123 (32 : Int32) b4_26 rfl ?_
    refine gIcmp_ne K123 b4_28 (fun hs_c2 => ?_) (fun hs_c2 => ?_)
    · skip
      refine gAloadN K123 b4_37 (v := (.ref x)) rfl rfl ?_
      refine gIconst K123 (0 : Int32) b4_38 rfl ?_
      refine gIloadN K123 b4_39 (v := (3 : Int32)) rfl ?_
      refine gCallV K123 (W := 0) (C := "java/lang/String") x [(.int (0 : Int32)), (.int (3 : Int32))] [] b4_40 (wd hw 42 rfl) (wd hw 43 rfl) (wd hw 45 rfl) (wd hw 44 rfl) (Cal.ofN (W := 0) (c_subE3_3 l Z a0 hw h123 n0 K123.n0le c0 c1 c2 x (A.ext (Ext.tr (Ext.tr E101 E121) E123)) z (Sc.ext (Ext.tr (Ext.tr E101 E121) E123)) hz fm (Sf.ext (Ext.tr (Ext.tr E101 E121) E123)) rf (u.ext (Ext.tr (Ext.tr E101 E121) E123))) (wd hw 46 rfl) (wd hw 7 rfl) (by decide) (by decide)) ((A.ext (Ext.tr (Ext.tr E101 E121) E123))).exa (fun _ q => nomatch q) pd18 rfl rfl (Nat.le_of_eq rfl) rfl (by decide) (by decide) (by decide) (fun v125 T125 h125 K125 Q125 q125 => ?_)
      have E125 := Ext.of0 Q125
      have P126 := P124.ext E125
      obtain ⟨xr, rfl, Sr⟩ := q125
      refine gRetA K125 hlk hret rfl rfl b4_43 P126 (by decide) (by decide) ?_
      exact ⟨_, 3, rfl, Sr, Nat.le_of_ble_eq_true rfl, (fun _ q => q.elim hz_c2 hs_c2), allI0⟩
    · skip
      exact j_c2 (Or.inr hs_c2) _ _ K123 P124 (A.ext (Ext.tr (Ext.tr E101 E121) E123)) (Sc.ext (Ext.tr (Ext.tr E101 E121) E123)) (Sf.ext (Ext.tr (Ext.tr E101 E121) E123)) (u.ext (Ext.tr (Ext.tr E101 E121) E123))
set_option maxRecDepth 65536 in
set_option maxHeartbeats 40000000 in
theorem c_nsL4_0 (l : Launch) (Z : State) (a0 : Array Value) (hw : ∀ d ∈ tables_1, d.before a0 Z = true) (h0 : Heap) (n0 : Nat) (Z0 : n0 ≤ h0.size) (c0 c1 c2 c3 : Int32) (bb : Addr) (kA : ClassId) (Ab : Arv Z h0 bb kA .byte (4 : Int32) (([c0, c1, c2, c3].map StrChars.lo8).map Value.int) (.int 0)) (hp : ∀ c ∈ ([] : List Int32), ¬ c < 0 ∧ ¬ (255 : Int32) < c) (hE : EW Z a0 [("java/lang/String", 7), ("java/lang/StringLatin1", 151)]) :
    Con (some [("java/lang/String", 7), ("java/lang/StringLatin1", 151)]) l (⟨"java/lang/StringLatin1", "newString", "([BII)Ljava/lang/String;"⟩ : MethodName) jdk_43_method_47_code 3 (some (.object "java/lang/String")) [] ({ frames := 0, cells := 2, slots := 4, locals := 0 } : Room) Z n0 h0 [] #[(.ref bb), (.int (0 : Int32)), (.int (0 : Int32))] (fun v h => ∃ x : Addr, v = some (.ref x) ∧ StrL Z h x ([] : List Int32)) := by
  refine Con.intro pn5 Z0 (fun _ q => nomatch q) ⟨a0, hE⟩ #[.val (.ref bb), .val (.int (0 : Int32)), .val (.int (0 : Int32))] (fun m => by first | (simp [entryFrame, mkF, argsToLocals, Value.category]; done) | rfl) ?_
  intro p e s m below meth c T0 hlk hret hnm K0
  have P0 := Keep.refl h0 []
  refine gIloadN K0 b20_0 (v := (0 : Int32)) rfl ?_
  refine gIf_ne K0 b20_1 (fun q => absurd q (by first | decide | (intro hh; cases hh) | simp)) (fun q1 => ?_)
  refine gLdc K0 b20_4 (wd hw 119 rfl) (hsA hw) (by decide) (vs := []) (z := 0) (by decide) (by decide) (by decide) 0 (by decide) (by decide) (by decide) (by decide) (fun T101 h101 a101 b101 kA101 K101 E101 Ea101 Fc101 Fv101 Ab101 ne101 => ?_)
  have P102 := P0.ext E101
  refine gRetA K101 hlk hret rfl rfl b20_6 P102 (by decide) (by decide) ?_
  exact ⟨_, rfl, b101, _, Ea101, Fc101, Fv101, Ab101, (fun _ q => nomatch q), by decide⟩
set_option maxRecDepth 65536 in
set_option maxHeartbeats 40000000 in
theorem c_subL4_0 (l : Launch) (Z : State) (a0 : Array Value) (hw : ∀ d ∈ tables_1, d.before a0 Z = true) (h0 : Heap) (n0 : Nat) (Z0 : n0 ≤ h0.size) (c0 c1 c2 c3 : Int32) (x : Addr) (A : StrL Z h0 x [c0, c1, c2, c3]) (z : Int32) (Sc : Sta Z h0 "java/lang/String" "COMPACT_STRINGS" "Z" (.int z)) (hz : ¬ z = 0) (fm : Value) (Sf : Sta Z h0 "jdk/internal/util/Preconditions" "SIOOBE_FORMATTER" "Ljava/util/function/BiFunction;" fm) (rf : fm.isRef = true) (u : US Z h0) (hE : EW Z a0 [("java/lang/String", 7), ("java/lang/StringLatin1", 151)]) :
    Con (some [("java/lang/String", 7), ("java/lang/StringLatin1", 151)]) l (⟨"java/lang/String", "substring", "(II)Ljava/lang/String;"⟩ : MethodName) jdk_42_method_92_code 5 (some (.object "java/lang/String")) [] ({ frames := 6, cells := 3, slots := 16, locals := 112 } : Room) Z n0 h0 [] #[(.ref x), (.int (0 : Int32)), (.int (0 : Int32))] (fun v h => ∃ x : Addr, v = some (.ref x) ∧ StrA Z h x ([] : List Int32)) := by
  refine Con.intro pn0 Z0 (fun _ q => nomatch q) ⟨a0, hE⟩ #[.val (.ref x), .val (.int (0 : Int32)), .val (.int (0 : Int32)), .unset, .unset] (fun m => by first | (simp [entryFrame, mkF, argsToLocals, Value.category]; done) | rfl) ?_
  intro p e s m below meth c T0 hlk hret hnm K0
  have P0 := Keep.refl h0 []
  have A_ := A
  obtain ⟨bb, kA, Ex, Fc, Fv, Ab, hp, hN⟩ := A_
  refine gAloadN K0 b7_0 (v := (.ref x)) rfl rfl ?_
  refine gCallV K0 (W := 0) (C := "java/lang/String") x [] [] b7_1 (wd hw 47 rfl) (wd hw 32 rfl) (wd hw 34 rfl) (wd hw 33 rfl) (cal_lenA hw K0.n0le (W := 0) (cs := [c0, c1, c2, c3]) (Or.inl A) Sc hz (by decide) (by decide)) (StrA.exa ((Or.inl A) : StrA Z _ x [c0, c1, c2, c3])) (fun _ q => nomatch q) pd16 rfl rfl (Nat.le_of_eq rfl) rfl (by decide) (by decide) (by decide) (fun v101 T101 h101 K101 Q101 q101 => ?_)
  have E101 := Ext.of0 Q101
  have P102 := P0.ext E101
  have q101' : v101 = some (.int (4 : Int32)) := q101
  cases q101'
  refine gIstoreN K101 b7_4 (Ls' := #[.val (.ref x), .val (.int (0 : Int32)), .val (.int (0 : Int32)), .val (.int (4 : Int32)), .unset]) rfl ?_
  refine gIloadN K101 b7_5 (v := (0 : Int32)) rfl ?_
  refine gIloadN K101 b7_6 (v := (0 : Int32)) rfl ?_
  refine gIloadN K101 b7_7 (v := (4 : Int32)) rfl ?_
  refine gCallS K101 (W := 0) [(.int (0 : Int32)), (.int (0 : Int32)), (.int (4 : Int32))] [] b7_8 (wd hw 48 rfl) (wd hw 49 rfl) (wd hw 7 rfl) (wd hw 50 rfl) (Cal.ofN (W := 0) (c_cbe l Z a0 hw h101 n0 K101.n0le 4 0 (by decide) (by decide) fm (Sf.ext E101) rf) (wd hw 50 rfl) (wd hw 7 rfl) (by decide) (by decide)) (fun _ q => nomatch q) pd17 rfl rfl (Nat.le_of_eq rfl) rfl (by decide) (by decide) (by decide) (fun v103 T103 h103 K103 Q103 q103 => ?_)
  have E103 := Ext.of0 Q103
  have P104 := P102.ext E103
  cases q103
  refine gIloadN K103 b7_11 (v := (0 : Int32)) rfl ?_
  refine gIf_ne K103 b7_12 (fun q => absurd q (by first | decide | (intro hh; cases hh) | simp)) (fun q12 => ?_)
  refine gIloadN K103 b7_15 (v := (0 : Int32)) rfl ?_
  refine gIloadN K103 b7_16 (v := (4 : Int32)) rfl ?_
  refine gIcmp_ne K103 b7_17 (fun q17 => ?_) (fun q => absurd q (by first | decide | (intro hh; cases hh) | simp))
  refine gIloadN K103 b7_22 (v := (0 : Int32)) rfl ?_
  refine gIloadN K103 b7_23 (v := (0 : Int32)) rfl ?_
  refine gIsubV K103 (0 : Int32) b7_24 (by decide) ?_
  refine gIstore K103 b7_25 (Ls' := #[.val (.ref x), .val (.int (0 : Int32)), .val (.int (0 : Int32)), .val (.int (4 : Int32)), .val (.int (0 : Int32))]) rfl ?_
  refine gAloadN K103 b7_27 (v := (.ref x)) rfl rfl ?_
  refine gCallV K103 (W := 0) (C := "java/lang/String") x [] [] b7_28 (wd hw 75 rfl) (wd hw 76 rfl) (wd hw 78 rfl) (wd hw 77 rfl) (Cal.ofN (W := 0) (c_isL0 l Z a0 hw h103 n0 K103.n0le x (Fc.ext (Ext.tr E101 E103)) z (Sc.ext (Ext.tr E101 E103)) hz) (wd hw 79 rfl) (wd hw 7 rfl) (by decide) (by decide)) (Ex.ext (Ext.tr E101 E103)) (fun _ q => nomatch q) pd12 rfl rfl (Nat.le_of_eq rfl) rfl (by decide) (by decide) (by decide) (fun v105 T105 h105 K105 Q105 q105 => ?_)
  have E105 := Ext.of0 Q105
  have P106 := P104.ext E105
  cases q105
  refine gIf_eq K105 b7_31 (fun q => absurd q (by first | decide | (intro hh; cases hh) | simp)) (fun q31 => ?_)
  refine gAloadN K105 b7_34 (v := (.ref x)) rfl rfl ?_
  refine gGet K105 b7_35 (wd hw 25 rfl) (Fv.ext (Ext.tr (Ext.tr E101 E103) E105)) (fun T107 K107 => ?_)
  refine gIloadN K107 b7_38 (v := (0 : Int32)) rfl ?_
  refine gIload K107 b7_39 (v := (0 : Int32)) rfl ?_
  refine gCallS K107 (W := 0) [(.ref bb), (.int (0 : Int32)), (.int (0 : Int32))] [] b7_41 (wd hw 94 rfl) (wd hw 95 rfl) (wd hw 82 rfl) (wd hw 96 rfl) (Cal.ofW (W := 0) (c_nsL4_0 l Z a0 hw h105 n0 K107.n0le c0 c1 c2 c3 bb kA (Ab.ext (Ext.tr (Ext.tr E101 E103) E105)) (fun c hc => hp c (List.mem_append_left [c0, c1, c2, c3] hc)) hE) (wd hw 96 rfl) (wd hw 82 rfl) (by decide) (by decide)) (fun _ q => nomatch q) pd19 rfl rfl (Nat.le_of_eq rfl) rfl (by decide) (by decide) (by decide) (fun v108 T108 h108 K108 Q108 q108 => ?_)
  have E108 := Ext.of0 Q108
  have P109 := P106.ext E108
  obtain ⟨xr, rfl, Sr⟩ := q108
  refine gGoto K108 b7_44 ?_
  refine gRetA K108 hlk hret rfl rfl b7_57 P109 (by decide) (by decide) ?_
  exact ⟨_, rfl, Or.inl Sr⟩
set_option maxRecDepth 65536 in
set_option maxHeartbeats 40000000 in
theorem c_corB4_1 (l : Launch) (Z : State) (a0 : Array Value) (hw : ∀ d ∈ tables_1, d.before a0 Z = true) (h0 : Heap) (n0 : Nat) (Z0 : n0 ≤ h0.size) (bb : Addr) (kA : ClassId) (vs : List Value) (Ab : Arv Z h0 bb kA .byte (4 : Int32) vs (.int 0)) (hv : vs.length = 4) :
    Con none l (⟨"java/util/Arrays", "copyOfRangeByte", "([BII)[B"⟩ : MethodName) jdk_65_method_133_code 5 (some (.array .byte)) [] ({ frames := 1, cells := 1, slots := 1, locals := 40 } : Room) Z n0 h0 [] #[(.ref bb), (.int (0 : Int32)), (.int (1 : Int32))] (fun v h => ∃ (b : Addr) (kA : ClassId), v = some (.ref b) ∧ h0.size ≤ b ∧ Arv Z h b kA .byte (1 : Int32) (vs.take 1) (.int 0)) := by
  refine Con.intro pn6 Z0 (fun _ q => nomatch q) trivial #[.val (.ref bb), .val (.int (0 : Int32)), .val (.int (1 : Int32)), .unset, .unset] (fun m => by first | (simp [entryFrame, mkF, argsToLocals, Value.category]; done) | rfl) ?_
  intro p e s m below meth c T0 hlk hret hnm K0
  have P0 := Keep.refl h0 []
  refine gIloadN K0 b22_0 (v := (0 : Int32)) rfl ?_
  refine gIloadN K0 b22_1 (v := (1 : Int32)) rfl ?_
  refine gCallS K0 (W := 0) [(.int (0 : Int32)), (.int (1 : Int32))] [] b22_2 (wd hw 105 rfl) (wd hw 106 rfl) (wd hw 100 rfl) (wd hw 107 rfl) (Cal.ofN (W := 0) (c_ckl l Z a0 hw h0 n0 K0.n0le 1 (by decide)) (wd hw 107 rfl) (wd hw 100 rfl) (by decide) (by decide)) (fun _ q => nomatch q) pd10 rfl rfl (Nat.le_of_eq rfl) rfl (by decide) (by decide) (by decide) (fun v101 T101 h101 K101 Q101 q101 => ?_)
  have E101 := Ext.of0 Q101
  have P102 := P0.ext E101
  cases q101
  refine gIloadN K101 b22_5 (v := (1 : Int32)) rfl ?_
  refine gIloadN K101 b22_6 (v := (0 : Int32)) rfl ?_
  refine gIsubV K101 (1 : Int32) b22_7 (by decide) ?_
  refine gIstoreN K101 b22_8 (Ls' := #[.val (.ref bb), .val (.int (0 : Int32)), .val (.int (1 : Int32)), .val (.int (1 : Int32)), .unset]) rfl ?_
  refine gIloadN K101 b22_9 (v := (1 : Int32)) rfl ?_
  refine gNewarr K101 b22_10 (wd hw 20 rfl) (by decide) 1 (by decide) (by decide) (by decide) (by decide) (fun T103 h103 x103 kA103 K103 E103 g103 A103 ne103 => ?_)
  have P104 := P102.ext E103
  have ge_x103 : h0.size ≤ x103 := by rw [g103]; exact P102.1
  refine gAstore K103 b22_12 rfl (Ls' := #[.val (.ref bb), .val (.int (0 : Int32)), .val (.int (1 : Int32)), .val (.int (1 : Int32)), .val (.ref x103)]) rfl ?_
  refine gAloadN K103 b22_14 (v := (.ref bb)) rfl rfl ?_
  refine gIloadN K103 b22_15 (v := (0 : Int32)) rfl ?_
  refine gAload K103 b22_16 (v := (.ref x103)) rfl rfl ?_
  refine gIconst K103 (0 : Int32) b22_18 rfl ?_
  refine gAloadN K103 b22_19 (v := (.ref bb)) rfl rfl ?_
  refine gLen K103 b22_20 (Ab.ext (Ext.tr E101 E103)) ?_
  refine gIloadN K103 b22_21 (v := (0 : Int32)) rfl ?_
  refine gIsubV K103 (4 : Int32) b22_22 (by decide) ?_
  refine gIloadN K103 b22_23 (v := (1 : Int32)) rfl ?_
  refine gCallS K103 (W := 4) [(.int (4 : Int32)), (.int (1 : Int32))] [(.int (0 : Int32)), (.ref x103), (.int (0 : Int32)), (.ref bb)] b22_24 (wd hw 108 rfl) (wd hw 109 rfl) (wd hw 110 rfl) (wd hw 111 rfl) (Cal.ofN (W := 4) (c_min l Z a0 hw h103 n0 K103.n0le 4 1 (by decide) (by decide)) (wd hw 111 rfl) (wd hw 110 rfl) (by decide) (by decide)) (fun _ q => nomatch q) pd21 rfl rfl (Nat.le_of_eq rfl) rfl (by decide) (by decide) (by decide) (fun v105 T105 h105 K105 Q105 q105 => ?_)
  have E105 := Ext.of0 Q105
  have P106 := P104.ext E105
  have q105' : v105 = some (.int (1 : Int32)) := q105
  cases q105'
  refine gCopy K105 b22_27 (wd hw 112 rfl) (wd hw 115 rfl) (wd hw 113 rfl) (wd hw 114 rfl) (me 0 rfl) (Ab.ext (Ext.tr (Ext.tr E101 E103) E105)) (Arv.pad (A103.ext E105) (pad_rep [] (.int 0) 1)) (by decide) (by decide) (by decide) (by decide) (by decide) (us := vs.take 1) (range_take (t := 1) (by omega)) (by decide) rfl (by decide) (W := 0) (Nat.le_of_eq rfl) (by decide) (fun T107 h107 K107 Q107 A107 => ?_)
  have P108 := P106.trans Q107 (fun z q => by cases List.mem_singleton.mp q; exact Or.inr ge_x103)
  have B107 : Arv Z h107 x103 kA103 .byte (1 : Int32) (vs.take 1) (.int 0) := by rw [show vs.take 1 = [] ++ vs.take 1 ++ [] from (List.append_nil _).symm]; exact A107
  refine gAload K107 b22_30 (v := (.ref x103)) rfl rfl ?_
  refine gRetA K107 hlk hret rfl rfl b22_32 P108 (by decide) (by decide) ?_
  exact ⟨_, _, rfl, ge_x103, B107⟩
set_option maxRecDepth 65536 in
set_option maxHeartbeats 40000000 in
theorem c_cor4_1 (l : Launch) (Z : State) (a0 : Array Value) (hw : ∀ d ∈ tables_1, d.before a0 Z = true) (h0 : Heap) (n0 : Nat) (Z0 : n0 ≤ h0.size) (bb : Addr) (kA : ClassId) (vs : List Value) (Ab : Arv Z h0 bb kA .byte (4 : Int32) vs (.int 0)) (hv : vs.length = 4) :
    Con none l (⟨"java/util/Arrays", "copyOfRange", "([BII)[B"⟩ : MethodName) jdk_65_method_132_code 3 (some (.array .byte)) [] ({ frames := 2, cells := 1, slots := 1, locals := 56 } : Room) Z n0 h0 [] #[(.ref bb), (.int (0 : Int32)), (.int (1 : Int32))] (fun v h => ∃ (b : Addr) (kA : ClassId), v = some (.ref b) ∧ h0.size ≤ b ∧ Arv Z h b kA .byte (1 : Int32) (vs.take 1) (.int 0)) := by
  refine Con.intro pn6 Z0 (fun _ q => nomatch q) trivial #[.val (.ref bb), .val (.int (0 : Int32)), .val (.int (1 : Int32))] (fun m => by first | (simp [entryFrame, mkF, argsToLocals, Value.category]; done) | rfl) ?_
  intro p e s m below meth c T0 hlk hret hnm K0
  have P0 := Keep.refl h0 []
  refine gIloadN K0 b21_0 (v := (0 : Int32)) rfl ?_
  refine gIf_ne K0 b21_1 (fun q => absurd q (by first | decide | (intro hh; cases hh) | simp)) (fun q1 => ?_)
  refine gIloadN K0 b21_4 (v := (1 : Int32)) rfl ?_
  refine gAloadN K0 b21_5 (v := (.ref bb)) rfl rfl ?_
  refine gLen K0 b21_6 Ab ?_
  refine gIcmp_eq K0 b21_7 (fun q => absurd q (by first | decide | (intro hh; cases hh) | simp)) (fun q7 => ?_)
  refine gAloadN K0 b21_10 (v := (.ref bb)) rfl rfl ?_
  refine gIloadN K0 b21_11 (v := (0 : Int32)) rfl ?_
  refine gIloadN K0 b21_12 (v := (1 : Int32)) rfl ?_
  refine gCallS K0 (W := 0) [(.ref bb), (.int (0 : Int32)), (.int (1 : Int32))] [] b21_13 (wd hw 102 rfl) (wd hw 103 rfl) (wd hw 100 rfl) (wd hw 104 rfl) (Cal.ofN (W := 0) (c_corB4_1 l Z a0 hw h0 n0 K0.n0le bb kA vs Ab hv) (wd hw 104 rfl) (wd hw 100 rfl) (by decide) (by decide)) (fun _ q => nomatch q) pd22 rfl rfl (Nat.le_of_eq rfl) rfl (by decide) (by decide) (by decide) (fun v101 T101 h101 K101 Q101 q101 => ?_)
  have E101 := Ext.of0 Q101
  have P102 := P0.ext E101
  obtain ⟨b2, k2, rfl, g2, A2⟩ := q101
  refine gRetA K101 hlk hret rfl rfl b21_16 P102 (by decide) (by decide) ?_
  exact ⟨_, _, rfl, g2, A2⟩
set_option maxRecDepth 65536 in
set_option maxHeartbeats 40000000 in
theorem c_corB8_2 (l : Launch) (Z : State) (a0 : Array Value) (hw : ∀ d ∈ tables_1, d.before a0 Z = true) (h0 : Heap) (n0 : Nat) (Z0 : n0 ≤ h0.size) (bb : Addr) (kA : ClassId) (vs : List Value) (Ab : Arv Z h0 bb kA .byte (8 : Int32) vs (.int 0)) (hv : vs.length = 8) :
    Con none l (⟨"java/util/Arrays", "copyOfRangeByte", "([BII)[B"⟩ : MethodName) jdk_65_method_133_code 5 (some (.array .byte)) [] ({ frames := 1, cells := 1, slots := 2, locals := 40 } : Room) Z n0 h0 [] #[(.ref bb), (.int (0 : Int32)), (.int (2 : Int32))] (fun v h => ∃ (b : Addr) (kA : ClassId), v = some (.ref b) ∧ h0.size ≤ b ∧ Arv Z h b kA .byte (2 : Int32) (vs.take 2) (.int 0)) := by
  refine Con.intro pn6 Z0 (fun _ q => nomatch q) trivial #[.val (.ref bb), .val (.int (0 : Int32)), .val (.int (2 : Int32)), .unset, .unset] (fun m => by first | (simp [entryFrame, mkF, argsToLocals, Value.category]; done) | rfl) ?_
  intro p e s m below meth c T0 hlk hret hnm K0
  have P0 := Keep.refl h0 []
  refine gIloadN K0 b22_0 (v := (0 : Int32)) rfl ?_
  refine gIloadN K0 b22_1 (v := (2 : Int32)) rfl ?_
  refine gCallS K0 (W := 0) [(.int (0 : Int32)), (.int (2 : Int32))] [] b22_2 (wd hw 105 rfl) (wd hw 106 rfl) (wd hw 100 rfl) (wd hw 107 rfl) (Cal.ofN (W := 0) (c_ckl l Z a0 hw h0 n0 K0.n0le 2 (by decide)) (wd hw 107 rfl) (wd hw 100 rfl) (by decide) (by decide)) (fun _ q => nomatch q) pd10 rfl rfl (Nat.le_of_eq rfl) rfl (by decide) (by decide) (by decide) (fun v101 T101 h101 K101 Q101 q101 => ?_)
  have E101 := Ext.of0 Q101
  have P102 := P0.ext E101
  cases q101
  refine gIloadN K101 b22_5 (v := (2 : Int32)) rfl ?_
  refine gIloadN K101 b22_6 (v := (0 : Int32)) rfl ?_
  refine gIsubV K101 (2 : Int32) b22_7 (by decide) ?_
  refine gIstoreN K101 b22_8 (Ls' := #[.val (.ref bb), .val (.int (0 : Int32)), .val (.int (2 : Int32)), .val (.int (2 : Int32)), .unset]) rfl ?_
  refine gIloadN K101 b22_9 (v := (2 : Int32)) rfl ?_
  refine gNewarr K101 b22_10 (wd hw 20 rfl) (by decide) 2 (by decide) (by decide) (by decide) (by decide) (fun T103 h103 x103 kA103 K103 E103 g103 A103 ne103 => ?_)
  have P104 := P102.ext E103
  have ge_x103 : h0.size ≤ x103 := by rw [g103]; exact P102.1
  refine gAstore K103 b22_12 rfl (Ls' := #[.val (.ref bb), .val (.int (0 : Int32)), .val (.int (2 : Int32)), .val (.int (2 : Int32)), .val (.ref x103)]) rfl ?_
  refine gAloadN K103 b22_14 (v := (.ref bb)) rfl rfl ?_
  refine gIloadN K103 b22_15 (v := (0 : Int32)) rfl ?_
  refine gAload K103 b22_16 (v := (.ref x103)) rfl rfl ?_
  refine gIconst K103 (0 : Int32) b22_18 rfl ?_
  refine gAloadN K103 b22_19 (v := (.ref bb)) rfl rfl ?_
  refine gLen K103 b22_20 (Ab.ext (Ext.tr E101 E103)) ?_
  refine gIloadN K103 b22_21 (v := (0 : Int32)) rfl ?_
  refine gIsubV K103 (8 : Int32) b22_22 (by decide) ?_
  refine gIloadN K103 b22_23 (v := (2 : Int32)) rfl ?_
  refine gCallS K103 (W := 4) [(.int (8 : Int32)), (.int (2 : Int32))] [(.int (0 : Int32)), (.ref x103), (.int (0 : Int32)), (.ref bb)] b22_24 (wd hw 108 rfl) (wd hw 109 rfl) (wd hw 110 rfl) (wd hw 111 rfl) (Cal.ofN (W := 4) (c_min l Z a0 hw h103 n0 K103.n0le 8 2 (by decide) (by decide)) (wd hw 111 rfl) (wd hw 110 rfl) (by decide) (by decide)) (fun _ q => nomatch q) pd21 rfl rfl (Nat.le_of_eq rfl) rfl (by decide) (by decide) (by decide) (fun v105 T105 h105 K105 Q105 q105 => ?_)
  have E105 := Ext.of0 Q105
  have P106 := P104.ext E105
  have q105' : v105 = some (.int (2 : Int32)) := q105
  cases q105'
  refine gCopy K105 b22_27 (wd hw 112 rfl) (wd hw 115 rfl) (wd hw 113 rfl) (wd hw 114 rfl) (me 0 rfl) (Ab.ext (Ext.tr (Ext.tr E101 E103) E105)) (Arv.pad (A103.ext E105) (pad_rep [] (.int 0) 2)) (by decide) (by decide) (by decide) (by decide) (by decide) (us := vs.take 2) (range_take (t := 2) (by omega)) (by decide) rfl (by decide) (W := 0) (Nat.le_of_eq rfl) (by decide) (fun T107 h107 K107 Q107 A107 => ?_)
  have P108 := P106.trans Q107 (fun z q => by cases List.mem_singleton.mp q; exact Or.inr ge_x103)
  have B107 : Arv Z h107 x103 kA103 .byte (2 : Int32) (vs.take 2) (.int 0) := by rw [show vs.take 2 = [] ++ vs.take 2 ++ [] from (List.append_nil _).symm]; exact A107
  refine gAload K107 b22_30 (v := (.ref x103)) rfl rfl ?_
  refine gRetA K107 hlk hret rfl rfl b22_32 P108 (by decide) (by decide) ?_
  exact ⟨_, _, rfl, ge_x103, B107⟩
set_option maxRecDepth 65536 in
set_option maxHeartbeats 40000000 in
theorem c_cor8_2 (l : Launch) (Z : State) (a0 : Array Value) (hw : ∀ d ∈ tables_1, d.before a0 Z = true) (h0 : Heap) (n0 : Nat) (Z0 : n0 ≤ h0.size) (bb : Addr) (kA : ClassId) (vs : List Value) (Ab : Arv Z h0 bb kA .byte (8 : Int32) vs (.int 0)) (hv : vs.length = 8) :
    Con none l (⟨"java/util/Arrays", "copyOfRange", "([BII)[B"⟩ : MethodName) jdk_65_method_132_code 3 (some (.array .byte)) [] ({ frames := 2, cells := 1, slots := 2, locals := 56 } : Room) Z n0 h0 [] #[(.ref bb), (.int (0 : Int32)), (.int (2 : Int32))] (fun v h => ∃ (b : Addr) (kA : ClassId), v = some (.ref b) ∧ h0.size ≤ b ∧ Arv Z h b kA .byte (2 : Int32) (vs.take 2) (.int 0)) := by
  refine Con.intro pn6 Z0 (fun _ q => nomatch q) trivial #[.val (.ref bb), .val (.int (0 : Int32)), .val (.int (2 : Int32))] (fun m => by first | (simp [entryFrame, mkF, argsToLocals, Value.category]; done) | rfl) ?_
  intro p e s m below meth c T0 hlk hret hnm K0
  have P0 := Keep.refl h0 []
  refine gIloadN K0 b21_0 (v := (0 : Int32)) rfl ?_
  refine gIf_ne K0 b21_1 (fun q => absurd q (by first | decide | (intro hh; cases hh) | simp)) (fun q1 => ?_)
  refine gIloadN K0 b21_4 (v := (2 : Int32)) rfl ?_
  refine gAloadN K0 b21_5 (v := (.ref bb)) rfl rfl ?_
  refine gLen K0 b21_6 Ab ?_
  refine gIcmp_eq K0 b21_7 (fun q => absurd q (by first | decide | (intro hh; cases hh) | simp)) (fun q7 => ?_)
  refine gAloadN K0 b21_10 (v := (.ref bb)) rfl rfl ?_
  refine gIloadN K0 b21_11 (v := (0 : Int32)) rfl ?_
  refine gIloadN K0 b21_12 (v := (2 : Int32)) rfl ?_
  refine gCallS K0 (W := 0) [(.ref bb), (.int (0 : Int32)), (.int (2 : Int32))] [] b21_13 (wd hw 102 rfl) (wd hw 103 rfl) (wd hw 100 rfl) (wd hw 104 rfl) (Cal.ofN (W := 0) (c_corB8_2 l Z a0 hw h0 n0 K0.n0le bb kA vs Ab hv) (wd hw 104 rfl) (wd hw 100 rfl) (by decide) (by decide)) (fun _ q => nomatch q) pd22 rfl rfl (Nat.le_of_eq rfl) rfl (by decide) (by decide) (by decide) (fun v101 T101 h101 K101 Q101 q101 => ?_)
  have E101 := Ext.of0 Q101
  have P102 := P0.ext E101
  obtain ⟨b2, k2, rfl, g2, A2⟩ := q101
  refine gRetA K101 hlk hret rfl rfl b21_16 P102 (by decide) (by decide) ?_
  exact ⟨_, _, rfl, g2, A2⟩
set_option maxRecDepth 65536 in
set_option maxHeartbeats 40000000 in
theorem c_cb5_4_1 (l : Launch) (Z : State) (a0 : Array Value) (hw : ∀ d ∈ tables_1, d.before a0 Z = true) (h0 : Heap) (n0 : Nat) (Z0 : n0 ≤ h0.size) (c0 c1 c2 c3 : Int32) (bb : Addr) (kA : ClassId) (Ab : Arv Z h0 bb kA .byte (Int32.ofNat (2 * 4)) (StrChars.Road.wideBytes [c0, c1, c2, c3]) (.int 0)) (hp : ∀ c ∈ [c0, c1, c2, c3], ¬ c < 0 ∧ ¬ (65535 : Int32) < c) (u : US Z h0) (fm : Value) (Sf : Sta Z h0 "jdk/internal/util/Preconditions" "SIOOBE_FORMATTER" "Ljava/util/function/BiFunction;" fm) (rf : fm.isRef = true) (dd : Addr) (kD : ClassId) (gd : n0 ≤ dd) (Ad : Arv Z h0 dd kD .byte (1 : Int32) [] (.int 0)) (hbd : bb ≠ dd) (hu : ∃ c ∈ [c0], (255 : Int32) < c) :
    Con none l (⟨"java/lang/StringUTF16", "compress", "([BI[BII)I"⟩ : MethodName) jdk_52_method_22_code 7 (some .int) [] ({ frames := 3, cells := 0, slots := 0, locals := 46 } : Room) Z n0 h0 [dd] #[(.ref bb), (.int (0 : Int32)), (.ref dd), (.int (0 : Int32)), (.int (1 : Int32))] (fun v h => ∃ j : Nat, v = some (.int (Int32.ofNat j)) ∧ j < 1 ∧ (255 : Int32) < [c0].getD j 0) := by
  refine Con.intro pn1 Z0 (allS ⟨gd, Ad.lt⟩ all0) trivial #[.val (.ref bb), .val (.int (0 : Int32)), .val (.ref dd), .val (.int (0 : Int32)), .val (.int (1 : Int32)), .unset, .unset] (fun m => by first | (simp [entryFrame, mkF, argsToLocals, Value.category]; done) | rfl) ?_
  intro p e s m below meth c T0 hlk hret hnm K0
  have P0 := Keep.refl h0 [dd]
  refine gIloadN K0 b36_0 (v := (0 : Int32)) rfl ?_
  refine gIload K0 b36_1 (v := (1 : Int32)) rfl ?_
  refine gAloadN K0 b36_3 (v := (.ref bb)) rfl rfl ?_
  refine gCallS K0 (W := 0) [(.int (0 : Int32)), (.int (1 : Int32)), (.ref bb)] [] b36_4 (wd hw 159 rfl) (wd hw 160 rfl) (wd hw 62 rfl) (wd hw 161 rfl) (Cal.ofN (W := 0) (c_ubo l Z a0 hw h0 n0 K0.n0le 4 1 (by decide) (by decide) bb kA _ _ Ab fm Sf rf) (wd hw 161 rfl) (wd hw 62 rfl) (by decide) (by decide)) (fun _ q => nomatch q) pd23 rfl rfl (Nat.le_of_eq rfl) rfl (by decide) (by decide) (by decide) (fun v101 T101 h101 K101 Q101 q101 => ?_)
  have E101 := Ext.of0 Q101
  have P102 := P0.ext E101
  cases q101
  refine gIconst K101 (0 : Int32) b36_7 rfl ?_
  refine gIstore K101 b36_8 (Ls' := #[.val (.ref bb), .val (.int (0 : Int32)), .val (.ref dd), .val (.int (0 : Int32)), .val (.int (1 : Int32)), .val (.int (0 : Int32)), .unset]) rfl ?_
  refine gIload K101 b36_10 (v := (0 : Int32)) rfl ?_
  refine gIload K101 b36_12 (v := (1 : Int32)) rfl ?_
  refine gIcmp_ge K101 b36_14 (fun q => absurd q (by first | decide | (intro hh; cases hh) | simp)) (fun q14 => ?_)
  refine gAloadN K101 b36_17 (v := (.ref bb)) rfl rfl ?_
  refine gIloadN K101 b36_18 (v := (0 : Int32)) rfl ?_
  refine gCallS K101 (W := 0) [(.ref bb), (.int (0 : Int32))] [] b36_19 (wd hw 136 rfl) (wd hw 137 rfl) (wd hw 62 rfl) (wd hw 138 rfl) (Cal.ofN (W := 0) (c_getChar l Z a0 hw h101 n0 K101.n0le bb kA [c0, c1, c2, c3] 0 (Ab.ext E101) hp (Nat.le_of_ble_eq_true rfl) (Nat.le_of_ble_eq_true rfl) (u.ext E101)) (wd hw 138 rfl) (wd hw 62 rfl) (by decide) (by decide)) (fun _ q => nomatch q) pd6 rfl rfl (Nat.le_of_eq rfl) rfl (by decide) (by decide) (by decide) (fun v103 T103 h103 K103 Q103 q103 => ?_)
  have E103 := Ext.of0 Q103
  have P104 := P102.ext E103
  have q103' : v103 = some (.int c0) := q103
  cases q103'
  refine gIstore K103 b36_22 (Ls' := #[.val (.ref bb), .val (.int (0 : Int32)), .val (.ref dd), .val (.int (0 : Int32)), .val (.int (1 : Int32)), .val (.int (0 : Int32)), .val (.int c0)]) rfl ?_
  refine gIload K103 b36_24 (v := c0) rfl ?_
  refine gSipush K103 (255 : Int32) b36_26 rfl ?_
  refine gIcmp_le K103 b36_29 (fun hl_c0 => ?_) (fun hl_c0 => ?_)
  · skip
    refine gAloadN K103 b36_35 (v := (.ref dd)) rfl rfl ?_
    refine gIloadN K103 b36_36 (v := (0 : Int32)) rfl ?_
    refine gIload K103 b36_37 (v := c0) rfl ?_
    refine gI2b K103 b36_39 ?_
    refine gBastore K103 b36_40 (me 0 rfl) (Ad.ext (Ext.tr E101 E103)) rfl (by decide) (fun T105 h105 K105 Q105 A105 => ?_)
    have u105 := US.kp (u.ext (Ext.tr E101 E103)) Q105 (nsS (Arv.nostat (Ad.ext (Ext.tr E101 E103))) ns0)
    have P106 := P104.trans Q105 (fun z q => by cases List.mem_singleton.mp q; exact Or.inl (me 0 rfl))
    refine gIinc K105 (1 : Int32) b36_41 rfl (x := (0 : Int32)) rfl (Ls' := #[.val (.ref bb), .val (.int (1 : Int32)), .val (.ref dd), .val (.int (0 : Int32)), .val (.int (1 : Int32)), .val (.int (0 : Int32)), .val (.int c0)]) rfl ?_
    refine gIinc K105 (1 : Int32) b36_44 rfl (x := (0 : Int32)) rfl (Ls' := #[.val (.ref bb), .val (.int (1 : Int32)), .val (.ref dd), .val (.int (1 : Int32)), .val (.int (1 : Int32)), .val (.int (0 : Int32)), .val (.int c0)]) rfl ?_
    refine gIinc K105 (1 : Int32) b36_47 rfl (x := (0 : Int32)) rfl (Ls' := #[.val (.ref bb), .val (.int (1 : Int32)), .val (.ref dd), .val (.int (1 : Int32)), .val (.int (1 : Int32)), .val (.int (1 : Int32)), .val (.int c0)]) rfl ?_
    refine gGoto K105 b36_50 ?_
    refine gIload K105 b36_10 (v := (1 : Int32)) rfl ?_
    refine gIload K105 b36_12 (v := (1 : Int32)) rfl ?_
    refine gIcmp_ge K105 b36_14 (fun q14 => ?_) (fun q => absurd q (by first | decide | (intro hh; cases hh) | simp))
    refine gIload K105 b36_53 (v := (1 : Int32)) rfl ?_
    exact absurd hu (noHi (allI hl_c0 allI0))
  · skip
    refine gIload K103 b36_32 (v := (0 : Int32)) rfl ?_
    refine gRetI K103 hlk hret (by simp) b36_34 rfl P104 (by decide) (by decide) ?_
    exact ⟨0, rfl, by decide, hl_c0⟩
set_option maxRecDepth 65536 in
set_option maxHeartbeats 40000000 in
theorem c_cb3_4_1 (l : Launch) (Z : State) (a0 : Array Value) (hw : ∀ d ∈ tables_1, d.before a0 Z = true) (h0 : Heap) (n0 : Nat) (Z0 : n0 ≤ h0.size) (c0 c1 c2 c3 : Int32) (bb : Addr) (kA : ClassId) (Ab : Arv Z h0 bb kA .byte (Int32.ofNat (2 * 4)) (StrChars.Road.wideBytes [c0, c1, c2, c3]) (.int 0)) (hp : ∀ c ∈ [c0, c1, c2, c3], ¬ c < 0 ∧ ¬ (65535 : Int32) < c) (u : US Z h0) (fm : Value) (Sf : Sta Z h0 "jdk/internal/util/Preconditions" "SIOOBE_FORMATTER" "Ljava/util/function/BiFunction;" fm) (rf : fm.isRef = true) (hu : ∃ c ∈ [c0], (255 : Int32) < c) :
    Con none l (⟨"java/lang/StringUTF16", "compress", "([BII)[B"⟩ : MethodName) jdk_52_method_17_code 6 (some (.array .byte)) [] ({ frames := 4, cells := 2, slots := 3, locals := 74 } : Room) Z n0 h0 [] #[(.ref bb), (.int (0 : Int32)), (.int (1 : Int32))] (fun v h => ∃ (b : Addr) (kA : ClassId), v = some (.ref b) ∧ h0.size ≤ b ∧ Arv Z h b kA .byte (Int32.ofNat (2 * 1)) (StrChars.Road.wideBytes [c0]) (.int 0)) := by
  refine Con.intro pn1 Z0 (fun _ q => nomatch q) trivial #[.val (.ref bb), .val (.int (0 : Int32)), .val (.int (1 : Int32)), .unset, .unset, .unset] (fun m => by first | (simp [entryFrame, mkF, argsToLocals, Value.category]; done) | rfl) ?_
  intro p e s m below meth c T0 hlk hret hnm K0
  have P0 := Keep.refl h0 []
  refine gIloadN K0 b35_0 (v := (1 : Int32)) rfl ?_
  refine gNewarr K0 b35_1 (wd hw 20 rfl) (by decide) 1 (by decide) (by decide) (by decide) (by decide) (fun T101 h101 x101 kA101 K101 E101 g101 A101 ne101 => ?_)
  have P102 := P0.ext E101
  have ge_x101 : h0.size ≤ x101 := by rw [g101]; exact P0.1
  refine gAstoreN K101 b35_3 rfl (Ls' := #[.val (.ref bb), .val (.int (0 : Int32)), .val (.int (1 : Int32)), .val (.ref x101), .unset, .unset]) rfl ?_
  refine gAloadN K101 b35_4 (v := (.ref bb)) rfl rfl ?_
  refine gIloadN K101 b35_5 (v := (0 : Int32)) rfl ?_
  refine gAloadN K101 b35_6 (v := (.ref x101)) rfl rfl ?_
  refine gIconst K101 (0 : Int32) b35_7 rfl ?_
  refine gIloadN K101 b35_8 (v := (1 : Int32)) rfl ?_
  refine gCallS K101 (W := 0) [(.ref bb), (.int (0 : Int32)), (.ref x101), (.int (0 : Int32)), (.int (1 : Int32))] [] b35_9 (wd hw 156 rfl) (wd hw 157 rfl) (wd hw 62 rfl) (wd hw 158 rfl) (Cal.ofN (W := 0) (c_cb5_4_1 l Z a0 hw h101 n0 K101.n0le c0 c1 c2 c3 bb kA (Ab.ext E101) hp (u.ext E101) fm (Sf.ext E101) rf x101 _ (K101.wsge (me 0 rfl)) A101 (Nat.ne_of_lt (Nat.lt_of_lt_of_le Ab.lt ge_x101)) hu) (wd hw 158 rfl) (wd hw 62 rfl) (by decide) (by decide)) (fun z q => by cases List.mem_singleton.mp q; exact (me 0 rfl)) pd24 rfl rfl (Nat.le_of_eq rfl) rfl (by decide) (by decide) (by decide) (fun v103 T103 h103 K103 Q103 q103 => ?_)
  have P104 := P102.trans Q103 (fun z q => by cases List.mem_singleton.mp q; exact Or.inr ge_x101)
  obtain ⟨j, rfl, hj, hcj⟩ := q103
  refine gIstore K103 b35_12 (Ls' := #[.val (.ref bb), .val (.int (0 : Int32)), .val (.int (1 : Int32)), .val (.ref x101), .val (.int (Int32.ofNat j)), .unset]) rfl ?_
  refine gIload K103 b35_14 (v := (Int32.ofNat j)) rfl ?_
  refine gIloadN K103 b35_16 (v := (1 : Int32)) rfl ?_
  refine gIcmp_eq K103 b35_17 (fun q => absurd q (ofNat_ne hj (by decide))) (fun q17 => ?_)
  refine gAloadN K103 b35_20 (v := (.ref bb)) rfl rfl ?_
  refine gIloadN K103 b35_21 (v := (0 : Int32)) rfl ?_
  refine gIconst K103 (1 : Int32) b35_22 rfl ?_
  refine gIshlV K103 (0 : Int32) b35_23 (by decide) ?_
  refine gIloadN K103 b35_24 (v := (0 : Int32)) rfl ?_
  refine gIloadN K103 b35_25 (v := (1 : Int32)) rfl ?_
  refine gIaddV K103 (1 : Int32) b35_26 (by decide) ?_
  refine gCallS K103 (W := 2) [(.int (1 : Int32))] [(.int (0 : Int32)), (.ref bb)] b35_27 (wd hw 126 rfl) (wd hw 127 rfl) (wd hw 62 rfl) (wd hw 128 rfl) (Cal.ofN (W := 2) (c_nbl1 l Z a0 hw h103 n0 K103.n0le) (wd hw 128 rfl) (wd hw 62 rfl) (by decide) (by decide)) (fun _ q => nomatch q) pd1 rfl rfl (Nat.le_of_eq rfl) rfl (by decide) (by decide) (by decide) (fun v105 T105 h105 K105 Q105 q105 => ?_)
  have E105 := Ext.of0 Q105
  have P106 := P104.ext E105
  cases q105
  refine gCallS K105 (W := 0) [(.ref bb), (.int (0 : Int32)), (.int (2 : Int32))] [] b35_30 (wd hw 168 rfl) (wd hw 99 rfl) (wd hw 100 rfl) (wd hw 101 rfl) (Cal.ofN (W := 0) (c_cor8_2 l Z a0 hw h105 n0 K105.n0le bb kA _ (Ab.ext (Ext.tr (Ext.kp1 E101 Q103 (Nat.le_of_eq g101.symm)) E105)) rfl) (wd hw 101 rfl) (wd hw 100 rfl) (by decide) (by decide)) (fun _ q => nomatch q) pd22 rfl rfl (Nat.le_of_eq rfl) rfl (by decide) (by decide) (by decide) (fun v107 T107 h107 K107 Q107 q107 => ?_)
  have E107 := Ext.of0 Q107
  have P108 := P106.ext E107
  obtain ⟨b2, k2, rfl, g2, A2⟩ := q107
  have A2' : Arv Z h107 b2 k2 .byte (Int32.ofNat (2 * [c0].length)) (StrChars.Road.wideBytes [c0]) (.int 0) := A2
  have gb0 : h0.size ≤ b2 := Nat.le_trans P106.1 g2
  refine gAstore K107 b35_33 rfl (Ls' := #[.val (.ref bb), .val (.int (0 : Int32)), .val (.int (1 : Int32)), .val (.ref x101), .val (.int (Int32.ofNat j)), .val (.ref b2)]) rfl ?_
  refine gAload K107 b35_35 (v := (.ref b2)) rfl rfl ?_
  refine gIload K107 b35_37 (v := (Int32.ofNat j)) rfl ?_
  refine gCallS K107 (W := 0) [(.ref b2), (.int (Int32.ofNat j))] [] b35_39 (wd hw 136 rfl) (wd hw 137 rfl) (wd hw 62 rfl) (wd hw 138 rfl) (Cal.ofN (W := 0) (c_getChar l Z a0 hw h107 n0 K107.n0le b2 k2 [c0] j A2' (fun c hc => hp c (List.mem_append_left [c1, c2, c3] hc)) hj (Nat.le_of_ble_eq_true rfl) (u.ext (Ext.tr (Ext.tr (Ext.kp1 E101 Q103 (Nat.le_of_eq g101.symm)) E105) E107))) (wd hw 138 rfl) (wd hw 62 rfl) (by decide) (by decide)) (fun _ q => nomatch q) pd6 rfl rfl (Nat.le_of_eq rfl) rfl (by decide) (by decide) (by decide) (fun v109 T109 h109 K109 Q109 q109 => ?_)
  have E109 := Ext.of0 Q109
  have P110 := P108.ext E109
  cases q109
  refine gSipush K109 (255 : Int32) b35_42 rfl ?_
  refine gIcmp_gt K109 b35_45 (fun q45 => ?_) (fun q => absurd q (not_not_intro hcj))
  refine gAload K109 b35_61 (v := (.ref b2)) rfl rfl ?_
  refine gRetA K109 hlk hret rfl rfl b35_63 P110 (by decide) (by decide) ?_
  exact ⟨b2, k2, rfl, gb0, (A2'.ext E109)⟩
set_option maxRecDepth 65536 in
set_option maxHeartbeats 40000000 in
theorem c_nsU4_1 (l : Launch) (Z : State) (a0 : Array Value) (hw : ∀ d ∈ tables_1, d.before a0 Z = true) (h0 : Heap) (n0 : Nat) (Z0 : n0 ≤ h0.size) (c0 c1 c2 c3 : Int32) (bb : Addr) (kA : ClassId) (Ab : Arv Z h0 bb kA .byte (Int32.ofNat (2 * 4)) (StrChars.Road.wideBytes [c0, c1, c2, c3]) (.int 0)) (hp : ∀ c ∈ [c0, c1, c2, c3], ¬ c < 0 ∧ ¬ (65535 : Int32) < c) (u : US Z h0) (fm : Value) (Sf : Sta Z h0 "jdk/internal/util/Preconditions" "SIOOBE_FORMATTER" "Ljava/util/function/BiFunction;" fm) (rf : fm.isRef = true) (hu : ∃ c ∈ [c0], (255 : Int32) < c) (z : Int32) (Sc : Sta Z h0 "java/lang/String" "COMPACT_STRINGS" "Z" (.int z)) (hz : ¬ z = 0) :
    Con none l (⟨"java/lang/StringUTF16", "newString", "([BII)Ljava/lang/String;"⟩ : MethodName) jdk_52_method_69_code 5 (some (.object "java/lang/String")) [] ({ frames := 5, cells := 3, slots := 7, locals := 94 } : Room) Z n0 h0 [] #[(.ref bb), (.int (0 : Int32)), (.int (1 : Int32))] (fun v h => ∃ x : Addr, v = some (.ref x) ∧ StrU Z h x [c0]) := by
  refine Con.intro pn1 Z0 (fun _ q => nomatch q) trivial #[.val (.ref bb), .val (.int (0 : Int32)), .val (.int (1 : Int32)), .unset, .unset] (fun m => by first | (simp [entryFrame, mkF, argsToLocals, Value.category]; done) | rfl) ?_
  intro p e s m below meth c T0 hlk hret hnm K0
  have P0 := Keep.refl h0 []
  refine gIloadN K0 b34_0 (v := (1 : Int32)) rfl ?_
  refine gIf_ne K0 b34_1 (fun q1 => ?_) (fun q => absurd q (by first | decide | (intro hh; cases hh) | simp))
  refine gGetS K0 b34_8 (wd hw 152 rfl) Sc (fun T101 K101 => ?_)
  refine gIf_eq K101 b34_11 (fun q => absurd q hz) (fun q11 => ?_)
  refine gAloadN K101 b34_14 (v := (.ref bb)) rfl rfl ?_
  refine gIloadN K101 b34_15 (v := (0 : Int32)) rfl ?_
  refine gIloadN K101 b34_16 (v := (1 : Int32)) rfl ?_
  refine gCallS K101 (W := 0) [(.ref bb), (.int (0 : Int32)), (.int (1 : Int32))] [] b34_17 (wd hw 153 rfl) (wd hw 154 rfl) (wd hw 62 rfl) (wd hw 155 rfl) (Cal.ofN (W := 0) (c_cb3_4_1 l Z a0 hw h0 n0 K101.n0le c0 c1 c2 c3 bb kA Ab hp u fm Sf rf hu) (wd hw 155 rfl) (wd hw 62 rfl) (by decide) (by decide)) (fun _ q => nomatch q) pd22 rfl rfl (Nat.le_of_eq rfl) rfl (by decide) (by decide) (by decide) (fun v102 T102 h102 K102 Q102 q102 => ?_)
  have E102 := Ext.of0 Q102
  have P103 := P0.ext E102
  obtain ⟨b2, k2, rfl, g2, A2⟩ := q102
  refine gAstoreN K102 b34_20 rfl (Ls' := #[.val (.ref bb), .val (.int (0 : Int32)), .val (.int (1 : Int32)), .val (.ref b2), .unset]) rfl ?_
  refine gAloadN K102 b34_21 (v := (.ref b2)) rfl rfl ?_
  refine gIloadN K102 b34_22 (v := (1 : Int32)) rfl ?_
  refine gCallS K102 (W := 0) [(.ref b2), (.int (1 : Int32))] [] b34_23 (wd hw 169 rfl) (wd hw 68 rfl) (wd hw 62 rfl) (wd hw 69 rfl) (Cal.ofN (W := 0) (c_cfa1 l Z a0 hw h102 n0 K102.n0le b2 k2 _ _ A2) (wd hw 69 rfl) (wd hw 62 rfl) (by decide) (by decide)) (fun _ q => nomatch q) pd7 rfl rfl (Nat.le_of_eq rfl) rfl (by decide) (by decide) (by decide) (fun v104 T104 h104 K104 Q104 q104 => ?_)
  have E104 := Ext.of0 Q104
  have P105 := P103.ext E104
  cases q104
  refine gIstore K104 b34_26 (Ls' := #[.val (.ref bb), .val (.int (0 : Int32)), .val (.int (1 : Int32)), .val (.ref b2), .val (.int (1 : Int32))]) rfl ?_
  refine gNew K104 b34_28 (wd hw 170 rfl) (wd hw 6 rfl) (wd hw 7 rfl) (by decide) (by decide) (fun T106 h106 x106 K106 E106 g106 A106 D106 ne106 => ?_)
  have P107 := P105.ext E106
  have ge_x106 : h0.size ≤ x106 := by rw [g106]; exact P105.1
  have F108 : Fld Z h106 x106 "java/lang/String" "value" "[B" .null := (D106 (Or.inr (wd hw 21 rfl)) (ty := (.array .byte)) (by decide))
  have F109 : Fld Z h106 x106 "java/lang/String" "coder" "B" (.int (0 : Int32)) := (D106 (Or.inr (wd hw 22 rfl)) (ty := .byte) (by decide))
  refine gDup K106 b34_31 rfl ?_
  refine gAloadN K106 b34_32 (v := (.ref b2)) rfl rfl ?_
  refine gIload K106 b34_33 (v := (1 : Int32)) rfl ?_
  refine gCallI K106 (W := 1) x106 [(.ref b2), (.int (1 : Int32))] [(.ref x106)] b34_35 rfl (wd hw 171 rfl) (wd hw 117 rfl) (wd hw 118 rfl) (Cal.ofN (W := 1) (c_initBB l Z a0 hw h106 n0 K106.n0le x106 b2 (1 : Int32) _ _ (by decide) (K106.wsge (me 0 rfl)) A106 F108 F109) (wd hw 118 rfl) (wd hw 7 rfl) (by decide) (by decide)) (fun z q => by cases List.mem_singleton.mp q; exact (me 0 rfl)) pd25 rfl rfl (Nat.le_of_eq rfl) rfl (by decide) (by decide) (by decide) (fun v110 T110 h110 K110 Q110 q110 => ?_)
  have P111 := P107.trans Q110 (fun z q => by cases List.mem_singleton.mp q; exact Or.inr ge_x106)
  obtain ⟨rfl, Ex110, Fv110, Fc110⟩ := q110
  refine gRetA K110 hlk hret rfl rfl b34_38 P111 (by decide) (by decide) ?_
  exact ⟨_, rfl, b2, k2, Ex110, Fc110, Fv110, (A2.ext (Ext.kp1 (Ext.tr E104 E106) Q110 (Nat.le_trans E104.1 (Nat.le_of_eq g106.symm)))), (fun c hc => hp c (List.mem_append_left [c1, c2, c3] hc)), hu, Nat.le_of_ble_eq_true rfl⟩
set_option maxRecDepth 65536 in
set_option maxHeartbeats 40000000 in
theorem c_nsL4_1 (l : Launch) (Z : State) (a0 : Array Value) (hw : ∀ d ∈ tables_1, d.before a0 Z = true) (h0 : Heap) (n0 : Nat) (Z0 : n0 ≤ h0.size) (c0 c1 c2 c3 : Int32) (bb : Addr) (kA : ClassId) (Ab : Arv Z h0 bb kA .byte (4 : Int32) (([c0, c1, c2, c3].map StrChars.lo8).map Value.int) (.int 0)) (hp : ∀ c ∈ [c0], ¬ c < 0 ∧ ¬ (255 : Int32) < c) :
    Con none l (⟨"java/lang/StringLatin1", "newString", "([BII)Ljava/lang/String;"⟩ : MethodName) jdk_43_method_47_code 3 (some (.object "java/lang/String")) [] ({ frames := 3, cells := 2, slots := 5, locals := 75 } : Room) Z n0 h0 [] #[(.ref bb), (.int (0 : Int32)), (.int (1 : Int32))] (fun v h => ∃ x : Addr, v = some (.ref x) ∧ StrL Z h x [c0]) := by
  refine Con.intro pn5 Z0 (fun _ q => nomatch q) trivial #[.val (.ref bb), .val (.int (0 : Int32)), .val (.int (1 : Int32))] (fun m => by first | (simp [entryFrame, mkF, argsToLocals, Value.category]; done) | rfl) ?_
  intro p e s m below meth c T0 hlk hret hnm K0
  have P0 := Keep.refl h0 []
  refine gIloadN K0 b20_0 (v := (1 : Int32)) rfl ?_
  refine gIf_ne K0 b20_1 (fun q1 => ?_) (fun q => absurd q (by first | decide | (intro hh; cases hh) | simp))
  refine gNew K0 b20_7 (wd hw 97 rfl) (wd hw 6 rfl) (wd hw 7 rfl) (by decide) (by decide) (fun T101 h101 x101 K101 E101 g101 A101 D101 ne101 => ?_)
  have P102 := P0.ext E101
  have ge_x101 : h0.size ≤ x101 := by rw [g101]; exact P0.1
  have F103 : Fld Z h101 x101 "java/lang/String" "value" "[B" .null := (D101 (Or.inr (wd hw 21 rfl)) (ty := (.array .byte)) (by decide))
  have F104 : Fld Z h101 x101 "java/lang/String" "coder" "B" (.int (0 : Int32)) := (D101 (Or.inr (wd hw 22 rfl)) (ty := .byte) (by decide))
  refine gDup K101 b20_10 rfl ?_
  refine gAloadN K101 b20_11 (v := (.ref bb)) rfl rfl ?_
  refine gIloadN K101 b20_12 (v := (0 : Int32)) rfl ?_
  refine gIloadN K101 b20_13 (v := (0 : Int32)) rfl ?_
  refine gIloadN K101 b20_14 (v := (1 : Int32)) rfl ?_
  refine gIaddV K101 (1 : Int32) b20_15 (by decide) ?_
  refine gCallS K101 (W := 2) [(.ref bb), (.int (0 : Int32)), (.int (1 : Int32))] [(.ref x101), (.ref x101)] b20_16 (wd hw 98 rfl) (wd hw 99 rfl) (wd hw 100 rfl) (wd hw 101 rfl) (Cal.ofN (W := 2) (c_cor4_1 l Z a0 hw h101 n0 K101.n0le bb kA _ (Ab.ext E101) rfl) (wd hw 101 rfl) (wd hw 100 rfl) (by decide) (by decide)) (fun _ q => nomatch q) pd22 rfl rfl (Nat.le_of_eq rfl) rfl (by decide) (by decide) (by decide) (fun v105 T105 h105 K105 Q105 q105 => ?_)
  have E105 := Ext.of0 Q105
  have P106 := P102.ext E105
  obtain ⟨b2, k2, rfl, g2, A2⟩ := q105
  have A2' : Arv Z h105 b2 k2 .byte (Int32.ofNat [c0].length) (([c0].map StrChars.lo8).map Value.int) (.int 0) := A2
  refine gIconst K105 (0 : Int32) b20_19 rfl ?_
  refine gCallI K105 (W := 1) x101 [(.ref b2), (.int (0 : Int32))] [(.ref x101)] b20_20 rfl (wd hw 116 rfl) (wd hw 117 rfl) (wd hw 118 rfl) (Cal.ofN (W := 1) (c_initBB l Z a0 hw h105 n0 K105.n0le x101 b2 (0 : Int32) _ _ (by decide) (K105.wsge (me 0 rfl)) (A101.ext E105) (F103.ext E105) (F104.ext E105)) (wd hw 118 rfl) (wd hw 7 rfl) (by decide) (by decide)) (fun z q => by cases List.mem_singleton.mp q; exact (me 0 rfl)) pd25 rfl rfl (Nat.le_of_eq rfl) rfl (by decide) (by decide) (by decide) (fun v107 T107 h107 K107 Q107 q107 => ?_)
  have P108 := P106.trans Q107 (fun z q => by cases List.mem_singleton.mp q; exact Or.inr ge_x101)
  obtain ⟨rfl, Ex107, Fv107, Fc107⟩ := q107
  refine gRetA K107 hlk hret rfl rfl b20_23 P108 (by decide) (by decide) ?_
  exact ⟨_, rfl, b2, k2, Ex107, Fc107, Fv107, (A2'.keep Q107 (ninS (Nat.ne_of_gt (Nat.lt_of_lt_of_le A101.lt g2)) nin0)), hp, Nat.le_of_ble_eq_true rfl⟩
set_option maxRecDepth 65536 in
set_option maxHeartbeats 40000000 in
theorem c_subL4_1 (l : Launch) (Z : State) (a0 : Array Value) (hw : ∀ d ∈ tables_1, d.before a0 Z = true) (h0 : Heap) (n0 : Nat) (Z0 : n0 ≤ h0.size) (c0 c1 c2 c3 : Int32) (x : Addr) (A : StrL Z h0 x [c0, c1, c2, c3]) (z : Int32) (Sc : Sta Z h0 "java/lang/String" "COMPACT_STRINGS" "Z" (.int z)) (hz : ¬ z = 0) (fm : Value) (Sf : Sta Z h0 "jdk/internal/util/Preconditions" "SIOOBE_FORMATTER" "Ljava/util/function/BiFunction;" fm) (rf : fm.isRef = true) (u : US Z h0) :
    Con none l (⟨"java/lang/String", "substring", "(II)Ljava/lang/String;"⟩ : MethodName) jdk_42_method_92_code 5 (some (.object "java/lang/String")) [] ({ frames := 6, cells := 3, slots := 16, locals := 112 } : Room) Z n0 h0 [] #[(.ref x), (.int (0 : Int32)), (.int (1 : Int32))] (fun v h => ∃ x : Addr, v = some (.ref x) ∧ StrA Z h x [c0]) := by
  refine Con.intro pn0 Z0 (fun _ q => nomatch q) trivial #[.val (.ref x), .val (.int (0 : Int32)), .val (.int (1 : Int32)), .unset, .unset] (fun m => by first | (simp [entryFrame, mkF, argsToLocals, Value.category]; done) | rfl) ?_
  intro p e s m below meth c T0 hlk hret hnm K0
  have P0 := Keep.refl h0 []
  have A_ := A
  obtain ⟨bb, kA, Ex, Fc, Fv, Ab, hp, hN⟩ := A_
  refine gAloadN K0 b7_0 (v := (.ref x)) rfl rfl ?_
  refine gCallV K0 (W := 0) (C := "java/lang/String") x [] [] b7_1 (wd hw 47 rfl) (wd hw 32 rfl) (wd hw 34 rfl) (wd hw 33 rfl) (cal_lenA hw K0.n0le (W := 0) (cs := [c0, c1, c2, c3]) (Or.inl A) Sc hz (by decide) (by decide)) (StrA.exa ((Or.inl A) : StrA Z _ x [c0, c1, c2, c3])) (fun _ q => nomatch q) pd16 rfl rfl (Nat.le_of_eq rfl) rfl (by decide) (by decide) (by decide) (fun v101 T101 h101 K101 Q101 q101 => ?_)
  have E101 := Ext.of0 Q101
  have P102 := P0.ext E101
  have q101' : v101 = some (.int (4 : Int32)) := q101
  cases q101'
  refine gIstoreN K101 b7_4 (Ls' := #[.val (.ref x), .val (.int (0 : Int32)), .val (.int (1 : Int32)), .val (.int (4 : Int32)), .unset]) rfl ?_
  refine gIloadN K101 b7_5 (v := (0 : Int32)) rfl ?_
  refine gIloadN K101 b7_6 (v := (1 : Int32)) rfl ?_
  refine gIloadN K101 b7_7 (v := (4 : Int32)) rfl ?_
  refine gCallS K101 (W := 0) [(.int (0 : Int32)), (.int (1 : Int32)), (.int (4 : Int32))] [] b7_8 (wd hw 48 rfl) (wd hw 49 rfl) (wd hw 7 rfl) (wd hw 50 rfl) (Cal.ofN (W := 0) (c_cbe l Z a0 hw h101 n0 K101.n0le 4 1 (by decide) (by decide) fm (Sf.ext E101) rf) (wd hw 50 rfl) (wd hw 7 rfl) (by decide) (by decide)) (fun _ q => nomatch q) pd17 rfl rfl (Nat.le_of_eq rfl) rfl (by decide) (by decide) (by decide) (fun v103 T103 h103 K103 Q103 q103 => ?_)
  have E103 := Ext.of0 Q103
  have P104 := P102.ext E103
  cases q103
  refine gIloadN K103 b7_11 (v := (0 : Int32)) rfl ?_
  refine gIf_ne K103 b7_12 (fun q => absurd q (by first | decide | (intro hh; cases hh) | simp)) (fun q12 => ?_)
  refine gIloadN K103 b7_15 (v := (1 : Int32)) rfl ?_
  refine gIloadN K103 b7_16 (v := (4 : Int32)) rfl ?_
  refine gIcmp_ne K103 b7_17 (fun q17 => ?_) (fun q => absurd q (by first | decide | (intro hh; cases hh) | simp))
  refine gIloadN K103 b7_22 (v := (1 : Int32)) rfl ?_
  refine gIloadN K103 b7_23 (v := (0 : Int32)) rfl ?_
  refine gIsubV K103 (1 : Int32) b7_24 (by decide) ?_
  refine gIstore K103 b7_25 (Ls' := #[.val (.ref x), .val (.int (0 : Int32)), .val (.int (1 : Int32)), .val (.int (4 : Int32)), .val (.int (1 : Int32))]) rfl ?_
  refine gAloadN K103 b7_27 (v := (.ref x)) rfl rfl ?_
  refine gCallV K103 (W := 0) (C := "java/lang/String") x [] [] b7_28 (wd hw 75 rfl) (wd hw 76 rfl) (wd hw 78 rfl) (wd hw 77 rfl) (Cal.ofN (W := 0) (c_isL0 l Z a0 hw h103 n0 K103.n0le x (Fc.ext (Ext.tr E101 E103)) z (Sc.ext (Ext.tr E101 E103)) hz) (wd hw 79 rfl) (wd hw 7 rfl) (by decide) (by decide)) (Ex.ext (Ext.tr E101 E103)) (fun _ q => nomatch q) pd12 rfl rfl (Nat.le_of_eq rfl) rfl (by decide) (by decide) (by decide) (fun v105 T105 h105 K105 Q105 q105 => ?_)
  have E105 := Ext.of0 Q105
  have P106 := P104.ext E105
  cases q105
  refine gIf_eq K105 b7_31 (fun q => absurd q (by first | decide | (intro hh; cases hh) | simp)) (fun q31 => ?_)
  refine gAloadN K105 b7_34 (v := (.ref x)) rfl rfl ?_
  refine gGet K105 b7_35 (wd hw 25 rfl) (Fv.ext (Ext.tr (Ext.tr E101 E103) E105)) (fun T107 K107 => ?_)
  refine gIloadN K107 b7_38 (v := (0 : Int32)) rfl ?_
  refine gIload K107 b7_39 (v := (1 : Int32)) rfl ?_
  refine gCallS K107 (W := 0) [(.ref bb), (.int (0 : Int32)), (.int (1 : Int32))] [] b7_41 (wd hw 94 rfl) (wd hw 95 rfl) (wd hw 82 rfl) (wd hw 96 rfl) (Cal.ofN (W := 0) (c_nsL4_1 l Z a0 hw h105 n0 K107.n0le c0 c1 c2 c3 bb kA (Ab.ext (Ext.tr (Ext.tr E101 E103) E105)) (fun c hc => hp c (List.mem_append_left [c1, c2, c3] hc))) (wd hw 96 rfl) (wd hw 82 rfl) (by decide) (by decide)) (fun _ q => nomatch q) pd19 rfl rfl (Nat.le_of_eq rfl) rfl (by decide) (by decide) (by decide) (fun v108 T108 h108 K108 Q108 q108 => ?_)
  have E108 := Ext.of0 Q108
  have P109 := P106.ext E108
  obtain ⟨xr, rfl, Sr⟩ := q108
  refine gGoto K108 b7_44 ?_
  refine gRetA K108 hlk hret rfl rfl b7_57 P109 (by decide) (by decide) ?_
  exact ⟨_, rfl, Or.inl Sr⟩
set_option maxRecDepth 65536 in
set_option maxHeartbeats 40000000 in
theorem c_subU4_1 (l : Launch) (Z : State) (a0 : Array Value) (hw : ∀ d ∈ tables_1, d.before a0 Z = true) (h0 : Heap) (n0 : Nat) (Z0 : n0 ≤ h0.size) (c0 c1 c2 c3 : Int32) (x : Addr) (A : StrU Z h0 x [c0, c1, c2, c3]) (z : Int32) (Sc : Sta Z h0 "java/lang/String" "COMPACT_STRINGS" "Z" (.int z)) (hz : ¬ z = 0) (fm : Value) (Sf : Sta Z h0 "jdk/internal/util/Preconditions" "SIOOBE_FORMATTER" "Ljava/util/function/BiFunction;" fm) (rf : fm.isRef = true) (u : US Z h0) (hu : ∃ c ∈ [c0], (255 : Int32) < c) :
    Con none l (⟨"java/lang/String", "substring", "(II)Ljava/lang/String;"⟩ : MethodName) jdk_42_method_92_code 5 (some (.object "java/lang/String")) [] ({ frames := 6, cells := 3, slots := 16, locals := 112 } : Room) Z n0 h0 [] #[(.ref x), (.int (0 : Int32)), (.int (1 : Int32))] (fun v h => ∃ x : Addr, v = some (.ref x) ∧ StrA Z h x [c0]) := by
  refine Con.intro pn0 Z0 (fun _ q => nomatch q) trivial #[.val (.ref x), .val (.int (0 : Int32)), .val (.int (1 : Int32)), .unset, .unset] (fun m => by first | (simp [entryFrame, mkF, argsToLocals, Value.category]; done) | rfl) ?_
  intro p e s m below meth c T0 hlk hret hnm K0
  have P0 := Keep.refl h0 []
  have A_ := A
  obtain ⟨bb, kA, Ex, Fc, Fv, Ab, hp, hu0, hN⟩ := A_
  refine gAloadN K0 b7_0 (v := (.ref x)) rfl rfl ?_
  refine gCallV K0 (W := 0) (C := "java/lang/String") x [] [] b7_1 (wd hw 47 rfl) (wd hw 32 rfl) (wd hw 34 rfl) (wd hw 33 rfl) (cal_lenA hw K0.n0le (W := 0) (cs := [c0, c1, c2, c3]) (Or.inr A) Sc hz (by decide) (by decide)) (StrA.exa ((Or.inr A) : StrA Z _ x [c0, c1, c2, c3])) (fun _ q => nomatch q) pd16 rfl rfl (Nat.le_of_eq rfl) rfl (by decide) (by decide) (by decide) (fun v101 T101 h101 K101 Q101 q101 => ?_)
  have E101 := Ext.of0 Q101
  have P102 := P0.ext E101
  have q101' : v101 = some (.int (4 : Int32)) := q101
  cases q101'
  refine gIstoreN K101 b7_4 (Ls' := #[.val (.ref x), .val (.int (0 : Int32)), .val (.int (1 : Int32)), .val (.int (4 : Int32)), .unset]) rfl ?_
  refine gIloadN K101 b7_5 (v := (0 : Int32)) rfl ?_
  refine gIloadN K101 b7_6 (v := (1 : Int32)) rfl ?_
  refine gIloadN K101 b7_7 (v := (4 : Int32)) rfl ?_
  refine gCallS K101 (W := 0) [(.int (0 : Int32)), (.int (1 : Int32)), (.int (4 : Int32))] [] b7_8 (wd hw 48 rfl) (wd hw 49 rfl) (wd hw 7 rfl) (wd hw 50 rfl) (Cal.ofN (W := 0) (c_cbe l Z a0 hw h101 n0 K101.n0le 4 1 (by decide) (by decide) fm (Sf.ext E101) rf) (wd hw 50 rfl) (wd hw 7 rfl) (by decide) (by decide)) (fun _ q => nomatch q) pd17 rfl rfl (Nat.le_of_eq rfl) rfl (by decide) (by decide) (by decide) (fun v103 T103 h103 K103 Q103 q103 => ?_)
  have E103 := Ext.of0 Q103
  have P104 := P102.ext E103
  cases q103
  refine gIloadN K103 b7_11 (v := (0 : Int32)) rfl ?_
  refine gIf_ne K103 b7_12 (fun q => absurd q (by first | decide | (intro hh; cases hh) | simp)) (fun q12 => ?_)
  refine gIloadN K103 b7_15 (v := (1 : Int32)) rfl ?_
  refine gIloadN K103 b7_16 (v := (4 : Int32)) rfl ?_
  refine gIcmp_ne K103 b7_17 (fun q17 => ?_) (fun q => absurd q (by first | decide | (intro hh; cases hh) | simp))
  refine gIloadN K103 b7_22 (v := (1 : Int32)) rfl ?_
  refine gIloadN K103 b7_23 (v := (0 : Int32)) rfl ?_
  refine gIsubV K103 (1 : Int32) b7_24 (by decide) ?_
  refine gIstore K103 b7_25 (Ls' := #[.val (.ref x), .val (.int (0 : Int32)), .val (.int (1 : Int32)), .val (.int (4 : Int32)), .val (.int (1 : Int32))]) rfl ?_
  refine gAloadN K103 b7_27 (v := (.ref x)) rfl rfl ?_
  refine gCallV K103 (W := 0) (C := "java/lang/String") x [] [] b7_28 (wd hw 75 rfl) (wd hw 76 rfl) (wd hw 78 rfl) (wd hw 77 rfl) (Cal.ofN (W := 0) (c_isL1 l Z a0 hw h103 n0 K103.n0le x (Fc.ext (Ext.tr E101 E103)) z (Sc.ext (Ext.tr E101 E103)) hz) (wd hw 79 rfl) (wd hw 7 rfl) (by decide) (by decide)) (Ex.ext (Ext.tr E101 E103)) (fun _ q => nomatch q) pd12 rfl rfl (Nat.le_of_eq rfl) rfl (by decide) (by decide) (by decide) (fun v105 T105 h105 K105 Q105 q105 => ?_)
  have E105 := Ext.of0 Q105
  have P106 := P104.ext E105
  cases q105
  refine gIf_eq K105 b7_31 (fun q31 => ?_) (fun q => absurd q (by first | decide | (intro hh; cases hh) | simp))
  refine gAloadN K105 b7_47 (v := (.ref x)) rfl rfl ?_
  refine gGet K105 b7_48 (wd hw 25 rfl) (Fv.ext (Ext.tr (Ext.tr E101 E103) E105)) (fun T107 K107 => ?_)
  refine gIloadN K107 b7_51 (v := (0 : Int32)) rfl ?_
  refine gIload K107 b7_52 (v := (1 : Int32)) rfl ?_
  refine gCallS K107 (W := 0) [(.ref bb), (.int (0 : Int32)), (.int (1 : Int32))] [] b7_54 (wd hw 149 rfl) (wd hw 150 rfl) (wd hw 62 rfl) (wd hw 151 rfl) (Cal.ofN (W := 0) (c_nsU4_1 l Z a0 hw h105 n0 K107.n0le c0 c1 c2 c3 bb kA (Ab.ext (Ext.tr (Ext.tr E101 E103) E105)) hp (u.ext (Ext.tr (Ext.tr E101 E103) E105)) fm (Sf.ext (Ext.tr (Ext.tr E101 E103) E105)) rf hu z (Sc.ext (Ext.tr (Ext.tr E101 E103) E105)) hz) (wd hw 151 rfl) (wd hw 62 rfl) (by decide) (by decide)) (fun _ q => nomatch q) pd19 rfl rfl (Nat.le_of_eq rfl) rfl (by decide) (by decide) (by decide) (fun v108 T108 h108 K108 Q108 q108 => ?_)
  have E108 := Ext.of0 Q108
  have P109 := P106.ext E108
  obtain ⟨xr, rfl, Sr⟩ := q108
  refine gRetA K108 hlk hret rfl rfl b7_57 P109 (by decide) (by decide) ?_
  exact ⟨_, rfl, Or.inr Sr⟩

set_option maxRecDepth 65536 in
set_option maxHeartbeats 40000000 in
theorem c_corB8_4 (l : Launch) (Z : State) (a0 : Array Value) (hw : ∀ d ∈ tables_1, d.before a0 Z = true) (h0 : Heap) (n0 : Nat) (Z0 : n0 ≤ h0.size) (bb : Addr) (kA : ClassId) (vs : List Value) (Ab : Arv Z h0 bb kA .byte (8 : Int32) vs (.int 0)) (hv : vs.length = 8) :
    Con none l (⟨"java/util/Arrays", "copyOfRangeByte", "([BII)[B"⟩ : MethodName) jdk_65_method_133_code 5 (some (.array .byte)) [] ({ frames := 1, cells := 1, slots := 4, locals := 40 } : Room) Z n0 h0 [] #[(.ref bb), (.int (0 : Int32)), (.int (4 : Int32))] (fun v h => ∃ (b : Addr) (kA : ClassId), v = some (.ref b) ∧ h0.size ≤ b ∧ Arv Z h b kA .byte (4 : Int32) (vs.take 4) (.int 0)) := by
  refine Con.intro pn6 Z0 (fun _ q => nomatch q) trivial #[.val (.ref bb), .val (.int (0 : Int32)), .val (.int (4 : Int32)), .unset, .unset] (fun m => by first | (simp [entryFrame, mkF, argsToLocals, Value.category]; done) | rfl) ?_
  intro p e s m below meth c T0 hlk hret hnm K0
  have P0 := Keep.refl h0 []
  refine gIloadN K0 b22_0 (v := (0 : Int32)) rfl ?_
  refine gIloadN K0 b22_1 (v := (4 : Int32)) rfl ?_
  refine gCallS K0 (W := 0) [(.int (0 : Int32)), (.int (4 : Int32))] [] b22_2 (wd hw 105 rfl) (wd hw 106 rfl) (wd hw 100 rfl) (wd hw 107 rfl) (Cal.ofN (W := 0) (c_ckl l Z a0 hw h0 n0 K0.n0le 4 (by decide)) (wd hw 107 rfl) (wd hw 100 rfl) (by decide) (by decide)) (fun _ q => nomatch q) pd10 rfl rfl (Nat.le_of_eq rfl) rfl (by decide) (by decide) (by decide) (fun v101 T101 h101 K101 Q101 q101 => ?_)
  have E101 := Ext.of0 Q101
  have P102 := P0.ext E101
  cases q101
  refine gIloadN K101 b22_5 (v := (4 : Int32)) rfl ?_
  refine gIloadN K101 b22_6 (v := (0 : Int32)) rfl ?_
  refine gIsubV K101 (4 : Int32) b22_7 (by decide) ?_
  refine gIstoreN K101 b22_8 (Ls' := #[.val (.ref bb), .val (.int (0 : Int32)), .val (.int (4 : Int32)), .val (.int (4 : Int32)), .unset]) rfl ?_
  refine gIloadN K101 b22_9 (v := (4 : Int32)) rfl ?_
  refine gNewarr K101 b22_10 (wd hw 20 rfl) (by decide) 4 (by decide) (by decide) (by decide) (by decide) (fun T103 h103 x103 kA103 K103 E103 g103 A103 ne103 => ?_)
  have P104 := P102.ext E103
  have ge_x103 : h0.size ≤ x103 := by rw [g103]; exact P102.1
  refine gAstore K103 b22_12 rfl (Ls' := #[.val (.ref bb), .val (.int (0 : Int32)), .val (.int (4 : Int32)), .val (.int (4 : Int32)), .val (.ref x103)]) rfl ?_
  refine gAloadN K103 b22_14 (v := (.ref bb)) rfl rfl ?_
  refine gIloadN K103 b22_15 (v := (0 : Int32)) rfl ?_
  refine gAload K103 b22_16 (v := (.ref x103)) rfl rfl ?_
  refine gIconst K103 (0 : Int32) b22_18 rfl ?_
  refine gAloadN K103 b22_19 (v := (.ref bb)) rfl rfl ?_
  refine gLen K103 b22_20 (Ab.ext (Ext.tr E101 E103)) ?_
  refine gIloadN K103 b22_21 (v := (0 : Int32)) rfl ?_
  refine gIsubV K103 (8 : Int32) b22_22 (by decide) ?_
  refine gIloadN K103 b22_23 (v := (4 : Int32)) rfl ?_
  refine gCallS K103 (W := 4) [(.int (8 : Int32)), (.int (4 : Int32))] [(.int (0 : Int32)), (.ref x103), (.int (0 : Int32)), (.ref bb)] b22_24 (wd hw 108 rfl) (wd hw 109 rfl) (wd hw 110 rfl) (wd hw 111 rfl) (Cal.ofN (W := 4) (c_min l Z a0 hw h103 n0 K103.n0le 8 4 (by decide) (by decide)) (wd hw 111 rfl) (wd hw 110 rfl) (by decide) (by decide)) (fun _ q => nomatch q) pd21 rfl rfl (Nat.le_of_eq rfl) rfl (by decide) (by decide) (by decide) (fun v105 T105 h105 K105 Q105 q105 => ?_)
  have E105 := Ext.of0 Q105
  have P106 := P104.ext E105
  have q105' : v105 = some (.int (4 : Int32)) := q105
  cases q105'
  refine gCopy K105 b22_27 (wd hw 112 rfl) (wd hw 115 rfl) (wd hw 113 rfl) (wd hw 114 rfl) (me 0 rfl) (Ab.ext (Ext.tr (Ext.tr E101 E103) E105)) (Arv.pad (A103.ext E105) (pad_rep [] (.int 0) 4)) (by decide) (by decide) (by decide) (by decide) (by decide) (us := vs.take 4) (range_take (t := 4) (by omega)) (by decide) rfl (by decide) (W := 0) (Nat.le_of_eq rfl) (by decide) (fun T107 h107 K107 Q107 A107 => ?_)
  have P108 := P106.trans Q107 (fun z q => by cases List.mem_singleton.mp q; exact Or.inr ge_x103)
  have B107 : Arv Z h107 x103 kA103 .byte (4 : Int32) (vs.take 4) (.int 0) := by rw [show vs.take 4 = [] ++ vs.take 4 ++ [] from (List.append_nil _).symm]; exact A107
  refine gAload K107 b22_30 (v := (.ref x103)) rfl rfl ?_
  refine gRetA K107 hlk hret rfl rfl b22_32 P108 (by decide) (by decide) ?_
  exact ⟨_, _, rfl, ge_x103, B107⟩
set_option maxRecDepth 65536 in
set_option maxHeartbeats 40000000 in
theorem c_cor8_4 (l : Launch) (Z : State) (a0 : Array Value) (hw : ∀ d ∈ tables_1, d.before a0 Z = true) (h0 : Heap) (n0 : Nat) (Z0 : n0 ≤ h0.size) (bb : Addr) (kA : ClassId) (vs : List Value) (Ab : Arv Z h0 bb kA .byte (8 : Int32) vs (.int 0)) (hv : vs.length = 8) :
    Con none l (⟨"java/util/Arrays", "copyOfRange", "([BII)[B"⟩ : MethodName) jdk_65_method_132_code 3 (some (.array .byte)) [] ({ frames := 2, cells := 1, slots := 4, locals := 56 } : Room) Z n0 h0 [] #[(.ref bb), (.int (0 : Int32)), (.int (4 : Int32))] (fun v h => ∃ (b : Addr) (kA : ClassId), v = some (.ref b) ∧ h0.size ≤ b ∧ Arv Z h b kA .byte (4 : Int32) (vs.take 4) (.int 0)) := by
  refine Con.intro pn6 Z0 (fun _ q => nomatch q) trivial #[.val (.ref bb), .val (.int (0 : Int32)), .val (.int (4 : Int32))] (fun m => by first | (simp [entryFrame, mkF, argsToLocals, Value.category]; done) | rfl) ?_
  intro p e s m below meth c T0 hlk hret hnm K0
  have P0 := Keep.refl h0 []
  refine gIloadN K0 b21_0 (v := (0 : Int32)) rfl ?_
  refine gIf_ne K0 b21_1 (fun q => absurd q (by first | decide | (intro hh; cases hh) | simp)) (fun q1 => ?_)
  refine gIloadN K0 b21_4 (v := (4 : Int32)) rfl ?_
  refine gAloadN K0 b21_5 (v := (.ref bb)) rfl rfl ?_
  refine gLen K0 b21_6 Ab ?_
  refine gIcmp_eq K0 b21_7 (fun q => absurd q (by first | decide | (intro hh; cases hh) | simp)) (fun q7 => ?_)
  refine gAloadN K0 b21_10 (v := (.ref bb)) rfl rfl ?_
  refine gIloadN K0 b21_11 (v := (0 : Int32)) rfl ?_
  refine gIloadN K0 b21_12 (v := (4 : Int32)) rfl ?_
  refine gCallS K0 (W := 0) [(.ref bb), (.int (0 : Int32)), (.int (4 : Int32))] [] b21_13 (wd hw 102 rfl) (wd hw 103 rfl) (wd hw 100 rfl) (wd hw 104 rfl) (Cal.ofN (W := 0) (c_corB8_4 l Z a0 hw h0 n0 K0.n0le bb kA vs Ab hv) (wd hw 104 rfl) (wd hw 100 rfl) (by decide) (by decide)) (fun _ q => nomatch q) pd22 rfl rfl (Nat.le_of_eq rfl) rfl (by decide) (by decide) (by decide) (fun v101 T101 h101 K101 Q101 q101 => ?_)
  have E101 := Ext.of0 Q101
  have P102 := P0.ext E101
  obtain ⟨b2, k2, rfl, g2, A2⟩ := q101
  refine gRetA K101 hlk hret rfl rfl b21_16 P102 (by decide) (by decide) ?_
  exact ⟨_, _, rfl, g2, A2⟩
set_option maxRecDepth 65536 in
set_option maxHeartbeats 40000000 in
theorem c_cb5_4_2 (l : Launch) (Z : State) (a0 : Array Value) (hw : ∀ d ∈ tables_1, d.before a0 Z = true) (h0 : Heap) (n0 : Nat) (Z0 : n0 ≤ h0.size) (c0 c1 c2 c3 : Int32) (bb : Addr) (kA : ClassId) (Ab : Arv Z h0 bb kA .byte (Int32.ofNat (2 * 4)) (StrChars.Road.wideBytes [c0, c1, c2, c3]) (.int 0)) (hp : ∀ c ∈ [c0, c1, c2, c3], ¬ c < 0 ∧ ¬ (65535 : Int32) < c) (u : US Z h0) (fm : Value) (Sf : Sta Z h0 "jdk/internal/util/Preconditions" "SIOOBE_FORMATTER" "Ljava/util/function/BiFunction;" fm) (rf : fm.isRef = true) (dd : Addr) (kD : ClassId) (gd : n0 ≤ dd) (Ad : Arv Z h0 dd kD .byte (2 : Int32) [] (.int 0)) (hbd : bb ≠ dd) (hu : ∃ c ∈ [c0, c1], (255 : Int32) < c) :
    Con none l (⟨"java/lang/StringUTF16", "compress", "([BI[BII)I"⟩ : MethodName) jdk_52_method_22_code 7 (some .int) [] ({ frames := 3, cells := 0, slots := 0, locals := 46 } : Room) Z n0 h0 [dd] #[(.ref bb), (.int (0 : Int32)), (.ref dd), (.int (0 : Int32)), (.int (2 : Int32))] (fun v h => ∃ j : Nat, v = some (.int (Int32.ofNat j)) ∧ j < 2 ∧ (255 : Int32) < [c0, c1].getD j 0) := by
  refine Con.intro pn1 Z0 (allS ⟨gd, Ad.lt⟩ all0) trivial #[.val (.ref bb), .val (.int (0 : Int32)), .val (.ref dd), .val (.int (0 : Int32)), .val (.int (2 : Int32)), .unset, .unset] (fun m => by first | (simp [entryFrame, mkF, argsToLocals, Value.category]; done) | rfl) ?_
  intro p e s m below meth c T0 hlk hret hnm K0
  have P0 := Keep.refl h0 [dd]
  refine gIloadN K0 b36_0 (v := (0 : Int32)) rfl ?_
  refine gIload K0 b36_1 (v := (2 : Int32)) rfl ?_
  refine gAloadN K0 b36_3 (v := (.ref bb)) rfl rfl ?_
  refine gCallS K0 (W := 0) [(.int (0 : Int32)), (.int (2 : Int32)), (.ref bb)] [] b36_4 (wd hw 159 rfl) (wd hw 160 rfl) (wd hw 62 rfl) (wd hw 161 rfl) (Cal.ofN (W := 0) (c_ubo l Z a0 hw h0 n0 K0.n0le 4 2 (by decide) (by decide) bb kA _ _ Ab fm Sf rf) (wd hw 161 rfl) (wd hw 62 rfl) (by decide) (by decide)) (fun _ q => nomatch q) pd23 rfl rfl (Nat.le_of_eq rfl) rfl (by decide) (by decide) (by decide) (fun v101 T101 h101 K101 Q101 q101 => ?_)
  have E101 := Ext.of0 Q101
  have P102 := P0.ext E101
  cases q101
  refine gIconst K101 (0 : Int32) b36_7 rfl ?_
  refine gIstore K101 b36_8 (Ls' := #[.val (.ref bb), .val (.int (0 : Int32)), .val (.ref dd), .val (.int (0 : Int32)), .val (.int (2 : Int32)), .val (.int (0 : Int32)), .unset]) rfl ?_
  refine gIload K101 b36_10 (v := (0 : Int32)) rfl ?_
  refine gIload K101 b36_12 (v := (2 : Int32)) rfl ?_
  refine gIcmp_ge K101 b36_14 (fun q => absurd q (by first | decide | (intro hh; cases hh) | simp)) (fun q14 => ?_)
  refine gAloadN K101 b36_17 (v := (.ref bb)) rfl rfl ?_
  refine gIloadN K101 b36_18 (v := (0 : Int32)) rfl ?_
  refine gCallS K101 (W := 0) [(.ref bb), (.int (0 : Int32))] [] b36_19 (wd hw 136 rfl) (wd hw 137 rfl) (wd hw 62 rfl) (wd hw 138 rfl) (Cal.ofN (W := 0) (c_getChar l Z a0 hw h101 n0 K101.n0le bb kA [c0, c1, c2, c3] 0 (Ab.ext E101) hp (Nat.le_of_ble_eq_true rfl) (Nat.le_of_ble_eq_true rfl) (u.ext E101)) (wd hw 138 rfl) (wd hw 62 rfl) (by decide) (by decide)) (fun _ q => nomatch q) pd6 rfl rfl (Nat.le_of_eq rfl) rfl (by decide) (by decide) (by decide) (fun v103 T103 h103 K103 Q103 q103 => ?_)
  have E103 := Ext.of0 Q103
  have P104 := P102.ext E103
  have q103' : v103 = some (.int c0) := q103
  cases q103'
  refine gIstore K103 b36_22 (Ls' := #[.val (.ref bb), .val (.int (0 : Int32)), .val (.ref dd), .val (.int (0 : Int32)), .val (.int (2 : Int32)), .val (.int (0 : Int32)), .val (.int c0)]) rfl ?_
  refine gIload K103 b36_24 (v := c0) rfl ?_
  refine gSipush K103 (255 : Int32) b36_26 rfl ?_
  refine gIcmp_le K103 b36_29 (fun hl_c0 => ?_) (fun hl_c0 => ?_)
  · skip
    refine gAloadN K103 b36_35 (v := (.ref dd)) rfl rfl ?_
    refine gIloadN K103 b36_36 (v := (0 : Int32)) rfl ?_
    refine gIload K103 b36_37 (v := c0) rfl ?_
    refine gI2b K103 b36_39 ?_
    refine gBastore K103 b36_40 (me 0 rfl) (Ad.ext (Ext.tr E101 E103)) rfl (by decide) (fun T105 h105 K105 Q105 A105 => ?_)
    have u105 := US.kp (u.ext (Ext.tr E101 E103)) Q105 (nsS (Arv.nostat (Ad.ext (Ext.tr E101 E103))) ns0)
    have P106 := P104.trans Q105 (fun z q => by cases List.mem_singleton.mp q; exact Or.inl (me 0 rfl))
    refine gIinc K105 (1 : Int32) b36_41 rfl (x := (0 : Int32)) rfl (Ls' := #[.val (.ref bb), .val (.int (1 : Int32)), .val (.ref dd), .val (.int (0 : Int32)), .val (.int (2 : Int32)), .val (.int (0 : Int32)), .val (.int c0)]) rfl ?_
    refine gIinc K105 (1 : Int32) b36_44 rfl (x := (0 : Int32)) rfl (Ls' := #[.val (.ref bb), .val (.int (1 : Int32)), .val (.ref dd), .val (.int (1 : Int32)), .val (.int (2 : Int32)), .val (.int (0 : Int32)), .val (.int c0)]) rfl ?_
    refine gIinc K105 (1 : Int32) b36_47 rfl (x := (0 : Int32)) rfl (Ls' := #[.val (.ref bb), .val (.int (1 : Int32)), .val (.ref dd), .val (.int (1 : Int32)), .val (.int (2 : Int32)), .val (.int (1 : Int32)), .val (.int c0)]) rfl ?_
    refine gGoto K105 b36_50 ?_
    refine gIload K105 b36_10 (v := (1 : Int32)) rfl ?_
    refine gIload K105 b36_12 (v := (2 : Int32)) rfl ?_
    refine gIcmp_ge K105 b36_14 (fun q => absurd q (by first | decide | (intro hh; cases hh) | simp)) (fun q14 => ?_)
    refine gAloadN K105 b36_17 (v := (.ref bb)) rfl rfl ?_
    refine gIloadN K105 b36_18 (v := (1 : Int32)) rfl ?_
    refine gCallS K105 (W := 0) [(.ref bb), (.int (1 : Int32))] [] b36_19 (wd hw 136 rfl) (wd hw 137 rfl) (wd hw 62 rfl) (wd hw 138 rfl) (Cal.ofN (W := 0) (c_getChar l Z a0 hw h105 n0 K105.n0le bb kA [c0, c1, c2, c3] 1 ((Ab.ext (Ext.tr E101 E103)).keep Q105 (ninS hbd nin0)) hp (Nat.le_of_ble_eq_true rfl) (Nat.le_of_ble_eq_true rfl) u105) (wd hw 138 rfl) (wd hw 62 rfl) (by decide) (by decide)) (fun _ q => nomatch q) pd6 rfl rfl (Nat.le_of_eq rfl) rfl (by decide) (by decide) (by decide) (fun v107 T107 h107 K107 Q107 q107 => ?_)
    have E107 := Ext.of0 Q107
    have P108 := P106.ext E107
    have q107' : v107 = some (.int c1) := q107
    cases q107'
    refine gIstore K107 b36_22 (Ls' := #[.val (.ref bb), .val (.int (1 : Int32)), .val (.ref dd), .val (.int (1 : Int32)), .val (.int (2 : Int32)), .val (.int (1 : Int32)), .val (.int c1)]) rfl ?_
    refine gIload K107 b36_24 (v := c1) rfl ?_
    refine gSipush K107 (255 : Int32) b36_26 rfl ?_
    refine gIcmp_le K107 b36_29 (fun hl_c1 => ?_) (fun hl_c1 => ?_)
    · skip
      refine gAloadN K107 b36_35 (v := (.ref dd)) rfl rfl ?_
      refine gIloadN K107 b36_36 (v := (1 : Int32)) rfl ?_
      refine gIload K107 b36_37 (v := c1) rfl ?_
      refine gI2b K107 b36_39 ?_
      refine gBastore K107 b36_40 (me 0 rfl) (A105.ext E107) rfl (by decide) (fun T109 h109 K109 Q109 A109 => ?_)
      have u109 := US.kp (u105.ext E107) Q109 (nsS (Arv.nostat (A105.ext E107)) ns0)
      have P110 := P108.trans Q109 (fun z q => by cases List.mem_singleton.mp q; exact Or.inl (me 0 rfl))
      refine gIinc K109 (1 : Int32) b36_41 rfl (x := (1 : Int32)) rfl (Ls' := #[.val (.ref bb), .val (.int (2 : Int32)), .val (.ref dd), .val (.int (1 : Int32)), .val (.int (2 : Int32)), .val (.int (1 : Int32)), .val (.int c1)]) rfl ?_
      refine gIinc K109 (1 : Int32) b36_44 rfl (x := (1 : Int32)) rfl (Ls' := #[.val (.ref bb), .val (.int (2 : Int32)), .val (.ref dd), .val (.int (2 : Int32)), .val (.int (2 : Int32)), .val (.int (1 : Int32)), .val (.int c1)]) rfl ?_
      refine gIinc K109 (1 : Int32) b36_47 rfl (x := (1 : Int32)) rfl (Ls' := #[.val (.ref bb), .val (.int (2 : Int32)), .val (.ref dd), .val (.int (2 : Int32)), .val (.int (2 : Int32)), .val (.int (2 : Int32)), .val (.int c1)]) rfl ?_
      refine gGoto K109 b36_50 ?_
      refine gIload K109 b36_10 (v := (2 : Int32)) rfl ?_
      refine gIload K109 b36_12 (v := (2 : Int32)) rfl ?_
      refine gIcmp_ge K109 b36_14 (fun q14 => ?_) (fun q => absurd q (by first | decide | (intro hh; cases hh) | simp))
      refine gIload K109 b36_53 (v := (2 : Int32)) rfl ?_
      exact absurd hu (noHi (allI hl_c0 (allI hl_c1 allI0)))
    · skip
      refine gIload K107 b36_32 (v := (1 : Int32)) rfl ?_
      refine gRetI K107 hlk hret (by simp) b36_34 rfl P108 (by decide) (by decide) ?_
      exact ⟨1, rfl, by decide, hl_c1⟩
  · skip
    refine gIload K103 b36_32 (v := (0 : Int32)) rfl ?_
    refine gRetI K103 hlk hret (by simp) b36_34 rfl P104 (by decide) (by decide) ?_
    exact ⟨0, rfl, by decide, hl_c0⟩
set_option maxRecDepth 65536 in
set_option maxHeartbeats 40000000 in
theorem c_cb3_4_2 (l : Launch) (Z : State) (a0 : Array Value) (hw : ∀ d ∈ tables_1, d.before a0 Z = true) (h0 : Heap) (n0 : Nat) (Z0 : n0 ≤ h0.size) (c0 c1 c2 c3 : Int32) (bb : Addr) (kA : ClassId) (Ab : Arv Z h0 bb kA .byte (Int32.ofNat (2 * 4)) (StrChars.Road.wideBytes [c0, c1, c2, c3]) (.int 0)) (hp : ∀ c ∈ [c0, c1, c2, c3], ¬ c < 0 ∧ ¬ (65535 : Int32) < c) (u : US Z h0) (fm : Value) (Sf : Sta Z h0 "jdk/internal/util/Preconditions" "SIOOBE_FORMATTER" "Ljava/util/function/BiFunction;" fm) (rf : fm.isRef = true) (hu : ∃ c ∈ [c0, c1], (255 : Int32) < c) :
    Con none l (⟨"java/lang/StringUTF16", "compress", "([BII)[B"⟩ : MethodName) jdk_52_method_17_code 6 (some (.array .byte)) [] ({ frames := 4, cells := 2, slots := 6, locals := 74 } : Room) Z n0 h0 [] #[(.ref bb), (.int (0 : Int32)), (.int (2 : Int32))] (fun v h => ∃ (b : Addr) (kA : ClassId), v = some (.ref b) ∧ h0.size ≤ b ∧ Arv Z h b kA .byte (Int32.ofNat (2 * 2)) (StrChars.Road.wideBytes [c0, c1]) (.int 0)) := by
  refine Con.intro pn1 Z0 (fun _ q => nomatch q) trivial #[.val (.ref bb), .val (.int (0 : Int32)), .val (.int (2 : Int32)), .unset, .unset, .unset] (fun m => by first | (simp [entryFrame, mkF, argsToLocals, Value.category]; done) | rfl) ?_
  intro p e s m below meth c T0 hlk hret hnm K0
  have P0 := Keep.refl h0 []
  refine gIloadN K0 b35_0 (v := (2 : Int32)) rfl ?_
  refine gNewarr K0 b35_1 (wd hw 20 rfl) (by decide) 2 (by decide) (by decide) (by decide) (by decide) (fun T101 h101 x101 kA101 K101 E101 g101 A101 ne101 => ?_)
  have P102 := P0.ext E101
  have ge_x101 : h0.size ≤ x101 := by rw [g101]; exact P0.1
  refine gAstoreN K101 b35_3 rfl (Ls' := #[.val (.ref bb), .val (.int (0 : Int32)), .val (.int (2 : Int32)), .val (.ref x101), .unset, .unset]) rfl ?_
  refine gAloadN K101 b35_4 (v := (.ref bb)) rfl rfl ?_
  refine gIloadN K101 b35_5 (v := (0 : Int32)) rfl ?_
  refine gAloadN K101 b35_6 (v := (.ref x101)) rfl rfl ?_
  refine gIconst K101 (0 : Int32) b35_7 rfl ?_
  refine gIloadN K101 b35_8 (v := (2 : Int32)) rfl ?_
  refine gCallS K101 (W := 0) [(.ref bb), (.int (0 : Int32)), (.ref x101), (.int (0 : Int32)), (.int (2 : Int32))] [] b35_9 (wd hw 156 rfl) (wd hw 157 rfl) (wd hw 62 rfl) (wd hw 158 rfl) (Cal.ofN (W := 0) (c_cb5_4_2 l Z a0 hw h101 n0 K101.n0le c0 c1 c2 c3 bb kA (Ab.ext E101) hp (u.ext E101) fm (Sf.ext E101) rf x101 _ (K101.wsge (me 0 rfl)) A101 (Nat.ne_of_lt (Nat.lt_of_lt_of_le Ab.lt ge_x101)) hu) (wd hw 158 rfl) (wd hw 62 rfl) (by decide) (by decide)) (fun z q => by cases List.mem_singleton.mp q; exact (me 0 rfl)) pd24 rfl rfl (Nat.le_of_eq rfl) rfl (by decide) (by decide) (by decide) (fun v103 T103 h103 K103 Q103 q103 => ?_)
  have P104 := P102.trans Q103 (fun z q => by cases List.mem_singleton.mp q; exact Or.inr ge_x101)
  obtain ⟨j, rfl, hj, hcj⟩ := q103
  refine gIstore K103 b35_12 (Ls' := #[.val (.ref bb), .val (.int (0 : Int32)), .val (.int (2 : Int32)), .val (.ref x101), .val (.int (Int32.ofNat j)), .unset]) rfl ?_
  refine gIload K103 b35_14 (v := (Int32.ofNat j)) rfl ?_
  refine gIloadN K103 b35_16 (v := (2 : Int32)) rfl ?_
  refine gIcmp_eq K103 b35_17 (fun q => absurd q (ofNat_ne hj (by decide))) (fun q17 => ?_)
  refine gAloadN K103 b35_20 (v := (.ref bb)) rfl rfl ?_
  refine gIloadN K103 b35_21 (v := (0 : Int32)) rfl ?_
  refine gIconst K103 (1 : Int32) b35_22 rfl ?_
  refine gIshlV K103 (0 : Int32) b35_23 (by decide) ?_
  refine gIloadN K103 b35_24 (v := (0 : Int32)) rfl ?_
  refine gIloadN K103 b35_25 (v := (2 : Int32)) rfl ?_
  refine gIaddV K103 (2 : Int32) b35_26 (by decide) ?_
  refine gCallS K103 (W := 2) [(.int (2 : Int32))] [(.int (0 : Int32)), (.ref bb)] b35_27 (wd hw 126 rfl) (wd hw 127 rfl) (wd hw 62 rfl) (wd hw 128 rfl) (Cal.ofN (W := 2) (c_nbl2 l Z a0 hw h103 n0 K103.n0le) (wd hw 128 rfl) (wd hw 62 rfl) (by decide) (by decide)) (fun _ q => nomatch q) pd1 rfl rfl (Nat.le_of_eq rfl) rfl (by decide) (by decide) (by decide) (fun v105 T105 h105 K105 Q105 q105 => ?_)
  have E105 := Ext.of0 Q105
  have P106 := P104.ext E105
  cases q105
  refine gCallS K105 (W := 0) [(.ref bb), (.int (0 : Int32)), (.int (4 : Int32))] [] b35_30 (wd hw 168 rfl) (wd hw 99 rfl) (wd hw 100 rfl) (wd hw 101 rfl) (Cal.ofN (W := 0) (c_cor8_4 l Z a0 hw h105 n0 K105.n0le bb kA _ (Ab.ext (Ext.tr (Ext.kp1 E101 Q103 (Nat.le_of_eq g101.symm)) E105)) rfl) (wd hw 101 rfl) (wd hw 100 rfl) (by decide) (by decide)) (fun _ q => nomatch q) pd22 rfl rfl (Nat.le_of_eq rfl) rfl (by decide) (by decide) (by decide) (fun v107 T107 h107 K107 Q107 q107 => ?_)
  have E107 := Ext.of0 Q107
  have P108 := P106.ext E107
  obtain ⟨b2, k2, rfl, g2, A2⟩ := q107
  have A2' : Arv Z h107 b2 k2 .byte (Int32.ofNat (2 * [c0, c1].length)) (StrChars.Road.wideBytes [c0, c1]) (.int 0) := A2
  have gb0 : h0.size ≤ b2 := Nat.le_trans P106.1 g2
  refine gAstore K107 b35_33 rfl (Ls' := #[.val (.ref bb), .val (.int (0 : Int32)), .val (.int (2 : Int32)), .val (.ref x101), .val (.int (Int32.ofNat j)), .val (.ref b2)]) rfl ?_
  refine gAload K107 b35_35 (v := (.ref b2)) rfl rfl ?_
  refine gIload K107 b35_37 (v := (Int32.ofNat j)) rfl ?_
  refine gCallS K107 (W := 0) [(.ref b2), (.int (Int32.ofNat j))] [] b35_39 (wd hw 136 rfl) (wd hw 137 rfl) (wd hw 62 rfl) (wd hw 138 rfl) (Cal.ofN (W := 0) (c_getChar l Z a0 hw h107 n0 K107.n0le b2 k2 [c0, c1] j A2' (fun c hc => hp c (List.mem_append_left [c2, c3] hc)) hj (Nat.le_of_ble_eq_true rfl) (u.ext (Ext.tr (Ext.tr (Ext.kp1 E101 Q103 (Nat.le_of_eq g101.symm)) E105) E107))) (wd hw 138 rfl) (wd hw 62 rfl) (by decide) (by decide)) (fun _ q => nomatch q) pd6 rfl rfl (Nat.le_of_eq rfl) rfl (by decide) (by decide) (by decide) (fun v109 T109 h109 K109 Q109 q109 => ?_)
  have E109 := Ext.of0 Q109
  have P110 := P108.ext E109
  cases q109
  refine gSipush K109 (255 : Int32) b35_42 rfl ?_
  refine gIcmp_gt K109 b35_45 (fun q45 => ?_) (fun q => absurd q (not_not_intro hcj))
  refine gAload K109 b35_61 (v := (.ref b2)) rfl rfl ?_
  refine gRetA K109 hlk hret rfl rfl b35_63 P110 (by decide) (by decide) ?_
  exact ⟨b2, k2, rfl, gb0, (A2'.ext E109)⟩
set_option maxRecDepth 65536 in
set_option maxHeartbeats 40000000 in
theorem c_nsU4_2 (l : Launch) (Z : State) (a0 : Array Value) (hw : ∀ d ∈ tables_1, d.before a0 Z = true) (h0 : Heap) (n0 : Nat) (Z0 : n0 ≤ h0.size) (c0 c1 c2 c3 : Int32) (bb : Addr) (kA : ClassId) (Ab : Arv Z h0 bb kA .byte (Int32.ofNat (2 * 4)) (StrChars.Road.wideBytes [c0, c1, c2, c3]) (.int 0)) (hp : ∀ c ∈ [c0, c1, c2, c3], ¬ c < 0 ∧ ¬ (65535 : Int32) < c) (u : US Z h0) (fm : Value) (Sf : Sta Z h0 "jdk/internal/util/Preconditions" "SIOOBE_FORMATTER" "Ljava/util/function/BiFunction;" fm) (rf : fm.isRef = true) (hu : ∃ c ∈ [c0, c1], (255 : Int32) < c) (z : Int32) (Sc : Sta Z h0 "java/lang/String" "COMPACT_STRINGS" "Z" (.int z)) (hz : ¬ z = 0) :
    Con none l (⟨"java/lang/StringUTF16", "newString", "([BII)Ljava/lang/String;"⟩ : MethodName) jdk_52_method_69_code 5 (some (.object "java/lang/String")) [] ({ frames := 5, cells := 3, slots := 10, locals := 94 } : Room) Z n0 h0 [] #[(.ref bb), (.int (0 : Int32)), (.int (2 : Int32))] (fun v h => ∃ x : Addr, v = some (.ref x) ∧ StrU Z h x [c0, c1]) := by
  refine Con.intro pn1 Z0 (fun _ q => nomatch q) trivial #[.val (.ref bb), .val (.int (0 : Int32)), .val (.int (2 : Int32)), .unset, .unset] (fun m => by first | (simp [entryFrame, mkF, argsToLocals, Value.category]; done) | rfl) ?_
  intro p e s m below meth c T0 hlk hret hnm K0
  have P0 := Keep.refl h0 []
  refine gIloadN K0 b34_0 (v := (2 : Int32)) rfl ?_
  refine gIf_ne K0 b34_1 (fun q1 => ?_) (fun q => absurd q (by first | decide | (intro hh; cases hh) | simp))
  refine gGetS K0 b34_8 (wd hw 152 rfl) Sc (fun T101 K101 => ?_)
  refine gIf_eq K101 b34_11 (fun q => absurd q hz) (fun q11 => ?_)
  refine gAloadN K101 b34_14 (v := (.ref bb)) rfl rfl ?_
  refine gIloadN K101 b34_15 (v := (0 : Int32)) rfl ?_
  refine gIloadN K101 b34_16 (v := (2 : Int32)) rfl ?_
  refine gCallS K101 (W := 0) [(.ref bb), (.int (0 : Int32)), (.int (2 : Int32))] [] b34_17 (wd hw 153 rfl) (wd hw 154 rfl) (wd hw 62 rfl) (wd hw 155 rfl) (Cal.ofN (W := 0) (c_cb3_4_2 l Z a0 hw h0 n0 K101.n0le c0 c1 c2 c3 bb kA Ab hp u fm Sf rf hu) (wd hw 155 rfl) (wd hw 62 rfl) (by decide) (by decide)) (fun _ q => nomatch q) pd22 rfl rfl (Nat.le_of_eq rfl) rfl (by decide) (by decide) (by decide) (fun v102 T102 h102 K102 Q102 q102 => ?_)
  have E102 := Ext.of0 Q102
  have P103 := P0.ext E102
  obtain ⟨b2, k2, rfl, g2, A2⟩ := q102
  refine gAstoreN K102 b34_20 rfl (Ls' := #[.val (.ref bb), .val (.int (0 : Int32)), .val (.int (2 : Int32)), .val (.ref b2), .unset]) rfl ?_
  refine gAloadN K102 b34_21 (v := (.ref b2)) rfl rfl ?_
  refine gIloadN K102 b34_22 (v := (2 : Int32)) rfl ?_
  refine gCallS K102 (W := 0) [(.ref b2), (.int (2 : Int32))] [] b34_23 (wd hw 169 rfl) (wd hw 68 rfl) (wd hw 62 rfl) (wd hw 69 rfl) (Cal.ofN (W := 0) (c_cfa2 l Z a0 hw h102 n0 K102.n0le b2 k2 _ _ A2) (wd hw 69 rfl) (wd hw 62 rfl) (by decide) (by decide)) (fun _ q => nomatch q) pd7 rfl rfl (Nat.le_of_eq rfl) rfl (by decide) (by decide) (by decide) (fun v104 T104 h104 K104 Q104 q104 => ?_)
  have E104 := Ext.of0 Q104
  have P105 := P103.ext E104
  cases q104
  refine gIstore K104 b34_26 (Ls' := #[.val (.ref bb), .val (.int (0 : Int32)), .val (.int (2 : Int32)), .val (.ref b2), .val (.int (1 : Int32))]) rfl ?_
  refine gNew K104 b34_28 (wd hw 170 rfl) (wd hw 6 rfl) (wd hw 7 rfl) (by decide) (by decide) (fun T106 h106 x106 K106 E106 g106 A106 D106 ne106 => ?_)
  have P107 := P105.ext E106
  have ge_x106 : h0.size ≤ x106 := by rw [g106]; exact P105.1
  have F108 : Fld Z h106 x106 "java/lang/String" "value" "[B" .null := (D106 (Or.inr (wd hw 21 rfl)) (ty := (.array .byte)) (by decide))
  have F109 : Fld Z h106 x106 "java/lang/String" "coder" "B" (.int (0 : Int32)) := (D106 (Or.inr (wd hw 22 rfl)) (ty := .byte) (by decide))
  refine gDup K106 b34_31 rfl ?_
  refine gAloadN K106 b34_32 (v := (.ref b2)) rfl rfl ?_
  refine gIload K106 b34_33 (v := (1 : Int32)) rfl ?_
  refine gCallI K106 (W := 1) x106 [(.ref b2), (.int (1 : Int32))] [(.ref x106)] b34_35 rfl (wd hw 171 rfl) (wd hw 117 rfl) (wd hw 118 rfl) (Cal.ofN (W := 1) (c_initBB l Z a0 hw h106 n0 K106.n0le x106 b2 (1 : Int32) _ _ (by decide) (K106.wsge (me 0 rfl)) A106 F108 F109) (wd hw 118 rfl) (wd hw 7 rfl) (by decide) (by decide)) (fun z q => by cases List.mem_singleton.mp q; exact (me 0 rfl)) pd25 rfl rfl (Nat.le_of_eq rfl) rfl (by decide) (by decide) (by decide) (fun v110 T110 h110 K110 Q110 q110 => ?_)
  have P111 := P107.trans Q110 (fun z q => by cases List.mem_singleton.mp q; exact Or.inr ge_x106)
  obtain ⟨rfl, Ex110, Fv110, Fc110⟩ := q110
  refine gRetA K110 hlk hret rfl rfl b34_38 P111 (by decide) (by decide) ?_
  exact ⟨_, rfl, b2, k2, Ex110, Fc110, Fv110, (A2.ext (Ext.kp1 (Ext.tr E104 E106) Q110 (Nat.le_trans E104.1 (Nat.le_of_eq g106.symm)))), (fun c hc => hp c (List.mem_append_left [c2, c3] hc)), hu, Nat.le_of_ble_eq_true rfl⟩
set_option maxRecDepth 65536 in
set_option maxHeartbeats 40000000 in
theorem c_nsL4_2 (l : Launch) (Z : State) (a0 : Array Value) (hw : ∀ d ∈ tables_1, d.before a0 Z = true) (h0 : Heap) (n0 : Nat) (Z0 : n0 ≤ h0.size) (c0 c1 c2 c3 : Int32) (bb : Addr) (kA : ClassId) (Ab : Arv Z h0 bb kA .byte (4 : Int32) (([c0, c1, c2, c3].map StrChars.lo8).map Value.int) (.int 0)) (hp : ∀ c ∈ [c0, c1], ¬ c < 0 ∧ ¬ (255 : Int32) < c) :
    Con none l (⟨"java/lang/StringLatin1", "newString", "([BII)Ljava/lang/String;"⟩ : MethodName) jdk_43_method_47_code 3 (some (.object "java/lang/String")) [] ({ frames := 3, cells := 2, slots := 6, locals := 75 } : Room) Z n0 h0 [] #[(.ref bb), (.int (0 : Int32)), (.int (2 : Int32))] (fun v h => ∃ x : Addr, v = some (.ref x) ∧ StrL Z h x [c0, c1]) := by
  refine Con.intro pn5 Z0 (fun _ q => nomatch q) trivial #[.val (.ref bb), .val (.int (0 : Int32)), .val (.int (2 : Int32))] (fun m => by first | (simp [entryFrame, mkF, argsToLocals, Value.category]; done) | rfl) ?_
  intro p e s m below meth c T0 hlk hret hnm K0
  have P0 := Keep.refl h0 []
  refine gIloadN K0 b20_0 (v := (2 : Int32)) rfl ?_
  refine gIf_ne K0 b20_1 (fun q1 => ?_) (fun q => absurd q (by first | decide | (intro hh; cases hh) | simp))
  refine gNew K0 b20_7 (wd hw 97 rfl) (wd hw 6 rfl) (wd hw 7 rfl) (by decide) (by decide) (fun T101 h101 x101 K101 E101 g101 A101 D101 ne101 => ?_)
  have P102 := P0.ext E101
  have ge_x101 : h0.size ≤ x101 := by rw [g101]; exact P0.1
  have F103 : Fld Z h101 x101 "java/lang/String" "value" "[B" .null := (D101 (Or.inr (wd hw 21 rfl)) (ty := (.array .byte)) (by decide))
  have F104 : Fld Z h101 x101 "java/lang/String" "coder" "B" (.int (0 : Int32)) := (D101 (Or.inr (wd hw 22 rfl)) (ty := .byte) (by decide))
  refine gDup K101 b20_10 rfl ?_
  refine gAloadN K101 b20_11 (v := (.ref bb)) rfl rfl ?_
  refine gIloadN K101 b20_12 (v := (0 : Int32)) rfl ?_
  refine gIloadN K101 b20_13 (v := (0 : Int32)) rfl ?_
  refine gIloadN K101 b20_14 (v := (2 : Int32)) rfl ?_
  refine gIaddV K101 (2 : Int32) b20_15 (by decide) ?_
  refine gCallS K101 (W := 2) [(.ref bb), (.int (0 : Int32)), (.int (2 : Int32))] [(.ref x101), (.ref x101)] b20_16 (wd hw 98 rfl) (wd hw 99 rfl) (wd hw 100 rfl) (wd hw 101 rfl) (Cal.ofN (W := 2) (c_cor4_2 l Z a0 hw h101 n0 K101.n0le bb kA _ (Ab.ext E101) rfl) (wd hw 101 rfl) (wd hw 100 rfl) (by decide) (by decide)) (fun _ q => nomatch q) pd22 rfl rfl (Nat.le_of_eq rfl) rfl (by decide) (by decide) (by decide) (fun v105 T105 h105 K105 Q105 q105 => ?_)
  have E105 := Ext.of0 Q105
  have P106 := P102.ext E105
  obtain ⟨b2, k2, rfl, g2, A2⟩ := q105
  have A2' : Arv Z h105 b2 k2 .byte (Int32.ofNat [c0, c1].length) (([c0, c1].map StrChars.lo8).map Value.int) (.int 0) := A2
  refine gIconst K105 (0 : Int32) b20_19 rfl ?_
  refine gCallI K105 (W := 1) x101 [(.ref b2), (.int (0 : Int32))] [(.ref x101)] b20_20 rfl (wd hw 116 rfl) (wd hw 117 rfl) (wd hw 118 rfl) (Cal.ofN (W := 1) (c_initBB l Z a0 hw h105 n0 K105.n0le x101 b2 (0 : Int32) _ _ (by decide) (K105.wsge (me 0 rfl)) (A101.ext E105) (F103.ext E105) (F104.ext E105)) (wd hw 118 rfl) (wd hw 7 rfl) (by decide) (by decide)) (fun z q => by cases List.mem_singleton.mp q; exact (me 0 rfl)) pd25 rfl rfl (Nat.le_of_eq rfl) rfl (by decide) (by decide) (by decide) (fun v107 T107 h107 K107 Q107 q107 => ?_)
  have P108 := P106.trans Q107 (fun z q => by cases List.mem_singleton.mp q; exact Or.inr ge_x101)
  obtain ⟨rfl, Ex107, Fv107, Fc107⟩ := q107
  refine gRetA K107 hlk hret rfl rfl b20_23 P108 (by decide) (by decide) ?_
  exact ⟨_, rfl, b2, k2, Ex107, Fc107, Fv107, (A2'.keep Q107 (ninS (Nat.ne_of_gt (Nat.lt_of_lt_of_le A101.lt g2)) nin0)), hp, Nat.le_of_ble_eq_true rfl⟩
set_option maxRecDepth 65536 in
set_option maxHeartbeats 40000000 in
theorem c_subL4_2 (l : Launch) (Z : State) (a0 : Array Value) (hw : ∀ d ∈ tables_1, d.before a0 Z = true) (h0 : Heap) (n0 : Nat) (Z0 : n0 ≤ h0.size) (c0 c1 c2 c3 : Int32) (x : Addr) (A : StrL Z h0 x [c0, c1, c2, c3]) (z : Int32) (Sc : Sta Z h0 "java/lang/String" "COMPACT_STRINGS" "Z" (.int z)) (hz : ¬ z = 0) (fm : Value) (Sf : Sta Z h0 "jdk/internal/util/Preconditions" "SIOOBE_FORMATTER" "Ljava/util/function/BiFunction;" fm) (rf : fm.isRef = true) (u : US Z h0) :
    Con none l (⟨"java/lang/String", "substring", "(II)Ljava/lang/String;"⟩ : MethodName) jdk_42_method_92_code 5 (some (.object "java/lang/String")) [] ({ frames := 6, cells := 3, slots := 16, locals := 112 } : Room) Z n0 h0 [] #[(.ref x), (.int (0 : Int32)), (.int (2 : Int32))] (fun v h => ∃ x : Addr, v = some (.ref x) ∧ StrA Z h x [c0, c1]) := by
  refine Con.intro pn0 Z0 (fun _ q => nomatch q) trivial #[.val (.ref x), .val (.int (0 : Int32)), .val (.int (2 : Int32)), .unset, .unset] (fun m => by first | (simp [entryFrame, mkF, argsToLocals, Value.category]; done) | rfl) ?_
  intro p e s m below meth c T0 hlk hret hnm K0
  have P0 := Keep.refl h0 []
  have A_ := A
  obtain ⟨bb, kA, Ex, Fc, Fv, Ab, hp, hN⟩ := A_
  refine gAloadN K0 b7_0 (v := (.ref x)) rfl rfl ?_
  refine gCallV K0 (W := 0) (C := "java/lang/String") x [] [] b7_1 (wd hw 47 rfl) (wd hw 32 rfl) (wd hw 34 rfl) (wd hw 33 rfl) (cal_lenA hw K0.n0le (W := 0) (cs := [c0, c1, c2, c3]) (Or.inl A) Sc hz (by decide) (by decide)) (StrA.exa ((Or.inl A) : StrA Z _ x [c0, c1, c2, c3])) (fun _ q => nomatch q) pd16 rfl rfl (Nat.le_of_eq rfl) rfl (by decide) (by decide) (by decide) (fun v101 T101 h101 K101 Q101 q101 => ?_)
  have E101 := Ext.of0 Q101
  have P102 := P0.ext E101
  have q101' : v101 = some (.int (4 : Int32)) := q101
  cases q101'
  refine gIstoreN K101 b7_4 (Ls' := #[.val (.ref x), .val (.int (0 : Int32)), .val (.int (2 : Int32)), .val (.int (4 : Int32)), .unset]) rfl ?_
  refine gIloadN K101 b7_5 (v := (0 : Int32)) rfl ?_
  refine gIloadN K101 b7_6 (v := (2 : Int32)) rfl ?_
  refine gIloadN K101 b7_7 (v := (4 : Int32)) rfl ?_
  refine gCallS K101 (W := 0) [(.int (0 : Int32)), (.int (2 : Int32)), (.int (4 : Int32))] [] b7_8 (wd hw 48 rfl) (wd hw 49 rfl) (wd hw 7 rfl) (wd hw 50 rfl) (Cal.ofN (W := 0) (c_cbe l Z a0 hw h101 n0 K101.n0le 4 2 (by decide) (by decide) fm (Sf.ext E101) rf) (wd hw 50 rfl) (wd hw 7 rfl) (by decide) (by decide)) (fun _ q => nomatch q) pd17 rfl rfl (Nat.le_of_eq rfl) rfl (by decide) (by decide) (by decide) (fun v103 T103 h103 K103 Q103 q103 => ?_)
  have E103 := Ext.of0 Q103
  have P104 := P102.ext E103
  cases q103
  refine gIloadN K103 b7_11 (v := (0 : Int32)) rfl ?_
  refine gIf_ne K103 b7_12 (fun q => absurd q (by first | decide | (intro hh; cases hh) | simp)) (fun q12 => ?_)
  refine gIloadN K103 b7_15 (v := (2 : Int32)) rfl ?_
  refine gIloadN K103 b7_16 (v := (4 : Int32)) rfl ?_
  refine gIcmp_ne K103 b7_17 (fun q17 => ?_) (fun q => absurd q (by first | decide | (intro hh; cases hh) | simp))
  refine gIloadN K103 b7_22 (v := (2 : Int32)) rfl ?_
  refine gIloadN K103 b7_23 (v := (0 : Int32)) rfl ?_
  refine gIsubV K103 (2 : Int32) b7_24 (by decide) ?_
  refine gIstore K103 b7_25 (Ls' := #[.val (.ref x), .val (.int (0 : Int32)), .val (.int (2 : Int32)), .val (.int (4 : Int32)), .val (.int (2 : Int32))]) rfl ?_
  refine gAloadN K103 b7_27 (v := (.ref x)) rfl rfl ?_
  refine gCallV K103 (W := 0) (C := "java/lang/String") x [] [] b7_28 (wd hw 75 rfl) (wd hw 76 rfl) (wd hw 78 rfl) (wd hw 77 rfl) (Cal.ofN (W := 0) (c_isL0 l Z a0 hw h103 n0 K103.n0le x (Fc.ext (Ext.tr E101 E103)) z (Sc.ext (Ext.tr E101 E103)) hz) (wd hw 79 rfl) (wd hw 7 rfl) (by decide) (by decide)) (Ex.ext (Ext.tr E101 E103)) (fun _ q => nomatch q) pd12 rfl rfl (Nat.le_of_eq rfl) rfl (by decide) (by decide) (by decide) (fun v105 T105 h105 K105 Q105 q105 => ?_)
  have E105 := Ext.of0 Q105
  have P106 := P104.ext E105
  cases q105
  refine gIf_eq K105 b7_31 (fun q => absurd q (by first | decide | (intro hh; cases hh) | simp)) (fun q31 => ?_)
  refine gAloadN K105 b7_34 (v := (.ref x)) rfl rfl ?_
  refine gGet K105 b7_35 (wd hw 25 rfl) (Fv.ext (Ext.tr (Ext.tr E101 E103) E105)) (fun T107 K107 => ?_)
  refine gIloadN K107 b7_38 (v := (0 : Int32)) rfl ?_
  refine gIload K107 b7_39 (v := (2 : Int32)) rfl ?_
  refine gCallS K107 (W := 0) [(.ref bb), (.int (0 : Int32)), (.int (2 : Int32))] [] b7_41 (wd hw 94 rfl) (wd hw 95 rfl) (wd hw 82 rfl) (wd hw 96 rfl) (Cal.ofN (W := 0) (c_nsL4_2 l Z a0 hw h105 n0 K107.n0le c0 c1 c2 c3 bb kA (Ab.ext (Ext.tr (Ext.tr E101 E103) E105)) (fun c hc => hp c (List.mem_append_left [c2, c3] hc))) (wd hw 96 rfl) (wd hw 82 rfl) (by decide) (by decide)) (fun _ q => nomatch q) pd19 rfl rfl (Nat.le_of_eq rfl) rfl (by decide) (by decide) (by decide) (fun v108 T108 h108 K108 Q108 q108 => ?_)
  have E108 := Ext.of0 Q108
  have P109 := P106.ext E108
  obtain ⟨xr, rfl, Sr⟩ := q108
  refine gGoto K108 b7_44 ?_
  refine gRetA K108 hlk hret rfl rfl b7_57 P109 (by decide) (by decide) ?_
  exact ⟨_, rfl, Or.inl Sr⟩
set_option maxRecDepth 65536 in
set_option maxHeartbeats 40000000 in
theorem c_subU4_2 (l : Launch) (Z : State) (a0 : Array Value) (hw : ∀ d ∈ tables_1, d.before a0 Z = true) (h0 : Heap) (n0 : Nat) (Z0 : n0 ≤ h0.size) (c0 c1 c2 c3 : Int32) (x : Addr) (A : StrU Z h0 x [c0, c1, c2, c3]) (z : Int32) (Sc : Sta Z h0 "java/lang/String" "COMPACT_STRINGS" "Z" (.int z)) (hz : ¬ z = 0) (fm : Value) (Sf : Sta Z h0 "jdk/internal/util/Preconditions" "SIOOBE_FORMATTER" "Ljava/util/function/BiFunction;" fm) (rf : fm.isRef = true) (u : US Z h0) (hu : ∃ c ∈ [c0, c1], (255 : Int32) < c) :
    Con none l (⟨"java/lang/String", "substring", "(II)Ljava/lang/String;"⟩ : MethodName) jdk_42_method_92_code 5 (some (.object "java/lang/String")) [] ({ frames := 6, cells := 3, slots := 16, locals := 112 } : Room) Z n0 h0 [] #[(.ref x), (.int (0 : Int32)), (.int (2 : Int32))] (fun v h => ∃ x : Addr, v = some (.ref x) ∧ StrA Z h x [c0, c1]) := by
  refine Con.intro pn0 Z0 (fun _ q => nomatch q) trivial #[.val (.ref x), .val (.int (0 : Int32)), .val (.int (2 : Int32)), .unset, .unset] (fun m => by first | (simp [entryFrame, mkF, argsToLocals, Value.category]; done) | rfl) ?_
  intro p e s m below meth c T0 hlk hret hnm K0
  have P0 := Keep.refl h0 []
  have A_ := A
  obtain ⟨bb, kA, Ex, Fc, Fv, Ab, hp, hu0, hN⟩ := A_
  refine gAloadN K0 b7_0 (v := (.ref x)) rfl rfl ?_
  refine gCallV K0 (W := 0) (C := "java/lang/String") x [] [] b7_1 (wd hw 47 rfl) (wd hw 32 rfl) (wd hw 34 rfl) (wd hw 33 rfl) (cal_lenA hw K0.n0le (W := 0) (cs := [c0, c1, c2, c3]) (Or.inr A) Sc hz (by decide) (by decide)) (StrA.exa ((Or.inr A) : StrA Z _ x [c0, c1, c2, c3])) (fun _ q => nomatch q) pd16 rfl rfl (Nat.le_of_eq rfl) rfl (by decide) (by decide) (by decide) (fun v101 T101 h101 K101 Q101 q101 => ?_)
  have E101 := Ext.of0 Q101
  have P102 := P0.ext E101
  have q101' : v101 = some (.int (4 : Int32)) := q101
  cases q101'
  refine gIstoreN K101 b7_4 (Ls' := #[.val (.ref x), .val (.int (0 : Int32)), .val (.int (2 : Int32)), .val (.int (4 : Int32)), .unset]) rfl ?_
  refine gIloadN K101 b7_5 (v := (0 : Int32)) rfl ?_
  refine gIloadN K101 b7_6 (v := (2 : Int32)) rfl ?_
  refine gIloadN K101 b7_7 (v := (4 : Int32)) rfl ?_
  refine gCallS K101 (W := 0) [(.int (0 : Int32)), (.int (2 : Int32)), (.int (4 : Int32))] [] b7_8 (wd hw 48 rfl) (wd hw 49 rfl) (wd hw 7 rfl) (wd hw 50 rfl) (Cal.ofN (W := 0) (c_cbe l Z a0 hw h101 n0 K101.n0le 4 2 (by decide) (by decide) fm (Sf.ext E101) rf) (wd hw 50 rfl) (wd hw 7 rfl) (by decide) (by decide)) (fun _ q => nomatch q) pd17 rfl rfl (Nat.le_of_eq rfl) rfl (by decide) (by decide) (by decide) (fun v103 T103 h103 K103 Q103 q103 => ?_)
  have E103 := Ext.of0 Q103
  have P104 := P102.ext E103
  cases q103
  refine gIloadN K103 b7_11 (v := (0 : Int32)) rfl ?_
  refine gIf_ne K103 b7_12 (fun q => absurd q (by first | decide | (intro hh; cases hh) | simp)) (fun q12 => ?_)
  refine gIloadN K103 b7_15 (v := (2 : Int32)) rfl ?_
  refine gIloadN K103 b7_16 (v := (4 : Int32)) rfl ?_
  refine gIcmp_ne K103 b7_17 (fun q17 => ?_) (fun q => absurd q (by first | decide | (intro hh; cases hh) | simp))
  refine gIloadN K103 b7_22 (v := (2 : Int32)) rfl ?_
  refine gIloadN K103 b7_23 (v := (0 : Int32)) rfl ?_
  refine gIsubV K103 (2 : Int32) b7_24 (by decide) ?_
  refine gIstore K103 b7_25 (Ls' := #[.val (.ref x), .val (.int (0 : Int32)), .val (.int (2 : Int32)), .val (.int (4 : Int32)), .val (.int (2 : Int32))]) rfl ?_
  refine gAloadN K103 b7_27 (v := (.ref x)) rfl rfl ?_
  refine gCallV K103 (W := 0) (C := "java/lang/String") x [] [] b7_28 (wd hw 75 rfl) (wd hw 76 rfl) (wd hw 78 rfl) (wd hw 77 rfl) (Cal.ofN (W := 0) (c_isL1 l Z a0 hw h103 n0 K103.n0le x (Fc.ext (Ext.tr E101 E103)) z (Sc.ext (Ext.tr E101 E103)) hz) (wd hw 79 rfl) (wd hw 7 rfl) (by decide) (by decide)) (Ex.ext (Ext.tr E101 E103)) (fun _ q => nomatch q) pd12 rfl rfl (Nat.le_of_eq rfl) rfl (by decide) (by decide) (by decide) (fun v105 T105 h105 K105 Q105 q105 => ?_)
  have E105 := Ext.of0 Q105
  have P106 := P104.ext E105
  cases q105
  refine gIf_eq K105 b7_31 (fun q31 => ?_) (fun q => absurd q (by first | decide | (intro hh; cases hh) | simp))
  refine gAloadN K105 b7_47 (v := (.ref x)) rfl rfl ?_
  refine gGet K105 b7_48 (wd hw 25 rfl) (Fv.ext (Ext.tr (Ext.tr E101 E103) E105)) (fun T107 K107 => ?_)
  refine gIloadN K107 b7_51 (v := (0 : Int32)) rfl ?_
  refine gIload K107 b7_52 (v := (2 : Int32)) rfl ?_
  refine gCallS K107 (W := 0) [(.ref bb), (.int (0 : Int32)), (.int (2 : Int32))] [] b7_54 (wd hw 149 rfl) (wd hw 150 rfl) (wd hw 62 rfl) (wd hw 151 rfl) (Cal.ofN (W := 0) (c_nsU4_2 l Z a0 hw h105 n0 K107.n0le c0 c1 c2 c3 bb kA (Ab.ext (Ext.tr (Ext.tr E101 E103) E105)) hp (u.ext (Ext.tr (Ext.tr E101 E103) E105)) fm (Sf.ext (Ext.tr (Ext.tr E101 E103) E105)) rf hu z (Sc.ext (Ext.tr (Ext.tr E101 E103) E105)) hz) (wd hw 151 rfl) (wd hw 62 rfl) (by decide) (by decide)) (fun _ q => nomatch q) pd19 rfl rfl (Nat.le_of_eq rfl) rfl (by decide) (by decide) (by decide) (fun v108 T108 h108 K108 Q108 q108 => ?_)
  have E108 := Ext.of0 Q108
  have P109 := P106.ext E108
  obtain ⟨xr, rfl, Sr⟩ := q108
  refine gRetA K108 hlk hret rfl rfl b7_57 P109 (by decide) (by decide) ?_
  exact ⟨_, rfl, Or.inr Sr⟩
set_option maxRecDepth 65536 in
set_option maxHeartbeats 40000000 in
theorem c_corB4_3 (l : Launch) (Z : State) (a0 : Array Value) (hw : ∀ d ∈ tables_1, d.before a0 Z = true) (h0 : Heap) (n0 : Nat) (Z0 : n0 ≤ h0.size) (bb : Addr) (kA : ClassId) (vs : List Value) (Ab : Arv Z h0 bb kA .byte (4 : Int32) vs (.int 0)) (hv : vs.length = 4) :
    Con none l (⟨"java/util/Arrays", "copyOfRangeByte", "([BII)[B"⟩ : MethodName) jdk_65_method_133_code 5 (some (.array .byte)) [] ({ frames := 1, cells := 1, slots := 3, locals := 40 } : Room) Z n0 h0 [] #[(.ref bb), (.int (0 : Int32)), (.int (3 : Int32))] (fun v h => ∃ (b : Addr) (kA : ClassId), v = some (.ref b) ∧ h0.size ≤ b ∧ Arv Z h b kA .byte (3 : Int32) (vs.take 3) (.int 0)) := by
  refine Con.intro pn6 Z0 (fun _ q => nomatch q) trivial #[.val (.ref bb), .val (.int (0 : Int32)), .val (.int (3 : Int32)), .unset, .unset] (fun m => by first | (simp [entryFrame, mkF, argsToLocals, Value.category]; done) | rfl) ?_
  intro p e s m below meth c T0 hlk hret hnm K0
  have P0 := Keep.refl h0 []
  refine gIloadN K0 b22_0 (v := (0 : Int32)) rfl ?_
  refine gIloadN K0 b22_1 (v := (3 : Int32)) rfl ?_
  refine gCallS K0 (W := 0) [(.int (0 : Int32)), (.int (3 : Int32))] [] b22_2 (wd hw 105 rfl) (wd hw 106 rfl) (wd hw 100 rfl) (wd hw 107 rfl) (Cal.ofN (W := 0) (c_ckl l Z a0 hw h0 n0 K0.n0le 3 (by decide)) (wd hw 107 rfl) (wd hw 100 rfl) (by decide) (by decide)) (fun _ q => nomatch q) pd10 rfl rfl (Nat.le_of_eq rfl) rfl (by decide) (by decide) (by decide) (fun v101 T101 h101 K101 Q101 q101 => ?_)
  have E101 := Ext.of0 Q101
  have P102 := P0.ext E101
  cases q101
  refine gIloadN K101 b22_5 (v := (3 : Int32)) rfl ?_
  refine gIloadN K101 b22_6 (v := (0 : Int32)) rfl ?_
  refine gIsubV K101 (3 : Int32) b22_7 (by decide) ?_
  refine gIstoreN K101 b22_8 (Ls' := #[.val (.ref bb), .val (.int (0 : Int32)), .val (.int (3 : Int32)), .val (.int (3 : Int32)), .unset]) rfl ?_
  refine gIloadN K101 b22_9 (v := (3 : Int32)) rfl ?_
  refine gNewarr K101 b22_10 (wd hw 20 rfl) (by decide) 3 (by decide) (by decide) (by decide) (by decide) (fun T103 h103 x103 kA103 K103 E103 g103 A103 ne103 => ?_)
  have P104 := P102.ext E103
  have ge_x103 : h0.size ≤ x103 := by rw [g103]; exact P102.1
  refine gAstore K103 b22_12 rfl (Ls' := #[.val (.ref bb), .val (.int (0 : Int32)), .val (.int (3 : Int32)), .val (.int (3 : Int32)), .val (.ref x103)]) rfl ?_
  refine gAloadN K103 b22_14 (v := (.ref bb)) rfl rfl ?_
  refine gIloadN K103 b22_15 (v := (0 : Int32)) rfl ?_
  refine gAload K103 b22_16 (v := (.ref x103)) rfl rfl ?_
  refine gIconst K103 (0 : Int32) b22_18 rfl ?_
  refine gAloadN K103 b22_19 (v := (.ref bb)) rfl rfl ?_
  refine gLen K103 b22_20 (Ab.ext (Ext.tr E101 E103)) ?_
  refine gIloadN K103 b22_21 (v := (0 : Int32)) rfl ?_
  refine gIsubV K103 (4 : Int32) b22_22 (by decide) ?_
  refine gIloadN K103 b22_23 (v := (3 : Int32)) rfl ?_
  refine gCallS K103 (W := 4) [(.int (4 : Int32)), (.int (3 : Int32))] [(.int (0 : Int32)), (.ref x103), (.int (0 : Int32)), (.ref bb)] b22_24 (wd hw 108 rfl) (wd hw 109 rfl) (wd hw 110 rfl) (wd hw 111 rfl) (Cal.ofN (W := 4) (c_min l Z a0 hw h103 n0 K103.n0le 4 3 (by decide) (by decide)) (wd hw 111 rfl) (wd hw 110 rfl) (by decide) (by decide)) (fun _ q => nomatch q) pd21 rfl rfl (Nat.le_of_eq rfl) rfl (by decide) (by decide) (by decide) (fun v105 T105 h105 K105 Q105 q105 => ?_)
  have E105 := Ext.of0 Q105
  have P106 := P104.ext E105
  have q105' : v105 = some (.int (3 : Int32)) := q105
  cases q105'
  refine gCopy K105 b22_27 (wd hw 112 rfl) (wd hw 115 rfl) (wd hw 113 rfl) (wd hw 114 rfl) (me 0 rfl) (Ab.ext (Ext.tr (Ext.tr E101 E103) E105)) (Arv.pad (A103.ext E105) (pad_rep [] (.int 0) 3)) (by decide) (by decide) (by decide) (by decide) (by decide) (us := vs.take 3) (range_take (t := 3) (by omega)) (by decide) rfl (by decide) (W := 0) (Nat.le_of_eq rfl) (by decide) (fun T107 h107 K107 Q107 A107 => ?_)
  have P108 := P106.trans Q107 (fun z q => by cases List.mem_singleton.mp q; exact Or.inr ge_x103)
  have B107 : Arv Z h107 x103 kA103 .byte (3 : Int32) (vs.take 3) (.int 0) := by rw [show vs.take 3 = [] ++ vs.take 3 ++ [] from (List.append_nil _).symm]; exact A107
  refine gAload K107 b22_30 (v := (.ref x103)) rfl rfl ?_
  refine gRetA K107 hlk hret rfl rfl b22_32 P108 (by decide) (by decide) ?_
  exact ⟨_, _, rfl, ge_x103, B107⟩
set_option maxRecDepth 65536 in
set_option maxHeartbeats 40000000 in
theorem c_cor4_3 (l : Launch) (Z : State) (a0 : Array Value) (hw : ∀ d ∈ tables_1, d.before a0 Z = true) (h0 : Heap) (n0 : Nat) (Z0 : n0 ≤ h0.size) (bb : Addr) (kA : ClassId) (vs : List Value) (Ab : Arv Z h0 bb kA .byte (4 : Int32) vs (.int 0)) (hv : vs.length = 4) :
    Con none l (⟨"java/util/Arrays", "copyOfRange", "([BII)[B"⟩ : MethodName) jdk_65_method_132_code 3 (some (.array .byte)) [] ({ frames := 2, cells := 1, slots := 3, locals := 56 } : Room) Z n0 h0 [] #[(.ref bb), (.int (0 : Int32)), (.int (3 : Int32))] (fun v h => ∃ (b : Addr) (kA : ClassId), v = some (.ref b) ∧ h0.size ≤ b ∧ Arv Z h b kA .byte (3 : Int32) (vs.take 3) (.int 0)) := by
  refine Con.intro pn6 Z0 (fun _ q => nomatch q) trivial #[.val (.ref bb), .val (.int (0 : Int32)), .val (.int (3 : Int32))] (fun m => by first | (simp [entryFrame, mkF, argsToLocals, Value.category]; done) | rfl) ?_
  intro p e s m below meth c T0 hlk hret hnm K0
  have P0 := Keep.refl h0 []
  refine gIloadN K0 b21_0 (v := (0 : Int32)) rfl ?_
  refine gIf_ne K0 b21_1 (fun q => absurd q (by first | decide | (intro hh; cases hh) | simp)) (fun q1 => ?_)
  refine gIloadN K0 b21_4 (v := (3 : Int32)) rfl ?_
  refine gAloadN K0 b21_5 (v := (.ref bb)) rfl rfl ?_
  refine gLen K0 b21_6 Ab ?_
  refine gIcmp_eq K0 b21_7 (fun q => absurd q (by first | decide | (intro hh; cases hh) | simp)) (fun q7 => ?_)
  refine gAloadN K0 b21_10 (v := (.ref bb)) rfl rfl ?_
  refine gIloadN K0 b21_11 (v := (0 : Int32)) rfl ?_
  refine gIloadN K0 b21_12 (v := (3 : Int32)) rfl ?_
  refine gCallS K0 (W := 0) [(.ref bb), (.int (0 : Int32)), (.int (3 : Int32))] [] b21_13 (wd hw 102 rfl) (wd hw 103 rfl) (wd hw 100 rfl) (wd hw 104 rfl) (Cal.ofN (W := 0) (c_corB4_3 l Z a0 hw h0 n0 K0.n0le bb kA vs Ab hv) (wd hw 104 rfl) (wd hw 100 rfl) (by decide) (by decide)) (fun _ q => nomatch q) pd22 rfl rfl (Nat.le_of_eq rfl) rfl (by decide) (by decide) (by decide) (fun v101 T101 h101 K101 Q101 q101 => ?_)
  have E101 := Ext.of0 Q101
  have P102 := P0.ext E101
  obtain ⟨b2, k2, rfl, g2, A2⟩ := q101
  refine gRetA K101 hlk hret rfl rfl b21_16 P102 (by decide) (by decide) ?_
  exact ⟨_, _, rfl, g2, A2⟩
set_option maxRecDepth 65536 in
set_option maxHeartbeats 40000000 in
theorem c_corB8_6 (l : Launch) (Z : State) (a0 : Array Value) (hw : ∀ d ∈ tables_1, d.before a0 Z = true) (h0 : Heap) (n0 : Nat) (Z0 : n0 ≤ h0.size) (bb : Addr) (kA : ClassId) (vs : List Value) (Ab : Arv Z h0 bb kA .byte (8 : Int32) vs (.int 0)) (hv : vs.length = 8) :
    Con none l (⟨"java/util/Arrays", "copyOfRangeByte", "([BII)[B"⟩ : MethodName) jdk_65_method_133_code 5 (some (.array .byte)) [] ({ frames := 1, cells := 1, slots := 6, locals := 40 } : Room) Z n0 h0 [] #[(.ref bb), (.int (0 : Int32)), (.int (6 : Int32))] (fun v h => ∃ (b : Addr) (kA : ClassId), v = some (.ref b) ∧ h0.size ≤ b ∧ Arv Z h b kA .byte (6 : Int32) (vs.take 6) (.int 0)) := by
  refine Con.intro pn6 Z0 (fun _ q => nomatch q) trivial #[.val (.ref bb), .val (.int (0 : Int32)), .val (.int (6 : Int32)), .unset, .unset] (fun m => by first | (simp [entryFrame, mkF, argsToLocals, Value.category]; done) | rfl) ?_
  intro p e s m below meth c T0 hlk hret hnm K0
  have P0 := Keep.refl h0 []
  refine gIloadN K0 b22_0 (v := (0 : Int32)) rfl ?_
  refine gIloadN K0 b22_1 (v := (6 : Int32)) rfl ?_
  refine gCallS K0 (W := 0) [(.int (0 : Int32)), (.int (6 : Int32))] [] b22_2 (wd hw 105 rfl) (wd hw 106 rfl) (wd hw 100 rfl) (wd hw 107 rfl) (Cal.ofN (W := 0) (c_ckl l Z a0 hw h0 n0 K0.n0le 6 (by decide)) (wd hw 107 rfl) (wd hw 100 rfl) (by decide) (by decide)) (fun _ q => nomatch q) pd10 rfl rfl (Nat.le_of_eq rfl) rfl (by decide) (by decide) (by decide) (fun v101 T101 h101 K101 Q101 q101 => ?_)
  have E101 := Ext.of0 Q101
  have P102 := P0.ext E101
  cases q101
  refine gIloadN K101 b22_5 (v := (6 : Int32)) rfl ?_
  refine gIloadN K101 b22_6 (v := (0 : Int32)) rfl ?_
  refine gIsubV K101 (6 : Int32) b22_7 (by decide) ?_
  refine gIstoreN K101 b22_8 (Ls' := #[.val (.ref bb), .val (.int (0 : Int32)), .val (.int (6 : Int32)), .val (.int (6 : Int32)), .unset]) rfl ?_
  refine gIloadN K101 b22_9 (v := (6 : Int32)) rfl ?_
  refine gNewarr K101 b22_10 (wd hw 20 rfl) (by decide) 6 (by decide) (by decide) (by decide) (by decide) (fun T103 h103 x103 kA103 K103 E103 g103 A103 ne103 => ?_)
  have P104 := P102.ext E103
  have ge_x103 : h0.size ≤ x103 := by rw [g103]; exact P102.1
  refine gAstore K103 b22_12 rfl (Ls' := #[.val (.ref bb), .val (.int (0 : Int32)), .val (.int (6 : Int32)), .val (.int (6 : Int32)), .val (.ref x103)]) rfl ?_
  refine gAloadN K103 b22_14 (v := (.ref bb)) rfl rfl ?_
  refine gIloadN K103 b22_15 (v := (0 : Int32)) rfl ?_
  refine gAload K103 b22_16 (v := (.ref x103)) rfl rfl ?_
  refine gIconst K103 (0 : Int32) b22_18 rfl ?_
  refine gAloadN K103 b22_19 (v := (.ref bb)) rfl rfl ?_
  refine gLen K103 b22_20 (Ab.ext (Ext.tr E101 E103)) ?_
  refine gIloadN K103 b22_21 (v := (0 : Int32)) rfl ?_
  refine gIsubV K103 (8 : Int32) b22_22 (by decide) ?_
  refine gIloadN K103 b22_23 (v := (6 : Int32)) rfl ?_
  refine gCallS K103 (W := 4) [(.int (8 : Int32)), (.int (6 : Int32))] [(.int (0 : Int32)), (.ref x103), (.int (0 : Int32)), (.ref bb)] b22_24 (wd hw 108 rfl) (wd hw 109 rfl) (wd hw 110 rfl) (wd hw 111 rfl) (Cal.ofN (W := 4) (c_min l Z a0 hw h103 n0 K103.n0le 8 6 (by decide) (by decide)) (wd hw 111 rfl) (wd hw 110 rfl) (by decide) (by decide)) (fun _ q => nomatch q) pd21 rfl rfl (Nat.le_of_eq rfl) rfl (by decide) (by decide) (by decide) (fun v105 T105 h105 K105 Q105 q105 => ?_)
  have E105 := Ext.of0 Q105
  have P106 := P104.ext E105
  have q105' : v105 = some (.int (6 : Int32)) := q105
  cases q105'
  refine gCopy K105 b22_27 (wd hw 112 rfl) (wd hw 115 rfl) (wd hw 113 rfl) (wd hw 114 rfl) (me 0 rfl) (Ab.ext (Ext.tr (Ext.tr E101 E103) E105)) (Arv.pad (A103.ext E105) (pad_rep [] (.int 0) 6)) (by decide) (by decide) (by decide) (by decide) (by decide) (us := vs.take 6) (range_take (t := 6) (by omega)) (by decide) rfl (by decide) (W := 0) (Nat.le_of_eq rfl) (by decide) (fun T107 h107 K107 Q107 A107 => ?_)
  have P108 := P106.trans Q107 (fun z q => by cases List.mem_singleton.mp q; exact Or.inr ge_x103)
  have B107 : Arv Z h107 x103 kA103 .byte (6 : Int32) (vs.take 6) (.int 0) := by rw [show vs.take 6 = [] ++ vs.take 6 ++ [] from (List.append_nil _).symm]; exact A107
  refine gAload K107 b22_30 (v := (.ref x103)) rfl rfl ?_
  refine gRetA K107 hlk hret rfl rfl b22_32 P108 (by decide) (by decide) ?_
  exact ⟨_, _, rfl, ge_x103, B107⟩
set_option maxRecDepth 65536 in
set_option maxHeartbeats 40000000 in
theorem c_cor8_6 (l : Launch) (Z : State) (a0 : Array Value) (hw : ∀ d ∈ tables_1, d.before a0 Z = true) (h0 : Heap) (n0 : Nat) (Z0 : n0 ≤ h0.size) (bb : Addr) (kA : ClassId) (vs : List Value) (Ab : Arv Z h0 bb kA .byte (8 : Int32) vs (.int 0)) (hv : vs.length = 8) :
    Con none l (⟨"java/util/Arrays", "copyOfRange", "([BII)[B"⟩ : MethodName) jdk_65_method_132_code 3 (some (.array .byte)) [] ({ frames := 2, cells := 1, slots := 6, locals := 56 } : Room) Z n0 h0 [] #[(.ref bb), (.int (0 : Int32)), (.int (6 : Int32))] (fun v h => ∃ (b : Addr) (kA : ClassId), v = some (.ref b) ∧ h0.size ≤ b ∧ Arv Z h b kA .byte (6 : Int32) (vs.take 6) (.int 0)) := by
  refine Con.intro pn6 Z0 (fun _ q => nomatch q) trivial #[.val (.ref bb), .val (.int (0 : Int32)), .val (.int (6 : Int32))] (fun m => by first | (simp [entryFrame, mkF, argsToLocals, Value.category]; done) | rfl) ?_
  intro p e s m below meth c T0 hlk hret hnm K0
  have P0 := Keep.refl h0 []
  refine gIloadN K0 b21_0 (v := (0 : Int32)) rfl ?_
  refine gIf_ne K0 b21_1 (fun q => absurd q (by first | decide | (intro hh; cases hh) | simp)) (fun q1 => ?_)
  refine gIloadN K0 b21_4 (v := (6 : Int32)) rfl ?_
  refine gAloadN K0 b21_5 (v := (.ref bb)) rfl rfl ?_
  refine gLen K0 b21_6 Ab ?_
  refine gIcmp_eq K0 b21_7 (fun q => absurd q (by first | decide | (intro hh; cases hh) | simp)) (fun q7 => ?_)
  refine gAloadN K0 b21_10 (v := (.ref bb)) rfl rfl ?_
  refine gIloadN K0 b21_11 (v := (0 : Int32)) rfl ?_
  refine gIloadN K0 b21_12 (v := (6 : Int32)) rfl ?_
  refine gCallS K0 (W := 0) [(.ref bb), (.int (0 : Int32)), (.int (6 : Int32))] [] b21_13 (wd hw 102 rfl) (wd hw 103 rfl) (wd hw 100 rfl) (wd hw 104 rfl) (Cal.ofN (W := 0) (c_corB8_6 l Z a0 hw h0 n0 K0.n0le bb kA vs Ab hv) (wd hw 104 rfl) (wd hw 100 rfl) (by decide) (by decide)) (fun _ q => nomatch q) pd22 rfl rfl (Nat.le_of_eq rfl) rfl (by decide) (by decide) (by decide) (fun v101 T101 h101 K101 Q101 q101 => ?_)
  have E101 := Ext.of0 Q101
  have P102 := P0.ext E101
  obtain ⟨b2, k2, rfl, g2, A2⟩ := q101
  refine gRetA K101 hlk hret rfl rfl b21_16 P102 (by decide) (by decide) ?_
  exact ⟨_, _, rfl, g2, A2⟩
set_option maxRecDepth 65536 in
set_option maxHeartbeats 40000000 in
theorem c_cb5_4_3 (l : Launch) (Z : State) (a0 : Array Value) (hw : ∀ d ∈ tables_1, d.before a0 Z = true) (h0 : Heap) (n0 : Nat) (Z0 : n0 ≤ h0.size) (c0 c1 c2 c3 : Int32) (bb : Addr) (kA : ClassId) (Ab : Arv Z h0 bb kA .byte (Int32.ofNat (2 * 4)) (StrChars.Road.wideBytes [c0, c1, c2, c3]) (.int 0)) (hp : ∀ c ∈ [c0, c1, c2, c3], ¬ c < 0 ∧ ¬ (65535 : Int32) < c) (u : US Z h0) (fm : Value) (Sf : Sta Z h0 "jdk/internal/util/Preconditions" "SIOOBE_FORMATTER" "Ljava/util/function/BiFunction;" fm) (rf : fm.isRef = true) (dd : Addr) (kD : ClassId) (gd : n0 ≤ dd) (Ad : Arv Z h0 dd kD .byte (3 : Int32) [] (.int 0)) (hbd : bb ≠ dd) (hu : ∃ c ∈ [c0, c1, c2], (255 : Int32) < c) :
    Con none l (⟨"java/lang/StringUTF16", "compress", "([BI[BII)I"⟩ : MethodName) jdk_52_method_22_code 7 (some .int) [] ({ frames := 3, cells := 0, slots := 0, locals := 46 } : Room) Z n0 h0 [dd] #[(.ref bb), (.int (0 : Int32)), (.ref dd), (.int (0 : Int32)), (.int (3 : Int32))] (fun v h => ∃ j : Nat, v = some (.int (Int32.ofNat j)) ∧ j < 3 ∧ (255 : Int32) < [c0, c1, c2].getD j 0) := by
  refine Con.intro pn1 Z0 (allS ⟨gd, Ad.lt⟩ all0) trivial #[.val (.ref bb), .val (.int (0 : Int32)), .val (.ref dd), .val (.int (0 : Int32)), .val (.int (3 : Int32)), .unset, .unset] (fun m => by first | (simp [entryFrame, mkF, argsToLocals, Value.category]; done) | rfl) ?_
  intro p e s m below meth c T0 hlk hret hnm K0
  have P0 := Keep.refl h0 [dd]
  refine gIloadN K0 b36_0 (v := (0 : Int32)) rfl ?_
  refine gIload K0 b36_1 (v := (3 : Int32)) rfl ?_
  refine gAloadN K0 b36_3 (v := (.ref bb)) rfl rfl ?_
  refine gCallS K0 (W := 0) [(.int (0 : Int32)), (.int (3 : Int32)), (.ref bb)] [] b36_4 (wd hw 159 rfl) (wd hw 160 rfl) (wd hw 62 rfl) (wd hw 161 rfl) (Cal.ofN (W := 0) (c_ubo l Z a0 hw h0 n0 K0.n0le 4 3 (by decide) (by decide) bb kA _ _ Ab fm Sf rf) (wd hw 161 rfl) (wd hw 62 rfl) (by decide) (by decide)) (fun _ q => nomatch q) pd23 rfl rfl (Nat.le_of_eq rfl) rfl (by decide) (by decide) (by decide) (fun v101 T101 h101 K101 Q101 q101 => ?_)
  have E101 := Ext.of0 Q101
  have P102 := P0.ext E101
  cases q101
  refine gIconst K101 (0 : Int32) b36_7 rfl ?_
  refine gIstore K101 b36_8 (Ls' := #[.val (.ref bb), .val (.int (0 : Int32)), .val (.ref dd), .val (.int (0 : Int32)), .val (.int (3 : Int32)), .val (.int (0 : Int32)), .unset]) rfl ?_
  refine gIload K101 b36_10 (v := (0 : Int32)) rfl ?_
  refine gIload K101 b36_12 (v := (3 : Int32)) rfl ?_
  refine gIcmp_ge K101 b36_14 (fun q => absurd q (by first | decide | (intro hh; cases hh) | simp)) (fun q14 => ?_)
  refine gAloadN K101 b36_17 (v := (.ref bb)) rfl rfl ?_
  refine gIloadN K101 b36_18 (v := (0 : Int32)) rfl ?_
  refine gCallS K101 (W := 0) [(.ref bb), (.int (0 : Int32))] [] b36_19 (wd hw 136 rfl) (wd hw 137 rfl) (wd hw 62 rfl) (wd hw 138 rfl) (Cal.ofN (W := 0) (c_getChar l Z a0 hw h101 n0 K101.n0le bb kA [c0, c1, c2, c3] 0 (Ab.ext E101) hp (Nat.le_of_ble_eq_true rfl) (Nat.le_of_ble_eq_true rfl) (u.ext E101)) (wd hw 138 rfl) (wd hw 62 rfl) (by decide) (by decide)) (fun _ q => nomatch q) pd6 rfl rfl (Nat.le_of_eq rfl) rfl (by decide) (by decide) (by decide) (fun v103 T103 h103 K103 Q103 q103 => ?_)
  have E103 := Ext.of0 Q103
  have P104 := P102.ext E103
  have q103' : v103 = some (.int c0) := q103
  cases q103'
  refine gIstore K103 b36_22 (Ls' := #[.val (.ref bb), .val (.int (0 : Int32)), .val (.ref dd), .val (.int (0 : Int32)), .val (.int (3 : Int32)), .val (.int (0 : Int32)), .val (.int c0)]) rfl ?_
  refine gIload K103 b36_24 (v := c0) rfl ?_
  refine gSipush K103 (255 : Int32) b36_26 rfl ?_
  refine gIcmp_le K103 b36_29 (fun hl_c0 => ?_) (fun hl_c0 => ?_)
  · skip
    refine gAloadN K103 b36_35 (v := (.ref dd)) rfl rfl ?_
    refine gIloadN K103 b36_36 (v := (0 : Int32)) rfl ?_
    refine gIload K103 b36_37 (v := c0) rfl ?_
    refine gI2b K103 b36_39 ?_
    refine gBastore K103 b36_40 (me 0 rfl) (Ad.ext (Ext.tr E101 E103)) rfl (by decide) (fun T105 h105 K105 Q105 A105 => ?_)
    have u105 := US.kp (u.ext (Ext.tr E101 E103)) Q105 (nsS (Arv.nostat (Ad.ext (Ext.tr E101 E103))) ns0)
    have P106 := P104.trans Q105 (fun z q => by cases List.mem_singleton.mp q; exact Or.inl (me 0 rfl))
    refine gIinc K105 (1 : Int32) b36_41 rfl (x := (0 : Int32)) rfl (Ls' := #[.val (.ref bb), .val (.int (1 : Int32)), .val (.ref dd), .val (.int (0 : Int32)), .val (.int (3 : Int32)), .val (.int (0 : Int32)), .val (.int c0)]) rfl ?_
    refine gIinc K105 (1 : Int32) b36_44 rfl (x := (0 : Int32)) rfl (Ls' := #[.val (.ref bb), .val (.int (1 : Int32)), .val (.ref dd), .val (.int (1 : Int32)), .val (.int (3 : Int32)), .val (.int (0 : Int32)), .val (.int c0)]) rfl ?_
    refine gIinc K105 (1 : Int32) b36_47 rfl (x := (0 : Int32)) rfl (Ls' := #[.val (.ref bb), .val (.int (1 : Int32)), .val (.ref dd), .val (.int (1 : Int32)), .val (.int (3 : Int32)), .val (.int (1 : Int32)), .val (.int c0)]) rfl ?_
    refine gGoto K105 b36_50 ?_
    refine gIload K105 b36_10 (v := (1 : Int32)) rfl ?_
    refine gIload K105 b36_12 (v := (3 : Int32)) rfl ?_
    refine gIcmp_ge K105 b36_14 (fun q => absurd q (by first | decide | (intro hh; cases hh) | simp)) (fun q14 => ?_)
    refine gAloadN K105 b36_17 (v := (.ref bb)) rfl rfl ?_
    refine gIloadN K105 b36_18 (v := (1 : Int32)) rfl ?_
    refine gCallS K105 (W := 0) [(.ref bb), (.int (1 : Int32))] [] b36_19 (wd hw 136 rfl) (wd hw 137 rfl) (wd hw 62 rfl) (wd hw 138 rfl) (Cal.ofN (W := 0) (c_getChar l Z a0 hw h105 n0 K105.n0le bb kA [c0, c1, c2, c3] 1 ((Ab.ext (Ext.tr E101 E103)).keep Q105 (ninS hbd nin0)) hp (Nat.le_of_ble_eq_true rfl) (Nat.le_of_ble_eq_true rfl) u105) (wd hw 138 rfl) (wd hw 62 rfl) (by decide) (by decide)) (fun _ q => nomatch q) pd6 rfl rfl (Nat.le_of_eq rfl) rfl (by decide) (by decide) (by decide) (fun v107 T107 h107 K107 Q107 q107 => ?_)
    have E107 := Ext.of0 Q107
    have P108 := P106.ext E107
    have q107' : v107 = some (.int c1) := q107
    cases q107'
    refine gIstore K107 b36_22 (Ls' := #[.val (.ref bb), .val (.int (1 : Int32)), .val (.ref dd), .val (.int (1 : Int32)), .val (.int (3 : Int32)), .val (.int (1 : Int32)), .val (.int c1)]) rfl ?_
    refine gIload K107 b36_24 (v := c1) rfl ?_
    refine gSipush K107 (255 : Int32) b36_26 rfl ?_
    refine gIcmp_le K107 b36_29 (fun hl_c1 => ?_) (fun hl_c1 => ?_)
    · skip
      refine gAloadN K107 b36_35 (v := (.ref dd)) rfl rfl ?_
      refine gIloadN K107 b36_36 (v := (1 : Int32)) rfl ?_
      refine gIload K107 b36_37 (v := c1) rfl ?_
      refine gI2b K107 b36_39 ?_
      refine gBastore K107 b36_40 (me 0 rfl) (A105.ext E107) rfl (by decide) (fun T109 h109 K109 Q109 A109 => ?_)
      have u109 := US.kp (u105.ext E107) Q109 (nsS (Arv.nostat (A105.ext E107)) ns0)
      have P110 := P108.trans Q109 (fun z q => by cases List.mem_singleton.mp q; exact Or.inl (me 0 rfl))
      refine gIinc K109 (1 : Int32) b36_41 rfl (x := (1 : Int32)) rfl (Ls' := #[.val (.ref bb), .val (.int (2 : Int32)), .val (.ref dd), .val (.int (1 : Int32)), .val (.int (3 : Int32)), .val (.int (1 : Int32)), .val (.int c1)]) rfl ?_
      refine gIinc K109 (1 : Int32) b36_44 rfl (x := (1 : Int32)) rfl (Ls' := #[.val (.ref bb), .val (.int (2 : Int32)), .val (.ref dd), .val (.int (2 : Int32)), .val (.int (3 : Int32)), .val (.int (1 : Int32)), .val (.int c1)]) rfl ?_
      refine gIinc K109 (1 : Int32) b36_47 rfl (x := (1 : Int32)) rfl (Ls' := #[.val (.ref bb), .val (.int (2 : Int32)), .val (.ref dd), .val (.int (2 : Int32)), .val (.int (3 : Int32)), .val (.int (2 : Int32)), .val (.int c1)]) rfl ?_
      refine gGoto K109 b36_50 ?_
      refine gIload K109 b36_10 (v := (2 : Int32)) rfl ?_
      refine gIload K109 b36_12 (v := (3 : Int32)) rfl ?_
      refine gIcmp_ge K109 b36_14 (fun q => absurd q (by first | decide | (intro hh; cases hh) | simp)) (fun q14 => ?_)
      refine gAloadN K109 b36_17 (v := (.ref bb)) rfl rfl ?_
      refine gIloadN K109 b36_18 (v := (2 : Int32)) rfl ?_
      refine gCallS K109 (W := 0) [(.ref bb), (.int (2 : Int32))] [] b36_19 (wd hw 136 rfl) (wd hw 137 rfl) (wd hw 62 rfl) (wd hw 138 rfl) (Cal.ofN (W := 0) (c_getChar l Z a0 hw h109 n0 K109.n0le bb kA [c0, c1, c2, c3] 2 ((((Ab.ext (Ext.tr E101 E103)).keep Q105 (ninS hbd nin0)).ext E107).keep Q109 (ninS hbd nin0)) hp (Nat.le_of_ble_eq_true rfl) (Nat.le_of_ble_eq_true rfl) u109) (wd hw 138 rfl) (wd hw 62 rfl) (by decide) (by decide)) (fun _ q => nomatch q) pd6 rfl rfl (Nat.le_of_eq rfl) rfl (by decide) (by decide) (by decide) (fun v111 T111 h111 K111 Q111 q111 => ?_)
      have E111 := Ext.of0 Q111
      have P112 := P110.ext E111
      have q111' : v111 = some (.int c2) := q111
      cases q111'
      refine gIstore K111 b36_22 (Ls' := #[.val (.ref bb), .val (.int (2 : Int32)), .val (.ref dd), .val (.int (2 : Int32)), .val (.int (3 : Int32)), .val (.int (2 : Int32)), .val (.int c2)]) rfl ?_
      refine gIload K111 b36_24 (v := c2) rfl ?_
      refine gSipush K111 (255 : Int32) b36_26 rfl ?_
      refine gIcmp_le K111 b36_29 (fun hl_c2 => ?_) (fun hl_c2 => ?_)
      · skip
        refine gAloadN K111 b36_35 (v := (.ref dd)) rfl rfl ?_
        refine gIloadN K111 b36_36 (v := (2 : Int32)) rfl ?_
        refine gIload K111 b36_37 (v := c2) rfl ?_
        refine gI2b K111 b36_39 ?_
        refine gBastore K111 b36_40 (me 0 rfl) (A109.ext E111) rfl (by decide) (fun T113 h113 K113 Q113 A113 => ?_)
        have u113 := US.kp (u109.ext E111) Q113 (nsS (Arv.nostat (A109.ext E111)) ns0)
        have P114 := P112.trans Q113 (fun z q => by cases List.mem_singleton.mp q; exact Or.inl (me 0 rfl))
        refine gIinc K113 (1 : Int32) b36_41 rfl (x := (2 : Int32)) rfl (Ls' := #[.val (.ref bb), .val (.int (3 : Int32)), .val (.ref dd), .val (.int (2 : Int32)), .val (.int (3 : Int32)), .val (.int (2 : Int32)), .val (.int c2)]) rfl ?_
        refine gIinc K113 (1 : Int32) b36_44 rfl (x := (2 : Int32)) rfl (Ls' := #[.val (.ref bb), .val (.int (3 : Int32)), .val (.ref dd), .val (.int (3 : Int32)), .val (.int (3 : Int32)), .val (.int (2 : Int32)), .val (.int c2)]) rfl ?_
        refine gIinc K113 (1 : Int32) b36_47 rfl (x := (2 : Int32)) rfl (Ls' := #[.val (.ref bb), .val (.int (3 : Int32)), .val (.ref dd), .val (.int (3 : Int32)), .val (.int (3 : Int32)), .val (.int (3 : Int32)), .val (.int c2)]) rfl ?_
        refine gGoto K113 b36_50 ?_
        refine gIload K113 b36_10 (v := (3 : Int32)) rfl ?_
        refine gIload K113 b36_12 (v := (3 : Int32)) rfl ?_
        refine gIcmp_ge K113 b36_14 (fun q14 => ?_) (fun q => absurd q (by first | decide | (intro hh; cases hh) | simp))
        refine gIload K113 b36_53 (v := (3 : Int32)) rfl ?_
        exact absurd hu (noHi (allI hl_c0 (allI hl_c1 (allI hl_c2 allI0))))
      · skip
        refine gIload K111 b36_32 (v := (2 : Int32)) rfl ?_
        refine gRetI K111 hlk hret (by simp) b36_34 rfl P112 (by decide) (by decide) ?_
        exact ⟨2, rfl, by decide, hl_c2⟩
    · skip
      refine gIload K107 b36_32 (v := (1 : Int32)) rfl ?_
      refine gRetI K107 hlk hret (by simp) b36_34 rfl P108 (by decide) (by decide) ?_
      exact ⟨1, rfl, by decide, hl_c1⟩
  · skip
    refine gIload K103 b36_32 (v := (0 : Int32)) rfl ?_
    refine gRetI K103 hlk hret (by simp) b36_34 rfl P104 (by decide) (by decide) ?_
    exact ⟨0, rfl, by decide, hl_c0⟩
set_option maxRecDepth 65536 in
set_option maxHeartbeats 40000000 in
theorem c_cb3_4_3 (l : Launch) (Z : State) (a0 : Array Value) (hw : ∀ d ∈ tables_1, d.before a0 Z = true) (h0 : Heap) (n0 : Nat) (Z0 : n0 ≤ h0.size) (c0 c1 c2 c3 : Int32) (bb : Addr) (kA : ClassId) (Ab : Arv Z h0 bb kA .byte (Int32.ofNat (2 * 4)) (StrChars.Road.wideBytes [c0, c1, c2, c3]) (.int 0)) (hp : ∀ c ∈ [c0, c1, c2, c3], ¬ c < 0 ∧ ¬ (65535 : Int32) < c) (u : US Z h0) (fm : Value) (Sf : Sta Z h0 "jdk/internal/util/Preconditions" "SIOOBE_FORMATTER" "Ljava/util/function/BiFunction;" fm) (rf : fm.isRef = true) (hu : ∃ c ∈ [c0, c1, c2], (255 : Int32) < c) :
    Con none l (⟨"java/lang/StringUTF16", "compress", "([BII)[B"⟩ : MethodName) jdk_52_method_17_code 6 (some (.array .byte)) [] ({ frames := 4, cells := 2, slots := 9, locals := 74 } : Room) Z n0 h0 [] #[(.ref bb), (.int (0 : Int32)), (.int (3 : Int32))] (fun v h => ∃ (b : Addr) (kA : ClassId), v = some (.ref b) ∧ h0.size ≤ b ∧ Arv Z h b kA .byte (Int32.ofNat (2 * 3)) (StrChars.Road.wideBytes [c0, c1, c2]) (.int 0)) := by
  refine Con.intro pn1 Z0 (fun _ q => nomatch q) trivial #[.val (.ref bb), .val (.int (0 : Int32)), .val (.int (3 : Int32)), .unset, .unset, .unset] (fun m => by first | (simp [entryFrame, mkF, argsToLocals, Value.category]; done) | rfl) ?_
  intro p e s m below meth c T0 hlk hret hnm K0
  have P0 := Keep.refl h0 []
  refine gIloadN K0 b35_0 (v := (3 : Int32)) rfl ?_
  refine gNewarr K0 b35_1 (wd hw 20 rfl) (by decide) 3 (by decide) (by decide) (by decide) (by decide) (fun T101 h101 x101 kA101 K101 E101 g101 A101 ne101 => ?_)
  have P102 := P0.ext E101
  have ge_x101 : h0.size ≤ x101 := by rw [g101]; exact P0.1
  refine gAstoreN K101 b35_3 rfl (Ls' := #[.val (.ref bb), .val (.int (0 : Int32)), .val (.int (3 : Int32)), .val (.ref x101), .unset, .unset]) rfl ?_
  refine gAloadN K101 b35_4 (v := (.ref bb)) rfl rfl ?_
  refine gIloadN K101 b35_5 (v := (0 : Int32)) rfl ?_
  refine gAloadN K101 b35_6 (v := (.ref x101)) rfl rfl ?_
  refine gIconst K101 (0 : Int32) b35_7 rfl ?_
  refine gIloadN K101 b35_8 (v := (3 : Int32)) rfl ?_
  refine gCallS K101 (W := 0) [(.ref bb), (.int (0 : Int32)), (.ref x101), (.int (0 : Int32)), (.int (3 : Int32))] [] b35_9 (wd hw 156 rfl) (wd hw 157 rfl) (wd hw 62 rfl) (wd hw 158 rfl) (Cal.ofN (W := 0) (c_cb5_4_3 l Z a0 hw h101 n0 K101.n0le c0 c1 c2 c3 bb kA (Ab.ext E101) hp (u.ext E101) fm (Sf.ext E101) rf x101 _ (K101.wsge (me 0 rfl)) A101 (Nat.ne_of_lt (Nat.lt_of_lt_of_le Ab.lt ge_x101)) hu) (wd hw 158 rfl) (wd hw 62 rfl) (by decide) (by decide)) (fun z q => by cases List.mem_singleton.mp q; exact (me 0 rfl)) pd24 rfl rfl (Nat.le_of_eq rfl) rfl (by decide) (by decide) (by decide) (fun v103 T103 h103 K103 Q103 q103 => ?_)
  have P104 := P102.trans Q103 (fun z q => by cases List.mem_singleton.mp q; exact Or.inr ge_x101)
  obtain ⟨j, rfl, hj, hcj⟩ := q103
  refine gIstore K103 b35_12 (Ls' := #[.val (.ref bb), .val (.int (0 : Int32)), .val (.int (3 : Int32)), .val (.ref x101), .val (.int (Int32.ofNat j)), .unset]) rfl ?_
  refine gIload K103 b35_14 (v := (Int32.ofNat j)) rfl ?_
  refine gIloadN K103 b35_16 (v := (3 : Int32)) rfl ?_
  refine gIcmp_eq K103 b35_17 (fun q => absurd q (ofNat_ne hj (by decide))) (fun q17 => ?_)
  refine gAloadN K103 b35_20 (v := (.ref bb)) rfl rfl ?_
  refine gIloadN K103 b35_21 (v := (0 : Int32)) rfl ?_
  refine gIconst K103 (1 : Int32) b35_22 rfl ?_
  refine gIshlV K103 (0 : Int32) b35_23 (by decide) ?_
  refine gIloadN K103 b35_24 (v := (0 : Int32)) rfl ?_
  refine gIloadN K103 b35_25 (v := (3 : Int32)) rfl ?_
  refine gIaddV K103 (3 : Int32) b35_26 (by decide) ?_
  refine gCallS K103 (W := 2) [(.int (3 : Int32))] [(.int (0 : Int32)), (.ref bb)] b35_27 (wd hw 126 rfl) (wd hw 127 rfl) (wd hw 62 rfl) (wd hw 128 rfl) (Cal.ofN (W := 2) (c_nbl3 l Z a0 hw h103 n0 K103.n0le) (wd hw 128 rfl) (wd hw 62 rfl) (by decide) (by decide)) (fun _ q => nomatch q) pd1 rfl rfl (Nat.le_of_eq rfl) rfl (by decide) (by decide) (by decide) (fun v105 T105 h105 K105 Q105 q105 => ?_)
  have E105 := Ext.of0 Q105
  have P106 := P104.ext E105
  cases q105
  refine gCallS K105 (W := 0) [(.ref bb), (.int (0 : Int32)), (.int (6 : Int32))] [] b35_30 (wd hw 168 rfl) (wd hw 99 rfl) (wd hw 100 rfl) (wd hw 101 rfl) (Cal.ofN (W := 0) (c_cor8_6 l Z a0 hw h105 n0 K105.n0le bb kA _ (Ab.ext (Ext.tr (Ext.kp1 E101 Q103 (Nat.le_of_eq g101.symm)) E105)) rfl) (wd hw 101 rfl) (wd hw 100 rfl) (by decide) (by decide)) (fun _ q => nomatch q) pd22 rfl rfl (Nat.le_of_eq rfl) rfl (by decide) (by decide) (by decide) (fun v107 T107 h107 K107 Q107 q107 => ?_)
  have E107 := Ext.of0 Q107
  have P108 := P106.ext E107
  obtain ⟨b2, k2, rfl, g2, A2⟩ := q107
  have A2' : Arv Z h107 b2 k2 .byte (Int32.ofNat (2 * [c0, c1, c2].length)) (StrChars.Road.wideBytes [c0, c1, c2]) (.int 0) := A2
  have gb0 : h0.size ≤ b2 := Nat.le_trans P106.1 g2
  refine gAstore K107 b35_33 rfl (Ls' := #[.val (.ref bb), .val (.int (0 : Int32)), .val (.int (3 : Int32)), .val (.ref x101), .val (.int (Int32.ofNat j)), .val (.ref b2)]) rfl ?_
  refine gAload K107 b35_35 (v := (.ref b2)) rfl rfl ?_
  refine gIload K107 b35_37 (v := (Int32.ofNat j)) rfl ?_
  refine gCallS K107 (W := 0) [(.ref b2), (.int (Int32.ofNat j))] [] b35_39 (wd hw 136 rfl) (wd hw 137 rfl) (wd hw 62 rfl) (wd hw 138 rfl) (Cal.ofN (W := 0) (c_getChar l Z a0 hw h107 n0 K107.n0le b2 k2 [c0, c1, c2] j A2' (fun c hc => hp c (List.mem_append_left [c3] hc)) hj (Nat.le_of_ble_eq_true rfl) (u.ext (Ext.tr (Ext.tr (Ext.kp1 E101 Q103 (Nat.le_of_eq g101.symm)) E105) E107))) (wd hw 138 rfl) (wd hw 62 rfl) (by decide) (by decide)) (fun _ q => nomatch q) pd6 rfl rfl (Nat.le_of_eq rfl) rfl (by decide) (by decide) (by decide) (fun v109 T109 h109 K109 Q109 q109 => ?_)
  have E109 := Ext.of0 Q109
  have P110 := P108.ext E109
  cases q109
  refine gSipush K109 (255 : Int32) b35_42 rfl ?_
  refine gIcmp_gt K109 b35_45 (fun q45 => ?_) (fun q => absurd q (not_not_intro hcj))
  refine gAload K109 b35_61 (v := (.ref b2)) rfl rfl ?_
  refine gRetA K109 hlk hret rfl rfl b35_63 P110 (by decide) (by decide) ?_
  exact ⟨b2, k2, rfl, gb0, (A2'.ext E109)⟩
set_option maxRecDepth 65536 in
set_option maxHeartbeats 40000000 in
theorem c_nsU4_3 (l : Launch) (Z : State) (a0 : Array Value) (hw : ∀ d ∈ tables_1, d.before a0 Z = true) (h0 : Heap) (n0 : Nat) (Z0 : n0 ≤ h0.size) (c0 c1 c2 c3 : Int32) (bb : Addr) (kA : ClassId) (Ab : Arv Z h0 bb kA .byte (Int32.ofNat (2 * 4)) (StrChars.Road.wideBytes [c0, c1, c2, c3]) (.int 0)) (hp : ∀ c ∈ [c0, c1, c2, c3], ¬ c < 0 ∧ ¬ (65535 : Int32) < c) (u : US Z h0) (fm : Value) (Sf : Sta Z h0 "jdk/internal/util/Preconditions" "SIOOBE_FORMATTER" "Ljava/util/function/BiFunction;" fm) (rf : fm.isRef = true) (hu : ∃ c ∈ [c0, c1, c2], (255 : Int32) < c) (z : Int32) (Sc : Sta Z h0 "java/lang/String" "COMPACT_STRINGS" "Z" (.int z)) (hz : ¬ z = 0) :
    Con none l (⟨"java/lang/StringUTF16", "newString", "([BII)Ljava/lang/String;"⟩ : MethodName) jdk_52_method_69_code 5 (some (.object "java/lang/String")) [] ({ frames := 5, cells := 3, slots := 13, locals := 94 } : Room) Z n0 h0 [] #[(.ref bb), (.int (0 : Int32)), (.int (3 : Int32))] (fun v h => ∃ x : Addr, v = some (.ref x) ∧ StrU Z h x [c0, c1, c2]) := by
  refine Con.intro pn1 Z0 (fun _ q => nomatch q) trivial #[.val (.ref bb), .val (.int (0 : Int32)), .val (.int (3 : Int32)), .unset, .unset] (fun m => by first | (simp [entryFrame, mkF, argsToLocals, Value.category]; done) | rfl) ?_
  intro p e s m below meth c T0 hlk hret hnm K0
  have P0 := Keep.refl h0 []
  refine gIloadN K0 b34_0 (v := (3 : Int32)) rfl ?_
  refine gIf_ne K0 b34_1 (fun q1 => ?_) (fun q => absurd q (by first | decide | (intro hh; cases hh) | simp))
  refine gGetS K0 b34_8 (wd hw 152 rfl) Sc (fun T101 K101 => ?_)
  refine gIf_eq K101 b34_11 (fun q => absurd q hz) (fun q11 => ?_)
  refine gAloadN K101 b34_14 (v := (.ref bb)) rfl rfl ?_
  refine gIloadN K101 b34_15 (v := (0 : Int32)) rfl ?_
  refine gIloadN K101 b34_16 (v := (3 : Int32)) rfl ?_
  refine gCallS K101 (W := 0) [(.ref bb), (.int (0 : Int32)), (.int (3 : Int32))] [] b34_17 (wd hw 153 rfl) (wd hw 154 rfl) (wd hw 62 rfl) (wd hw 155 rfl) (Cal.ofN (W := 0) (c_cb3_4_3 l Z a0 hw h0 n0 K101.n0le c0 c1 c2 c3 bb kA Ab hp u fm Sf rf hu) (wd hw 155 rfl) (wd hw 62 rfl) (by decide) (by decide)) (fun _ q => nomatch q) pd22 rfl rfl (Nat.le_of_eq rfl) rfl (by decide) (by decide) (by decide) (fun v102 T102 h102 K102 Q102 q102 => ?_)
  have E102 := Ext.of0 Q102
  have P103 := P0.ext E102
  obtain ⟨b2, k2, rfl, g2, A2⟩ := q102
  refine gAstoreN K102 b34_20 rfl (Ls' := #[.val (.ref bb), .val (.int (0 : Int32)), .val (.int (3 : Int32)), .val (.ref b2), .unset]) rfl ?_
  refine gAloadN K102 b34_21 (v := (.ref b2)) rfl rfl ?_
  refine gIloadN K102 b34_22 (v := (3 : Int32)) rfl ?_
  refine gCallS K102 (W := 0) [(.ref b2), (.int (3 : Int32))] [] b34_23 (wd hw 169 rfl) (wd hw 68 rfl) (wd hw 62 rfl) (wd hw 69 rfl) (Cal.ofN (W := 0) (c_cfa3 l Z a0 hw h102 n0 K102.n0le b2 k2 _ _ A2) (wd hw 69 rfl) (wd hw 62 rfl) (by decide) (by decide)) (fun _ q => nomatch q) pd7 rfl rfl (Nat.le_of_eq rfl) rfl (by decide) (by decide) (by decide) (fun v104 T104 h104 K104 Q104 q104 => ?_)
  have E104 := Ext.of0 Q104
  have P105 := P103.ext E104
  cases q104
  refine gIstore K104 b34_26 (Ls' := #[.val (.ref bb), .val (.int (0 : Int32)), .val (.int (3 : Int32)), .val (.ref b2), .val (.int (1 : Int32))]) rfl ?_
  refine gNew K104 b34_28 (wd hw 170 rfl) (wd hw 6 rfl) (wd hw 7 rfl) (by decide) (by decide) (fun T106 h106 x106 K106 E106 g106 A106 D106 ne106 => ?_)
  have P107 := P105.ext E106
  have ge_x106 : h0.size ≤ x106 := by rw [g106]; exact P105.1
  have F108 : Fld Z h106 x106 "java/lang/String" "value" "[B" .null := (D106 (Or.inr (wd hw 21 rfl)) (ty := (.array .byte)) (by decide))
  have F109 : Fld Z h106 x106 "java/lang/String" "coder" "B" (.int (0 : Int32)) := (D106 (Or.inr (wd hw 22 rfl)) (ty := .byte) (by decide))
  refine gDup K106 b34_31 rfl ?_
  refine gAloadN K106 b34_32 (v := (.ref b2)) rfl rfl ?_
  refine gIload K106 b34_33 (v := (1 : Int32)) rfl ?_
  refine gCallI K106 (W := 1) x106 [(.ref b2), (.int (1 : Int32))] [(.ref x106)] b34_35 rfl (wd hw 171 rfl) (wd hw 117 rfl) (wd hw 118 rfl) (Cal.ofN (W := 1) (c_initBB l Z a0 hw h106 n0 K106.n0le x106 b2 (1 : Int32) _ _ (by decide) (K106.wsge (me 0 rfl)) A106 F108 F109) (wd hw 118 rfl) (wd hw 7 rfl) (by decide) (by decide)) (fun z q => by cases List.mem_singleton.mp q; exact (me 0 rfl)) pd25 rfl rfl (Nat.le_of_eq rfl) rfl (by decide) (by decide) (by decide) (fun v110 T110 h110 K110 Q110 q110 => ?_)
  have P111 := P107.trans Q110 (fun z q => by cases List.mem_singleton.mp q; exact Or.inr ge_x106)
  obtain ⟨rfl, Ex110, Fv110, Fc110⟩ := q110
  refine gRetA K110 hlk hret rfl rfl b34_38 P111 (by decide) (by decide) ?_
  exact ⟨_, rfl, b2, k2, Ex110, Fc110, Fv110, (A2.ext (Ext.kp1 (Ext.tr E104 E106) Q110 (Nat.le_trans E104.1 (Nat.le_of_eq g106.symm)))), (fun c hc => hp c (List.mem_append_left [c3] hc)), hu, Nat.le_of_ble_eq_true rfl⟩
set_option maxRecDepth 65536 in
set_option maxHeartbeats 40000000 in
theorem c_nsL4_3 (l : Launch) (Z : State) (a0 : Array Value) (hw : ∀ d ∈ tables_1, d.before a0 Z = true) (h0 : Heap) (n0 : Nat) (Z0 : n0 ≤ h0.size) (c0 c1 c2 c3 : Int32) (bb : Addr) (kA : ClassId) (Ab : Arv Z h0 bb kA .byte (4 : Int32) (([c0, c1, c2, c3].map StrChars.lo8).map Value.int) (.int 0)) (hp : ∀ c ∈ [c0, c1, c2], ¬ c < 0 ∧ ¬ (255 : Int32) < c) :
    Con none l (⟨"java/lang/StringLatin1", "newString", "([BII)Ljava/lang/String;"⟩ : MethodName) jdk_43_method_47_code 3 (some (.object "java/lang/String")) [] ({ frames := 3, cells := 2, slots := 7, locals := 75 } : Room) Z n0 h0 [] #[(.ref bb), (.int (0 : Int32)), (.int (3 : Int32))] (fun v h => ∃ x : Addr, v = some (.ref x) ∧ StrL Z h x [c0, c1, c2]) := by
  refine Con.intro pn5 Z0 (fun _ q => nomatch q) trivial #[.val (.ref bb), .val (.int (0 : Int32)), .val (.int (3 : Int32))] (fun m => by first | (simp [entryFrame, mkF, argsToLocals, Value.category]; done) | rfl) ?_
  intro p e s m below meth c T0 hlk hret hnm K0
  have P0 := Keep.refl h0 []
  refine gIloadN K0 b20_0 (v := (3 : Int32)) rfl ?_
  refine gIf_ne K0 b20_1 (fun q1 => ?_) (fun q => absurd q (by first | decide | (intro hh; cases hh) | simp))
  refine gNew K0 b20_7 (wd hw 97 rfl) (wd hw 6 rfl) (wd hw 7 rfl) (by decide) (by decide) (fun T101 h101 x101 K101 E101 g101 A101 D101 ne101 => ?_)
  have P102 := P0.ext E101
  have ge_x101 : h0.size ≤ x101 := by rw [g101]; exact P0.1
  have F103 : Fld Z h101 x101 "java/lang/String" "value" "[B" .null := (D101 (Or.inr (wd hw 21 rfl)) (ty := (.array .byte)) (by decide))
  have F104 : Fld Z h101 x101 "java/lang/String" "coder" "B" (.int (0 : Int32)) := (D101 (Or.inr (wd hw 22 rfl)) (ty := .byte) (by decide))
  refine gDup K101 b20_10 rfl ?_
  refine gAloadN K101 b20_11 (v := (.ref bb)) rfl rfl ?_
  refine gIloadN K101 b20_12 (v := (0 : Int32)) rfl ?_
  refine gIloadN K101 b20_13 (v := (0 : Int32)) rfl ?_
  refine gIloadN K101 b20_14 (v := (3 : Int32)) rfl ?_
  refine gIaddV K101 (3 : Int32) b20_15 (by decide) ?_
  refine gCallS K101 (W := 2) [(.ref bb), (.int (0 : Int32)), (.int (3 : Int32))] [(.ref x101), (.ref x101)] b20_16 (wd hw 98 rfl) (wd hw 99 rfl) (wd hw 100 rfl) (wd hw 101 rfl) (Cal.ofN (W := 2) (c_cor4_3 l Z a0 hw h101 n0 K101.n0le bb kA _ (Ab.ext E101) rfl) (wd hw 101 rfl) (wd hw 100 rfl) (by decide) (by decide)) (fun _ q => nomatch q) pd22 rfl rfl (Nat.le_of_eq rfl) rfl (by decide) (by decide) (by decide) (fun v105 T105 h105 K105 Q105 q105 => ?_)
  have E105 := Ext.of0 Q105
  have P106 := P102.ext E105
  obtain ⟨b2, k2, rfl, g2, A2⟩ := q105
  have A2' : Arv Z h105 b2 k2 .byte (Int32.ofNat [c0, c1, c2].length) (([c0, c1, c2].map StrChars.lo8).map Value.int) (.int 0) := A2
  refine gIconst K105 (0 : Int32) b20_19 rfl ?_
  refine gCallI K105 (W := 1) x101 [(.ref b2), (.int (0 : Int32))] [(.ref x101)] b20_20 rfl (wd hw 116 rfl) (wd hw 117 rfl) (wd hw 118 rfl) (Cal.ofN (W := 1) (c_initBB l Z a0 hw h105 n0 K105.n0le x101 b2 (0 : Int32) _ _ (by decide) (K105.wsge (me 0 rfl)) (A101.ext E105) (F103.ext E105) (F104.ext E105)) (wd hw 118 rfl) (wd hw 7 rfl) (by decide) (by decide)) (fun z q => by cases List.mem_singleton.mp q; exact (me 0 rfl)) pd25 rfl rfl (Nat.le_of_eq rfl) rfl (by decide) (by decide) (by decide) (fun v107 T107 h107 K107 Q107 q107 => ?_)
  have P108 := P106.trans Q107 (fun z q => by cases List.mem_singleton.mp q; exact Or.inr ge_x101)
  obtain ⟨rfl, Ex107, Fv107, Fc107⟩ := q107
  refine gRetA K107 hlk hret rfl rfl b20_23 P108 (by decide) (by decide) ?_
  exact ⟨_, rfl, b2, k2, Ex107, Fc107, Fv107, (A2'.keep Q107 (ninS (Nat.ne_of_gt (Nat.lt_of_lt_of_le A101.lt g2)) nin0)), hp, Nat.le_of_ble_eq_true rfl⟩
set_option maxRecDepth 65536 in
set_option maxHeartbeats 40000000 in
theorem c_subL4_3 (l : Launch) (Z : State) (a0 : Array Value) (hw : ∀ d ∈ tables_1, d.before a0 Z = true) (h0 : Heap) (n0 : Nat) (Z0 : n0 ≤ h0.size) (c0 c1 c2 c3 : Int32) (x : Addr) (A : StrL Z h0 x [c0, c1, c2, c3]) (z : Int32) (Sc : Sta Z h0 "java/lang/String" "COMPACT_STRINGS" "Z" (.int z)) (hz : ¬ z = 0) (fm : Value) (Sf : Sta Z h0 "jdk/internal/util/Preconditions" "SIOOBE_FORMATTER" "Ljava/util/function/BiFunction;" fm) (rf : fm.isRef = true) (u : US Z h0) :
    Con none l (⟨"java/lang/String", "substring", "(II)Ljava/lang/String;"⟩ : MethodName) jdk_42_method_92_code 5 (some (.object "java/lang/String")) [] ({ frames := 6, cells := 3, slots := 16, locals := 112 } : Room) Z n0 h0 [] #[(.ref x), (.int (0 : Int32)), (.int (3 : Int32))] (fun v h => ∃ x : Addr, v = some (.ref x) ∧ StrA Z h x [c0, c1, c2]) := by
  refine Con.intro pn0 Z0 (fun _ q => nomatch q) trivial #[.val (.ref x), .val (.int (0 : Int32)), .val (.int (3 : Int32)), .unset, .unset] (fun m => by first | (simp [entryFrame, mkF, argsToLocals, Value.category]; done) | rfl) ?_
  intro p e s m below meth c T0 hlk hret hnm K0
  have P0 := Keep.refl h0 []
  have A_ := A
  obtain ⟨bb, kA, Ex, Fc, Fv, Ab, hp, hN⟩ := A_
  refine gAloadN K0 b7_0 (v := (.ref x)) rfl rfl ?_
  refine gCallV K0 (W := 0) (C := "java/lang/String") x [] [] b7_1 (wd hw 47 rfl) (wd hw 32 rfl) (wd hw 34 rfl) (wd hw 33 rfl) (cal_lenA hw K0.n0le (W := 0) (cs := [c0, c1, c2, c3]) (Or.inl A) Sc hz (by decide) (by decide)) (StrA.exa ((Or.inl A) : StrA Z _ x [c0, c1, c2, c3])) (fun _ q => nomatch q) pd16 rfl rfl (Nat.le_of_eq rfl) rfl (by decide) (by decide) (by decide) (fun v101 T101 h101 K101 Q101 q101 => ?_)
  have E101 := Ext.of0 Q101
  have P102 := P0.ext E101
  have q101' : v101 = some (.int (4 : Int32)) := q101
  cases q101'
  refine gIstoreN K101 b7_4 (Ls' := #[.val (.ref x), .val (.int (0 : Int32)), .val (.int (3 : Int32)), .val (.int (4 : Int32)), .unset]) rfl ?_
  refine gIloadN K101 b7_5 (v := (0 : Int32)) rfl ?_
  refine gIloadN K101 b7_6 (v := (3 : Int32)) rfl ?_
  refine gIloadN K101 b7_7 (v := (4 : Int32)) rfl ?_
  refine gCallS K101 (W := 0) [(.int (0 : Int32)), (.int (3 : Int32)), (.int (4 : Int32))] [] b7_8 (wd hw 48 rfl) (wd hw 49 rfl) (wd hw 7 rfl) (wd hw 50 rfl) (Cal.ofN (W := 0) (c_cbe l Z a0 hw h101 n0 K101.n0le 4 3 (by decide) (by decide) fm (Sf.ext E101) rf) (wd hw 50 rfl) (wd hw 7 rfl) (by decide) (by decide)) (fun _ q => nomatch q) pd17 rfl rfl (Nat.le_of_eq rfl) rfl (by decide) (by decide) (by decide) (fun v103 T103 h103 K103 Q103 q103 => ?_)
  have E103 := Ext.of0 Q103
  have P104 := P102.ext E103
  cases q103
  refine gIloadN K103 b7_11 (v := (0 : Int32)) rfl ?_
  refine gIf_ne K103 b7_12 (fun q => absurd q (by first | decide | (intro hh; cases hh) | simp)) (fun q12 => ?_)
  refine gIloadN K103 b7_15 (v := (3 : Int32)) rfl ?_
  refine gIloadN K103 b7_16 (v := (4 : Int32)) rfl ?_
  refine gIcmp_ne K103 b7_17 (fun q17 => ?_) (fun q => absurd q (by first | decide | (intro hh; cases hh) | simp))
  refine gIloadN K103 b7_22 (v := (3 : Int32)) rfl ?_
  refine gIloadN K103 b7_23 (v := (0 : Int32)) rfl ?_
  refine gIsubV K103 (3 : Int32) b7_24 (by decide) ?_
  refine gIstore K103 b7_25 (Ls' := #[.val (.ref x), .val (.int (0 : Int32)), .val (.int (3 : Int32)), .val (.int (4 : Int32)), .val (.int (3 : Int32))]) rfl ?_
  refine gAloadN K103 b7_27 (v := (.ref x)) rfl rfl ?_
  refine gCallV K103 (W := 0) (C := "java/lang/String") x [] [] b7_28 (wd hw 75 rfl) (wd hw 76 rfl) (wd hw 78 rfl) (wd hw 77 rfl) (Cal.ofN (W := 0) (c_isL0 l Z a0 hw h103 n0 K103.n0le x (Fc.ext (Ext.tr E101 E103)) z (Sc.ext (Ext.tr E101 E103)) hz) (wd hw 79 rfl) (wd hw 7 rfl) (by decide) (by decide)) (Ex.ext (Ext.tr E101 E103)) (fun _ q => nomatch q) pd12 rfl rfl (Nat.le_of_eq rfl) rfl (by decide) (by decide) (by decide) (fun v105 T105 h105 K105 Q105 q105 => ?_)
  have E105 := Ext.of0 Q105
  have P106 := P104.ext E105
  cases q105
  refine gIf_eq K105 b7_31 (fun q => absurd q (by first | decide | (intro hh; cases hh) | simp)) (fun q31 => ?_)
  refine gAloadN K105 b7_34 (v := (.ref x)) rfl rfl ?_
  refine gGet K105 b7_35 (wd hw 25 rfl) (Fv.ext (Ext.tr (Ext.tr E101 E103) E105)) (fun T107 K107 => ?_)
  refine gIloadN K107 b7_38 (v := (0 : Int32)) rfl ?_
  refine gIload K107 b7_39 (v := (3 : Int32)) rfl ?_
  refine gCallS K107 (W := 0) [(.ref bb), (.int (0 : Int32)), (.int (3 : Int32))] [] b7_41 (wd hw 94 rfl) (wd hw 95 rfl) (wd hw 82 rfl) (wd hw 96 rfl) (Cal.ofN (W := 0) (c_nsL4_3 l Z a0 hw h105 n0 K107.n0le c0 c1 c2 c3 bb kA (Ab.ext (Ext.tr (Ext.tr E101 E103) E105)) (fun c hc => hp c (List.mem_append_left [c3] hc))) (wd hw 96 rfl) (wd hw 82 rfl) (by decide) (by decide)) (fun _ q => nomatch q) pd19 rfl rfl (Nat.le_of_eq rfl) rfl (by decide) (by decide) (by decide) (fun v108 T108 h108 K108 Q108 q108 => ?_)
  have E108 := Ext.of0 Q108
  have P109 := P106.ext E108
  obtain ⟨xr, rfl, Sr⟩ := q108
  refine gGoto K108 b7_44 ?_
  refine gRetA K108 hlk hret rfl rfl b7_57 P109 (by decide) (by decide) ?_
  exact ⟨_, rfl, Or.inl Sr⟩
set_option maxRecDepth 65536 in
set_option maxHeartbeats 40000000 in
theorem c_subU4_3 (l : Launch) (Z : State) (a0 : Array Value) (hw : ∀ d ∈ tables_1, d.before a0 Z = true) (h0 : Heap) (n0 : Nat) (Z0 : n0 ≤ h0.size) (c0 c1 c2 c3 : Int32) (x : Addr) (A : StrU Z h0 x [c0, c1, c2, c3]) (z : Int32) (Sc : Sta Z h0 "java/lang/String" "COMPACT_STRINGS" "Z" (.int z)) (hz : ¬ z = 0) (fm : Value) (Sf : Sta Z h0 "jdk/internal/util/Preconditions" "SIOOBE_FORMATTER" "Ljava/util/function/BiFunction;" fm) (rf : fm.isRef = true) (u : US Z h0) (hu : ∃ c ∈ [c0, c1, c2], (255 : Int32) < c) :
    Con none l (⟨"java/lang/String", "substring", "(II)Ljava/lang/String;"⟩ : MethodName) jdk_42_method_92_code 5 (some (.object "java/lang/String")) [] ({ frames := 6, cells := 3, slots := 16, locals := 112 } : Room) Z n0 h0 [] #[(.ref x), (.int (0 : Int32)), (.int (3 : Int32))] (fun v h => ∃ x : Addr, v = some (.ref x) ∧ StrA Z h x [c0, c1, c2]) := by
  refine Con.intro pn0 Z0 (fun _ q => nomatch q) trivial #[.val (.ref x), .val (.int (0 : Int32)), .val (.int (3 : Int32)), .unset, .unset] (fun m => by first | (simp [entryFrame, mkF, argsToLocals, Value.category]; done) | rfl) ?_
  intro p e s m below meth c T0 hlk hret hnm K0
  have P0 := Keep.refl h0 []
  have A_ := A
  obtain ⟨bb, kA, Ex, Fc, Fv, Ab, hp, hu0, hN⟩ := A_
  refine gAloadN K0 b7_0 (v := (.ref x)) rfl rfl ?_
  refine gCallV K0 (W := 0) (C := "java/lang/String") x [] [] b7_1 (wd hw 47 rfl) (wd hw 32 rfl) (wd hw 34 rfl) (wd hw 33 rfl) (cal_lenA hw K0.n0le (W := 0) (cs := [c0, c1, c2, c3]) (Or.inr A) Sc hz (by decide) (by decide)) (StrA.exa ((Or.inr A) : StrA Z _ x [c0, c1, c2, c3])) (fun _ q => nomatch q) pd16 rfl rfl (Nat.le_of_eq rfl) rfl (by decide) (by decide) (by decide) (fun v101 T101 h101 K101 Q101 q101 => ?_)
  have E101 := Ext.of0 Q101
  have P102 := P0.ext E101
  have q101' : v101 = some (.int (4 : Int32)) := q101
  cases q101'
  refine gIstoreN K101 b7_4 (Ls' := #[.val (.ref x), .val (.int (0 : Int32)), .val (.int (3 : Int32)), .val (.int (4 : Int32)), .unset]) rfl ?_
  refine gIloadN K101 b7_5 (v := (0 : Int32)) rfl ?_
  refine gIloadN K101 b7_6 (v := (3 : Int32)) rfl ?_
  refine gIloadN K101 b7_7 (v := (4 : Int32)) rfl ?_
  refine gCallS K101 (W := 0) [(.int (0 : Int32)), (.int (3 : Int32)), (.int (4 : Int32))] [] b7_8 (wd hw 48 rfl) (wd hw 49 rfl) (wd hw 7 rfl) (wd hw 50 rfl) (Cal.ofN (W := 0) (c_cbe l Z a0 hw h101 n0 K101.n0le 4 3 (by decide) (by decide) fm (Sf.ext E101) rf) (wd hw 50 rfl) (wd hw 7 rfl) (by decide) (by decide)) (fun _ q => nomatch q) pd17 rfl rfl (Nat.le_of_eq rfl) rfl (by decide) (by decide) (by decide) (fun v103 T103 h103 K103 Q103 q103 => ?_)
  have E103 := Ext.of0 Q103
  have P104 := P102.ext E103
  cases q103
  refine gIloadN K103 b7_11 (v := (0 : Int32)) rfl ?_
  refine gIf_ne K103 b7_12 (fun q => absurd q (by first | decide | (intro hh; cases hh) | simp)) (fun q12 => ?_)
  refine gIloadN K103 b7_15 (v := (3 : Int32)) rfl ?_
  refine gIloadN K103 b7_16 (v := (4 : Int32)) rfl ?_
  refine gIcmp_ne K103 b7_17 (fun q17 => ?_) (fun q => absurd q (by first | decide | (intro hh; cases hh) | simp))
  refine gIloadN K103 b7_22 (v := (3 : Int32)) rfl ?_
  refine gIloadN K103 b7_23 (v := (0 : Int32)) rfl ?_
  refine gIsubV K103 (3 : Int32) b7_24 (by decide) ?_
  refine gIstore K103 b7_25 (Ls' := #[.val (.ref x), .val (.int (0 : Int32)), .val (.int (3 : Int32)), .val (.int (4 : Int32)), .val (.int (3 : Int32))]) rfl ?_
  refine gAloadN K103 b7_27 (v := (.ref x)) rfl rfl ?_
  refine gCallV K103 (W := 0) (C := "java/lang/String") x [] [] b7_28 (wd hw 75 rfl) (wd hw 76 rfl) (wd hw 78 rfl) (wd hw 77 rfl) (Cal.ofN (W := 0) (c_isL1 l Z a0 hw h103 n0 K103.n0le x (Fc.ext (Ext.tr E101 E103)) z (Sc.ext (Ext.tr E101 E103)) hz) (wd hw 79 rfl) (wd hw 7 rfl) (by decide) (by decide)) (Ex.ext (Ext.tr E101 E103)) (fun _ q => nomatch q) pd12 rfl rfl (Nat.le_of_eq rfl) rfl (by decide) (by decide) (by decide) (fun v105 T105 h105 K105 Q105 q105 => ?_)
  have E105 := Ext.of0 Q105
  have P106 := P104.ext E105
  cases q105
  refine gIf_eq K105 b7_31 (fun q31 => ?_) (fun q => absurd q (by first | decide | (intro hh; cases hh) | simp))
  refine gAloadN K105 b7_47 (v := (.ref x)) rfl rfl ?_
  refine gGet K105 b7_48 (wd hw 25 rfl) (Fv.ext (Ext.tr (Ext.tr E101 E103) E105)) (fun T107 K107 => ?_)
  refine gIloadN K107 b7_51 (v := (0 : Int32)) rfl ?_
  refine gIload K107 b7_52 (v := (3 : Int32)) rfl ?_
  refine gCallS K107 (W := 0) [(.ref bb), (.int (0 : Int32)), (.int (3 : Int32))] [] b7_54 (wd hw 149 rfl) (wd hw 150 rfl) (wd hw 62 rfl) (wd hw 151 rfl) (Cal.ofN (W := 0) (c_nsU4_3 l Z a0 hw h105 n0 K107.n0le c0 c1 c2 c3 bb kA (Ab.ext (Ext.tr (Ext.tr E101 E103) E105)) hp (u.ext (Ext.tr (Ext.tr E101 E103) E105)) fm (Sf.ext (Ext.tr (Ext.tr E101 E103) E105)) rf hu z (Sc.ext (Ext.tr (Ext.tr E101 E103) E105)) hz) (wd hw 151 rfl) (wd hw 62 rfl) (by decide) (by decide)) (fun _ q => nomatch q) pd19 rfl rfl (Nat.le_of_eq rfl) rfl (by decide) (by decide) (by decide) (fun v108 T108 h108 K108 Q108 q108 => ?_)
  have E108 := Ext.of0 Q108
  have P109 := P106.ext E108
  obtain ⟨xr, rfl, Sr⟩ := q108
  refine gRetA K108 hlk hret rfl rfl b7_57 P109 (by decide) (by decide) ?_
  exact ⟨_, rfl, Or.inr Sr⟩
set_option maxRecDepth 65536 in
set_option maxHeartbeats 40000000 in
theorem c_subE4_4 (l : Launch) (Z : State) (a0 : Array Value) (hw : ∀ d ∈ tables_1, d.before a0 Z = true) (h0 : Heap) (n0 : Nat) (Z0 : n0 ≤ h0.size) (c0 c1 c2 c3 : Int32) (x : Addr) (A : StrA Z h0 x [c0, c1, c2, c3]) (z : Int32) (Sc : Sta Z h0 "java/lang/String" "COMPACT_STRINGS" "Z" (.int z)) (hz : ¬ z = 0) (fm : Value) (Sf : Sta Z h0 "jdk/internal/util/Preconditions" "SIOOBE_FORMATTER" "Ljava/util/function/BiFunction;" fm) (rf : fm.isRef = true) (u : US Z h0) :
    Con none l (⟨"java/lang/String", "substring", "(II)Ljava/lang/String;"⟩ : MethodName) jdk_42_method_92_code 5 (some (.object "java/lang/String")) [] ({ frames := 6, cells := 3, slots := 16, locals := 112 } : Room) Z n0 h0 [] #[(.ref x), (.int (0 : Int32)), (.int (4 : Int32))] (fun v h => ∃ x : Addr, v = some (.ref x) ∧ StrA Z h x [c0, c1, c2, c3]) := by
  refine Con.intro pn0 Z0 (fun _ q => nomatch q) trivial #[.val (.ref x), .val (.int (0 : Int32)), .val (.int (4 : Int32)), .unset, .unset] (fun m => by first | (simp [entryFrame, mkF, argsToLocals, Value.category]; done) | rfl) ?_
  intro p e s m below meth c T0 hlk hret hnm K0
  have P0 := Keep.refl h0 []
  refine gAloadN K0 b7_0 (v := (.ref x)) rfl rfl ?_
  refine gCallV K0 (W := 0) (C := "java/lang/String") x [] [] b7_1 (wd hw 47 rfl) (wd hw 32 rfl) (wd hw 34 rfl) (wd hw 33 rfl) (cal_lenA hw K0.n0le (W := 0) (cs := [c0, c1, c2, c3]) A Sc hz (by decide) (by decide)) (StrA.exa (A : StrA Z _ x [c0, c1, c2, c3])) (fun _ q => nomatch q) pd16 rfl rfl (Nat.le_of_eq rfl) rfl (by decide) (by decide) (by decide) (fun v101 T101 h101 K101 Q101 q101 => ?_)
  have E101 := Ext.of0 Q101
  have P102 := P0.ext E101
  have q101' : v101 = some (.int (4 : Int32)) := q101
  cases q101'
  refine gIstoreN K101 b7_4 (Ls' := #[.val (.ref x), .val (.int (0 : Int32)), .val (.int (4 : Int32)), .val (.int (4 : Int32)), .unset]) rfl ?_
  refine gIloadN K101 b7_5 (v := (0 : Int32)) rfl ?_
  refine gIloadN K101 b7_6 (v := (4 : Int32)) rfl ?_
  refine gIloadN K101 b7_7 (v := (4 : Int32)) rfl ?_
  refine gCallS K101 (W := 0) [(.int (0 : Int32)), (.int (4 : Int32)), (.int (4 : Int32))] [] b7_8 (wd hw 48 rfl) (wd hw 49 rfl) (wd hw 7 rfl) (wd hw 50 rfl) (Cal.ofN (W := 0) (c_cbe l Z a0 hw h101 n0 K101.n0le 4 4 (by decide) (by decide) fm (Sf.ext E101) rf) (wd hw 50 rfl) (wd hw 7 rfl) (by decide) (by decide)) (fun _ q => nomatch q) pd17 rfl rfl (Nat.le_of_eq rfl) rfl (by decide) (by decide) (by decide) (fun v103 T103 h103 K103 Q103 q103 => ?_)
  have E103 := Ext.of0 Q103
  have P104 := P102.ext E103
  cases q103
  refine gIloadN K103 b7_11 (v := (0 : Int32)) rfl ?_
  refine gIf_ne K103 b7_12 (fun q => absurd q (by first | decide | (intro hh; cases hh) | simp)) (fun q12 => ?_)
  refine gIloadN K103 b7_15 (v := (4 : Int32)) rfl ?_
  refine gIloadN K103 b7_16 (v := (4 : Int32)) rfl ?_
  refine gIcmp_ne K103 b7_17 (fun q => absurd q (by first | decide | (intro hh; cases hh) | simp)) (fun q17 => ?_)
  refine gAloadN K103 b7_20 (v := (.ref x)) rfl rfl ?_
  refine gRetA K103 hlk hret rfl rfl b7_21 P104 (by decide) (by decide) ?_
  exact ⟨_, rfl, (A.ext (Ext.tr E101 E103))⟩
set_option maxRecDepth 65536 in
set_option maxHeartbeats 40000000 in
theorem c_wp4 (l : Launch) (Z : State) (a0 : Array Value) (hw : ∀ d ∈ tables_1, d.before a0 Z = true) (h0 : Heap) (n0 : Nat) (Z0 : n0 ≤ h0.size) (c0 c1 c2 c3 : Int32) (x : Addr) (A : StrA Z h0 x [c0, c1, c2, c3]) (z : Int32) (Sc : Sta Z h0 "java/lang/String" "COMPACT_STRINGS" "Z" (.int z)) (hz : ¬ z = 0) (fm : Value) (Sf : Sta Z h0 "jdk/internal/util/Preconditions" "SIOOBE_FORMATTER" "Ljava/util/function/BiFunction;" fm) (rf : fm.isRef = true) (u : US Z h0) (hE : EW Z a0 [("java/lang/String", 7), ("java/lang/StringLatin1", 151)]) :
    Con (some [("java/lang/String", 7), ("java/lang/StringLatin1", 151)]) l (⟨"com/example/stowage/stowage/dicom/Uid", "withoutPadding", "(Ljava/lang/String;)Ljava/lang/String;"⟩ : MethodName) prog_11_method_5_code 2 (some (.object "java/lang/String")) [] ({ frames := 7, cells := 3, slots := 16, locals := 130 } : Room) Z n0 h0 [] #[(.ref x)] (fun v h => ∃ (x : Addr) (t : Nat), v = some (.ref x) ∧ StrA Z h x ([c0, c1, c2, c3].take t) ∧ WP [c0, c1, c2, c3] t) := by
  refine Con.intro pn4 Z0 (fun _ q => nomatch q) ⟨a0, hE⟩ #[.val (.ref x), .unset] (fun m => by first | (simp [entryFrame, mkF, argsToLocals, Value.category]; done) | rfl) ?_
  intro p e s m below meth c T0 hlk hret hnm K0
  have P0 := Keep.refl h0 []
  refine gAloadN K0 b4_0 (v := (.ref x)) rfl rfl ?_
  refine gCallV K0 (W := 0) (C := "java/lang/String") x [] [] b4_1 (wd hw 31 rfl) (wd hw 32 rfl) (wd hw 34 rfl) (wd hw 33 rfl) (cal_lenA hw K0.n0le (W := 0) (cs := [c0, c1, c2, c3]) A Sc hz (by decide) (by decide)) (A).exa (fun _ q => nomatch q) pd16 rfl rfl (Nat.le_of_eq rfl) rfl (by decide) (by decide) (by decide) (fun v101 T101 h101 K101 Q101 q101 => ?_)
  have E101 := Ext.of0 Q101
  have P102 := P0.ext E101
  have q101' : v101 = some (.int (4 : Int32)) := q101
  cases q101'
  refine gIstoreN K101 b4_4 (Ls' := #[.val (.ref x), .val (.int (4 : Int32))]) rfl ?_
  refine gIloadN K101 b4_5 (v := (4 : Int32)) rfl ?_
  refine gIf_le K101 b4_6 (fun q => absurd q (by first | decide | (intro hh; cases hh) | simp)) (fun q6 => ?_)
  refine gAloadN K101 b4_9 (v := (.ref x)) rfl rfl ?_
  refine gIloadN K101 b4_10 (v := (4 : Int32)) rfl ?_
  refine gIconst K101 (1 : Int32) b4_11 rfl ?_
  refine gIsubV K101 (3 : Int32) b4_12 (by decide) ?_
  have j_c3 : ∀ (hp_c3 : pd c3) (Tj : State) (hj : Heap) (Kj : Cx p l e ({ frames := 7, cells := 3, slots := 16, locals := 130 } : Room) s m #[(.ref x)] below meth c prog_11_method_5_code 2 Z "com/example/stowage/stowage/dicom/Uid" n0 (some [("java/lang/String", 7), ("java/lang/StringLatin1", 151)]) Tj hj [] 0 0) (Pj : Keep h0 hj []) (Aj : StrA Z hj x [c0, c1, c2, c3]) (Scj : Sta Z hj "java/lang/String" "COMPACT_STRINGS" "Z" (.int z)) (Sfj : Sta Z hj "jdk/internal/util/Preconditions" "SIOOBE_FORMATTER" "Ljava/util/function/BiFunction;" fm) (uj : US Z hj), Go p e below (End (some [("java/lang/String", 7), ("java/lang/StringLatin1", 151)]) s Z n0 h0 [] ({ frames := 7, cells := 3, slots := 16, locals := 130 } : Room).cells ({ frames := 7, cells := 3, slots := 16, locals := 130 } : Room).slots (fun v h => ∃ (x : Addr) (t : Nat), v = some (.ref x) ∧ StrA Z h x ([c0, c1, c2, c3].take t) ∧ WP [c0, c1, c2, c3] t)) Tj (mkF m 31 #[.val (.ref x), .val (.int (4 : Int32))] []) := by
    intro hp_c3 Tj hj Kj Pj Aj Scj Sfj uj
    refine gIinc Kj (-1 : Int32) b4_31 rfl (x := (4 : Int32)) rfl (Ls' := #[.val (.ref x), .val (.int (3 : Int32))]) rfl ?_
    refine gGoto Kj b4_34 ?_
    refine gIloadN Kj b4_5 (v := (3 : Int32)) rfl ?_
    refine gIf_le Kj b4_6 (fun q => absurd q (by first | decide | (intro hh; cases hh) | simp)) (fun q6 => ?_)
    refine gAloadN Kj b4_9 (v := (.ref x)) rfl rfl ?_
    refine gIloadN Kj b4_10 (v := (3 : Int32)) rfl ?_
    refine gIconst Kj (1 : Int32) b4_11 rfl ?_
    refine gIsubV Kj (2 : Int32) b4_12 (by decide) ?_
    have j_c2 : ∀ (hp_c2 : pd c2) (Tj : State) (hj : Heap) (Kj : Cx p l e ({ frames := 7, cells := 3, slots := 16, locals := 130 } : Room) s m #[(.ref x)] below meth c prog_11_method_5_code 2 Z "com/example/stowage/stowage/dicom/Uid" n0 (some [("java/lang/String", 7), ("java/lang/StringLatin1", 151)]) Tj hj [] 0 0) (Pj : Keep h0 hj []) (Aj : StrA Z hj x [c0, c1, c2, c3]) (Scj : Sta Z hj "java/lang/String" "COMPACT_STRINGS" "Z" (.int z)) (Sfj : Sta Z hj "jdk/internal/util/Preconditions" "SIOOBE_FORMATTER" "Ljava/util/function/BiFunction;" fm) (uj : US Z hj), Go p e below (End (some [("java/lang/String", 7), ("java/lang/StringLatin1", 151)]) s Z n0 h0 [] ({ frames := 7, cells := 3, slots := 16, locals := 130 } : Room).cells ({ frames := 7, cells := 3, slots := 16, locals := 130 } : Room).slots (fun v h => ∃ (x : Addr) (t : Nat), v = some (.ref x) ∧ StrA Z h x ([c0, c1, c2, c3].take t) ∧ WP [c0, c1, c2, c3] t)) Tj (mkF m 31 #[.val (.ref x), .val (.int (3 : Int32))] []) := by
      intro hp_c2 Tj hj Kj Pj Aj Scj Sfj uj
      refine gIinc Kj (-1 : Int32) b4_31 rfl (x := (3 : Int32)) rfl (Ls' := #[.val (.ref x), .val (.int (2 : Int32))]) rfl ?_
      refine gGoto Kj b4_34 ?_
      refine gIloadN Kj b4_5 (v := (2 : Int32)) rfl ?_
      refine gIf_le Kj b4_6 (fun q => absurd q (by first | decide | (intro hh; cases hh) | simp)) (fun q6 => ?_)
      refine gAloadN Kj b4_9 (v := (.ref x)) rfl rfl ?_
      refine gIloadN Kj b4_10 (v := (2 : Int32)) rfl ?_
      refine gIconst Kj (1 : Int32) b4_11 rfl ?_
      refine gIsubV Kj (1 : Int32) b4_12 (by decide) ?_
      have j_c1 : ∀ (hp_c1 : pd c1) (Tj : State) (hj : Heap) (Kj : Cx p l e ({ frames := 7, cells := 3, slots := 16, locals := 130 } : Room) s m #[(.ref x)] below meth c prog_11_method_5_code 2 Z "com/example/stowage/stowage/dicom/Uid" n0 (some [("java/lang/String", 7), ("java/lang/StringLatin1", 151)]) Tj hj [] 0 0) (Pj : Keep h0 hj []) (Aj : StrA Z hj x [c0, c1, c2, c3]) (Scj : Sta Z hj "java/lang/String" "COMPACT_STRINGS" "Z" (.int z)) (Sfj : Sta Z hj "jdk/internal/util/Preconditions" "SIOOBE_FORMATTER" "Ljava/util/function/BiFunction;" fm) (uj : US Z hj), Go p e below (End (some [("java/lang/String", 7), ("java/lang/StringLatin1", 151)]) s Z n0 h0 [] ({ frames := 7, cells := 3, slots := 16, locals := 130 } : Room).cells ({ frames := 7, cells := 3, slots := 16, locals := 130 } : Room).slots (fun v h => ∃ (x : Addr) (t : Nat), v = some (.ref x) ∧ StrA Z h x ([c0, c1, c2, c3].take t) ∧ WP [c0, c1, c2, c3] t)) Tj (mkF m 31 #[.val (.ref x), .val (.int (2 : Int32))] []) := by
        intro hp_c1 Tj hj Kj Pj Aj Scj Sfj uj
        refine gIinc Kj (-1 : Int32) b4_31 rfl (x := (2 : Int32)) rfl (Ls' := #[.val (.ref x), .val (.int (1 : Int32))]) rfl ?_
        refine gGoto Kj b4_34 ?_
        refine gIloadN Kj b4_5 (v := (1 : Int32)) rfl ?_
        refine gIf_le Kj b4_6 (fun q => absurd q (by first | decide | (intro hh; cases hh) | simp)) (fun q6 => ?_)
        refine gAloadN Kj b4_9 (v := (.ref x)) rfl rfl ?_
        refine gIloadN Kj b4_10 (v := (1 : Int32)) rfl ?_
        refine gIconst Kj (1 : Int32) b4_11 rfl ?_
        refine gIsubV Kj (0 : Int32) b4_12 (by decide) ?_
        have j_c0 : ∀ (hp_c0 : pd c0) (Tj : State) (hj : Heap) (Kj : Cx p l e ({ frames := 7, cells := 3, slots := 16, locals := 130 } : Room) s m #[(.ref x)] below meth c prog_11_method_5_code 2 Z "com/example/stowage/stowage/dicom/Uid" n0 (some [("java/lang/String", 7), ("java/lang/StringLatin1", 151)]) Tj hj [] 0 0) (Pj : Keep h0 hj []) (Aj : StrA Z hj x [c0, c1, c2, c3]) (Scj : Sta Z hj "java/lang/String" "COMPACT_STRINGS" "Z" (.int z)) (Sfj : Sta Z hj "jdk/internal/util/Preconditions" "SIOOBE_FORMATTER" "Ljava/util/function/BiFunction;" fm) (uj : US Z hj), Go p e below (End (some [("java/lang/String", 7), ("java/lang/StringLatin1", 151)]) s Z n0 h0 [] ({ frames := 7, cells := 3, slots := 16, locals := 130 } : Room).cells ({ frames := 7, cells := 3, slots := 16, locals := 130 } : Room).slots (fun v h => ∃ (x : Addr) (t : Nat), v = some (.ref x) ∧ StrA Z h x ([c0, c1, c2, c3].take t) ∧ WP [c0, c1, c2, c3] t)) Tj (mkF m 31 #[.val (.ref x), .val (.int (1 : Int32))] []) := by
          intro hp_c0 Tj hj Kj Pj Aj Scj Sfj uj
          refine gIinc Kj (-1 : Int32) b4_31 rfl (x := (1 : Int32)) rfl (Ls' := #[.val (.ref x), .val (.int (0 : Int32))]) rfl ?_
          refine gGoto Kj b4_34 ?_
          refine gIloadN Kj b4_5 (v := (0 : Int32)) rfl ?_
          refine gIf_le Kj b4_6 (fun q6 => ?_) (fun q => absurd q (by first | decide | (intro hh; cases hh) | simp))
          refine gAloadN Kj b4_37 (v := (.ref x)) rfl rfl ?_
          refine gIconst Kj (0 : Int32) b4_38 rfl ?_
          refine gIloadN Kj b4_39 (v := (0 : Int32)) rfl ?_
          rcases Aj with hA | hA
          · skip
            refine gCallV Kj (W := 0) (C := "java/lang/String") x [(.int (0 : Int32)), (.int (0 : Int32))] [] b4_40 (wd hw 42 rfl) (wd hw 43 rfl) (wd hw 45 rfl) (wd hw 44 rfl) (Cal.ofW (W := 0) (c_subL4_0 l Z a0 hw hj n0 Kj.n0le c0 c1 c2 c3 x hA z Scj hz fm Sfj rf uj hE) (wd hw 46 rfl) (wd hw 7 rfl) (by decide) (by decide)) (StrL.exa hA) (fun _ q => nomatch q) pd18 rfl rfl (Nat.le_of_eq rfl) rfl (by decide) (by decide) (by decide) (fun v103 T103 h103 K103 Q103 q103 => ?_)
            have E103 := Ext.of0 Q103
            have P104 := Pj.ext E103
            obtain ⟨xr, rfl, Sr⟩ := q103
            refine gRetA K103 hlk hret rfl rfl b4_43 P104 (by decide) (by decide) ?_
            exact ⟨_, 0, rfl, Sr, Nat.le_of_ble_eq_true rfl, (fun q => absurd q (Nat.lt_irrefl 0)), (allI hp_c0 (allI hp_c1 (allI hp_c2 (allI hp_c3 allI0))))⟩
          · skip
            have hu : ∃ c ∈ ([] : List Int32), (255 : Int32) < c := hiPre (a := ([] : List Int32)) (b := [c0, c1, c2, c3]) (by obtain ⟨t, kb, -, -, -, -, -, q, -⟩ := hA; exact q) ((allI hp_c0 (allI hp_c1 (allI hp_c2 (allI hp_c3 allI0)))))
            exact absurd hu (noHi (fun _ q => nomatch q))
        refine gCallV Kj (W := 0) (C := "java/lang/String") x [(.int (0 : Int32))] [] b4_13 (wd hw 70 rfl) (wd hw 71 rfl) (wd hw 73 rfl) (wd hw 72 rfl) (cal_chA hw Kj.n0le (W := 0) (cs := [c0, c1, c2, c3]) 0 Aj Scj hz Sfj rf uj (Nat.le_of_ble_eq_true rfl) (by decide) (by decide)) (Aj).exa (fun _ q => nomatch q) pd20 rfl rfl (Nat.le_of_eq rfl) rfl (by decide) (by decide) (by decide) (fun v105 T105 h105 K105 Q105 q105 => ?_)
        have E105 := Ext.of0 Q105
        have P106 := Pj.ext E105
        have q105' : v105 = some (.int c0) := q105
        cases q105'
        refine gIf_eq K105 b4_16 (fun hz_c0 => ?_) (fun hz_c0 => ?_)
        · skip
          exact j_c0 (Or.inl hz_c0) _ _ K105 P106 (Aj.ext E105) (Scj.ext E105) (Sfj.ext E105) (uj.ext E105)
        · skip
          refine gAloadN K105 b4_19 (v := (.ref x)) rfl rfl ?_
          refine gIloadN K105 b4_20 (v := (1 : Int32)) rfl ?_
          refine gIconst K105 (1 : Int32) b4_21 rfl ?_
          refine gIsubV K105 (0 : Int32) b4_22 (by decide) ?_
          refine gCallV K105 (W := 0) (C := "java/lang/String") x [(.int (0 : Int32))] [] b4_23 (wd hw 70 rfl) (wd hw 71 rfl) (wd hw 73 rfl) (wd hw 72 rfl) (cal_chA hw K105.n0le (W := 0) (cs := [c0, c1, c2, c3]) 0 (Aj.ext E105) (Scj.ext E105) hz (Sfj.ext E105) rf (uj.ext E105) (Nat.le_of_ble_eq_true rfl) (by decide) (by decide)) ((Aj.ext E105)).exa (fun _ q => nomatch q) pd20 rfl rfl (Nat.le_of_eq rfl) rfl (by decide) (by decide) (by decide) (fun v107 T107 h107 K107 Q107 q107 => ?_)
          have E107 := Ext.of0 Q107
          have P108 := P106.ext E107
          have q107' : v107 = some (.int c0) := q107
          cases q107'
          refine gBipush K107 (32 : Int32) b4_26 rfl ?_
          refine gIcmp_ne K107 b4_28 (fun hs_c0 => ?_) (fun hs_c0 => ?_)
          · skip
            refine gAloadN K107 b4_37 (v := (.ref x)) rfl rfl ?_
            refine gIconst K107 (0 : Int32) b4_38 rfl ?_
            refine gIloadN K107 b4_39 (v := (1 : Int32)) rfl ?_
            rcases (Aj.ext (Ext.tr E105 E107)) with hA | hA
            · skip
              refine gCallV K107 (W := 0) (C := "java/lang/String") x [(.int (0 : Int32)), (.int (1 : Int32))] [] b4_40 (wd hw 42 rfl) (wd hw 43 rfl) (wd hw 45 rfl) (wd hw 44 rfl) (Cal.ofN (W := 0) (c_subL4_1 l Z a0 hw h107 n0 K107.n0le c0 c1 c2 c3 x hA z (Scj.ext (Ext.tr E105 E107)) hz fm (Sfj.ext (Ext.tr E105 E107)) rf (uj.ext (Ext.tr E105 E107))) (wd hw 46 rfl) (wd hw 7 rfl) (by decide) (by decide)) (StrL.exa hA) (fun _ q => nomatch q) pd18 rfl rfl (Nat.le_of_eq rfl) rfl (by decide) (by decide) (by decide) (fun v109 T109 h109 K109 Q109 q109 => ?_)
              have E109 := Ext.of0 Q109
              have P110 := P108.ext E109
              obtain ⟨xr, rfl, Sr⟩ := q109
              refine gRetA K109 hlk hret rfl rfl b4_43 P110 (by decide) (by decide) ?_
              exact ⟨_, 1, rfl, Sr, Nat.le_of_ble_eq_true rfl, (fun _ q => q.elim hz_c0 hs_c0), (allI hp_c1 (allI hp_c2 (allI hp_c3 allI0)))⟩
            · skip
              have hu : ∃ c ∈ [c0], (255 : Int32) < c := hiPre (a := [c0]) (b := [c1, c2, c3]) (by obtain ⟨t, kb, -, -, -, -, -, q, -⟩ := hA; exact q) ((allI hp_c1 (allI hp_c2 (allI hp_c3 allI0))))
              refine gCallV K107 (W := 0) (C := "java/lang/String") x [(.int (0 : Int32)), (.int (1 : Int32))] [] b4_40 (wd hw 42 rfl) (wd hw 43 rfl) (wd hw 45 rfl) (wd hw 44 rfl) (Cal.ofN (W := 0) (c_subU4_1 l Z a0 hw h107 n0 K107.n0le c0 c1 c2 c3 x hA z (Scj.ext (Ext.tr E105 E107)) hz fm (Sfj.ext (Ext.tr E105 E107)) rf (uj.ext (Ext.tr E105 E107)) hu) (wd hw 46 rfl) (wd hw 7 rfl) (by decide) (by decide)) (StrA.exa (Or.inr hA)) (fun _ q => nomatch q) pd18 rfl rfl (Nat.le_of_eq rfl) rfl (by decide) (by decide) (by decide) (fun v111 T111 h111 K111 Q111 q111 => ?_)
              have E111 := Ext.of0 Q111
              have P112 := P108.ext E111
              obtain ⟨xr, rfl, Sr⟩ := q111
              refine gRetA K111 hlk hret rfl rfl b4_43 P112 (by decide) (by decide) ?_
              exact ⟨_, 1, rfl, Sr, Nat.le_of_ble_eq_true rfl, (fun _ q => q.elim hz_c0 hs_c0), (allI hp_c1 (allI hp_c2 (allI hp_c3 allI0)))⟩
          · skip
            exact j_c0 (Or.inr hs_c0) _ _ K107 P108 (Aj.ext (Ext.tr E105 E107)) (Scj.ext (Ext.tr E105 E107)) (Sfj.ext (Ext.tr E105 E107)) (uj.ext (Ext.tr E105 E107))
      refine gCallV Kj (W := 0) (C := "java/lang/String") x [(.int (1 : Int32))] [] b4_13 (wd hw 70 rfl) (wd hw 71 rfl) (wd hw 73 rfl) (wd hw 72 rfl) (cal_chA hw Kj.n0le (W := 0) (cs := [c0, c1, c2, c3]) 1 Aj Scj hz Sfj rf uj (Nat.le_of_ble_eq_true rfl) (by decide) (by decide)) (Aj).exa (fun _ q => nomatch q) pd20 rfl rfl (Nat.le_of_eq rfl) rfl (by decide) (by decide) (by decide) (fun v113 T113 h113 K113 Q113 q113 => ?_)
      have E113 := Ext.of0 Q113
      have P114 := Pj.ext E113
      have q113' : v113 = some (.int c1) := q113
      cases q113'
      refine gIf_eq K113 b4_16 (fun hz_c1 => ?_) (fun hz_c1 => ?_)
      · skip
        exact j_c1 (Or.inl hz_c1) _ _ K113 P114 (Aj.ext E113) (Scj.ext E113) (Sfj.ext E113) (uj.ext E113)
      · skip
        refine gAloadN K113 b4_19 (v := (.ref x)) rfl rfl ?_
        refine gIloadN K113 b4_20 (v := (2 : Int32)) rfl ?_
        refine gIconst K113 (1 : Int32) b4_21 rfl ?_
        refine gIsubV K113 (1 : Int32) b4_22 (by decide) ?_
        refine gCallV K113 (W := 0) (C := "java/lang/String") x [(.int (1 : Int32))] [] b4_23 (wd hw 70 rfl) (wd hw 71 rfl) (wd hw 73 rfl) (wd hw 72 rfl) (cal_chA hw K113.n0le (W := 0) (cs := [c0, c1, c2, c3]) 1 (Aj.ext E113) (Scj.ext E113) hz (Sfj.ext E113) rf (uj.ext E113) (Nat.le_of_ble_eq_true rfl) (by decide) (by decide)) ((Aj.ext E113)).exa (fun _ q => nomatch q) pd20 rfl rfl (Nat.le_of_eq rfl) rfl (by decide) (by decide) (by decide) (fun v115 T115 h115 K115 Q115 q115 => ?_)
        have E115 := Ext.of0 Q115
        have P116 := P114.ext E115
        have q115' : v115 = some (.int c1) := q115
        cases q115'
        refine gBipush K115 (32 : Int32) b4_26 rfl ?_
        refine gIcmp_ne K115 b4_28 (fun hs_c1 => ?_) (fun hs_c1 => ?_)
        · skip
          refine gAloadN K115 b4_37 (v := (.ref x)) rfl rfl ?_
          refine gIconst K115 (0 : Int32) b4_38 rfl ?_
          refine gIloadN K115 b4_39 (v := (2 : Int32)) rfl ?_
          rcases (Aj.ext (Ext.tr E113 E115)) with hA | hA
          · skip
            refine gCallV K115 (W := 0) (C := "java/lang/String") x [(.int (0 : Int32)), (.int (2 : Int32))] [] b4_40 (wd hw 42 rfl) (wd hw 43 rfl) (wd hw 45 rfl) (wd hw 44 rfl) (Cal.ofN (W := 0) (c_subL4_2 l Z a0 hw h115 n0 K115.n0le c0 c1 c2 c3 x hA z (Scj.ext (Ext.tr E113 E115)) hz fm (Sfj.ext (Ext.tr E113 E115)) rf (uj.ext (Ext.tr E113 E115))) (wd hw 46 rfl) (wd hw 7 rfl) (by decide) (by decide)) (StrL.exa hA) (fun _ q => nomatch q) pd18 rfl rfl (Nat.le_of_eq rfl) rfl (by decide) (by decide) (by decide) (fun v117 T117 h117 K117 Q117 q117 => ?_)
            have E117 := Ext.of0 Q117
            have P118 := P116.ext E117
            obtain ⟨xr, rfl, Sr⟩ := q117
            refine gRetA K117 hlk hret rfl rfl b4_43 P118 (by decide) (by decide) ?_
            exact ⟨_, 2, rfl, Sr, Nat.le_of_ble_eq_true rfl, (fun _ q => q.elim hz_c1 hs_c1), (allI hp_c2 (allI hp_c3 allI0))⟩
          · skip
            have hu : ∃ c ∈ [c0, c1], (255 : Int32) < c := hiPre (a := [c0, c1]) (b := [c2, c3]) (by obtain ⟨t, kb, -, -, -, -, -, q, -⟩ := hA; exact q) ((allI hp_c2 (allI hp_c3 allI0)))
            refine gCallV K115 (W := 0) (C := "java/lang/String") x [(.int (0 : Int32)), (.int (2 : Int32))] [] b4_40 (wd hw 42 rfl) (wd hw 43 rfl) (wd hw 45 rfl) (wd hw 44 rfl) (Cal.ofN (W := 0) (c_subU4_2 l Z a0 hw h115 n0 K115.n0le c0 c1 c2 c3 x hA z (Scj.ext (Ext.tr E113 E115)) hz fm (Sfj.ext (Ext.tr E113 E115)) rf (uj.ext (Ext.tr E113 E115)) hu) (wd hw 46 rfl) (wd hw 7 rfl) (by decide) (by decide)) (StrA.exa (Or.inr hA)) (fun _ q => nomatch q) pd18 rfl rfl (Nat.le_of_eq rfl) rfl (by decide) (by decide) (by decide) (fun v119 T119 h119 K119 Q119 q119 => ?_)
            have E119 := Ext.of0 Q119
            have P120 := P116.ext E119
            obtain ⟨xr, rfl, Sr⟩ := q119
            refine gRetA K119 hlk hret rfl rfl b4_43 P120 (by decide) (by decide) ?_
            exact ⟨_, 2, rfl, Sr, Nat.le_of_ble_eq_true rfl, (fun _ q => q.elim hz_c1 hs_c1), (allI hp_c2 (allI hp_c3 allI0))⟩
        · skip
          exact j_c1 (Or.inr hs_c1) _ _ K115 P116 (Aj.ext (Ext.tr E113 E115)) (Scj.ext (Ext.tr E113 E115)) (Sfj.ext (Ext.tr E113 E115)) (uj.ext (Ext.tr E113 E115))
    refine gCallV Kj (W := 0) (C := "java/lang/String") x [(.int (2 : Int32))] [] b4_13 (wd hw 70 rfl) (wd hw 71 rfl) (wd hw 73 rfl) (wd hw 72 rfl) (cal_chA hw Kj.n0le (W := 0) (cs := [c0, c1, c2, c3]) 2 Aj Scj hz Sfj rf uj (Nat.le_of_ble_eq_true rfl) (by decide) (by decide)) (Aj).exa (fun _ q => nomatch q) pd20 rfl rfl (Nat.le_of_eq rfl) rfl (by decide) (by decide) (by decide) (fun v121 T121 h121 K121 Q121 q121 => ?_)
    have E121 := Ext.of0 Q121
    have P122 := Pj.ext E121
    have q121' : v121 = some (.int c2) := q121
    cases q121'
    refine gIf_eq K121 b4_16 (fun hz_c2 => ?_) (fun hz_c2 => ?_)
    · skip
      exact j_c2 (Or.inl hz_c2) _ _ K121 P122 (Aj.ext E121) (Scj.ext E121) (Sfj.ext E121) (uj.ext E121)
    · skip
      refine gAloadN K121 b4_19 (v := (.ref x)) rfl rfl ?_
      refine gIloadN K121 b4_20 (v := (3 : Int32)) rfl ?_
      refine gIconst K121 (1 : Int32) b4_21 rfl ?_
      refine gIsubV K121 (2 : Int32) b4_22 (by decide) ?_
      refine gCallV K121 (W := 0) (C := "java/lang/String") x [(.int (2 : Int32))] [] b4_23 (wd hw 70 rfl) (wd hw 71 rfl) (wd hw 73 rfl) (wd hw 72 rfl) (cal_chA hw K121.n0le (W := 0) (cs := [c0, c1, c2, c3]) 2 (Aj.ext E121) (Scj.ext E121) hz (Sfj.ext E121) rf (uj.ext E121) (Nat.le_of_ble_eq_true rfl) (by decide) (by decide)) ((Aj.ext E121)).exa (fun _ q => nomatch q) pd20 rfl rfl (Nat.le_of_eq rfl) rfl (by decide) (by decide) (by decide) (fun v123 T123 h123 K123 Q123 q123 => ?_)
      have E123 := Ext.of0 Q123
      have P124 := P122.ext E123
      have q123' : v123 = some (.int c2) := q123
      cases q123'
      refine gBipush K123 (32 : Int32) b4_26 rfl ?_
      refine gIcmp_ne K123 b4_28 (fun hs_c2 => ?_) (fun hs_c2 => ?_)
      · skip
        refine gAloadN K123 b4_37 (v := (.ref x)) rfl rfl ?_
        refine gIconst K123 (0 : Int32) b4_38 rfl ?_
        refine gIloadN K123 b4_39 (v := (3 : Int32)) rfl ?_
        rcases (Aj.ext (Ext.tr E121 E123)) with hA | hA
        · skip
          refine gCallV K123 (W := 0) (C := "java/lang/String") x [(.int (0 : Int32)), (.int (3 : Int32))] [] b4_40 (wd hw 42 rfl) (wd hw 43 rfl) (wd hw 45 rfl) (wd hw 44 rfl) (Cal.ofN (W := 0) (c_subL4_3 l Z a0 hw h123 n0 K123.n0le c0 c1 c2 c3 x hA z (Scj.ext (Ext.tr E121 E123)) hz fm (Sfj.ext (Ext.tr E121 E123)) rf (uj.ext (Ext.tr E121 E123))) (wd hw 46 rfl) (wd hw 7 rfl) (by decide) (by decide)) (StrL.exa hA) (fun _ q => nomatch q) pd18 rfl rfl (Nat.le_of_eq rfl) rfl (by decide) (by decide) (by decide) (fun v125 T125 h125 K125 Q125 q125 => ?_)
          have E125 := Ext.of0 Q125
          have P126 := P124.ext E125
          obtain ⟨xr, rfl, Sr⟩ := q125
          refine gRetA K125 hlk hret rfl rfl b4_43 P126 (by decide) (by decide) ?_
          exact ⟨_, 3, rfl, Sr, Nat.le_of_ble_eq_true rfl, (fun _ q => q.elim hz_c2 hs_c2), (allI hp_c3 allI0)⟩
        · skip
          have hu : ∃ c ∈ [c0, c1, c2], (255 : Int32) < c := hiPre (a := [c0, c1, c2]) (b := [c3]) (by obtain ⟨t, kb, -, -, -, -, -, q, -⟩ := hA; exact q) ((allI hp_c3 allI0))
          refine gCallV K123 (W := 0) (C := "java/lang/String") x [(.int (0 : Int32)), (.int (3 : Int32))] [] b4_40 (wd hw 42 rfl) (wd hw 43 rfl) (wd hw 45 rfl) (wd hw 44 rfl) (Cal.ofN (W := 0) (c_subU4_3 l Z a0 hw h123 n0 K123.n0le c0 c1 c2 c3 x hA z (Scj.ext (Ext.tr E121 E123)) hz fm (Sfj.ext (Ext.tr E121 E123)) rf (uj.ext (Ext.tr E121 E123)) hu) (wd hw 46 rfl) (wd hw 7 rfl) (by decide) (by decide)) (StrA.exa (Or.inr hA)) (fun _ q => nomatch q) pd18 rfl rfl (Nat.le_of_eq rfl) rfl (by decide) (by decide) (by decide) (fun v127 T127 h127 K127 Q127 q127 => ?_)
          have E127 := Ext.of0 Q127
          have P128 := P124.ext E127
          obtain ⟨xr, rfl, Sr⟩ := q127
          refine gRetA K127 hlk hret rfl rfl b4_43 P128 (by decide) (by decide) ?_
          exact ⟨_, 3, rfl, Sr, Nat.le_of_ble_eq_true rfl, (fun _ q => q.elim hz_c2 hs_c2), (allI hp_c3 allI0)⟩
      · skip
        exact j_c2 (Or.inr hs_c2) _ _ K123 P124 (Aj.ext (Ext.tr E121 E123)) (Scj.ext (Ext.tr E121 E123)) (Sfj.ext (Ext.tr E121 E123)) (uj.ext (Ext.tr E121 E123))
  refine gCallV K101 (W := 0) (C := "java/lang/String") x [(.int (3 : Int32))] [] b4_13 (wd hw 70 rfl) (wd hw 71 rfl) (wd hw 73 rfl) (wd hw 72 rfl) (cal_chA hw K101.n0le (W := 0) (cs := [c0, c1, c2, c3]) 3 (A.ext E101) (Sc.ext E101) hz (Sf.ext E101) rf (u.ext E101) (Nat.le_of_ble_eq_true rfl) (by decide) (by decide)) ((A.ext E101)).exa (fun _ q => nomatch q) pd20 rfl rfl (Nat.le_of_eq rfl) rfl (by decide) (by decide) (by decide) (fun v129 T129 h129 K129 Q129 q129 => ?_)
  have E129 := Ext.of0 Q129
  have P130 := P102.ext E129
  have q129' : v129 = some (.int c3) := q129
  cases q129'
  refine gIf_eq K129 b4_16 (fun hz_c3 => ?_) (fun hz_c3 => ?_)
  · skip
    exact j_c3 (Or.inl hz_c3) _ _ K129 P130 (A.ext (Ext.tr E101 E129)) (Sc.ext (Ext.tr E101 E129)) (Sf.ext (Ext.tr E101 E129)) (u.ext (Ext.tr E101 E129))
  · skip
    refine gAloadN K129 b4_19 (v := (.ref x)) rfl rfl ?_
    refine gIloadN K129 b4_20 (v := (4 : Int32)) rfl ?_
    refine gIconst K129 (1 : Int32) b4_21 rfl ?_
    refine gIsubV K129 (3 : Int32) b4_22 (by decide) ?_
    refine gCallV K129 (W := 0) (C := "java/lang/String") x [(.int (3 : Int32))] [] b4_23 (wd hw 70 rfl) (wd hw 71 rfl) (wd hw 73 rfl) (wd hw 72 rfl) (cal_chA hw K129.n0le (W := 0) (cs := [c0, c1, c2, c3]) 3 (A.ext (Ext.tr E101 E129)) (Sc.ext (Ext.tr E101 E129)) hz (Sf.ext (Ext.tr E101 E129)) rf (u.ext (Ext.tr E101 E129)) (Nat.le_of_ble_eq_true rfl) (by decide) (by decide)) ((A.ext (Ext.tr E101 E129))).exa (fun _ q => nomatch q) pd20 rfl rfl (Nat.le_of_eq rfl) rfl (by decide) (by decide) (by decide) (fun v131 T131 h131 K131 Q131 q131 => ?_)
    have E131 := Ext.of0 Q131
    have P132 := P130.ext E131
    have q131' : v131 = some (.int c3) := q131
    cases q131'
    refine gBipush K131 (32 : Int32) b4_26 rfl ?_
    refine gIcmp_ne K131 b4_28 (fun hs_c3 => ?_) (fun hs_c3 => ?_)
    · skip
      refine gAloadN K131 b4_37 (v := (.ref x)) rfl rfl ?_
      refine gIconst K131 (0 : Int32) b4_38 rfl ?_
      refine gIloadN K131 b4_39 (v := (4 : Int32)) rfl ?_
      refine gCallV K131 (W := 0) (C := "java/lang/String") x [(.int (0 : Int32)), (.int (4 : Int32))] [] b4_40 (wd hw 42 rfl) (wd hw 43 rfl) (wd hw 45 rfl) (wd hw 44 rfl) (Cal.ofN (W := 0) (c_subE4_4 l Z a0 hw h131 n0 K131.n0le c0 c1 c2 c3 x (A.ext (Ext.tr (Ext.tr E101 E129) E131)) z (Sc.ext (Ext.tr (Ext.tr E101 E129) E131)) hz fm (Sf.ext (Ext.tr (Ext.tr E101 E129) E131)) rf (u.ext (Ext.tr (Ext.tr E101 E129) E131))) (wd hw 46 rfl) (wd hw 7 rfl) (by decide) (by decide)) ((A.ext (Ext.tr (Ext.tr E101 E129) E131))).exa (fun _ q => nomatch q) pd18 rfl rfl (Nat.le_of_eq rfl) rfl (by decide) (by decide) (by decide) (fun v133 T133 h133 K133 Q133 q133 => ?_)
      have E133 := Ext.of0 Q133
      have P134 := P132.ext E133
      obtain ⟨xr, rfl, Sr⟩ := q133
      refine gRetA K133 hlk hret rfl rfl b4_43 P134 (by decide) (by decide) ?_
      exact ⟨_, 4, rfl, Sr, Nat.le_of_ble_eq_true rfl, (fun _ q => q.elim hz_c3 hs_c3), allI0⟩
    · skip
      exact j_c3 (Or.inr hs_c3) _ _ K131 P132 (A.ext (Ext.tr (Ext.tr E101 E129) E131)) (Sc.ext (Ext.tr (Ext.tr E101 E129) E131)) (Sf.ext (Ext.tr (Ext.tr E101 E129) E131)) (u.ext (Ext.tr (Ext.tr E101 E129) E131))
theorem c_wp (l : Launch) (Z : State) (a0 : Array Value) (hw : ∀ d ∈ tables_1, d.before a0 Z = true) (h0 : Heap) (n0 : Nat) (Z0 : n0 ≤ h0.size) (cs : List Int32) (hN : cs.length ≤ 4) (x : Addr) (A : StrA Z h0 x cs) (z : Int32) (Sc : Sta Z h0 "java/lang/String" "COMPACT_STRINGS" "Z" (.int z)) (hz : ¬ z = 0) (fm : Value) (Sf : Sta Z h0 "jdk/internal/util/Preconditions" "SIOOBE_FORMATTER" "Ljava/util/function/BiFunction;" fm) (rf : fm.isRef = true) (u : US Z h0) (hE : EW Z a0 [("java/lang/String", 7), ("java/lang/StringLatin1", 151)]) :
    Con (some [("java/lang/String", 7), ("java/lang/StringLatin1", 151)]) l (⟨"com/example/stowage/stowage/dicom/Uid", "withoutPadding", "(Ljava/lang/String;)Ljava/lang/String;"⟩ : MethodName) prog_11_method_5_code 2 (some (.object "java/lang/String")) [] ({ frames := 7, cells := 3, slots := 16, locals := 130 } : Room) Z n0 h0 [] #[.ref x] (fun v h => ∃ (x : Addr) (t : Nat), v = some (.ref x) ∧ StrA Z h x (cs.take t) ∧ WP cs t) := by
  match cs, hN, A with
  | [], _, A => exact c_wp0 l Z a0 hw h0 n0 Z0  x A z Sc hz fm Sf rf u hE
  | [c0], _, A => exact c_wp1 l Z a0 hw h0 n0 Z0 c0 x A z Sc hz fm Sf rf u hE
  | [c0, c1], _, A => exact c_wp2 l Z a0 hw h0 n0 Z0 c0 c1 x A z Sc hz fm Sf rf u hE
  | [c0, c1, c2], _, A => exact c_wp3 l Z a0 hw h0 n0 Z0 c0 c1 c2 x A z Sc hz fm Sf rf u hE
  | [c0, c1, c2, c3], _, A => exact c_wp4 l Z a0 hw h0 n0 Z0 c0 c1 c2 c3 x A z Sc hz fm Sf rf u hE
  | _ :: _ :: _ :: _ :: _ :: _, h, _ => exact absurd h (by simp)

set_option maxRecDepth 65536 in
set_option maxHeartbeats 40000000 in
theorem c_slot (l : Launch) (Z : State) (a0 : Array Value) (hw : ∀ d ∈ tables_1, d.before a0 Z = true) (h0 : Heap) (n0 : Nat) (Z0 : n0 ≤ h0.size) (x : Addr) (cs : List Int32) (t N i : Nat) (cc : Int32) (hN : cs.length = N) (hN4 : N ≤ 4) (hi4 : i ≤ 4) (A : StrA Z h0 x (cs.take t)) (hwp : WP cs t) (hc : i < N → cs.getD i 0 = cc) (z : Int32) (Sc : Sta Z h0 "java/lang/String" "COMPACT_STRINGS" "Z" (.int z)) (hz : ¬ z = 0) (fm : Value) (Sf : Sta Z h0 "jdk/internal/util/Preconditions" "SIOOBE_FORMATTER" "Ljava/util/function/BiFunction;" fm) (rf : fm.isRef = true) (u : US Z h0) :
    Con none l (⟨"com/example/stowage/stowage/dicom/UidWithoutPaddingPinLaw", "slot", "(Ljava/lang/String;IIIC)Z"⟩ : MethodName) method_4_code 5 (some .boolean) [] ({ frames := 5, cells := 0, slots := 0, locals := 70 } : Room) Z n0 h0 [] #[(.ref x), (.int (Int32.ofNat t)), (.int (Int32.ofNat N)), (.int (Int32.ofNat i)), (.int cc)] (fun v h => v = some (.int 1)) := by
  have ht4 : t ≤ cs.length := hwp.1
  refine Con.intro pn3 Z0 (fun _ q => nomatch q) trivial #[.val (.ref x), .val (.int (Int32.ofNat t)), .val (.int (Int32.ofNat N)), .val (.int (Int32.ofNat i)), .val (.int cc)] (fun m => by first | (simp [entryFrame, mkF, argsToLocals, Value.category]; done) | rfl) ?_
  intro p e s m below meth c T0 hlk hret hnm K0
  have P0 := Keep.refl h0 []
  refine gIloadN K0 b10_0 (v := (Int32.ofNat i)) rfl ?_
  refine gIloadN K0 b10_1 (v := (Int32.ofNat N)) rfl ?_
  refine gIcmp_lt K0 b10_2 (fun q2 => ?_) (fun q2 => ?_)
  · skip
    refine gIloadN K0 b10_7 (v := (Int32.ofNat i)) rfl ?_
    refine gIloadN K0 b10_8 (v := (Int32.ofNat t)) rfl ?_
    refine gIcmp_ge K0 b10_9 (fun q9 => ?_) (fun q9 => ?_)
    · skip
      refine gIload K0 b10_28 (v := cc) rfl ?_
      have hiN := ofNat_lt (by omega) (by omega) q2
      have hti : t ≤ i := Nat.le_of_not_lt (fun q => q9 (ofNat_ltI q (by omega)))
      refine gCallS K0 (W := 0) [(.int cc)] [] b10_30 (wd hw 91 rfl) (wd hw 92 rfl) (wd hw 3 rfl) (wd hw 93 rfl) (Cal.ofN (W := 0) (c_pad l Z a0 hw h0 n0 K0.n0le cc) (wd hw 93 rfl) (wd hw 3 rfl) (by decide) (by decide)) (fun _ q => nomatch q) pd26 rfl rfl (Nat.le_of_eq rfl) rfl (by decide) (by decide) (by decide) (fun v101 T101 h101 K101 Q101 q101 => ?_)
      have E101 := Ext.of0 Q101
      have P102 := P0.ext E101
      cases q101
      rw [if_pos (show pd cc from hc hiN ▸ hwp.at hti (by omega))]
      refine gRetI K101 hlk hret (by simp) b10_33 rfl P102 (by decide) (by decide) ?_
      exact rfl
    · skip
      refine gAloadN K0 b10_12 (v := (.ref x)) rfl rfl ?_
      refine gIloadN K0 b10_13 (v := (Int32.ofNat i)) rfl ?_
      have hiN := ofNat_lt (by omega) (by omega) q2
      have hit : i < t := Nat.lt_of_not_le (fun q => ofNat_nlt q (by omega) q9)
      refine gCallV K0 (W := 0) (C := "java/lang/String") x [(.int (Int32.ofNat i))] [] b10_14 (wd hw 90 rfl) (wd hw 71 rfl) (wd hw 73 rfl) (wd hw 72 rfl) (cal_chA hw K0.n0le (W := 0) i A Sc hz Sf rf u (by rw [hwp.len]; exact hit) (by decide) (by decide)) (A).exa (fun _ q => nomatch q) pd20 rfl rfl (Nat.le_of_eq rfl) rfl (by decide) (by decide) (by decide) (fun v103 T103 h103 K103 Q103 q103 => ?_)
      have E103 := Ext.of0 Q103
      have P104 := P0.ext E103
      cases q103
      rw [take_getD hit, hc hiN]
      refine gIload K103 b10_17 (v := cc) rfl ?_
      refine gIcmp_ne K103 b10_19 (fun q => absurd q (not_not_intro rfl)) (fun q19 => ?_)
      refine gIconst K103 (1 : Int32) b10_22 rfl ?_
      refine gGoto K103 b10_23 ?_
      refine gRetI K103 hlk hret (by simp) b10_27 rfl P104 (by decide) (by decide) ?_
      exact rfl
  · skip
    refine gIconst K0 (1 : Int32) b10_5 rfl ?_
    refine gRetI K0 hlk hret (by simp) b10_6 rfl P0 (by decide) (by decide) ?_
    exact rfl
set_option maxRecDepth 65536 in
set_option maxHeartbeats 40000000 in
theorem c_law (l : Launch) (Z : State) (a0 : Array Value) (hw : ∀ d ∈ tables_1, d.before a0 Z = true) (h0 : Heap) (n0 : Nat) (Z0 : n0 ≤ h0.size) (hE : EW Z a0 [("java/lang/String", 7), ("java/lang/StringLatin1", 151)]) (len x0 x1 x2 x3 : Int32) (z : Int32) (Sc : Sta Z h0 "java/lang/String" "COMPACT_STRINGS" "Z" (.int z)) (hz : ¬ z = 0) (fm : Value) (Sf : Sta Z h0 "jdk/internal/util/Preconditions" "SIOOBE_FORMATTER" "Ljava/util/function/BiFunction;" fm) (rf : fm.isRef = true) (u : US Z h0) :
    Con (some [("java/lang/String", 7), ("java/lang/StringLatin1", 151)]) l (⟨"com/example/stowage/stowage/dicom/UidWithoutPaddingPinLaw", "law", "(IIIII)Z"⟩ : MethodName) code maxLocals ret tables_1 room_1 Z n0 h0 [] #[(.int len), (.int x0), (.int x1), (.int x2), (.int x3)] (fun v h => v = some (.int 1)) := by
  refine Con.intro pn3 Z0 (fun _ q => nomatch q) ⟨a0, hE⟩ #[.val (.int len), .val (.int x0), .val (.int x1), .val (.int x2), .val (.int x3), .unset, .unset, .unset, .unset, .unset, .unset, .unset, .unset] (fun m => by first | (simp [entryFrame, mkF, argsToLocals, Value.category, maxLocals]; done) | rfl) ?_
  intro p e s m below meth c T0 hlk hret hnm K0
  have P0 := Keep.refl h0 []
  refine gIloadN K0 L_0 (v := len) rfl ?_
  refine gLdcI K0 (2147483647 : Int32) L_1 (wd hw 0 rfl) ?_
  refine gIand K0 L_3 ?_
  refine gIconst K0 (5 : Int32) L_4 rfl ?_
  refine gIrem K0 L_5 (by decide) ?_
  have hm5 := mod5 len
  generalize ((len &&& (2147483647 : Int32)) % (5 : Int32)) = nn at hm5 ⊢
  refine gIstore K0 L_6 (Ls' := #[.val (.int len), .val (.int x0), .val (.int x1), .val (.int x2), .val (.int x3), .val (.int nn), .unset, .unset, .unset, .unset, .unset, .unset, .unset]) rfl ?_
  refine gIloadN K0 L_8 (v := x0) rfl ?_
  refine gCallS K0 (W := 0) [(.int x0)] [] L_9 (wd hw 1 rfl) (wd hw 2 rfl) (wd hw 3 rfl) (wd hw 4 rfl) (Cal.ofN (W := 0) (c_draw l Z a0 hw h0 n0 K0.n0le x0) (wd hw 4 rfl) (wd hw 3 rfl) (by decide) (by decide)) (fun _ q => nomatch q) pd20 rfl rfl (Nat.le_of_eq rfl) rfl (by decide) (by decide) (by decide) (fun v101 T101 h101 K101 Q101 q101 => ?_)
  have E101 := Ext.of0 Q101
  have P102 := P0.ext E101
  obtain ⟨r0, rfl, hb0⟩ := q101
  refine gIstore K101 L_12 (Ls' := #[.val (.int len), .val (.int x0), .val (.int x1), .val (.int x2), .val (.int x3), .val (.int nn), .val (.int r0), .unset, .unset, .unset, .unset, .unset, .unset]) rfl ?_
  refine gIloadN K101 L_14 (v := x1) rfl ?_
  refine gCallS K101 (W := 0) [(.int x1)] [] L_15 (wd hw 1 rfl) (wd hw 2 rfl) (wd hw 3 rfl) (wd hw 4 rfl) (Cal.ofN (W := 0) (c_draw l Z a0 hw h101 n0 K101.n0le x1) (wd hw 4 rfl) (wd hw 3 rfl) (by decide) (by decide)) (fun _ q => nomatch q) pd20 rfl rfl (Nat.le_of_eq rfl) rfl (by decide) (by decide) (by decide) (fun v103 T103 h103 K103 Q103 q103 => ?_)
  have E103 := Ext.of0 Q103
  have P104 := P102.ext E103
  obtain ⟨r1, rfl, hb1⟩ := q103
  refine gIstore K103 L_18 (Ls' := #[.val (.int len), .val (.int x0), .val (.int x1), .val (.int x2), .val (.int x3), .val (.int nn), .val (.int r0), .val (.int r1), .unset, .unset, .unset, .unset, .unset]) rfl ?_
  refine gIloadN K103 L_20 (v := x2) rfl ?_
  refine gCallS K103 (W := 0) [(.int x2)] [] L_21 (wd hw 1 rfl) (wd hw 2 rfl) (wd hw 3 rfl) (wd hw 4 rfl) (Cal.ofN (W := 0) (c_draw l Z a0 hw h103 n0 K103.n0le x2) (wd hw 4 rfl) (wd hw 3 rfl) (by decide) (by decide)) (fun _ q => nomatch q) pd20 rfl rfl (Nat.le_of_eq rfl) rfl (by decide) (by decide) (by decide) (fun v105 T105 h105 K105 Q105 q105 => ?_)
  have E105 := Ext.of0 Q105
  have P106 := P104.ext E105
  obtain ⟨r2, rfl, hb2⟩ := q105
  refine gIstore K105 L_24 (Ls' := #[.val (.int len), .val (.int x0), .val (.int x1), .val (.int x2), .val (.int x3), .val (.int nn), .val (.int r0), .val (.int r1), .val (.int r2), .unset, .unset, .unset, .unset]) rfl ?_
  refine gIload K105 L_26 (v := x3) rfl ?_
  refine gCallS K105 (W := 0) [(.int x3)] [] L_28 (wd hw 1 rfl) (wd hw 2 rfl) (wd hw 3 rfl) (wd hw 4 rfl) (Cal.ofN (W := 0) (c_draw l Z a0 hw h105 n0 K105.n0le x3) (wd hw 4 rfl) (wd hw 3 rfl) (by decide) (by decide)) (fun _ q => nomatch q) pd20 rfl rfl (Nat.le_of_eq rfl) rfl (by decide) (by decide) (by decide) (fun v107 T107 h107 K107 Q107 q107 => ?_)
  have E107 := Ext.of0 Q107
  have P108 := P106.ext E107
  obtain ⟨r3, rfl, hb3⟩ := q107
  refine gIstore K107 L_31 (Ls' := #[.val (.int len), .val (.int x0), .val (.int x1), .val (.int x2), .val (.int x3), .val (.int nn), .val (.int r0), .val (.int r1), .val (.int r2), .val (.int r3), .unset, .unset, .unset]) rfl ?_
  have j178 : ∀ (xa xs : Addr) (cs : List Int32) (N : Nat) (hN : cs.length = N) (hN4 : N ≤ 4) (hr0 : 0 < N → cs.getD 0 0 = r0) (hr1 : 1 < N → cs.getD 1 0 = r1) (hr2 : 2 < N → cs.getD 2 0 = r2) (hr3 : 3 < N → cs.getD 3 0 = r3) (Tj : State) (hj : Heap) (Kj : Cx p l e room_1 s m #[(.int len), (.int x0), (.int x1), (.int x2), (.int x3)] below meth c code maxLocals Z "com/example/stowage/stowage/dicom/UidWithoutPaddingPinLaw" n0 (some [("java/lang/String", 7), ("java/lang/StringLatin1", 151)]) Tj hj [xa, xs] 6 20) (Pj : Keep h0 hj []) (Aj : StrA Z hj xs cs) (Scj : Sta Z hj "java/lang/String" "COMPACT_STRINGS" "Z" (.int z)) (Sfj : Sta Z hj "jdk/internal/util/Preconditions" "SIOOBE_FORMATTER" "Ljava/util/function/BiFunction;" fm) (uj : US Z hj), Go p e below (End (some [("java/lang/String", 7), ("java/lang/StringLatin1", 151)]) s Z n0 h0 [] room_1.cells room_1.slots (fun v h => v = some (.int 1))) Tj (mkF m 178 #[.val (.int len), .val (.int x0), .val (.int x1), .val (.int x2), .val (.int x3), .val (.int (Int32.ofNat N)), .val (.int r0), .val (.int r1), .val (.int r2), .val (.int r3), .val (.ref xs), .unset, .unset] []) := by
    intro xa xs cs N hN hN4 hr0 hr1 hr2 hr3 Tj hj Kj Pj Aj Scj Sfj uj
    refine gAload Kj L_178 (v := (.ref xs)) rfl rfl ?_
    refine gCallS Kj (W := 0) [(.ref xs)] [] L_180 (wd hw 27 rfl) (wd hw 28 rfl) (wd hw 29 rfl) (wd hw 30 rfl) (Cal.ofW (W := 0) (c_wp l Z a0 hw hj n0 Kj.n0le cs (by omega) xs Aj z Scj hz fm Sfj rf uj hE) (wd hw 30 rfl) (wd hw 29 rfl) (by decide) (by decide)) (fun _ q => nomatch q) pd27 rfl rfl (Nat.le_of_eq rfl) rfl (by decide) (by decide) (by decide) (fun v109 T109 h109 K109 Q109 q109 => ?_)
    have E109 := Ext.of0 Q109
    have P110 := Pj.ext E109
    obtain ⟨xr, t, rfl, Sr, hwp⟩ := q109
    have ht4 : t ≤ cs.length := hwp.1
    refine gAstore K109 L_183 rfl (Ls' := #[.val (.int len), .val (.int x0), .val (.int x1), .val (.int x2), .val (.int x3), .val (.int (Int32.ofNat N)), .val (.int r0), .val (.int r1), .val (.int r2), .val (.int r3), .val (.ref xs), .val (.ref xr), .unset]) rfl ?_
    refine gAload K109 L_185 (v := (.ref xr)) rfl rfl ?_
    refine gCallV K109 (W := 0) (C := "java/lang/String") xr [] [] L_187 (wd hw 56 rfl) (wd hw 32 rfl) (wd hw 34 rfl) (wd hw 33 rfl) (cal_lenA hw K109.n0le (W := 0) Sr (Scj.ext E109) hz (by decide) (by decide)) (Sr).exa (fun _ q => nomatch q) pd16 rfl rfl (Nat.le_of_eq rfl) rfl (by decide) (by decide) (by decide) (fun v111 T111 h111 K111 Q111 q111 => ?_)
    have E111 := Ext.of0 Q111
    have P112 := P110.ext E111
    cases q111
    rw [hwp.len]
    refine gIstore K111 L_190 (Ls' := #[.val (.int len), .val (.int x0), .val (.int x1), .val (.int x2), .val (.int x3), .val (.int (Int32.ofNat N)), .val (.int r0), .val (.int r1), .val (.int r2), .val (.int r3), .val (.ref xs), .val (.ref xr), .val (.int (Int32.ofNat t))]) rfl ?_
    refine gIload K111 L_192 (v := (Int32.ofNat t)) rfl ?_
    refine gIload K111 L_194 (v := (Int32.ofNat N)) rfl ?_
    refine gIcmp_le K111 L_196 (fun q196 => ?_) (fun q => absurd q (ofNat_nlt (k := N) (by omega) (by omega)))
    refine gIload K111 L_201 (v := (Int32.ofNat t)) rfl ?_
    refine gIf_le K111 L_203 (fun q203 => ?_) (fun q203 => ?_)
    · skip
      refine gAload K111 L_223 (v := (.ref xr)) rfl rfl ?_
      refine gIload K111 L_225 (v := (Int32.ofNat t)) rfl ?_
      refine gIload K111 L_227 (v := (Int32.ofNat N)) rfl ?_
      refine gIconst K111 (0 : Int32) L_229 rfl ?_
      refine gIload K111 L_230 (v := r0) rfl ?_
      refine gCallS K111 (W := 0) [(.ref xr), (.int (Int32.ofNat t)), (.int (Int32.ofNat N)), (.int (0 : Int32)), (.int r0)] [] L_232 (wd hw 57 rfl) (wd hw 58 rfl) (wd hw 3 rfl) (wd hw 59 rfl) (Cal.ofN (W := 0) (c_slot l Z a0 hw h111 n0 K111.n0le xr cs t N 0 r0 hN hN4 (by decide) (Sr.ext E111) hwp hr0 z (Scj.ext (Ext.tr E109 E111)) hz fm (Sfj.ext (Ext.tr E109 E111)) rf (uj.ext (Ext.tr E109 E111))) (wd hw 59 rfl) (wd hw 3 rfl) (by decide) (by decide)) (fun _ q => nomatch q) pd28 rfl rfl (Nat.le_of_eq rfl) rfl (by decide) (by decide) (by decide) (fun v113 T113 h113 K113 Q113 q113 => ?_)
      have E113 := Ext.of0 Q113
      have P114 := P112.ext E113
      cases q113
      refine gIf_eq K113 L_235 (fun q => absurd q (by first | decide | (intro hh; cases hh) | simp)) (fun q235 => ?_)
      refine gAload K113 L_238 (v := (.ref xr)) rfl rfl ?_
      refine gIload K113 L_240 (v := (Int32.ofNat t)) rfl ?_
      refine gIload K113 L_242 (v := (Int32.ofNat N)) rfl ?_
      refine gIconst K113 (1 : Int32) L_244 rfl ?_
      refine gIload K113 L_245 (v := r1) rfl ?_
      refine gCallS K113 (W := 0) [(.ref xr), (.int (Int32.ofNat t)), (.int (Int32.ofNat N)), (.int (1 : Int32)), (.int r1)] [] L_247 (wd hw 57 rfl) (wd hw 58 rfl) (wd hw 3 rfl) (wd hw 59 rfl) (Cal.ofN (W := 0) (c_slot l Z a0 hw h113 n0 K113.n0le xr cs t N 1 r1 hN hN4 (by decide) (Sr.ext (Ext.tr E111 E113)) hwp hr1 z (Scj.ext (Ext.tr (Ext.tr E109 E111) E113)) hz fm (Sfj.ext (Ext.tr (Ext.tr E109 E111) E113)) rf (uj.ext (Ext.tr (Ext.tr E109 E111) E113))) (wd hw 59 rfl) (wd hw 3 rfl) (by decide) (by decide)) (fun _ q => nomatch q) pd28 rfl rfl (Nat.le_of_eq rfl) rfl (by decide) (by decide) (by decide) (fun v115 T115 h115 K115 Q115 q115 => ?_)
      have E115 := Ext.of0 Q115
      have P116 := P114.ext E115
      cases q115
      refine gIf_eq K115 L_250 (fun q => absurd q (by first | decide | (intro hh; cases hh) | simp)) (fun q250 => ?_)
      refine gAload K115 L_253 (v := (.ref xr)) rfl rfl ?_
      refine gIload K115 L_255 (v := (Int32.ofNat t)) rfl ?_
      refine gIload K115 L_257 (v := (Int32.ofNat N)) rfl ?_
      refine gIconst K115 (2 : Int32) L_259 rfl ?_
      refine gIload K115 L_260 (v := r2) rfl ?_
      refine gCallS K115 (W := 0) [(.ref xr), (.int (Int32.ofNat t)), (.int (Int32.ofNat N)), (.int (2 : Int32)), (.int r2)] [] L_262 (wd hw 57 rfl) (wd hw 58 rfl) (wd hw 3 rfl) (wd hw 59 rfl) (Cal.ofN (W := 0) (c_slot l Z a0 hw h115 n0 K115.n0le xr cs t N 2 r2 hN hN4 (by decide) (Sr.ext (Ext.tr (Ext.tr E111 E113) E115)) hwp hr2 z (Scj.ext (Ext.tr (Ext.tr (Ext.tr E109 E111) E113) E115)) hz fm (Sfj.ext (Ext.tr (Ext.tr (Ext.tr E109 E111) E113) E115)) rf (uj.ext (Ext.tr (Ext.tr (Ext.tr E109 E111) E113) E115))) (wd hw 59 rfl) (wd hw 3 rfl) (by decide) (by decide)) (fun _ q => nomatch q) pd28 rfl rfl (Nat.le_of_eq rfl) rfl (by decide) (by decide) (by decide) (fun v117 T117 h117 K117 Q117 q117 => ?_)
      have E117 := Ext.of0 Q117
      have P118 := P116.ext E117
      cases q117
      refine gIf_eq K117 L_265 (fun q => absurd q (by first | decide | (intro hh; cases hh) | simp)) (fun q265 => ?_)
      refine gAload K117 L_268 (v := (.ref xr)) rfl rfl ?_
      refine gIload K117 L_270 (v := (Int32.ofNat t)) rfl ?_
      refine gIload K117 L_272 (v := (Int32.ofNat N)) rfl ?_
      refine gIconst K117 (3 : Int32) L_274 rfl ?_
      refine gIload K117 L_275 (v := r3) rfl ?_
      refine gCallS K117 (W := 0) [(.ref xr), (.int (Int32.ofNat t)), (.int (Int32.ofNat N)), (.int (3 : Int32)), (.int r3)] [] L_277 (wd hw 57 rfl) (wd hw 58 rfl) (wd hw 3 rfl) (wd hw 59 rfl) (Cal.ofN (W := 0) (c_slot l Z a0 hw h117 n0 K117.n0le xr cs t N 3 r3 hN hN4 (by decide) (Sr.ext (Ext.tr (Ext.tr (Ext.tr E111 E113) E115) E117)) hwp hr3 z (Scj.ext (Ext.tr (Ext.tr (Ext.tr (Ext.tr E109 E111) E113) E115) E117)) hz fm (Sfj.ext (Ext.tr (Ext.tr (Ext.tr (Ext.tr E109 E111) E113) E115) E117)) rf (uj.ext (Ext.tr (Ext.tr (Ext.tr (Ext.tr E109 E111) E113) E115) E117))) (wd hw 59 rfl) (wd hw 3 rfl) (by decide) (by decide)) (fun _ q => nomatch q) pd28 rfl rfl (Nat.le_of_eq rfl) rfl (by decide) (by decide) (by decide) (fun v119 T119 h119 K119 Q119 q119 => ?_)
      have E119 := Ext.of0 Q119
      have P120 := P118.ext E119
      cases q119
      refine gIf_eq K119 L_280 (fun q => absurd q (by first | decide | (intro hh; cases hh) | simp)) (fun q280 => ?_)
      refine gIconst K119 (1 : Int32) L_283 rfl ?_
      refine gGoto K119 L_284 ?_
      refine gRetI K119 hlk hret (by simp) L_288 rfl P120 (by decide) (by decide) ?_
      exact rfl
    · skip
      refine gAload K111 L_206 (v := (.ref xr)) rfl rfl ?_
      refine gIload K111 L_208 (v := (Int32.ofNat t)) rfl ?_
      refine gIconst K111 (1 : Int32) L_210 rfl ?_
      refine gIsub K111 L_211 ?_
      have h0t : 0 < t := ofNat_lt (k := 0) (by omega) (by omega) q203
      rw [show ((Int32.ofNat t) - (1 : Int32)) = Int32.ofNat (t - 1) from ofNat_sub (a := t) (b := 1) (by omega) (by omega)]
      refine gCallV K111 (W := 0) (C := "java/lang/String") xr [(.int (Int32.ofNat (t - 1)))] [] L_212 (wd hw 90 rfl) (wd hw 71 rfl) (wd hw 73 rfl) (wd hw 72 rfl) (cal_chA hw K111.n0le (W := 0) (t - 1) (Sr.ext E111) (Scj.ext (Ext.tr E109 E111)) hz (Sfj.ext (Ext.tr E109 E111)) rf (uj.ext (Ext.tr E109 E111)) (by rw [hwp.len]; omega) (by decide) (by decide)) ((Sr.ext E111)).exa (fun _ q => nomatch q) pd20 rfl rfl (Nat.le_of_eq rfl) rfl (by decide) (by decide) (by decide) (fun v121 T121 h121 K121 Q121 q121 => ?_)
      have E121 := Ext.of0 Q121
      have P122 := P112.ext E121
      cases q121
      rw [take_getD (show t - 1 < t by omega)]
      refine gCallS K121 (W := 0) [(.int (cs.getD (t - 1) 0))] [] L_215 (wd hw 91 rfl) (wd hw 92 rfl) (wd hw 3 rfl) (wd hw 93 rfl) (Cal.ofN (W := 0) (c_pad l Z a0 hw h121 n0 K121.n0le (cs.getD (t - 1) 0)) (wd hw 93 rfl) (wd hw 3 rfl) (by decide) (by decide)) (fun _ q => nomatch q) pd26 rfl rfl (Nat.le_of_eq rfl) rfl (by decide) (by decide) (by decide) (fun v123 T123 h123 K123 Q123 q123 => ?_)
      have E123 := Ext.of0 Q123
      have P124 := P122.ext E123
      cases q123
      rw [if_neg (hwp.2.1 h0t)]
      refine gIf_eq K123 L_218 (fun q218 => ?_) (fun q => absurd q (by first | decide | (intro hh; cases hh) | simp))
      refine gAload K123 L_223 (v := (.ref xr)) rfl rfl ?_
      refine gIload K123 L_225 (v := (Int32.ofNat t)) rfl ?_
      refine gIload K123 L_227 (v := (Int32.ofNat N)) rfl ?_
      refine gIconst K123 (0 : Int32) L_229 rfl ?_
      refine gIload K123 L_230 (v := r0) rfl ?_
      refine gCallS K123 (W := 0) [(.ref xr), (.int (Int32.ofNat t)), (.int (Int32.ofNat N)), (.int (0 : Int32)), (.int r0)] [] L_232 (wd hw 57 rfl) (wd hw 58 rfl) (wd hw 3 rfl) (wd hw 59 rfl) (Cal.ofN (W := 0) (c_slot l Z a0 hw h123 n0 K123.n0le xr cs t N 0 r0 hN hN4 (by decide) (Sr.ext (Ext.tr (Ext.tr E111 E121) E123)) hwp hr0 z (Scj.ext (Ext.tr (Ext.tr (Ext.tr E109 E111) E121) E123)) hz fm (Sfj.ext (Ext.tr (Ext.tr (Ext.tr E109 E111) E121) E123)) rf (uj.ext (Ext.tr (Ext.tr (Ext.tr E109 E111) E121) E123))) (wd hw 59 rfl) (wd hw 3 rfl) (by decide) (by decide)) (fun _ q => nomatch q) pd28 rfl rfl (Nat.le_of_eq rfl) rfl (by decide) (by decide) (by decide) (fun v125 T125 h125 K125 Q125 q125 => ?_)
      have E125 := Ext.of0 Q125
      have P126 := P124.ext E125
      cases q125
      refine gIf_eq K125 L_235 (fun q => absurd q (by first | decide | (intro hh; cases hh) | simp)) (fun q235 => ?_)
      refine gAload K125 L_238 (v := (.ref xr)) rfl rfl ?_
      refine gIload K125 L_240 (v := (Int32.ofNat t)) rfl ?_
      refine gIload K125 L_242 (v := (Int32.ofNat N)) rfl ?_
      refine gIconst K125 (1 : Int32) L_244 rfl ?_
      refine gIload K125 L_245 (v := r1) rfl ?_
      refine gCallS K125 (W := 0) [(.ref xr), (.int (Int32.ofNat t)), (.int (Int32.ofNat N)), (.int (1 : Int32)), (.int r1)] [] L_247 (wd hw 57 rfl) (wd hw 58 rfl) (wd hw 3 rfl) (wd hw 59 rfl) (Cal.ofN (W := 0) (c_slot l Z a0 hw h125 n0 K125.n0le xr cs t N 1 r1 hN hN4 (by decide) (Sr.ext (Ext.tr (Ext.tr (Ext.tr E111 E121) E123) E125)) hwp hr1 z (Scj.ext (Ext.tr (Ext.tr (Ext.tr (Ext.tr E109 E111) E121) E123) E125)) hz fm (Sfj.ext (Ext.tr (Ext.tr (Ext.tr (Ext.tr E109 E111) E121) E123) E125)) rf (uj.ext (Ext.tr (Ext.tr (Ext.tr (Ext.tr E109 E111) E121) E123) E125))) (wd hw 59 rfl) (wd hw 3 rfl) (by decide) (by decide)) (fun _ q => nomatch q) pd28 rfl rfl (Nat.le_of_eq rfl) rfl (by decide) (by decide) (by decide) (fun v127 T127 h127 K127 Q127 q127 => ?_)
      have E127 := Ext.of0 Q127
      have P128 := P126.ext E127
      cases q127
      refine gIf_eq K127 L_250 (fun q => absurd q (by first | decide | (intro hh; cases hh) | simp)) (fun q250 => ?_)
      refine gAload K127 L_253 (v := (.ref xr)) rfl rfl ?_
      refine gIload K127 L_255 (v := (Int32.ofNat t)) rfl ?_
      refine gIload K127 L_257 (v := (Int32.ofNat N)) rfl ?_
      refine gIconst K127 (2 : Int32) L_259 rfl ?_
      refine gIload K127 L_260 (v := r2) rfl ?_
      refine gCallS K127 (W := 0) [(.ref xr), (.int (Int32.ofNat t)), (.int (Int32.ofNat N)), (.int (2 : Int32)), (.int r2)] [] L_262 (wd hw 57 rfl) (wd hw 58 rfl) (wd hw 3 rfl) (wd hw 59 rfl) (Cal.ofN (W := 0) (c_slot l Z a0 hw h127 n0 K127.n0le xr cs t N 2 r2 hN hN4 (by decide) (Sr.ext (Ext.tr (Ext.tr (Ext.tr (Ext.tr E111 E121) E123) E125) E127)) hwp hr2 z (Scj.ext (Ext.tr (Ext.tr (Ext.tr (Ext.tr (Ext.tr E109 E111) E121) E123) E125) E127)) hz fm (Sfj.ext (Ext.tr (Ext.tr (Ext.tr (Ext.tr (Ext.tr E109 E111) E121) E123) E125) E127)) rf (uj.ext (Ext.tr (Ext.tr (Ext.tr (Ext.tr (Ext.tr E109 E111) E121) E123) E125) E127))) (wd hw 59 rfl) (wd hw 3 rfl) (by decide) (by decide)) (fun _ q => nomatch q) pd28 rfl rfl (Nat.le_of_eq rfl) rfl (by decide) (by decide) (by decide) (fun v129 T129 h129 K129 Q129 q129 => ?_)
      have E129 := Ext.of0 Q129
      have P130 := P128.ext E129
      cases q129
      refine gIf_eq K129 L_265 (fun q => absurd q (by first | decide | (intro hh; cases hh) | simp)) (fun q265 => ?_)
      refine gAload K129 L_268 (v := (.ref xr)) rfl rfl ?_
      refine gIload K129 L_270 (v := (Int32.ofNat t)) rfl ?_
      refine gIload K129 L_272 (v := (Int32.ofNat N)) rfl ?_
      refine gIconst K129 (3 : Int32) L_274 rfl ?_
      refine gIload K129 L_275 (v := r3) rfl ?_
      refine gCallS K129 (W := 0) [(.ref xr), (.int (Int32.ofNat t)), (.int (Int32.ofNat N)), (.int (3 : Int32)), (.int r3)] [] L_277 (wd hw 57 rfl) (wd hw 58 rfl) (wd hw 3 rfl) (wd hw 59 rfl) (Cal.ofN (W := 0) (c_slot l Z a0 hw h129 n0 K129.n0le xr cs t N 3 r3 hN hN4 (by decide) (Sr.ext (Ext.tr (Ext.tr (Ext.tr (Ext.tr (Ext.tr E111 E121) E123) E125) E127) E129)) hwp hr3 z (Scj.ext (Ext.tr (Ext.tr (Ext.tr (Ext.tr (Ext.tr (Ext.tr E109 E111) E121) E123) E125) E127) E129)) hz fm (Sfj.ext (Ext.tr (Ext.tr (Ext.tr (Ext.tr (Ext.tr (Ext.tr E109 E111) E121) E123) E125) E127) E129)) rf (uj.ext (Ext.tr (Ext.tr (Ext.tr (Ext.tr (Ext.tr (Ext.tr E109 E111) E121) E123) E125) E127) E129))) (wd hw 59 rfl) (wd hw 3 rfl) (by decide) (by decide)) (fun _ q => nomatch q) pd28 rfl rfl (Nat.le_of_eq rfl) rfl (by decide) (by decide) (by decide) (fun v131 T131 h131 K131 Q131 q131 => ?_)
      have E131 := Ext.of0 Q131
      have P132 := P130.ext E131
      cases q131
      refine gIf_eq K131 L_280 (fun q => absurd q (by first | decide | (intro hh; cases hh) | simp)) (fun q280 => ?_)
      refine gIconst K131 (1 : Int32) L_283 rfl ?_
      refine gGoto K131 L_284 ?_
      refine gRetI K131 hlk hret (by simp) L_288 rfl P132 (by decide) (by decide) ?_
      exact rfl
  rcases hm5 with rfl | rfl | rfl | rfl | rfl
  · skip
    refine gIload K107 L_33 (v := (0 : Int32)) rfl ?_
    refine gIf_ne K107 L_35 (fun q => absurd q (by first | decide | (intro hh; cases hh) | simp)) (fun q35 => ?_)
    refine gNew K107 L_38 (wd hw 5 rfl) (wd hw 6 rfl) (wd hw 7 rfl) (by decide) (by decide) (fun T133 h133 x133 K133 E133 g133 A133 D133 ne133 => ?_)
    have P134 := P108.ext E133
    have ge_x133 : h0.size ≤ x133 := by rw [g133]; exact P108.1
    have F135 : Fld Z h133 x133 "java/lang/String" "value" "[B" .null := (D133 (Or.inr (wd hw 21 rfl)) (ty := (.array .byte)) (by decide))
    have F136 : Fld Z h133 x133 "java/lang/String" "coder" "B" (.int (0 : Int32)) := (D133 (Or.inr (wd hw 22 rfl)) (ty := .byte) (by decide))
    refine gDup K133 L_41 rfl ?_
    refine gIconst K133 (0 : Int32) L_42 rfl ?_
    refine gNewarr K133 L_43 (wd hw 8 rfl) (by decide) 0 (by decide) (by decide) (by decide) (by decide) (fun T137 h137 x137 kA137 K137 E137 g137 A137 ne137 => ?_)
    have P138 := P134.ext E137
    have ge_x137 : h0.size ≤ x137 := by rw [g137]; exact P134.1
    refine gCallI K137 (W := 1) x133 [(.ref x137)] [(.ref x133)] L_45 rfl (wd hw 9 rfl) (wd hw 10 rfl) (wd hw 11 rfl) (cal_str hw hE (W := 1) (cs := []) 0 (K137.wsge (me 1 rfl)) K137.n0le (A133.ext E137) (F135.ext E137) (F136.ext E137) A137 (Sc.ext (Ext.tr (Ext.tr (Ext.tr (Ext.tr (Ext.tr E101 E103) E105) E107) E133) E137)) hz rfl (by decide) allI0 (by decide) (by decide) 16 (by decide) (by decide)) (fun z q => by cases List.mem_singleton.mp q; exact (me 1 rfl)) pd29 rfl rfl (Nat.le_of_eq rfl) rfl (by decide) (by decide) (by decide) (fun v139 T139 h139 K139 Q139 q139 => ?_)
    have P140 := P138.trans Q139 (fun z q => by cases List.mem_singleton.mp q; exact Or.inr ge_x133)
    obtain ⟨rfl, St139⟩ := q139
    have StA : StrA Z h139 x133 ([] : List Int32) := Or.inl St139
    refine gAstore K139 L_48 rfl (Ls' := #[.val (.int len), .val (.int x0), .val (.int x1), .val (.int x2), .val (.int x3), .val (.int (0 : Int32)), .val (.int r0), .val (.int r1), .val (.int r2), .val (.int r3), .val (.ref x133), .unset, .unset]) rfl ?_
    refine gGoto K139 L_50 ?_
    exact j178 x137 x133 ([] : List Int32) 0 rfl (by decide) (fun q => absurd q (by decide)) (fun q => absurd q (by decide)) (fun q => absurd q (by decide)) (fun q => absurd q (by decide)) _ _ K139 P140 StA (Sc.ext (Ext.kp1 (Ext.tr (Ext.tr (Ext.tr (Ext.tr (Ext.tr E101 E103) E105) E107) E133) E137) Q139 (Nat.le_trans (Ext.tr (Ext.tr (Ext.tr E101 E103) E105) E107).1 (Nat.le_of_eq g133.symm)))) (Sf.ext (Ext.kp1 (Ext.tr (Ext.tr (Ext.tr (Ext.tr (Ext.tr E101 E103) E105) E107) E133) E137) Q139 (Nat.le_trans (Ext.tr (Ext.tr (Ext.tr E101 E103) E105) E107).1 (Nat.le_of_eq g133.symm)))) (u.ext (Ext.kp1 (Ext.tr (Ext.tr (Ext.tr (Ext.tr (Ext.tr E101 E103) E105) E107) E133) E137) Q139 (Nat.le_trans (Ext.tr (Ext.tr (Ext.tr E101 E103) E105) E107).1 (Nat.le_of_eq g133.symm))))
  · skip
    refine gIload K107 L_33 (v := (1 : Int32)) rfl ?_
    refine gIf_ne K107 L_35 (fun q35 => ?_) (fun q => absurd q (by first | decide | (intro hh; cases hh) | simp))
    refine gIload K107 L_53 (v := (1 : Int32)) rfl ?_
    refine gIconst K107 (1 : Int32) L_55 rfl ?_
    refine gIcmp_ne K107 L_56 (fun q => absurd q (by first | decide | (intro hh; cases hh) | simp)) (fun q56 => ?_)
    refine gNew K107 L_59 (wd hw 5 rfl) (wd hw 6 rfl) (wd hw 7 rfl) (by decide) (by decide) (fun T141 h141 x141 K141 E141 g141 A141 D141 ne141 => ?_)
    have P142 := P108.ext E141
    have ge_x141 : h0.size ≤ x141 := by rw [g141]; exact P108.1
    have F143 : Fld Z h141 x141 "java/lang/String" "value" "[B" .null := (D141 (Or.inr (wd hw 21 rfl)) (ty := (.array .byte)) (by decide))
    have F144 : Fld Z h141 x141 "java/lang/String" "coder" "B" (.int (0 : Int32)) := (D141 (Or.inr (wd hw 22 rfl)) (ty := .byte) (by decide))
    refine gDup K141 L_62 rfl ?_
    refine gIconst K141 (1 : Int32) L_63 rfl ?_
    refine gNewarr K141 L_64 (wd hw 8 rfl) (by decide) 1 (by decide) (by decide) (by decide) (by decide) (fun T145 h145 x145 kA145 K145 E145 g145 A145 ne145 => ?_)
    have P146 := P142.ext E145
    have ge_x145 : h0.size ≤ x145 := by rw [g145]; exact P142.1
    refine gDup K145 L_66 rfl ?_
    refine gIconst K145 (0 : Int32) L_67 rfl ?_
    refine gIload K145 L_68 (v := r0) rfl ?_
    refine gCastore K145 L_70 (me 0 rfl) A145 rfl (by decide) hb0.1 hb0.2 (fun T147 h147 K147 Q147 A147 => ?_)
    have P148 := P146.trans Q147 (fun z q => by cases List.mem_singleton.mp q; exact Or.inr ge_x145)
    refine gCallI K147 (W := 1) x141 [(.ref x145)] [(.ref x141)] L_71 rfl (wd hw 9 rfl) (wd hw 10 rfl) (wd hw 11 rfl) (Cal.mono (kc' := 4) (ks' := 15) (cal_strA1 hw (W := 1) (K147.wsge (me 1 rfl)) K147.n0le (A141.ext (Ext.kp1 E145 Q147 (Nat.le_of_eq g145.symm))) (F143.ext (Ext.kp1 E145 Q147 (Nat.le_of_eq g145.symm))) (F144.ext (Ext.kp1 E145 Q147 (Nat.le_of_eq g145.symm))) A147 (Sc.ext (Ext.kp1 (Ext.tr (Ext.tr (Ext.tr (Ext.tr (Ext.tr E101 E103) E105) E107) E141) E145) Q147 (Nat.le_trans (Ext.tr (Ext.tr (Ext.tr (Ext.tr E101 E103) E105) E107) E141).1 (Nat.le_of_eq g145.symm)))) hz (u.ext (Ext.kp1 (Ext.tr (Ext.tr (Ext.tr (Ext.tr (Ext.tr E101 E103) E105) E107) E141) E145) Q147 (Nat.le_trans (Ext.tr (Ext.tr (Ext.tr (Ext.tr E101 E103) E105) E107) E141).1 (Nat.le_of_eq g145.symm)))) hb0 (by decide) (by decide)) (by decide) (by decide) (fun _ _ q => q)) (fun z q => by cases List.mem_singleton.mp q; exact (me 1 rfl)) pd29 rfl rfl (Nat.le_of_eq rfl) rfl (by decide) (by decide) (by decide) (fun v149 T149 h149 K149 Q149 q149 => ?_)
    have P150 := P148.trans Q149 (fun z q => by cases List.mem_singleton.mp q; exact Or.inr ge_x141)
    obtain ⟨rfl, St149⟩ := q149
    refine gAstore K149 L_74 rfl (Ls' := #[.val (.int len), .val (.int x0), .val (.int x1), .val (.int x2), .val (.int x3), .val (.int (1 : Int32)), .val (.int r0), .val (.int r1), .val (.int r2), .val (.int r3), .val (.ref x141), .unset, .unset]) rfl ?_
    refine gGoto K149 L_76 ?_
    exact j178 x145 x141 [r0] 1 rfl (by decide) (fun _ => rfl) (fun q => absurd q (by decide)) (fun q => absurd q (by decide)) (fun q => absurd q (by decide)) _ _ K149 P150 St149 (Sc.ext (Ext.kp1 (Ext.kp1 (Ext.tr (Ext.tr (Ext.tr (Ext.tr (Ext.tr E101 E103) E105) E107) E141) E145) Q147 (Nat.le_trans (Ext.tr (Ext.tr (Ext.tr (Ext.tr E101 E103) E105) E107) E141).1 (Nat.le_of_eq g145.symm))) Q149 (Nat.le_trans (Ext.tr (Ext.tr (Ext.tr E101 E103) E105) E107).1 (Nat.le_of_eq g141.symm)))) (Sf.ext (Ext.kp1 (Ext.kp1 (Ext.tr (Ext.tr (Ext.tr (Ext.tr (Ext.tr E101 E103) E105) E107) E141) E145) Q147 (Nat.le_trans (Ext.tr (Ext.tr (Ext.tr (Ext.tr E101 E103) E105) E107) E141).1 (Nat.le_of_eq g145.symm))) Q149 (Nat.le_trans (Ext.tr (Ext.tr (Ext.tr E101 E103) E105) E107).1 (Nat.le_of_eq g141.symm)))) (u.ext (Ext.kp1 (Ext.kp1 (Ext.tr (Ext.tr (Ext.tr (Ext.tr (Ext.tr E101 E103) E105) E107) E141) E145) Q147 (Nat.le_trans (Ext.tr (Ext.tr (Ext.tr (Ext.tr E101 E103) E105) E107) E141).1 (Nat.le_of_eq g145.symm))) Q149 (Nat.le_trans (Ext.tr (Ext.tr (Ext.tr E101 E103) E105) E107).1 (Nat.le_of_eq g141.symm))))
  · skip
    refine gIload K107 L_33 (v := (2 : Int32)) rfl ?_
    refine gIf_ne K107 L_35 (fun q35 => ?_) (fun q => absurd q (by first | decide | (intro hh; cases hh) | simp))
    refine gIload K107 L_53 (v := (2 : Int32)) rfl ?_
    refine gIconst K107 (1 : Int32) L_55 rfl ?_
    refine gIcmp_ne K107 L_56 (fun q56 => ?_) (fun q => absurd q (by first | decide | (intro hh; cases hh) | simp))
    refine gIload K107 L_79 (v := (2 : Int32)) rfl ?_
    refine gIconst K107 (2 : Int32) L_81 rfl ?_
    refine gIcmp_ne K107 L_82 (fun q => absurd q (by first | decide | (intro hh; cases hh) | simp)) (fun q82 => ?_)
    refine gNew K107 L_85 (wd hw 5 rfl) (wd hw 6 rfl) (wd hw 7 rfl) (by decide) (by decide) (fun T151 h151 x151 K151 E151 g151 A151 D151 ne151 => ?_)
    have P152 := P108.ext E151
    have ge_x151 : h0.size ≤ x151 := by rw [g151]; exact P108.1
    have F153 : Fld Z h151 x151 "java/lang/String" "value" "[B" .null := (D151 (Or.inr (wd hw 21 rfl)) (ty := (.array .byte)) (by decide))
    have F154 : Fld Z h151 x151 "java/lang/String" "coder" "B" (.int (0 : Int32)) := (D151 (Or.inr (wd hw 22 rfl)) (ty := .byte) (by decide))
    refine gDup K151 L_88 rfl ?_
    refine gIconst K151 (2 : Int32) L_89 rfl ?_
    refine gNewarr K151 L_90 (wd hw 8 rfl) (by decide) 2 (by decide) (by decide) (by decide) (by decide) (fun T155 h155 x155 kA155 K155 E155 g155 A155 ne155 => ?_)
    have P156 := P152.ext E155
    have ge_x155 : h0.size ≤ x155 := by rw [g155]; exact P152.1
    refine gDup K155 L_92 rfl ?_
    refine gIconst K155 (0 : Int32) L_93 rfl ?_
    refine gIload K155 L_94 (v := r0) rfl ?_
    refine gCastore K155 L_96 (me 0 rfl) A155 rfl (by decide) hb0.1 hb0.2 (fun T157 h157 K157 Q157 A157 => ?_)
    have P158 := P156.trans Q157 (fun z q => by cases List.mem_singleton.mp q; exact Or.inr ge_x155)
    refine gDup K157 L_97 rfl ?_
    refine gIconst K157 (1 : Int32) L_98 rfl ?_
    refine gIload K157 L_99 (v := r1) rfl ?_
    refine gCastore K157 L_101 (me 0 rfl) A157 rfl (by decide) hb1.1 hb1.2 (fun T159 h159 K159 Q159 A159 => ?_)
    have P160 := P158.trans Q159 (fun z q => by cases List.mem_singleton.mp q; exact Or.inr ge_x155)
    refine gCallI K159 (W := 1) x151 [(.ref x155)] [(.ref x151)] L_102 rfl (wd hw 9 rfl) (wd hw 10 rfl) (wd hw 11 rfl) (Cal.mono (kc' := 4) (ks' := 14) (cal_strA2 hw (W := 1) (K159.wsge (me 1 rfl)) K159.n0le (A151.ext (Ext.kp1 (Ext.kp1 E155 Q157 (Nat.le_of_eq g155.symm)) Q159 (Nat.le_of_eq g155.symm))) (F153.ext (Ext.kp1 (Ext.kp1 E155 Q157 (Nat.le_of_eq g155.symm)) Q159 (Nat.le_of_eq g155.symm))) (F154.ext (Ext.kp1 (Ext.kp1 E155 Q157 (Nat.le_of_eq g155.symm)) Q159 (Nat.le_of_eq g155.symm))) A159 (Sc.ext (Ext.kp1 (Ext.kp1 (Ext.tr (Ext.tr (Ext.tr (Ext.tr (Ext.tr E101 E103) E105) E107) E151) E155) Q157 (Nat.le_trans (Ext.tr (Ext.tr (Ext.tr (Ext.tr E101 E103) E105) E107) E151).1 (Nat.le_of_eq g155.symm))) Q159 (Nat.le_trans (Ext.tr (Ext.tr (Ext.tr (Ext.tr E101 E103) E105) E107) E151).1 (Nat.le_of_eq g155.symm)))) hz (u.ext (Ext.kp1 (Ext.kp1 (Ext.tr (Ext.tr (Ext.tr (Ext.tr (Ext.tr E101 E103) E105) E107) E151) E155) Q157 (Nat.le_trans (Ext.tr (Ext.tr (Ext.tr (Ext.tr E101 E103) E105) E107) E151).1 (Nat.le_of_eq g155.symm))) Q159 (Nat.le_trans (Ext.tr (Ext.tr (Ext.tr (Ext.tr E101 E103) E105) E107) E151).1 (Nat.le_of_eq g155.symm)))) hb0 hb1 (by decide) (by decide)) (by decide) (by decide) (fun _ _ q => q)) (fun z q => by cases List.mem_singleton.mp q; exact (me 1 rfl)) pd29 rfl rfl (Nat.le_of_eq rfl) rfl (by decide) (by decide) (by decide) (fun v161 T161 h161 K161 Q161 q161 => ?_)
    have P162 := P160.trans Q161 (fun z q => by cases List.mem_singleton.mp q; exact Or.inr ge_x151)
    obtain ⟨rfl, St161⟩ := q161
    refine gAstore K161 L_105 rfl (Ls' := #[.val (.int len), .val (.int x0), .val (.int x1), .val (.int x2), .val (.int x3), .val (.int (2 : Int32)), .val (.int r0), .val (.int r1), .val (.int r2), .val (.int r3), .val (.ref x151), .unset, .unset]) rfl ?_
    refine gGoto K161 L_107 ?_
    exact j178 x155 x151 [r0, r1] 2 rfl (by decide) (fun _ => rfl) (fun _ => rfl) (fun q => absurd q (by decide)) (fun q => absurd q (by decide)) _ _ K161 P162 St161 (Sc.ext (Ext.kp1 (Ext.kp1 (Ext.kp1 (Ext.tr (Ext.tr (Ext.tr (Ext.tr (Ext.tr E101 E103) E105) E107) E151) E155) Q157 (Nat.le_trans (Ext.tr (Ext.tr (Ext.tr (Ext.tr E101 E103) E105) E107) E151).1 (Nat.le_of_eq g155.symm))) Q159 (Nat.le_trans (Ext.tr (Ext.tr (Ext.tr (Ext.tr E101 E103) E105) E107) E151).1 (Nat.le_of_eq g155.symm))) Q161 (Nat.le_trans (Ext.tr (Ext.tr (Ext.tr E101 E103) E105) E107).1 (Nat.le_of_eq g151.symm)))) (Sf.ext (Ext.kp1 (Ext.kp1 (Ext.kp1 (Ext.tr (Ext.tr (Ext.tr (Ext.tr (Ext.tr E101 E103) E105) E107) E151) E155) Q157 (Nat.le_trans (Ext.tr (Ext.tr (Ext.tr (Ext.tr E101 E103) E105) E107) E151).1 (Nat.le_of_eq g155.symm))) Q159 (Nat.le_trans (Ext.tr (Ext.tr (Ext.tr (Ext.tr E101 E103) E105) E107) E151).1 (Nat.le_of_eq g155.symm))) Q161 (Nat.le_trans (Ext.tr (Ext.tr (Ext.tr E101 E103) E105) E107).1 (Nat.le_of_eq g151.symm)))) (u.ext (Ext.kp1 (Ext.kp1 (Ext.kp1 (Ext.tr (Ext.tr (Ext.tr (Ext.tr (Ext.tr E101 E103) E105) E107) E151) E155) Q157 (Nat.le_trans (Ext.tr (Ext.tr (Ext.tr (Ext.tr E101 E103) E105) E107) E151).1 (Nat.le_of_eq g155.symm))) Q159 (Nat.le_trans (Ext.tr (Ext.tr (Ext.tr (Ext.tr E101 E103) E105) E107) E151).1 (Nat.le_of_eq g155.symm))) Q161 (Nat.le_trans (Ext.tr (Ext.tr (Ext.tr E101 E103) E105) E107).1 (Nat.le_of_eq g151.symm))))
  · skip
    refine gIload K107 L_33 (v := (3 : Int32)) rfl ?_
    refine gIf_ne K107 L_35 (fun q35 => ?_) (fun q => absurd q (by first | decide | (intro hh; cases hh) | simp))
    refine gIload K107 L_53 (v := (3 : Int32)) rfl ?_
    refine gIconst K107 (1 : Int32) L_55 rfl ?_
    refine gIcmp_ne K107 L_56 (fun q56 => ?_) (fun q => absurd q (by first | decide | (intro hh; cases hh) | simp))
    refine gIload K107 L_79 (v := (3 : Int32)) rfl ?_
    refine gIconst K107 (2 : Int32) L_81 rfl ?_
    refine gIcmp_ne K107 L_82 (fun q82 => ?_) (fun q => absurd q (by first | decide | (intro hh; cases hh) | simp))
    refine gIload K107 L_110 (v := (3 : Int32)) rfl ?_
    refine gIconst K107 (3 : Int32) L_112 rfl ?_
    refine gIcmp_ne K107 L_113 (fun q => absurd q (by first | decide | (intro hh; cases hh) | simp)) (fun q113 => ?_)
    refine gNew K107 L_116 (wd hw 5 rfl) (wd hw 6 rfl) (wd hw 7 rfl) (by decide) (by decide) (fun T163 h163 x163 K163 E163 g163 A163 D163 ne163 => ?_)
    have P164 := P108.ext E163
    have ge_x163 : h0.size ≤ x163 := by rw [g163]; exact P108.1
    have F165 : Fld Z h163 x163 "java/lang/String" "value" "[B" .null := (D163 (Or.inr (wd hw 21 rfl)) (ty := (.array .byte)) (by decide))
    have F166 : Fld Z h163 x163 "java/lang/String" "coder" "B" (.int (0 : Int32)) := (D163 (Or.inr (wd hw 22 rfl)) (ty := .byte) (by decide))
    refine gDup K163 L_119 rfl ?_
    refine gIconst K163 (3 : Int32) L_120 rfl ?_
    refine gNewarr K163 L_121 (wd hw 8 rfl) (by decide) 3 (by decide) (by decide) (by decide) (by decide) (fun T167 h167 x167 kA167 K167 E167 g167 A167 ne167 => ?_)
    have P168 := P164.ext E167
    have ge_x167 : h0.size ≤ x167 := by rw [g167]; exact P164.1
    refine gDup K167 L_123 rfl ?_
    refine gIconst K167 (0 : Int32) L_124 rfl ?_
    refine gIload K167 L_125 (v := r0) rfl ?_
    refine gCastore K167 L_127 (me 0 rfl) A167 rfl (by decide) hb0.1 hb0.2 (fun T169 h169 K169 Q169 A169 => ?_)
    have P170 := P168.trans Q169 (fun z q => by cases List.mem_singleton.mp q; exact Or.inr ge_x167)
    refine gDup K169 L_128 rfl ?_
    refine gIconst K169 (1 : Int32) L_129 rfl ?_
    refine gIload K169 L_130 (v := r1) rfl ?_
    refine gCastore K169 L_132 (me 0 rfl) A169 rfl (by decide) hb1.1 hb1.2 (fun T171 h171 K171 Q171 A171 => ?_)
    have P172 := P170.trans Q171 (fun z q => by cases List.mem_singleton.mp q; exact Or.inr ge_x167)
    refine gDup K171 L_133 rfl ?_
    refine gIconst K171 (2 : Int32) L_134 rfl ?_
    refine gIload K171 L_135 (v := r2) rfl ?_
    refine gCastore K171 L_137 (me 0 rfl) A171 rfl (by decide) hb2.1 hb2.2 (fun T173 h173 K173 Q173 A173 => ?_)
    have P174 := P172.trans Q173 (fun z q => by cases List.mem_singleton.mp q; exact Or.inr ge_x167)
    refine gCallI K173 (W := 1) x163 [(.ref x167)] [(.ref x163)] L_138 rfl (wd hw 9 rfl) (wd hw 10 rfl) (wd hw 11 rfl) (Cal.mono (kc' := 4) (ks' := 13) (cal_strA3 hw (W := 1) (K173.wsge (me 1 rfl)) K173.n0le (A163.ext (Ext.kp1 (Ext.kp1 (Ext.kp1 E167 Q169 (Nat.le_of_eq g167.symm)) Q171 (Nat.le_of_eq g167.symm)) Q173 (Nat.le_of_eq g167.symm))) (F165.ext (Ext.kp1 (Ext.kp1 (Ext.kp1 E167 Q169 (Nat.le_of_eq g167.symm)) Q171 (Nat.le_of_eq g167.symm)) Q173 (Nat.le_of_eq g167.symm))) (F166.ext (Ext.kp1 (Ext.kp1 (Ext.kp1 E167 Q169 (Nat.le_of_eq g167.symm)) Q171 (Nat.le_of_eq g167.symm)) Q173 (Nat.le_of_eq g167.symm))) A173 (Sc.ext (Ext.kp1 (Ext.kp1 (Ext.kp1 (Ext.tr (Ext.tr (Ext.tr (Ext.tr (Ext.tr E101 E103) E105) E107) E163) E167) Q169 (Nat.le_trans (Ext.tr (Ext.tr (Ext.tr (Ext.tr E101 E103) E105) E107) E163).1 (Nat.le_of_eq g167.symm))) Q171 (Nat.le_trans (Ext.tr (Ext.tr (Ext.tr (Ext.tr E101 E103) E105) E107) E163).1 (Nat.le_of_eq g167.symm))) Q173 (Nat.le_trans (Ext.tr (Ext.tr (Ext.tr (Ext.tr E101 E103) E105) E107) E163).1 (Nat.le_of_eq g167.symm)))) hz (u.ext (Ext.kp1 (Ext.kp1 (Ext.kp1 (Ext.tr (Ext.tr (Ext.tr (Ext.tr (Ext.tr E101 E103) E105) E107) E163) E167) Q169 (Nat.le_trans (Ext.tr (Ext.tr (Ext.tr (Ext.tr E101 E103) E105) E107) E163).1 (Nat.le_of_eq g167.symm))) Q171 (Nat.le_trans (Ext.tr (Ext.tr (Ext.tr (Ext.tr E101 E103) E105) E107) E163).1 (Nat.le_of_eq g167.symm))) Q173 (Nat.le_trans (Ext.tr (Ext.tr (Ext.tr (Ext.tr E101 E103) E105) E107) E163).1 (Nat.le_of_eq g167.symm)))) hb0 hb1 hb2 (by decide) (by decide)) (by decide) (by decide) (fun _ _ q => q)) (fun z q => by cases List.mem_singleton.mp q; exact (me 1 rfl)) pd29 rfl rfl (Nat.le_of_eq rfl) rfl (by decide) (by decide) (by decide) (fun v175 T175 h175 K175 Q175 q175 => ?_)
    have P176 := P174.trans Q175 (fun z q => by cases List.mem_singleton.mp q; exact Or.inr ge_x163)
    obtain ⟨rfl, St175⟩ := q175
    refine gAstore K175 L_141 rfl (Ls' := #[.val (.int len), .val (.int x0), .val (.int x1), .val (.int x2), .val (.int x3), .val (.int (3 : Int32)), .val (.int r0), .val (.int r1), .val (.int r2), .val (.int r3), .val (.ref x163), .unset, .unset]) rfl ?_
    refine gGoto K175 L_143 ?_
    exact j178 x167 x163 [r0, r1, r2] 3 rfl (by decide) (fun _ => rfl) (fun _ => rfl) (fun _ => rfl) (fun q => absurd q (by decide)) _ _ K175 P176 St175 (Sc.ext (Ext.kp1 (Ext.kp1 (Ext.kp1 (Ext.kp1 (Ext.tr (Ext.tr (Ext.tr (Ext.tr (Ext.tr E101 E103) E105) E107) E163) E167) Q169 (Nat.le_trans (Ext.tr (Ext.tr (Ext.tr (Ext.tr E101 E103) E105) E107) E163).1 (Nat.le_of_eq g167.symm))) Q171 (Nat.le_trans (Ext.tr (Ext.tr (Ext.tr (Ext.tr E101 E103) E105) E107) E163).1 (Nat.le_of_eq g167.symm))) Q173 (Nat.le_trans (Ext.tr (Ext.tr (Ext.tr (Ext.tr E101 E103) E105) E107) E163).1 (Nat.le_of_eq g167.symm))) Q175 (Nat.le_trans (Ext.tr (Ext.tr (Ext.tr E101 E103) E105) E107).1 (Nat.le_of_eq g163.symm)))) (Sf.ext (Ext.kp1 (Ext.kp1 (Ext.kp1 (Ext.kp1 (Ext.tr (Ext.tr (Ext.tr (Ext.tr (Ext.tr E101 E103) E105) E107) E163) E167) Q169 (Nat.le_trans (Ext.tr (Ext.tr (Ext.tr (Ext.tr E101 E103) E105) E107) E163).1 (Nat.le_of_eq g167.symm))) Q171 (Nat.le_trans (Ext.tr (Ext.tr (Ext.tr (Ext.tr E101 E103) E105) E107) E163).1 (Nat.le_of_eq g167.symm))) Q173 (Nat.le_trans (Ext.tr (Ext.tr (Ext.tr (Ext.tr E101 E103) E105) E107) E163).1 (Nat.le_of_eq g167.symm))) Q175 (Nat.le_trans (Ext.tr (Ext.tr (Ext.tr E101 E103) E105) E107).1 (Nat.le_of_eq g163.symm)))) (u.ext (Ext.kp1 (Ext.kp1 (Ext.kp1 (Ext.kp1 (Ext.tr (Ext.tr (Ext.tr (Ext.tr (Ext.tr E101 E103) E105) E107) E163) E167) Q169 (Nat.le_trans (Ext.tr (Ext.tr (Ext.tr (Ext.tr E101 E103) E105) E107) E163).1 (Nat.le_of_eq g167.symm))) Q171 (Nat.le_trans (Ext.tr (Ext.tr (Ext.tr (Ext.tr E101 E103) E105) E107) E163).1 (Nat.le_of_eq g167.symm))) Q173 (Nat.le_trans (Ext.tr (Ext.tr (Ext.tr (Ext.tr E101 E103) E105) E107) E163).1 (Nat.le_of_eq g167.symm))) Q175 (Nat.le_trans (Ext.tr (Ext.tr (Ext.tr E101 E103) E105) E107).1 (Nat.le_of_eq g163.symm))))
  · skip
    refine gIload K107 L_33 (v := (4 : Int32)) rfl ?_
    refine gIf_ne K107 L_35 (fun q35 => ?_) (fun q => absurd q (by first | decide | (intro hh; cases hh) | simp))
    refine gIload K107 L_53 (v := (4 : Int32)) rfl ?_
    refine gIconst K107 (1 : Int32) L_55 rfl ?_
    refine gIcmp_ne K107 L_56 (fun q56 => ?_) (fun q => absurd q (by first | decide | (intro hh; cases hh) | simp))
    refine gIload K107 L_79 (v := (4 : Int32)) rfl ?_
    refine gIconst K107 (2 : Int32) L_81 rfl ?_
    refine gIcmp_ne K107 L_82 (fun q82 => ?_) (fun q => absurd q (by first | decide | (intro hh; cases hh) | simp))
    refine gIload K107 L_110 (v := (4 : Int32)) rfl ?_
    refine gIconst K107 (3 : Int32) L_112 rfl ?_
    refine gIcmp_ne K107 L_113 (fun q113 => ?_) (fun q => absurd q (by first | decide | (intro hh; cases hh) | simp))
    refine gNew K107 L_146 (wd hw 5 rfl) (wd hw 6 rfl) (wd hw 7 rfl) (by decide) (by decide) (fun T177 h177 x177 K177 E177 g177 A177 D177 ne177 => ?_)
    have P178 := P108.ext E177
    have ge_x177 : h0.size ≤ x177 := by rw [g177]; exact P108.1
    have F179 : Fld Z h177 x177 "java/lang/String" "value" "[B" .null := (D177 (Or.inr (wd hw 21 rfl)) (ty := (.array .byte)) (by decide))
    have F180 : Fld Z h177 x177 "java/lang/String" "coder" "B" (.int (0 : Int32)) := (D177 (Or.inr (wd hw 22 rfl)) (ty := .byte) (by decide))
    refine gDup K177 L_149 rfl ?_
    refine gIconst K177 (4 : Int32) L_150 rfl ?_
    refine gNewarr K177 L_151 (wd hw 8 rfl) (by decide) 4 (by decide) (by decide) (by decide) (by decide) (fun T181 h181 x181 kA181 K181 E181 g181 A181 ne181 => ?_)
    have P182 := P178.ext E181
    have ge_x181 : h0.size ≤ x181 := by rw [g181]; exact P178.1
    refine gDup K181 L_153 rfl ?_
    refine gIconst K181 (0 : Int32) L_154 rfl ?_
    refine gIload K181 L_155 (v := r0) rfl ?_
    refine gCastore K181 L_157 (me 0 rfl) A181 rfl (by decide) hb0.1 hb0.2 (fun T183 h183 K183 Q183 A183 => ?_)
    have P184 := P182.trans Q183 (fun z q => by cases List.mem_singleton.mp q; exact Or.inr ge_x181)
    refine gDup K183 L_158 rfl ?_
    refine gIconst K183 (1 : Int32) L_159 rfl ?_
    refine gIload K183 L_160 (v := r1) rfl ?_
    refine gCastore K183 L_162 (me 0 rfl) A183 rfl (by decide) hb1.1 hb1.2 (fun T185 h185 K185 Q185 A185 => ?_)
    have P186 := P184.trans Q185 (fun z q => by cases List.mem_singleton.mp q; exact Or.inr ge_x181)
    refine gDup K185 L_163 rfl ?_
    refine gIconst K185 (2 : Int32) L_164 rfl ?_
    refine gIload K185 L_165 (v := r2) rfl ?_
    refine gCastore K185 L_167 (me 0 rfl) A185 rfl (by decide) hb2.1 hb2.2 (fun T187 h187 K187 Q187 A187 => ?_)
    have P188 := P186.trans Q187 (fun z q => by cases List.mem_singleton.mp q; exact Or.inr ge_x181)
    refine gDup K187 L_168 rfl ?_
    refine gIconst K187 (3 : Int32) L_169 rfl ?_
    refine gIload K187 L_170 (v := r3) rfl ?_
    refine gCastore K187 L_172 (me 0 rfl) A187 rfl (by decide) hb3.1 hb3.2 (fun T189 h189 K189 Q189 A189 => ?_)
    have P190 := P188.trans Q189 (fun z q => by cases List.mem_singleton.mp q; exact Or.inr ge_x181)
    refine gCallI K189 (W := 1) x177 [(.ref x181)] [(.ref x177)] L_173 rfl (wd hw 9 rfl) (wd hw 10 rfl) (wd hw 11 rfl) (Cal.mono (kc' := 4) (ks' := 12) (cal_strA4 hw (W := 1) (K189.wsge (me 1 rfl)) K189.n0le (A177.ext (Ext.kp1 (Ext.kp1 (Ext.kp1 (Ext.kp1 E181 Q183 (Nat.le_of_eq g181.symm)) Q185 (Nat.le_of_eq g181.symm)) Q187 (Nat.le_of_eq g181.symm)) Q189 (Nat.le_of_eq g181.symm))) (F179.ext (Ext.kp1 (Ext.kp1 (Ext.kp1 (Ext.kp1 E181 Q183 (Nat.le_of_eq g181.symm)) Q185 (Nat.le_of_eq g181.symm)) Q187 (Nat.le_of_eq g181.symm)) Q189 (Nat.le_of_eq g181.symm))) (F180.ext (Ext.kp1 (Ext.kp1 (Ext.kp1 (Ext.kp1 E181 Q183 (Nat.le_of_eq g181.symm)) Q185 (Nat.le_of_eq g181.symm)) Q187 (Nat.le_of_eq g181.symm)) Q189 (Nat.le_of_eq g181.symm))) A189 (Sc.ext (Ext.kp1 (Ext.kp1 (Ext.kp1 (Ext.kp1 (Ext.tr (Ext.tr (Ext.tr (Ext.tr (Ext.tr E101 E103) E105) E107) E177) E181) Q183 (Nat.le_trans (Ext.tr (Ext.tr (Ext.tr (Ext.tr E101 E103) E105) E107) E177).1 (Nat.le_of_eq g181.symm))) Q185 (Nat.le_trans (Ext.tr (Ext.tr (Ext.tr (Ext.tr E101 E103) E105) E107) E177).1 (Nat.le_of_eq g181.symm))) Q187 (Nat.le_trans (Ext.tr (Ext.tr (Ext.tr (Ext.tr E101 E103) E105) E107) E177).1 (Nat.le_of_eq g181.symm))) Q189 (Nat.le_trans (Ext.tr (Ext.tr (Ext.tr (Ext.tr E101 E103) E105) E107) E177).1 (Nat.le_of_eq g181.symm)))) hz (u.ext (Ext.kp1 (Ext.kp1 (Ext.kp1 (Ext.kp1 (Ext.tr (Ext.tr (Ext.tr (Ext.tr (Ext.tr E101 E103) E105) E107) E177) E181) Q183 (Nat.le_trans (Ext.tr (Ext.tr (Ext.tr (Ext.tr E101 E103) E105) E107) E177).1 (Nat.le_of_eq g181.symm))) Q185 (Nat.le_trans (Ext.tr (Ext.tr (Ext.tr (Ext.tr E101 E103) E105) E107) E177).1 (Nat.le_of_eq g181.symm))) Q187 (Nat.le_trans (Ext.tr (Ext.tr (Ext.tr (Ext.tr E101 E103) E105) E107) E177).1 (Nat.le_of_eq g181.symm))) Q189 (Nat.le_trans (Ext.tr (Ext.tr (Ext.tr (Ext.tr E101 E103) E105) E107) E177).1 (Nat.le_of_eq g181.symm)))) hb0 hb1 hb2 hb3 (by decide) (by decide)) (by decide) (by decide) (fun _ _ q => q)) (fun z q => by cases List.mem_singleton.mp q; exact (me 1 rfl)) pd29 rfl rfl (Nat.le_of_eq rfl) rfl (by decide) (by decide) (by decide) (fun v191 T191 h191 K191 Q191 q191 => ?_)
    have P192 := P190.trans Q191 (fun z q => by cases List.mem_singleton.mp q; exact Or.inr ge_x177)
    obtain ⟨rfl, St191⟩ := q191
    refine gAstore K191 L_176 rfl (Ls' := #[.val (.int len), .val (.int x0), .val (.int x1), .val (.int x2), .val (.int x3), .val (.int (4 : Int32)), .val (.int r0), .val (.int r1), .val (.int r2), .val (.int r3), .val (.ref x177), .unset, .unset]) rfl ?_
    exact j178 x181 x177 [r0, r1, r2, r3] 4 rfl (by decide) (fun _ => rfl) (fun _ => rfl) (fun _ => rfl) (fun _ => rfl) _ _ K191 P192 St191 (Sc.ext (Ext.kp1 (Ext.kp1 (Ext.kp1 (Ext.kp1 (Ext.kp1 (Ext.tr (Ext.tr (Ext.tr (Ext.tr (Ext.tr E101 E103) E105) E107) E177) E181) Q183 (Nat.le_trans (Ext.tr (Ext.tr (Ext.tr (Ext.tr E101 E103) E105) E107) E177).1 (Nat.le_of_eq g181.symm))) Q185 (Nat.le_trans (Ext.tr (Ext.tr (Ext.tr (Ext.tr E101 E103) E105) E107) E177).1 (Nat.le_of_eq g181.symm))) Q187 (Nat.le_trans (Ext.tr (Ext.tr (Ext.tr (Ext.tr E101 E103) E105) E107) E177).1 (Nat.le_of_eq g181.symm))) Q189 (Nat.le_trans (Ext.tr (Ext.tr (Ext.tr (Ext.tr E101 E103) E105) E107) E177).1 (Nat.le_of_eq g181.symm))) Q191 (Nat.le_trans (Ext.tr (Ext.tr (Ext.tr E101 E103) E105) E107).1 (Nat.le_of_eq g177.symm)))) (Sf.ext (Ext.kp1 (Ext.kp1 (Ext.kp1 (Ext.kp1 (Ext.kp1 (Ext.tr (Ext.tr (Ext.tr (Ext.tr (Ext.tr E101 E103) E105) E107) E177) E181) Q183 (Nat.le_trans (Ext.tr (Ext.tr (Ext.tr (Ext.tr E101 E103) E105) E107) E177).1 (Nat.le_of_eq g181.symm))) Q185 (Nat.le_trans (Ext.tr (Ext.tr (Ext.tr (Ext.tr E101 E103) E105) E107) E177).1 (Nat.le_of_eq g181.symm))) Q187 (Nat.le_trans (Ext.tr (Ext.tr (Ext.tr (Ext.tr E101 E103) E105) E107) E177).1 (Nat.le_of_eq g181.symm))) Q189 (Nat.le_trans (Ext.tr (Ext.tr (Ext.tr (Ext.tr E101 E103) E105) E107) E177).1 (Nat.le_of_eq g181.symm))) Q191 (Nat.le_trans (Ext.tr (Ext.tr (Ext.tr E101 E103) E105) E107).1 (Nat.le_of_eq g177.symm)))) (u.ext (Ext.kp1 (Ext.kp1 (Ext.kp1 (Ext.kp1 (Ext.kp1 (Ext.tr (Ext.tr (Ext.tr (Ext.tr (Ext.tr E101 E103) E105) E107) E177) E181) Q183 (Nat.le_trans (Ext.tr (Ext.tr (Ext.tr (Ext.tr E101 E103) E105) E107) E177).1 (Nat.le_of_eq g181.symm))) Q185 (Nat.le_trans (Ext.tr (Ext.tr (Ext.tr (Ext.tr E101 E103) E105) E107) E177).1 (Nat.le_of_eq g181.symm))) Q187 (Nat.le_trans (Ext.tr (Ext.tr (Ext.tr (Ext.tr E101 E103) E105) E107) E177).1 (Nat.le_of_eq g181.symm))) Q189 (Nat.le_trans (Ext.tr (Ext.tr (Ext.tr (Ext.tr E101 E103) E105) E107) E177).1 (Nat.le_of_eq g181.symm))) Q191 (Nat.le_trans (Ext.tr (Ext.tr (Ext.tr E101 E103) E105) E107).1 (Nat.le_of_eq g177.symm))))
set_option maxRecDepth 65536 in
set_option maxHeartbeats 40000000 in
theorem comes_1 {Post : Tables → Env → Array Value → State → Outcome → State → Prop} (hpost : ∀ tb e args s v u, (limb_1_1.after args s (.returned v) u = true ∧ limb_1_2.after args s (.returned v) u = true ∧ True) → ReturnedEndW s (.returned v) u (Jvm.fieldLocs frame_1_writes args s ++ Jvm.arrayLocs frame_1_arrays args s ++ Jvm.staticLocs frame_1_statics s) 32 2240 → Post tb e args s (.returned v) u) :
    ArmFor flags0 classFile x code maxLocals ret World_1 tables_1 room_1 Calls_1 rest_1 Pre_1 Post := by
  intro l hfl _ _ p e ha hc hk s m args below hf hA hF happ hP
  obtain ⟨hcalls, hrest, hpre⟩ := hP
  obtain ⟨-, -, -, hnamed, -, -, -, hat⟩ := (Spec.applies_iff hf).mp happ
  obtain ⟨hg, hn⟩ := and_e (Cond.before_iff.mp (show (Jvm.Cond.and given_1 narrow_1).before args s = true from hpre))
  obtain ⟨hcount, hg0⟩ := and_e hg
  obtain ⟨ha0, hg1⟩ := and_e hg0
  obtain ⟨ha1, hg2⟩ := and_e hg1
  obtain ⟨ha2, hg3⟩ := and_e hg2
  obtain ⟨ha3, hg4⟩ := and_e hg3
  have ha4 := hg4
  obtain ⟨w0, w1, w2, w3, w4, rfl⟩ : ∃ w0 w1 w2 w3 w4 : Value, args = #[w0, w1, w2, w3, w4] := by
    have hs : args.size = 5 := by simpa [Cond.value, given_1] using hcount
    obtain ⟨L⟩ := args
    match L, hs with
    | [w0, w1, w2, w3, w4], _ => exact ⟨w0, w1, w2, w3, w4, rfl⟩
  have hw := fun d (hd : d ∈ tables_1) => atoms_spec (ws := Jvm.Cond.code x code maxLocals ret :: tables_1) hat d (List.mem_cons_of_mem _ hd)
  obtain ⟨hsets, hown0⟩ := atoms_of _ (rest_1_c_eq ▸ (show rest_1_c.before _ s = true from hrest))
  have hfit : Fit s := fun {y c} hc i hi => by
    obtain ⟨ha, rfl⟩ := Array.getElem?_eq_some_iff.mp hc
    have q := List.all_eq_true.mp ((Array.all_eq_true_iff_forall_mem.mp hF) _ (Array.getElem_mem ha)) i (List.mem_range.mpr hi)
    simpa [Array.getElem?_eq_getElem hi] using q
  obtain ⟨i0, e0⟩ := is_v ha0
  obtain rfl : w0 = (.int i0) := Option.some.inj e0
  obtain ⟨i1, e1⟩ := is_v ha1
  obtain rfl : w1 = (.int i1) := Option.some.inj e1
  obtain ⟨i2, e2⟩ := is_v ha2
  obtain rfl : w2 = (.int i2) := Option.some.inj e2
  obtain ⟨i3, e3⟩ := is_v ha3
  obtain rfl : w3 = (.int i3) := Option.some.inj e3
  obtain ⟨i4, e4⟩ := is_v ha4
  obtain rfl : w4 = (.int i4) := Option.some.inj e4
  obtain ⟨z_COMPACT_STRINGS, ez_COMPACT_STRINGS⟩ := is_v (Cond.before_iff.mp (hsets _ (me 1 rfl)))
  have S_COMPACT_STRINGS : Sta s s.heap "java/lang/String" "COMPACT_STRINGS" "Z" (.int z_COMPACT_STRINGS) := Sta.start ez_COMPACT_STRINGS (Or.inl (hsets _ (me 0 rfl)))
  have nz_COMPACT_STRINGS : ¬ (z_COMPACT_STRINGS = (0 : Int32)) := gotF (Cond.eq_ints ez_COMPACT_STRINGS (Term.int_eval (0))) (not_v (Cond.before_iff.mp (hsets _ (me 2 rfl))))
  obtain ⟨v_SIOOBE_FORMATTER, ez_SIOOBE_FORMATTER, r_SIOOBE_FORMATTER⟩ := isR_v (Cond.before_iff.mp (hsets _ (me 8 rfl)))
  have S_SIOOBE_FORMATTER : Sta s s.heap "jdk/internal/util/Preconditions" "SIOOBE_FORMATTER" "Ljava/util/function/BiFunction;" v_SIOOBE_FORMATTER := Sta.start ez_SIOOBE_FORMATTER (Or.inl (hsets _ (me 7 rfl)))
  have hE := (EW.cons (text := "") (wd hw 19 rfl) (by decide) (EW.cons (text := "") (wd hw 119 rfl) (by decide) EW.nil))
  have hCH := CHv.start hE (fun q hq => hcalls.1 q hq) (hsets _ (me 2 rfl)) (wd hw 20 rfl) (wd hw 6 rfl)
  have U_S_assertionsDisabled : Sta s s.heap "java/lang/StringUTF16" "$assertionsDisabled" "Z" (.int 1) := Sta.start (eqint_v (Cond.before_iff.mp (hsets _ (me 12 rfl)))) (Or.inl (hsets _ (me 11 rfl)))
  have U_HI_BYTE_SHIFT : Sta s s.heap "java/lang/StringUTF16" "HI_BYTE_SHIFT" "I" (.int 0) := Sta.start (eqint_v (Cond.before_iff.mp (hsets _ (me 15 rfl)))) (Or.inl (hsets _ (me 14 rfl)))
  have U_LO_BYTE_SHIFT : Sta s s.heap "java/lang/StringUTF16" "LO_BYTE_SHIFT" "I" (.int 8) := Sta.start (eqint_v (Cond.before_iff.mp (hsets _ (me 18 rfl)))) (Or.inl (hsets _ (me 17 rfl)))
  have hU : US s s.heap := ⟨U_S_assertionsDisabled, U_HI_BYTE_SHIFT, U_LO_BYTE_SHIFT⟩
  obtain ⟨n, o, h1, h2, h3, v, L, rfl, ⟨hv, Kp, N⟩, hq⟩ := (c_law l s _ hw s.heap s.heap.size (Nat.le_refl _) hE i0 i1 i2 i3 i4 z_COMPACT_STRINGS S_COMPACT_STRINGS nz_COMPACT_STRINGS v_SIOOBE_FORMATTER S_SIOOBE_FORMATTER r_SIOOBE_FORMATTER hU).asW p e ha hc hk s m _ below hf ((Spec.applies_iff_loose hf).mp happ).1 ⟨rfl, State.Warmed39.refl s, rfl, hCH, (fun _ q => nomatch q)⟩ trivial
  subst hv
  refine ⟨n, _, h1, h2, h3, hpost _ _ _ _ _ _ ⟨Cond.after_iff.mpr rfl, Cond.after_iff.mpr (eq_i res_at (Term.int_eval (1)) rfl), trivial⟩ ⟨hq.2.1, hq.2.2.1, hq.2.2.2.1, (hq.2.2.2.2.sift fun y hy => Or.inr (N y hy)).mono (by decide) (by decide)⟩⟩
theorem main_1_1 : Claimed_1_1 := comes_1 fun _ _ _ _ _ _ h hF => ⟨h.1, hF⟩
theorem main_1_2 : Claimed_1_2 := comes_1 fun _ _ _ _ _ _ h hF => ⟨h.2.1, hF⟩

end Jvm.Pilot.@@N@@
namespace Jvm.Pilot.@@N@@
open Jvm Jvm.ClassFile Sem Op Lib Jvm.Free Jvm.Stand Jvm.Pilot.@@N@@.Jvm.D
/-! MADE BY PROGRAM (witnessworld.py) out of the Statement's table words and the real class files: 23 classes; the members and pool entries that the words name. The judged class is class 1, her method 4. -/
namespace start1
open Jvm.ClassFile
def u (s : String) : CpInfo := .utf8 (stringToUtf16 s)
/-- a pool by its gaps: so many unusable entries, then the entry; so many at the end -/
def gap : Nat → List CpInfo → List CpInfo
  | 0, r => r
  | n + 1, r => .unusable :: gap n r
def poolList (es : List (Nat × CpInfo)) (last : Nat) : List CpInfo := es.foldr (fun e r => gap e.1 (e.2 :: r)) (gap last [])
def pool (es : List (Nat × CpInfo)) (last : Nat) : Array CpInfo := ⟨poolList es last⟩
def fileOf (pool : Array CpInfo) (this : Nat) (attrs : Array Attribute := #[]) (ms : Array MethodInfo := #[]) (fl : Nat := 33) (sup : Nat := 0) (ifs : Array Nat := #[]) (fds : Array FieldInfo := #[]) : ClassFile where
  minorVersion := 0
  majorVersion := 65
  constantPool := pool
  accessFlags := fl
  thisClass := this
  superClass := sup
  interfaces := ifs
  fields := fds
  methods := ms
  attributes := attrs
def plain (name : String) (sup : Option ClassId) : Class where
  name := name
  kind := .ordinary
  loader := none
  accessFlags := 33
  super := sup
  interfaces := #[]
  cf := none
  fields := #[]
  methods := #[]
  instanceTypes := #[]
  staticTypes := #[]
  resolved := #[]
  callSites := []
  init := .initialized
  statics := none
  mirror := none

def pool0 : Array CpInfo := pool [(5, u "<init>"), (0, u "()V"), (1, .class_ 10), (1, u "java/lang/Object")] 113

def k0c0 : Code := { maxStack := 0, maxLocals := 1, code := object_method_1_code, exceptionTable := #[], attributes := #[] }
def k0m0 : Method := { name := "<init>", desc := "()V", sig := { parameters := [], returnType := none }, accessFlags := 1, code := some k0c0 }
/-- java/lang/Object -/
def k0 : Class := { plain "java/lang/Object" none with
  accessFlags := 33
  interfaces := #[]
  cf := some (fileOf pool0 8 #[] #[{ accessFlags := 1, nameIndex := 5, descriptorIndex := 6, attributes := #[] }] 33 0 #[] #[])
  fields := #[]
  methods := #[k0m0]
  instanceTypes := #[]
  staticTypes := #[]
  resolved := Array.replicate 124 none
  statics := none }

def pool1 : Array CpInfo := pool [(2, .class_ 4), (1, u "java/lang/Object"), (0, u "<init>"), (0, u "()V"), (0, .methodref 8 9), (0, .class_ 10), (0, .nameAndType 11 12), (0, u "java/lang/String"), (0, u "charAt"), (0, u "(I)C"), (0, .methodref 14 15), (0, .class_ 16), (0, .nameAndType 17 18), (0, u "com/example/stowage/stowage/dicom/UidWithoutPaddingPinLaw"), (0, u "pad"), (0, u "(C)Z"), (0, .integer 2147483647), (0, .methodref 14 21), (0, .nameAndType 22 12), (0, u "draw"), (0, .methodref 8 24), (0, .nameAndType 5 25), (0, u "([C)V"), (0, .methodref 27 28), (0, .class_ 29), (0, .nameAndType 30 31), (0, u "com/example/stowage/stowage/dicom/Uid"), (0, u "withoutPadding"), (0, u "(Ljava/lang/String;)Ljava/lang/String;"), (0, .methodref 8 33), (0, .nameAndType 34 35), (0, u "length"), (0, u "()I"), (0, .methodref 14 37), (0, .nameAndType 38 39), (0, u "slot"), (0, u "(Ljava/lang/String;IIIC)Z"), (3, u "law"), (0, u "(IIIII)Z")] 2

def k1m0 : Method := { name := "<init>", desc := "()V", sig := { parameters := [], returnType := none }, accessFlags := 2, code := none }
def k1c1 : Code := { maxStack := 2, maxLocals := 2, code := method_2_code, exceptionTable := #[], attributes := #[] }
def k1m1 : Method := { name := "draw", desc := "(I)C", sig := { parameters := [.int], returnType := some .char }, accessFlags := 10, code := some k1c1 }
def k1c2 : Code := { maxStack := 2, maxLocals := 1, code := method_3_code, exceptionTable := #[], attributes := #[] }
def k1m2 : Method := { name := "pad", desc := "(C)Z", sig := { parameters := [.char], returnType := some .boolean }, accessFlags := 10, code := some k1c2 }
def k1c3 : Code := { maxStack := 2, maxLocals := 5, code := method_4_code, exceptionTable := #[], attributes := #[] }
def k1m3 : Method := { name := "slot", desc := "(Ljava/lang/String;IIIC)Z", sig := { parameters := [(.object "java/lang/String"), .int, .int, .int, .char], returnType := some .boolean }, accessFlags := 10, code := some k1c3 }
def k1c4 : Code := { maxStack := 6, maxLocals := 13, code := code, exceptionTable := #[], attributes := #[] }
def k1m4 : Method := { name := "law", desc := "(IIIII)Z", sig := { parameters := [.int, .int, .int, .int, .int], returnType := some .boolean }, accessFlags := 9, code := some k1c4 }
/-- com/example/stowage/stowage/dicom/UidWithoutPaddingPinLaw -/
def k1 : Class := { plain "com/example/stowage/stowage/dicom/UidWithoutPaddingPinLaw" (some 0) with
  accessFlags := 49
  interfaces := #[]
  cf := some (fileOf pool1 14 #[] #[{ accessFlags := 2, nameIndex := 5, descriptorIndex := 6, attributes := #[] }, { accessFlags := 10, nameIndex := 22, descriptorIndex := 12, attributes := #[] }, { accessFlags := 10, nameIndex := 17, descriptorIndex := 18, attributes := #[] }, { accessFlags := 10, nameIndex := 38, descriptorIndex := 39, attributes := #[] }, { accessFlags := 9, nameIndex := 43, descriptorIndex := 44, attributes := #[] }] 49 2 #[] #[])
  fields := #[]
  methods := #[k1m0, k1m1, k1m2, k1m3, k1m4]
  instanceTypes := #[]
  staticTypes := #[]
  resolved := Array.replicate 47 none
  statics := none }

def pool2 : Array CpInfo := pool [(1, .class_ 2), (0, u "java/io/Serializable"), (0, .class_ 4), (0, u "java/lang/Object")] 2

/-- java/io/Serializable -/
def k2 : Class := { plain "java/io/Serializable" (some 0) with
  accessFlags := 1537
  interfaces := #[]
  cf := some (fileOf pool2 1 #[] #[] 1537 3 #[] #[])
  fields := #[]
  methods := #[]
  instanceTypes := #[]
  staticTypes := #[]
  resolved := Array.replicate 7 none
  statics := none }

def pool3 : Array CpInfo := pool [(1, .class_ 2), (0, u "java/lang/Comparable"), (0, .class_ 4), (0, u "java/lang/Object")] 7

/-- java/lang/Comparable -/
def k3 : Class := { plain "java/lang/Comparable" (some 0) with
  accessFlags := 1537
  interfaces := #[]
  cf := some (fileOf pool3 1 #[] #[] 1537 3 #[] #[])
  fields := #[]
  methods := #[]
  instanceTypes := #[]
  staticTypes := #[]
  resolved := Array.replicate 12 none
  statics := none }

def pool4 : Array CpInfo := pool [(2, .class_ 4), (1, u "java/lang/CharSequence"), (42, .class_ 48), (0, u "java/lang/CharSequence$1CodePointIterator"), (10, .class_ 60), (0, u "java/lang/CharSequence$1CharIterator"), (5, .class_ 67), (0, u "java/lang/Object")] 63

/-- java/lang/CharSequence -/
def k4 : Class := { plain "java/lang/CharSequence" (some 0) with
  accessFlags := 1537
  interfaces := #[]
  cf := some (fileOf pool4 2 #[.nestMembers #[47, 59]] #[] 1537 66 #[] #[])
  fields := #[]
  methods := #[]
  instanceTypes := #[]
  staticTypes := #[]
  resolved := Array.replicate 131 none
  statics := none }

def pool5 : Array CpInfo := pool [(1, .class_ 2), (0, u "java/lang/constant/Constable"), (0, .class_ 4), (0, u "java/lang/Object")] 6

/-- java/lang/constant/Constable -/
def k5 : Class := { plain "java/lang/constant/Constable" (some 0) with
  accessFlags := 1537
  interfaces := #[]
  cf := some (fileOf pool5 1 #[] #[] 1537 3 #[] #[])
  fields := #[]
  methods := #[]
  instanceTypes := #[]
  staticTypes := #[]
  resolved := Array.replicate 11 none
  statics := none }

def pool6 : Array CpInfo := pool [(1, .class_ 2), (0, u "java/lang/constant/ConstantDesc"), (0, .class_ 4), (0, u "java/lang/Object")] 32

/-- java/lang/constant/ConstantDesc -/
def k6 : Class := { plain "java/lang/constant/ConstantDesc" (some 0) with
  accessFlags := 1537
  interfaces := #[]
  cf := some (fileOf pool6 1 #[] #[] 1537 3 #[] #[])
  fields := #[]
  methods := #[]
  instanceTypes := #[]
  staticTypes := #[]
  resolved := Array.replicate 37 none
  statics := none }

def pool7 : Array CpInfo := pool [(1, .methodref 2 3), (0, .class_ 4), (0, .nameAndType 5 6), (0, u "java/lang/Object"), (0, u "<init>"), (0, u "()V"), (0, .string 8), (0, u ""), (0, .fieldref 10 11), (0, .class_ 12), (0, .nameAndType 13 14), (0, u "java/lang/String"), (0, u "value"), (0, u "[B"), (0, .fieldref 10 16), (0, .nameAndType 17 18), (0, u "coder"), (0, u "B"), (2, u "hash"), (0, u "I"), (2, u "hashIsZero"), (0, u "Z"), (0, .methodref 10 28), (0, .nameAndType 5 29), (0, u "([CIILjava/lang/Void;)V"), (6, u "checkBoundsOffCount"), (0, u "(III)I"), (0, .fieldref 10 39), (0, .nameAndType 40 26), (0, u "COMPACT_STRINGS"), (1, .class_ 44), (1, u "java/lang/StringUTF16"), (0, u "compress"), (1, .methodref 42 48), (0, .nameAndType 49 50), (0, u "coderFromArrayLen"), (0, u "([BI)B"), (56, .class_ 109), (1, u "java/lang/StringLatin1"), (32, u "()Z"), (34, .methodref 42 178), (0, .nameAndType 45 179), (0, u "([CII)[B"), (31, u "([BB)V"), (122, u "()I"), (0, .methodref 10 336), (0, .nameAndType 17 337), (0, u "()B"), (25, u "([BI)C"), (27, u "(II)V"), (35, u "(I)C"), (64, .methodref 10 493), (0, .nameAndType 494 142), (0, u "isLatin1"), (0, .methodref 107 496), (0, .nameAndType 497 363), (0, u "charAt"), (0, .methodref 42 496), (2, u "checkIndex"), (3, .methodref 10 506), (0, .nameAndType 507 334), (0, u "length"), (5, u "checkFromToIndex"), (7, .methodref 10 522), (0, .nameAndType 523 524), (0, u "checkBoundsBeginEnd"), (0, u "(III)V"), (50, .class_ 576), (0, u "java/lang/CharSequence"), (22, u "CASE_INSENSITIVE_ORDER"), (0, u "Ljava/util/Comparator;"), (82, u "substring"), (0, u "(II)Ljava/lang/String;"), (0, .methodref 107 686), (0, .nameAndType 687 688), (0, u "newString"), (0, u "([BII)Ljava/lang/String;"), (0, .methodref 42 686), (320, u "([C)V"), (42, .fieldref 1054 1055), (0, .class_ 1056), (0, .nameAndType 1057 1058), (0, u "jdk/internal/util/Preconditions"), (0, u "SIOOBE_FORMATTER"), (0, u "Ljava/util/function/BiFunction;"), (0, .methodref 1054 1060), (0, .nameAndType 501 1061), (0, u "(IILjava/util/function/BiFunction;)I"), (0, .methodref 1054 1063), (0, .nameAndType 513 1064), (0, u "(IIILjava/util/function/BiFunction;)I"), (0, .methodref 1054 1066), (0, .nameAndType 1067 1064), (0, u "checkFromIndexSize"), (33, u "serialPersistentFields"), (0, u "[Ljava/io/ObjectStreamField;"), (0, .class_ 1104), (0, u "java/lang/String$CaseInsensitiveComparator"), (1, .class_ 1107), (0, u "java/io/Serializable"), (0, .class_ 1109), (0, u "java/lang/Comparable"), (0, .class_ 1111), (0, u "java/lang/constant/Constable"), (0, .class_ 1113), (0, u "java/lang/constant/ConstantDesc"), (2, u "serialVersionUID"), (0, u "J"), (3, u "REPL"), (0, u "C"), (2, u "LATIN1"), (1, u "UTF16")] 323

def k7m0 : Method := { name := "<init>", desc := "()V", sig := { parameters := [], returnType := none }, accessFlags := 1, code := none }
def k7c1 : Code := { maxStack := 5, maxLocals := 2, code := jdk_42_method_3_code, exceptionTable := #[], attributes := #[] }
def k7m1 : Method := { name := "<init>", desc := "([C)V", sig := { parameters := [(.array .char)], returnType := none }, accessFlags := 1, code := some k7c1 }
def k7c2 : Code := { maxStack := 2, maxLocals := 1, code := jdk_42_method_54_code, exceptionTable := #[], attributes := #[] }
def k7m2 : Method := { name := "length", desc := "()I", sig := { parameters := [], returnType := some .int }, accessFlags := 1, code := some k7c2 }
def k7c3 : Code := { maxStack := 2, maxLocals := 2, code := jdk_42_method_56_code, exceptionTable := #[], attributes := #[] }
def k7m3 : Method := { name := "charAt", desc := "(I)C", sig := { parameters := [.int], returnType := some .char }, accessFlags := 1, code := some k7c3 }
def k7c4 : Code := { maxStack := 3, maxLocals := 5, code := jdk_42_method_92_code, exceptionTable := #[], attributes := #[] }
def k7m4 : Method := { name := "substring", desc := "(II)Ljava/lang/String;", sig := { parameters := [.int, .int], returnType := some (.object "java/lang/String") }, accessFlags := 1, code := some k7c4 }
def k7c5 : Code := { maxStack := 4, maxLocals := 6, code := jdk_42_method_149_code, exceptionTable := #[], attributes := #[] }
def k7m5 : Method := { name := "<init>", desc := "([CIILjava/lang/Void;)V", sig := { parameters := [(.array .char), .int, .int, (.object "java/lang/Void")], returnType := none }, accessFlags := 2, code := some k7c5 }
def k7c6 : Code := { maxStack := 2, maxLocals := 3, code := jdk_42_method_151_code, exceptionTable := #[], attributes := #[] }
def k7m6 : Method := { name := "<init>", desc := "([BB)V", sig := { parameters := [(.array .byte), .byte], returnType := none }, accessFlags := 0, code := some k7c6 }
def k7c7 : Code := { maxStack := 1, maxLocals := 1, code := jdk_42_method_152_code, exceptionTable := #[], attributes := #[] }
def k7m7 : Method := { name := "coder", desc := "()B", sig := { parameters := [], returnType := some .byte }, accessFlags := 0, code := some k7c7 }
def k7c8 : Code := { maxStack := 1, maxLocals := 1, code := jdk_42_method_154_code, exceptionTable := #[], attributes := #[] }
def k7m8 : Method := { name := "isLatin1", desc := "()Z", sig := { parameters := [], returnType := some .boolean }, accessFlags := 0, code := some k7c8 }
def k7c9 : Code := { maxStack := 3, maxLocals := 2, code := jdk_42_method_155_code, exceptionTable := #[], attributes := #[] }
def k7m9 : Method := { name := "checkIndex", desc := "(II)V", sig := { parameters := [.int, .int], returnType := none }, accessFlags := 8, code := some k7c9 }
def k7c10 : Code := { maxStack := 4, maxLocals := 3, code := jdk_42_method_157_code, exceptionTable := #[], attributes := #[] }
def k7m10 : Method := { name := "checkBoundsOffCount", desc := "(III)I", sig := { parameters := [.int, .int, .int], returnType := some .int }, accessFlags := 8, code := some k7c10 }
def k7c11 : Code := { maxStack := 4, maxLocals := 3, code := jdk_42_method_158_code, exceptionTable := #[], attributes := #[] }
def k7m11 : Method := { name := "checkBoundsBeginEnd", desc := "(III)V", sig := { parameters := [.int, .int, .int], returnType := none }, accessFlags := 8, code := some k7c11 }
/-- java/lang/String -/
def k7 : Class := { plain "java/lang/String" (some 0) with
  accessFlags := 49
  interfaces := #[2, 3, 4, 5, 6]
  cf := some (fileOf pool7 10 #[.nestMembers #[1103]] #[{ accessFlags := 1, nameIndex := 5, descriptorIndex := 6, attributes := #[] }, { accessFlags := 1, nameIndex := 5, descriptorIndex := 1010, attributes := #[] }, { accessFlags := 1, nameIndex := 507, descriptorIndex := 334, attributes := #[] }, { accessFlags := 1, nameIndex := 497, descriptorIndex := 427, attributes := #[] }, { accessFlags := 1, nameIndex := 683, descriptorIndex := 684, attributes := #[] }, { accessFlags := 2, nameIndex := 5, descriptorIndex := 29, attributes := #[] }, { accessFlags := 0, nameIndex := 5, descriptorIndex := 211, attributes := #[] }, { accessFlags := 0, nameIndex := 17, descriptorIndex := 337, attributes := #[] }, { accessFlags := 0, nameIndex := 494, descriptorIndex := 142, attributes := #[] }, { accessFlags := 8, nameIndex := 501, descriptorIndex := 391, attributes := #[] }, { accessFlags := 8, nameIndex := 36, descriptorIndex := 37, attributes := #[] }, { accessFlags := 8, nameIndex := 523, descriptorIndex := 524, attributes := #[] }] 49 2 #[1106, 1108, 575, 1110, 1112] #[{ accessFlags := 18, nameIndex := 13, descriptorIndex := 14, attributes := #[] }, { accessFlags := 18, nameIndex := 17, descriptorIndex := 18, attributes := #[] }, { accessFlags := 2, nameIndex := 21, descriptorIndex := 22, attributes := #[] }, { accessFlags := 2, nameIndex := 25, descriptorIndex := 26, attributes := #[] }, { accessFlags := 26, nameIndex := 1116, descriptorIndex := 1117, attributes := #[] }, { accessFlags := 24, nameIndex := 40, descriptorIndex := 26, attributes := #[] }, { accessFlags := 26, nameIndex := 1101, descriptorIndex := 1102, attributes := #[] }, { accessFlags := 26, nameIndex := 1121, descriptorIndex := 1122, attributes := #[] }, { accessFlags := 25, nameIndex := 599, descriptorIndex := 600, attributes := #[] }, { accessFlags := 24, nameIndex := 1125, descriptorIndex := 18, attributes := #[] }, { accessFlags := 24, nameIndex := 1127, descriptorIndex := 18, attributes := #[] }])
  fields := #[{ name := "value", type := (.array .byte), accessFlags := 18, slot := 0, constantValue := 0 }, { name := "coder", type := .byte, accessFlags := 18, slot := 1, constantValue := 0 }, { name := "hash", type := .int, accessFlags := 2, slot := 2, constantValue := 0 }, { name := "hashIsZero", type := .boolean, accessFlags := 2, slot := 3, constantValue := 0 }, { name := "serialVersionUID", type := .long, accessFlags := 26, slot := 0, constantValue := 0 }, { name := "COMPACT_STRINGS", type := .boolean, accessFlags := 24, slot := 1, constantValue := 0 }, { name := "serialPersistentFields", type := (.array (.object "java/io/ObjectStreamField")), accessFlags := 26, slot := 2, constantValue := 0 }, { name := "REPL", type := .char, accessFlags := 26, slot := 3, constantValue := 0 }, { name := "CASE_INSENSITIVE_ORDER", type := (.object "java/util/Comparator"), accessFlags := 25, slot := 4, constantValue := 0 }, { name := "LATIN1", type := .byte, accessFlags := 24, slot := 5, constantValue := 0 }, { name := "UTF16", type := .byte, accessFlags := 24, slot := 6, constantValue := 0 }]
  methods := #[k7m0, k7m1, k7m2, k7m3, k7m4, k7m5, k7m6, k7m7, k7m8, k7m9, k7m10, k7m11]
  instanceTypes := #[(.array .byte), .byte, .int, .boolean]
  staticTypes := #[.long, .boolean, (.array (.object "java/io/ObjectStreamField")), .char, (.object "java/util/Comparator"), .byte, .byte]
  resolved := Array.replicate 1451 none
  statics := some 0 }

def pool8 : Array CpInfo := pool [(2, .class_ 4), (1, u "java/lang/Object"), (0, u "<init>"), (0, u "()V"), (0, .methodref 8 9), (0, .class_ 10), (0, .nameAndType 11 12), (0, u "java/lang/String"), (0, u "length"), (0, u "()I"), (0, .class_ 14), (0, u "com/example/stowage/stowage/dicom/Uid"), (0, .methodref 8 16), (0, .nameAndType 17 18), (0, u "charAt"), (0, u "(I)C"), (3, u "(Ljava/lang/String;)Ljava/lang/String;"), (11, u "withoutPadding"), (14, .methodref 8 50), (0, .nameAndType 51 52), (0, u "substring"), (0, u "(II)Ljava/lang/String;"), (0, u "MAX_LENGTH"), (0, u "I")] 42

def k8m0 : Method := { name := "<init>", desc := "()V", sig := { parameters := [], returnType := none }, accessFlags := 2, code := none }
def k8c1 : Code := { maxStack := 3, maxLocals := 2, code := prog_11_method_5_code, exceptionTable := #[], attributes := #[] }
def k8m1 : Method := { name := "withoutPadding", desc := "(Ljava/lang/String;)Ljava/lang/String;", sig := { parameters := [(.object "java/lang/String")], returnType := some (.object "java/lang/String") }, accessFlags := 9, code := some k8c1 }
/-- com/example/stowage/stowage/dicom/Uid -/
def k8 : Class := { plain "com/example/stowage/stowage/dicom/Uid" (some 0) with
  accessFlags := 49
  interfaces := #[]
  cf := some (fileOf pool8 13 #[] #[{ accessFlags := 2, nameIndex := 5, descriptorIndex := 6, attributes := #[] }, { accessFlags := 9, nameIndex := 34, descriptorIndex := 22, attributes := #[] }] 49 2 #[] #[{ accessFlags := 25, nameIndex := 53, descriptorIndex := 54, attributes := #[] }])
  fields := #[{ name := "MAX_LENGTH", type := .int, accessFlags := 25, slot := 0, constantValue := 0 }]
  methods := #[k8m0, k8m1]
  instanceTypes := #[]
  staticTypes := #[.int]
  resolved := Array.replicate 97 none
  statics := none }

def pool9 : Array CpInfo := pool [(2, .class_ 4), (1, u "java/lang/Object"), (0, u "<init>"), (0, u "()V"), (17, .class_ 26), (1, u "jdk/internal/util/Preconditions"), (6, u "checkIndex"), (13, u "checkFromToIndex"), (1, u "checkFromIndexSize"), (5, .class_ 56), (0, u "jdk/internal/util/Preconditions$4"), (57, .class_ 115), (0, u "jdk/internal/util/Preconditions$1"), (7, u "SIOOBE_FORMATTER"), (0, u "Ljava/util/function/BiFunction;"), (0, .class_ 126), (0, u "jdk/internal/util/Preconditions$2"), (3, u "AIOOBE_FORMATTER"), (0, .class_ 132), (0, u "jdk/internal/util/Preconditions$3"), (3, u "IOOBE_FORMATTER"), (41, u "(IILjava/util/function/BiFunction;)I"), (4, u "(IIILjava/util/function/BiFunction;)I")] 10

def k9m0 : Method := { name := "<init>", desc := "()V", sig := { parameters := [], returnType := none }, accessFlags := 1, code := none }
def k9c1 : Code := { maxStack := 3, maxLocals := 3, code := jdk_41_method_11_code, exceptionTable := #[], attributes := #[] }
def k9m1 : Method := { name := "checkIndex", desc := "(IILjava/util/function/BiFunction;)I", sig := { parameters := [.int, .int, (.object "java/util/function/BiFunction")], returnType := some .int }, accessFlags := 9, code := some k9c1 }
def k9c2 : Code := { maxStack := 4, maxLocals := 4, code := jdk_41_method_12_code, exceptionTable := #[], attributes := #[] }
def k9m2 : Method := { name := "checkFromToIndex", desc := "(IIILjava/util/function/BiFunction;)I", sig := { parameters := [.int, .int, .int, (.object "java/util/function/BiFunction")], returnType := some .int }, accessFlags := 9, code := some k9c2 }
def k9c3 : Code := { maxStack := 4, maxLocals := 4, code := jdk_41_method_13_code, exceptionTable := #[], attributes := #[] }
def k9m3 : Method := { name := "checkFromIndexSize", desc := "(IIILjava/util/function/BiFunction;)I", sig := { parameters := [.int, .int, .int, (.object "java/util/function/BiFunction")], returnType := some .int }, accessFlags := 9, code := some k9c3 }
/-- jdk/internal/util/Preconditions -/
def k9 : Class := { plain "jdk/internal/util/Preconditions" (some 0) with
  accessFlags := 33
  interfaces := #[]
  cf := some (fileOf pool9 24 #[.nestMembers #[55, 131, 125, 114]] #[{ accessFlags := 1, nameIndex := 5, descriptorIndex := 6, attributes := #[] }, { accessFlags := 9, nameIndex := 33, descriptorIndex := 178, attributes := #[] }, { accessFlags := 9, nameIndex := 47, descriptorIndex := 183, attributes := #[] }, { accessFlags := 9, nameIndex := 49, descriptorIndex := 183, attributes := #[] }] 33 2 #[] #[{ accessFlags := 25, nameIndex := 123, descriptorIndex := 124, attributes := #[] }, { accessFlags := 25, nameIndex := 130, descriptorIndex := 124, attributes := #[] }, { accessFlags := 25, nameIndex := 136, descriptorIndex := 124, attributes := #[] }])
  fields := #[{ name := "SIOOBE_FORMATTER", type := (.object "java/util/function/BiFunction"), accessFlags := 25, slot := 0, constantValue := 0 }, { name := "AIOOBE_FORMATTER", type := (.object "java/util/function/BiFunction"), accessFlags := 25, slot := 1, constantValue := 0 }, { name := "IOOBE_FORMATTER", type := (.object "java/util/function/BiFunction"), accessFlags := 25, slot := 2, constantValue := 0 }]
  methods := #[k9m0, k9m1, k9m2, k9m3]
  instanceTypes := #[]
  staticTypes := #[(.object "java/util/function/BiFunction"), (.object "java/util/function/BiFunction"), (.object "java/util/function/BiFunction")]
  resolved := Array.replicate 194 none
  statics := some 1 }

def pool10 : Array CpInfo := pool [(3, .class_ 4), (0, u "java/lang/String"), (1, .class_ 8), (1, u "java/lang/Object"), (0, u "<init>"), (0, u "()V"), (0, .methodref 12 13), (0, .class_ 14), (0, .nameAndType 15 16), (0, u "java/lang/StringUTF16"), (0, u "newBytesLength"), (0, u "(I)I"), (3, .integer 1073741823), (23, .fieldref 12 45), (0, .nameAndType 46 47), (0, u "$assertionsDisabled"), (0, u "Z"), (0, .methodref 12 49), (0, .nameAndType 50 51), (0, u "length"), (0, u "([B)I"), (7, .fieldref 12 60), (0, .nameAndType 61 62), (0, u "HI_BYTE_SHIFT"), (0, u "I"), (0, .fieldref 12 64), (0, .nameAndType 65 62), (0, u "LO_BYTE_SHIFT"), (1, .methodref 12 68), (0, .nameAndType 69 70), (0, u "checkIndex"), (0, u "(I[B)V"), (0, .methodref 12 72), (0, .nameAndType 73 74), (0, u "getChar"), (0, u "([BI)C"), (24, u "(II[B)V"), (7, .methodref 12 108), (0, .nameAndType 109 110), (0, u "newBytesFor"), (0, u "(I)[B"), (0, .methodref 12 112), (0, .nameAndType 113 114), (0, u "putChar"), (0, u "([BII)V"), (0, .methodref 12 116), (0, .nameAndType 117 118), (0, u "compress"), (0, u "([CI[BII)I"), (0, .methodref 12 120), (0, .nameAndType 121 122), (0, u "toBytes"), (0, u "([CII)[B"), (0, .methodref 12 124), (0, .nameAndType 117 125), (0, u "([BI[BII)I"), (0, .methodref 127 128), (0, .class_ 129), (0, .nameAndType 130 131), (0, u "java/util/Arrays"), (0, u "copyOfRange"), (0, u "([BII)[B"), (41, .methodref 12 174), (0, .nameAndType 175 99), (0, u "checkBoundsOffCount"), (75, .fieldref 3 252), (0, .nameAndType 253 47), (0, u "COMPACT_STRINGS"), (3, .methodref 12 258), (0, .nameAndType 117 131), (0, .methodref 12 260), (0, .nameAndType 261 262), (0, u "coderFromArrayLen"), (0, u "([BI)B"), (0, .methodref 3 264), (0, .nameAndType 9 265), (0, u "([BB)V"), (15, u "(III)I"), (45, u "newString"), (0, u "([BII)Ljava/lang/String;"), (40, .class_ 371), (1, u "java/lang/StringUTF16$LinesSpliterator"), (20, u "charAt"), (21, .methodref 3 415), (0, .nameAndType 69 416), (0, u "(II)V"), (2, .methodref 3 420), (0, .nameAndType 175 281), (9, u "MAX_LENGTH"), (196, .class_ 628), (0, u "java/lang/StringUTF16$CodePointsSpliterator"), (0, .class_ 630), (0, u "java/lang/StringUTF16$CharsSpliterator")] 4

def k10m0 : Method := { name := "<init>", desc := "()V", sig := { parameters := [], returnType := none }, accessFlags := 0, code := none }
def k10c1 : Code := { maxStack := 1, maxLocals := 1, code := jdk_52_method_2_code, exceptionTable := #[], attributes := #[] }
def k10m1 : Method := { name := "newBytesFor", desc := "(I)[B", sig := { parameters := [.int], returnType := some (.array .byte) }, accessFlags := 9, code := some k10c1 }
def k10c2 : Code := { maxStack := 4, maxLocals := 1, code := jdk_52_method_3_code, exceptionTable := #[], attributes := #[] }
def k10m2 : Method := { name := "newBytesLength", desc := "(I)I", sig := { parameters := [.int], returnType := some .int }, accessFlags := 9, code := some k10c2 }
def k10c3 : Code := { maxStack := 4, maxLocals := 3, code := jdk_52_method_4_code, exceptionTable := #[], attributes := #[] }
def k10m3 : Method := { name := "putChar", desc := "([BII)V", sig := { parameters := [(.array .byte), .int, .int], returnType := none }, accessFlags := 8, code := some k10c3 }
def k10c4 : Code := { maxStack := 3, maxLocals := 2, code := jdk_52_method_5_code, exceptionTable := #[], attributes := #[] }
def k10m4 : Method := { name := "getChar", desc := "([BI)C", sig := { parameters := [(.array .byte), .int], returnType := some .char }, accessFlags := 8, code := some k10c4 }
def k10c5 : Code := { maxStack := 2, maxLocals := 1, code := jdk_52_method_6_code, exceptionTable := #[], attributes := #[] }
def k10m5 : Method := { name := "length", desc := "([B)I", sig := { parameters := [(.array .byte)], returnType := some .int }, accessFlags := 9, code := some k10c5 }
def k10c6 : Code := { maxStack := 4, maxLocals := 5, code := jdk_52_method_14_code, exceptionTable := #[], attributes := #[] }
def k10m6 : Method := { name := "toBytes", desc := "([CII)[B", sig := { parameters := [(.array .char), .int, .int], returnType := some (.array .byte) }, accessFlags := 9, code := some k10c6 }
def k10c7 : Code := { maxStack := 2, maxLocals := 2, code := jdk_52_method_15_code, exceptionTable := #[], attributes := #[] }
def k10m7 : Method := { name := "coderFromArrayLen", desc := "([BI)B", sig := { parameters := [(.array .byte), .int], returnType := some .byte }, accessFlags := 8, code := some k10c7 }
def k10c8 : Code := { maxStack := 5, maxLocals := 6, code := jdk_52_method_16_code, exceptionTable := #[], attributes := #[] }
def k10m8 : Method := { name := "compress", desc := "([CII)[B", sig := { parameters := [(.array .char), .int, .int], returnType := some (.array .byte) }, accessFlags := 9, code := some k10c8 }
def k10c9 : Code := { maxStack := 5, maxLocals := 6, code := jdk_52_method_17_code, exceptionTable := #[], attributes := #[] }
def k10m9 : Method := { name := "compress", desc := "([BII)[B", sig := { parameters := [(.array .byte), .int, .int], returnType := some (.array .byte) }, accessFlags := 9, code := some k10c9 }
def k10c10 : Code := { maxStack := 3, maxLocals := 7, code := jdk_52_method_21_code, exceptionTable := #[], attributes := #[] }
def k10m10 : Method := { name := "compress", desc := "([CI[BII)I", sig := { parameters := [(.array .char), .int, (.array .byte), .int, .int], returnType := some .int }, accessFlags := 9, code := some k10c10 }
def k10c11 : Code := { maxStack := 3, maxLocals := 7, code := jdk_52_method_22_code, exceptionTable := #[], attributes := #[] }
def k10m11 : Method := { name := "compress", desc := "([BI[BII)I", sig := { parameters := [(.array .byte), .int, (.array .byte), .int, .int], returnType := some .int }, accessFlags := 9, code := some k10c11 }
def k10c12 : Code := { maxStack := 6, maxLocals := 5, code := jdk_52_method_69_code, exceptionTable := #[], attributes := #[] }
def k10m12 : Method := { name := "newString", desc := "([BII)Ljava/lang/String;", sig := { parameters := [(.array .byte), .int, .int], returnType := some (.object "java/lang/String") }, accessFlags := 9, code := some k10c12 }
def k10c13 : Code := { maxStack := 2, maxLocals := 2, code := jdk_52_method_83_code, exceptionTable := #[], attributes := #[] }
def k10m13 : Method := { name := "charAt", desc := "([BI)C", sig := { parameters := [(.array .byte), .int], returnType := some .char }, accessFlags := 9, code := some k10c13 }
def k10c14 : Code := { maxStack := 2, maxLocals := 2, code := jdk_52_method_91_code, exceptionTable := #[], attributes := #[] }
def k10m14 : Method := { name := "checkIndex", desc := "(I[B)V", sig := { parameters := [.int, (.array .byte)], returnType := none }, accessFlags := 9, code := some k10c14 }
def k10c15 : Code := { maxStack := 3, maxLocals := 3, code := jdk_52_method_94_code, exceptionTable := #[], attributes := #[] }
def k10m15 : Method := { name := "checkBoundsOffCount", desc := "(II[B)V", sig := { parameters := [.int, .int, (.array .byte)], returnType := none }, accessFlags := 9, code := some k10c15 }
/-- java/lang/StringUTF16 -/
def k10 : Class := { plain "java/lang/StringUTF16" (some 0) with
  accessFlags := 48
  interfaces := #[]
  cf := some (fileOf pool10 12 #[.nestMembers #[627, 629, 369]] #[{ accessFlags := 0, nameIndex := 9, descriptorIndex := 10, attributes := #[] }, { accessFlags := 9, nameIndex := 109, descriptorIndex := 110, attributes := #[] }, { accessFlags := 9, nameIndex := 15, descriptorIndex := 16, attributes := #[] }, { accessFlags := 8, nameIndex := 113, descriptorIndex := 114, attributes := #[] }, { accessFlags := 8, nameIndex := 73, descriptorIndex := 74, attributes := #[] }, { accessFlags := 9, nameIndex := 50, descriptorIndex := 51, attributes := #[] }, { accessFlags := 9, nameIndex := 121, descriptorIndex := 122, attributes := #[] }, { accessFlags := 8, nameIndex := 261, descriptorIndex := 262, attributes := #[] }, { accessFlags := 9, nameIndex := 117, descriptorIndex := 122, attributes := #[] }, { accessFlags := 9, nameIndex := 117, descriptorIndex := 131, attributes := #[] }, { accessFlags := 9, nameIndex := 117, descriptorIndex := 118, attributes := #[] }, { accessFlags := 9, nameIndex := 117, descriptorIndex := 125, attributes := #[] }, { accessFlags := 9, nameIndex := 327, descriptorIndex := 328, attributes := #[] }, { accessFlags := 9, nameIndex := 392, descriptorIndex := 74, attributes := #[] }, { accessFlags := 9, nameIndex := 69, descriptorIndex := 70, attributes := #[] }, { accessFlags := 9, nameIndex := 175, descriptorIndex := 99, attributes := #[] }] 48 6 #[] #[{ accessFlags := 26, nameIndex := 61, descriptorIndex := 62, attributes := #[] }, { accessFlags := 26, nameIndex := 65, descriptorIndex := 62, attributes := #[] }, { accessFlags := 24, nameIndex := 430, descriptorIndex := 62, attributes := #[] }, { accessFlags := 4120, nameIndex := 46, descriptorIndex := 47, attributes := #[] }])
  fields := #[{ name := "HI_BYTE_SHIFT", type := .int, accessFlags := 26, slot := 0, constantValue := 0 }, { name := "LO_BYTE_SHIFT", type := .int, accessFlags := 26, slot := 1, constantValue := 0 }, { name := "MAX_LENGTH", type := .int, accessFlags := 24, slot := 2, constantValue := 0 }, { name := "$assertionsDisabled", type := .boolean, accessFlags := 4120, slot := 3, constantValue := 0 }]
  methods := #[k10m0, k10m1, k10m2, k10m3, k10m4, k10m5, k10m6, k10m7, k10m8, k10m9, k10m10, k10m11, k10m12, k10m13, k10m14, k10m15]
  instanceTypes := #[]
  staticTypes := #[.int, .int, .int, .boolean]
  resolved := Array.replicate 635 none
  statics := some 2 }

def pool11 : Array CpInfo := pool [(1, .class_ 2), (0, u "java/lang/String"), (1, .class_ 6), (1, u "java/lang/Object"), (0, u "<init>"), (0, u "()V"), (0, .methodref 1 10), (0, .nameAndType 11 12), (0, u "checkIndex"), (0, u "(II)V"), (1, .class_ 16), (1, u "java/lang/StringLatin1"), (36, u "([BI)C"), (58, .methodref 1 113), (0, .nameAndType 7 114), (0, u "([BB)V"), (6, u "$assertionsDisabled"), (0, u "Z"), (8, .class_ 133), (1, u "java/util/Arrays"), (17, .string 152), (0, u ""), (43, u "newString"), (0, u "([BII)Ljava/lang/String;"), (23, .class_ 223), (1, u "java/lang/StringLatin1$LinesSpliterator"), (8, .methodref 131 233), (0, .nameAndType 234 235), (0, u "copyOfRange"), (0, u "([BII)[B"), (16, u "charAt"), (137, .class_ 391), (0, u "java/lang/StringLatin1$CharsSpliterator")] 3

def k11m0 : Method := { name := "<init>", desc := "()V", sig := { parameters := [], returnType := none }, accessFlags := 0, code := none }
def k11c1 : Code := { maxStack := 2, maxLocals := 2, code := jdk_43_method_2_code, exceptionTable := #[], attributes := #[] }
def k11m1 : Method := { name := "charAt", desc := "([BI)C", sig := { parameters := [(.array .byte), .int], returnType := some .char }, accessFlags := 9, code := some k11c1 }
def k11c2 : Code := { maxStack := 6, maxLocals := 3, code := jdk_43_method_47_code, exceptionTable := #[], attributes := #[] }
def k11m2 : Method := { name := "newString", desc := "([BII)Ljava/lang/String;", sig := { parameters := [(.array .byte), .int, .int], returnType := some (.object "java/lang/String") }, accessFlags := 9, code := some k11c2 }
/-- java/lang/StringLatin1 -/
def k11 : Class := { plain "java/lang/StringLatin1" (some 0) with
  accessFlags := 48
  interfaces := #[]
  cf := some (fileOf pool11 14 #[.nestMembers #[390, 221]] #[{ accessFlags := 0, nameIndex := 7, descriptorIndex := 8, attributes := #[] }, { accessFlags := 9, nameIndex := 252, descriptorIndex := 53, attributes := #[] }, { accessFlags := 9, nameIndex := 196, descriptorIndex := 197, attributes := #[] }] 48 4 #[] #[{ accessFlags := 4120, nameIndex := 121, descriptorIndex := 122, attributes := #[] }])
  fields := #[{ name := "$assertionsDisabled", type := .boolean, accessFlags := 4120, slot := 0, constantValue := 0 }]
  methods := #[k11m0, k11m1, k11m2]
  instanceTypes := #[]
  staticTypes := #[.boolean]
  resolved := Array.replicate 395 none
  statics := none }

def pool12 : Array CpInfo := pool [(2, .class_ 4), (1, u "java/lang/Object"), (0, u "<init>"), (0, u "()V"), (7, .class_ 16), (1, u "java/util/Arrays"), (57, .class_ 76), (1, u "java/util/Arrays$NaturalOrder"), (36, .class_ 115), (1, u "java/util/Arrays$LegacyMergeSort"), (1, u "Z"), (21, u "copyOfRange"), (10, .methodref 151 152), (0, .class_ 153), (0, .nameAndType 154 155), (0, u "java/lang/System"), (0, u "arraycopy"), (0, u "(Ljava/lang/Object;ILjava/lang/Object;II)V"), (148, .methodref 305 306), (0, .class_ 307), (0, .nameAndType 308 309), (0, u "java/lang/Math"), (0, u "min"), (0, u "(II)I"), (29, .methodref 14 340), (0, .nameAndType 341 342), (0, u "copyOfRangeByte"), (0, u "([BII)[B"), (0, .methodref 14 344), (0, .nameAndType 345 346), (0, u "checkLength"), (0, u "(II)V"), (28, .class_ 376), (0, u "java/util/Arrays$ArrayList"), (68, u "$assertionsDisabled"), (269, u "MIN_ARRAY_SORT_GRAN"), (0, u "I"), (2, u "INSERTIONSORT_THRESHOLD"), (255, .class_ 976), (0, u "java/util/Arrays$ArrayItr")] 52

def k12m0 : Method := { name := "<init>", desc := "()V", sig := { parameters := [], returnType := none }, accessFlags := 2, code := none }
def k12c1 : Code := { maxStack := 4, maxLocals := 2, code := jdk_65_method_131_code, exceptionTable := #[], attributes := #[] }
def k12m1 : Method := { name := "checkLength", desc := "(II)V", sig := { parameters := [.int, .int], returnType := none }, accessFlags := 10, code := some k12c1 }
def k12c2 : Code := { maxStack := 3, maxLocals := 3, code := jdk_65_method_132_code, exceptionTable := #[], attributes := #[] }
def k12m2 : Method := { name := "copyOfRange", desc := "([BII)[B", sig := { parameters := [(.array .byte), .int, .int], returnType := some (.array .byte) }, accessFlags := 9, code := some k12c2 }
def k12c3 : Code := { maxStack := 6, maxLocals := 5, code := jdk_65_method_133_code, exceptionTable := #[], attributes := #[] }
def k12m3 : Method := { name := "copyOfRangeByte", desc := "([BII)[B", sig := { parameters := [(.array .byte), .int, .int], returnType := some (.array .byte) }, accessFlags := 10, code := some k12c3 }
/-- java/util/Arrays -/
def k12 : Class := { plain "java/util/Arrays" (some 0) with
  accessFlags := 49
  interfaces := #[]
  cf := some (fileOf pool12 14 #[.nestMembers #[975, 375, 113, 74]] #[{ accessFlags := 2, nameIndex := 5, descriptorIndex := 6, attributes := #[] }, { accessFlags := 10, nameIndex := 345, descriptorIndex := 346, attributes := #[] }, { accessFlags := 9, nameIndex := 139, descriptorIndex := 342, attributes := #[] }, { accessFlags := 10, nameIndex := 341, descriptorIndex := 342, attributes := #[] }] 49 2 #[] #[{ accessFlags := 26, nameIndex := 715, descriptorIndex := 716, attributes := #[] }, { accessFlags := 26, nameIndex := 719, descriptorIndex := 716, attributes := #[] }, { accessFlags := 4120, nameIndex := 445, descriptorIndex := 117, attributes := #[] }])
  fields := #[{ name := "MIN_ARRAY_SORT_GRAN", type := .int, accessFlags := 26, slot := 0, constantValue := 0 }, { name := "INSERTIONSORT_THRESHOLD", type := .int, accessFlags := 26, slot := 1, constantValue := 0 }, { name := "$assertionsDisabled", type := .boolean, accessFlags := 4120, slot := 2, constantValue := 0 }]
  methods := #[k12m0, k12m1, k12m2, k12m3]
  instanceTypes := #[]
  staticTypes := #[.int, .int, .boolean]
  resolved := Array.replicate 1029 none
  statics := none }

def pool13 : Array CpInfo := pool [(1, .class_ 2), (0, u "java/lang/Math"), (1, .class_ 6), (1, u "java/lang/Object"), (0, u "<init>"), (0, u "()V"), (89, .class_ 100), (1, u "java/lang/Math$RandomNumberGeneratorHolder"), (71, u "negativeZeroFloatBits"), (0, u "J"), (2, u "negativeZeroDoubleBits"), (24, u "min"), (43, u "$assertionsDisabled"), (0, u "Z"), (88, u "(II)I"), (2, u "twoToTheDoubleScaleDown"), (0, u "D"), (4, u "twoToTheDoubleScaleUp"), (9, u "E"), (3, u "PI"), (2, u "TAU"), (2, u "DEGREES_TO_RADIANS"), (0, u "RADIANS_TO_DEGREES")] 94

def k13m0 : Method := { name := "<init>", desc := "()V", sig := { parameters := [], returnType := none }, accessFlags := 2, code := none }
def k13c1 : Code := { maxStack := 2, maxLocals := 2, code := jdk_29_method_69_code, exceptionTable := #[], attributes := #[] }
def k13m1 : Method := { name := "min", desc := "(II)I", sig := { parameters := [.int, .int], returnType := some .int }, accessFlags := 9, code := some k13c1 }
/-- java/lang/Math -/
def k13 : Class := { plain "java/lang/Math" (some 0) with
  accessFlags := 49
  interfaces := #[]
  cf := some (fileOf pool13 1 #[.nestMembers #[98]] #[{ accessFlags := 2, nameIndex := 7, descriptorIndex := 8, attributes := #[] }, { accessFlags := 9, nameIndex := 201, descriptorIndex := 335, attributes := #[] }] 49 4 #[] #[{ accessFlags := 25, nameIndex := 354, descriptorIndex := 339, attributes := #[] }, { accessFlags := 25, nameIndex := 358, descriptorIndex := 339, attributes := #[] }, { accessFlags := 25, nameIndex := 361, descriptorIndex := 339, attributes := #[] }, { accessFlags := 26, nameIndex := 364, descriptorIndex := 339, attributes := #[] }, { accessFlags := 26, nameIndex := 365, descriptorIndex := 339, attributes := #[] }, { accessFlags := 26, nameIndex := 172, descriptorIndex := 173, attributes := #[] }, { accessFlags := 26, nameIndex := 176, descriptorIndex := 173, attributes := #[] }, { accessFlags := 8, nameIndex := 344, descriptorIndex := 339, attributes := #[] }, { accessFlags := 8, nameIndex := 338, descriptorIndex := 339, attributes := #[] }, { accessFlags := 4120, nameIndex := 245, descriptorIndex := 246, attributes := #[] }])
  fields := #[{ name := "E", type := .double, accessFlags := 25, slot := 0, constantValue := 0 }, { name := "PI", type := .double, accessFlags := 25, slot := 1, constantValue := 0 }, { name := "TAU", type := .double, accessFlags := 25, slot := 2, constantValue := 0 }, { name := "DEGREES_TO_RADIANS", type := .double, accessFlags := 26, slot := 3, constantValue := 0 }, { name := "RADIANS_TO_DEGREES", type := .double, accessFlags := 26, slot := 4, constantValue := 0 }, { name := "negativeZeroFloatBits", type := .long, accessFlags := 26, slot := 5, constantValue := 0 }, { name := "negativeZeroDoubleBits", type := .long, accessFlags := 26, slot := 6, constantValue := 0 }, { name := "twoToTheDoubleScaleUp", type := .double, accessFlags := 8, slot := 7, constantValue := 0 }, { name := "twoToTheDoubleScaleDown", type := .double, accessFlags := 8, slot := 8, constantValue := 0 }, { name := "$assertionsDisabled", type := .boolean, accessFlags := 4120, slot := 9, constantValue := 0 }]
  methods := #[k13m0, k13m1]
  instanceTypes := #[]
  staticTypes := #[.double, .double, .double, .double, .double, .long, .long, .double, .double, .boolean]
  resolved := Array.replicate 460 none
  statics := none }

def pool14 : Array CpInfo := pool [(2, .class_ 4), (1, u "java/lang/Object"), (0, u "<init>"), (0, u "()V"), (1, .class_ 10), (1, u "java/lang/System"), (0, u "allowSecurityManager"), (0, u "I"), (16, u "cons"), (0, u "Ljava/io/Console;"), (77, .class_ 110), (1, u "java/lang/System$CallersHolder"), (43, u "initialErrStream"), (0, u "Ljava/io/PrintStream;"), (19, u "security"), (0, u "Ljava/lang/SecurityManager;"), (31, .class_ 209), (0, u "java/lang/System$1"), (7, u "props"), (0, u "Ljava/util/Properties;"), (2, u "lineSeparator"), (0, u "Ljava/lang/String;"), (96, .class_ 321), (1, u "java/lang/System$LoggerFinder"), (5, .class_ 328), (0, u "java/lang/System$Logger"), (67, u "err"), (2, u "out"), (91, u "notSupportedJnuEncoding"), (15, u "in"), (17, u "initialIn"), (0, u "Ljava/io/InputStream;"), (35, u "bootLayer"), (0, u "Ljava/lang/ModuleLayer;"), (99, .class_ 664), (0, u "java/lang/System$2"), (9, u "NEVER"), (2, u "MAYBE"), (49, u "arraycopy"), (0, u "(Ljava/lang/Object;ILjava/lang/Object;II)V"), (72, .class_ 802), (0, u "java/lang/System$Logger$Level")] 31

def k14m0 : Method := { name := "<init>", desc := "()V", sig := { parameters := [], returnType := none }, accessFlags := 2, code := none }
def k14m1 : Method := { name := "arraycopy", desc := "(Ljava/lang/Object;ILjava/lang/Object;II)V", sig := { parameters := [(.object "java/lang/Object"), .int, (.object "java/lang/Object"), .int, .int], returnType := none }, accessFlags := 265, code := none }
/-- java/lang/System -/
def k14 : Class := { plain "java/lang/System" (some 0) with
  accessFlags := 49
  interfaces := #[]
  cf := some (fileOf pool14 8 #[.nestMembers #[319, 327, 801, 108, 663, 208]] #[{ accessFlags := 2, nameIndex := 5, descriptorIndex := 6, attributes := #[] }, { accessFlags := 265, nameIndex := 727, descriptorIndex := 728, attributes := #[] }] 49 2 #[] #[{ accessFlags := 25, nameIndex := 507, descriptorIndex := 526, attributes := #[] }, { accessFlags := 25, nameIndex := 399, descriptorIndex := 155, attributes := #[] }, { accessFlags := 25, nameIndex := 396, descriptorIndex := 155, attributes := #[] }, { accessFlags := 10, nameIndex := 525, descriptorIndex := 526, attributes := #[] }, { accessFlags := 26, nameIndex := 674, descriptorIndex := 12, attributes := #[] }, { accessFlags := 26, nameIndex := 677, descriptorIndex := 12, attributes := #[] }, { accessFlags := 10, nameIndex := 11, descriptorIndex := 12, attributes := #[] }, { accessFlags := 74, nameIndex := 175, descriptorIndex := 176, attributes := #[] }, { accessFlags := 10, nameIndex := 491, descriptorIndex := 222, attributes := #[] }, { accessFlags := 74, nameIndex := 29, descriptorIndex := 30, attributes := #[] }, { accessFlags := 74, nameIndex := 154, descriptorIndex := 155, attributes := #[] }, { accessFlags := 10, nameIndex := 217, descriptorIndex := 218, attributes := #[] }, { accessFlags := 10, nameIndex := 221, descriptorIndex := 222, attributes := #[] }, { accessFlags := 8, nameIndex := 562, descriptorIndex := 563, attributes := #[] }])
  fields := #[{ name := "in", type := (.object "java/io/InputStream"), accessFlags := 25, slot := 0, constantValue := 0 }, { name := "out", type := (.object "java/io/PrintStream"), accessFlags := 25, slot := 1, constantValue := 0 }, { name := "err", type := (.object "java/io/PrintStream"), accessFlags := 25, slot := 2, constantValue := 0 }, { name := "initialIn", type := (.object "java/io/InputStream"), accessFlags := 10, slot := 3, constantValue := 0 }, { name := "NEVER", type := .int, accessFlags := 26, slot := 4, constantValue := 0 }, { name := "MAYBE", type := .int, accessFlags := 26, slot := 5, constantValue := 0 }, { name := "allowSecurityManager", type := .int, accessFlags := 10, slot := 6, constantValue := 0 }, { name := "security", type := (.object "java/lang/SecurityManager"), accessFlags := 74, slot := 7, constantValue := 0 }, { name := "notSupportedJnuEncoding", type := (.object "java/lang/String"), accessFlags := 10, slot := 8, constantValue := 0 }, { name := "cons", type := (.object "java/io/Console"), accessFlags := 74, slot := 9, constantValue := 0 }, { name := "initialErrStream", type := (.object "java/io/PrintStream"), accessFlags := 74, slot := 10, constantValue := 0 }, { name := "props", type := (.object "java/util/Properties"), accessFlags := 10, slot := 11, constantValue := 0 }, { name := "lineSeparator", type := (.object "java/lang/String"), accessFlags := 10, slot := 12, constantValue := 0 }, { name := "bootLayer", type := (.object "java/lang/ModuleLayer"), accessFlags := 8, slot := 13, constantValue := 0 }]
  methods := #[k14m0, k14m1]
  instanceTypes := #[]
  staticTypes := #[(.object "java/io/InputStream"), (.object "java/io/PrintStream"), (.object "java/io/PrintStream"), (.object "java/io/InputStream"), .int, .int, .int, (.object "java/lang/SecurityManager"), (.object "java/lang/String"), (.object "java/io/Console"), (.object "java/io/PrintStream"), (.object "java/util/Properties"), (.object "java/lang/String"), (.object "java/lang/ModuleLayer")]
  resolved := Array.replicate 834 none
  statics := none }

def pool15 : Array CpInfo := pool [(9, u "<init>"), (6, .class_ 18), (1, u "java/lang/Object"), (0, u "()V"), (1, .class_ 23), (1, u "jdk/internal/util/ArraysSupport"), (0, u "LOG2_ARRAY_LONG_INDEX_SCALE"), (0, u "I"), (2, u "U"), (0, u "Ljdk/internal/misc/Unsafe;"), (8, u "BIG_ENDIAN"), (0, u "Z"), (8, u "LOG2_BYTE_BIT_SIZE"), (4, u "LOG2_ARRAY_INT_INDEX_SCALE"), (54, u "JLA"), (0, u "Ljdk/internal/access/JavaLangAccess;"), (11, u "LOG2_ARRAY_BOOLEAN_INDEX_SCALE"), (9, u "LOG2_ARRAY_BYTE_INDEX_SCALE"), (5, u "LOG2_ARRAY_CHAR_INDEX_SCALE"), (5, u "LOG2_ARRAY_SHORT_INDEX_SCALE"), (18, u "LOG2_ARRAY_FLOAT_INDEX_SCALE"), (24, u "LOG2_ARRAY_DOUBLE_INDEX_SCALE"), (89, u "T_BOOLEAN"), (2, u "T_CHAR"), (1, u "T_FLOAT"), (1, u "T_DOUBLE"), (1, u "T_BYTE"), (1, u "T_SHORT"), (1, u "T_INT"), (1, u "T_LONG"), (1, u "SOFT_MAX_ARRAY_LENGTH")] 83

def k15m0 : Method := { name := "<init>", desc := "()V", sig := { parameters := [], returnType := none }, accessFlags := 2, code := none }
/-- jdk/internal/util/ArraysSupport -/
def k15 : Class := { plain "jdk/internal/util/ArraysSupport" (some 0) with
  accessFlags := 33
  interfaces := #[]
  cf := some (fileOf pool15 21 #[] #[{ accessFlags := 2, nameIndex := 9, descriptorIndex := 19, attributes := #[] }] 33 16 #[] #[{ accessFlags := 24, nameIndex := 28, descriptorIndex := 29, attributes := #[] }, { accessFlags := 26, nameIndex := 38, descriptorIndex := 39, attributes := #[] }, { accessFlags := 25, nameIndex := 121, descriptorIndex := 25, attributes := #[] }, { accessFlags := 25, nameIndex := 131, descriptorIndex := 25, attributes := #[] }, { accessFlags := 25, nameIndex := 137, descriptorIndex := 25, attributes := #[] }, { accessFlags := 25, nameIndex := 143, descriptorIndex := 25, attributes := #[] }, { accessFlags := 25, nameIndex := 53, descriptorIndex := 25, attributes := #[] }, { accessFlags := 25, nameIndex := 24, descriptorIndex := 25, attributes := #[] }, { accessFlags := 25, nameIndex := 162, descriptorIndex := 25, attributes := #[] }, { accessFlags := 25, nameIndex := 187, descriptorIndex := 25, attributes := #[] }, { accessFlags := 26, nameIndex := 48, descriptorIndex := 25, attributes := #[] }, { accessFlags := 25, nameIndex := 277, descriptorIndex := 25, attributes := #[] }, { accessFlags := 25, nameIndex := 280, descriptorIndex := 25, attributes := #[] }, { accessFlags := 25, nameIndex := 282, descriptorIndex := 25, attributes := #[] }, { accessFlags := 25, nameIndex := 284, descriptorIndex := 25, attributes := #[] }, { accessFlags := 25, nameIndex := 286, descriptorIndex := 25, attributes := #[] }, { accessFlags := 25, nameIndex := 288, descriptorIndex := 25, attributes := #[] }, { accessFlags := 25, nameIndex := 290, descriptorIndex := 25, attributes := #[] }, { accessFlags := 25, nameIndex := 292, descriptorIndex := 25, attributes := #[] }, { accessFlags := 26, nameIndex := 108, descriptorIndex := 109, attributes := #[] }, { accessFlags := 25, nameIndex := 294, descriptorIndex := 25, attributes := #[] }])
  fields := #[{ name := "U", type := (.object "jdk/internal/misc/Unsafe"), accessFlags := 24, slot := 0, constantValue := 0 }, { name := "BIG_ENDIAN", type := .boolean, accessFlags := 26, slot := 1, constantValue := 0 }, { name := "LOG2_ARRAY_BOOLEAN_INDEX_SCALE", type := .int, accessFlags := 25, slot := 2, constantValue := 0 }, { name := "LOG2_ARRAY_BYTE_INDEX_SCALE", type := .int, accessFlags := 25, slot := 3, constantValue := 0 }, { name := "LOG2_ARRAY_CHAR_INDEX_SCALE", type := .int, accessFlags := 25, slot := 4, constantValue := 0 }, { name := "LOG2_ARRAY_SHORT_INDEX_SCALE", type := .int, accessFlags := 25, slot := 5, constantValue := 0 }, { name := "LOG2_ARRAY_INT_INDEX_SCALE", type := .int, accessFlags := 25, slot := 6, constantValue := 0 }, { name := "LOG2_ARRAY_LONG_INDEX_SCALE", type := .int, accessFlags := 25, slot := 7, constantValue := 0 }, { name := "LOG2_ARRAY_FLOAT_INDEX_SCALE", type := .int, accessFlags := 25, slot := 8, constantValue := 0 }, { name := "LOG2_ARRAY_DOUBLE_INDEX_SCALE", type := .int, accessFlags := 25, slot := 9, constantValue := 0 }, { name := "LOG2_BYTE_BIT_SIZE", type := .int, accessFlags := 26, slot := 10, constantValue := 0 }, { name := "T_BOOLEAN", type := .int, accessFlags := 25, slot := 11, constantValue := 0 }, { name := "T_CHAR", type := .int, accessFlags := 25, slot := 12, constantValue := 0 }, { name := "T_FLOAT", type := .int, accessFlags := 25, slot := 13, constantValue := 0 }, { name := "T_DOUBLE", type := .int, accessFlags := 25, slot := 14, constantValue := 0 }, { name := "T_BYTE", type := .int, accessFlags := 25, slot := 15, constantValue := 0 }, { name := "T_SHORT", type := .int, accessFlags := 25, slot := 16, constantValue := 0 }, { name := "T_INT", type := .int, accessFlags := 25, slot := 17, constantValue := 0 }, { name := "T_LONG", type := .int, accessFlags := 25, slot := 18, constantValue := 0 }, { name := "JLA", type := (.object "jdk/internal/access/JavaLangAccess"), accessFlags := 26, slot := 19, constantValue := 0 }, { name := "SOFT_MAX_ARRAY_LENGTH", type := .int, accessFlags := 25, slot := 20, constantValue := 0 }]
  methods := #[k15m0]
  instanceTypes := #[]
  staticTypes := #[(.object "jdk/internal/misc/Unsafe"), .boolean, .int, .int, .int, .int, .int, .int, .int, .int, .int, .int, .int, .int, .int, .int, .int, .int, .int, (.object "jdk/internal/access/JavaLangAccess"), .int]
  resolved := Array.replicate 378 none
  statics := none }

def pool16 : Array CpInfo := pool [(1, u "java/lang/Cloneable"), (0, .class_ 1), (0, u "java/lang/Object"), (0, .class_ 3)] 3

/-- java/lang/Cloneable -/
def k16 : Class := { plain "java/lang/Cloneable" (some 0) with
  accessFlags := 1537
  interfaces := #[]
  cf := some (fileOf pool16 2 #[] #[] 1537 4 #[] #[])
  fields := #[]
  methods := #[]
  instanceTypes := #[]
  staticTypes := #[]
  resolved := Array.replicate 8 none
  statics := none }

/-- the primitive byte -/
def k17 : Class := { plain "byte" none with kind := .primitive 'B', accessFlags := 0x411 }
/-- [B -/
def k18 : Class := { plain "[B" (some 0) with kind := .array 17 .byte, interfaces := #[16, 2], accessFlags := 1041 }

/-- the primitive char -/
def k19 : Class := { plain "char" none with kind := .primitive 'C', accessFlags := 0x411 }
/-- [C -/
def k20 : Class := { plain "[C" (some 0) with kind := .array 19 .char, interfaces := #[16, 2], accessFlags := 1041 }

/-- the primitive int -/
def k21 : Class := { plain "int" none with kind := .primitive 'I', accessFlags := 0x411 }
/-- [I -/
def k22 : Class := { plain "[I" (some 0) with kind := .array 21 .int, interfaces := #[16, 2], accessFlags := 1041 }

def heap : Heap := #[{ cls := 7, slots := #[.long 0, .int 1, .null, .int 0, .null, .int 0, .int 0], vm := .statics 7 },
  { cls := 9, slots := #[.null, .null, .null], vm := .statics 9 },
  { cls := 10, slots := #[.int 0, .int 8, .int 0, .int 1], vm := .statics 10 }]
def classes : Array Class := #[k0, k1, k2, k3, k4, k5, k6, k7, k8, k9, k10, k11, k12, k13, k14, k15, k16, k17, k18, k19, k20, k21, k22]
def interned : List (Array UInt16 × Addr) := []
def slotsUsed : Nat := 14
def theMethod : MethodId := ⟨1, 4⟩
def args0 : Array Value := #[.int 0, .int 0, .int 0, .int 0, .int 0]
def aboutOver (below : List Frame) : State where
  vm := { classes := classes, interned := interned.toArray }
  heap := heap
  slotsUsed := slotsUsed
  threads := #[{ frames := .invoking theMethod args0 :: below }]
def below0 : List Frame := [.native { method := ⟨0, 0⟩, args := #[] }]
def about1 : State := aboutOver below0
def p0 : Program := .bare "" "" ""
def e0 : Env := launch0.env 0 0 0
theorem w_frames : about1.frames = Frame.invoking theMethod args0 :: below0 := rfl
set_option maxRecDepth 65536 in
theorem w_args : argsFit about1.vm theMethod args0 = true := by decide +kernel
set_option maxRecDepth 65536 in
theorem w_heap : heapFits about1 = true := by decide +kernel
set_option maxRecDepth 65536 in
theorem w_runnable : about1.curStatus? = some .runnable := by decide +kernel
set_option maxRecDepth 65536 in
theorem w_alone : about1.alone = true := by decide +kernel
set_option maxRecDepth 65536 in
theorem w_named : about1.methodNamed? x = some theMethod := by decide +kernel
set_option maxRecDepth 65536 in
theorem w_hears : about1.hears theMethod below0 = true := by decide +kernel
set_option maxRecDepth 65536 in
theorem w_ripe : about1.ripe theMethod args0 below0 = true := by decide +kernel
theorem w_running : about1.status = .running := rfl
set_option maxRecDepth 65536 in
theorem w_room : about1.hasRoom e0.platform room_1 = true :=
  launch0.hasRoom_least _ room_1 (by decide +kernel) (by decide +kernel) (by decide +kernel) (by decide +kernel) (by decide +kernel) (by decide +kernel)
theorem allAtoms_all (ts : List Jvm.Cond) (a : Array Jvm.Value) (st : Jvm.State) : (allAtoms ts).before a st = ts.all (fun c => c.before a st) := by
  induction ts with
  | nil => rfl
  | cons c t ih =>
    show (Jvm.Cond.and c (allAtoms t)).before a st = _
    rw [Jvm.Cond.before_and, ih, List.all_cons]
def words1 : List Jvm.Cond := Jvm.Cond.code x code maxLocals ret :: tables_1
/-- a 'code' word, met by the world's own term for the bytes: nothing is compared byte by byte -/
theorem code_word {y : MethodName} {bytes : ByteArray} {mx : Nat} {rt : Option FieldType} {a : Array Value} {s : State} {m : MethodId} {meth : Method} {c : Code} (h1 : s.methodNamed? y = some m) (h2 : s.vm.method? m = some meth) (h3 : meth.code = some c) (h4 : c.code = bytes)
    (h5 : (c.maxLocals == mx && c.exceptionTable.isEmpty && decide (c.maxStack ≤ mostOperands) && decide (meth.sig.returnType = rt) && !meth.locks && decide (parseMethodDescriptor y.desc = some meth.sig)) = true) : (Jvm.Cond.code y bytes mx rt).before a s = true := by
  simp only [Bool.and_eq_true, beq_iff_eq, Bool.not_eq_true', decide_eq_true_eq] at h5
  obtain ⟨⟨⟨⟨⟨g1, g2⟩, g3⟩, g4⟩, g5⟩, g6⟩ := h5
  simp [Cond.before, Cond.holds, Cond.value, h1, h2, h3, h4, g1, g2, g3, g4, g5, g6]
def isCode : Jvm.Cond → Bool
  | .code _ _ _ _ => true
  | _ => false
theorem all_split {L : List Jvm.Cond} {P : Jvm.Cond → Bool} (h1 : L.all (fun c => isCode c || P c) = true) (h2 : ∀ c ∈ L.filter isCode, P c = true) : L.all P = true := by
  refine List.all_eq_true.mpr fun c hc => ?_
  have h := List.all_eq_true.mp h1 c hc
  rcases Bool.eq_false_or_eq_true (isCode c) with hi | hi
  · exact h2 c (List.mem_filter.mpr ⟨hc, hi⟩)
  · simpa [hi] using h
set_option maxRecDepth 65536 in
theorem w_c0 : (Jvm.Cond.code x code maxLocals ret).before args0 about1 = true := code_word (m := ⟨1, 4⟩) (meth := k1m4) (c := k1c4) (by decide +kernel) rfl rfl rfl (by decide +kernel)
set_option maxRecDepth 65536 in
theorem w_c1 : (Jvm.Cond.code ({ cls := "com/example/stowage/stowage/dicom/UidWithoutPaddingPinLaw", name := "draw", desc := "(I)C" } : Jvm.MethodName) method_2_code (2 : Nat) (Option.some Jvm.ClassFile.FieldType.char)).before args0 about1 = true := code_word (m := ⟨1, 1⟩) (meth := k1m1) (c := k1c1) (by decide +kernel) rfl rfl rfl (by decide +kernel)
set_option maxRecDepth 65536 in
theorem w_c2 : (Jvm.Cond.code ({ cls := "java/lang/String", name := "<init>", desc := "([C)V" } : Jvm.MethodName) jdk_42_method_3_code (2 : Nat) (Option.none : Option Jvm.ClassFile.FieldType)).before args0 about1 = true := code_word (m := ⟨7, 1⟩) (meth := k7m1) (c := k7c1) (by decide +kernel) rfl rfl rfl (by decide +kernel)
set_option maxRecDepth 65536 in
theorem w_c3 : (Jvm.Cond.code ({ cls := "java/lang/String", name := "<init>", desc := "([CIILjava/lang/Void;)V" } : Jvm.MethodName) jdk_42_method_149_code (6 : Nat) (Option.none : Option Jvm.ClassFile.FieldType)).before args0 about1 = true := code_word (m := ⟨7, 5⟩) (meth := k7m5) (c := k7c5) (by decide +kernel) rfl rfl rfl (by decide +kernel)
set_option maxRecDepth 65536 in
theorem w_c4 : (Jvm.Cond.code ({ cls := "java/lang/Object", name := "<init>", desc := "()V" } : Jvm.MethodName) object_method_1_code (1 : Nat) (Option.none : Option Jvm.ClassFile.FieldType)).before args0 about1 = true := code_word (m := ⟨0, 0⟩) (meth := k0m0) (c := k0c0) (by decide +kernel) rfl rfl rfl (by decide +kernel)
set_option maxRecDepth 65536 in
theorem w_c5 : (Jvm.Cond.code ({ cls := "com/example/stowage/stowage/dicom/Uid", name := "withoutPadding", desc := "(Ljava/lang/String;)Ljava/lang/String;" } : Jvm.MethodName) prog_11_method_5_code (2 : Nat) (Option.some (Jvm.ClassFile.FieldType.object "java/lang/String"))).before args0 about1 = true := code_word (m := ⟨8, 1⟩) (meth := k8m1) (c := k8c1) (by decide +kernel) rfl rfl rfl (by decide +kernel)
set_option maxRecDepth 65536 in
theorem w_c6 : (Jvm.Cond.code ({ cls := "java/lang/String", name := "length", desc := "()I" } : Jvm.MethodName) jdk_42_method_54_code (1 : Nat) (Option.some Jvm.ClassFile.FieldType.int)).before args0 about1 = true := code_word (m := ⟨7, 2⟩) (meth := k7m2) (c := k7c2) (by decide +kernel) rfl rfl rfl (by decide +kernel)
set_option maxRecDepth 65536 in
theorem w_c7 : (Jvm.Cond.code ({ cls := "java/lang/String", name := "coder", desc := "()B" } : Jvm.MethodName) jdk_42_method_152_code (1 : Nat) (Option.some Jvm.ClassFile.FieldType.byte)).before args0 about1 = true := code_word (m := ⟨7, 7⟩) (meth := k7m7) (c := k7c7) (by decide +kernel) rfl rfl rfl (by decide +kernel)
set_option maxRecDepth 65536 in
theorem w_c8 : (Jvm.Cond.code ({ cls := "java/lang/String", name := "substring", desc := "(II)Ljava/lang/String;" } : Jvm.MethodName) jdk_42_method_92_code (5 : Nat) (Option.some (Jvm.ClassFile.FieldType.object "java/lang/String"))).before args0 about1 = true := code_word (m := ⟨7, 4⟩) (meth := k7m4) (c := k7c4) (by decide +kernel) rfl rfl rfl (by decide +kernel)
set_option maxRecDepth 65536 in
theorem w_c9 : (Jvm.Cond.code ({ cls := "java/lang/String", name := "checkBoundsBeginEnd", desc := "(III)V" } : Jvm.MethodName) jdk_42_method_158_code (3 : Nat) (Option.none : Option Jvm.ClassFile.FieldType)).before args0 about1 = true := code_word (m := ⟨7, 11⟩) (meth := k7m11) (c := k7c11) (by decide +kernel) rfl rfl rfl (by decide +kernel)
set_option maxRecDepth 65536 in
theorem w_c10 : (Jvm.Cond.code ({ cls := "jdk/internal/util/Preconditions", name := "checkFromToIndex", desc := "(IIILjava/util/function/BiFunction;)I" } : Jvm.MethodName) jdk_41_method_12_code (4 : Nat) (Option.some Jvm.ClassFile.FieldType.int)).before args0 about1 = true := code_word (m := ⟨9, 2⟩) (meth := k9m2) (c := k9c2) (by decide +kernel) rfl rfl rfl (by decide +kernel)
set_option maxRecDepth 65536 in
theorem w_c11 : (Jvm.Cond.code ({ cls := "com/example/stowage/stowage/dicom/UidWithoutPaddingPinLaw", name := "slot", desc := "(Ljava/lang/String;IIIC)Z" } : Jvm.MethodName) method_4_code (5 : Nat) (Option.some Jvm.ClassFile.FieldType.boolean)).before args0 about1 = true := code_word (m := ⟨1, 3⟩) (meth := k1m3) (c := k1c3) (by decide +kernel) rfl rfl rfl (by decide +kernel)
set_option maxRecDepth 65536 in
theorem w_c12 : (Jvm.Cond.code ({ cls := "java/lang/StringUTF16", name := "compress", desc := "([CII)[B" } : Jvm.MethodName) jdk_52_method_16_code (6 : Nat) (Option.some (Jvm.ClassFile.FieldType.array Jvm.ClassFile.FieldType.byte))).before args0 about1 = true := code_word (m := ⟨10, 8⟩) (meth := k10m8) (c := k10c8) (by decide +kernel) rfl rfl rfl (by decide +kernel)
set_option maxRecDepth 65536 in
theorem w_c13 : (Jvm.Cond.code ({ cls := "java/lang/StringUTF16", name := "compress", desc := "([CI[BII)I" } : Jvm.MethodName) jdk_52_method_21_code (7 : Nat) (Option.some Jvm.ClassFile.FieldType.int)).before args0 about1 = true := code_word (m := ⟨10, 10⟩) (meth := k10m10) (c := k10c10) (by decide +kernel) rfl rfl rfl (by decide +kernel)
set_option maxRecDepth 65536 in
theorem w_c14 : (Jvm.Cond.code ({ cls := "java/lang/StringUTF16", name := "coderFromArrayLen", desc := "([BI)B" } : Jvm.MethodName) jdk_52_method_15_code (2 : Nat) (Option.some Jvm.ClassFile.FieldType.byte)).before args0 about1 = true := code_word (m := ⟨10, 7⟩) (meth := k10m7) (c := k10c7) (by decide +kernel) rfl rfl rfl (by decide +kernel)
set_option maxRecDepth 65536 in
theorem w_c15 : (Jvm.Cond.code ({ cls := "java/lang/String", name := "charAt", desc := "(I)C" } : Jvm.MethodName) jdk_42_method_56_code (2 : Nat) (Option.some Jvm.ClassFile.FieldType.char)).before args0 about1 = true := code_word (m := ⟨7, 3⟩) (meth := k7m3) (c := k7c3) (by decide +kernel) rfl rfl rfl (by decide +kernel)
set_option maxRecDepth 65536 in
theorem w_c16 : (Jvm.Cond.code ({ cls := "java/lang/String", name := "isLatin1", desc := "()Z" } : Jvm.MethodName) jdk_42_method_154_code (1 : Nat) (Option.some Jvm.ClassFile.FieldType.boolean)).before args0 about1 = true := code_word (m := ⟨7, 8⟩) (meth := k7m8) (c := k7c8) (by decide +kernel) rfl rfl rfl (by decide +kernel)
set_option maxRecDepth 65536 in
theorem w_c17 : (Jvm.Cond.code ({ cls := "java/lang/StringLatin1", name := "charAt", desc := "([BI)C" } : Jvm.MethodName) jdk_43_method_2_code (2 : Nat) (Option.some Jvm.ClassFile.FieldType.char)).before args0 about1 = true := code_word (m := ⟨11, 1⟩) (meth := k11m1) (c := k11c1) (by decide +kernel) rfl rfl rfl (by decide +kernel)
set_option maxRecDepth 65536 in
theorem w_c18 : (Jvm.Cond.code ({ cls := "java/lang/String", name := "checkIndex", desc := "(II)V" } : Jvm.MethodName) jdk_42_method_155_code (2 : Nat) (Option.none : Option Jvm.ClassFile.FieldType)).before args0 about1 = true := code_word (m := ⟨7, 9⟩) (meth := k7m9) (c := k7c9) (by decide +kernel) rfl rfl rfl (by decide +kernel)
set_option maxRecDepth 65536 in
theorem w_c19 : (Jvm.Cond.code ({ cls := "jdk/internal/util/Preconditions", name := "checkIndex", desc := "(IILjava/util/function/BiFunction;)I" } : Jvm.MethodName) jdk_41_method_11_code (3 : Nat) (Option.some Jvm.ClassFile.FieldType.int)).before args0 about1 = true := code_word (m := ⟨9, 1⟩) (meth := k9m1) (c := k9c1) (by decide +kernel) rfl rfl rfl (by decide +kernel)
set_option maxRecDepth 65536 in
theorem w_c20 : (Jvm.Cond.code ({ cls := "com/example/stowage/stowage/dicom/UidWithoutPaddingPinLaw", name := "pad", desc := "(C)Z" } : Jvm.MethodName) method_3_code (1 : Nat) (Option.some Jvm.ClassFile.FieldType.boolean)).before args0 about1 = true := code_word (m := ⟨1, 2⟩) (meth := k1m2) (c := k1c2) (by decide +kernel) rfl rfl rfl (by decide +kernel)
set_option maxRecDepth 65536 in
theorem w_c21 : (Jvm.Cond.code ({ cls := "java/lang/StringLatin1", name := "newString", desc := "([BII)Ljava/lang/String;" } : Jvm.MethodName) jdk_43_method_47_code (3 : Nat) (Option.some (Jvm.ClassFile.FieldType.object "java/lang/String"))).before args0 about1 = true := code_word (m := ⟨11, 2⟩) (meth := k11m2) (c := k11c2) (by decide +kernel) rfl rfl rfl (by decide +kernel)
set_option maxRecDepth 65536 in
theorem w_c22 : (Jvm.Cond.code ({ cls := "java/util/Arrays", name := "copyOfRange", desc := "([BII)[B" } : Jvm.MethodName) jdk_65_method_132_code (3 : Nat) (Option.some (Jvm.ClassFile.FieldType.array Jvm.ClassFile.FieldType.byte))).before args0 about1 = true := code_word (m := ⟨12, 2⟩) (meth := k12m2) (c := k12c2) (by decide +kernel) rfl rfl rfl (by decide +kernel)
set_option maxRecDepth 65536 in
theorem w_c23 : (Jvm.Cond.code ({ cls := "java/util/Arrays", name := "copyOfRangeByte", desc := "([BII)[B" } : Jvm.MethodName) jdk_65_method_133_code (5 : Nat) (Option.some (Jvm.ClassFile.FieldType.array Jvm.ClassFile.FieldType.byte))).before args0 about1 = true := code_word (m := ⟨12, 3⟩) (meth := k12m3) (c := k12c3) (by decide +kernel) rfl rfl rfl (by decide +kernel)
set_option maxRecDepth 65536 in
theorem w_c24 : (Jvm.Cond.code ({ cls := "java/util/Arrays", name := "checkLength", desc := "(II)V" } : Jvm.MethodName) jdk_65_method_131_code (2 : Nat) (Option.none : Option Jvm.ClassFile.FieldType)).before args0 about1 = true := code_word (m := ⟨12, 1⟩) (meth := k12m1) (c := k12c1) (by decide +kernel) rfl rfl rfl (by decide +kernel)
set_option maxRecDepth 65536 in
theorem w_c25 : (Jvm.Cond.code ({ cls := "java/lang/Math", name := "min", desc := "(II)I" } : Jvm.MethodName) jdk_29_method_69_code (2 : Nat) (Option.some Jvm.ClassFile.FieldType.int)).before args0 about1 = true := code_word (m := ⟨13, 1⟩) (meth := k13m1) (c := k13c1) (by decide +kernel) rfl rfl rfl (by decide +kernel)
set_option maxRecDepth 65536 in
theorem w_c26 : (Jvm.Cond.code ({ cls := "java/lang/String", name := "<init>", desc := "([BB)V" } : Jvm.MethodName) jdk_42_method_151_code (3 : Nat) (Option.none : Option Jvm.ClassFile.FieldType)).before args0 about1 = true := code_word (m := ⟨7, 6⟩) (meth := k7m6) (c := k7c6) (by decide +kernel) rfl rfl rfl (by decide +kernel)
set_option maxRecDepth 65536 in
theorem w_c27 : (Jvm.Cond.code ({ cls := "java/lang/StringUTF16", name := "toBytes", desc := "([CII)[B" } : Jvm.MethodName) jdk_52_method_14_code (5 : Nat) (Option.some (Jvm.ClassFile.FieldType.array Jvm.ClassFile.FieldType.byte))).before args0 about1 = true := code_word (m := ⟨10, 6⟩) (meth := k10m6) (c := k10c6) (by decide +kernel) rfl rfl rfl (by decide +kernel)
set_option maxRecDepth 65536 in
theorem w_c28 : (Jvm.Cond.code ({ cls := "java/lang/StringUTF16", name := "newBytesFor", desc := "(I)[B" } : Jvm.MethodName) jdk_52_method_2_code (1 : Nat) (Option.some (Jvm.ClassFile.FieldType.array Jvm.ClassFile.FieldType.byte))).before args0 about1 = true := code_word (m := ⟨10, 1⟩) (meth := k10m1) (c := k10c1) (by decide +kernel) rfl rfl rfl (by decide +kernel)
set_option maxRecDepth 65536 in
theorem w_c29 : (Jvm.Cond.code ({ cls := "java/lang/StringUTF16", name := "newBytesLength", desc := "(I)I" } : Jvm.MethodName) jdk_52_method_3_code (1 : Nat) (Option.some Jvm.ClassFile.FieldType.int)).before args0 about1 = true := code_word (m := ⟨10, 2⟩) (meth := k10m2) (c := k10c2) (by decide +kernel) rfl rfl rfl (by decide +kernel)
set_option maxRecDepth 65536 in
theorem w_c30 : (Jvm.Cond.code ({ cls := "java/lang/StringUTF16", name := "putChar", desc := "([BII)V" } : Jvm.MethodName) jdk_52_method_4_code (3 : Nat) (Option.none : Option Jvm.ClassFile.FieldType)).before args0 about1 = true := code_word (m := ⟨10, 3⟩) (meth := k10m3) (c := k10c3) (by decide +kernel) rfl rfl rfl (by decide +kernel)
set_option maxRecDepth 65536 in
theorem w_c31 : (Jvm.Cond.code ({ cls := "java/lang/StringUTF16", name := "getChar", desc := "([BI)C" } : Jvm.MethodName) jdk_52_method_5_code (2 : Nat) (Option.some Jvm.ClassFile.FieldType.char)).before args0 about1 = true := code_word (m := ⟨10, 4⟩) (meth := k10m4) (c := k10c4) (by decide +kernel) rfl rfl rfl (by decide +kernel)
set_option maxRecDepth 65536 in
theorem w_c32 : (Jvm.Cond.code ({ cls := "java/lang/StringUTF16", name := "charAt", desc := "([BI)C" } : Jvm.MethodName) jdk_52_method_83_code (2 : Nat) (Option.some Jvm.ClassFile.FieldType.char)).before args0 about1 = true := code_word (m := ⟨10, 13⟩) (meth := k10m13) (c := k10c13) (by decide +kernel) rfl rfl rfl (by decide +kernel)
set_option maxRecDepth 65536 in
theorem w_c33 : (Jvm.Cond.code ({ cls := "java/lang/StringUTF16", name := "checkIndex", desc := "(I[B)V" } : Jvm.MethodName) jdk_52_method_91_code (2 : Nat) (Option.none : Option Jvm.ClassFile.FieldType)).before args0 about1 = true := code_word (m := ⟨10, 14⟩) (meth := k10m14) (c := k10c14) (by decide +kernel) rfl rfl rfl (by decide +kernel)
set_option maxRecDepth 65536 in
theorem w_c34 : (Jvm.Cond.code ({ cls := "java/lang/StringUTF16", name := "length", desc := "([B)I" } : Jvm.MethodName) jdk_52_method_6_code (1 : Nat) (Option.some Jvm.ClassFile.FieldType.int)).before args0 about1 = true := code_word (m := ⟨10, 5⟩) (meth := k10m5) (c := k10c5) (by decide +kernel) rfl rfl rfl (by decide +kernel)
set_option maxRecDepth 65536 in
theorem w_c35 : (Jvm.Cond.code ({ cls := "java/lang/StringUTF16", name := "newString", desc := "([BII)Ljava/lang/String;" } : Jvm.MethodName) jdk_52_method_69_code (5 : Nat) (Option.some (Jvm.ClassFile.FieldType.object "java/lang/String"))).before args0 about1 = true := code_word (m := ⟨10, 12⟩) (meth := k10m12) (c := k10c12) (by decide +kernel) rfl rfl rfl (by decide +kernel)
set_option maxRecDepth 65536 in
theorem w_c36 : (Jvm.Cond.code ({ cls := "java/lang/StringUTF16", name := "compress", desc := "([BII)[B" } : Jvm.MethodName) jdk_52_method_17_code (6 : Nat) (Option.some (Jvm.ClassFile.FieldType.array Jvm.ClassFile.FieldType.byte))).before args0 about1 = true := code_word (m := ⟨10, 9⟩) (meth := k10m9) (c := k10c9) (by decide +kernel) rfl rfl rfl (by decide +kernel)
set_option maxRecDepth 65536 in
theorem w_c37 : (Jvm.Cond.code ({ cls := "java/lang/StringUTF16", name := "compress", desc := "([BI[BII)I" } : Jvm.MethodName) jdk_52_method_22_code (7 : Nat) (Option.some Jvm.ClassFile.FieldType.int)).before args0 about1 = true := code_word (m := ⟨10, 11⟩) (meth := k10m11) (c := k10c11) (by decide +kernel) rfl rfl rfl (by decide +kernel)
set_option maxRecDepth 65536 in
theorem w_c38 : (Jvm.Cond.code ({ cls := "java/lang/StringUTF16", name := "checkBoundsOffCount", desc := "(II[B)V" } : Jvm.MethodName) jdk_52_method_94_code (3 : Nat) (Option.none : Option Jvm.ClassFile.FieldType)).before args0 about1 = true := code_word (m := ⟨10, 15⟩) (meth := k10m15) (c := k10c15) (by decide +kernel) rfl rfl rfl (by decide +kernel)
set_option maxRecDepth 65536 in
theorem w_c39 : (Jvm.Cond.code ({ cls := "java/lang/String", name := "checkBoundsOffCount", desc := "(III)I" } : Jvm.MethodName) jdk_42_method_157_code (3 : Nat) (Option.some Jvm.ClassFile.FieldType.int)).before args0 about1 = true := code_word (m := ⟨7, 10⟩) (meth := k7m10) (c := k7c10) (by decide +kernel) rfl rfl rfl (by decide +kernel)
set_option maxRecDepth 65536 in
theorem w_c40 : (Jvm.Cond.code ({ cls := "jdk/internal/util/Preconditions", name := "checkFromIndexSize", desc := "(IIILjava/util/function/BiFunction;)I" } : Jvm.MethodName) jdk_41_method_13_code (4 : Nat) (Option.some Jvm.ClassFile.FieldType.int)).before args0 about1 = true := code_word (m := ⟨9, 3⟩) (meth := k9m3) (c := k9c3) (by decide +kernel) rfl rfl rfl (by decide +kernel)
def codes1 : List Jvm.Cond := [Jvm.Cond.code x code maxLocals ret, Jvm.Cond.code ({ cls := "com/example/stowage/stowage/dicom/UidWithoutPaddingPinLaw", name := "draw", desc := "(I)C" } : Jvm.MethodName) method_2_code (2 : Nat) (Option.some Jvm.ClassFile.FieldType.char), Jvm.Cond.code ({ cls := "java/lang/String", name := "<init>", desc := "([C)V" } : Jvm.MethodName) jdk_42_method_3_code (2 : Nat) (Option.none : Option Jvm.ClassFile.FieldType), Jvm.Cond.code ({ cls := "java/lang/String", name := "<init>", desc := "([CIILjava/lang/Void;)V" } : Jvm.MethodName) jdk_42_method_149_code (6 : Nat) (Option.none : Option Jvm.ClassFile.FieldType), Jvm.Cond.code ({ cls := "java/lang/Object", name := "<init>", desc := "()V" } : Jvm.MethodName) object_method_1_code (1 : Nat) (Option.none : Option Jvm.ClassFile.FieldType), Jvm.Cond.code ({ cls := "com/example/stowage/stowage/dicom/Uid", name := "withoutPadding", desc := "(Ljava/lang/String;)Ljava/lang/String;" } : Jvm.MethodName) prog_11_method_5_code (2 : Nat) (Option.some (Jvm.ClassFile.FieldType.object "java/lang/String")), Jvm.Cond.code ({ cls := "java/lang/String", name := "length", desc := "()I" } : Jvm.MethodName) jdk_42_method_54_code (1 : Nat) (Option.some Jvm.ClassFile.FieldType.int), Jvm.Cond.code ({ cls := "java/lang/String", name := "coder", desc := "()B" } : Jvm.MethodName) jdk_42_method_152_code (1 : Nat) (Option.some Jvm.ClassFile.FieldType.byte), Jvm.Cond.code ({ cls := "java/lang/String", name := "substring", desc := "(II)Ljava/lang/String;" } : Jvm.MethodName) jdk_42_method_92_code (5 : Nat) (Option.some (Jvm.ClassFile.FieldType.object "java/lang/String")), Jvm.Cond.code ({ cls := "java/lang/String", name := "checkBoundsBeginEnd", desc := "(III)V" } : Jvm.MethodName) jdk_42_method_158_code (3 : Nat) (Option.none : Option Jvm.ClassFile.FieldType), Jvm.Cond.code ({ cls := "jdk/internal/util/Preconditions", name := "checkFromToIndex", desc := "(IIILjava/util/function/BiFunction;)I" } : Jvm.MethodName) jdk_41_method_12_code (4 : Nat) (Option.some Jvm.ClassFile.FieldType.int), Jvm.Cond.code ({ cls := "com/example/stowage/stowage/dicom/UidWithoutPaddingPinLaw", name := "slot", desc := "(Ljava/lang/String;IIIC)Z" } : Jvm.MethodName) method_4_code (5 : Nat) (Option.some Jvm.ClassFile.FieldType.boolean), Jvm.Cond.code ({ cls := "java/lang/StringUTF16", name := "compress", desc := "([CII)[B" } : Jvm.MethodName) jdk_52_method_16_code (6 : Nat) (Option.some (Jvm.ClassFile.FieldType.array Jvm.ClassFile.FieldType.byte)), Jvm.Cond.code ({ cls := "java/lang/StringUTF16", name := "compress", desc := "([CI[BII)I" } : Jvm.MethodName) jdk_52_method_21_code (7 : Nat) (Option.some Jvm.ClassFile.FieldType.int), Jvm.Cond.code ({ cls := "java/lang/StringUTF16", name := "coderFromArrayLen", desc := "([BI)B" } : Jvm.MethodName) jdk_52_method_15_code (2 : Nat) (Option.some Jvm.ClassFile.FieldType.byte), Jvm.Cond.code ({ cls := "java/lang/String", name := "charAt", desc := "(I)C" } : Jvm.MethodName) jdk_42_method_56_code (2 : Nat) (Option.some Jvm.ClassFile.FieldType.char), Jvm.Cond.code ({ cls := "java/lang/String", name := "isLatin1", desc := "()Z" } : Jvm.MethodName) jdk_42_method_154_code (1 : Nat) (Option.some Jvm.ClassFile.FieldType.boolean), Jvm.Cond.code ({ cls := "java/lang/StringLatin1", name := "charAt", desc := "([BI)C" } : Jvm.MethodName) jdk_43_method_2_code (2 : Nat) (Option.some Jvm.ClassFile.FieldType.char), Jvm.Cond.code ({ cls := "java/lang/String", name := "checkIndex", desc := "(II)V" } : Jvm.MethodName) jdk_42_method_155_code (2 : Nat) (Option.none : Option Jvm.ClassFile.FieldType), Jvm.Cond.code ({ cls := "jdk/internal/util/Preconditions", name := "checkIndex", desc := "(IILjava/util/function/BiFunction;)I" } : Jvm.MethodName) jdk_41_method_11_code (3 : Nat) (Option.some Jvm.ClassFile.FieldType.int), Jvm.Cond.code ({ cls := "com/example/stowage/stowage/dicom/UidWithoutPaddingPinLaw", name := "pad", desc := "(C)Z" } : Jvm.MethodName) method_3_code (1 : Nat) (Option.some Jvm.ClassFile.FieldType.boolean), Jvm.Cond.code ({ cls := "java/lang/StringLatin1", name := "newString", desc := "([BII)Ljava/lang/String;" } : Jvm.MethodName) jdk_43_method_47_code (3 : Nat) (Option.some (Jvm.ClassFile.FieldType.object "java/lang/String")), Jvm.Cond.code ({ cls := "java/util/Arrays", name := "copyOfRange", desc := "([BII)[B" } : Jvm.MethodName) jdk_65_method_132_code (3 : Nat) (Option.some (Jvm.ClassFile.FieldType.array Jvm.ClassFile.FieldType.byte)), Jvm.Cond.code ({ cls := "java/util/Arrays", name := "copyOfRangeByte", desc := "([BII)[B" } : Jvm.MethodName) jdk_65_method_133_code (5 : Nat) (Option.some (Jvm.ClassFile.FieldType.array Jvm.ClassFile.FieldType.byte)), Jvm.Cond.code ({ cls := "java/util/Arrays", name := "checkLength", desc := "(II)V" } : Jvm.MethodName) jdk_65_method_131_code (2 : Nat) (Option.none : Option Jvm.ClassFile.FieldType), Jvm.Cond.code ({ cls := "java/lang/Math", name := "min", desc := "(II)I" } : Jvm.MethodName) jdk_29_method_69_code (2 : Nat) (Option.some Jvm.ClassFile.FieldType.int), Jvm.Cond.code ({ cls := "java/lang/String", name := "<init>", desc := "([BB)V" } : Jvm.MethodName) jdk_42_method_151_code (3 : Nat) (Option.none : Option Jvm.ClassFile.FieldType), Jvm.Cond.code ({ cls := "java/lang/StringUTF16", name := "toBytes", desc := "([CII)[B" } : Jvm.MethodName) jdk_52_method_14_code (5 : Nat) (Option.some (Jvm.ClassFile.FieldType.array Jvm.ClassFile.FieldType.byte)), Jvm.Cond.code ({ cls := "java/lang/StringUTF16", name := "newBytesFor", desc := "(I)[B" } : Jvm.MethodName) jdk_52_method_2_code (1 : Nat) (Option.some (Jvm.ClassFile.FieldType.array Jvm.ClassFile.FieldType.byte)), Jvm.Cond.code ({ cls := "java/lang/StringUTF16", name := "newBytesLength", desc := "(I)I" } : Jvm.MethodName) jdk_52_method_3_code (1 : Nat) (Option.some Jvm.ClassFile.FieldType.int), Jvm.Cond.code ({ cls := "java/lang/StringUTF16", name := "putChar", desc := "([BII)V" } : Jvm.MethodName) jdk_52_method_4_code (3 : Nat) (Option.none : Option Jvm.ClassFile.FieldType), Jvm.Cond.code ({ cls := "java/lang/StringUTF16", name := "getChar", desc := "([BI)C" } : Jvm.MethodName) jdk_52_method_5_code (2 : Nat) (Option.some Jvm.ClassFile.FieldType.char), Jvm.Cond.code ({ cls := "java/lang/StringUTF16", name := "charAt", desc := "([BI)C" } : Jvm.MethodName) jdk_52_method_83_code (2 : Nat) (Option.some Jvm.ClassFile.FieldType.char), Jvm.Cond.code ({ cls := "java/lang/StringUTF16", name := "checkIndex", desc := "(I[B)V" } : Jvm.MethodName) jdk_52_method_91_code (2 : Nat) (Option.none : Option Jvm.ClassFile.FieldType), Jvm.Cond.code ({ cls := "java/lang/StringUTF16", name := "length", desc := "([B)I" } : Jvm.MethodName) jdk_52_method_6_code (1 : Nat) (Option.some Jvm.ClassFile.FieldType.int), Jvm.Cond.code ({ cls := "java/lang/StringUTF16", name := "newString", desc := "([BII)Ljava/lang/String;" } : Jvm.MethodName) jdk_52_method_69_code (5 : Nat) (Option.some (Jvm.ClassFile.FieldType.object "java/lang/String")), Jvm.Cond.code ({ cls := "java/lang/StringUTF16", name := "compress", desc := "([BII)[B" } : Jvm.MethodName) jdk_52_method_17_code (6 : Nat) (Option.some (Jvm.ClassFile.FieldType.array Jvm.ClassFile.FieldType.byte)), Jvm.Cond.code ({ cls := "java/lang/StringUTF16", name := "compress", desc := "([BI[BII)I" } : Jvm.MethodName) jdk_52_method_22_code (7 : Nat) (Option.some Jvm.ClassFile.FieldType.int), Jvm.Cond.code ({ cls := "java/lang/StringUTF16", name := "checkBoundsOffCount", desc := "(II[B)V" } : Jvm.MethodName) jdk_52_method_94_code (3 : Nat) (Option.none : Option Jvm.ClassFile.FieldType), Jvm.Cond.code ({ cls := "java/lang/String", name := "checkBoundsOffCount", desc := "(III)I" } : Jvm.MethodName) jdk_42_method_157_code (3 : Nat) (Option.some Jvm.ClassFile.FieldType.int), Jvm.Cond.code ({ cls := "jdk/internal/util/Preconditions", name := "checkFromIndexSize", desc := "(IIILjava/util/function/BiFunction;)I" } : Jvm.MethodName) jdk_41_method_13_code (4 : Nat) (Option.some Jvm.ClassFile.FieldType.int)]
set_option maxRecDepth 65536 in
theorem codes_eq : words1.filter isCode = codes1 := rfl
theorem w_codes : ∀ c ∈ words1.filter isCode, c.before args0 about1 = true := by
  rw [codes_eq]
  intro c hc
  simp only [codes1, List.mem_cons, List.not_mem_nil, or_false] at hc
  rcases hc with rfl | rfl | rfl | rfl | rfl | rfl | rfl | rfl | rfl | rfl | rfl | rfl | rfl | rfl | rfl | rfl | rfl | rfl | rfl | rfl | rfl | rfl | rfl | rfl | rfl | rfl | rfl | rfl | rfl | rfl | rfl | rfl | rfl | rfl | rfl | rfl | rfl | rfl | rfl | rfl | rfl
  · exact w_c0
  · exact w_c1
  · exact w_c2
  · exact w_c3
  · exact w_c4
  · exact w_c5
  · exact w_c6
  · exact w_c7
  · exact w_c8
  · exact w_c9
  · exact w_c10
  · exact w_c11
  · exact w_c12
  · exact w_c13
  · exact w_c14
  · exact w_c15
  · exact w_c16
  · exact w_c17
  · exact w_c18
  · exact w_c19
  · exact w_c20
  · exact w_c21
  · exact w_c22
  · exact w_c23
  · exact w_c24
  · exact w_c25
  · exact w_c26
  · exact w_c27
  · exact w_c28
  · exact w_c29
  · exact w_c30
  · exact w_c31
  · exact w_c32
  · exact w_c33
  · exact w_c34
  · exact w_c35
  · exact w_c36
  · exact w_c37
  · exact w_c38
  · exact w_c39
  · exact w_c40
set_option maxRecDepth 65536 in
theorem w_t1 : (words1.take 24).all (fun c => isCode c || c.before args0 about1) = true := by decide +kernel
set_option maxRecDepth 65536 in
theorem w_t2 : ((words1.drop 24).take 24).all (fun c => isCode c || c.before args0 about1) = true := by decide +kernel
set_option maxRecDepth 65536 in
theorem w_t3 : (((words1.drop 24).drop 24).take 24).all (fun c => isCode c || c.before args0 about1) = true := by decide +kernel
set_option maxRecDepth 65536 in
theorem w_t4 : ((((words1.drop 24).drop 24).drop 24).take 24).all (fun c => isCode c || c.before args0 about1) = true := by decide +kernel
set_option maxRecDepth 65536 in
theorem w_t5 : (((((words1.drop 24).drop 24).drop 24).drop 24).take 24).all (fun c => isCode c || c.before args0 about1) = true := by decide +kernel
set_option maxRecDepth 65536 in
theorem w_t6 : ((((((words1.drop 24).drop 24).drop 24).drop 24).drop 24).take 24).all (fun c => isCode c || c.before args0 about1) = true := by decide +kernel
set_option maxRecDepth 65536 in
theorem w_t7 : (((((((words1.drop 24).drop 24).drop 24).drop 24).drop 24).drop 24).take 24).all (fun c => isCode c || c.before args0 about1) = true := by decide +kernel
set_option maxRecDepth 65536 in
theorem w_t8 : (((((((words1.drop 24).drop 24).drop 24).drop 24).drop 24).drop 24).drop 24).all (fun c => isCode c || c.before args0 about1) = true := by decide +kernel
theorem w_tables : (allAtoms (Jvm.Cond.code x code maxLocals ret :: tables_1)).before args0 about1 = true := by
  rw [allAtoms_all]
  show words1.all (fun c => c.before args0 about1) = true
  refine all_split ?_ w_codes
  rw [← List.take_append_drop 24 words1, List.all_append, w_t1, ← List.take_append_drop 24 (words1.drop 24), List.all_append, w_t2, ← List.take_append_drop 24 ((words1.drop 24).drop 24), List.all_append, w_t3, ← List.take_append_drop 24 (((words1.drop 24).drop 24).drop 24), List.all_append, w_t4, ← List.take_append_drop 24 ((((words1.drop 24).drop 24).drop 24).drop 24), List.all_append, w_t5, ← List.take_append_drop 24 (((((words1.drop 24).drop 24).drop 24).drop 24).drop 24), List.all_append, w_t6, ← List.take_append_drop 24 ((((((words1.drop 24).drop 24).drop 24).drop 24).drop 24).drop 24), List.all_append, w_t7, w_t8]
  rfl
set_option maxRecDepth 65536 in
theorem w_rest : rest_1_c.before args0 about1 = true := by decide +kernel
set_option maxRecDepth 65536 in
theorem w_case : (Jvm.Cond.and given_1 narrow_1).before args0 about1 = true := by decide +kernel
set_option maxRecDepth 65536 in
theorem w_consts : constsHeld consts_1 about1 := Jvm.Lit.constsHeldB_iff.mp (by decide +kernel)
theorem w_applies : (headSpec (Jvm.Cond.code x code maxLocals ret :: tables_1) room_1).applies x e0.platform about1 = true :=
  (Spec.applies_iff w_frames).mpr ⟨w_running, w_runnable, w_alone, w_named, w_hears, w_ripe, w_room, w_tables⟩
theorem atStart : AtStart classFile x code maxLocals ret World_1 tables_1 room_1 Calls_1 rest_1 Pre_1 launch0 p0 e0 about1 theMethod args0 below0 :=
  ⟨lists_1, trivial, launch0.admits_env _ _ _, launch0.least_env, fairChoices_fair.cas, fairChoices_fair.clock, w_frames, w_args, w_heap, w_applies, ⟨w_consts, trivial⟩, w_rest, w_case⟩
end start1
theorem witness_1 : WitnessClaimed_1 := ⟨start1.p0, start1.e0, start1.about1, start1.theMethod, start1.args0, start1.below0, start1.atStart⟩
end Jvm.Pilot.@@N@@
