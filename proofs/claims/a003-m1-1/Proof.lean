import JvmDerived
import JvmDerived.Pilot.@@N@@Statement
import JvmDerived.Pilot.@@N@@Code
set_option linter.unusedVariables false
set_option linter.unusedSimpArgs false
namespace Jvm.OwnKit
open Jvm Jvm.ClassFile Sem Op Lib Jvm.Free Jvm.Stand Jvm.LawKit Jvm.RoadKit Bundle
abbrev EList := List (String × Nat)
def Dc (B : ByteArray) (pc : Nat) (i : Instr) (n pc' : Nat) : Prop := decode B pc = .ok (i, n) ∧ pc + n = pc'
def Db (B : ByteArray) (pc : Nat) (i : Instr) (o : Int) (pc' tgt : Nat) : Prop := decode B pc = .ok (i, 3) ∧ pc + 3 = pc' ∧ 0 ≤ (pc : Int) + o ∧ ((pc : Int) + o).toNat = tgt
def Go (p : Program) (e : Env) (below : List Frame) (F : Outcome → State → Prop) (T : State) (g : JFrame) : Prop :=
  ∃ s₂ o, Steps p.tables e below (T.setTop g) s₂ ∧ s₂.status = .running ∧ Ended s₂ below o ∧ F o s₂
def Sf (md : Option EList) (Z s' : State) (h : Heap) (x : Addr) : Prop := match md with | none => True | some EL => Safe Z EL s'.vm h x
def Jd (md : Option EList) (Z s s' : State) (h : Heap) : Prop := match md with
  | none => s' = s
  | some EL => ∃ (vm0 : Vm) (k0 : Nat) (a0 : Array Value), s' = s.setVm vm0 ∧ s.Since vm0 k0 ∧ k0 ≤ h.size ∧ CHr Z EL s.vm s.heap vm0 h ∧ EW Z a0 EL
theorem Jd.ext {md : Option EList} {Z s s' : State} {h h' : Heap} (J : Jd md Z s s' h) (E : Ext h h') : Jd md Z s s' h' := by
  cases md with
  | none => exact J
  | some EL => obtain ⟨vm0, k0, a0, rfl, j2, j3, j4, j5⟩ := J; exact ⟨vm0, k0, a0, rfl, j2, Nat.le_trans j3 E.1, j4.trans (CHr.ext E j4.1), j5⟩
theorem Jd.keep {md : Option EList} {Z s s' : State} {h h' : Heap} {ws : List Addr} (J : Jd md Z s s' h) (K : Keep h h' ws) (hs : ∀ x ∈ ws, Sf md Z s' h x) : Jd md Z s s' h' := by
  cases md with
  | none => exact J
  | some EL => obtain ⟨vm0, k0, a0, rfl, j2, j3, j4, j5⟩ := J; exact ⟨vm0, k0, a0, rfl, j2, Nat.le_trans j3 K.1, j4.trans (CHr.keep K hs j4.1), j5⟩
theorem Sf.ext {md : Option EList} {Z s s' : State} {h h' : Heap} {x : Addr} (S : Sf md Z s' h x) (J : Jd md Z s s' h) (E : Ext h h') : Sf md Z s' h' x := by
  cases md with
  | none => trivial
  | some EL => obtain ⟨vm0, k0, a0, rfl, j2, j3, j4, j5⟩ := J; exact Safe.ext E j4.1 S
theorem Sf.keep {md : Option EList} {Z s s' : State} {h h' : Heap} {x : Addr} {ws : List Addr} (S : Sf md Z s' h x) (J : Jd md Z s s' h) (K : Keep h h' ws) (hs : ∀ x ∈ ws, Sf md Z s' h x) : Sf md Z s' h' x := by
  cases md with
  | none => trivial
  | some EL => obtain ⟨vm0, k0, a0, rfl, j2, j3, j4, j5⟩ := J; exact Safe.keep K hs j4.1 S
theorem Sf.new {md : Option EList} {Z s' : State} {h : Heap} {x : Addr} (q : h.size ≤ x) : Sf md Z s' h x := by
  cases md with
  | none => trivial
  | some EL => exact Safe.new q
theorem Ext.rfl' (h : Heap) : Ext h h := ⟨Nat.le_refl _, fun _ _ q => q⟩
theorem Ext.tr {h h' h2 : Heap} (A : Ext h h') (B : Ext h' h2) : Ext h h2 := ⟨Nat.le_trans A.1 B.1, fun a c q => B.2 a c (A.2 a c q)⟩
/-- a keep whose written cells were made since -/
theorem Ext.kp {h h' h2 : Heap} {ws : List Addr} (A : Ext h h') (B : Keep h' h2 ws) (q : ∀ x ∈ ws, h.size ≤ x) : Ext h h2 := ⟨Nat.le_trans A.1 B.1, fun a c r => B.2.1 a c (A.2 a c r) fun z => absurd (Array.getElem?_eq_some_iff.mp r).1 (Nat.not_lt.mpr (q a z))⟩
theorem Ext.kp1 {h h' h2 : Heap} {x : Addr} (A : Ext h h') (B : Keep h' h2 [x]) (q : h.size ≤ x) : Ext h h2 := Ext.kp A B (allS q all0)
theorem Ext.of0 {h h' : Heap} (B : Keep h h' []) : Ext h h' := ⟨B.1, fun a c r => B.2.1 a c r nin0⟩
theorem Ext.keep {h h' : Heap} (E : Ext h h') (ws : List Addr) : Keep h h' ws := (Keep.refl h ws).ext E
def Cx (p : Program) (l : Launch) (e : Env) (R : Room) (s : State) (m : MethodId) (args : Array Value) (below : List Frame) (meth : Method) (c : Code) (B : ByteArray) (ML : Nat) (Z : State) (own : String) (n0 : Nat) (md : Option EList) (T : State) (h : Heap) (ws : List Addr) (cells slots : Nat) : Prop :=
  (p.tables.exec = Jvm.exec ∧ c.code = B ∧ c.maxLocals = ML) ∧ T.heap = h ∧ n0 ≤ h.size ∧ ∃ (s' : State) (locs : List Loc), Stand p l e R s' m args below meth c T locs cells slots ∧ Z.Warmed39 s'.vm ∧ s'.vm.findClass own = some m.cls ∧ Fr n0 locs ∧ Jd md Z s s' h ∧ ∀ x ∈ ws, n0 ≤ x ∧ x < h.size ∧ Sf md Z s' h x
section Kit
variable {p : Program} {l : Launch} {e : Env} {R : Room} {s : State} {m : MethodId} {args : Array Value} {below : List Frame} {meth : Method} {c : Code} {B : ByteArray} {ML : Nat} {Z : State} {own : String} {n0 : Nat} {md : Option EList} {T : State} {h : Heap} {ws : List Addr} {cells slots : Nat} {F : Outcome → State → Prop} {pc pc' tgt : Nat} {Ls Ls' : Array Slot} {St : List Value} {a0 : Array Value}
theorem Go.st {T T' : State} {g g' : JFrame} (k : Go p e below F T' g') (q : ∀ t, Steps p.tables e below (T'.setTop g') t → Steps p.tables e below (T.setTop g) t) : Go p e below F T g := by
  obtain ⟨s2, o, h1, h2⟩ := k; exact ⟨s2, o, q _ h1, h2⟩
theorem Go.tr {T T' : State} {g g' : JFrame} (k : Go p e below F T' g') (q : Steps p.tables e below (T.setTop g) (T'.setTop g')) : Go p e below F T g := by
  obtain ⟨s2, o, h1, h2⟩ := k; exact ⟨s2, o, q.trans h1, h2⟩
theorem Cx.mono {c' s' : Nat} (K : Cx p l e R s m args below meth c B ML Z own n0 md T h ws cells slots) (q1 : cells ≤ c') (q2 : slots ≤ s') : Cx p l e R s m args below meth c B ML Z own n0 md T h ws c' s' := by
  obtain ⟨k1, k2, k3, s1, locs, X, r⟩ := K
  exact ⟨k1, k2, k3, s1, locs, X.mono q1 q2, r⟩
theorem Cx.sub {ws' : List Addr} (K : Cx p l e R s m args below meth c B ML Z own n0 md T h ws cells slots) (q : ∀ x ∈ ws', x ∈ ws) : Cx p l e R s m args below meth c B ML Z own n0 md T h ws' cells slots := by
  obtain ⟨k1, k2, k3, s1, locs, X, r1, r2, r3, r4, r5⟩ := K
  exact ⟨k1, k2, k3, s1, locs, X, r1, r2, r3, r4, fun x hx => r5 x (q x hx)⟩
theorem Cx.n0le (K : Cx p l e R s m args below meth c B ML Z own n0 md T h ws cells slots) : n0 ≤ h.size := K.2.2.1
theorem Cx.wsge (K : Cx p l e R s m args below meth c B ML Z own n0 md T h ws cells slots) {x : Addr} (q : x ∈ ws) : n0 ≤ x := by obtain ⟨-, -, -, s1, locs, X, r1, r2, r3, r4, r5⟩ := K; exact (r5 x q).1
theorem Cx.wslt (K : Cx p l e R s m args below meth c B ML Z own n0 md T h ws cells slots) {x : Addr} (q : x ∈ ws) : x < h.size := by obtain ⟨-, -, -, s1, locs, X, r1, r2, r3, r4, r5⟩ := K; exact (r5 x q).2.1

theorem gAload (K : Cx p l e R s m args below meth c B ML Z own n0 md T h ws cells slots) {k : Nat} {v : Value} (hd : Dc B pc (.aload k) 2 pc') (hl : Ls[k]? = some (.val v)) (hv : v.isRef = true) (r : Go p e below F T (mkF m pc' Ls (v :: St))) : Go p e below F T (mkF m pc Ls St) := by
  obtain ⟨⟨hx, hby, -⟩, -, -, s1, locs, X, -⟩ := K
  obtain ⟨hd, rfl⟩ := hd
  exact r.st fun t q => XS.aload X.here hx rfl (hb hby hd) hl hv q

theorem gAloadN (K : Cx p l e R s m args below meth c B ML Z own n0 md T h ws cells slots) {k : Fin 4} {v : Value} (hd : Dc B pc (.aload_n k) 1 pc') (hl : Ls[k.val]? = some (.val v)) (hv : v.isRef = true) (r : Go p e below F T (mkF m pc' Ls (v :: St))) : Go p e below F T (mkF m pc Ls St) := by
  obtain ⟨⟨hx, hby, -⟩, -, -, s1, locs, X, -⟩ := K
  obtain ⟨hd, rfl⟩ := hd
  exact r.st fun t q => XS.aloadN X.here hx rfl (hb hby hd) hl hv q

theorem gIload (K : Cx p l e R s m args below meth c B ML Z own n0 md T h ws cells slots) {k : Nat} {v : Int32} (hd : Dc B pc (.iload k) 2 pc') (hl : Ls[k]? = some (.val (.int v))) (r : Go p e below F T (mkF m pc' Ls (.int v :: St))) : Go p e below F T (mkF m pc Ls St) := by
  obtain ⟨⟨hx, hby, -⟩, -, -, s1, locs, X, -⟩ := K
  obtain ⟨hd, rfl⟩ := hd
  exact r.st fun t q => XS.iload X.here hx rfl (hb hby hd) hl q

theorem gIloadN (K : Cx p l e R s m args below meth c B ML Z own n0 md T h ws cells slots) {k : Fin 4} {v : Int32} (hd : Dc B pc (.iload_n k) 1 pc') (hl : Ls[k.val]? = some (.val (.int v))) (r : Go p e below F T (mkF m pc' Ls (.int v :: St))) : Go p e below F T (mkF m pc Ls St) := by
  obtain ⟨⟨hx, hby, -⟩, -, -, s1, locs, X, -⟩ := K
  obtain ⟨hd, rfl⟩ := hd
  exact r.st fun t q => XS.iloadN X.here hx rfl (hb hby hd) hl q

theorem gLload (K : Cx p l e R s m args below meth c B ML Z own n0 md T h ws cells slots) {k : Nat} {v : Int64} (hd : Dc B pc (.lload k) 2 pc') (hl : Ls[k]? = some (.val (.long v))) (r : Go p e below F T (mkF m pc' Ls (.long v :: St))) : Go p e below F T (mkF m pc Ls St) := by
  obtain ⟨⟨hx, hby, -⟩, -, -, s1, locs, X, -⟩ := K
  obtain ⟨hd, rfl⟩ := hd
  exact r.st fun t q => XT.lload X.here hx rfl (hb hby hd) hl q

theorem gLloadN (K : Cx p l e R s m args below meth c B ML Z own n0 md T h ws cells slots) {k : Fin 4} {v : Int64} (hd : Dc B pc (.lload_n k) 1 pc') (hl : Ls[k.val]? = some (.val (.long v))) (r : Go p e below F T (mkF m pc' Ls (.long v :: St))) : Go p e below F T (mkF m pc Ls St) := by
  obtain ⟨⟨hx, hby, -⟩, -, -, s1, locs, X, -⟩ := K
  obtain ⟨hd, rfl⟩ := hd
  exact r.st fun t q => XT.lloadN X.here hx rfl (hb hby hd) hl q

theorem gIconst (K : Cx p l e R s m args below meth c B ML Z own n0 md T h ws cells slots) {i : Int} (v : Int32) (hd : Dc B pc (.iconst i) 1 pc') (hv : Int32.ofInt i = v) (r : Go p e below F T (mkF m pc' Ls (.int v :: St))) : Go p e below F T (mkF m pc Ls St) := by
  obtain ⟨⟨hx, hby, -⟩, -, -, s1, locs, X, -⟩ := K
  obtain ⟨hd, rfl⟩ := hd
  exact r.st fun t q => XT.iconstV X.here hx rfl v (hb hby hd) hv q

theorem gBipush (K : Cx p l e R s m args below meth c B ML Z own n0 md T h ws cells slots) {i : Int} (v : Int32) (hd : Dc B pc (.bipush i) 2 pc') (hv : (Int8.ofInt i).toInt32 = v) (r : Go p e below F T (mkF m pc' Ls (.int v :: St))) : Go p e below F T (mkF m pc Ls St) := by
  obtain ⟨⟨hx, hby, -⟩, -, -, s1, locs, X, -⟩ := K
  obtain ⟨hd, rfl⟩ := hd
  exact r.st fun t q => XT.bipushV X.here hx rfl v (hb hby hd) hv q

theorem gSipush (K : Cx p l e R s m args below meth c B ML Z own n0 md T h ws cells slots) {i : Int} (v : Int32) (hd : Dc B pc (.sipush i) 3 pc') (hv : (Int16.ofInt i).toInt32 = v) (r : Go p e below F T (mkF m pc' Ls (.int v :: St))) : Go p e below F T (mkF m pc Ls St) := by
  obtain ⟨⟨hx, hby, -⟩, -, -, s1, locs, X, -⟩ := K
  obtain ⟨hd, rfl⟩ := hd
  exact r.st fun t q => XT.sipushV X.here hx rfl v (hb hby hd) hv q

theorem gNull (K : Cx p l e R s m args below meth c B ML Z own n0 md T h ws cells slots)  (hd : Dc B pc (.aconst_null) 1 pc') (r : Go p e below F T (mkF m pc' Ls (.null :: St))) : Go p e below F T (mkF m pc Ls St) := by
  obtain ⟨⟨hx, hby, -⟩, -, -, s1, locs, X, -⟩ := K
  obtain ⟨hd, rfl⟩ := hd
  exact r.st fun t q => XS.aconstNull X.here hx rfl (hb hby hd) q

theorem gIadd (K : Cx p l e R s m args below meth c B ML Z own n0 md T h ws cells slots) {x y : Int32} (hd : Dc B pc (.iadd) 1 pc') (r : Go p e below F T (mkF m pc' Ls (.int (x + y) :: St))) : Go p e below F T (mkF m pc Ls (.int y :: .int x :: St)) := by
  obtain ⟨⟨hx, hby, -⟩, -, -, s1, locs, X, -⟩ := K
  obtain ⟨hd, rfl⟩ := hd
  exact r.st fun t q => XS.iadd X.here hx rfl (hb hby hd) rfl q

theorem gIsub (K : Cx p l e R s m args below meth c B ML Z own n0 md T h ws cells slots) {x y : Int32} (hd : Dc B pc (.isub) 1 pc') (r : Go p e below F T (mkF m pc' Ls (.int (x - y) :: St))) : Go p e below F T (mkF m pc Ls (.int y :: .int x :: St)) := by
  obtain ⟨⟨hx, hby, -⟩, -, -, s1, locs, X, -⟩ := K
  obtain ⟨hd, rfl⟩ := hd
  exact r.st fun t q => XS.isub X.here hx rfl (hb hby hd) rfl q

theorem gIand (K : Cx p l e R s m args below meth c B ML Z own n0 md T h ws cells slots) {x y : Int32} (hd : Dc B pc (.iand) 1 pc') (r : Go p e below F T (mkF m pc' Ls (.int (x &&& y) :: St))) : Go p e below F T (mkF m pc Ls (.int y :: .int x :: St)) := by
  obtain ⟨⟨hx, hby, -⟩, -, -, s1, locs, X, -⟩ := K
  obtain ⟨hd, rfl⟩ := hd
  exact r.st fun t q => XS.iand X.here hx rfl (hb hby hd) rfl q

theorem gImul (K : Cx p l e R s m args below meth c B ML Z own n0 md T h ws cells slots) {x y : Int32} (hd : Dc B pc (.imul) 1 pc') (r : Go p e below F T (mkF m pc' Ls (.int (x * y) :: St))) : Go p e below F T (mkF m pc Ls (.int y :: .int x :: St)) := by
  obtain ⟨⟨hx, hby, -⟩, -, -, s1, locs, X, -⟩ := K
  obtain ⟨hd, rfl⟩ := hd
  exact r.st fun t q => XS.imul X.here hx rfl (hb hby hd) rfl q

theorem gIor (K : Cx p l e R s m args below meth c B ML Z own n0 md T h ws cells slots) {x y : Int32} (hd : Dc B pc (.ior) 1 pc') (r : Go p e below F T (mkF m pc' Ls (.int (x ||| y) :: St))) : Go p e below F T (mkF m pc Ls (.int y :: .int x :: St)) := by
  obtain ⟨⟨hx, hby, -⟩, -, -, s1, locs, X, -⟩ := K
  obtain ⟨hd, rfl⟩ := hd
  exact r.st fun t q => XT.ior X.here hx rfl (hb hby hd) rfl q

theorem gIxor (K : Cx p l e R s m args below meth c B ML Z own n0 md T h ws cells slots) {x y : Int32} (hd : Dc B pc (.ixor) 1 pc') (r : Go p e below F T (mkF m pc' Ls (.int (x ^^^ y) :: St))) : Go p e below F T (mkF m pc Ls (.int y :: .int x :: St)) := by
  obtain ⟨⟨hx, hby, -⟩, -, -, s1, locs, X, -⟩ := K
  obtain ⟨hd, rfl⟩ := hd
  exact r.st fun t q => XT.ixor X.here hx rfl (hb hby hd) rfl q

theorem gIshl (K : Cx p l e R s m args below meth c B ML Z own n0 md T h ws cells slots) {x y : Int32} (hd : Dc B pc (.ishl) 1 pc') (r : Go p e below F T (mkF m pc' Ls (.int (x <<< (y &&& 31)) :: St))) : Go p e below F T (mkF m pc Ls (.int y :: .int x :: St)) := by
  obtain ⟨⟨hx, hby, -⟩, -, -, s1, locs, X, -⟩ := K
  obtain ⟨hd, rfl⟩ := hd
  exact r.st fun t q => XT.ishl X.here hx rfl (hb hby hd) rfl q

theorem gIshr (K : Cx p l e R s m args below meth c B ML Z own n0 md T h ws cells slots) {x y : Int32} (hd : Dc B pc (.ishr) 1 pc') (r : Go p e below F T (mkF m pc' Ls (.int (x >>> (y &&& 31)) :: St))) : Go p e below F T (mkF m pc Ls (.int y :: .int x :: St)) := by
  obtain ⟨⟨hx, hby, -⟩, -, -, s1, locs, X, -⟩ := K
  obtain ⟨hd, rfl⟩ := hd
  exact r.st fun t q => XT.ishr X.here hx rfl (hb hby hd) rfl q

theorem gIushr (K : Cx p l e R s m args below meth c B ML Z own n0 md T h ws cells slots) {x y : Int32} (hd : Dc B pc (.iushr) 1 pc') (r : Go p e below F T (mkF m pc' Ls (.int (XT.ushr x y) :: St))) : Go p e below F T (mkF m pc Ls (.int y :: .int x :: St)) := by
  obtain ⟨⟨hx, hby, -⟩, -, -, s1, locs, X, -⟩ := K
  obtain ⟨hd, rfl⟩ := hd
  exact r.st fun t q => XT.iushr X.here hx rfl (hb hby hd) rfl q

theorem gIdiv (K : Cx p l e R s m args below meth c B ML Z own n0 md T h ws cells slots) {x y : Int32} (hd : Dc B pc (.idiv) 1 pc') (hy : y ≠ 0) (r : Go p e below F T (mkF m pc' Ls (.int (x / y) :: St))) : Go p e below F T (mkF m pc Ls (.int y :: .int x :: St)) := by
  obtain ⟨⟨hx, hby, -⟩, -, -, s1, locs, X, -⟩ := K
  obtain ⟨hd, rfl⟩ := hd
  exact r.st fun t q => XS.idiv X.here hx rfl (hb hby hd) rfl hy q

theorem gIrem (K : Cx p l e R s m args below meth c B ML Z own n0 md T h ws cells slots) {x y : Int32} (hd : Dc B pc (.irem) 1 pc') (hy : y ≠ 0) (r : Go p e below F T (mkF m pc' Ls (.int (x % y) :: St))) : Go p e below F T (mkF m pc Ls (.int y :: .int x :: St)) := by
  obtain ⟨⟨hx, hby, -⟩, -, -, s1, locs, X, -⟩ := K
  obtain ⟨hd, rfl⟩ := hd
  exact r.st fun t q => iremM X hx rfl (hb hby hd) rfl hy q

theorem gIneg (K : Cx p l e R s m args below meth c B ML Z own n0 md T h ws cells slots) {x : Int32} (hd : Dc B pc (.ineg) 1 pc') (r : Go p e below F T (mkF m pc' Ls (.int (-x) :: St))) : Go p e below F T (mkF m pc Ls (.int x :: St)) := by
  obtain ⟨⟨hx, hby, -⟩, -, -, s1, locs, X, -⟩ := K
  obtain ⟨hd, rfl⟩ := hd
  exact r.st fun t q => XS.ineg X.here hx rfl (hb hby hd) rfl q

theorem gI2b (K : Cx p l e R s m args below meth c B ML Z own n0 md T h ws cells slots) {x : Int32} (hd : Dc B pc (.i2b) 1 pc') (r : Go p e below F T (mkF m pc' Ls (.int x.toInt8.toInt32 :: St))) : Go p e below F T (mkF m pc Ls (.int x :: St)) := by
  obtain ⟨⟨hx, hby, -⟩, -, -, s1, locs, X, -⟩ := K
  obtain ⟨hd, rfl⟩ := hd
  exact r.st fun t q => XT.i2b X.here hx rfl (hb hby hd) rfl q

theorem gI2c (K : Cx p l e R s m args below meth c B ML Z own n0 md T h ws cells slots) {x : Int32} (hd : Dc B pc (.i2c) 1 pc') (r : Go p e below F T (mkF m pc' Ls (.int x.toUInt32.toUInt16.toUInt32.toInt32 :: St))) : Go p e below F T (mkF m pc Ls (.int x :: St)) := by
  obtain ⟨⟨hx, hby, -⟩, -, -, s1, locs, X, -⟩ := K
  obtain ⟨hd, rfl⟩ := hd
  exact r.st fun t q => XT.i2c X.here hx rfl (hb hby hd) rfl q

theorem gL2i (K : Cx p l e R s m args below meth c B ML Z own n0 md T h ws cells slots) {x : Int64} (hd : Dc B pc (.l2i) 1 pc') (r : Go p e below F T (mkF m pc' Ls (.int x.toInt32 :: St))) : Go p e below F T (mkF m pc Ls (.long x :: St)) := by
  obtain ⟨⟨hx, hby, -⟩, -, -, s1, locs, X, -⟩ := K
  obtain ⟨hd, rfl⟩ := hd
  exact r.st fun t q => XT.l2i X.here hx rfl (hb hby hd) rfl q

theorem gLand (K : Cx p l e R s m args below meth c B ML Z own n0 md T h ws cells slots) {x y : Int64} (hd : Dc B pc (.land) 1 pc') (r : Go p e below F T (mkF m pc' Ls (.long (x &&& y) :: St))) : Go p e below F T (mkF m pc Ls (.long y :: .long x :: St)) := by
  obtain ⟨⟨hx, hby, -⟩, -, -, s1, locs, X, -⟩ := K
  obtain ⟨hd, rfl⟩ := hd
  exact r.st fun t q => XT.land X.here hx rfl (hb hby hd) rfl q

theorem gLushr (K : Cx p l e R s m args below meth c B ML Z own n0 md T h ws cells slots) {x : Int64} {y : Int32} (hd : Dc B pc (.lushr) 1 pc') (r : Go p e below F T (mkF m pc' Ls (.long (XT.ushrL x y) :: St))) : Go p e below F T (mkF m pc Ls (.int y :: .long x :: St)) := by
  obtain ⟨⟨hx, hby, -⟩, -, -, s1, locs, X, -⟩ := K
  obtain ⟨hd, rfl⟩ := hd
  exact r.st fun t q => XT.lushr X.here hx rfl (hb hby hd) rfl q

theorem gDup (K : Cx p l e R s m args below meth c B ML Z own n0 md T h ws cells slots) {x : Value} (hd : Dc B pc (.dup) 1 pc') (hc : x.category = 1) (r : Go p e below F T (mkF m pc' Ls (x :: x :: St))) : Go p e below F T (mkF m pc Ls (x :: St)) := by
  obtain ⟨⟨hx, hby, -⟩, -, -, s1, locs, X, -⟩ := K
  obtain ⟨hd, rfl⟩ := hd
  exact r.st fun t q => XS.dup X.here hx rfl (hb hby hd) rfl hc q

theorem gPop (K : Cx p l e R s m args below meth c B ML Z own n0 md T h ws cells slots) {x : Value} (hd : Dc B pc (.pop) 1 pc') (hc : x.category = 1) (r : Go p e below F T (mkF m pc' Ls St)) : Go p e below F T (mkF m pc Ls (x :: St)) := by
  obtain ⟨⟨hx, hby, -⟩, -, -, s1, locs, X, -⟩ := K
  obtain ⟨hd, rfl⟩ := hd
  exact r.st fun t q => XT.pop X.here hx rfl (hb hby hd) rfl hc q

theorem gIstore (K : Cx p l e R s m args below meth c B ML Z own n0 md T h ws cells slots) {k : Nat} {x : Int32} (hd : Dc B pc (.istore k) 2 pc') (hl : storeLocals Ls k (.int x) = some Ls') (r : Go p e below F T (mkF m pc' Ls' St)) : Go p e below F T (mkF m pc Ls (.int x :: St)) := by
  obtain ⟨⟨hx, hby, -⟩, -, -, s1, locs, X, -⟩ := K
  obtain ⟨hd, rfl⟩ := hd
  exact r.st fun t q => XS.istore X.here hx rfl (hb hby hd) rfl hl q

theorem gIstoreN (K : Cx p l e R s m args below meth c B ML Z own n0 md T h ws cells slots) {k : Fin 4} {x : Int32} (hd : Dc B pc (.istore_n k) 1 pc') (hl : storeLocals Ls k.val (.int x) = some Ls') (r : Go p e below F T (mkF m pc' Ls' St)) : Go p e below F T (mkF m pc Ls (.int x :: St)) := by
  obtain ⟨⟨hx, hby, -⟩, -, -, s1, locs, X, -⟩ := K
  obtain ⟨hd, rfl⟩ := hd
  exact r.st fun t q => XS.istoreN X.here hx rfl (hb hby hd) rfl hl q

theorem gAstore (K : Cx p l e R s m args below meth c B ML Z own n0 md T h ws cells slots) {k : Nat} {x : Value} (hd : Dc B pc (.astore k) 2 pc') (hv : x.isRef = true) (hl : storeLocals Ls k x = some Ls') (r : Go p e below F T (mkF m pc' Ls' St)) : Go p e below F T (mkF m pc Ls (x :: St)) := by
  obtain ⟨⟨hx, hby, -⟩, -, -, s1, locs, X, -⟩ := K
  obtain ⟨hd, rfl⟩ := hd
  exact r.st fun t q => XS.astore X.here hx rfl (hb hby hd) rfl hv hl q

theorem gAstoreN (K : Cx p l e R s m args below meth c B ML Z own n0 md T h ws cells slots) {k : Fin 4} {x : Value} (hd : Dc B pc (.astore_n k) 1 pc') (hv : x.isRef = true) (hl : storeLocals Ls k.val x = some Ls') (r : Go p e below F T (mkF m pc' Ls' St)) : Go p e below F T (mkF m pc Ls (x :: St)) := by
  obtain ⟨⟨hx, hby, -⟩, -, -, s1, locs, X, -⟩ := K
  obtain ⟨hd, rfl⟩ := hd
  exact r.st fun t q => XS.astoreN X.here hx rfl (hb hby hd) rfl hv hl q

theorem gIinc (K : Cx p l e R s m args below meth c B ML Z own n0 md T h ws cells slots) {k : Nat} {cst : Int} {x : Int32} (v : Int32) (hd : Dc B pc (.iinc k cst) 3 pc') (hv : Int32.ofInt cst = v) (hl : Ls[k]? = some (.val (.int x))) (hl' : storeLocals Ls k (.int (x + v)) = some Ls') (r : Go p e below F T (mkF m pc' Ls' St)) : Go p e below F T (mkF m pc Ls St) := by
  obtain ⟨⟨hx, hby, -⟩, -, -, s1, locs, X, -⟩ := K
  obtain ⟨hd, rfl⟩ := hd
  exact r.st fun t q => XT.iincV X.here hx rfl v (hb hby hd) hv hl hl' q

theorem gIaddV (K : Cx p l e R s m args below meth c B ML Z own n0 md T h ws cells slots) {x y : Int32} (v : Int32) (hd : Dc B pc (.iadd) 1 pc') (hv : x + y = v) (r : Go p e below F T (mkF m pc' Ls (.int v :: St))) : Go p e below F T (mkF m pc Ls (.int y :: .int x :: St)) := by
  obtain ⟨⟨hx, hby, -⟩, -, -, s1, locs, X, -⟩ := K
  obtain ⟨hd, rfl⟩ := hd
  exact r.st fun t q => XS.iadd X.here hx rfl (hb hby hd) rfl (hv ▸ q)

theorem gIsubV (K : Cx p l e R s m args below meth c B ML Z own n0 md T h ws cells slots) {x y : Int32} (v : Int32) (hd : Dc B pc (.isub) 1 pc') (hv : x - y = v) (r : Go p e below F T (mkF m pc' Ls (.int v :: St))) : Go p e below F T (mkF m pc Ls (.int y :: .int x :: St)) := by
  obtain ⟨⟨hx, hby, -⟩, -, -, s1, locs, X, -⟩ := K
  obtain ⟨hd, rfl⟩ := hd
  exact r.st fun t q => XS.isub X.here hx rfl (hb hby hd) rfl (hv ▸ q)

theorem gIandV (K : Cx p l e R s m args below meth c B ML Z own n0 md T h ws cells slots) {x y : Int32} (v : Int32) (hd : Dc B pc (.iand) 1 pc') (hv : x &&& y = v) (r : Go p e below F T (mkF m pc' Ls (.int v :: St))) : Go p e below F T (mkF m pc Ls (.int y :: .int x :: St)) := by
  obtain ⟨⟨hx, hby, -⟩, -, -, s1, locs, X, -⟩ := K
  obtain ⟨hd, rfl⟩ := hd
  exact r.st fun t q => XS.iand X.here hx rfl (hb hby hd) rfl (hv ▸ q)

theorem gGoto (K : Cx p l e R s m args below meth c B ML Z own n0 md T h ws cells slots)  {o : Int} (hd : Db B pc (.goto o) o pc' tgt) (r : Go p e below F T (mkF m tgt Ls St)) : Go p e below F T (mkF m pc Ls St) := by
  obtain ⟨⟨hx, hby, -⟩, -, -, s1, locs, X, -⟩ := K
  obtain ⟨hd, rfl, ho, hp⟩ := hd
  exact r.st fun t q => XS.goto X.here hx rfl rfl (hb hby hd) ho hp q

theorem gIcmp_eq (K : Cx p l e R s m args below meth c B ML Z own n0 md T h ws cells slots) {x y : Int32} {o : Int} (hd : Db B pc (.if_icmp .eq o) o pc' tgt) (ry : x = y → Go p e below F T (mkF m tgt Ls St)) (rn : ¬ x = y → Go p e below F T (mkF m pc' Ls St)) : Go p e below F T (mkF m pc Ls (.int y :: .int x :: St)) := by
  obtain ⟨⟨hx, hby, -⟩, -, -, s1, locs, X, -⟩ := K
  obtain ⟨hd, rfl, ho, hp⟩ := hd
  by_cases hq : x = y
  · exact (ry hq).st fun t q => XS.icmpYes X.here hx rfl rfl (hb hby hd) rfl (teq hq).1 ho hp q
  · exact (rn hq).st fun t q => XS.icmpNo X.here hx rfl (hb hby hd) rfl (feq hq).1 q

theorem gIf_eq (K : Cx p l e R s m args below meth c B ML Z own n0 md T h ws cells slots) {x : Int32} {o : Int} (hd : Db B pc (.ifCond .eq o) o pc' tgt) (ry : x = (0 : Int32) → Go p e below F T (mkF m tgt Ls St)) (rn : ¬ x = (0 : Int32) → Go p e below F T (mkF m pc' Ls St)) : Go p e below F T (mkF m pc Ls (.int x :: St)) := by
  obtain ⟨⟨hx, hby, -⟩, -, -, s1, locs, X, -⟩ := K
  obtain ⟨hd, rfl, ho, hp⟩ := hd
  by_cases hq : x = (0 : Int32)
  · exact (ry hq).st fun t q => XS.ifYes X.here hx rfl rfl (hb hby hd) rfl ((if0 _ _).trans (teq hq).1) ho hp q
  · exact (rn hq).st fun t q => XS.ifNo X.here hx rfl (hb hby hd) rfl ((if0 _ _).trans (feq hq).1) q

theorem gIcmp_ne (K : Cx p l e R s m args below meth c B ML Z own n0 md T h ws cells slots) {x y : Int32} {o : Int} (hd : Db B pc (.if_icmp .ne o) o pc' tgt) (ry : ¬ x = y → Go p e below F T (mkF m tgt Ls St)) (rn : x = y → Go p e below F T (mkF m pc' Ls St)) : Go p e below F T (mkF m pc Ls (.int y :: .int x :: St)) := by
  obtain ⟨⟨hx, hby, -⟩, -, -, s1, locs, X, -⟩ := K
  obtain ⟨hd, rfl, ho, hp⟩ := hd
  by_cases hq : x = y
  · exact (rn hq).st fun t q => XS.icmpNo X.here hx rfl (hb hby hd) rfl (teq hq).2 q
  · exact (ry hq).st fun t q => XS.icmpYes X.here hx rfl rfl (hb hby hd) rfl (feq hq).2 ho hp q

theorem gIf_ne (K : Cx p l e R s m args below meth c B ML Z own n0 md T h ws cells slots) {x : Int32} {o : Int} (hd : Db B pc (.ifCond .ne o) o pc' tgt) (ry : ¬ x = (0 : Int32) → Go p e below F T (mkF m tgt Ls St)) (rn : x = (0 : Int32) → Go p e below F T (mkF m pc' Ls St)) : Go p e below F T (mkF m pc Ls (.int x :: St)) := by
  obtain ⟨⟨hx, hby, -⟩, -, -, s1, locs, X, -⟩ := K
  obtain ⟨hd, rfl, ho, hp⟩ := hd
  by_cases hq : x = (0 : Int32)
  · exact (rn hq).st fun t q => XS.ifNo X.here hx rfl (hb hby hd) rfl ((if0 _ _).trans (teq hq).2) q
  · exact (ry hq).st fun t q => XS.ifYes X.here hx rfl rfl (hb hby hd) rfl ((if0 _ _).trans (feq hq).2) ho hp q

theorem gIcmp_lt (K : Cx p l e R s m args below meth c B ML Z own n0 md T h ws cells slots) {x y : Int32} {o : Int} (hd : Db B pc (.if_icmp .lt o) o pc' tgt) (ry : x < y → Go p e below F T (mkF m tgt Ls St)) (rn : ¬ x < y → Go p e below F T (mkF m pc' Ls St)) : Go p e below F T (mkF m pc Ls (.int y :: .int x :: St)) := by
  obtain ⟨⟨hx, hby, -⟩, -, -, s1, locs, X, -⟩ := K
  obtain ⟨hd, rfl, ho, hp⟩ := hd
  by_cases hq : x < y
  · exact (ry hq).st fun t q => XS.icmpYes X.here hx rfl rfl (hb hby hd) rfl (tlt hq).1 ho hp q
  · exact (rn hq).st fun t q => XS.icmpNo X.here hx rfl (hb hby hd) rfl (flt hq).1 q

theorem gIf_lt (K : Cx p l e R s m args below meth c B ML Z own n0 md T h ws cells slots) {x : Int32} {o : Int} (hd : Db B pc (.ifCond .lt o) o pc' tgt) (ry : x < (0 : Int32) → Go p e below F T (mkF m tgt Ls St)) (rn : ¬ x < (0 : Int32) → Go p e below F T (mkF m pc' Ls St)) : Go p e below F T (mkF m pc Ls (.int x :: St)) := by
  obtain ⟨⟨hx, hby, -⟩, -, -, s1, locs, X, -⟩ := K
  obtain ⟨hd, rfl, ho, hp⟩ := hd
  by_cases hq : x < (0 : Int32)
  · exact (ry hq).st fun t q => XS.ifYes X.here hx rfl rfl (hb hby hd) rfl ((if0 _ _).trans (tlt hq).1) ho hp q
  · exact (rn hq).st fun t q => XS.ifNo X.here hx rfl (hb hby hd) rfl ((if0 _ _).trans (flt hq).1) q

theorem gIcmp_ge (K : Cx p l e R s m args below meth c B ML Z own n0 md T h ws cells slots) {x y : Int32} {o : Int} (hd : Db B pc (.if_icmp .ge o) o pc' tgt) (ry : ¬ x < y → Go p e below F T (mkF m tgt Ls St)) (rn : x < y → Go p e below F T (mkF m pc' Ls St)) : Go p e below F T (mkF m pc Ls (.int y :: .int x :: St)) := by
  obtain ⟨⟨hx, hby, -⟩, -, -, s1, locs, X, -⟩ := K
  obtain ⟨hd, rfl, ho, hp⟩ := hd
  by_cases hq : x < y
  · exact (rn hq).st fun t q => XS.icmpNo X.here hx rfl (hb hby hd) rfl (tlt hq).2.1 q
  · exact (ry hq).st fun t q => XS.icmpYes X.here hx rfl rfl (hb hby hd) rfl (flt hq).2.1 ho hp q

theorem gIf_ge (K : Cx p l e R s m args below meth c B ML Z own n0 md T h ws cells slots) {x : Int32} {o : Int} (hd : Db B pc (.ifCond .ge o) o pc' tgt) (ry : ¬ x < (0 : Int32) → Go p e below F T (mkF m tgt Ls St)) (rn : x < (0 : Int32) → Go p e below F T (mkF m pc' Ls St)) : Go p e below F T (mkF m pc Ls (.int x :: St)) := by
  obtain ⟨⟨hx, hby, -⟩, -, -, s1, locs, X, -⟩ := K
  obtain ⟨hd, rfl, ho, hp⟩ := hd
  by_cases hq : x < (0 : Int32)
  · exact (rn hq).st fun t q => XS.ifNo X.here hx rfl (hb hby hd) rfl ((if0 _ _).trans (tlt hq).2.1) q
  · exact (ry hq).st fun t q => XS.ifYes X.here hx rfl rfl (hb hby hd) rfl ((if0 _ _).trans (flt hq).2.1) ho hp q

theorem gIcmp_gt (K : Cx p l e R s m args below meth c B ML Z own n0 md T h ws cells slots) {x y : Int32} {o : Int} (hd : Db B pc (.if_icmp .gt o) o pc' tgt) (ry : y < x → Go p e below F T (mkF m tgt Ls St)) (rn : ¬ y < x → Go p e below F T (mkF m pc' Ls St)) : Go p e below F T (mkF m pc Ls (.int y :: .int x :: St)) := by
  obtain ⟨⟨hx, hby, -⟩, -, -, s1, locs, X, -⟩ := K
  obtain ⟨hd, rfl, ho, hp⟩ := hd
  by_cases hq : y < x
  · exact (ry hq).st fun t q => XS.icmpYes X.here hx rfl rfl (hb hby hd) rfl (tlt hq).2.2.1 ho hp q
  · exact (rn hq).st fun t q => XS.icmpNo X.here hx rfl (hb hby hd) rfl (flt hq).2.2.1 q

theorem gIf_gt (K : Cx p l e R s m args below meth c B ML Z own n0 md T h ws cells slots) {x : Int32} {o : Int} (hd : Db B pc (.ifCond .gt o) o pc' tgt) (ry : (0 : Int32) < x → Go p e below F T (mkF m tgt Ls St)) (rn : ¬ (0 : Int32) < x → Go p e below F T (mkF m pc' Ls St)) : Go p e below F T (mkF m pc Ls (.int x :: St)) := by
  obtain ⟨⟨hx, hby, -⟩, -, -, s1, locs, X, -⟩ := K
  obtain ⟨hd, rfl, ho, hp⟩ := hd
  by_cases hq : (0 : Int32) < x
  · exact (ry hq).st fun t q => XS.ifYes X.here hx rfl rfl (hb hby hd) rfl ((if0 _ _).trans (tlt hq).2.2.1) ho hp q
  · exact (rn hq).st fun t q => XS.ifNo X.here hx rfl (hb hby hd) rfl ((if0 _ _).trans (flt hq).2.2.1) q

theorem gIcmp_le (K : Cx p l e R s m args below meth c B ML Z own n0 md T h ws cells slots) {x y : Int32} {o : Int} (hd : Db B pc (.if_icmp .le o) o pc' tgt) (ry : ¬ y < x → Go p e below F T (mkF m tgt Ls St)) (rn : y < x → Go p e below F T (mkF m pc' Ls St)) : Go p e below F T (mkF m pc Ls (.int y :: .int x :: St)) := by
  obtain ⟨⟨hx, hby, -⟩, -, -, s1, locs, X, -⟩ := K
  obtain ⟨hd, rfl, ho, hp⟩ := hd
  by_cases hq : y < x
  · exact (rn hq).st fun t q => XS.icmpNo X.here hx rfl (hb hby hd) rfl (tlt hq).2.2.2 q
  · exact (ry hq).st fun t q => XS.icmpYes X.here hx rfl rfl (hb hby hd) rfl (flt hq).2.2.2 ho hp q

theorem gIf_le (K : Cx p l e R s m args below meth c B ML Z own n0 md T h ws cells slots) {x : Int32} {o : Int} (hd : Db B pc (.ifCond .le o) o pc' tgt) (ry : ¬ (0 : Int32) < x → Go p e below F T (mkF m tgt Ls St)) (rn : (0 : Int32) < x → Go p e below F T (mkF m pc' Ls St)) : Go p e below F T (mkF m pc Ls (.int x :: St)) := by
  obtain ⟨⟨hx, hby, -⟩, -, -, s1, locs, X, -⟩ := K
  obtain ⟨hd, rfl, ho, hp⟩ := hd
  by_cases hq : (0 : Int32) < x
  · exact (rn hq).st fun t q => XS.ifNo X.here hx rfl (hb hby hd) rfl ((if0 _ _).trans (tlt hq).2.2.2) q
  · exact (ry hq).st fun t q => XS.ifYes X.here hx rfl rfl (hb hby hd) rfl ((if0 _ _).trans (flt hq).2.2.2) ho hp q

theorem gIfnull_t (K : Cx p l e R s m args below meth c B ML Z own n0 md T h ws cells slots)  {o : Int} (hd : Db B pc (.ifnull o) o pc' tgt) (r : Go p e below F T (mkF m tgt Ls St)) : Go p e below F T (mkF m pc Ls (.null :: St)) := by
  obtain ⟨⟨hx, hby, -⟩, -, -, s1, locs, X, -⟩ := K
  obtain ⟨hd, rfl, ho, hp⟩ := hd
  exact r.st fun t q => XS.ifnullYes X.here hx rfl rfl (hb hby hd) rfl ho hp q

theorem gIfnull_f (K : Cx p l e R s m args below meth c B ML Z own n0 md T h ws cells slots) {b : Addr} {o : Int} (hd : Db B pc (.ifnull o) o pc' tgt) (r : Go p e below F T (mkF m pc' Ls St)) : Go p e below F T (mkF m pc Ls (.ref b :: St)) := by
  obtain ⟨⟨hx, hby, -⟩, -, -, s1, locs, X, -⟩ := K
  obtain ⟨hd, rfl, ho, hp⟩ := hd
  exact r.st fun t q => XS.ifnullNo X.here hx rfl (hb hby hd) rfl q

theorem gIfnonnull_t (K : Cx p l e R s m args below meth c B ML Z own n0 md T h ws cells slots) {b : Addr} {o : Int} (hd : Db B pc (.ifnonnull o) o pc' tgt) (r : Go p e below F T (mkF m tgt Ls St)) : Go p e below F T (mkF m pc Ls (.ref b :: St)) := by
  obtain ⟨⟨hx, hby, -⟩, -, -, s1, locs, X, -⟩ := K
  obtain ⟨hd, rfl, ho, hp⟩ := hd
  exact r.st fun t q => XT.ifnonnullYes X.here hx rfl rfl (hb hby hd) rfl ho hp q

theorem gIfnonnull_f (K : Cx p l e R s m args below meth c B ML Z own n0 md T h ws cells slots)  {o : Int} (hd : Db B pc (.ifnonnull o) o pc' tgt) (r : Go p e below F T (mkF m pc' Ls St)) : Go p e below F T (mkF m pc Ls (.null :: St)) := by
  obtain ⟨⟨hx, hby, -⟩, -, -, s1, locs, X, -⟩ := K
  obtain ⟨hd, rfl, ho, hp⟩ := hd
  exact r.st fun t q => XT.ifnonnullNo X.here hx rfl (hb hby hd) rfl q

theorem gAcmp_eq (K : Cx p l e R s m args below meth c B ML Z own n0 md T h ws cells slots) {x y : Value} {o : Int} (hd : Db B pc (.if_acmp .eq o) o pc' tgt) (h1 : x.isRef = true) (h2 : y.isRef = true) (ry : x = y → Go p e below F T (mkF m tgt Ls St)) (rn : ¬ x = y → Go p e below F T (mkF m pc' Ls St)) : Go p e below F T (mkF m pc Ls (y :: x :: St)) := by
  obtain ⟨⟨hx, hby, -⟩, -, -, s1, locs, X, -⟩ := K
  obtain ⟨hd, rfl, ho, hp⟩ := hd
  by_cases hq : x = y
  · exact (ry hq).st fun t q => XT.acmpYes X.here hx rfl rfl (hb hby hd) rfl h1 h2 (XT.aa_eq_t hq) ho hp q
  · exact (rn hq).st fun t q => XT.acmpNo X.here hx rfl (hb hby hd) rfl h1 h2 (XT.aa_eq_f hq) q

theorem gAcmp_ne (K : Cx p l e R s m args below meth c B ML Z own n0 md T h ws cells slots) {x y : Value} {o : Int} (hd : Db B pc (.if_acmp .ne o) o pc' tgt) (h1 : x.isRef = true) (h2 : y.isRef = true) (ry : ¬ x = y → Go p e below F T (mkF m tgt Ls St)) (rn : x = y → Go p e below F T (mkF m pc' Ls St)) : Go p e below F T (mkF m pc Ls (y :: x :: St)) := by
  obtain ⟨⟨hx, hby, -⟩, -, -, s1, locs, X, -⟩ := K
  obtain ⟨hd, rfl, ho, hp⟩ := hd
  by_cases hq : x = y
  · exact (rn hq).st fun t q => XT.acmpNo X.here hx rfl (hb hby hd) rfl h1 h2 (XT.aa_ne_f hq) q
  · exact (ry hq).st fun t q => XT.acmpYes X.here hx rfl rfl (hb hby hd) rfl h1 h2 (XT.aa_ne_t hq) ho hp q

/-! ## steps that touch the heap or the tables -/
theorem Cx.same {T' : State} {s1 : State} {locs : List Loc} (K : Cx p l e R s m args below meth c B ML Z own n0 md T h ws cells slots) (X' : Stand p l e R s1 m args below meth c T' locs cells slots) (e' : T'.heap = h) (hZ : Z.Warmed39 s1.vm) (hown : s1.vm.findClass own = some m.cls) (N : Fr n0 locs) (J : Jd md Z s s1 h) (Wq : ∀ x ∈ ws, n0 ≤ x ∧ x < h.size ∧ Sf md Z s1 h x) : Cx p l e R s m args below meth c B ML Z own n0 md T' h ws cells slots :=
  ⟨K.1, e', K.2.2.1, s1, locs, X', hZ, hown, N, J, Wq⟩
theorem gGet (K : Cx p l e R s m args below meth c B ML Z own n0 md T h ws cells slots) {O n d : String} {index : Nat} {a : Addr} {v : Value} (hd : Dc B pc (.getfield index) 3 pc') (w : (Cond.fieldLink own index O n d).before a0 Z = true) (Fd : Fld Z h a O n d v)
    (k : ∀ T', Cx p l e R s m args below meth c B ML Z own n0 md T' h ws cells slots → Go p e below F T' (mkF m pc' Ls (v :: St))) : Go p e below F T (mkF m pc Ls (.ref a :: St)) := by
  have K0 := K
  obtain ⟨⟨hx, hby, hml⟩, eT, hn0, s1, locs, X, hZ, hown, N, J, Wq⟩ := K
  obtain ⟨hd, rfl⟩ := hd
  obtain ⟨T', X', e', st⟩ := getF X hx hZ hown (host := "") (Or.inl w) Via.refl eT Fd (g := mkF m pc Ls (.ref a :: St)) rfl rfl (hb hby hd)
  exact (k T' (K0.same X' e' hZ hown N J Wq)).st st
theorem gGetVia (K : Cx p l e R s m args below meth c B ML Z own n0 md T h ws cells slots) {R0 O n d : String} {index : Nat} {a : Addr} {v : Value} (hd : Dc B pc (.getfield index) 3 pc') (w : (Cond.fieldLink own index R0 n d).before a0 Z = true) (via : Via Z R0 O n d) (Fd : Fld Z h a O n d v)
    (k : ∀ T', Cx p l e R s m args below meth c B ML Z own n0 md T' h ws cells slots → Go p e below F T' (mkF m pc' Ls (v :: St))) : Go p e below F T (mkF m pc Ls (.ref a :: St)) := by
  have K0 := K
  obtain ⟨⟨hx, hby, hml⟩, eT, hn0, s1, locs, X, hZ, hown, N, J, Wq⟩ := K
  obtain ⟨hd, rfl⟩ := hd
  obtain ⟨T', X', e', st⟩ := getF X hx hZ hown (host := "") (Or.inl w) via eT Fd (g := mkF m pc Ls (.ref a :: St)) rfl rfl (hb hby hd)
  exact (k T' (K0.same X' e' hZ hown N J Wq)).st st
theorem gGetS (K : Cx p l e R s m args below meth c B ML Z own n0 md T h ws cells slots) {O n d : String} {index : Nat} {v : Value} (hd : Dc B pc (.getstatic index) 3 pc') (w : (Cond.fieldLink own index O n d).before a0 Z = true) (Fd : Sta Z h O n d v)
    (k : ∀ T', Cx p l e R s m args below meth c B ML Z own n0 md T' h ws cells slots → Go p e below F T' (mkF m pc' Ls (v :: St))) : Go p e below F T (mkF m pc Ls St) := by
  have K0 := K
  obtain ⟨⟨hx, hby, hml⟩, eT, hn0, s1, locs, X, hZ, hown, N, J, Wq⟩ := K
  obtain ⟨hd, rfl⟩ := hd
  obtain ⟨T', X', e', st⟩ := getS2 X hx hZ hown (host := "") (Or.inl w) Via.refl eT Fd (g := mkF m pc Ls St) rfl (hb hby hd)
  exact (k T' (K0.same X' e' hZ hown N J Wq)).st st
theorem gCast (K : Cx p l e R s m args below meth c B ML Z own n0 md T h ws cells slots) {C : String} {index : Nat} {a : Addr} (hd : Dc B pc (.checkcast index) 3 pc') (w : (Cond.classLink own index C).before a0 Z = true) (Fd : Ins Z h a C true)
    (k : ∀ T', Cx p l e R s m args below meth c B ML Z own n0 md T' h ws cells slots → Go p e below F T' (mkF m pc' Ls (.ref a :: St))) : Go p e below F T (mkF m pc Ls (.ref a :: St)) := by
  have K0 := K
  obtain ⟨⟨hx, hby, hml⟩, eT, hn0, s1, locs, X, hZ, hown, N, J, Wq⟩ := K
  obtain ⟨hd, rfl⟩ := hd
  obtain ⟨T', X', e', st⟩ := castY X hx hZ hown w eT Fd (g := mkF m pc Ls (.ref a :: St)) rfl rfl (hb hby hd)
  exact (k T' (K0.same X' e' hZ hown N J Wq)).st st
theorem gInstY (K : Cx p l e R s m args below meth c B ML Z own n0 md T h ws cells slots) {C : String} {index : Nat} {a : Addr} (hd : Dc B pc (.instanceof index) 3 pc') (w : (Cond.classLink own index C).before a0 Z = true) (Fd : Ins Z h a C true)
    (k : ∀ T', Cx p l e R s m args below meth c B ML Z own n0 md T' h ws cells slots → Go p e below F T' (mkF m pc' Ls (.int 1 :: St))) : Go p e below F T (mkF m pc Ls (.ref a :: St)) := by
  have K0 := K
  obtain ⟨⟨hx, hby, hml⟩, eT, hn0, s1, locs, X, hZ, hown, N, J, Wq⟩ := K
  obtain ⟨hd, rfl⟩ := hd
  obtain ⟨T', X', e', st⟩ := instY X hx hZ hown w eT Fd (g := mkF m pc Ls (.ref a :: St)) rfl rfl (hb hby hd)
  exact (k T' (K0.same X' e' hZ hown N J Wq)).st st
theorem gInstNo (K : Cx p l e R s m args below meth c B ML Z own n0 md T h ws cells slots) {C D : String} {index : Nat} {a : Addr} (hd : Dc B pc (.instanceof index) 3 pc') (w : (Cond.classLink own index D).before a0 Z = true) (E : Exa Z h a C) (Fd : ∃ c t, Z.vm.findClass C = some c ∧ Z.vm.findClass D = some t ∧ Z.vm.assignable c t = false)
    (k : ∀ T', Cx p l e R s m args below meth c B ML Z own n0 md T' h ws cells slots → Go p e below F T' (mkF m pc' Ls (.int 0 :: St))) : Go p e below F T (mkF m pc Ls (.ref a :: St)) := by
  have K0 := K
  obtain ⟨⟨hx, hby, hml⟩, eT, hn0, s1, locs, X, hZ, hown, N, J, Wq⟩ := K
  obtain ⟨hd, rfl⟩ := hd
  obtain ⟨T', X', e', st⟩ := instNo X hx hZ hown w eT E Fd (g := mkF m pc Ls (.ref a :: St)) rfl rfl (hb hby hd)
  exact (k T' (K0.same X' e' hZ hown N J Wq)).st st
theorem gInitO (K : Cx p l e R s m args below meth c B ML Z own n0 md T h ws cells slots) {index : Nat} {a : Addr} (hd : Dc B pc (.invokespecial index) 3 pc') (w1 : (Cond.methodLink own index Lib.objectInit).before a0 Z = true) (w2 : (Cond.instanceMethod Lib.objectInit).before a0 Z = true) (w3 : (Cond.code Lib.objectInit ⟨#[0xb1]⟩ 1 none).before a0 Z = true)
    (hsz : Ls.size = ML) (hf : 1 ≤ R.frames) {W : Nat} (hW : (St.map fun v => v.category).sum ≤ W) (hl : W + 12 ≤ R.locals)
    (k : ∀ T', Cx p l e R s m args below meth c B ML Z own n0 md T' h ws cells slots → Go p e below F T' (mkF m pc' Ls St)) : Go p e below F T (mkF m pc Ls (.ref a :: St)) := by
  have K0 := K
  obtain ⟨⟨hx, hby, hml⟩, eT, hn0, s1, locs, X, hZ, hown, N, J, Wq⟩ := K
  obtain ⟨hd, rfl⟩ := hd
  obtain ⟨T', X', e', st⟩ := initO X hx hZ hown w1 w2 w3 eT (g := mkF m pc Ls (.ref a :: St)) rfl (by rw [hml]; exact hsz) rfl (hb hby hd) hf (W := W) (by show 2 * 0 + _ ≤ _; omega) hl
  exact (k T' (K0.same X' e' hZ hown N J Wq)).st st
theorem Cx.grow {T' : State} {h' : Heap} {c' n' : Nat} {s1 : State} {locs : List Loc} (K : Cx p l e R s m args below meth c B ML Z own n0 md T h ws cells slots) (X' : Stand p l e R s1 m args below meth c T' locs c' n') (e' : T'.heap = h') (E : Ext h h') (hlt : h.size < h'.size) (hZ : Z.Warmed39 s1.vm) (hown : s1.vm.findClass own = some m.cls) (N : Fr n0 locs) (J : Jd md Z s s1 h) (Wq : ∀ x ∈ ws, n0 ≤ x ∧ x < h.size ∧ Sf md Z s1 h x) : Cx p l e R s m args below meth c B ML Z own n0 md T' h' (h.size :: ws) c' n' :=
  ⟨K.1, e', Nat.le_trans K.2.2.1 E.1, s1, locs, X', hZ, hown, N, J.ext E, fun x hx => by
    rcases List.mem_cons.mp hx with rfl | hx
    · exact ⟨K.2.2.1, hlt, (Sf.new (Nat.le_refl _)).ext J E⟩
    · obtain ⟨q1, q2, q3⟩ := Wq x hx; exact ⟨q1, Nat.lt_of_lt_of_le q2 E.1, q3.ext J E⟩⟩
theorem gNew (K : Cx p l e R s m args below meth c B ML Z own n0 md T h ws cells slots) {C : String} {index n : Nat} (hd : Dc B pc (.new index) 3 pc') (w : (Cond.classLink own index C).before a0 Z = true) (wi : (Cond.instantiable C n).before a0 Z = true) (wz : (Cond.initialized C).before a0 Z = true) (hc : cells + 1 ≤ R.cells) (hl : slots + n ≤ R.slots)
    (k : ∀ (T' : State) (h' : Heap) (x : Addr), Cx p l e R s m args below meth c B ML Z own n0 md T' h' (x :: ws) (cells + 1) (slots + n) → Ext h h' → x = h.size → Exa Z h' x C → (∀ {O nm d : String} {ty : FieldType}, Laid Z a0 C O nm d → parseFieldDescriptor d = some ty → Fld Z h' x O nm d (defaultValue ty)) → (∀ y ∈ ws, y ≠ x) → Go p e below F T' (mkF m pc' Ls (.ref x :: St))) : Go p e below F T (mkF m pc Ls St) := by
  have K0 := K
  obtain ⟨⟨hx, hby, hml⟩, eT, hn0, s1, locs, X, hZ, hown, N, J, Wq⟩ := K
  obtain ⟨hd, rfl⟩ := hd
  obtain ⟨T', h', X', e', E, A, D, -, st⟩ := newO X hx hZ hown w wi wz eT (g := mkF m pc Ls St) rfl (hb hby hd) hc hl
  exact (k T' h' h.size (K0.grow X' e' E A.lt hZ hown N J Wq) E rfl A D (fun y hy => Nat.ne_of_lt (Wq y hy).2.1)).st st
theorem gNewarr (K : Cx p l e R s m args below meth c B ML Z own n0 md T h ws cells slots) {aty : ArrayType} {n : Int32} (hd : Dc B pc (.newarray aty) 2 pc') (w : (Cond.arrayClass (newarray.typeOf aty)).before a0 Z = true) (hn : ¬ n < 0) (cap : Nat) (hcap : n.toNatClampNeg ≤ cap) (hbb : cap * 8 ≤ 536870912) (hc : cells + 1 ≤ R.cells) (hl : slots + cap ≤ R.slots)
    (k : ∀ (T' : State) (h' : Heap) (x : Addr) (kA : ClassId), Cx p l e R s m args below meth c B ML Z own n0 md T' h' (x :: ws) (cells + 1) (slots + cap) → Ext h h' → x = h.size → Arv Z h' x kA (newarray.typeOf aty) n [] (defaultValue (newarray.typeOf aty)) → (∀ y ∈ ws, y ≠ x) → Go p e below F T' (mkF m pc' Ls (.ref x :: St))) : Go p e below F T (mkF m pc Ls (.int n :: St)) := by
  have K0 := K
  obtain ⟨⟨hx, hby, hml⟩, eT, hn0, s1, locs, X, hZ, hown, N, J, Wq⟩ := K
  obtain ⟨hd, rfl⟩ := hd
  obtain ⟨T', h', cA, X', e', E, A, st⟩ := newP X hx hZ w eT (g := mkF m pc Ls (.int n :: St)) rfl (hb hby hd) rfl hn hcap hbb hc hl
  exact (k T' h' h.size cA (K0.grow X' e' E A.lt hZ hown N J Wq) E rfl (Arv.new A hn) (fun y hy => Nat.ne_of_lt (Wq y hy).2.1)).st st
theorem Cx.wrote {T' : State} {h' : Heap} {s1 : State} {locs : List Loc} {a : Addr} {sl : Nat} {v : Value} (K : Cx p l e R s m args below meth c B ML Z own n0 md T h ws cells slots) (X' : Stand p l e R s1 m args below meth c T' (locs ++ [⟨a, sl⟩]) cells slots) (e' : T'.heap = h') (W : Wr h h' a sl v) (hm : a ∈ ws) (hZ : Z.Warmed39 s1.vm) (hown : s1.vm.findClass own = some m.cls) (N : Fr n0 locs) (J : Jd md Z s s1 h) (Wq : ∀ x ∈ ws, n0 ≤ x ∧ x < h.size ∧ Sf md Z s1 h x) : Cx p l e R s m args below meth c B ML Z own n0 md T' h' ws cells slots :=
  have hs : ∀ x ∈ [a], Sf md Z s1 h x := allS (Wq a hm).2.2 all0
  ⟨K.1, e', by rw [W.size]; exact K.2.2.1, s1, _, X', hZ, hown, Fr.snoc X' N (Wq a hm).1, J.keep (Keep.of_wr W) hs, fun x hx => by
    obtain ⟨q1, q2, q3⟩ := Wq x hx; exact ⟨q1, by rw [W.size]; exact q2, q3.keep J (Keep.of_wr W) hs⟩⟩
theorem gPut (K : Cx p l e R s m args below meth c B ML Z own n0 md T h ws cells slots) {O n d C : String} {index kk : Nat} {ty : FieldType} {a : Addr} {v old : Value} (hd : Dc B pc (.putfield index) 3 pc') (w : (Cond.fieldLink own index O n d).before a0 Z = true) (hm : a ∈ ws) (Fd : Fld Z h a O n d old) (E : Exa Z h a C)
    (L : (Cond.lays C O n d).before a0 Z = true ∨ ((Cond.laysFinal C O n d).before a0 Z = true ∧ own = O ∧ meth.name = "<init>")) (wi : (Cond.instantiable C kk).before a0 Z = true) (hty : parseFieldDescriptor d = some ty) (hn : narrow ty v = v) (hf : fits ty v = true)
    (k : ∀ (T' : State) (h' : Heap), Cx p l e R s m args below meth c B ML Z own n0 md T' h' ws cells slots → Wr h h' a (RoadKit.slotOf Z O n d) v → Fld Z h' a O n d v → Go p e below F T' (mkF m pc' Ls St)) : Go p e below F T (mkF m pc Ls (v :: .ref a :: St)) := by
  have K0 := K
  obtain ⟨⟨hx, hby, hml⟩, eT, hn0, s1, locs, X, hZ, hown, N, J, Wq⟩ := K
  obtain ⟨hd, rfl⟩ := hd
  obtain ⟨T', h', X', e', W, st⟩ := putF X hx hZ hown (host := "") (Or.inl w) Via.refl eT Fd E L wi hty hn hf (g := mkF m pc Ls (v :: .ref a :: St)) rfl rfl (hb hby hd)
  exact (k T' h' (K0.wrote X' e' W hm hZ hown N J Wq) W (Fd.same W)).st st
theorem nar_c {x : Int32} (h0 : ¬ x < 0) (h1 : ¬ (65535 : Int32) < x) : nar .char x = x := by
  have q := rng32 x
  have a0 : 0 ≤ x.toInt := by rw [Int32.lt_iff_toInt_lt] at h0; simpa using h0
  have a1 : x.toInt ≤ 65535 := by rw [Int32.lt_iff_toInt_lt] at h1; have : (65535 : Int32).toInt = 65535 := by decide
                                  omega
  apply Int32.toInt_inj.mp
  show (x.toUInt32.toUInt16.toUInt32.toInt32).toInt = x.toInt
  have := c_i2c x
  omega
theorem getD_push {vs : List Value} {v dv : Value} {i : Nat} (q : ¬ vs.length = i) : (vs ++ [v]).getD i dv = vs.getD i dv := by
  rw [List.getD_eq_getElem?_getD, List.getD_eq_getElem?_getD]
  by_cases e2 : i < vs.length
  · rw [List.getElem?_append_left e2]
  · rw [List.getElem?_eq_none (by simp; omega), List.getElem?_eq_none (by omega)]
theorem getD_last {vs : List Value} {v dv : Value} : (vs ++ [v]).getD vs.length dv = v := by
  rw [List.getD_eq_getElem?_getD]; simp
theorem arv_push {cl : Cell} {a : Addr} {kA : ClassId} {ty : FieldType} {z j : Int32} {vs : List Value} {dv v : Value} {h' : Heap} (A : Arr Z h a cl ty) (q1 : cl.cls = kA) (S : cl.slots.size = z.toNatClampNeg) (q3 : ¬ z < 0) (H : Has cl vs dv) (G : ∀ i, i < cl.slots.size → fits ty (vs.getD i dv) = true) (hv : fits ty v = true) (W : Wr h h' a j.toNatClampNeg v) (hj : j.toNatClampNeg = vs.length) : Arv Z h' a kA ty z (vs ++ [v]) dv := by
  refine ⟨cl.setSlot j.toNatClampNeg v, A.same W, q1, ?_, q3, ?_, ?_⟩
  · rw [← S]; simp [Cell.setSlot]
  · intro i hi
    have hi' : i < cl.slots.size := by simpa [Cell.setSlot] using hi
    have h9 := H i hi'
    simp only [Cell.setSlot]
    rw [hj]
    by_cases e1 : vs.length = i
    · subst e1; rw [getD_last]; simp [hi']
    · rw [Array.getElem?_setIfInBounds_ne e1, h9, getD_push e1]
  · intro i hi
    have hi' : i < cl.slots.size := by simpa [Cell.setSlot] using hi
    by_cases e1 : vs.length = i
    · subst e1; rw [getD_last]; exact hv
    · rw [getD_push e1]; exact G i hi'

/-! ## arrays -/
theorem gCastore (K : Cx p l e R s m args below meth c B ML Z own n0 md T h ws cells slots) {a : Addr} {kA : ClassId} {z j x : Int32} {vs : List Value} {dv : Value} (hd : Dc B pc .castore 1 pc') (hm : a ∈ ws) (A : Arv Z h a kA .char z vs dv) (hj : j.toNatClampNeg = vs.length) (hlt : ¬ j < 0 ∧ j < z) (hx0 : ¬ x < 0) (hx1 : ¬ (65535 : Int32) < x)
    (k : ∀ (T' : State) (h' : Heap), Cx p l e R s m args below meth c B ML Z own n0 md T' h' ws cells slots → Keep h h' [a] → Arv Z h' a kA .char z (vs ++ [.int x]) dv → Go p e below F T' (mkF m pc' Ls St)) : Go p e below F T (mkF m pc Ls (.int x :: .int j :: .ref a :: St)) := by
  have K0 := K
  obtain ⟨⟨hx, hby, hml⟩, eT, hn0, s1, locs, X, hZ, hown, N, J, Wq⟩ := K
  obtain ⟨hd, rfl⟩ := hd
  obtain ⟨cl, A1, A2, A3, A4, A5, A6⟩ := A
  obtain ⟨T', h', X', e', W, st⟩ := stC X hx hZ eT A1 (inb_of A3 hlt) (x := x) (g := mkF m pc Ls (.int x :: .int j :: .ref a :: St)) rfl rfl (hb hby hd)
  rw [nar_c hx0 hx1] at W
  have hf : fits .char (.int x) = true := by rw [← nar_c hx0 hx1]; exact fits_nar_char x
  exact (k T' h' (K0.wrote X' e' W hm hZ hown N J Wq) (Keep.of_wr W) (arv_push A1 A2 A3 A4 A5 A6 hf W hj)).st st
theorem gBastore (K : Cx p l e R s m args below meth c B ML Z own n0 md T h ws cells slots) {a : Addr} {kA : ClassId} {z j x : Int32} {vs : List Value} {dv : Value} (hd : Dc B pc .bastore 1 pc') (hm : a ∈ ws) (A : Arv Z h a kA .byte z vs dv) (hj : j.toNatClampNeg = vs.length) (hlt : ¬ j < 0 ∧ j < z)
    (k : ∀ (T' : State) (h' : Heap), Cx p l e R s m args below meth c B ML Z own n0 md T' h' ws cells slots → Keep h h' [a] → Arv Z h' a kA .byte z (vs ++ [.int (nar .byte x)]) dv → Go p e below F T' (mkF m pc' Ls St)) : Go p e below F T (mkF m pc Ls (.int x :: .int j :: .ref a :: St)) := by
  have K0 := K
  obtain ⟨⟨hx, hby, hml⟩, eT, hn0, s1, locs, X, hZ, hown, N, J, Wq⟩ := K
  obtain ⟨hd, rfl⟩ := hd
  obtain ⟨cl, A1, A2, A3, A4, A5, A6⟩ := A
  obtain ⟨T', h', X', e', W, st⟩ := stB X hx hZ eT A1 (inb_of A3 hlt) (x := x) (g := mkF m pc Ls (.int x :: .int j :: .ref a :: St)) rfl rfl (hb hby hd)
  exact (k T' h' (K0.wrote X' e' W hm hZ hown N J Wq) (Keep.of_wr W) (arv_push A1 A2 A3 A4 A5 A6 (fits_nar_byte x) W hj)).st st
/-- a store at a place below the known list's length -/
theorem gBastoreAt (K : Cx p l e R s m args below meth c B ML Z own n0 md T h ws cells slots) {a : Addr} {kA : ClassId} {z j x : Int32} {vs : List Value} {dv : Value} (hd : Dc B pc .bastore 1 pc') (hm : a ∈ ws) (A : Arv Z h a kA .byte z vs dv) (i : Nat) (hj : j.toNatClampNeg = i) (hi : i < vs.length) (hlt : ¬ j < 0 ∧ j < z)
    (k : ∀ (T' : State) (h' : Heap), Cx p l e R s m args below meth c B ML Z own n0 md T' h' ws cells slots → Keep h h' [a] → Arv Z h' a kA .byte z (vs.set i (.int (nar .byte x))) dv → Go p e below F T' (mkF m pc' Ls St)) : Go p e below F T (mkF m pc Ls (.int x :: .int j :: .ref a :: St)) := by
  have K0 := K
  obtain ⟨⟨hx, hby, hml⟩, eT, hn0, s1, locs, X, hZ, hown, N, J, Wq⟩ := K
  obtain ⟨hd, rfl⟩ := hd
  obtain ⟨cl, A1, A2, A3, A4, A5, A6⟩ := A
  obtain ⟨T', h', X', e', W, st⟩ := stB X hx hZ eT A1 (inb_of A3 hlt) (x := x) (g := mkF m pc Ls (.int x :: .int j :: .ref a :: St)) rfl rfl (hb hby hd)
  exact (k T' h' (K0.wrote X' e' W hm hZ hown N J Wq) (Keep.of_wr W) (Arv.set A1 A2 A3 A4 A5 A6 (fits_nar_byte x) W i hj hi)).st st
theorem gIastoreAt (K : Cx p l e R s m args below meth c B ML Z own n0 md T h ws cells slots) {a : Addr} {kA : ClassId} {z j x : Int32} {vs : List Value} {dv : Value} (hd : Dc B pc .iastore 1 pc') (hm : a ∈ ws) (A : Arv Z h a kA .int z vs dv) (i : Nat) (hj : j.toNatClampNeg = i) (hi : i < vs.length) (hlt : ¬ j < 0 ∧ j < z)
    (k : ∀ (T' : State) (h' : Heap), Cx p l e R s m args below meth c B ML Z own n0 md T' h' ws cells slots → Keep h h' [a] → Arv Z h' a kA .int z (vs.set i (.int x)) dv → Go p e below F T' (mkF m pc' Ls St)) : Go p e below F T (mkF m pc Ls (.int x :: .int j :: .ref a :: St)) := by
  have K0 := K
  obtain ⟨⟨hx, hby, hml⟩, eT, hn0, s1, locs, X, hZ, hown, N, J, Wq⟩ := K
  obtain ⟨hd, rfl⟩ := hd
  obtain ⟨cl, A1, A2, A3, A4, A5, A6⟩ := A
  obtain ⟨T', h', X', e', W, st⟩ := stI X hx hZ eT A1 (inb_of A3 hlt) (x := x) (g := mkF m pc Ls (.int x :: .int j :: .ref a :: St)) rfl rfl (hb hby hd)
  exact (k T' h' (K0.wrote X' e' W hm hZ hown N J Wq) (Keep.of_wr W) (Arv.set A1 A2 A3 A4 A5 A6 rfl W i hj hi)).st st
theorem gCaload (K : Cx p l e R s m args below meth c B ML Z own n0 md T h ws cells slots) {a : Addr} {kA : ClassId} {z j : Int32} {vs : List Value} {dv v : Value} (hd : Dc B pc .caload 1 pc') (A : Arv Z h a kA .char z vs dv) (hlt : ¬ j < 0 ∧ j < z) (hv : vs.getD j.toNatClampNeg dv = v) (r : Go p e below F T (mkF m pc' Ls (v :: St))) : Go p e below F T (mkF m pc Ls (.int j :: .ref a :: St)) := by
  obtain ⟨⟨hx, hby, hml⟩, eT, hn0, s1, locs, X, hZ, hown, N, J, Wq⟩ := K
  obtain ⟨hd, rfl⟩ := hd
  obtain ⟨cl, A1, A2, A3, A4, A5, A6⟩ := A
  exact r.st fun t q => X.caload hx (by rw [eT]; exact A1.1) (State.isArrayOf_alike hZ.alike A1.2.1) A1.2.2 (inb_of A3 hlt) (A5.at (inb_of A3 hlt) hv) (g := mkF m pc Ls (.int j :: .ref a :: St)) rfl rfl (hb hby hd) t q
theorem gBaload (K : Cx p l e R s m args below meth c B ML Z own n0 md T h ws cells slots) {a : Addr} {kA : ClassId} {z j : Int32} {vs : List Value} {dv v : Value} (hd : Dc B pc .baload 1 pc') (A : Arv Z h a kA .byte z vs dv) (hlt : ¬ j < 0 ∧ j < z) (hv : vs.getD j.toNatClampNeg dv = v) (r : Go p e below F T (mkF m pc' Ls (v :: St))) : Go p e below F T (mkF m pc Ls (.int j :: .ref a :: St)) := by
  obtain ⟨⟨hx, hby, hml⟩, eT, hn0, s1, locs, X, hZ, hown, N, J, Wq⟩ := K
  obtain ⟨hd, rfl⟩ := hd
  obtain ⟨cl, A1, A2, A3, A4, A5, A6⟩ := A
  exact r.st fun t q => X.baloadBytes hx (by rw [eT]; exact A1.1) (State.isArrayOf_alike hZ.alike A1.2.1) A1.2.2 (inb_of A3 hlt) (A5.at (inb_of A3 hlt) hv) (g := mkF m pc Ls (.int j :: .ref a :: St)) rfl rfl (hb hby hd) t q
theorem gIaload (K : Cx p l e R s m args below meth c B ML Z own n0 md T h ws cells slots) {a : Addr} {kA : ClassId} {z j : Int32} {vs : List Value} {dv v : Value} (hd : Dc B pc .iaload 1 pc') (A : Arv Z h a kA .int z vs dv) (hlt : ¬ j < 0 ∧ j < z) (hv : vs.getD j.toNatClampNeg dv = v) (r : Go p e below F T (mkF m pc' Ls (v :: St))) : Go p e below F T (mkF m pc Ls (.int j :: .ref a :: St)) := by
  obtain ⟨⟨hx, hby, hml⟩, eT, hn0, s1, locs, X, hZ, hown, N, J, Wq⟩ := K
  obtain ⟨hd, rfl⟩ := hd
  obtain ⟨cl, A1, A2, A3, A4, A5, A6⟩ := A
  exact r.st fun t q => X.iaload hx (by rw [eT]; exact A1.1) (State.isArrayOf_alike hZ.alike A1.2.1) A1.2.2 (inb_of A3 hlt) (A5.at (inb_of A3 hlt) hv) (g := mkF m pc Ls (.int j :: .ref a :: St)) rfl rfl (hb hby hd) t q
theorem gAaload (K : Cx p l e R s m args below meth c B ML Z own n0 md T h ws cells slots) {a : Addr} {kA : ClassId} {z j : Int32} {vs : List Value} {dv v : Value} {ty : FieldType} (hd : Dc B pc .aaload 1 pc') (A : Arv Z h a kA ty z vs dv) (hty : ty.isReference = true) (hlt : ¬ j < 0 ∧ j < z) (hv : vs.getD j.toNatClampNeg dv = v) (r : Go p e below F T (mkF m pc' Ls (v :: St))) : Go p e below F T (mkF m pc Ls (.int j :: .ref a :: St)) := by
  obtain ⟨⟨hx, hby, hml⟩, eT, hn0, s1, locs, X, hZ, hown, N, J, Wq⟩ := K
  obtain ⟨hd, rfl⟩ := hd
  obtain ⟨cl, A1, A2, A3, A4, A5, A6⟩ := A
  exact r.st fun t q => X.aaload hx (by rw [eT]; exact A1.1) (State.isArrayOf_alike hZ.alike A1.2.1) hty A1.2.2 (inb_of A3 hlt) (A5.at (inb_of A3 hlt) hv) (g := mkF m pc Ls (.int j :: .ref a :: St)) rfl rfl (hb hby hd) t q
theorem gLen (K : Cx p l e R s m args below meth c B ML Z own n0 md T h ws cells slots) {a : Addr} {kA : ClassId} {z : Int32} {vs : List Value} {dv : Value} {ty : FieldType} (hd : Dc B pc .arraylength 1 pc') (A : Arv Z h a kA ty z vs dv) (r : Go p e below F T (mkF m pc' Ls (.int z :: St))) : Go p e below F T (mkF m pc Ls (.ref a :: St)) := by
  obtain ⟨⟨hx, hby, hml⟩, eT, hn0, s1, locs, X, hZ, hown, N, J, Wq⟩ := K
  obtain ⟨hd, rfl⟩ := hd
  obtain ⟨cl, A1, A2, A3, A4, A5, A6⟩ := A
  exact r.st fun t q => X.arraylength hx (by rw [eT]; exact A1.1) (State.isArrayOf_alike hZ.alike A1.2.1) (g := mkF m pc Ls (.ref a :: St)) rfl rfl (hb hby hd) t (by rw [len_of A3 A4]; exact q)
/-! ## calls -/
abbrev PreC (R : Room) (h : Heap) (as' : Array Value) (kc ks : Nat) : Pt → Array Value → Prop := fun A a => a = as' ∧ A.U.heap = h ∧ A.cells + kc ≤ R.cells ∧ A.slots + ks ≤ R.slots
abbrev PostC (Q : Option Value → Heap → List Loc → Prop) (kc ks : Nat) : Pt → Array Value → Option Value → Pt → Prop := fun A _ v B => ∃ L, Q v B.U.heap L ∧ B.locs = A.locs ++ L ∧ B.cells = A.cells + kc ∧ B.slots = A.slots + ks
def Cal (md : Option EList) (l : Launch) (R : Room) (p : Program) (e : Env) (below : List Frame) (args : Array Value) (y : MethodName) (len W : Nat) (Z : State) (n0 : Nat) (h : Heap) (wsC : List Addr) (as' : Array Value) (kc ks : Nat) (QQ : Option Value → Heap → Prop) : Prop := match md with
  | none => ∀ s' : State, Z.Warmed39 s'.vm → Back l R p e below s' args y len W (PreC R h as' kc ks) (PostC (fun v h' L => QQ v h' ∧ Keep h h' wsC ∧ Fr n0 L) kc ks)
  | some EL => ∀ (s : State) (vm0 : Vm) (a0 : Array Value), Z.Warmed39 vm0 → EW Z a0 EL → CHv Z EL vm0 h → (∀ x ∈ wsC, x < h.size ∧ Safe Z EL vm0 h x) →
      BackS l R p e below (s.setVm vm0) args y len W (PreC R h as' kc ks) (fun A a v B => PostC (fun v h' L => QQ v h' ∧ Keep h h' wsC ∧ Fr n0 L) kc ks A a v B ∧ CHr Z EL vm0 h B.U.vm B.U.heap)
theorem Cal.ofBack {y : MethodName} {len W kc ks : Nat} {wsC : List Addr} {as' : Array Value} {Q : Option Value → Heap → List Loc → Prop} {QQ : Option Value → Heap → Prop}
    (hB : ∀ s' : State, Z.Warmed39 s'.vm → Back l R p e below s' args y len W (PreC R h as' kc ks) (PostC Q kc ks)) (hQ : ∀ v h' L, Q v h' L → QQ v h' ∧ Keep h h' wsC ∧ Fr n0 L) : Cal md l R p e below args y len W Z n0 h wsC as' kc ks QQ := by
  cases md with
  | none =>
    intro s' hZ m meth c A g ig mk a X hg hsize hdg hW hn hp
    obtain ⟨v, B, X', ⟨L, q, b⟩, st⟩ := hB s' hZ m meth c A g ig mk a X hg hsize hdg hW hn hp
    exact ⟨v, B, X', ⟨L, hQ _ _ _ q, b⟩, st⟩
  | some EL =>
    intro s vm0 a0 hZ hE H hs m meth c A g ig mk a X hg hsize hdg hW hn hp
    obtain ⟨v, B, X', ⟨L, q, b⟩, st⟩ := hB (s.setVm vm0) hZ m meth c A g ig mk a X hg hsize hdg hW hn hp
    obtain ⟨q1, q2, q3⟩ := hQ _ _ _ q
    have C1 := CHr.keep q2 (fun x hx => (hs x hx).2) H
    exact ⟨v, B, X'.retabled X'.warmed.wide, X'.warmed.since _, by rw [hp.2.1]; exact q2.1, ⟨⟨L, ⟨q1, q2, q3⟩, b⟩, C1.trans (CHv.at X' hZ hE C1.1)⟩, st⟩
/-- a contract: what a body does from the heap h0, writing at most into ws and into what it makes -/
def ConN (l : Launch) (y : MethodName) (bytes : ByteArray) (maxL : Nat) (ret : Option FieldType) (wl : List Cond) (rm : Room) (Z : State) (n0 : Nat) (h0 : Heap) (ws : List Addr) (as' : Array Value) (QQ : Option Value → Heap → Prop) : Prop :=
  MetFree l y (head1 (Cond.code y bytes maxL ret :: wl) rm) (fun a U => a = as' ∧ Z.Warmed39 U.vm ∧ U.heap = h0) (fun _ _ _ _ _ => True) (fun _ U o U' => ∃ v L, o = .returned v ∧ (QQ v U'.heap ∧ Keep h0 U'.heap ws ∧ Fr n0 L) ∧ FrameEnd U o U' L rm.cells rm.slots)
def ConW (EL : EList) (l : Launch) (y : MethodName) (bytes : ByteArray) (maxL : Nat) (ret : Option FieldType) (wl : List Cond) (rm : Room) (Z : State) (n0 : Nat) (h0 : Heap) (ws : List Addr) (as' : Array Value) (QQ : Option Value → Heap → Prop) : Prop :=
  MetFree l y (head1 (Cond.code y bytes maxL ret :: wl) rm) (fun a U => a = as' ∧ Z.Warmed39 U.vm ∧ U.heap = h0 ∧ CHv Z EL U.vm h0 ∧ ∀ x ∈ ws, Safe Z EL U.vm h0 x) (fun _ _ _ _ _ => True) (fun _ U o U' => ∃ v L, o = .returned v ∧ (QQ v U'.heap ∧ Keep h0 U'.heap ws ∧ Fr n0 L) ∧ CHr Z EL U.vm U.heap U'.vm U'.heap ∧ ReturnedEndW U o U' L rm.cells rm.slots)
def Con (md : Option EList) (l : Launch) (y : MethodName) (bytes : ByteArray) (maxL : Nat) (ret : Option FieldType) (wl : List Cond) (rm : Room) (Z : State) (n0 : Nat) (h0 : Heap) (ws : List Addr) (as' : Array Value) (QQ : Option Value → Heap → Prop) : Prop := match md with
  | none => ConN l y bytes maxL ret wl rm Z n0 h0 ws as' QQ
  | some EL => ConW EL l y bytes maxL ret wl rm Z n0 h0 ws as' QQ
theorem Con.asN {y : MethodName} {bytes : ByteArray} {maxL : Nat} {ret : Option FieldType} {wl : List Cond} {rm : Room} {as' : Array Value} {QQ : Option Value → Heap → Prop} (C : Con none l y bytes maxL ret wl rm Z n0 h ws as' QQ) :
    MetFree l y (head1 (Cond.code y bytes maxL ret :: wl) rm) (fun a U => a = as' ∧ Z.Warmed39 U.vm ∧ U.heap = h) (fun _ _ _ _ _ => True) (fun _ U o U' => ∃ v L, o = .returned v ∧ (QQ v U'.heap ∧ Keep h U'.heap ws ∧ Fr n0 L) ∧ FrameEnd U o U' L rm.cells rm.slots) := C
theorem Con.asW {EL : EList} {y : MethodName} {bytes : ByteArray} {maxL : Nat} {ret : Option FieldType} {wl : List Cond} {rm : Room} {as' : Array Value} {QQ : Option Value → Heap → Prop} (C : Con (some EL) l y bytes maxL ret wl rm Z n0 h ws as' QQ) :
    MetFree l y (head1 (Cond.code y bytes maxL ret :: wl) rm) (fun a U => a = as' ∧ Z.Warmed39 U.vm ∧ U.heap = h ∧ CHv Z EL U.vm h ∧ ∀ x ∈ ws, Safe Z EL U.vm h x) (fun _ _ _ _ _ => True) (fun _ U o U' => ∃ v L, o = .returned v ∧ (QQ v U'.heap ∧ Keep h U'.heap ws ∧ Fr n0 L) ∧ CHr Z EL U.vm U.heap U'.vm U'.heap ∧ ReturnedEndW U o U' L rm.cells rm.slots) := C
theorem Cal.ofN {y : MethodName} {bytes : ByteArray} {maxL : Nat} {ret : Option FieldType} {rm : Room} {len W : Nat} {wsC : List Addr} {as' : Array Value} {QQ : Option Value → Heap → Prop} (hM : Con none l y bytes maxL ret [] rm Z n0 h wsC as' QQ) (wc : (Cond.code y bytes maxL ret).before a0 Z = true) (wz : (Cond.initialized y.cls).before a0 Z = true) (hf : rm.frames + 1 ≤ R.frames) (hl : W + (maxL + 11) + rm.locals ≤ R.locals) :
    Cal md l R p e below args y len W Z n0 h wsC as' rm.cells rm.slots QQ :=
  Cal.ofBack (fun s' hZ => backOf (Q := fun v h' L => QQ v h' ∧ Keep h h' wsC ∧ Fr n0 L) hM.asN hZ wc wz hf hl) (fun _ _ _ q => q)
theorem Cal.ofW {EL : EList} {y : MethodName} {bytes : ByteArray} {maxL : Nat} {ret : Option FieldType} {rm : Room} {len W : Nat} {wsC : List Addr} {as' : Array Value} {QQ : Option Value → Heap → Prop} (hM : Con (some EL) l y bytes maxL ret [] rm Z n0 h wsC as' QQ) (wc : (Cond.code y bytes maxL ret).before a0 Z = true) (wz : (Cond.initialized y.cls).before a0 Z = true) (hf : rm.frames + 1 ≤ R.frames) (hl : W + (maxL + 11) + rm.locals ≤ R.locals) :
    Cal (some EL) l R p e below args y len W Z n0 h wsC as' rm.cells rm.slots QQ := fun s vm0 a1 hZ hEL H hs =>
  BackS.of_freeW (bytes := bytes) (maxL := maxL) (ret := ret) (E := fun _ first o t L k n => k = rm.cells ∧ n = rm.slots ∧ (∃ v, o = .returned v ∧ QQ v t.heap ∧ Keep h t.heap wsC ∧ Fr n0 L) ∧ CHr Z EL first.vm first.heap t.vm t.heap) hM.asW hf hl
    (fun m meth c A a Y hp => have hU : Z.Warmed39 A.U.vm := wtrans (s := s.setVm vm0) hZ Y.warmed
      ⟨by show (Cond.and _ .tt).before a A.U = true; rw [Cond.before_and, mv hU wc]; rfl, mv hU wc, mv hU wz, hp.2.2.1, hp.2.2.2⟩)
    (fun m meth c A a g mk Y hp => ⟨hp.1, wtrans (s := s.setVm vm0) hZ Y.warmed, hp.2.1, (CHv.at Y hZ hEL H).1, fun x hx => (CHv.at Y hZ hEL H).safe (hs x hx).1 (hs x hx).2⟩) (fun _ _ _ _ _ _ _ _ _ => trivial)
    (fun _ _ _ _ ⟨v, L, h1, h2, h3, h4⟩ => ⟨L, _, _, h4, rfl, rfl, ⟨v, h1, h2⟩, h3⟩)
    (fun m meth c A a g mk v t L k n Y hp _ _ ⟨e1, e2, ⟨v', e3, e4⟩, e5⟩ => by
      cases e3; subst e1 e2
      refine ⟨⟨L, e4, rfl, rfl, rfl⟩, (CHv.at Y hZ hEL H).trans ?_⟩
      rw [← hp.2.1]; exact e5)
/-- behind a call in the narrow family -/
theorem Cx.backN {s1 : State} {locs : List Loc} {Bp : Pt} {L : List Loc} {wsC : List Addr} {kc ks : Nat} (K : Cx p l e R s m args below meth c B ML Z own n0 none T h ws cells slots) (X' : Stand p l e R s1 m args below meth c Bp.U Bp.locs Bp.cells Bp.slots) (hZ : Z.Warmed39 s1.vm) (hown : s1.vm.findClass own = some m.cls) (N : Fr n0 locs) (J : Jd none Z s s1 h) (Wq : ∀ x ∈ ws, n0 ≤ x ∧ x < h.size ∧ Sf none Z s1 h x) (Kp : Keep h Bp.U.heap wsC) (NL : Fr n0 L) (b1 : Bp.locs = locs ++ L) (b2 : Bp.cells = cells + kc) (b3 : Bp.slots = slots + ks) : Cx p l e R s m args below meth c B ML Z own n0 none Bp.U Bp.U.heap ws (cells + kc) (slots + ks) := by
  obtain ⟨U, lo, ce, sl⟩ := Bp
  dsimp only [Pt.U, Pt.locs, Pt.cells, Pt.slots] at *
  subst b1 b2 b3
  exact ⟨K.1, rfl, Nat.le_trans K.2.2.1 Kp.1, s1, _, X', hZ, hown, Fr.app N NL, J, fun x hx => ⟨(Wq x hx).1, Nat.lt_of_lt_of_le (Wq x hx).2.1 Kp.1, trivial⟩⟩
/-- behind a call in the wide family -/
theorem Cx.backW {EL : EList} {vm0 : Vm} {k0 : Nat} {locs : List Loc} {Bp : Pt} {L : List Loc} {wsC : List Addr} {kc ks : Nat} {a1 : Array Value} (K : Cx p l e R s m args below meth c B ML Z own n0 (some EL) T h ws cells slots) (X' : Stand p l e R ((s.setVm vm0).setVm Bp.U.vm) m args below meth c Bp.U Bp.locs Bp.cells Bp.slots) (hZ : Z.Warmed39 vm0) (hown : vm0.findClass own = some m.cls) (N : Fr n0 locs) (hS : s.Since vm0 k0) (hk : k0 ≤ h.size) (hC : CHr Z EL s.vm s.heap vm0 h) (hE : EW Z a1 EL) (Wq : ∀ x ∈ ws, n0 ≤ x ∧ x < h.size ∧ Safe Z EL vm0 h x) (hS2 : (s.setVm vm0).Since Bp.U.vm Bp.U.heap.size) (Kp : Keep h Bp.U.heap wsC) (NL : Fr n0 L) (b1 : Bp.locs = locs ++ L) (b2 : Bp.cells = cells + kc) (b3 : Bp.slots = slots + ks) (C2 : CHr Z EL vm0 h Bp.U.vm Bp.U.heap) : Cx p l e R s m args below meth c B ML Z own n0 (some EL) Bp.U Bp.U.heap ws (cells + kc) (slots + ks) := by
  obtain ⟨U, lo, ce, sl⟩ := Bp
  dsimp only [Pt.U, Pt.locs, Pt.cells, Pt.slots] at *
  subst b1 b2 b3
  refine ⟨K.1, rfl, Nat.le_trans K.2.2.1 Kp.1, s.setVm U.vm, _, X', State.Warmed39.trans (t := s.setVm vm0) hZ hS2.1, ?_, Fr.app N NL, ⟨U.vm, U.heap.size, a1, rfl, hS.trans hS2 (Nat.le_trans hk Kp.1), Nat.le_refl _, hC.trans C2, hE⟩, fun x hx => ⟨(Wq x hx).1, Nat.lt_of_lt_of_le (Wq x hx).2.1 Kp.1, C2.safe (Wq x hx).2.1 (Wq x hx).2.2⟩⟩
  show U.vm.findClass own = _
  rw [hS2.1.alike.findClass]; exact hown
theorem gCallS (K : Cx p l e R s m args below meth c B ML Z own n0 md T h ws cells slots) {index : Nat} {y : MethodName} {bytes : ByteArray} {maxL : Nat} {ret : Option FieldType} {wsC : List Addr} {kc ks W : Nat} {QQ : Option Value → Heap → Prop} (argsL rest : List Value)
    (hd : Dc B pc (.invokestatic index) 3 pc') (w1 : (Cond.methodLink own index y).before a0 Z = true) (w2 : (Cond.static y).before a0 Z = true) (w3 : (Cond.initialized y.cls).before a0 Z = true) (w4 : (Cond.code y bytes maxL ret).before a0 Z = true)
    (hC : Cal md l R p e below args y 3 W Z n0 h wsC argsL.toArray kc ks QQ) (hws : ∀ x ∈ wsC, x ∈ ws) {ps : List FieldType} {rt : Option FieldType} (hpd : parseMethodDescriptor y.desc = some ⟨ps, rt⟩) (hpl : argsL.length = ps.length) (hst : St = argsL.reverse ++ rest) (hW : (rest.map fun v => v.category).sum ≤ W) (hsz : Ls.size = ML) (hc : cells + kc ≤ R.cells) (hs : slots + ks ≤ R.slots) (hy : y.cls ≠ "java/lang/invoke/MethodHandle" ∧ y.cls ≠ "java/lang/invoke/VarHandle")
    (k : ∀ (v : Option Value) (T' : State) (h' : Heap), Cx p l e R s m args below meth c B ML Z own n0 md T' h' ws (cells + kc) (slots + ks) → Keep h h' wsC → QQ v h' → Go p e below F T' (mkF m pc' Ls (v.toList ++ rest))) : Go p e below F T (mkF m pc Ls St) := by
  have K0 := K
  obtain ⟨⟨hx, hby, hml⟩, eT, hn0, s1, locs, X, hZ, hown, N, J, Wq⟩ := K
  obtain ⟨hd, rfl⟩ := hd
  cases md with
  | none =>
    obtain ⟨v, vm1, Bp, -, X', ⟨L, ⟨q1, q2, q3⟩, b1, b2, b3⟩, st⟩ := Jvm.LawKit.callS X hx hown (mvT hZ w1) (mvT hZ w2) (mvT hZ w3) (mvT hZ w4) hy (hC s1 hZ) (g := mkF m pc Ls St) rfl (by rw [hml]; exact hsz) (lenOf hpd hpl) hst (by show 2 * 0 + _ ≤ _; omega) (hb hby hd) (fun _ _ => ⟨rfl, eT, hc, hs⟩)
    exact (k v Bp.U Bp.U.heap (K0.backN X' hZ hown N J Wq q2 q3 b1 b2 b3) q2 q1).st st
  | some EL =>
    obtain ⟨vm0, k0, a1, rfl, j2, j3, j4, j5⟩ := J
    obtain ⟨v, vm1, Bp, -, X', S2, -, ⟨⟨L, ⟨q1, q2, q3⟩, b1, b2, b3⟩, C2⟩, st⟩ := callSS X hx hown (mvT hZ w1) (mvT hZ w2) (mvT hZ w3) (mvT hZ w4) hy (hC s vm0 a1 hZ j5 j4.1 (fun x hx => (Wq x (hws x hx)).2)) (g := mkF m pc Ls St) rfl (by rw [hml]; exact hsz) (lenOf hpd hpl) hst (by show 2 * 0 + _ ≤ _; omega) (hb hby hd) (fun _ _ => ⟨rfl, eT, hc, hs⟩)
    exact (k v Bp.U Bp.U.heap (K0.backW X' hZ hown N j2 j3 j4 j5 Wq S2 q2 q3 b1 b2 b3 C2) q2 q1).tr st
theorem gCallI (K : Cx p l e R s m args below meth c B ML Z own n0 md T h ws cells slots) {index : Nat} {y : MethodName} {bytes : ByteArray} {maxL : Nat} {wsC : List Addr} {kc ks W : Nat} {QQ : Option Value → Heap → Prop} (a : Addr) (argsL rest : List Value)
    (hd : Dc B pc (.invokespecial index) 3 pc') (hy1 : y.name = "<init>") (w1 : (Cond.methodLink own index y).before a0 Z = true) (w2 : (Cond.instanceMethod y).before a0 Z = true) (w4 : (Cond.code y bytes maxL none).before a0 Z = true)
    (hC : Cal md l R p e below args y 3 W Z n0 h wsC (.ref a :: argsL).toArray kc ks QQ) (hws : ∀ x ∈ wsC, x ∈ ws) {ps : List FieldType} {rt : Option FieldType} (hpd : parseMethodDescriptor y.desc = some ⟨ps, rt⟩) (hpl : argsL.length = ps.length) (hst : St = argsL.reverse ++ .ref a :: rest) (hW : (rest.map fun v => v.category).sum ≤ W) (hsz : Ls.size = ML) (hc : cells + kc ≤ R.cells) (hs : slots + ks ≤ R.slots) (hy : y.cls ≠ "java/lang/invoke/MethodHandle" ∧ y.cls ≠ "java/lang/invoke/VarHandle")
    (k : ∀ (v : Option Value) (T' : State) (h' : Heap), Cx p l e R s m args below meth c B ML Z own n0 md T' h' ws (cells + kc) (slots + ks) → Keep h h' wsC → QQ v h' → Go p e below F T' (mkF m pc' Ls (v.toList ++ rest))) : Go p e below F T (mkF m pc Ls St) := by
  have K0 := K
  obtain ⟨⟨hx, hby, hml⟩, eT, hn0, s1, locs, X, hZ, hown, N, J, Wq⟩ := K
  obtain ⟨hd, rfl⟩ := hd
  cases md with
  | none =>
    obtain ⟨v, vm1, Bp, -, X', ⟨L, ⟨q1, q2, q3⟩, b1, b2, b3⟩, st⟩ := X.specialBack hx hy1 hown (mvT hZ w1) (mvT hZ w2) (mvT hZ w4) hy (hC s1 hZ) (g := mkF m pc Ls St) rfl (by rw [hml]; exact hsz) (Steps.refl _) (lenOf hpd hpl) hst (by show 2 * 0 + _ ≤ _; omega) (hb hby hd) (fun _ _ => ⟨rfl, eT, hc, hs⟩)
    exact (k v Bp.U Bp.U.heap (K0.backN X' hZ hown N J Wq q2 q3 b1 b2 b3) q2 q1).tr st
  | some EL =>
    obtain ⟨vm0, k0, a1, rfl, j2, j3, j4, j5⟩ := J
    obtain ⟨v, vm1, Bp, -, X', S2, -, ⟨⟨L, ⟨q1, q2, q3⟩, b1, b2, b3⟩, C2⟩, st⟩ := X.specialBackS hx hy1 hown (mvT hZ w1) (mvT hZ w2) (mvT hZ w4) hy (hC s vm0 a1 hZ j5 j4.1 (fun x hx => (Wq x (hws x hx)).2)) (g := mkF m pc Ls St) rfl (by rw [hml]; exact hsz) (Steps.refl _) (lenOf hpd hpl) hst (by show 2 * 0 + _ ≤ _; omega) (hb hby hd) (fun _ _ => ⟨rfl, eT, hc, hs⟩)
    exact (k v Bp.U Bp.U.heap (K0.backW X' hZ hown N j2 j3 j4 j5 Wq S2 q2 q3 b1 b2 b3 C2) q2 q1).tr st
theorem gCallV (K : Cx p l e R s m args below meth c B ML Z own n0 md T h ws cells slots) {index : Nat} {C : String} {y : MethodName} {wsC : List Addr} {kc ks W : Nat} {QQ : Option Value → Heap → Prop} (a : Addr) (argsL rest : List Value)
    (hd : Dc B pc (.invokevirtual index) 3 pc') (w1 : (Cond.methodLink own index y).before a0 Z = true) (w2 : (Cond.declares y).before a0 Z = true) (w3 : (Cond.selects C y y).before a0 Z = true) (w4 : (Cond.instanceMethod y).before a0 Z = true)
    (hC : Cal md l R p e below args y 3 W Z n0 h wsC (.ref a :: argsL).toArray kc ks QQ) (E : Exa Z h a C) (hws : ∀ x ∈ wsC, x ∈ ws) {ps : List FieldType} {rt : Option FieldType} (hpd : parseMethodDescriptor y.desc = some ⟨ps, rt⟩) (hpl : argsL.length = ps.length) (hst : St = argsL.reverse ++ .ref a :: rest) (hW : (rest.map fun v => v.category).sum ≤ W) (hsz : Ls.size = ML) (hc : cells + kc ≤ R.cells) (hs : slots + ks ≤ R.slots) (hy : y.cls ≠ "java/lang/invoke/MethodHandle" ∧ y.cls ≠ "java/lang/invoke/VarHandle")
    (k : ∀ (v : Option Value) (T' : State) (h' : Heap), Cx p l e R s m args below meth c B ML Z own n0 md T' h' ws (cells + kc) (slots + ks) → Keep h h' wsC → QQ v h' → Go p e below F T' (mkF m pc' Ls (v.toList ++ rest))) : Go p e below F T (mkF m pc Ls St) := by
  have K0 := K
  obtain ⟨⟨hx, hby, hml⟩, eT, hn0, s1, locs, X, hZ, hown, N, J, Wq⟩ := K
  obtain ⟨hd, rfl⟩ := hd
  obtain ⟨cq, kq, qa, -, qc⟩ := isOf hZ eT E
  cases md with
  | none =>
    obtain ⟨v, vm1, Bp, -, X', ⟨L, ⟨q1, q2, q3⟩, b1, b2, b3⟩, st⟩ := X.virtualBack hx hown (mvT hZ w1) (mvT hZ w2) (notFace_of_selects (args := #[]) (mvT hZ w3)) (mvT hZ w3) (mvT hZ w4) hy (hC s1 hZ) qa qc (g := mkF m pc Ls St) rfl (by rw [hml]; exact hsz) (Steps.refl _) (lenOf hpd hpl) hst (by show 2 * 0 + _ ≤ _; omega) (hb hby hd) (fun _ _ => ⟨rfl, eT, hc, hs⟩)
    exact (k v Bp.U Bp.U.heap (K0.backN X' hZ hown N J Wq q2 q3 b1 b2 b3) q2 q1).tr st
  | some EL =>
    obtain ⟨vm0, k0, a1, rfl, j2, j3, j4, j5⟩ := J
    obtain ⟨v, vm1, Bp, -, X', S2, -, ⟨⟨L, ⟨q1, q2, q3⟩, b1, b2, b3⟩, C2⟩, st⟩ := X.virtualBackS hx hown (mvT hZ w1) (mvT hZ w2) (notFace_of_selects (args := #[]) (mvT hZ w3)) (mvT hZ w3) (mvT hZ w4) hy (hC s vm0 a1 hZ j5 j4.1 (fun x hx => (Wq x (hws x hx)).2)) qa qc (g := mkF m pc Ls St) rfl (by rw [hml]; exact hsz) (Steps.refl _) (lenOf hpd hpl) hst (by show 2 * 0 + _ ≤ _; omega) (hb hby hd) (fun _ _ => ⟨rfl, eT, hc, hs⟩)
    exact (k v Bp.U Bp.U.heap (K0.backW X' hZ hown N j2 j3 j4 j5 Wq S2 q2 q3 b1 b2 b3 C2) q2 q1).tr st
/-! ## the end, the entry -/
def End (md : Option EList) (s Z : State) (n0 : Nat) (h0 : Heap) (ws : List Addr) (kc ks : Nat) (QQ : Option Value → Heap → Prop) : Outcome → State → Prop := match md with
  | none => fun o t => ∃ v L, o = .returned v ∧ (QQ v t.heap ∧ Keep h0 t.heap ws ∧ Fr n0 L) ∧ FrameEnd s o t L kc ks
  | some EL => fun o t => ∃ v L, o = .returned v ∧ (QQ v t.heap ∧ Keep h0 t.heap ws ∧ Fr n0 L) ∧ CHr Z EL s.vm s.heap t.vm t.heap ∧ ReturnedEndW s o t L kc ks
theorem sbn_mono {s t : State} {L : List Loc} {k n k' n' : Nat} (h : s.sameButNew t L k n) (a : k ≤ k') (b : n ≤ n') : s.sameButNew t L k' n' := h.mono a b
theorem gEnd {g : JFrame} {h0 : Heap} {wsA : List Addr} {kc ks : Nat} {QQ : Option Value → Heap → Prop} {v : Option Value} (K : Cx p l e R s m args below meth c B ML Z own n0 md T h ws cells slots) (hlk : meth.locks = false) (hv : meth.sig.returnType = none → v = none)
    (st : ∀ {s1 : State} {locs : List Loc} {fs : List Frame}, Stand p l e R s1 m args below meth c T locs cells slots → (∀ (f : JFrame) (acts : List Action), f.method = m → f.locked = none → f.entered = [] → (doReturn e (T.setTop f) acts v).1 = T.setFrames fs) → Steps p.tables e below (T.setTop g) (T.setFrames fs))
    (Kp : Keep h0 h wsA) (hc : cells ≤ kc) (hs : slots ≤ ks) (hq : QQ v h) : Go p e below (End md s Z n0 h0 wsA kc ks QQ) T g := by
  obtain ⟨⟨hx, hby, hml⟩, eT, hn0, s1, locs, X, hZ, hown, N, J, Wq⟩ := K
  subst eT
  cases md with
  | none =>
    cases J
    obtain ⟨fs, hr, hrun, hended, hW, hsame⟩ := X.leave (v := v) hv hlk
    exact ⟨_, _, st X hr, hrun, hended, v, locs, rfl, ⟨hq, Kp, N⟩, ⟨_, rfl⟩, hW, sbn_mono hsame hc hs⟩
  | some EL =>
    obtain ⟨vm0, k0, a1, rfl, j2, j3, j4, j5⟩ := J
    obtain ⟨fs, hr, hrun, hended, hW⟩ := X.leaveW j2 j3 (v := v) hv hlk
    refine ⟨_, _, st X hr, hrun, hended, v, locs, rfl, ⟨hq, Kp, N⟩, (show CHr Z EL s.vm s.heap T.vm T.heap from j4.trans (CHv.at X hZ j5 j4.1)), ?_⟩
    obtain ⟨w1, w2, w3, w4⟩ := hW
    exact ⟨w1, w2, w3, sbn_mono w4 hc hs⟩
theorem Cal.mono {y : MethodName} {len W kc ks kc' ks' : Nat} {wsC : List Addr} {as' : Array Value} {QQ QQ' : Option Value → Heap → Prop} (C : Cal md l R p e below args y len W Z n0 h wsC as' kc ks QQ) (h1 : kc ≤ kc') (h2 : ks ≤ ks') (hq : ∀ v h', QQ v h' → QQ' v h') : Cal md l R p e below args y len W Z n0 h wsC as' kc' ks' QQ' := by
  cases md with
  | none =>
    intro s' hZ m meth c A g ig mk a X hg hsize hdg hW hn hp
    obtain ⟨v, ⟨U, lo, ce, sl⟩, X', ⟨L, ⟨q1, q2, q3⟩, b1, b2, b3⟩, st⟩ := C s' hZ m meth c A g ig mk a X hg hsize hdg hW hn ⟨hp.1, hp.2.1, by have := hp.2.2.1; omega, by have := hp.2.2.2; omega⟩
    dsimp only [Pt.U, Pt.locs, Pt.cells, Pt.slots] at *
    exact ⟨v, ⟨U, lo, A.cells + kc', A.slots + ks'⟩, X'.mono (by rw [b2]; exact Nat.add_le_add_left h1 _) (by rw [b3]; exact Nat.add_le_add_left h2 _), ⟨L, ⟨hq _ _ q1, q2, q3⟩, b1, rfl, rfl⟩, st⟩
  | some EL =>
    intro s vm0 a0 hZ hE H hs m meth c A g ig mk a X hg hsize hdg hW hn hp
    obtain ⟨v, ⟨U, lo, ce, sl⟩, X', S2, gr, ⟨⟨L, ⟨q1, q2, q3⟩, b1, b2, b3⟩, C2⟩, st⟩ := C s vm0 a0 hZ hE H hs m meth c A g ig mk a X hg hsize hdg hW hn ⟨hp.1, hp.2.1, by have := hp.2.2.1; omega, by have := hp.2.2.2; omega⟩
    dsimp only [Pt.U, Pt.locs, Pt.cells, Pt.slots] at *
    exact ⟨v, ⟨U, lo, A.cells + kc', A.slots + ks'⟩, X'.mono (by rw [b2]; exact Nat.add_le_add_left h1 _) (by rw [b3]; exact Nat.add_le_add_left h2 _), S2, gr, ⟨⟨L, ⟨hq _ _ q1, q2, q3⟩, b1, rfl, rfl⟩, C2⟩, st⟩

theorem gRetI {h0 : Heap} {wsA : List Addr} {kc ks : Nat} {QQ : Option Value → Heap → Prop} {t : FieldType} {z : Int32} (K : Cx p l e R s m args below meth c B ML Z own n0 md T h ws cells slots) (hlk : meth.locks = false) (hret : meth.sig.returnType = some t) (ht : t = .int ∨ t = .boolean ∨ t = .byte ∨ t = .char ∨ t = .short) (hd : Dc B pc .ireturn 1 pc') (hn : narrow t (.int z) = .int z) (Kp : Keep h0 h wsA) (hc : cells ≤ kc) (hs : slots ≤ ks) (hq : QQ (some (.int z)) h) : Go p e below (End md s Z n0 h0 wsA kc ks QQ) T (mkF m pc Ls (.int z :: St)) :=
  gEnd K hlk (fun q => by rw [hret] at q; cases q) (fun X hr => retOut X K.1.1 hret hn (Or.inl ⟨rfl, ht, _, rfl⟩) (hb K.1.2.1 hd.1) hr) Kp hc hs hq
theorem gRetA {h0 : Heap} {wsA : List Addr} {kc ks : Nat} {QQ : Option Value → Heap → Prop} {t : FieldType} {w : Value} (K : Cx p l e R s m args below meth c B ML Z own n0 md T h ws cells slots) (hlk : meth.locks = false) (hret : meth.sig.returnType = some t) (ht : t.isReference = true) (hw : w.isRef = true) (hd : Dc B pc .areturn 1 pc') (Kp : Keep h0 h wsA) (hc : cells ≤ kc) (hs : slots ≤ ks) (hq : QQ (some w) h) : Go p e below (End md s Z n0 h0 wsA kc ks QQ) T (mkF m pc Ls (w :: St)) :=
  gEnd K hlk (fun q => by rw [hret] at q; cases q) (fun X hr => retOut X K.1.1 hret (by cases t <;> cases w <;> simp_all [FieldType.isReference, Value.isRef, narrow]) (Or.inr (Or.inr (Or.inr (Or.inr ⟨rfl, ht, hw⟩)))) (hb K.1.2.1 hd.1) hr) Kp hc hs hq
theorem gRetV {h0 : Heap} {wsA : List Addr} {kc ks : Nat} {QQ : Option Value → Heap → Prop} (K : Cx p l e R s m args below meth c B ML Z own n0 md T h ws cells slots) (hlk : meth.locks = false) (hret : meth.sig.returnType = none) (hd : Dc B pc .return_ 1 pc') (Kp : Keep h0 h wsA) (hc : cells ≤ kc) (hs : slots ≤ ks) (hq : QQ none h) : Go p e below (End md s Z n0 h0 wsA kc ks QQ) T (mkF m pc Ls []) :=
  gEnd K hlk (fun _ => rfl) (fun X hr => X.returnOut K.1.1 hret (hb K.1.2.1 hd.1) hr) Kp hc hs hq
def Ew (md : Option EList) (Z : State) : Prop := match md with | none => True | some EL => ∃ a0, EW Z a0 EL
theorem Con.intro {y : MethodName} {bytes : ByteArray} {maxL : Nat} {ret : Option FieldType} {wl : List Cond} {rm : Room} {h0 : Heap} {as' : Array Value} {QQ : Option Value → Heap → Prop} (hpn : plainName y.cls = true) (Z0 : n0 ≤ h0.size) (hws : ∀ x ∈ ws, n0 ≤ x ∧ x < h0.size) (hE : Ew md Z) (Ls0 : Array Slot) (hef : ∀ m, entryFrame m as' maxL = mkF m 0 Ls0 [])
    (body : ∀ p e s m below meth c T, meth.locks = false → meth.sig.returnType = ret → meth.name = y.name → Cx p l e rm s m as' below meth c bytes maxL Z y.cls n0 md T h0 ws 0 0 → Go p e below (End md s Z n0 h0 ws rm.cells rm.slots QQ) T (mkF m 0 Ls0 [])) : Con md l y bytes maxL ret wl rm Z n0 h0 ws as' QQ := by
  cases md with
  | none =>
    show ConN l y bytes maxL ret wl rm Z n0 h0 ws as' QQ
    unfold ConN
    refine MetFree.of_bodySF (plainFor_of_name hpn) hisR ?_
    intro p e s m args below meth c s₁ Bd hml0 hP hK
    obtain ⟨ha, hZ, hh⟩ := hP
    subst ha
    have G := body p e s m below meth c s₁ Bd.notSynchronized Bd.returns (name_of_methodNamed Bd.named Bd.method).1 ⟨⟨Bd.exec, Bd.bytes, hml0⟩, by rw [← hh, Bd.state]; rfl, Z0, s, [], Stand.of_body Bd, hZ, findClass_of_methodNamed Bd.named, Fr.nil n0, rfl, fun x hx => ⟨(hws x hx).1, (hws x hx).2, trivial⟩⟩
    rw [← hef m] at G
    exact G
  | some EL =>
    obtain ⟨a1, hE⟩ := hE
    show ConW EL l y bytes maxL ret wl rm Z n0 h0 ws as' QQ
    unfold ConW
    refine MetFree.of_bodySF (plainFor_of_name hpn) hisR ?_
    intro p e s m args below meth c s₁ Bd hml0 hP hK
    obtain ⟨ha, hZ, hh, H, hsf⟩ := hP
    subst ha
    have G := body p e s m below meth c s₁ Bd.notSynchronized Bd.returns (name_of_methodNamed Bd.named Bd.method).1 ⟨⟨Bd.exec, Bd.bytes, hml0⟩, by rw [← hh, Bd.state]; rfl, Z0, s, [], Stand.of_body Bd, hZ, findClass_of_methodNamed Bd.named, Fr.nil n0, ⟨s.vm, s.heap.size, a1, rfl, (State.WarmedH.refl s).since _, by rw [hh]; exact Nat.le_refl _, by rw [hh]; exact CHr.refl H, hE⟩, fun x hx => ⟨(hws x hx).1, (hws x hx).2, hsf x hx⟩⟩
    rw [← hef m] at G
    exact G
theorem EW.re {a1 a2 : Array Value} {EL : EList} (E : EW Z a1 EL) : EW Z a2 EL := fun q hq => by
  obtain ⟨t, w, h⟩ := E q hq
  exact ⟨t, mvS (s := Z) (vm0 := Z.vm) (State.Warmed39.refl Z) w, h⟩
theorem gLdc {EL : EList} (K : Cx p l e R s m args below meth c B ML Z own n0 (some EL) T h ws cells slots) {index : Nat} {text : String} (hd : Dc B pc (.ldc index) 2 pc') (w : (Cond.stringLink own index text).before a0 Z = true) (wS : ∀ a ∈ Bundle.stringAtoms, a.before a0 Z = true) (hmem : (own, index) ∈ EL)
    {vs : List Value} {z : Int32} (ht : (∀ c ∈ text.toList, c.toNat < 256) ∧ text.toList.map (fun c => Value.int (Jvm.Lit.byteI c.toNat.toUInt16)) = vs) (hz : ¬ z < 0) (hl : z.toNatClampNeg = vs.length) (n : Nat) (hn : 4 * text.toList.length ≤ n) (hbig : n ≤ 536870912) (hc : cells + 2 ≤ R.cells) (hs : slots + (n + 4) ≤ R.slots)
    (k : ∀ (T' : State) (h' : Heap) (a b : Addr) (kA : ClassId), Cx p l e R s m args below meth c B ML Z own n0 (some EL) T' h' ws (cells + 2) (slots + (n + 4)) → Ext h h' → Exa Z h' a "java/lang/String" → Fld Z h' a "java/lang/String" "coder" "B" (.int 0) → Fld Z h' a "java/lang/String" "value" "[B" (.ref b) → Arv Z h' b kA .byte z vs (.int 0) → (∀ x ∈ ws, x ≠ a ∧ x ≠ b) → Go p e below F T' (mkF m pc' Ls (.ref a :: St))) : Go p e below F T (mkF m pc Ls St) := by
  have K0 := K
  obtain ⟨⟨hx, hby, hml⟩, eT, hn0, s1, locs, X, hZ, hown, N, J, Wq⟩ := K
  obtain ⟨hd, rfl⟩ := hd
  obtain ⟨vm0, k0, a1, rfl, j2, j3, j4, j5⟩ := J
  obtain ⟨a, T', h', k1, b, kA, X', e', E, S', hk', hZ', hown', f1, f2, f3, f4, -, -, C2, -, hne, st⟩ := ldcCH X hx hZ hown w wS eT j2 j3 (EW.re j5) hmem j4.1 ht hz hl (g := mkF m pc Ls St) rfl (hb hby hd) hn hbig hc hs
  exact (k T' h' a b kA ⟨K0.1, e', Nat.le_trans hn0 E.1, _, locs, X', hZ', hown', N, ⟨T'.vm, k1, a1, rfl, S', hk', j4.trans C2, j5⟩, fun x hx => ⟨(Wq x hx).1, Nat.lt_of_lt_of_le (Wq x hx).2.1 E.1, C2.safe (Wq x hx).2.1 (Wq x hx).2.2⟩⟩ E f1 f2 f3 f4 (fun x hx => hne x (C2.safe (Wq x hx).2.1 (Wq x hx).2.2))).st st
theorem gLdcO {EL : EList} (K : Cx p l e R s m args below meth c B ML Z own n0 (some EL) T h ws cells slots) {index : Nat} {text : String} (hd : Dc B pc (.ldc index) 2 pc') (w : (Cond.stringLink own index text).before a0 Z = true) (wS : ∀ a ∈ Bundle.stringAtoms, a.before a0 Z = true) (n : Nat) (hn : 4 * text.toList.length ≤ n) (hbig : n ≤ 536870912) (hc : cells + 2 ≤ R.cells) (hs : slots + (n + 4) ≤ R.slots)
    (k : ∀ (T' : State) (h' : Heap) (a : Addr), Cx p l e R s m args below meth c B ML Z own n0 (some EL) T' h' ws (cells + 2) (slots + (n + 4)) → Ext h h' → Go p e below F T' (mkF m pc' Ls (.ref a :: St))) : Go p e below F T (mkF m pc Ls St) := by
  have K0 := K
  obtain ⟨⟨hx, hby, hml⟩, eT, hn0, s1, locs, X, hZ, hown, N, J, Wq⟩ := K
  obtain ⟨hd, rfl⟩ := hd
  obtain ⟨vm0, k0, a1, rfl, j2, j3, j4, j5⟩ := J
  obtain ⟨a, T', h', k1, X', e', E, S', hk', hZ', hown', C2, -, st⟩ := ldcOH X hx hZ hown w wS eT j2 j3 (EW.re j5) j4.1 (g := mkF m pc Ls St) rfl (hb hby hd) hn hbig hc hs
  exact (k T' h' a ⟨K0.1, e', Nat.le_trans hn0 E.1, _, locs, X', hZ', hown', N, ⟨T'.vm, k1, a1, rfl, S', hk', j4.trans C2, j5⟩, fun x hx => ⟨(Wq x hx).1, Nat.lt_of_lt_of_le (Wq x hx).2.1 E.1, C2.safe (Wq x hx).2.1 (Wq x hx).2.2⟩⟩ E).st st

/-! ## from a case's words -/
theorem eqint_v {first s : State} {o : Option Outcome} {idx : List Nat} {t : Term} {i : Int32} (q : (Cond.eq t (.int i)).value args first o s idx = some true) : t.eval args first o idx s = some (.int i) := by
  simp only [Cond.value, Term.eval] at q
  cases ht : t.eval args first o idx s with
  | none => simp [ht] at q
  | some x => cases x <;> simp [ht] at q ⊢; exact q
theorem ord_of {s : State} {t : Term} {C n d : String} {x : Addr} {i : Int32} (ht : t.eval args s none [] s = some (.ref x)) (q : (Cond.eq (Term.field t C n d) (.int i)).value args s none s [] = some true) : Fld s s.heap x C n d (.int i) := by
  have e1 := eqint_v q
  rw [fld_at ht] at e1
  exact Fld.start e1
theorem Sta.kp {C n d : String} {v : Value} {h' : Heap} (Fd : Sta Z h C n d v) (K : Keep h h' ws) (hn : ∀ x ∈ ws, ∀ cell : Cell, h[x]? = some cell → cell.vm.isStatics = false) : Sta Z h' C n d v := by
  obtain ⟨cf, i, k, f, st, cell, h1, h2, h3, h4, h5, h6, h7⟩ := Fd
  exact ⟨cf, i, k, f, st, cell, h1, h2, h3, h4, K.2.1 st cell h5 (fun q => by have := hn st q cell h5; rw [h6] at this; cases this), h6, h7⟩
theorem i_ne {a b : Int32} (q : ¬ a = b) : a.toInt ≠ b.toInt := fun e => q (Int32.toInt_inj.mp e)
theorem i_lt {a b : Int32} (q : a < b) : a.toInt < b.toInt := Int32.lt_iff_toInt_lt.mp q
theorem i_nlt {a b : Int32} (q : ¬ a < b) : b.toInt ≤ a.toInt := by rw [Int32.lt_iff_toInt_lt] at q; omega
theorem i_eq {a b : Int32} (q : a.toInt = b.toInt) : a = b := Int32.toInt_inj.mp q
theorem and7 (x : Int32) : ¬ (x &&& 7) < 0 ∧ ¬ (7 : Int32) < (x &&& 7) := by
  have := c_and x 7 (by decide)
  rw [Int32.lt_iff_toInt_lt, Int32.lt_iff_toInt_lt]
  have e1 : (7 : Int32).toInt = 7 := by decide
  have e2 : (0 : Int32).toInt = 0 := by decide
  omega
theorem and255c (x : Int32) : ¬ (x &&& 255).toUInt32.toUInt16.toUInt32.toInt32 < 0 ∧ ¬ (255 : Int32) < (x &&& 255).toUInt32.toUInt16.toUInt32.toInt32 := by
  have h1 := c_and x 255 (by decide)
  have h2 := c_i2c (x &&& 255)
  rw [Int32.lt_iff_toInt_lt, Int32.lt_iff_toInt_lt]
  have e1 : (255 : Int32).toInt = 255 := by decide
  have e2 : (0 : Int32).toInt = 0 := by decide
  omega
theorem ch_up {x : Int32} (q : ¬ (255 : Int32) < x) : ¬ (65535 : Int32) < x := by
  rw [Int32.lt_iff_toInt_lt] at q ⊢
  have e1 : (255 : Int32).toInt = 255 := by decide
  have e2 : (65535 : Int32).toInt = 65535 := by decide
  omega
theorem allI0 {P : Int32 → Prop} : ∀ x ∈ ([] : List Int32), P x := fun _ q => nomatch q
theorem allI {P : Int32 → Prop} {y : Int32} {L : List Int32} (q : P y) (r : ∀ x ∈ L, P x) : ∀ x ∈ y :: L, P x := fun x z => (List.mem_cons.mp z).elim (fun u => u ▸ q) (r x)
theorem nar_ref {C : String} {v : Value} (hv : v.isRef = true) : narrow (.object C) v = v := by cases v <;> simp_all [Value.isRef, narrow]
theorem fits_refv {C : String} {v : Value} (hv : v.isRef = true) : fits (.object C) v = true := by cases v <;> simp_all [Value.isRef, fits]
theorem gInstNull (K : Cx p l e R s m args below meth c B ML Z own n0 md T h ws cells slots) {index : Nat} (hd : Dc B pc (.instanceof index) 3 pc') (r : Go p e below F T (mkF m pc' Ls (.int 0 :: St))) : Go p e below F T (mkF m pc Ls (.null :: St)) := by
  obtain ⟨⟨hx, hby, hml⟩, eT, hn0, s1, locs, X, -⟩ := K
  obtain ⟨hd, rfl⟩ := hd
  exact r.st (X.instanceofNull hx (g := mkF m pc Ls (.null :: St)) rfl rfl (hb hby hd))
/-- an object of C (whose superclass is the root) is no D, D an ordinary class -/
theorem noCast {C S D : String} {n : Nat} (w : (Cond.superclass C S).before a0 Z = true) (w0 : (Cond.noSuperclass S).before a0 Z = true) (wi : (Cond.instantiable D n).before a0 Z = true) (hCD : C ≠ D) (hSD : S ≠ D) : ∃ c t, Z.vm.findClass C = some c ∧ Z.vm.findClass D = some t ∧ Z.vm.assignable c t = false := by
  obtain ⟨c, h0⟩ := found_sup w
  obtain ⟨pp, k, kp, h1, h2, h3, h4, h5, h6, h7⟩ := Cond.superclass_spec h0 w
  obtain ⟨t, kt, g0, g2, g5, g7, -, -⟩ := Cond.instantiable_spec wi
  obtain ⟨c', k', r1, r2, r3, -, -⟩ := Cond.noSuperclass_spec w0
  cases h1.symm.trans r1
  cases h3.symm.trans r2
  have ne1 := ids_ne h0 g0 hCD
  have ne2 := ids_ne h1 g0 hSD
  have g7' : kt.isInterface = false := by cases hq : kt.isInterface <;> simp_all
  have sub : ∀ fuel, Z.vm.isSubclassAux fuel c t = false := fun fuel => by
    cases fuel with
    | zero => rfl
    | succ f =>
      cases f with
      | zero => simp [Vm.isSubclassAux, ne1, h2, h4]
      | succ f => simp [Vm.isSubclassAux, ne1, h2, h4, ne2, h3, r3]
  refine ⟨c, t, h0, g0, ?_⟩
  show Z.vm.assignableAux (255 + 1) c t = false
  simp [Vm.assignableAux, ne1, h2, g2, h5, g5, g7', Vm.isSubclass, sub]

/-! ## constants, clone, arrays of the start -/
theorem gLdcI (K : Cx p l e R s m args below meth c B ML Z own n0 md T h ws cells slots) {index : Nat} (v : Int32) (hd : Dc B pc (.ldc index) 2 pc') (w : (Cond.constant own index v).before a0 Z = true) (r : Go p e below F T (mkF m pc' Ls (.int v :: St))) : Go p e below F T (mkF m pc Ls St) := by
  obtain ⟨⟨hx, hby, hml⟩, eT, hn0, s1, locs, X, hZ, hown, -⟩ := K
  obtain ⟨hd, rfl⟩ := hd
  exact r.st fun t q => X.ldcI hx hown (mvT hZ w) (g := mkF m pc Ls St) rfl (hb hby hd) q
theorem gLdc2J (K : Cx p l e R s m args below meth c B ML Z own n0 md T h ws cells slots) {index : Nat} (v : Int64) (hd : Dc B pc (.ldc2_w index) 3 pc') (w : (Cond.constantLong own index v).before a0 Z = true) (r : Go p e below F T (mkF m pc' Ls (.long v :: St))) : Go p e below F T (mkF m pc Ls St) := by
  obtain ⟨⟨hx, hby, hml⟩, eT, hn0, s1, locs, X, hZ, hown, -⟩ := K
  obtain ⟨hd, rfl⟩ := hd
  exact r.st fun t q => X.ldc2J hx hown (mvT hZ w) (g := mkF m pc Ls St) rfl (hb hby hd) q
theorem gClone (K : Cx p l e R s m args below meth c B ML Z own n0 md T h ws cells slots) {index : Nat} {ad : String} {a : Addr} {kA : ClassId} {ty : FieldType} {z : Int32} {vs : List Value} {dv : Value} (hd : Dc B pc (.invokevirtual index) 3 pc')
    (w1 : (Cond.methodLink own index ⟨ad, "clone", "()Ljava/lang/Object;"⟩).before a0 Z = true) (w2 : (Cond.sameMethod ad "java/lang/Object" "clone" "()Ljava/lang/Object;").before a0 Z = true) (w3 : (Cond.native ⟨"java/lang/Object", "clone", "()Ljava/lang/Object;"⟩).before a0 Z = true)
    (w4 : (Cond.instanceMethod ⟨"java/lang/Object", "clone", "()Ljava/lang/Object;"⟩).before a0 Z = true) (w5 : (Cond.selects ad ⟨ad, "clone", "()Ljava/lang/Object;"⟩ ⟨"java/lang/Object", "clone", "()Ljava/lang/Object;"⟩).before a0 Z = true) (w6 : (Cond.castable ad "java/lang/Cloneable").before a0 Z = true)
    (A : Arv Z h a kA ty z vs dv) (E : Exa Z h a ad) (hsz : Ls.size = ML) (hf : 1 ≤ R.frames) {W : Nat} (hW : (St.map fun v => v.category).sum ≤ W) (hl : W + 14 ≤ R.locals) (cap : Nat) (hcap : z.toNatClampNeg ≤ cap) (hc : cells + 1 ≤ R.cells) (hs : slots + cap ≤ R.slots)
    (k : ∀ (T' : State) (h' : Heap) (x : Addr), Cx p l e R s m args below meth c B ML Z own n0 md T' h' (x :: ws) (cells + 1) (slots + cap) → Ext h h' → x = h.size → Arv Z h' x kA ty z vs dv → Exa Z h' x ad → (∀ y ∈ ws, y ≠ x) → Go p e below F T' (mkF m pc' Ls (.ref x :: St))) : Go p e below F T (mkF m pc Ls (.ref a :: St)) := by
  have K0 := K
  obtain ⟨⟨hx, hby, hml⟩, eT, hn0, s1, locs, X, hZ, hown, N, J, Wq⟩ := K
  obtain ⟨hd, rfl⟩ := hd
  obtain ⟨T', h', X', e', E', A', F', st⟩ := cloneH X hx hZ hown w1 w2 w3 w4 w5 w6 eT A.arh E (g := mkF m pc Ls (.ref a :: St)) rfl (by rw [hml]; exact hsz) rfl (hb hby hd) hf (W := W) (cap := cap) (by show 2 * 0 + _ ≤ _; omega) hl hcap hc hs
  exact (k T' h' h.size (K0.grow X' e' E' F'.lt hZ hown N J Wq) E' rfl A' F' (fun y hy => Nat.ne_of_lt (Wq y hy).2.1)).st st
theorem eqref_l {first s : State} {o : Option Outcome} {idx : List Nat} {t u : Term} {x : Addr} (q : (Cond.eq t u).value args first o s idx = some true) (hu : u.eval args first o idx s = some (.ref x)) : t.eval args first o idx s = some (.ref x) := by
  simp only [Cond.value, hu] at q
  cases ht : t.eval args first o idx s with
  | none => simp [ht] at q
  | some y => cases y <;> simp [ht] at q ⊢; exact q
theorem hasL_of {cl : Cell} {dv : Value} : ∀ (vs : List Value) (i : Nat), (∀ j, j < vs.length → cl.slots[i + j]? = some (vs.getD j dv)) → HasL cl i vs
  | [], _, _ => trivial
  | v :: r, i, H => ⟨H 0 (Nat.zero_lt_succ _), hasL_of r (i + 1) fun j hj => by have := H (j + 1) (Nat.succ_lt_succ hj); rw [Nat.add_right_comm] ; exact this⟩
theorem arv_words {s : State} {t : Term} {a : Addr} {ty : FieldType} {z : Int32} {vs : List Value} {dv : Value} (hf : Fit s) (ev : t.eval args s none [] s = some (.ref a)) (hA : (Cond.arrayOf t ty).value args s none s [] = some true) (hL : (Cond.eq (Term.length t) (.int z)).value args s none s [] = some true) (hz : ¬ z < 0) (hl : z.toNatClampNeg = vs.length)
    (hE : ∀ j, j < vs.length → (Term.elem t (.int (Int32.ofNat j))).eval args s none [] s = some (vs.getD j dv)) : ∃ k, Arv s s.heap a k ty z vs dv := by
  obtain ⟨cl, A⟩ := Arr.start ev hA
  have e1 := eqint_v hL
  have hat := A.fin (Vm.Alike.refl s.vm)
  simp [Term.eval, ev, hat] at e1
  refine ⟨_, Arv.start hf A (by omega) e1.2 hz hl (hasL_of (dv := dv) vs 0 fun j hj => ?_)⟩
  have hb2 := (back32 hz).2
  have := elem_in (hE j hj) ev rfl A.1
  have e3 : (Int32.ofNat j).toNatClampNeg = j := by
    have : (Int32.ofNat j).toInt = j := len_toInt (by omega)
    simp only [Int32.toNatClampNeg, this]; rfl
  rw [e3] at this
  rw [Nat.zero_add]; exact this.2
theorem fld_word {s : State} {t : Term} {C n d : String} {x : Addr} {v : Value} (ht : t.eval args s none [] s = some (.ref x)) (hv : (Term.field t C n d).eval args s none [] s = some v) : Fld s s.heap x C n d v := by
  rw [fld_at ht] at hv
  exact Fld.start hv
theorem narrow_c {x : Int32} (q : ¬ x < 0 ∧ ¬ (255 : Int32) < x) : narrow .char (.int x) = .int x := by
  show Value.int (nar .char x) = _
  rw [nar_c q.1 (ch_up q.2)]
theorem getD_bd {cs : List Int32} (hp : ∀ c ∈ cs, ¬ c < 0 ∧ ¬ (255 : Int32) < c) (k : Nat) : ¬ cs.getD k 0 < 0 ∧ ¬ (255 : Int32) < cs.getD k 0 := by
  rw [List.getD_eq_getElem?_getD]
  by_cases q : k < cs.length
  · rw [List.getElem?_eq_getElem q]; exact hp _ (List.getElem_mem q)
  · rw [List.getElem?_eq_none (by omega)]; decide
theorem ofNat_toInt {k : Nat} (q : k < 2147483648) : (Int32.ofNat k).toInt = k := len_toInt (by omega)
theorem land255 (x : Int64) : ¬ ((x &&& 255).toInt32).toUInt32.toUInt16.toUInt32.toInt32 < 0 ∧ ¬ (255 : Int32) < ((x &&& 255).toInt32).toUInt32.toUInt16.toUInt32.toInt32 := by
  have h1 := c_maskL x 255 8 (by decide) (by decide)
  have h2 := c_l2i (x &&& 255)
  have h3 := c_i2c ((x &&& 255).toInt32)
  have h4 := rng32 ((x &&& 255).toInt32)
  rw [Int32.lt_iff_toInt_lt, Int32.lt_iff_toInt_lt]
  have e1 : (255 : Int32).toInt = 255 := by decide
  have e2 : (0 : Int32).toInt = 0 := by decide
  have e3 : ((2 ^ 8 : Nat) : Int) = 256 := by decide
  rw [e3] at h1
  omega
theorem ofNat_lt {k n : Nat} (hk : k < 2147483648) (hn : n < 2147483648) (q : Int32.ofNat k < Int32.ofNat n) : k < n := by
  rw [Int32.lt_iff_toInt_lt, ofNat_toInt hk, ofNat_toInt hn] at q; omega

end Kit
end Jvm.OwnKit

/- laws to paste: Road.backV, Road.eqW, Road.codOf, Road.chN (cut by pick.py; bodies as the Statement names them) -/
namespace Jvm.Pilot.@@N@@
namespace StrChars
open Jvm Sem ClassFile Op Lib Jvm.Stand Jvm.Free.XT Jvm.Free.ALB Jvm.Free.JM Jvm.Free
open Jvm.Lib.Cold (StaticIs)
/-- a char array whose places are chars -/
def Ch (a : Addr) (A : Cell) (U : State) : Prop := Arr .char a A U ∧ Typed .char A
theorem Ch.mv {a : Addr} {A : Cell} {U U' : State} (h : Ch a A U) (hal : U.vm.Alike U'.vm) (hh : U'.heap = U.heap) : Ch a A U' := ⟨h.1.mv hal hh, h.2⟩
theorem Ch.keep {a : Addr} {A : Cell} {U U' : State} (h : Ch a A U) (hal : U.vm.Alike U'.vm) (hk : U'.heap[a]? = some A) : Ch a A U' := ⟨h.1.keep hal hk, h.2⟩
/-- what place i of a char[]'s cell holds -/
def cv (A : Cell) (i : Nat) : Int32 := match A.slots[i]? with | some (.int x) => x | _ => 0
theorem Ch.get {a : Addr} {A : Cell} {U : State} (h : Ch a A U) {i : Nat} (hi : i < A.slots.size) : A.slots[i]? = some (.int (cv A i)) := by
  have e := Array.getElem?_eq_getElem hi
  have f := h.2 i _ e
  unfold cv; rw [e]
  generalize A.slots[i] = v at f
  cases v <;> simp [fits] at f ⊢
/-- the byte that i2b leaves of a char -/
def lo8 (x : Int32) : Int32 := x.toInt8.toInt32
theorem fits_lo8 (y : Int32) : fits .byte (.int (lo8 y)) = true := by
  have h1 := y.toInt8.le_toInt
  have h2 := y.toInt8.toInt_lt
  simp only [lo8, fits, Bool.and_eq_true, decide_eq_true_eq, Int32.le_iff_toInt_le, Int8.toInt_toInt32, show (-128 : Int32).toInt = -128 from by decide, show (127 : Int32).toInt = 127 from by decide]
  omega
/-- A' is A but that each place j of lo .. hi - 1 holds f j -/
def Laid (A A' : Cell) (lo hi : Nat) (f : Nat → Value) : Prop := A'.cls = A.cls ∧ A'.vm = A.vm ∧ A'.slots.size = A.slots.size ∧ ∀ i, A'.slots[i]? = if lo ≤ i ∧ i < hi then some (f i) else A.slots[i]?
theorem Laid.zero (A : Cell) (lo : Nat) (f : Nat → Value) : Laid A A lo (lo + 0) f := ⟨rfl, rfl, rfl, fun i => by rw [if_neg (by omega)]⟩
theorem Laid.step {A Ak : Cell} {lo k : Nat} {f : Nat → Value} {v : Value} (h : Laid A Ak lo k f) (hlo : lo ≤ k) (hk : k < Ak.slots.size) (hv : v = f k) : Laid A (Ak.setSlot k v) lo (k + 1) f := by
  refine ⟨h.1, h.2.1, by simpa [Cell.setSlot] using h.2.2.1, fun i => ?_⟩
  by_cases e : k = i
  · subst e; rw [Cell.slots_setSlot_self v hk, if_pos (by omega), hv]
  · rw [Cell.slots_setSlot_ne v e, h.2.2.2 i]
    by_cases q : lo ≤ i ∧ i < k
    · rw [if_pos q, if_pos (by omega)]
    · rw [if_neg q, if_neg (by omega)]
def U16 : String := "java/lang/StringUTF16"
namespace Cmp5
def yN : MethodName := ⟨"java/lang/StringUTF16", "compress", "([CI[BII)I"⟩
abbrev yB : ByteArray := jdk_52_method_21_code
theorem d0 : decode yB 0 = .ok (.iconst 0, 1) := by decide +kernel
theorem d1 : decode yB 1 = .ok (.istore 5, 2) := by decide +kernel
theorem d3 : decode yB 3 = .ok (.iload 5, 2) := by decide +kernel
theorem d5 : decode yB 5 = .ok (.iload 4, 2) := by decide +kernel
theorem d7 : decode yB 7 = .ok (.if_icmp (.ge) 37, 3) := by decide +kernel
theorem d10 : decode yB 10 = .ok (.aload_n 0, 1) := by decide +kernel
theorem d11 : decode yB 11 = .ok (.iload_n 1, 1) := by decide +kernel
theorem d12 : decode yB 12 = .ok (.caload, 1) := by decide +kernel
theorem d13 : decode yB 13 = .ok (.istore 6, 2) := by decide +kernel
theorem d15 : decode yB 15 = .ok (.iload 6, 2) := by decide +kernel
theorem d17 : decode yB 17 = .ok (.sipush 255, 3) := by decide +kernel
theorem d20 : decode yB 20 = .ok (.if_icmp (.le) 6, 3) := by decide +kernel
theorem d26 : decode yB 26 = .ok (.aload_n 2, 1) := by decide +kernel
theorem d27 : decode yB 27 = .ok (.iload_n 3, 1) := by decide +kernel
theorem d28 : decode yB 28 = .ok (.iload 6, 2) := by decide +kernel
theorem d30 : decode yB 30 = .ok (.i2b, 1) := by decide +kernel
theorem d31 : decode yB 31 = .ok (.bastore, 1) := by decide +kernel
theorem d32 : decode yB 32 = .ok (.iinc 1 1, 3) := by decide +kernel
theorem d35 : decode yB 35 = .ok (.iinc 3 1, 3) := by decide +kernel
theorem d38 : decode yB 38 = .ok (.iinc 5 1, 3) := by decide +kernel
theorem d41 : decode yB 41 = .ok (.goto (-38), 3) := by decide +kernel
theorem d44 : decode yB 44 = .ok (.iload 4, 2) := by decide +kernel
theorem d46 : decode yB 46 = .ok (.ireturn, 1) := by decide +kernel
def site : List Cond := []
def tab : Cond := tabOf yN yB 7 (some .int) site
def P (b : Addr) (A : Cell) (d : Addr) (B : Cell) (o q len : Nat) (args : Array Value) (s : State) : Prop := args = #[.ref b, .int (Int32.ofNat o), .ref d, .int (Int32.ofNat q), .int (Int32.ofNat len)] ∧ Ch b A s ∧ Arr .byte d B s ∧ b ≠ d ∧ o + len ≤ A.slots.size ∧ q + len ≤ B.slots.size ∧ ∀ i, i < len → ¬ 255 < cv A (o + i)
def E (b : Addr) (A : Cell) (d : Addr) (B : Cell) (o q len : Nat) (r : Option Value) (s u : State) : Prop := r = some (.int (Int32.ofNat len)) ∧ ∃ B', Put d B' s u ∧ Laid B B' q (q + len) (fun j => Value.int (lo8 (cv A (o + (j - q)))))
/-- no char of the range above 255: len; the places written hold each char's low byte -/
theorem law (l : Launch) (b : Addr) (A : Cell) (d : Addr) (B : Cell) (o q len : Nat) : Law l yN 5 5 0 0 yB 7 (some .int) site (P b A d B o q len) (E b A d B o q len) (copyLocs d q len) 0 0 := by
  refine Law.of_walk (plainFor_of_name (by decide +kernel)) (by decide +kernel) (by decide +kernel) (by decide) (fun _ _ h => by rw [h.1]; rfl) (fun _ U U' hal hh h => ⟨h.1, h.2.1.mv hal hh, h.2.2.1.mv hal hh, h.2.2.2⟩) (fun r U U' V V' h1 hal h2 h => ⟨h.1, h.2.elim fun B' q => ⟨B', q.1.mv h1 h2, q.2⟩⟩) ?_
  intro p e s m args below meth c s₁ X0 hexec hbytes hml hret hlk hnm hown hh0 W hP
  obtain ⟨rfl, hA, hB, hne, l1, l2, hp⟩ := hP
  have c1 : Steps p.tables e below (s₁.setTop (entryFrame m #[.ref b, .int (Int32.ofNat o), .ref d, .int (Int32.ofNat q), .int (Int32.ofNat len)] 7)) (s₁.setTop (mkF m 0 #[.val (.ref b), .val (.int (Int32.ofNat o)), .val (.ref d), .val (.int (Int32.ofNat q)), .val (.int (Int32.ofNat len)), .unset, .unset] [])) := entry rfl
  have hA0 := hA.1.mv X0.warmed.alike hh0
  have hB0 := hB.mv X0.warmed.alike hh0
  have a31 := hA.1.2.2.2
  have c2 : Steps p.tables e below (s₁.setTop (entryFrame m #[.ref b, .int (Int32.ofNat o), .ref d, .int (Int32.ofNat q), .int (Int32.ofNat len)] 7)) (s₁.setTop (mkF m 3 #[.val (.ref b), .val (.int (Int32.ofNat o)), .val (.ref d), .val (.int (Int32.ofNat q)), .val (.int (Int32.ofNat len)), .val (.int 0), .unset] [])) := c1.trans (by
    refine iconstV X0.here hexec rfl 0 (hb hbytes d0) (by decide) ?_
    refine XS.istore X0.here hexec rfl (hb hbytes d1) rfl rfl ?_
    exact Steps.refl _)
  have loop : ∀ (r i : Nat), i + r = len → ∀ (z : Slot), (z = .unset ∨ ∃ w, z = .val w ∧ w.category = 1) → ∀ (Tl : State) (Bk : Cell), Stand p l e { frames := 0, locals := 0, cells := 0, slots := 0 } s m #[.ref b, .int (Int32.ofNat o), .ref d, .int (Int32.ofNat q), .int (Int32.ofNat len)] below meth c Tl ([] ++ copyLocs d q i) 0 0 → Put d Bk s₁ Tl → Laid B Bk q (q + i) (fun j => Value.int (lo8 (cv A (o + (j - q))))) →
      Steps p.tables e below (s₁.setTop (entryFrame m #[.ref b, .int (Int32.ofNat o), .ref d, .int (Int32.ofNat q), .int (Int32.ofNat len)] 7)) (Tl.setTop (mkF m 3 #[.val (.ref b), .val (.int (Int32.ofNat (o + i))), .val (.ref d), .val (.int (Int32.ofNat (q + i))), .val (.int (Int32.ofNat len)), .val (.int (Int32.ofNat i)), z] [])) → ∃ (T' : State) (B' : Cell) (z' : Slot), Stand p l e { frames := 0, locals := 0, cells := 0, slots := 0 } s m #[.ref b, .int (Int32.ofNat o), .ref d, .int (Int32.ofNat q), .int (Int32.ofNat len)] below meth c T' ([] ++ copyLocs d q len) 0 0 ∧ Put d B' s₁ T' ∧ Laid B B' q (q + len) (fun j => Value.int (lo8 (cv A (o + (j - q))))) ∧
      Steps p.tables e below (s₁.setTop (entryFrame m #[.ref b, .int (Int32.ofNat o), .ref d, .int (Int32.ofNat q), .int (Int32.ofNat len)] 7)) (T'.setTop (mkF m 3 #[.val (.ref b), .val (.int (Int32.ofNat (o + len))), .val (.ref d), .val (.int (Int32.ofNat (q + len))), .val (.int (Int32.ofNat len)), .val (.int (Int32.ofNat len)), z'] [])) := by
    intro r
    induction r with
    | zero =>
      intro i hi z hz Tl Bk Xl pl fl cl
      have hil : i = len := by omega
      rw [hil] at Xl fl cl
      exact ⟨Tl, Bk, z, Xl, pl, fl, cl⟩
    | succ r ih =>
      intro i hi z hz Tl Bk Xl pl fl cl
      have all := X0.warmed.alike.symm.trans Xl.warmed.alike
      have hAl := hA0.keep all (pl.other hne hA0.1)
      have hBk := hB0.like all pl.1 fl.1 fl.2.1 fl.2.2.1
      have hlt : q + i < Bk.slots.size := by rw [fl.2.2.1]; omega
      have c3 : Steps p.tables e below (s₁.setTop (entryFrame m #[.ref b, .int (Int32.ofNat o), .ref d, .int (Int32.ofNat q), .int (Int32.ofNat len)] 7)) (Tl.setTop (mkF m 12 #[.val (.ref b), .val (.int (Int32.ofNat (o + i))), .val (.ref d), .val (.int (Int32.ofNat (q + i))), .val (.int (Int32.ofNat len)), .val (.int (Int32.ofNat i)), z] [.int (Int32.ofNat (o + i)), .ref b])) := cl.trans (by
        refine XS.iload Xl.here hexec rfl (hb hbytes d3) rfl ?_
        refine XS.iload Xl.here hexec rfl (hb hbytes d5) rfl ?_
        refine XS.icmpNo Xl.here hexec rfl (hb hbytes d7) rfl (ii_ge_f (lt32 (by omega) (by omega))) ?_
        refine XS.aloadN Xl.here hexec rfl (hb hbytes d10) rfl rfl ?_
        refine XS.iloadN Xl.here hexec rfl (hb hbytes d11) rfl ?_
        exact Steps.refl _)
      have c4 : Steps p.tables e below (s₁.setTop (entryFrame m #[.ref b, .int (Int32.ofNat o), .ref d, .int (Int32.ofNat q), .int (Int32.ofNat len)] 7)) (Tl.setTop (mkF m 13 #[.val (.ref b), .val (.int (Int32.ofNat (o + i))), .val (.ref d), .val (.int (Int32.ofNat (q + i))), .val (.int (Int32.ofNat len)), .val (.int (Int32.ofNat i)), z] [.int (cv A (o + i))])) := c3.trans (by
        refine Xl.aget hexec hAl rfl (hA.get (i := o + i) (by omega)) rfl rfl (hb hbytes d12) ?_
        exact Steps.refl _)
      have c5 : Steps p.tables e below (s₁.setTop (entryFrame m #[.ref b, .int (Int32.ofNat o), .ref d, .int (Int32.ofNat q), .int (Int32.ofNat len)] 7)) (Tl.setTop (mkF m 15 #[.val (.ref b), .val (.int (Int32.ofNat (o + i))), .val (.ref d), .val (.int (Int32.ofNat (q + i))), .val (.int (Int32.ofNat len)), .val (.int (Int32.ofNat i)), .val (.int (cv A (o + i)))] [])) := c4.trans (by
        refine XS.istoreS Xl.here hexec rfl (hb hbytes d13) rfl rfl hz ?_
        exact Steps.refl _)
      have c6 : Steps p.tables e below (s₁.setTop (entryFrame m #[.ref b, .int (Int32.ofNat o), .ref d, .int (Int32.ofNat q), .int (Int32.ofNat len)] 7)) (Tl.setTop (mkF m 31 #[.val (.ref b), .val (.int (Int32.ofNat (o + i))), .val (.ref d), .val (.int (Int32.ofNat (q + i))), .val (.int (Int32.ofNat len)), .val (.int (Int32.ofNat i)), .val (.int (cv A (o + i)))] [.int (lo8 (cv A (o + i))), .int (Int32.ofNat (q + i)), .ref d])) := c5.trans (by
        refine XS.iload Xl.here hexec rfl (hb hbytes d15) rfl ?_
        refine sipushV Xl.here hexec rfl 255 (hb hbytes d17) (by decide) ?_
        refine XS.icmpYes Xl.here hexec rfl (pc0 := 20) rfl (hb hbytes d20) rfl (ii_le_t (hp i (by omega))) (by decide) rfl ?_
        refine XS.aloadN Xl.here hexec rfl (hb hbytes d26) rfl rfl ?_
        refine XS.iloadN Xl.here hexec rfl (hb hbytes d27) rfl ?_
        refine XS.iload Xl.here hexec rfl (hb hbytes d28) rfl ?_
        refine i2b Xl.here hexec rfl (hb hbytes d30) rfl ?_
        exact Steps.refl _)
      obtain ⟨T7, X7, p7, st7⟩ := Xl.aput hexec hBk rfl hlt rfl (fits_lo8 (cv A (o + i))) (g := (mkF m 31 #[.val (.ref b), .val (.int (Int32.ofNat (o + i))), .val (.ref d), .val (.int (Int32.ofNat (q + i))), .val (.int (Int32.ofNat len)), .val (.int (Int32.ofNat i)), .val (.int (cv A (o + i)))] [.int (lo8 (cv A (o + i))), .int (Int32.ofNat (q + i)), .ref d])) rfl (rest := []) rfl (hb hbytes d31)
      have c8 : Steps p.tables e below (s₁.setTop (entryFrame m #[.ref b, .int (Int32.ofNat o), .ref d, .int (Int32.ofNat q), .int (Int32.ofNat len)] 7)) (T7.setTop (mkF m 32 #[.val (.ref b), .val (.int (Int32.ofNat (o + i))), .val (.ref d), .val (.int (Int32.ofNat (q + i))), .val (.int (Int32.ofNat len)), .val (.int (Int32.ofNat i)), .val (.int (cv A (o + i)))] [])) := c6.trans (st7 _ (Steps.refl _))
      have c9 : Steps p.tables e below (s₁.setTop (entryFrame m #[.ref b, .int (Int32.ofNat o), .ref d, .int (Int32.ofNat q), .int (Int32.ofNat len)] 7)) (T7.setTop (mkF m 3 #[.val (.ref b), .val (.int (Int32.ofNat (o + i) + 1)), .val (.ref d), .val (.int (Int32.ofNat (q + i) + 1)), .val (.int (Int32.ofNat len)), .val (.int (Int32.ofNat i + 1)), .val (.int (cv A (o + i)))] [])) := c8.trans (by
        refine iincV X7.here hexec rfl 1 (hb hbytes d32) (by decide) rfl rfl ?_
        refine iincV X7.here hexec rfl 1 (hb hbytes d35) (by decide) rfl rfl ?_
        refine iincV X7.here hexec rfl 1 (hb hbytes d38) (by decide) rfl rfl ?_
        refine XS.goto X7.here hexec rfl (pc0 := 41) rfl (hb hbytes d41) (by decide) rfl ?_
        exact Steps.refl _)
      have c10 : Steps p.tables e below (s₁.setTop (entryFrame m #[.ref b, .int (Int32.ofNat o), .ref d, .int (Int32.ofNat q), .int (Int32.ofNat len)] 7)) (T7.setTop (mkF m 3 #[.val (.ref b), .val (.int (Int32.ofNat (o + (i + 1)))), .val (.ref d), .val (.int (Int32.ofNat (q + (i + 1)))), .val (.int (Int32.ofNat len)), .val (.int (Int32.ofNat (i + 1))), .val (.int (cv A (o + i)))] [])) := by
        have := c9
        rw [succ32, succ32, succ32] at this
        exact this
      exact ih (i + 1) (by omega) _ (Or.inr ⟨_, rfl, rfl⟩) T7 _ (by rw [copyLocs_step, ← List.append_assoc]; exact X7) (pl.trans p7) (fl.step (by omega) hlt (by simp)) c10
  obtain ⟨T9, B9, z9, X9, p9, f9, g9⟩ := loop len 0 (by omega) .unset (Or.inl rfl) s₁ B (by simpa [copyLocs] using X0) ⟨hB0.1, fun _ _ => rfl, rfl⟩ (Laid.zero _ _ _) c2
  have c11 : Steps p.tables e below (s₁.setTop (entryFrame m #[.ref b, .int (Int32.ofNat o), .ref d, .int (Int32.ofNat q), .int (Int32.ofNat len)] 7)) (T9.setTop (mkF m 46 #[.val (.ref b), .val (.int (Int32.ofNat (o + len))), .val (.ref d), .val (.int (Int32.ofNat (q + len))), .val (.int (Int32.ofNat len)), .val (.int (Int32.ofNat len)), z9] [.int (Int32.ofNat len)])) := g9.trans (by
    refine XS.iload X9.here hexec rfl (hb hbytes d3) rfl ?_
    refine XS.iload X9.here hexec rfl (hb hbytes d5) rfl ?_
    refine XS.icmpYes X9.here hexec rfl (pc0 := 7) rfl (hb hbytes d7) rfl (ii_ge_t (nlt32 (by omega) (Nat.le_refl _))) (by decide) rfl ?_
    refine XS.iload X9.here hexec rfl (hb hbytes d44) rfl ?_
    exact Steps.refl _)
  exact ⟨T9, some (.int (Int32.ofNat len)), _, _, _, X9, by simp, rfl, rfl, (fun h => by cases h), ⟨rfl, B9, p9.from hh0, f9⟩, fun fs hl => c11.trans (X9.ireturnOut hexec hret rfl (Or.inl rfl) (hb hbytes d46) hl)⟩
end Cmp5
namespace Cmp3
def yN : MethodName := ⟨"java/lang/StringUTF16", "compress", "([CII)[B"⟩
abbrev yB : ByteArray := jdk_52_method_16_code
theorem d0 : decode yB 0 = .ok (.iload_n 2, 1) := by decide +kernel
theorem d1 : decode yB 1 = .ok (.newarray .byte, 2) := by decide +kernel
theorem d3 : decode yB 3 = .ok (.astore_n 3, 1) := by decide +kernel
theorem d4 : decode yB 4 = .ok (.aload_n 0, 1) := by decide +kernel
theorem d5 : decode yB 5 = .ok (.iload_n 1, 1) := by decide +kernel
theorem d6 : decode yB 6 = .ok (.aload_n 3, 1) := by decide +kernel
theorem d7 : decode yB 7 = .ok (.iconst 0, 1) := by decide +kernel
theorem d8 : decode yB 8 = .ok (.iload_n 2, 1) := by decide +kernel
theorem d9 : decode yB 9 = .ok (.invokestatic 115, 3) := by decide +kernel
theorem d12 : decode yB 12 = .ok (.istore 4, 2) := by decide +kernel
theorem d14 : decode yB 14 = .ok (.iload 4, 2) := by decide +kernel
theorem d16 : decode yB 16 = .ok (.iload_n 2, 1) := by decide +kernel
theorem d17 : decode yB 17 = .ok (.if_icmp (.eq) 40, 3) := by decide +kernel
theorem d57 : decode yB 57 = .ok (.aload_n 3, 1) := by decide +kernel
theorem d58 : decode yB 58 = .ok (.areturn, 1) := by decide +kernel
def site : List Cond := [.arrayClass .byte, Cmp5.tab] ++ staticW U16 115 Cmp5.yN
def tab : Cond := tabOf yN yB 6 (some (.array .byte)) site
def P (b : Addr) (A : Cell) (o len : Nat) (args : Array Value) (s : State) : Prop := args = #[.ref b, .int (Int32.ofNat o), .int (Int32.ofNat len)] ∧ Ch b A s ∧ o + len ≤ A.slots.size ∧ len ≤ 536870912 ∧ ∀ i, i < len → ¬ 255 < cv A (o + i)
def E (b : Addr) (A : Cell) (o len : Nat) (r : Option Value) (s u : State) : Prop := NewArr .byte "[B" len (fun j => .int (lo8 (cv A (o + j)))) r s u ∧ u.heap.size = s.heap.size + 1
/-- no char of the range above 255: a new byte[] of their low bytes -/
theorem law (l : Launch) (b : Addr) (A : Cell) (o len : Nat) : Law l yN 3 3 1 18 yB 6 (some (.array .byte)) site (P b A o len) (E b A o len) [] 1 len := by
  refine Law.of_walk (plainFor_of_name (by decide +kernel)) (by decide +kernel) (by decide +kernel) (by decide) (fun _ _ h => by rw [h.1]; rfl) (fun _ U U' hal hh h => ⟨h.1, h.2.1.mv hal hh, h.2.2⟩) (fun r U U' V V' h1 hal h2 h => ⟨NewArr.mv r U U' V V' h1 hal h2 h.1, by rw [h1, h2]; exact h.2⟩) ?_
  intro p e s m args below meth c s₁ X0 hexec hbytes hml hret hlk hnm hown hh0 W hP
  obtain ⟨rfl, hA, l1, l2, hp⟩ := hP
  have a31 := hA.1.2.2.2
  have c1 : Steps p.tables e below (s₁.setTop (entryFrame m #[.ref b, .int (Int32.ofNat o), .int (Int32.ofNat len)] 6)) (s₁.setTop (mkF m 0 #[.val (.ref b), .val (.int (Int32.ofNat o)), .val (.int (Int32.ofNat len)), .unset, .unset, .unset] [])) := entry rfl
  have c2 : Steps p.tables e below (s₁.setTop (entryFrame m #[.ref b, .int (Int32.ofNat o), .int (Int32.ofNat len)] 6)) (s₁.setTop (mkF m 1 #[.val (.ref b), .val (.int (Int32.ofNat o)), .val (.int (Int32.ofNat len)), .unset, .unset, .unset] [.int (Int32.ofNat len)])) := c1.trans (by
    refine XS.iloadN X0.here hexec rfl (hb hbytes d0) rfl ?_
    exact Steps.refl _)
  obtain ⟨T3, B3, X3, ba3, bs3, bv3, bh3, bf3, st3⟩ := X0.anew hexec (atype := .byte) (wk W (.arrayClass .byte)) rfl (by show len * 1 ≤ _; omega) (by omega) (g := (mkF m 1 #[.val (.ref b), .val (.int (Int32.ofNat o)), .val (.int (Int32.ofNat len)), .unset, .unset, .unset] [.int (Int32.ofNat len)])) rfl (hb hbytes d1) (rest := []) rfl (Nat.le_refl _) (by show 0 + len ≤ len; omega)
  rw [hh0] at ba3 st3
  have kp3 : XT.Kept s T3 := (XT.Kept.of_eq hh0).push bh3
  have hA3 := hA.keep X3.warmed.alike (kp3 _ _ hA.1.1)
  have hne : b ≠ s.heap.size := hA.1.ne
  have c4 : Steps p.tables e below (s₁.setTop (entryFrame m #[.ref b, .int (Int32.ofNat o), .int (Int32.ofNat len)] 6)) (T3.setTop (mkF m 3 #[.val (.ref b), .val (.int (Int32.ofNat o)), .val (.int (Int32.ofNat len)), .unset, .unset, .unset] [.ref s.heap.size])) := c2.trans (st3 _ (Steps.refl _))
  have c5 : Steps p.tables e below (s₁.setTop (entryFrame m #[.ref b, .int (Int32.ofNat o), .int (Int32.ofNat len)] 6)) (T3.setTop (mkF m 9 #[.val (.ref b), .val (.int (Int32.ofNat o)), .val (.int (Int32.ofNat len)), .val (.ref s.heap.size), .unset, .unset] [.int (Int32.ofNat len), .int 0, .ref s.heap.size, .int (Int32.ofNat o), .ref b])) := c4.trans (by
    refine XS.astoreN X3.here hexec rfl (hb hbytes d3) rfl rfl rfl ?_
    refine XS.aloadN X3.here hexec rfl (hb hbytes d4) rfl rfl ?_
    refine XS.iloadN X3.here hexec rfl (hb hbytes d5) rfl ?_
    refine XS.aloadN X3.here hexec rfl (hb hbytes d6) rfl rfl ?_
    refine iconstV X3.here hexec rfl 0 (hb hbytes d7) (by decide) ?_
    refine XS.iloadN X3.here hexec rfl (hb hbytes d8) rfl ?_
    exact Steps.refl _)
  obtain ⟨v6, T6, X6, E6, g6⟩ := X3.callS hexec (Cmp5.law l b A s.heap.size B3 o 0 len) hown (wks W (staticW U16 115 Cmp5.yN)) (wk W Cmp5.tab) (W := 0) (Nat.le_of_ble_eq_true rfl) (Nat.le_of_ble_eq_true rfl) (Nat.le_refl _) (by show 0 + len + 0 ≤ len; omega) (g := (mkF m 9 #[.val (.ref b), .val (.int (Int32.ofNat o)), .val (.int (Int32.ofNat len)), .val (.ref s.heap.size), .unset, .unset] [.int (Int32.ofNat len), .int (Int32.ofNat 0), .ref s.heap.size, .int (Int32.ofNat o), .ref b])) rfl (by rw [hml]; rfl) c5 (argsL := [.ref b, .int (Int32.ofNat o), .ref s.heap.size, .int (Int32.ofNat 0), .int (Int32.ofNat len)]) (rest := []) rfl rfl (by show 2 * 0 + 0 ≤ _; decide) (hb hbytes d9) (⟨rfl, hA3, ba3, hne, l1, by rw [bs3]; simp, hp⟩)
  obtain ⟨rfl, B6, p6, f6⟩ := E6
  have c7 : Steps p.tables e below (s₁.setTop (entryFrame m #[.ref b, .int (Int32.ofNat o), .int (Int32.ofNat len)] 6)) (T6.setTop (mkF m 12 #[.val (.ref b), .val (.int (Int32.ofNat o)), .val (.int (Int32.ofNat len)), .val (.ref s.heap.size), .unset, .unset] [.int (Int32.ofNat len)])) := g6
  have c8 : Steps p.tables e below (s₁.setTop (entryFrame m #[.ref b, .int (Int32.ofNat o), .int (Int32.ofNat len)] 6)) (T6.setTop (mkF m 58 #[.val (.ref b), .val (.int (Int32.ofNat o)), .val (.int (Int32.ofNat len)), .val (.ref s.heap.size), .val (.int (Int32.ofNat len)), .unset] [.ref s.heap.size])) := c7.trans (by
    refine XS.istore X6.here hexec rfl (hb hbytes d12) rfl rfl ?_
    refine XS.iload X6.here hexec rfl (hb hbytes d14) rfl ?_
    refine XS.iloadN X6.here hexec rfl (hb hbytes d16) rfl ?_
    refine XS.icmpYes X6.here hexec rfl (pc0 := 17) rfl (hb hbytes d17) rfl (ii_eq_t rfl) (by decide) rfl ?_
    refine XS.aloadN X6.here hexec rfl (hb hbytes d57) rfl rfl ?_
    exact Steps.refl _)
  have X8 := X6.wide (L' := []) (cells' := 1) (slots' := len) (fun x hx hlt => by
    simp only [List.nil_append, copyLocs, List.mem_map, List.mem_range] at hx
    obtain ⟨i, -, rfl⟩ := hx
    exact absurd hlt (Nat.lt_irrefl _)) (Nat.le_refl _) (by omega)
  exact ⟨T6, some (.ref s.heap.size), _, _, _, X8, rfl, rfl, rfl, (fun h => by cases h), ⟨⟨rfl, B6, ba3.like (X3.warmed.alike.symm.trans X6.warmed.alike) p6.1 f6.1 f6.2.1 f6.2.2.1, f6.2.1.trans bv3, by rw [X6.warmed.alike.findClass, f6.1]; exact bf3, by rw [f6.2.2.1, bs3]; simp, fun j hj => by rw [f6.2.2.2 j, if_pos (by omega)]; rfl, kp3.put p6 (Nat.le_refl _)⟩, by rw [p6.2.2, bh3, hh0]; simp⟩, fun fs hl => c8.trans (X8.areturnOut hexec rfl hret rfl (hb hbytes d58) hl)⟩
end Cmp3
namespace CodL
def yN : MethodName := ⟨"java/lang/StringUTF16", "coderFromArrayLen", "([BI)B"⟩
abbrev yB : ByteArray := jdk_52_method_15_code
theorem d0 : decode yB 0 = .ok (.iload_n 1, 1) := by decide +kernel
theorem d1 : decode yB 1 = .ok (.aload_n 0, 1) := by decide +kernel
theorem d2 : decode yB 2 = .ok (.arraylength, 1) := by decide +kernel
theorem d3 : decode yB 3 = .ok (.isub, 1) := by decide +kernel
theorem d4 : decode yB 4 = .ok (.bipush 31, 2) := by decide +kernel
theorem d6 : decode yB 6 = .ok (.iushr, 1) := by decide +kernel
theorem d7 : decode yB 7 = .ok (.i2b, 1) := by decide +kernel
theorem d8 : decode yB 8 = .ok (.ireturn, 1) := by decide +kernel
def site : List Cond := []
def tab : Cond := tabOf yN yB 2 (some .byte) site
def P (d : Addr) (B : Cell) (args : Array Value) (s : State) : Prop := args = #[.ref d, .int (Int32.ofNat B.slots.size)] ∧ Arr .byte d B s
def E (r : Option Value) (s u : State) : Prop := XT.PureE (some (.int 0)) r s u
/-- an array as long as the number of chars: LATIN1 -/
theorem law (l : Launch) (d : Addr) (B : Cell) : Law l yN 2 2 0 0 yB 2 (some .byte) site (P d B) E [] 0 0 := by
  refine Law.of_walk (plainFor_of_name (by decide +kernel)) (by decide +kernel) (by decide +kernel) (by decide) (fun _ _ h => by rw [h.1]; rfl) (fun _ U U' hal hh h => ⟨h.1, h.2.mv hal hh⟩) (fun r U U' V V' h1 hal h2 h => XT.PureE.mv r U U' V V' h1 hal h2 h) ?_
  intro p e s m args below meth c s₁ X0 hexec hbytes hml hret hlk hnm hown hh0 W hP
  obtain ⟨rfl, hB⟩ := hP
  have hB0 := hB.mv X0.warmed.alike hh0
  have c1 : Steps p.tables e below (s₁.setTop (entryFrame m #[.ref d, .int (Int32.ofNat B.slots.size)] 2)) (s₁.setTop (mkF m 0 #[.val (.ref d), .val (.int (Int32.ofNat B.slots.size))] [])) := entry rfl
  have c2 : Steps p.tables e below (s₁.setTop (entryFrame m #[.ref d, .int (Int32.ofNat B.slots.size)] 2)) (s₁.setTop (mkF m 2 #[.val (.ref d), .val (.int (Int32.ofNat B.slots.size))] [.ref d, .int (Int32.ofNat B.slots.size)])) := c1.trans (by
    refine XS.iloadN X0.here hexec rfl (hb hbytes d0) rfl ?_
    refine XS.aloadN X0.here hexec rfl (hb hbytes d1) rfl rfl ?_
    exact Steps.refl _)
  have c3 : Steps p.tables e below (s₁.setTop (entryFrame m #[.ref d, .int (Int32.ofNat B.slots.size)] 2)) (s₁.setTop (mkF m 8 #[.val (.ref d), .val (.int (Int32.ofNat B.slots.size))] [.int (lo8 (ushr (Int32.ofNat B.slots.size - Int32.ofNat B.slots.size) 31))])) := c2.trans (by
    refine X0.alen hexec hB0 rfl rfl (hb hbytes d2) ?_
    refine XS.isub X0.here hexec rfl (hb hbytes d3) rfl ?_
    refine bipushV X0.here hexec rfl 31 (hb hbytes d4) (by decide) ?_
    refine iushr X0.here hexec rfl (hb hbytes d6) rfl ?_
    refine i2b X0.here hexec rfl (hb hbytes d7) rfl ?_
    exact Steps.refl _)
  have e0 : lo8 (ushr (Int32.ofNat B.slots.size - Int32.ofNat B.slots.size) 31) = 0 := by rw [Int32.sub_self]; decide
  rw [e0] at c3
  exact ⟨s₁, some (.int 0), _, _, _, X0, rfl, rfl, rfl, (fun h => by cases h), ⟨rfl, hh0⟩, fun fs hl => c3.trans (X0.ireturnOut hexec hret rfl (Or.inr (Or.inr (Or.inl rfl))) (hb hbytes d8) hl)⟩
end CodL
/-- the String at a is Latin-1 over a new byte[] (the heap's one new cell): the low bytes of the len chars of A from o on; every cell but a is kept -/
def Got (a : Addr) (D : Cell) (fV fC : Field) (A : Cell) (o len : Nat) (r : Option Value) (s u : State) : Prop := r = none ∧ ∃ D' V : Cell, Blank "java/lang/String" a D' u ∧ Same D D' [fV.slot, fC.slot] ∧ D'.slots[fV.slot]? = some (.ref s.heap.size) ∧ D'.slots[fC.slot]? = some (.int 0) ∧ Arr .byte s.heap.size V u ∧ V.vm = .none ∧ u.vm.findClass "[B" = some V.cls ∧ V.slots.size = len ∧ (∀ j, j < len → V.slots[j]? = some (.int (lo8 (cv A (o + j))))) ∧ (∀ (y : Addr) (c : Cell), y ≠ a → s.heap[y]? = some c → u.heap[y]? = some c) ∧ u.heap.size = s.heap.size + 1
theorem Got.mv {a : Addr} {D A : Cell} {fV fC : Field} {o len : Nat} : ∀ r (U U' V V' : State), U'.heap = U.heap → V.vm.Alike V'.vm → V'.heap = V.heap → Got a D fV fC A o len r U V → Got a D fV fC A o len r U' V' :=
  fun r U U' V V' h1 hal h2 ⟨e0, D', X, a1, a2, a3, a4, a5, a6, a7, a8, a9, a10, a11⟩ => ⟨e0, D', X, a1.mv hal h2, a2, by rw [h1]; exact a3, a4, by rw [h1]; exact a5.mv hal h2, a6, by rw [hal.findClass]; exact a7, a8, a9, by rw [h1, h2]; exact a10, by rw [h1, h2]; exact a11⟩
namespace New4
def yN : MethodName := ⟨"java/lang/String", "<init>", "([CIILjava/lang/Void;)V"⟩
abbrev yB : ByteArray := jdk_42_method_149_code
theorem d0 : decode yB 0 = .ok (.aload_n 0, 1) := by decide +kernel
theorem d1 : decode yB 1 = .ok (.invokespecial 1, 3) := by decide +kernel
theorem d4 : decode yB 4 = .ok (.iload_n 3, 1) := by decide +kernel
theorem d5 : decode yB 5 = .ok (.ifCond (.ne) 22, 3) := by decide +kernel
theorem d27 : decode yB 27 = .ok (.getstatic 38, 3) := by decide +kernel
theorem d30 : decode yB 30 = .ok (.ifCond (.eq) 28, 3) := by decide +kernel
theorem d33 : decode yB 33 = .ok (.aload_n 1, 1) := by decide +kernel
theorem d34 : decode yB 34 = .ok (.iload_n 2, 1) := by decide +kernel
theorem d35 : decode yB 35 = .ok (.iload_n 3, 1) := by decide +kernel
theorem d36 : decode yB 36 = .ok (.invokestatic 177, 3) := by decide +kernel
theorem d39 : decode yB 39 = .ok (.astore 5, 2) := by decide +kernel
theorem d41 : decode yB 41 = .ok (.aload_n 0, 1) := by decide +kernel
theorem d42 : decode yB 42 = .ok (.aload 5, 2) := by decide +kernel
theorem d44 : decode yB 44 = .ok (.iload_n 3, 1) := by decide +kernel
theorem d45 : decode yB 45 = .ok (.invokestatic 47, 3) := by decide +kernel
theorem d48 : decode yB 48 = .ok (.putfield 15, 3) := by decide +kernel
theorem d51 : decode yB 51 = .ok (.aload_n 0, 1) := by decide +kernel
theorem d52 : decode yB 52 = .ok (.aload 5, 2) := by decide +kernel
theorem d54 : decode yB 54 = .ok (.putfield 9, 3) := by decide +kernel
theorem d57 : decode yB 57 = .ok (.return_, 1) := by decide +kernel
def site : List Cond := [.fieldLink "java/lang/String" 38 "java/lang/String" "COMPACT_STRINGS" "Z", Cmp3.tab, CodL.tab, .laysFinal "java/lang/String" "java/lang/String" "value" "[B", .fieldLink "java/lang/String" 9 "java/lang/String" "value" "[B", .laysFinal "java/lang/String" "java/lang/String" "coder" "B", .fieldLink "java/lang/String" 15 "java/lang/String" "coder" "B"] ++ objW "java/lang/String" 1 ++ staticW "java/lang/String" 177 Cmp3.yN ++ staticW "java/lang/String" 47 CodL.yN
def tab : Cond := tabOf yN yB 6 none site
def P (a : Addr) (D : Cell) (fV fC : Field) (b : Addr) (A : Cell) (z : Int32) (o len : Nat) (args : Array Value) (s : State) : Prop := args = #[.ref a, .ref b, .int (Int32.ofNat o), .int (Int32.ofNat len), .null] ∧ Blank "java/lang/String" a D s ∧ Found "java/lang/String" "value" "[B" fV s ∧ Found "java/lang/String" "coder" "B" fC s ∧ Ch b A s ∧ StaticIs s "java/lang/String" "COMPACT_STRINGS" "Z" (.int z) ∧ ¬ z = 0 ∧ 0 < len ∧ o + len ≤ A.slots.size ∧ len ≤ 536870912 ∧ ∀ i, i < len → ¬ 255 < cv A (o + i)
def E (a : Addr) (D : Cell) (fV fC : Field) (A : Cell) (o len : Nat) (r : Option Value) (s u : State) : Prop := Got a D fV fC A o len r s u
/-- len > 0, no char of the range above 255: a Latin-1 String of their low bytes -/
theorem law (l : Launch) (a : Addr) (D : Cell) (fV fC : Field) (b : Addr) (A : Cell) (z : Int32) (o len : Nat) : Law l yN 5 4 2 35 yB 6 none site (P a D fV fC b A z o len) (E a D fV fC A o len) [⟨a, fC.slot⟩, ⟨a, fV.slot⟩] 1 len := by
  refine Law.of_walk (plainFor_of_name (by decide +kernel)) (by decide +kernel) (by decide +kernel) (by decide) (fun _ _ h => by rw [h.1]; rfl) (fun _ U U' hal hh h => ⟨h.1, h.2.1.mv hal hh, h.2.2.1.al hal, h.2.2.2.1.al hal, h.2.2.2.2.1.mv hal hh, h.2.2.2.2.2.1.there hal hh, h.2.2.2.2.2.2⟩) (fun r U U' V V' h1 hal h2 h => Got.mv r U U' V V' h1 hal h2 h) ?_
  intro p e s m args below meth c s₁ X0 hexec hbytes hml hret hlk hnm hown hh0 W hP
  obtain ⟨rfl, hB, f1, f2, hA, s1, hz, l0, l1, l2, hp⟩ := hP
  have a31 := hA.1.2.2.2
  have c1 : Steps p.tables e below (s₁.setTop (entryFrame m #[.ref a, .ref b, .int (Int32.ofNat o), .int (Int32.ofNat len), .null] 6)) (s₁.setTop (mkF m 0 #[.val (.ref a), .val (.ref b), .val (.int (Int32.ofNat o)), .val (.int (Int32.ofNat len)), .val .null, .unset] [])) := entry rfl
  have c2 : Steps p.tables e below (s₁.setTop (entryFrame m #[.ref a, .ref b, .int (Int32.ofNat o), .int (Int32.ofNat len), .null] 6)) (s₁.setTop (mkF m 1 #[.val (.ref a), .val (.ref b), .val (.int (Int32.ofNat o)), .val (.int (Int32.ofNat len)), .val .null, .unset] [.ref a])) := c1.trans (by
    refine XS.aloadN X0.here hexec rfl (hb hbytes d0) rfl rfl ?_
    exact Steps.refl _)
  obtain ⟨T3, X3, q3, st3⟩ := X0.oinit hexec hown (wks W (objW "java/lang/String" 1)) (g := (mkF m 1 #[.val (.ref a), .val (.ref b), .val (.int (Int32.ofNat o)), .val (.int (Int32.ofNat len)), .val .null, .unset] [.ref a])) rfl (by rw [hml]; rfl) (rest := []) rfl (hb hbytes d1) (W := 0) (by show 2 * 0 + 0 ≤ _; decide) (Nat.le_of_ble_eq_true rfl) (Nat.le_of_ble_eq_true rfl)
  have hh3 := q3.trans hh0
  have c4 : Steps p.tables e below (s₁.setTop (entryFrame m #[.ref a, .ref b, .int (Int32.ofNat o), .int (Int32.ofNat len), .null] 6)) (T3.setTop (mkF m 27 #[.val (.ref a), .val (.ref b), .val (.int (Int32.ofNat o)), .val (.int (Int32.ofNat len)), .val .null, .unset] [])) := (c2.trans (st3 _ (Steps.refl _))).trans (by
    refine XS.iloadN X3.here hexec rfl (hb hbytes d4) rfl ?_
    refine XS.ifYes X3.here hexec rfl (pc0 := 5) rfl (hb hbytes d5) rfl (i0_ne_t (nz32 (by omega) l0)) (by decide) rfl ?_
    exact Steps.refl _)
  obtain ⟨T5, X5, q5, st5⟩ := X3.sget hexec hown (wk W (.fieldLink "java/lang/String" 38 "java/lang/String" "COMPACT_STRINGS" "Z")) s1 (fun _ _ h => by rw [hh3]; exact h) (g := (mkF m 27 #[.val (.ref a), .val (.ref b), .val (.int (Int32.ofNat o)), .val (.int (Int32.ofNat len)), .val .null, .unset] [])) rfl (hb hbytes d27)
  have hh5 := q5.trans hh3
  have c6 : Steps p.tables e below (s₁.setTop (entryFrame m #[.ref a, .ref b, .int (Int32.ofNat o), .int (Int32.ofNat len), .null] 6)) (T5.setTop (mkF m 30 #[.val (.ref a), .val (.ref b), .val (.int (Int32.ofNat o)), .val (.int (Int32.ofNat len)), .val .null, .unset] [.int z])) := c4.trans (st5 _ (Steps.refl _))
  have c7 : Steps p.tables e below (s₁.setTop (entryFrame m #[.ref a, .ref b, .int (Int32.ofNat o), .int (Int32.ofNat len), .null] 6)) (T5.setTop (mkF m 36 #[.val (.ref a), .val (.ref b), .val (.int (Int32.ofNat o)), .val (.int (Int32.ofNat len)), .val .null, .unset] [.int (Int32.ofNat len), .int (Int32.ofNat o), .ref b])) := c6.trans (by
    refine XS.ifNo X5.here hexec rfl (hb hbytes d30) rfl (i0_eq_f hz) ?_
    refine XS.aloadN X5.here hexec rfl (hb hbytes d33) rfl rfl ?_
    refine XS.iloadN X5.here hexec rfl (hb hbytes d34) rfl ?_
    refine XS.iloadN X5.here hexec rfl (hb hbytes d35) rfl ?_
    exact Steps.refl _)
  obtain ⟨v8, T8, X8, E8, g8⟩ := X5.callS hexec (Cmp3.law l b A o len) hown (wks W (staticW "java/lang/String" 177 Cmp3.yN)) (wk W Cmp3.tab) (W := 0) (Nat.le_of_ble_eq_true rfl) (Nat.le_of_ble_eq_true rfl) (Nat.le_refl _) (by show 0 + len ≤ len; omega) (g := (mkF m 36 #[.val (.ref a), .val (.ref b), .val (.int (Int32.ofNat o)), .val (.int (Int32.ofNat len)), .val .null, .unset] [.int (Int32.ofNat len), .int (Int32.ofNat o), .ref b])) rfl (by rw [hml]; rfl) c7 (argsL := [.ref b, .int (Int32.ofNat o), .int (Int32.ofNat len)]) (rest := []) rfl rfl (by show 2 * 0 + 0 ≤ _; decide) (hb hbytes d36) (⟨rfl, hA.mv X5.warmed.alike hh5, l1, l2, hp⟩)
  obtain ⟨e8, z8⟩ := E8
  obtain ⟨rfl, N, n1, n2, n3, n4, n5, n6⟩ := NewArr.mv _ T5 s _ _ hh5.symm (Vm.Alike.refl _) rfl e8
  rw [hh5] at z8
  have hB1 := hB.keep X8.warmed.alike (n6 _ _ hB.1)
  have hne : s.heap.size ≠ a := (Nat.ne_of_lt (Array.getElem?_eq_some_iff.mp hB.1).1).symm
  have c9 : Steps p.tables e below (s₁.setTop (entryFrame m #[.ref a, .ref b, .int (Int32.ofNat o), .int (Int32.ofNat len), .null] 6)) (T8.setTop (mkF m 39 #[.val (.ref a), .val (.ref b), .val (.int (Int32.ofNat o)), .val (.int (Int32.ofNat len)), .val .null, .unset] [.ref s.heap.size])) := g8
  have c10 : Steps p.tables e below (s₁.setTop (entryFrame m #[.ref a, .ref b, .int (Int32.ofNat o), .int (Int32.ofNat len), .null] 6)) (T8.setTop (mkF m 45 #[.val (.ref a), .val (.ref b), .val (.int (Int32.ofNat o)), .val (.int (Int32.ofNat len)), .val .null, .val (.ref s.heap.size)] [.int (Int32.ofNat N.slots.size), .ref s.heap.size, .ref a])) := by
    have hc : Steps p.tables e below (s₁.setTop (entryFrame m #[.ref a, .ref b, .int (Int32.ofNat o), .int (Int32.ofNat len), .null] 6)) (T8.setTop (mkF m 45 #[.val (.ref a), .val (.ref b), .val (.int (Int32.ofNat o)), .val (.int (Int32.ofNat len)), .val .null, .val (.ref s.heap.size)] [.int (Int32.ofNat len), .ref s.heap.size, .ref a])) := c9.trans (by
      refine XS.astore X8.here hexec rfl (hb hbytes d39) rfl rfl rfl ?_
      refine XS.aloadN X8.here hexec rfl (hb hbytes d41) rfl rfl ?_
      refine XS.aload X8.here hexec rfl (hb hbytes d42) rfl rfl ?_
      refine XS.iloadN X8.here hexec rfl (hb hbytes d44) rfl ?_
      exact Steps.refl _)
    rw [n4]; exact hc
  obtain ⟨v11, T11, X11, E11, g11⟩ := X8.callS hexec (CodL.law l s.heap.size N) hown (wks W (staticW "java/lang/String" 47 CodL.yN)) (wk W CodL.tab) (W := 1) (Nat.le_of_ble_eq_true rfl) (Nat.le_of_ble_eq_true rfl) (Nat.le_refl _) (by show 0 + len + 0 ≤ len; omega) (g := (mkF m 45 #[.val (.ref a), .val (.ref b), .val (.int (Int32.ofNat o)), .val (.int (Int32.ofNat len)), .val .null, .val (.ref s.heap.size)] [.int (Int32.ofNat N.slots.size), .ref s.heap.size, .ref a])) rfl (by rw [hml]; rfl) c10 (argsL := [.ref s.heap.size, .int (Int32.ofNat N.slots.size)]) (rest := [.ref a]) rfl rfl (by show 2 * 0 + (1 + 0) ≤ _; decide) (hb hbytes d45) (⟨rfl, n1⟩)
  obtain ⟨rfl, q11⟩ := E11
  have hB11 := hB1.mv (X8.warmed.alike.symm.trans X11.warmed.alike) q11
  have c12 : Steps p.tables e below (s₁.setTop (entryFrame m #[.ref a, .ref b, .int (Int32.ofNat o), .int (Int32.ofNat len), .null] 6)) (T11.setTop (mkF m 48 #[.val (.ref a), .val (.ref b), .val (.int (Int32.ofNat o)), .val (.int (Int32.ofNat len)), .val .null, .val (.ref s.heap.size)] [.int 0, .ref a])) := g11
  obtain ⟨T13, X13, p13, bl13, sl13, st13⟩ := X11.finit hexec hown (wk W (.fieldLink "java/lang/String" 15 "java/lang/String" "coder" "B")) (Or.inr ⟨_, (wk W (.laysFinal "java/lang/String" "java/lang/String" "coder" "B"))⟩) (Or.inl ⟨rfl, hnm⟩) f2 (Or.inl rfl) hB11 (t := .byte) (by decide +kernel) rfl (g := (mkF m 48 #[.val (.ref a), .val (.ref b), .val (.int (Int32.ofNat o)), .val (.int (Int32.ofNat len)), .val .null, .val (.ref s.heap.size)] [.int 0, .ref a])) rfl (rest := []) rfl (hb hbytes d48)
  have c14 : Steps p.tables e below (s₁.setTop (entryFrame m #[.ref a, .ref b, .int (Int32.ofNat o), .int (Int32.ofNat len), .null] 6)) (T13.setTop (mkF m 54 #[.val (.ref a), .val (.ref b), .val (.int (Int32.ofNat o)), .val (.int (Int32.ofNat len)), .val .null, .val (.ref s.heap.size)] [.ref s.heap.size, .ref a])) := (c12.trans (st13 _ (Steps.refl _))).trans (by
    refine XS.aloadN X13.here hexec rfl (hb hbytes d51) rfl rfl ?_
    refine XS.aload X13.here hexec rfl (hb hbytes d52) rfl rfl ?_
    exact Steps.refl _)
  obtain ⟨T15, X15, p15, bl15, sl15, st15⟩ := X13.finit hexec hown (wk W (.fieldLink "java/lang/String" 9 "java/lang/String" "value" "[B")) (Or.inr ⟨_, (wk W (.laysFinal "java/lang/String" "java/lang/String" "value" "[B"))⟩) (Or.inl ⟨rfl, hnm⟩) f1 (Or.inl rfl) bl13 (t := (.array .byte)) (by decide +kernel) rfl (g := (mkF m 54 #[.val (.ref a), .val (.ref b), .val (.int (Int32.ofNat o)), .val (.int (Int32.ofNat len)), .val .null, .val (.ref s.heap.size)] [.ref s.heap.size, .ref a])) rfl (rest := []) rfl (hb hbytes d54)
  have c16 : Steps p.tables e below (s₁.setTop (entryFrame m #[.ref a, .ref b, .int (Int32.ofNat o), .int (Int32.ofNat len), .null] 6)) (T15.setTop (mkF m 57 #[.val (.ref a), .val (.ref b), .val (.int (Int32.ofNat o)), .val (.int (Int32.ofNat len)), .val .null, .val (.ref s.heap.size)] [])) := c14.trans (st15 _ (Steps.refl _))
  have ap := apart (Or.inr ⟨_, (wk W (.laysFinal "java/lang/String" "java/lang/String" "value" "[B"))⟩) (Or.inr ⟨_, (wk W (.laysFinal "java/lang/String" "java/lang/String" "coder" "B"))⟩) f1 f2 (t₁ := .array .byte) (t₂ := .byte) (by decide +kernel) (by decide +kernel) (by decide)
  have al := X8.warmed.alike.symm.trans X15.warmed.alike
  have n7 : T11.heap[s.heap.size]? = some N := by rw [q11]; exact n1.1
  exact ⟨T15, none, _, _, _, X15, by simp, rfl, by omega, (fun _ => rfl), ⟨rfl, _, N, bl15, ((Same.refl D _).set _ (by simp)).set _ (by simp), sl15, (Cell.slots_setSlot_ne _ ap).trans sl13, n1.keep al (p15.other hne (p13.other hne n7)), n2, by rw [al.findClass]; exact n3, n4, n5, fun y c h1 h2 => p15.other h1 (p13.other h1 (by rw [q11]; exact n6 y c h2)), by rw [p15.2.2, p13.2.2, q11]; exact z8⟩, fun fs hl => c16.trans (X15.returnOut hexec hret (hb hbytes d57) hl)⟩
end New4
namespace New1
def yN : MethodName := ⟨"java/lang/String", "<init>", "([C)V"⟩
abbrev yB : ByteArray := jdk_42_method_3_code
theorem d0 : decode yB 0 = .ok (.aload_n 0, 1) := by decide +kernel
theorem d1 : decode yB 1 = .ok (.aload_n 1, 1) := by decide +kernel
theorem d2 : decode yB 2 = .ok (.iconst 0, 1) := by decide +kernel
theorem d3 : decode yB 3 = .ok (.aload_n 1, 1) := by decide +kernel
theorem d4 : decode yB 4 = .ok (.arraylength, 1) := by decide +kernel
theorem d5 : decode yB 5 = .ok (.aconst_null, 1) := by decide +kernel
theorem d6 : decode yB 6 = .ok (.invokespecial 27, 3) := by decide +kernel
theorem d9 : decode yB 9 = .ok (.return_, 1) := by decide +kernel
def site : List Cond := [New4.tab] ++ initW "java/lang/String" 27 New4.yN
def tab : Cond := tabOf yN yB 2 none site
def P (a : Addr) (D : Cell) (fV fC : Field) (b : Addr) (A : Cell) (z : Int32) (args : Array Value) (s : State) : Prop := args = #[.ref a, .ref b] ∧ Blank "java/lang/String" a D s ∧ Found "java/lang/String" "value" "[B" fV s ∧ Found "java/lang/String" "coder" "B" fC s ∧ Ch b A s ∧ StaticIs s "java/lang/String" "COMPACT_STRINGS" "Z" (.int z) ∧ ¬ z = 0 ∧ 0 < A.slots.size ∧ A.slots.size ≤ 536870912 ∧ ∀ i, i < A.slots.size → ¬ 255 < cv A i
def E (a : Addr) (D : Cell) (fV fC : Field) (A : Cell) (r : Option Value) (s u : State) : Prop := Got a D fV fC A 0 A.slots.size r s u
/-- new String(chars), not empty, no char above 255: a Latin-1 String of their low bytes -/
theorem law (l : Launch) (a : Addr) (D : Cell) (fV fC : Field) (b : Addr) (A : Cell) (z : Int32) : Law l yN 2 1 3 52 yB 2 none site (P a D fV fC b A z) (E a D fV fC A) [⟨a, fC.slot⟩, ⟨a, fV.slot⟩] 1 A.slots.size := by
  refine Law.of_walk (plainFor_of_name (by decide +kernel)) (by decide +kernel) (by decide +kernel) (by decide) (fun _ _ h => by rw [h.1]; rfl) (fun _ U U' hal hh h => ⟨h.1, h.2.1.mv hal hh, h.2.2.1.al hal, h.2.2.2.1.al hal, h.2.2.2.2.1.mv hal hh, h.2.2.2.2.2.1.there hal hh, h.2.2.2.2.2.2⟩) (fun r U U' V V' h1 hal h2 h => Got.mv r U U' V V' h1 hal h2 h) ?_
  intro p e s m args below meth c s₁ X0 hexec hbytes hml hret hlk hnm hown hh0 W hP
  obtain ⟨rfl, hB, f1, f2, hA, s1, hz, l0, l2, hp⟩ := hP
  have c1 : Steps p.tables e below (s₁.setTop (entryFrame m #[.ref a, .ref b] 2)) (s₁.setTop (mkF m 0 #[.val (.ref a), .val (.ref b)] [])) := entry rfl
  have c2 : Steps p.tables e below (s₁.setTop (entryFrame m #[.ref a, .ref b] 2)) (s₁.setTop (mkF m 6 #[.val (.ref a), .val (.ref b)] [.null, .int (Int32.ofNat A.slots.size), .int 0, .ref b, .ref a])) := c1.trans (by
    refine XS.aloadN X0.here hexec rfl (hb hbytes d0) rfl rfl ?_
    refine XS.aloadN X0.here hexec rfl (hb hbytes d1) rfl rfl ?_
    refine iconstV X0.here hexec rfl 0 (hb hbytes d2) (by decide) ?_
    refine XS.aloadN X0.here hexec rfl (hb hbytes d3) rfl rfl ?_
    refine X0.alen hexec (hA.1.mv X0.warmed.alike hh0) rfl rfl (hb hbytes d4) ?_
    refine XS.aconstNull X0.here hexec rfl (hb hbytes d5) ?_
    exact Steps.refl _)
  obtain ⟨v3, T3, X3, E3, g3⟩ := X0.callN hexec (New4.law l a D fV fC b A z 0 A.slots.size) rfl hown (wks W (initW "java/lang/String" 27 New4.yN)) (W New4.tab (by simp only [site, List.mem_cons, List.mem_append, true_or, or_true])) (W := 0) (Nat.le_of_ble_eq_true rfl) (Nat.le_of_ble_eq_true rfl) (Nat.le_refl _) (by show 0 + A.slots.size ≤ A.slots.size; omega) (g := (mkF m 6 #[.val (.ref a), .val (.ref b)] [.null, .int (Int32.ofNat A.slots.size), .int (Int32.ofNat 0), .ref b, .ref a])) rfl (by rw [hml]; rfl) c2 (argsL := [.ref b, .int (Int32.ofNat 0), .int (Int32.ofNat A.slots.size), .null]) (rest := []) rfl rfl (by show 2 * 0 + 0 ≤ _; decide) (hb hbytes d6) (⟨rfl, hB.mv X0.warmed.alike hh0, f1.al X0.warmed.alike, f2.al X0.warmed.alike, hA.mv X0.warmed.alike hh0, s1.there X0.warmed.alike hh0, hz, l0, by omega, l2, fun i hi => by rw [Nat.zero_add]; exact hp i hi⟩)
  have e0 := Got.mv _ s₁ s _ _ hh0.symm (Vm.Alike.refl _) rfl E3
  obtain rfl := e0.1
  have c4 : Steps p.tables e below (s₁.setTop (entryFrame m #[.ref a, .ref b] 2)) (T3.setTop (mkF m 9 #[.val (.ref a), .val (.ref b)] [])) := g3
  exact ⟨T3, none, _, _, _, X3, by simp, rfl, by omega, (fun _ => rfl), e0, fun fs hl => c4.trans (X3.returnOut hexec hret (hb hbytes d9) hl)⟩
theorem pays {l : Launch} {R : Room} {p : Program} {e : Env} {below : List Frame} {s : State} {sargs : Array Value} {len W : Nat} (a : Addr) (D : Cell) (fV fC : Field) (b : Addr) (A : Cell) (z : Int32) (htab : tab.before sargs s = true) (hfr : 4 ≤ R.frames) (hlo : W + 65 ≤ R.locals) :
    Back l R p e below s sargs yN len W (fun A₁ a₁ => A₁.cells + 1 ≤ R.cells ∧ A₁.slots + A.slots.size ≤ R.slots ∧ P a D fV fC b A z a₁ A₁.U) (fun A₁ _ v₁ B₁ => E a D fV fC A v₁ A₁.U B₁.U ∧ B₁.locs = A₁.locs ++ [⟨a, fC.slot⟩, ⟨a, fV.slot⟩] ∧ B₁.cells = A₁.cells + 1 ∧ B₁.slots = A₁.slots + A.slots.size) :=
  (law l a D fV fC b A z).pays htab hfr (by omega)
end New1
/-- the byte, read back as charAt reads it, is the char -/
theorem lo8_mask {x : Int32} (h0 : ¬ x < 0) (h1 : ¬ 255 < x) : lo8 x &&& 255 = x := by
  have t : ∀ k : Fin 256, lo8 (Int32.ofNat k.val) &&& 255 = Int32.ofNat k.val := by decide +kernel
  rw [Int32.lt_iff_toInt_lt] at h0 h1
  have e0 : (0 : Int32).toInt = 0 := rfl
  have e1 : (255 : Int32).toInt = 255 := rfl
  obtain ⟨k, hk⟩ : ∃ k : Nat, x.toInt = k := ⟨x.toInt.toNat, by omega⟩
  have hx : x = Int32.ofNat k := Int32.toInt_inj.mp (by rw [hk, Int32.toInt_ofNat_small (by omega)])
  rw [hx]
  exact t ⟨k, by omega⟩
end StrChars
namespace StrChars.Road
open Jvm Sem ClassFile Op Lib Jvm.Stand Jvm.Free Jvm.Free.XT
open Jvm.Lib.Cold (StaticIs)
abbrev ST : String := "java/lang/String"
/-- every table word that New1's law asks, flat -/
abbrev words : List Jvm.Cond := [.code New1.yN New1.yB 2 none, .initialized ST, .methodLink ST 27 New4.yN, .instanceMethod New4.yN,
  .code New4.yN New4.yB 6 none, .fieldLink ST 38 ST "COMPACT_STRINGS" "Z", .laysFinal ST ST "value" "[B", .fieldLink ST 9 ST "value" "[B", .laysFinal ST ST "coder" "B", .fieldLink ST 15 ST "coder" "B",
  .methodLink ST 1 Lib.objectInit, .instanceMethod Lib.objectInit, .code Lib.objectInit ⟨#[0xb1]⟩ 1 none, .methodLink ST 177 Cmp3.yN, .static Cmp3.yN, .methodLink ST 47 CodL.yN, .static CodL.yN,
  .code Cmp3.yN Cmp3.yB 6 (some (.array .byte)), .initialized U16, .arrayClass .byte, .methodLink U16 115 Cmp5.yN, .static Cmp5.yN, .code Cmp5.yN Cmp5.yB 7 (some .int), .code CodL.yN CodL.yB 2 (some .byte)]
theorem tab_of {a : Array Value} {s : State} (h : ∀ w ∈ words, w.before a s = true) : New1.tab.before a s = true := by
  have h5 : Cmp5.tab.before a s = true := unparts (wk h (.code Cmp5.yN Cmp5.yB 7 (some .int))) (wks h (.initialized Cmp5.yN.cls :: Cmp5.site))
  have hc : CodL.tab.before a s = true := unparts (wk h (.code CodL.yN CodL.yB 2 (some .byte))) (wks h (.initialized CodL.yN.cls :: CodL.site))
  have q5 : ∀ w ∈ Cmp5.tab :: words, w.before a s = true := fun w hw => (List.mem_cons.mp hw).elim (fun e => e ▸ h5) (h w)
  have h3 : Cmp3.tab.before a s = true := unparts (wk q5 (.code Cmp3.yN Cmp3.yB 6 (some (.array .byte)))) (wks q5 (.initialized Cmp3.yN.cls :: Cmp3.site))
  have q3 : ∀ w ∈ Cmp3.tab :: CodL.tab :: words, w.before a s = true := fun w hw => (List.mem_cons.mp hw).elim (fun e => e ▸ h3) fun hw => (List.mem_cons.mp hw).elim (fun e => e ▸ hc) (h w)
  have h4 : New4.tab.before a s = true := unparts (wk q3 (.code New4.yN New4.yB 6 none)) (wks q3 (.initialized New4.yN.cls :: New4.site))
  have q4 : ∀ w ∈ New4.tab :: words, w.before a s = true := fun w hw => (List.mem_cons.mp hw).elim (fun e => e ▸ h4) (h w)
  exact unparts (wk q4 (.code New1.yN New1.yB 2 none)) (wks q4 (.initialized New1.yN.cls :: New1.site))
/-- the words ride from the start Z to the walk's own state -/
theorem moved {Z s : State} {a0 args : Array Value} (hZ : Z.Warmed39 s.vm) (hw : ∀ d ∈ words, d.before a0 Z = true) : ∀ d ∈ words, d.before args s = true := fun d hd => by
  have q := hw d hd
  have t : ∀ d ∈ words, d = .arrayClass .byte ∨ (d.onTables && d.keepsFace) = true := by decide +kernel
  rcases t d hd with rfl | t
  · exact RoadKit.mvA hZ q
  · exact RoadKit.mv hZ q t
/-- WHAT COMES BACK, over the tables of the start Z: h the heap at the call, h' behind it -/
def Q (Z : State) (x : Addr) (A : Cell) (h : Heap) (v : Option Value) (h' : Heap) (L : List Loc) : Prop := v = none ∧ (∀ y ∈ L, y.base = x) ∧ RoadKit.Keep h h' [x] ∧ h'.size = h.size + 1 ∧ RoadKit.Exa Z h' x ST ∧ RoadKit.Fld Z h' x ST "value" "[B" (.ref h.size) ∧ RoadKit.Fld Z h' x ST "coder" "B" (.int 0) ∧
  (∃ V : Cell, RoadKit.Arr Z h' h.size V .byte ∧ V.vm = .none ∧ Z.vm.findClass "[B" = some V.cls ∧ V.slots.size = A.slots.size ∧ ∀ j, j < A.slots.size → V.slots[j]? = some (.int (lo8 (cv A j)))) ∧
  ∀ (O n d : String) (w : Value), RoadKit.Fld Z h x O n d w → RoadKit.slotOf Z O n d ≠ RoadKit.slotOf Z ST "value" "[B" → RoadKit.slotOf Z O n d ≠ RoadKit.slotOf Z ST "coder" "B" → RoadKit.Fld Z h' x O n d w
/-- **new String(chars) AT A CALL, IN THE ROAD'S FORM**: for specialBack behind newO: x the fresh String, b the char[] with the cell A -/
theorem back {p : Program} {l : Launch} {e : Env} {R : Room} {s : State} {args : Array Value} {below : List Frame} {len W : Nat} {Z : State} {a0 : Array Value} {h : Heap} (hZ : Z.Warmed39 s.vm) (hw : ∀ d ∈ words, d.before a0 Z = true) {kI : Nat} (wi : (Jvm.Cond.instantiable ST kI).before a0 Z = true)
    {x b : Addr} {A : Cell} {z : Int32} {v0 c0 : Value} (E : RoadKit.Exa Z h x ST) (V : RoadKit.Fld Z h x ST "value" "[B" v0) (C : RoadKit.Fld Z h x ST "coder" "B" c0) (K : RoadKit.Arr Z h b A .char) (hty : Typed .char A) (S : RoadKit.Sta Z h ST "COMPACT_STRINGS" "Z" (.int z)) (hz : ¬ z = 0)
    (l0 : 0 < A.slots.size) (l2 : A.slots.size ≤ 536870912) (hp : ∀ i, i < A.slots.size → ¬ 255 < cv A i) (hfr : 4 ≤ R.frames) (hlo : W + 65 ≤ R.locals) :
    Back l R p e below s args New1.yN len W (fun P a => a = #[.ref x, .ref b] ∧ P.U.heap = h ∧ P.cells + 1 ≤ R.cells ∧ P.slots + A.slots.size ≤ R.slots)
      (fun P _ v B => ∃ L, Q Z x A h v B.U.heap L ∧ B.locs = P.locs ++ L ∧ B.cells = P.cells + 1 ∧ B.slots = P.slots + A.slots.size) := by
  intro m meth c P g ig mk a X hg hsize hdg hW hn hp'
  obtain ⟨rfl, rfl, r1, r2⟩ := hp'
  have al : Z.vm.Alike P.U.vm := hZ.alike.trans X.warmed.alike
  obtain ⟨D, cfV, kV, iV, fV, hD, gV, stV, knV, obV, asV, slV⟩ := id V
  obtain ⟨D', cfC, kC, iC, fC, hD', gC, stC, -, -, asC, slC⟩ := id C
  cases hD.symm.trans hD'
  obtain ⟨D2, kD, e1, e2, e3, e4, e5⟩ := id E
  cases hD.symm.trans e1
  obtain ⟨c2, k2, i1, i2, i3, -⟩ := Cond.instantiable_spec wi
  cases e2.symm.trans i1
  cases e3.symm.trans i2
  obtain ⟨kU, u1, u2⟩ := al.2.2 _ _ e3
  have hB : Blank ST x D P.U := ⟨hD, ⟨knV, fun q hq => by rw [hq] at obV; cases obV⟩, by rw [al.findClass]; exact e2, kU, u1, by rw [u2]; exact i3, by rw [u2]; exact e5 i3⟩
  have F1 : Found ST "value" "[B" fV P.U := ⟨SBG.found_only al ⟨cfV, kV, iV, gV⟩, stV⟩
  have F2 : Found ST "coder" "B" fC P.U := ⟨SBG.found_only al ⟨cfC, kC, iC, gC⟩, stC⟩
  have hA : Ch b A P.U := ⟨⟨K.1, State.isArrayOf_alike al K.2.1, K.2.2, by omega⟩, hty⟩
  have hS : StaticIs P.U ST "COMPACT_STRINGS" "Z" (.int z) := by
    obtain ⟨cfS, iS, kS, fS, st, cS, t1, t2, t3, t4, t5, t6, t7⟩ := S
    exact StaticIs.there (s := { Z with heap := P.U.heap }) ⟨cfS, iS, kS, fS, st, cS, t1, t2, t3, t4, t5, (fun q => by rw [q] at t6; cases t6), t7⟩ al rfl
  obtain ⟨v, B, X', ⟨⟨hv, E', V', q1, q2, q3, q4, q5, q6, q7, q8, q9, q10, q11⟩, hl, hc, hs⟩, st⟩ := New1.pays x D fV fC b A z (tab_of (moved hZ hw)) hfr hlo m meth c P g ig mk _ X hg hsize hdg hW hn ⟨r1, r2, rfl, hB, F1, F2, hA, hS, hz, l0, l2, hp⟩
  have al' : Z.vm.Alike B.U.vm := hZ.alike.trans X'.warmed.alike
  have hsz : E'.slots.size = D.slots.size := by
    obtain ⟨-, -, -, kB, w1, w2, w3⟩ := q1
    obtain ⟨kB', y1, y2⟩ := al'.2.2 _ _ e3
    rw [q2.2.1] at w1
    cases w1.symm.trans y1
    rw [w3, e5 i3, y2]
  refine ⟨v, B, X', ⟨_, ⟨hv, ?_, ⟨by omega, fun y cy hy hn' => q10 y cy (by simpa using hn') hy, fun y cy hy => ?_⟩, q11, ⟨E', _, q1.1, by rw [q2.2.1]; exact e2, by rw [q2.2.1]; exact e3, by rw [q2.1]; exact obV, fun _ => by rw [hsz]; exact e5 i3⟩,
    ⟨E', cfV, kV, iV, fV, q1.1, gV, stV, by rw [q2.1]; exact knV, by rw [q2.1]; exact obV, by rw [q2.2.1]; exact asV, q3⟩, ⟨E', cfC, kC, iC, fC, q1.1, gC, stC, by rw [q2.1]; exact knV, by rw [q2.1]; exact obV, by rw [q2.2.1]; exact asC, q4⟩,
    ⟨V', ⟨q5.1, State.isArrayOf_alike al'.symm q5.2.1, q5.2.2.1⟩, q6, by rw [← al'.findClass]; exact q7, q8, fun j hj => by have := q9 j hj; rwa [Nat.zero_add] at this⟩, fun O n d w F n1 n2 => ?_⟩, hl, hc, hs⟩, st⟩
  · intro y hy
    simp only [List.mem_cons, List.not_mem_nil, or_false] at hy
    rcases hy with rfl | rfl <;> rfl
  · by_cases q : y = x
    · subst q
      cases hD.symm.trans hy
      exact ⟨E', q1.1, q2.2.1, q2.1, hsz⟩
    · exact ⟨cy, q10 y cy q hy, rfl, rfl, rfl⟩
  · obtain ⟨D3, cf, k, i, f, g1, g2, g3, g4, g5, g6, g7⟩ := F
    cases hD.symm.trans g1
    simp only [RoadKit.slotOf, g2, gV, gC, Option.map_some, Option.getD_some] at n1 n2
    exact ⟨E', cf, k, i, f, q1.1, g2, g3, by rw [q2.1]; exact g4, by rw [q2.1]; exact g5, by rw [q2.2.1]; exact g6, by rw [q2.2.2 f.slot (by simp [n1, n2])]; exact g7⟩
end StrChars.Road
namespace StrChars.Road
open Jvm Sem ClassFile Op Lib Jvm.Stand Jvm.Free Jvm.Free.XT
/-- WHAT COMES BACK, the byte[] as a list of values -/
def QA (Z : State) (x : Addr) (zn : Int32) (cs : List Int32) (h : Heap) (v : Option Value) (h' : Heap) (L : List Loc) : Prop := v = none ∧ (∀ y ∈ L, y.base = x) ∧ RoadKit.Keep h h' [x] ∧ h'.size = h.size + 1 ∧ RoadKit.Exa Z h' x ST ∧ RoadKit.Fld Z h' x ST "value" "[B" (.ref h.size) ∧ RoadKit.Fld Z h' x ST "coder" "B" (.int 0) ∧
  (∃ kb, Z.vm.findClass "[B" = some kb ∧ RoadKit.Arv Z h' h.size kb .byte zn (cs.map fun c => .int (lo8 c)) (.int 0)) ∧
  ∀ (O n d : String) (w : Value), RoadKit.Fld Z h x O n d w → RoadKit.slotOf Z O n d ≠ RoadKit.slotOf Z ST "value" "[B" → RoadKit.slotOf Z O n d ≠ RoadKit.slotOf Z ST "coder" "B" → RoadKit.Fld Z h' x O n d w
/-- **new String(chars) AT A CALL, THE ARRAYS AS LISTS**: the char[] at b holds cs, not empty, no char above 255 -/
theorem backArv {p : Program} {l : Launch} {e : Env} {R : Room} {s : State} {args : Array Value} {below : List Frame} {len W : Nat} {Z : State} {a0 : Array Value} {h : Heap} (hZ : Z.Warmed39 s.vm) (hw : ∀ d ∈ words, d.before a0 Z = true) {kI : Nat} (wi : (Jvm.Cond.instantiable ST kI).before a0 Z = true)
    {x b : Addr} {k : ClassId} {zn z : Int32} {cs : List Int32} {dv v0 c0 : Value} (E : RoadKit.Exa Z h x ST) (V : RoadKit.Fld Z h x ST "value" "[B" v0) (C : RoadKit.Fld Z h x ST "coder" "B" c0) (K : RoadKit.Arv Z h b k .char zn (cs.map Value.int) dv) (S : RoadKit.Sta Z h ST "COMPACT_STRINGS" "Z" (.int z)) (hz : ¬ z = 0)
    (hlen : zn.toNatClampNeg = cs.length) (h0 : 0 < cs.length) (hbig : cs.length ≤ 536870912) (hall : ∀ c ∈ cs, ¬ 255 < c) (hfr : 4 ≤ R.frames) (hlo : W + 65 ≤ R.locals) :
    Back l R p e below s args New1.yN len W (fun P a => a = #[.ref x, .ref b] ∧ P.U.heap = h ∧ P.cells + 1 ≤ R.cells ∧ P.slots + cs.length ≤ R.slots)
      (fun P _ v B => ∃ L, QA Z x zn cs h v B.U.heap L ∧ B.locs = P.locs ++ L ∧ B.cells = P.cells + 1 ∧ B.slots = P.slots + cs.length) := by
  obtain ⟨A, K1, K2, K3, K4, K5, K6⟩ := K
  have e : A.slots.size = cs.length := K3.trans hlen
  have hat : ∀ (i : Nat) (hi : i < cs.length), A.slots[i]? = some (.int cs[i]) := fun i hi => by rw [K5 i (by omega)]; simp [List.getD_eq_getElem?_getD, hi]
  have hcv : ∀ (i : Nat) (hi : i < cs.length), cv A i = cs[i] := fun i hi => by unfold cv; rw [hat i hi]
  have hty : Typed .char A := fun i v hv => by
    have hi : i < A.slots.size := (Array.getElem?_eq_some_iff.mp hv).1
    have q := K5 i hi
    rw [hv] at q
    rw [Option.some.inj q]
    exact K6 i hi
  refine Back.mono (back hZ hw wi E V C K1 hty S hz (by omega) (by omega) (fun i hi => by rw [hcv i (by omega)]; exact hall _ (List.getElem_mem _)) hfr hlo) (fun P a hp => ⟨hp.1, hp.2.1, hp.2.2.1, by rw [e]; exact hp.2.2.2⟩) (fun P a v B hp hq => ?_)
  obtain ⟨L, ⟨q1, q2, q3, q4, q5, q6, q7, ⟨V', v1, v2, v3, v4, v5⟩, q9⟩, hl, hc, hs⟩ := hq
  refine ⟨L, ⟨q1, q2, q3, q4, q5, q6, q7, ⟨V'.cls, v3, V', v1, rfl, by rw [v4, e, hlen], K4, fun i hi => ?_, fun i hi => ?_⟩, q9⟩, hl, hc, by rw [hs, e]⟩
  · have hi' : i < cs.length := by omega
    rw [v5 i (by omega), hcv i hi']; simp [List.getD_eq_getElem?_getD, hi']
  · have hi' : i < cs.length := by omega
    simp only [List.getD_eq_getElem?_getD, List.getElem?_map, List.getElem?_eq_getElem hi', Option.map_some, Option.getD_some]
    exact fits_lo8 _
end StrChars.Road
namespace StrChars.Road
open Jvm Sem ClassFile Op Lib Jvm.Stand Jvm.Free Jvm.Free.XT
/-- WHAT COMES BACK, in the writer's own shape -/
def QV (Z : State) (x : Addr) (N : Int32) (bs : List Int32) (h : Heap) (n0 : Nat) (v : Option Value) (h' : Heap) (L : List Loc) : Prop := v = none ∧ RoadKit.Fr n0 L ∧ RoadKit.Keep h h' [x] ∧ RoadKit.Exa Z h' x ST ∧ RoadKit.Fld Z h' x ST "coder" "B" (.int 0) ∧
  ∃ (t : Addr) (kb : ClassId), n0 ≤ t ∧ h.size ≤ t ∧ ¬ t = x ∧ RoadKit.Fld Z h' x ST "value" "[B" (.ref t) ∧ RoadKit.Arv Z h' t kb .byte N (bs.map Value.int) (.int 0)
/-- **new String(chars) AT A CALL, FOR THE WRITER**: a char[] of n known ints, each 0 to 255 -/
theorem backV {p : Program} {l : Launch} {e : Env} {R : Room} {s : State} {args : Array Value} {below : List Frame} {len W : Nat} {Z : State} {a0 : Array Value} {h : Heap} (hZ : Z.Warmed39 s.vm) (hw : ∀ d ∈ words, d.before a0 Z = true) {kI : Nat} (wi : (Jvm.Cond.instantiable ST kI).before a0 Z = true)
    {x b : Addr} {kC : ClassId} {cs bs : List Int32} {d v0 c0 : Value} {z N : Int32} {n n0 : Nat} (hx0 : n0 ≤ x) (hh0 : n0 ≤ h.size) (E : RoadKit.Exa Z h x ST) (V : RoadKit.Fld Z h x ST "value" "[B" v0) (C : RoadKit.Fld Z h x ST "coder" "B" c0) (K : RoadKit.Arv Z h b kC .char N (cs.map Value.int) d) (S : RoadKit.Sta Z h ST "COMPACT_STRINGS" "Z" (.int z)) (hz : ¬ z = 0)
    (hn : cs.length = n) (hN : N = Int32.ofNat n) (l0 : 0 < n) (l2 : n ≤ 4000) (hp : ∀ c ∈ cs, ¬ c < 0 ∧ ¬ (255 : Int32) < c) (hb : bs = cs.map (fun c => c.toInt8.toInt32)) (hfr : 4 ≤ R.frames) (hlo : W + 65 ≤ R.locals) :
    Back l R p e below s args (⟨"java/lang/String", "<init>", "([C)V"⟩ : MethodName) len W (fun P a => a = #[.ref x, .ref b] ∧ P.U.heap = h ∧ P.cells + 1 ≤ R.cells ∧ P.slots + n ≤ R.slots)
      (fun P _ v B => ∃ L, QV Z x N bs h n0 v B.U.heap L ∧ B.locs = P.locs ++ L ∧ B.cells = P.cells + 1 ∧ B.slots = P.slots + n) := by
  subst hn hN hb
  refine Back.mono (backArv hZ hw wi E V C K S hz (n32 (by omega)) l0 (by omega) (fun c hc => (hp c hc).2) hfr hlo) (fun P a hp => hp) (fun P a v B hp hq => ?_)
  obtain ⟨L, ⟨q1, q2, q3, q4, q5, q6, q7, ⟨kb, v1, v2⟩, q9⟩, hl, hc, hs⟩ := hq
  exact ⟨L, ⟨q1, fun y hy => by rw [q2 y hy]; exact hx0, q3, q5, q7, h.size, kb, hh0, Nat.le_refl _, Nat.ne_of_gt E.lt, q6, by rw [List.map_map]; exact v2⟩, hl, hc, hs⟩
end StrChars.Road
namespace StrChars
open Jvm Sem ClassFile Op Lib Jvm.Stand Jvm.Free.XT Jvm.Free.ALB Jvm.Free.JM Jvm.Free
open Jvm.Lib.Cold (StaticIs)
def hi8 (x : Int32) : Int32 := lo8 (x >>> ((8 : Int32) &&& 31))
/-- what StringUTF16.getChar makes of two bytes -/
def pairCh (u v : Int32) : Int32 := (((u &&& 255) <<< ((0 : Int32) &&& 31)) ||| ((v &&& 255) <<< ((8 : Int32) &&& 31))).toUInt32.toUInt16.toUInt32.toInt32
theorem lo8_and (x : Int32) : (lo8 x &&& 255).toBitVec.toNat = x.toBitVec.toNat % 256 := by
  have h : (lo8 x).toBitVec = (x.toBitVec.signExtend 8).signExtend 32 := by rw [lo8, Int8.toBitVec_toInt32, Int32.toBitVec_toInt8]
  rw [Int32.toBitVec_and, BitVec.toNat_and, h]
  have e : ((x.toBitVec.signExtend 8).signExtend 32).toNat % 256 = x.toBitVec.toNat % 256 := by
    rw [BitVec.toNat_signExtend]
    have hlt := x.toBitVec.isLt
    simp only [BitVec.toNat_setWidth, BitVec.toNat_signExtend]
    split <;> split <;> omega
  rw [← e]
  exact Nat.and_two_pow_sub_one_eq_mod _ 8
theorem pair_says {c : Int32} (h0 : ¬ c < 0) (h1 : ¬ 65535 < c) : pairCh (lo8 c) (hi8 c) = c := by
  rw [Int32.lt_iff_toInt_lt] at h0 h1
  have e0 : (0 : Int32).toInt = 0 := rfl
  have e1 : (65535 : Int32).toInt = 65535 := rfl
  have hc : c.toInt = c.toBitVec.toNat := by
    have := c.toBitVec.isLt
    have e : c.toInt = c.toBitVec.toInt := rfl
    rw [e] at h0 h1
    rw [e]
    rw [BitVec.toInt_eq_toNat_cond] at h0 h1 ⊢
    split at h0 <;> split <;> omega
  have hn : c.toBitVec.toNat < 65536 := by omega
  have a1 := lo8_and c
  have a2 : (hi8 c &&& 255).toBitVec.toNat = c.toBitVec.toNat / 256 := by
    rw [hi8, lo8_and]
    have e : ((8 : Int32) &&& 31) = 8 := by decide
    rw [e, Int32.toBitVec_shiftRight]
    have e2 : ((8 : Int32).toBitVec.smod 32) = 8#32 := by decide
    rw [e2, BitVec.sshiftRight_eq', BitVec.toNat_sshiftRight_of_msb_false (by rw [BitVec.msb_eq_false_iff_two_mul_lt]; omega)]
    show c.toBitVec.toNat >>> 8 % 256 = _
    rw [Nat.shiftRight_eq_div_pow]
    omega
  unfold pairCh
  apply Int32.toBitVec_inj.mp
  apply BitVec.eq_of_toNat_eq
  have f0 : ((0 : Int32) &&& 31) = 0 := by decide
  have f8 : ((8 : Int32) &&& 31) = 8 := by decide
  rw [f0, f8]
  have g : (((lo8 c &&& 255) <<< (0 : Int32)) ||| ((hi8 c &&& 255) <<< (8 : Int32))).toBitVec.toNat = c.toBitVec.toNat := by
    rw [Int32.toBitVec_or, Int32.toBitVec_shiftLeft, Int32.toBitVec_shiftLeft]
    have s0 : ((0 : Int32).toBitVec.smod 32) = 0#32 := by decide
    have s8 : ((8 : Int32).toBitVec.smod 32) = 8#32 := by decide
    rw [s0, s8, BitVec.toNat_or]
    simp only [BitVec.shiftLeft_eq', BitVec.toNat_shiftLeft, a1, a2]
    show (c.toBitVec.toNat % 256) <<< 0 % 2 ^ 32 ||| (c.toBitVec.toNat / 256) <<< 8 % 2 ^ 32 = _
    rw [Nat.shiftLeft_zero, Nat.mod_eq_of_lt (show c.toBitVec.toNat % 256 < 2 ^ 32 by omega), Nat.mod_eq_of_lt (show (c.toBitVec.toNat / 256) <<< 8 < 2 ^ 32 by rw [Nat.shiftLeft_eq]; omega), Nat.or_comm, ← Nat.shiftLeft_add_eq_or_of_lt (by omega), Nat.shiftLeft_eq]
    omega
  show BitVec.toNat (((((lo8 c &&& 255) <<< (0 : Int32)) ||| ((hi8 c &&& 255) <<< (8 : Int32))).toBitVec.setWidth 16).setWidth 32) = _
  rw [BitVec.toNat_setWidth, BitVec.toNat_setWidth, g]
  omega
end StrChars
namespace StrChars
open Jvm Sem ClassFile Op Lib Jvm.Stand Jvm.Free.XT Jvm.Free.ALB Jvm.Free.JM Jvm.Free
open Jvm.Lib.Cold (StaticIs)
/-- charAt's cast of a byte read back -/
def chr8 (u : Int32) : Int32 := (u &&& 255).toUInt32.toUInt16.toUInt32.toInt32
theorem chr8_lo8 {c : Int32} (h0 : ¬ c < 0) (h1 : ¬ 255 < c) : chr8 (lo8 c) = c := by
  have t : ∀ k : Fin 256, (Int32.ofNat k.val).toUInt32.toUInt16.toUInt32.toInt32 = Int32.ofNat k.val := by decide +kernel
  unfold chr8
  rw [lo8_mask h0 h1]
  rw [Int32.lt_iff_toInt_lt] at h0 h1
  have e0 : (0 : Int32).toInt = 0 := rfl
  have e1 : (255 : Int32).toInt = 255 := rfl
  obtain ⟨k, hk⟩ : ∃ k : Nat, c.toInt = k := ⟨c.toInt.toNat, by omega⟩
  have hx : c = Int32.ofNat k := Int32.toInt_inj.mp (by rw [hk, Int32.toInt_ofNat_small (by omega)])
  rw [hx]
  exact t ⟨k, by omega⟩
theorem narrow_ch {c : Int32} (h0 : ¬ c < 0) (h1 : ¬ 65535 < c) : narrow .char (.int c) = .int c := by
  have q : narrow .char (.int (pairCh (lo8 c) (hi8 c))) = .int (pairCh (lo8 c) (hi8 c)) := narrow_c _
  rwa [pair_says h0 h1] at q
/-- the array's cell V codes the n chars f 0 .. f (n - 1) by the coder cd, as the JDK does: coder 1 just where some char is above 255 -/
def Cod (cd : Int32) (n : Nat) (f : Nat → Int32) (V : Cell) : Prop := (cd = 0 ∧ V.slots.size = n ∧ ∀ j, j < n → V.slots[j]? = some (.int (lo8 (f j))) ∧ ¬ 255 < f j) ∨ (cd = 1 ∧ V.slots.size = 2 * n ∧ (∀ j, j < n → V.slots[2 * j]? = some (.int (lo8 (f j))) ∧ V.slots[2 * j + 1]? = some (.int (hi8 (f j)))) ∧ ∃ j, j < n ∧ 255 < f j)
theorem Cod.cd {cd : Int32} {n : Nat} {f : Nat → Int32} {V : Cell} (h : Cod cd n f V) : cd = 0 ∨ cd = 1 := h.imp (fun q => q.1) fun q => q.1
/-- **x is a String of the n chars f 0 .. f (n - 1)**, Latin-1 or UTF-16; its array at t has the cell V -/
def Txt (x t : Addr) (V : Cell) (cd : Int32) (n : Nat) (f : Nat → Int32) (U : State) : Prop := Exact "java/lang/String" x U ∧ Has x "java/lang/String" "value" "[B" (.ref t) U ∧ Has x "java/lang/String" "coder" "B" (.int cd) U ∧ XT.Arr .byte t V U ∧ Cod cd n f V ∧ ∀ j, j < n → ¬ f j < 0 ∧ ¬ 65535 < f j
theorem Txt.mv {x t : Addr} {V : Cell} {cd : Int32} {n : Nat} {f : Nat → Int32} {U U' : State} (h : Txt x t V cd n f U) (hal : U.vm.Alike U'.vm) (hh : U'.heap = U.heap) : Txt x t V cd n f U' := ⟨h.1.mv hal hh, h.2.1.mv hal hh, h.2.2.1.mv hal hh, h.2.2.2.1.mv hal hh, h.2.2.2.2⟩
namespace IsL
def yN : MethodName := ⟨"java/lang/String", "isLatin1", "()Z"⟩
abbrev yB : ByteArray := jdk_42_method_154_code
theorem d0 : decode yB 0 = .ok (.getstatic 38, 3) := by decide +kernel
theorem d3 : decode yB 3 = .ok (.ifCond (.eq) 14, 3) := by decide +kernel
theorem d6 : decode yB 6 = .ok (.aload_n 0, 1) := by decide +kernel
theorem d7 : decode yB 7 = .ok (.getfield 15, 3) := by decide +kernel
theorem d10 : decode yB 10 = .ok (.ifCond (.ne) 7, 3) := by decide +kernel
theorem d13 : decode yB 13 = .ok (.iconst 1, 1) := by decide +kernel
theorem d14 : decode yB 14 = .ok (.goto 4, 3) := by decide +kernel
theorem d17 : decode yB 17 = .ok (.iconst 0, 1) := by decide +kernel
theorem d18 : decode yB 18 = .ok (.ireturn, 1) := by decide +kernel
def site : List Cond := [.fieldLink "java/lang/String" 38 "java/lang/String" "COMPACT_STRINGS" "Z", .fieldLink "java/lang/String" 15 "java/lang/String" "coder" "B"]
def tab : Cond := tabOf yN yB 1 (some .boolean) site
def P (x : Addr) (cd z : Int32) (args : Array Value) (s : State) : Prop := args = #[.ref x] ∧ Has x "java/lang/String" "coder" "B" (.int cd) s ∧ (cd = 0 ∨ cd = 1) ∧ StaticIs s "java/lang/String" "COMPACT_STRINGS" "Z" (.int z) ∧ ¬ z = 0
def E (cd : Int32) (r : Option Value) (s u : State) : Prop := XT.PureE (some (.int (1 - cd))) r s u
theorem law (l : Launch) (x : Addr) (cd z : Int32) : Law l yN 1 0 0 0 yB 1 (some .boolean) site (P x cd z) (E cd) [] 0 0 := by
  refine Law.of_walk (plainFor_of_name (by decide +kernel)) (by decide +kernel) (by decide +kernel) (by decide) (fun _ _ h => by rw [h.1]; rfl) (fun _ U U' hal hh h => ⟨h.1, h.2.1.mv hal hh, h.2.2.1, h.2.2.2.1.there hal hh, h.2.2.2.2⟩) (fun r U U' V V' h1 hal h2 h => XT.PureE.mv r U U' V V' h1 hal h2 h) ?_
  intro p e s m args below meth c s₁ X0 hexec hbytes hml hret hlk hnm hown hh0 W hP
  obtain ⟨rfl, hx, hc, s1, hz⟩ := hP
  have c1 : Steps p.tables e below (s₁.setTop (entryFrame m #[.ref x] 1)) (s₁.setTop (mkF m 0 #[.val (.ref x)] [])) := entry rfl
  obtain ⟨T2, X2, q2, st2⟩ := X0.sget hexec hown (wk W (.fieldLink "java/lang/String" 38 "java/lang/String" "COMPACT_STRINGS" "Z")) s1 (fun _ _ h => by rw [hh0]; exact h) (g := (mkF m 0 #[.val (.ref x)] [])) rfl (hb hbytes d0)
  have hh2 := q2.trans hh0
  have c3 : Steps p.tables e below (s₁.setTop (entryFrame m #[.ref x] 1)) (T2.setTop (mkF m 7 #[.val (.ref x)] [.ref x])) := (c1.trans (st2 _ (Steps.refl _))).trans (by
    refine XS.ifNo X2.here hexec rfl (hb hbytes d3) rfl (i0_eq_f hz) ?_
    refine XS.aloadN X2.here hexec rfl (hb hbytes d6) rfl rfl ?_
    exact Steps.refl _)
  obtain ⟨T4, X4, q4, st4⟩ := X2.hget hexec hown (wk W (.fieldLink "java/lang/String" 15 "java/lang/String" "coder" "B")) (hx.mv X2.warmed.alike hh2) (g := (mkF m 7 #[.val (.ref x)] [.ref x])) rfl (rest := []) rfl (hb hbytes d7)
  have c5 : Steps p.tables e below (s₁.setTop (entryFrame m #[.ref x] 1)) (T4.setTop (mkF m 10 #[.val (.ref x)] [.int cd])) := c3.trans (st4 _ (Steps.refl _))
  have c6 : Steps p.tables e below (s₁.setTop (entryFrame m #[.ref x] 1)) (T4.setTop (mkF m 18 #[.val (.ref x)] [.int (1 - cd)])) := by
    rcases hc with rfl | rfl
    · exact c5.trans (by
        refine XS.ifNo X4.here hexec rfl (hb hbytes d10) rfl (i0_ne_f rfl) ?_
        refine iconstV X4.here hexec rfl 1 (hb hbytes d13) (by decide) ?_
        refine XS.goto X4.here hexec rfl (pc0 := 14) rfl (hb hbytes d14) (by decide) rfl ?_
        exact Steps.refl _)
    · exact c5.trans (by
        refine XS.ifYes X4.here hexec rfl (pc0 := 10) rfl (hb hbytes d10) rfl (i0_ne_t (by decide)) (by decide) rfl ?_
        refine iconstV X4.here hexec rfl 0 (hb hbytes d17) (by decide) ?_
        exact Steps.refl _)
  exact ⟨T4, some (.int (1 - cd)), _, _, _, X4, rfl, rfl, rfl, (fun h => by cases h), ⟨rfl, q4.trans hh2⟩, fun fs hl => c6.trans (X4.ireturnOut hexec hret (by rcases hc with rfl | rfl <;> rfl) (Or.inr (Or.inl rfl)) (hb hbytes d18) hl)⟩
end IsL
namespace LChA
def yN : MethodName := ⟨"java/lang/StringLatin1", "charAt", "([BI)C"⟩
abbrev yB : ByteArray := jdk_43_method_2_code
theorem d0 : decode yB 0 = .ok (.iload_n 1, 1) := by decide +kernel
theorem d1 : decode yB 1 = .ok (.aload_n 0, 1) := by decide +kernel
theorem d2 : decode yB 2 = .ok (.arraylength, 1) := by decide +kernel
theorem d3 : decode yB 3 = .ok (.invokestatic 9, 3) := by decide +kernel
theorem d6 : decode yB 6 = .ok (.aload_n 0, 1) := by decide +kernel
theorem d7 : decode yB 7 = .ok (.iload_n 1, 1) := by decide +kernel
theorem d8 : decode yB 8 = .ok (.baload, 1) := by decide +kernel
theorem d9 : decode yB 9 = .ok (.sipush 255, 3) := by decide +kernel
theorem d12 : decode yB 12 = .ok (.iand, 1) := by decide +kernel
theorem d13 : decode yB 13 = .ok (.i2c, 1) := by decide +kernel
theorem d14 : decode yB 14 = .ok (.ireturn, 1) := by decide +kernel
def site : List Cond := [JO.Str_checkIndex.tab] ++ staticW "java/lang/StringLatin1" 9 JO.Str_checkIndex.yN
def tab : Cond := tabOf yN yB 2 (some .char) site
def P (t : Addr) (V : Cell) (i : Nat) (u : Int32) (fm : Value) (args : Array Value) (s : State) : Prop := args = #[.ref t, .int (Int32.ofNat i)] ∧ XT.Arr .byte t V s ∧ V.slots[i]? = some (.int u) ∧ (StaticIs s "jdk/internal/util/Preconditions" "SIOOBE_FORMATTER" "Ljava/util/function/BiFunction;" fm ∧ fm.isRef = true)
def E (u : Int32) (r : Option Value) (s w : State) : Prop := XT.PureE (some (.int (chr8 u))) r s w
theorem law (l : Launch) (t : Addr) (V : Cell) (i : Nat) (u : Int32) (fm : Value) : Law l yN 2 2 2 27 yB 2 (some .char) site (P t V i u fm) (E u) [] 0 0 := by
  refine Law.of_walk (plainFor_of_name (by decide +kernel)) (by decide +kernel) (by decide +kernel) (by decide) (fun _ _ h => by rw [h.1]; rfl) (fun _ U U' hal hh h => ⟨h.1, h.2.1.mv hal hh, h.2.2.1, h.2.2.2.1.there hal hh, h.2.2.2.2⟩) (fun r U U' V V' h1 hal h2 h => XT.PureE.mv r U U' V V' h1 hal h2 h) ?_
  intro p e s m args below meth c s₁ X0 hexec hbytes hml hret hlk hnm hown hh0 W hP
  obtain ⟨rfl, hV, hu, s1, rf⟩ := hP
  have v31 := hV.2.2.2
  have hi : i < V.slots.size := (Array.getElem?_eq_some_iff.mp hu).1
  have c1 : Steps p.tables e below (s₁.setTop (entryFrame m #[.ref t, .int (Int32.ofNat i)] 2)) (s₁.setTop (mkF m 0 #[.val (.ref t), .val (.int (Int32.ofNat i))] [])) := entry rfl
  have c2 : Steps p.tables e below (s₁.setTop (entryFrame m #[.ref t, .int (Int32.ofNat i)] 2)) (s₁.setTop (mkF m 3 #[.val (.ref t), .val (.int (Int32.ofNat i))] [.int (Int32.ofNat V.slots.size), .int (Int32.ofNat i)])) := c1.trans (by
    refine XS.iloadN X0.here hexec rfl (hb hbytes d0) rfl ?_
    refine XS.aloadN X0.here hexec rfl (hb hbytes d1) rfl rfl ?_
    refine X0.alen hexec (hV.mv X0.warmed.alike hh0) rfl rfl (hb hbytes d2) ?_
    exact Steps.refl _)
  obtain ⟨v3, T3, X3, E3, g3⟩ := X0.callS hexec (JO.Str_checkIndex.law l (Int32.ofNat i) (Int32.ofNat V.slots.size) fm) hown (wks W (staticW "java/lang/StringLatin1" 9 JO.Str_checkIndex.yN)) (wk W JO.Str_checkIndex.tab) (W := 0) (Nat.le_of_ble_eq_true rfl) (Nat.le_of_ble_eq_true rfl) (Nat.le_refl _) (Nat.le_refl _) (g := (mkF m 3 #[.val (.ref t), .val (.int (Int32.ofNat i))] [.int (Int32.ofNat V.slots.size), .int (Int32.ofNat i)])) rfl (by rw [hml]; rfl) c2 (argsL := [.int (Int32.ofNat i), .int (Int32.ofNat V.slots.size)]) (rest := []) rfl rfl (by show 2 * 0 + 0 ≤ _; decide) (hb hbytes d3) (⟨rfl, rf, s1.there X0.warmed.alike hh0, Int32.ofNat_not_neg (by omega), lt32 v31 hi⟩)
  obtain ⟨rfl, q3⟩ := E3
  have hh3 := q3.trans hh0
  have c4 : Steps p.tables e below (s₁.setTop (entryFrame m #[.ref t, .int (Int32.ofNat i)] 2)) (T3.setTop (mkF m 14 #[.val (.ref t), .val (.int (Int32.ofNat i))] [.int (chr8 u)])) := Steps.trans g3 (by
    refine XS.aloadN X3.here hexec rfl (hb hbytes d6) rfl rfl ?_
    refine XS.iloadN X3.here hexec rfl (hb hbytes d7) rfl ?_
    refine X3.aget hexec (hV.mv X3.warmed.alike hh3) rfl hu rfl rfl (hb hbytes d8) ?_
    refine sipushV X3.here hexec rfl 255 (hb hbytes d9) (by decide) ?_
    refine XS.iand X3.here hexec rfl (hb hbytes d12) rfl ?_
    refine i2c X3.here hexec rfl (hb hbytes d13) rfl ?_
    exact Steps.refl _)
  exact ⟨T3, some (.int (chr8 u)), _, _, _, X3, rfl, rfl, rfl, (fun h => by cases h), ⟨rfl, hh3⟩, fun fs hl => c4.trans (X3.ireturnOut hexec hret (narrow_c _) (Or.inr (Or.inr (Or.inr (Or.inl rfl)))) (hb hbytes d14) hl)⟩
end LChA
end StrChars
namespace StrChars.Road
open Jvm Sem ClassFile Op Lib Jvm.Stand Jvm.Free Jvm.Free.XT
open Jvm.Lib.Cold (StaticIs)
theorem consq {a : Array Value} {s : State} {c : Jvm.Cond} {L : List Jvm.Cond} (h0 : c.before a s = true) (h : ∀ w ∈ L, w.before a s = true) : ∀ w ∈ c :: L, w.before a s = true := fun w hw => (List.mem_cons.mp hw).elim (fun e => e ▸ h0) (h w)
/-- the bytes of the chars cs, low before high -/
def wideBytes : List Int32 → List Value
  | [] => []
  | c :: cs => .int (lo8 c) :: .int (hi8 c) :: wideBytes cs
theorem wide_lo (d : Value) : ∀ (cs : List Int32) (j : Nat), j < cs.length → (wideBytes cs).getD (2 * j) d = .int (lo8 (cs.getD j 0))
  | [], j, h => absurd h (Nat.not_lt_zero j)
  | c :: cs, 0, _ => rfl
  | c :: cs, j + 1, h => by
    have q := wide_lo d cs j (by simpa using h)
    rw [show 2 * (j + 1) = 2 * j + 1 + 1 from by omega]
    simpa [wideBytes] using q
theorem wide_hi (d : Value) : ∀ (cs : List Int32) (j : Nat), j < cs.length → (wideBytes cs).getD (2 * j + 1) d = .int (hi8 (cs.getD j 0))
  | [], j, h => absurd h (Nat.not_lt_zero j)
  | c :: cs, 0, _ => rfl
  | c :: cs, j + 1, h => by
    have q := wide_hi d cs j (by simpa using h)
    rw [show 2 * (j + 1) + 1 = 2 * j + 1 + 1 + 1 from by omega]
    simpa [wideBytes] using q
theorem low_at (d : Value) (cs : List Int32) (j : Nat) (h : j < cs.length) : (cs.map fun c => Value.int (lo8 c)).getD j d = .int (lo8 (cs.getD j 0)) := by
  simp [List.getD_eq_getElem?_getD, h]
/-- an array of N2 bytes vs codes the chars cs by the coder cd -/
def CodA (cs : List Int32) (cd N2 : Int32) (vs : List Value) : Prop := (cd = 0 ∧ N2 = Int32.ofNat cs.length ∧ vs = (cs.map fun c => Value.int (lo8 c)) ∧ ∀ c ∈ cs, ¬ 255 < c) ∨ (cd = 1 ∧ N2 = Int32.ofNat (2 * cs.length) ∧ vs = wideBytes cs ∧ ∃ c ∈ cs, 255 < c)
theorem CodA.cod {cs : List Int32} {cd N2 : Int32} {vs : List Value} {V : Cell} (h : CodA cs cd N2 vs) (hn : 2 * cs.length < 2 ^ 31) (hs : V.slots.size = N2.toNatClampNeg) (hv : RoadKit.Has V vs (.int 0)) : Cod cd cs.length (fun j => cs.getD j 0) V := by
  rcases h with ⟨rfl, rfl, rfl, h⟩ | ⟨rfl, rfl, rfl, c, hc, hw⟩
  · rw [n32 (by omega)] at hs
    exact Or.inl ⟨rfl, hs, fun j hj => ⟨by rw [hv j (by omega), low_at _ _ _ hj], by
      have e : cs.getD j 0 = cs[j] := by simp [List.getD_eq_getElem?_getD, hj]
      show ¬ 255 < cs.getD j 0
      rw [e]; exact h _ (List.getElem_mem _)⟩⟩
  · rw [n32 (by omega)] at hs
    obtain ⟨j, hj, rfl⟩ := List.getElem_of_mem hc
    exact Or.inr ⟨rfl, hs, fun j hj => ⟨by rw [hv _ (by omega), wide_lo _ _ _ hj], by rw [hv _ (by omega), wide_hi _ _ _ hj]⟩, j, hj, by
      have e : cs.getD j 0 = cs[j] := by simp [List.getD_eq_getElem?_getD, hj]
      show 255 < cs.getD j 0
      rw [e]; exact hw⟩
/-- an object of exactly java/lang/String, its two fields found: as the laws ask it -/
theorem strObj {Z U : State} {a0 : Array Value} {kI : Nat} (wi : (Jvm.Cond.instantiable ST kI).before a0 Z = true) (al : Z.vm.Alike U.vm) {x : Addr} {v0 c0 : Value} (E : RoadKit.Exa Z U.heap x ST) (V : RoadKit.Fld Z U.heap x ST "value" "[B" v0) (C : RoadKit.Fld Z U.heap x ST "coder" "B" c0) :
    ∃ (D : Cell) (fV fC : Field), Blank ST x D U ∧ Found ST "value" "[B" fV U ∧ Found ST "coder" "B" fC U ∧ D.slots[fV.slot]? = some v0 ∧ D.slots[fC.slot]? = some c0 ∧ RoadKit.slotOf Z ST "value" "[B" = fV.slot ∧ RoadKit.slotOf Z ST "coder" "B" = fC.slot := by
  obtain ⟨D, cfV, kV, iV, fV, hD, gV, stV, knV, obV, asV, slV⟩ := V
  obtain ⟨D', cfC, kC, iC, fC, hD', gC, stC, -, -, asC, slC⟩ := C
  cases hD.symm.trans hD'
  obtain ⟨D2, kD, e1, e2, e3, e4, e5⟩ := E
  cases hD.symm.trans e1
  obtain ⟨c2, k2, i1, i2, i3, -⟩ := Cond.instantiable_spec wi
  cases e2.symm.trans i1
  cases e3.symm.trans i2
  obtain ⟨kU, u1, u2⟩ := al.2.2 _ _ e3
  exact ⟨D, fV, fC, ⟨hD, ⟨knV, fun q hq => by rw [hq] at obV; cases obV⟩, by rw [al.findClass]; exact e2, kU, u1, by rw [u2]; exact i3, by rw [u2]; exact e5 i3⟩, ⟨SBG.found_only al ⟨cfV, kV, iV, gV⟩, stV⟩, ⟨SBG.found_only al ⟨cfC, kC, iC, gC⟩, stC⟩, slV, slC, by simp [RoadKit.slotOf, gV], by simp [RoadKit.slotOf, gC]⟩
theorem sta_is {Z U : State} (al : Z.vm.Alike U.vm) {C n d : String} {v : Value} (S : RoadKit.Sta Z U.heap C n d v) : StaticIs U C n d v := by
  obtain ⟨cfS, iS, kS, fS, st, cS, t1, t2, t3, t4, t5, t6, t7⟩ := S
  exact StaticIs.there (s := { Z with heap := U.heap }) ⟨cfS, iS, kS, fS, st, cS, t1, t2, t3, t4, t5, (fun q => by rw [q] at t6; cases t6), t7⟩ al rfl
end StrChars.Road
namespace StrChars
open Jvm Sem ClassFile Op Lib Jvm.Stand Jvm.Free.XT Jvm.Free.ALB Jvm.Free.JM Jvm.Free
open Jvm.Lib.Cold (StaticIs)
/-- what place i of a byte[]'s cell holds -/
def yv (A : Cell) (i : Nat) : Int32 := match A.slots[i]? with | some (.int x) => x | _ => 0
theorem yv_get {a : Addr} {A : Cell} {U : State} (h : XT.Arr .byte a A U) (ht : Typed .byte A) {i : Nat} (hi : i < A.slots.size) : A.slots[i]? = some (.int (yv A i)) := by
  have e := Array.getElem?_eq_getElem hi
  have f := ht i _ e
  unfold yv; rw [e]
  generalize A.slots[i] = v at f
  cases v <;> simp [fits] at f ⊢
/-- the two arrays are equal, place for place -/
def EqC (A B : Cell) : Prop := A.slots.size = B.slots.size ∧ ∀ i, i < A.slots.size → yv A i = yv B i
/-- a boolean that says whether p -/
def Says01 (q : Prop) (r : Option Value) (s u : State) : Prop := ∃ v : Int32, r = some (.int v) ∧ u.heap = s.heap ∧ ((v = 1 ∧ q) ∨ (v = 0 ∧ ¬ q))
theorem Says01.mv {q : Prop} : ∀ r (U U' V V' : State), U'.heap = U.heap → V.vm.Alike V'.vm → V'.heap = V.heap → Says01 q r U V → Says01 q r U' V' :=
  fun r U U' V V' h1 _ h2 ⟨v, a, b, c⟩ => ⟨v, a, by rw [h1, h2]; exact b, c⟩
namespace LEq
def yN : MethodName := ⟨"java/lang/StringLatin1", "equals", "([B[B)Z"⟩
abbrev yB : ByteArray := jdk_43_method_13_code
theorem d0 : decode yB 0 = .ok (.aload_n 0, 1) := by decide +kernel
theorem d1 : decode yB 1 = .ok (.arraylength, 1) := by decide +kernel
theorem d2 : decode yB 2 = .ok (.aload_n 1, 1) := by decide +kernel
theorem d3 : decode yB 3 = .ok (.arraylength, 1) := by decide +kernel
theorem d4 : decode yB 4 = .ok (.if_icmp (.ne) 30, 3) := by decide +kernel
theorem d7 : decode yB 7 = .ok (.iconst 0, 1) := by decide +kernel
theorem d8 : decode yB 8 = .ok (.istore_n 2, 1) := by decide +kernel
theorem d9 : decode yB 9 = .ok (.iload_n 2, 1) := by decide +kernel
theorem d10 : decode yB 10 = .ok (.aload_n 0, 1) := by decide +kernel
theorem d11 : decode yB 11 = .ok (.arraylength, 1) := by decide +kernel
theorem d12 : decode yB 12 = .ok (.if_icmp (.ge) 20, 3) := by decide +kernel
theorem d15 : decode yB 15 = .ok (.aload_n 0, 1) := by decide +kernel
theorem d16 : decode yB 16 = .ok (.iload_n 2, 1) := by decide +kernel
theorem d17 : decode yB 17 = .ok (.baload, 1) := by decide +kernel
theorem d18 : decode yB 18 = .ok (.aload_n 1, 1) := by decide +kernel
theorem d19 : decode yB 19 = .ok (.iload_n 2, 1) := by decide +kernel
theorem d20 : decode yB 20 = .ok (.baload, 1) := by decide +kernel
theorem d21 : decode yB 21 = .ok (.if_icmp (.eq) 5, 3) := by decide +kernel
theorem d24 : decode yB 24 = .ok (.iconst 0, 1) := by decide +kernel
theorem d25 : decode yB 25 = .ok (.ireturn, 1) := by decide +kernel
theorem d26 : decode yB 26 = .ok (.iinc 2 1, 3) := by decide +kernel
theorem d29 : decode yB 29 = .ok (.goto (-20), 3) := by decide +kernel
theorem d32 : decode yB 32 = .ok (.iconst 1, 1) := by decide +kernel
theorem d33 : decode yB 33 = .ok (.ireturn, 1) := by decide +kernel
theorem d34 : decode yB 34 = .ok (.iconst 0, 1) := by decide +kernel
theorem d35 : decode yB 35 = .ok (.ireturn, 1) := by decide +kernel
def site : List Cond := []
def tab : Cond := tabOf yN yB 3 (some .boolean) site
def P (a : Addr) (A : Cell) (b : Addr) (B : Cell) (args : Array Value) (s : State) : Prop := args = #[.ref a, .ref b] ∧ XT.Arr .byte a A s ∧ Typed .byte A ∧ XT.Arr .byte b B s ∧ Typed .byte B
/-- whether two byte[] are equal, place for place -/
theorem law (l : Launch) (a : Addr) (A : Cell) (b : Addr) (B : Cell) : Law l yN 2 2 0 0 yB 3 (some .boolean) site (P a A b B) (Says01 (EqC A B)) [] 0 0 := by
  refine Law.of_walk (plainFor_of_name (by decide +kernel)) (by decide +kernel) (by decide +kernel) (by decide) (fun _ _ h => by rw [h.1]; rfl) (fun _ U U' hal hh h => ⟨h.1, h.2.1.mv hal hh, h.2.2.1, h.2.2.2.1.mv hal hh, h.2.2.2.2⟩) (fun r U U' V V' h1 hal h2 h => Says01.mv r U U' V V' h1 hal h2 h) ?_
  intro p e s m args below meth c s₁ X0 hexec hbytes hml hret hlk hnm hown hh0 W hP
  obtain ⟨rfl, hA, tA, hB, tB⟩ := hP
  have a31 := hA.2.2.2
  have b31 := hB.2.2.2
  have hA0 := hA.mv X0.warmed.alike hh0
  have hB0 := hB.mv X0.warmed.alike hh0
  have c1 : Steps p.tables e below (s₁.setTop (entryFrame m #[.ref a, .ref b] 3)) (s₁.setTop (mkF m 0 #[.val (.ref a), .val (.ref b), .unset] [])) := entry rfl
  have c2 : Steps p.tables e below (s₁.setTop (entryFrame m #[.ref a, .ref b] 3)) (s₁.setTop (mkF m 4 #[.val (.ref a), .val (.ref b), .unset] [.int (Int32.ofNat B.slots.size), .int (Int32.ofNat A.slots.size)])) := c1.trans (by
    refine XS.aloadN X0.here hexec rfl (hb hbytes d0) rfl rfl ?_
    refine X0.alen hexec hA0 rfl rfl (hb hbytes d1) ?_
    refine XS.aloadN X0.here hexec rfl (hb hbytes d2) rfl rfl ?_
    refine X0.alen hexec hB0 rfl rfl (hb hbytes d3) ?_
    exact Steps.refl _)
  by_cases hs : A.slots.size = B.slots.size
  · have c3 : Steps p.tables e below (s₁.setTop (entryFrame m #[.ref a, .ref b] 3)) (s₁.setTop (mkF m 9 #[.val (.ref a), .val (.ref b), .val (.int 0)] [])) := c2.trans (by
      refine XS.icmpNo X0.here hexec rfl (hb hbytes d4) rfl (ii_ne_f (by rw [hs])) ?_
      refine iconstV X0.here hexec rfl 0 (hb hbytes d7) (by decide) ?_
      refine XS.istoreN X0.here hexec rfl (hb hbytes d8) rfl rfl ?_
      exact Steps.refl _)
    have loop : ∀ (r i : Nat), i + r = A.slots.size → (∀ j, j < i → yv A j = yv B j) → Steps p.tables e below (s₁.setTop (entryFrame m #[.ref a, .ref b] 3)) (s₁.setTop (mkF m 9 #[.val (.ref a), .val (.ref b), .val (.int (Int32.ofNat i))] [])) → ∃ (pc : Nat) (Ls : Array Slot) (v : Int32), (pc = 25 ∨ pc = 33) ∧ ((v = 1 ∧ EqC A B) ∨ (v = 0 ∧ ¬ EqC A B)) ∧ Steps p.tables e below (s₁.setTop (entryFrame m #[.ref a, .ref b] 3)) (s₁.setTop (mkF m pc Ls [.int v])) := by
      intro r
      induction r with
      | zero =>
        intro i hi he cl
        exact ⟨33, _, 1, Or.inr rfl, Or.inl ⟨rfl, hs, fun j hj => he j (by omega)⟩, cl.trans (by
          refine XS.iloadN X0.here hexec rfl (hb hbytes d9) rfl ?_
          refine XS.aloadN X0.here hexec rfl (hb hbytes d10) rfl rfl ?_
          refine X0.alen hexec hA0 rfl rfl (hb hbytes d11) ?_
          refine XS.icmpYes X0.here hexec rfl (pc0 := 12) rfl (hb hbytes d12) rfl (ii_ge_t (nlt32 (by omega) (by omega))) (by decide) rfl ?_
          refine iconstV X0.here hexec rfl 1 (hb hbytes d32) (by decide) ?_
          exact Steps.refl _)⟩
      | succ r ih =>
        intro i hi he cl
        have c4 : Steps p.tables e below (s₁.setTop (entryFrame m #[.ref a, .ref b] 3)) (s₁.setTop (mkF m 21 #[.val (.ref a), .val (.ref b), .val (.int (Int32.ofNat i))] [.int (yv B i), .int (yv A i)])) := cl.trans (by
          refine XS.iloadN X0.here hexec rfl (hb hbytes d9) rfl ?_
          refine XS.aloadN X0.here hexec rfl (hb hbytes d10) rfl rfl ?_
          refine X0.alen hexec hA0 rfl rfl (hb hbytes d11) ?_
          refine XS.icmpNo X0.here hexec rfl (hb hbytes d12) rfl (ii_ge_f (lt32 (by omega) (by omega))) ?_
          refine XS.aloadN X0.here hexec rfl (hb hbytes d15) rfl rfl ?_
          refine XS.iloadN X0.here hexec rfl (hb hbytes d16) rfl ?_
          refine X0.aget hexec hA0 rfl (yv_get hA tA (i := i) (by omega)) rfl rfl (hb hbytes d17) ?_
          refine XS.aloadN X0.here hexec rfl (hb hbytes d18) rfl rfl ?_
          refine XS.iloadN X0.here hexec rfl (hb hbytes d19) rfl ?_
          refine X0.aget hexec hB0 rfl (yv_get hB tB (i := i) (by omega)) rfl rfl (hb hbytes d20) ?_
          exact Steps.refl _)
        by_cases hv : yv A i = yv B i
        · have c5 : Steps p.tables e below (s₁.setTop (entryFrame m #[.ref a, .ref b] 3)) (s₁.setTop (mkF m 9 #[.val (.ref a), .val (.ref b), .val (.int (Int32.ofNat i + 1))] [])) := c4.trans (by
            refine XS.icmpYes X0.here hexec rfl (pc0 := 21) rfl (hb hbytes d21) rfl (ii_eq_t hv) (by decide) rfl ?_
            refine iincV X0.here hexec rfl 1 (hb hbytes d26) (by decide) rfl rfl ?_
            refine XS.goto X0.here hexec rfl (pc0 := 29) rfl (hb hbytes d29) (by decide) rfl ?_
            exact Steps.refl _)
          rw [succ32] at c5
          exact ih (i + 1) (by omega) (fun j hj => by
            by_cases e : j = i
            · rw [e]; exact hv
            · exact he j (by omega)) c5
        · exact ⟨25, _, 0, Or.inl rfl, Or.inr ⟨rfl, fun q => hv (q.2 i (by omega))⟩, c4.trans (by
            refine XS.icmpNo X0.here hexec rfl (hb hbytes d21) rfl (ii_eq_f hv) ?_
            refine iconstV X0.here hexec rfl 0 (hb hbytes d24) (by decide) ?_
            exact Steps.refl _)⟩
    obtain ⟨pc, Ls, v, hpc, hv, cz⟩ := loop A.slots.size 0 (by omega) (fun j hj => absurd hj (Nat.not_lt_zero j)) c3
    have nv : narrow .boolean (.int v) = .int v := by rcases hv with ⟨rfl, -⟩ | ⟨rfl, -⟩ <;> rfl
    rcases hpc with rfl | rfl
    · exact ⟨s₁, some (.int v), _, _, _, X0, rfl, rfl, rfl, (fun h => by cases h), ⟨v, rfl, hh0, hv⟩, fun fs hl => cz.trans (X0.ireturnOut hexec hret nv (Or.inr (Or.inl rfl)) (hb hbytes d25) hl)⟩
    · exact ⟨s₁, some (.int v), _, _, _, X0, rfl, rfl, rfl, (fun h => by cases h), ⟨v, rfl, hh0, hv⟩, fun fs hl => cz.trans (X0.ireturnOut hexec hret nv (Or.inr (Or.inl rfl)) (hb hbytes d33) hl)⟩
  · have c3 : Steps p.tables e below (s₁.setTop (entryFrame m #[.ref a, .ref b] 3)) (s₁.setTop (mkF m 35 #[.val (.ref a), .val (.ref b), .unset] [.int 0])) := c2.trans (by
      refine XS.icmpYes X0.here hexec rfl (pc0 := 4) rfl (hb hbytes d4) rfl (ii_ne_t (ne32 a31 b31 hs)) (by decide) rfl ?_
      refine iconstV X0.here hexec rfl 0 (hb hbytes d34) (by decide) ?_
      exact Steps.refl _)
    exact ⟨s₁, some (.int 0), _, _, _, X0, rfl, rfl, rfl, (fun h => by cases h), ⟨0, rfl, hh0, Or.inr ⟨rfl, fun q => hs q.1⟩⟩, fun fs hl => c3.trans (X0.ireturnOut hexec hret rfl (Or.inr (Or.inl rfl)) (hb hbytes d35) hl)⟩
end LEq
theorem Cod.ty {cd : Int32} {n : Nat} {f : Nat → Int32} {V : Cell} (h : Cod cd n f V) : Typed .byte V := fun i v hv => by
  have hi : i < V.slots.size := (Array.getElem?_eq_some_iff.mp hv).1
  rcases h with ⟨-, k1, k2⟩ | ⟨-, k1, k2, -⟩
  · rw [(k2 i (by omega)).1] at hv; cases hv; exact fits_lo8 _
  · rcases Nat.mod_two_eq_zero_or_one i with e | e
    · obtain ⟨j, rfl⟩ : ∃ j, i = 2 * j := ⟨i / 2, by omega⟩
      rw [(k2 j (by omega)).1] at hv; cases hv; exact fits_lo8 _
    · obtain ⟨j, rfl⟩ : ∃ j, i = 2 * j + 1 := ⟨i / 2, by omega⟩
      rw [(k2 j (by omega)).2] at hv; cases hv; exact fits_lo8 _
/-- the same text -/
def SameT (n : Nat) (f : Nat → Int32) (k : Nat) (g : Nat → Int32) : Prop := n = k ∧ ∀ j, j < n → f j = g j
theorem lo8_inj {x y : Int32} (h0 : ¬ x < 0) (h1 : ¬ 255 < x) (k0 : ¬ y < 0) (k1 : ¬ 255 < y) (h : lo8 x = lo8 y) : x = y := by
  rw [← lo8_mask h0 h1, ← lo8_mask k0 k1, h]
/-- arrays coded by one coder are equal just where the texts are -/
theorem Cod.eqv {cd : Int32} {n k : Nat} {f g : Nat → Int32} {V V' : Cell} (h : Cod cd n f V) (h' : Cod cd k g V') (hf : ∀ j, j < n → ¬ f j < 0 ∧ ¬ 65535 < f j) (hg : ∀ j, j < k → ¬ g j < 0 ∧ ¬ 65535 < g j) : EqC V V' ↔ SameT n f k g := by
  have yvv : ∀ {W : Cell} {i : Nat} {x : Int32}, W.slots[i]? = some (.int x) → yv W i = x := fun q => by unfold yv; rw [q]
  rcases h with ⟨rfl, k1, k2⟩ | ⟨rfl, k1, k2, -⟩
  · rcases h' with ⟨-, m1, m2⟩ | ⟨e, -⟩
    · constructor
      · rintro ⟨e1, e2⟩
        refine ⟨by omega, fun j hj => ?_⟩
        have q := e2 j (by omega)
        rw [yvv (k2 j hj).1, yvv (m2 j (by omega)).1] at q
        exact lo8_inj (hf j hj).1 (k2 j hj).2 (hg j (by omega)).1 (m2 j (by omega)).2 q
      · rintro ⟨rfl, e2⟩
        refine ⟨by omega, fun j hj => ?_⟩
        rw [yvv (k2 j (by omega)).1, yvv (m2 j (by omega)).1, e2 j (by omega)]
    · exact absurd e (by decide)
  · rcases h' with ⟨e, -⟩ | ⟨-, m1, m2, -⟩
    · exact absurd e (by decide)
    · constructor
      · rintro ⟨e1, e2⟩
        refine ⟨by omega, fun j hj => ?_⟩
        have q1 := e2 (2 * j) (by omega)
        have q2 := e2 (2 * j + 1) (by omega)
        rw [yvv (k2 j hj).1, yvv (m2 j (by omega)).1] at q1
        rw [yvv (k2 j hj).2, yvv (m2 j (by omega)).2] at q2
        rw [← pair_says (hf j hj).1 (hf j hj).2, ← pair_says (hg j (by omega)).1 (hg j (by omega)).2, q1, q2]
      · rintro ⟨rfl, e2⟩
        refine ⟨by omega, fun i hi => ?_⟩
        rcases Nat.mod_two_eq_zero_or_one i with e | e
        · obtain ⟨j, rfl⟩ : ∃ j, i = 2 * j := ⟨i / 2, by omega⟩
          rw [yvv (k2 j (by omega)).1, yvv (m2 j (by omega)).1, e2 j (by omega)]
        · obtain ⟨j, rfl⟩ : ∃ j, i = 2 * j + 1 := ⟨i / 2, by omega⟩
          rw [yvv (k2 j (by omega)).2, yvv (m2 j (by omega)).2, e2 j (by omega)]
/-- two codings differ: so do the texts -/
theorem Cod.dif {cd cd' : Int32} {n k : Nat} {f g : Nat → Int32} {V V' : Cell} (h : Cod cd n f V) (h' : Cod cd' k g V') (hne : ¬ cd = cd') : ¬ SameT n f k g := by
  rintro ⟨rfl, e⟩
  rcases h with ⟨rfl, -, k2⟩ | ⟨rfl, -, -, j, hj, hw⟩
  · rcases h' with ⟨rfl, -⟩ | ⟨-, -, -, j, hj, hw⟩
    · exact hne rfl
    · exact (k2 j hj).2 (by rw [e j hj]; exact hw)
  · rcases h' with ⟨-, -, m2⟩ | ⟨rfl, -⟩
    · exact (m2 j hj).2 (by rw [← e j hj]; exact hw)
    · exact hne rfl
/-- an object of exactly C is an instance of C -/
theorem cinst {p : Program} {l : Launch} {e : Env} {R : Room} {s : State} {m : MethodId} {args : Array Value} {below : List Frame} {meth : Method} {c : Code} {T : State} {locs : List Loc} {cells slots : Nat} (X : Stand p l e R s m args below meth c T locs cells slots) (hexec : p.tables.exec = Jvm.exec) {own C : String} {index : Nat} (hown : s.vm.findClass own = some m.cls) (hlink : (Cond.classLink own index C).before args s = true) {a : Addr} (hE : Exact C a T)
    {g : JFrame} (hg : g.method = m) {rest : List Value} (hstack : g.stack = .ref a :: rest) (hdg : decode c.code g.pc = .ok (.instanceof index, 3)) :
    ∃ T', Stand p l e R s m args below meth c T' locs cells slots ∧ T'.heap = T.heap ∧ ∀ target, Steps p.tables e below (T'.setTop { g with pc := g.pc + 3, stack := .int 1 :: rest }) target → Steps p.tables e below (T.setTop g) target := by
  obtain ⟨cB, h1, D, h2, h3, h4⟩ := hE
  have h1' : s.vm.findClass C = some cB := by rw [← X.warmed.alike.findClass]; exact h1
  obtain ⟨vm', X', st⟩ := X.instanceofYes hexec hown hlink h2 h4 h1' (by rw [h3]; exact Jvm.Free.SB.assignable_self _ _) hg hstack hdg
  exact ⟨_, X', rfl, st⟩
theorem cself {p : Program} {l : Launch} {e : Env} {R : Room} {s : State} {m : MethodId} {args : Array Value} {below : List Frame} {meth : Method} {c : Code} {T : State} {locs : List Loc} {cells slots : Nat} (X : Stand p l e R s m args below meth c T locs cells slots) (hexec : p.tables.exec = Jvm.exec) {own C : String} {index : Nat} (hown : s.vm.findClass own = some m.cls) (hlink : (Cond.classLink own index C).before args s = true) {a : Addr} (hE : Exact C a T)
    {g : JFrame} (hg : g.method = m) {rest : List Value} (hstack : g.stack = .ref a :: rest) (hdg : decode c.code g.pc = .ok (.checkcast index, 3)) :
    ∃ T', Stand p l e R s m args below meth c T' locs cells slots ∧ T'.heap = T.heap ∧ ∀ target, Steps p.tables e below (T'.setTop { g with pc := g.pc + 3, stack := .ref a :: rest }) target → Steps p.tables e below (T.setTop g) target := by
  obtain ⟨cB, h1, D, h2, h3, h4⟩ := hE
  have h1' : s.vm.findClass C = some cB := by rw [← X.warmed.alike.findClass]; exact h1
  obtain ⟨vm', X', st⟩ := X.checkcastYes hexec hown hlink h2 h4 h1' (by rw [h3]; exact Jvm.Free.SB.assignable_self _ _) hg hstack hdg
  exact ⟨_, X', rfl, fun t h => st t (by rw [← hstack] at h; exact h)⟩
namespace SEq
def yN : MethodName := ⟨"java/lang/String", "equals", "(Ljava/lang/Object;)Z"⟩
abbrev yB : ByteArray := jdk_42_method_66_code
theorem d0 : decode yB 0 = .ok (.aload_n 0, 1) := by decide +kernel
theorem d1 : decode yB 1 = .ok (.aload_n 1, 1) := by decide +kernel
theorem d2 : decode yB 2 = .ok (.if_acmp (.ne) 5, 3) := by decide +kernel
theorem d5 : decode yB 5 = .ok (.iconst 1, 1) := by decide +kernel
theorem d6 : decode yB 6 = .ok (.ireturn, 1) := by decide +kernel
theorem d7 : decode yB 7 = .ok (.aload_n 1, 1) := by decide +kernel
theorem d8 : decode yB 8 = .ok (.instanceof 10, 3) := by decide +kernel
theorem d11 : decode yB 11 = .ok (.ifCond (.eq) 43, 3) := by decide +kernel
theorem d14 : decode yB 14 = .ok (.aload_n 1, 1) := by decide +kernel
theorem d15 : decode yB 15 = .ok (.checkcast 10, 3) := by decide +kernel
theorem d18 : decode yB 18 = .ok (.astore_n 2, 1) := by decide +kernel
theorem d19 : decode yB 19 = .ok (.getstatic 38, 3) := by decide +kernel
theorem d22 : decode yB 22 = .ok (.ifCond (.eq) 14, 3) := by decide +kernel
theorem d25 : decode yB 25 = .ok (.aload_n 0, 1) := by decide +kernel
theorem d26 : decode yB 26 = .ok (.getfield 15, 3) := by decide +kernel
theorem d29 : decode yB 29 = .ok (.aload_n 2, 1) := by decide +kernel
theorem d30 : decode yB 30 = .ok (.getfield 15, 3) := by decide +kernel
theorem d33 : decode yB 33 = .ok (.if_icmp (.ne) 21, 3) := by decide +kernel
theorem d36 : decode yB 36 = .ok (.aload_n 0, 1) := by decide +kernel
theorem d37 : decode yB 37 = .ok (.getfield 9, 3) := by decide +kernel
theorem d40 : decode yB 40 = .ok (.aload_n 2, 1) := by decide +kernel
theorem d41 : decode yB 41 = .ok (.getfield 9, 3) := by decide +kernel
theorem d44 : decode yB 44 = .ok (.invokestatic 541, 3) := by decide +kernel
theorem d47 : decode yB 47 = .ok (.ifCond (.eq) 7, 3) := by decide +kernel
theorem d50 : decode yB 50 = .ok (.iconst 1, 1) := by decide +kernel
theorem d51 : decode yB 51 = .ok (.goto 4, 3) := by decide +kernel
theorem d54 : decode yB 54 = .ok (.iconst 0, 1) := by decide +kernel
theorem d55 : decode yB 55 = .ok (.ireturn, 1) := by decide +kernel
def site : List Cond := [.classLink "java/lang/String" 10 "java/lang/String", .fieldLink "java/lang/String" 38 "java/lang/String" "COMPACT_STRINGS" "Z", .fieldLink "java/lang/String" 15 "java/lang/String" "coder" "B", .fieldLink "java/lang/String" 9 "java/lang/String" "value" "[B", LEq.tab] ++ staticW "java/lang/String" 541 LEq.yN
def tab : Cond := tabOf yN yB 3 (some .boolean) site
def P (x t : Addr) (V : Cell) (cd : Int32) (n : Nat) (f : Nat → Int32) (y t' : Addr) (V' : Cell) (cd' : Int32) (k : Nat) (g : Nat → Int32) (z : Int32) (args : Array Value) (s : State) : Prop := args = #[.ref x, .ref y] ∧ Txt x t V cd n f s ∧ Txt y t' V' cd' k g s ∧ StaticIs s "java/lang/String" "COMPACT_STRINGS" "Z" (.int z) ∧ ¬ z = 0
/-- equals(Object) of two Strings: whether the texts are the same -/
theorem law (l : Launch) (x t : Addr) (V : Cell) (cd : Int32) (n : Nat) (f : Nat → Int32) (y t' : Addr) (V' : Cell) (cd' : Int32) (k : Nat) (g : Nat → Int32) (z : Int32) : Law l yN 2 1 1 14 yB 3 (some .boolean) site (P x t V cd n f y t' V' cd' k g z) (Says01 (SameT n f k g)) [] 0 0 := by
  refine Law.of_walk (plainFor_of_name (by decide +kernel)) (by decide +kernel) (by decide +kernel) (by decide) (fun _ _ h => by rw [h.1]; rfl) (fun _ U U' hal hh h => ⟨h.1, h.2.1.mv hal hh, h.2.2.1.mv hal hh, h.2.2.2.1.there hal hh, h.2.2.2.2⟩) (fun r U U' V V' h1 hal h2 h => Says01.mv r U U' V V' h1 hal h2 h) ?_
  intro p e s m args below meth c s₁ X0 hexec hbytes hml hret hlk hnm hown hh0 W hP
  obtain ⟨rfl, hx, hy, s1, hz⟩ := hP
  have c1 : Steps p.tables e below (s₁.setTop (entryFrame m #[.ref x, .ref y] 3)) (s₁.setTop (mkF m 2 #[.val (.ref x), .val (.ref y), .unset] [.ref y, .ref x])) := Steps.trans (entry rfl) (by
    show Steps p.tables e below (s₁.setTop (mkF m 0 #[.val (.ref x), .val (.ref y), .unset] [])) _
    refine XS.aloadN X0.here hexec rfl (hb hbytes d0) rfl rfl ?_
    refine XS.aloadN X0.here hexec rfl (hb hbytes d1) rfl rfl ?_
    exact Steps.refl _)
  by_cases hxy : x = y
  · have c2 : Steps p.tables e below (s₁.setTop (entryFrame m #[.ref x, .ref y] 3)) (s₁.setTop (mkF m 6 #[.val (.ref x), .val (.ref y), .unset] [.int 1])) := c1.trans (by
      refine acmpNo X0.here hexec rfl (hb hbytes d2) rfl rfl rfl (by simp [acmp, hxy]) ?_
      refine iconstV X0.here hexec rfl 1 (hb hbytes d5) (by decide) ?_
      exact Steps.refl _)
    subst hxy
    have ec : cd = cd' := by
      obtain ⟨D, fd, a1, a2, a3⟩ := hx.2.2.1
      obtain ⟨D', fd', b1, b2, b3⟩ := hy.2.2.1
      cases a1.symm.trans b1
      obtain ⟨q1, q2, q3, q4⟩ := a2.1
      obtain ⟨r1, r2, r3, r4⟩ := b2.1
      cases q4.symm.trans r4
      cases a3.symm.trans b3; rfl
    have et : t = t' := by
      obtain ⟨D, fd, a1, a2, a3⟩ := hx.2.1
      obtain ⟨D', fd', b1, b2, b3⟩ := hy.2.1
      cases a1.symm.trans b1
      obtain ⟨q1, q2, q3, q4⟩ := a2.1
      obtain ⟨r1, r2, r3, r4⟩ := b2.1
      cases q4.symm.trans r4
      cases a3.symm.trans b3; rfl
    subst ec et
    have ev : V = V' := by cases hx.2.2.2.1.1.symm.trans hy.2.2.2.1.1; rfl
    subst ev
    have hs : SameT n f k g := (Cod.eqv hx.2.2.2.2.1 hy.2.2.2.2.1 hx.2.2.2.2.2 hy.2.2.2.2.2).mp ⟨rfl, fun _ _ => rfl⟩
    exact ⟨s₁, some (.int 1), _, _, _, X0, rfl, rfl, rfl, (fun h => by cases h), ⟨1, rfl, hh0, Or.inl ⟨rfl, hs⟩⟩, fun fs hl => c2.trans (X0.ireturnOut hexec hret rfl (Or.inr (Or.inl rfl)) (hb hbytes d6) hl)⟩
  · have c2 : Steps p.tables e below (s₁.setTop (entryFrame m #[.ref x, .ref y] 3)) (s₁.setTop (mkF m 8 #[.val (.ref x), .val (.ref y), .unset] [.ref y])) := c1.trans (by
      refine acmpYes X0.here hexec rfl (pc0 := 2) rfl (hb hbytes d2) rfl rfl rfl (by simp [acmp, hxy]) (by decide) rfl ?_
      refine XS.aloadN X0.here hexec rfl (hb hbytes d7) rfl rfl ?_
      exact Steps.refl _)
    obtain ⟨T3, X3, q3, st3⟩ := cinst X0 hexec hown (wk W (.classLink "java/lang/String" 10 "java/lang/String")) (hy.mv X0.warmed.alike hh0).1 (g := (mkF m 8 #[.val (.ref x), .val (.ref y), .unset] [.ref y])) rfl (rest := []) rfl (hb hbytes d8)
    have hh3 := q3.trans hh0
    have c4 : Steps p.tables e below (s₁.setTop (entryFrame m #[.ref x, .ref y] 3)) (T3.setTop (mkF m 15 #[.val (.ref x), .val (.ref y), .unset] [.ref y])) := (c2.trans (st3 _ (Steps.refl _))).trans (by
      refine XS.ifNo X3.here hexec rfl (hb hbytes d11) rfl (i0_eq_f (by decide)) ?_
      refine XS.aloadN X3.here hexec rfl (hb hbytes d14) rfl rfl ?_
      exact Steps.refl _)
    obtain ⟨T5, X5, q5, st5⟩ := cself X3 hexec hown (wk W (.classLink "java/lang/String" 10 "java/lang/String")) (hy.mv X3.warmed.alike hh3).1 (g := (mkF m 15 #[.val (.ref x), .val (.ref y), .unset] [.ref y])) rfl (rest := []) rfl (hb hbytes d15)
    have hh5 := q5.trans hh3
    have c6 : Steps p.tables e below (s₁.setTop (entryFrame m #[.ref x, .ref y] 3)) (T5.setTop (mkF m 19 #[.val (.ref x), .val (.ref y), .val (.ref y)] [])) := (c4.trans (st5 _ (Steps.refl _))).trans (by
      refine XS.astoreN X5.here hexec rfl (hb hbytes d18) rfl rfl rfl ?_
      exact Steps.refl _)
    obtain ⟨T7, X7, q7, st7⟩ := X5.sget hexec hown (wk W (.fieldLink "java/lang/String" 38 "java/lang/String" "COMPACT_STRINGS" "Z")) s1 (fun _ _ h => by rw [hh5]; exact h) (g := (mkF m 19 #[.val (.ref x), .val (.ref y), .val (.ref y)] [])) rfl (hb hbytes d19)
    have hh7 := q7.trans hh5
    have c8 : Steps p.tables e below (s₁.setTop (entryFrame m #[.ref x, .ref y] 3)) (T7.setTop (mkF m 26 #[.val (.ref x), .val (.ref y), .val (.ref y)] [.ref x])) := (c6.trans (st7 _ (Steps.refl _))).trans (by
      refine XS.ifNo X7.here hexec rfl (hb hbytes d22) rfl (i0_eq_f hz) ?_
      refine XS.aloadN X7.here hexec rfl (hb hbytes d25) rfl rfl ?_
      exact Steps.refl _)
    obtain ⟨T9, X9, q9, st9⟩ := X7.hget hexec hown (wk W (.fieldLink "java/lang/String" 15 "java/lang/String" "coder" "B")) (hx.mv X7.warmed.alike hh7).2.2.1 (g := (mkF m 26 #[.val (.ref x), .val (.ref y), .val (.ref y)] [.ref x])) rfl (rest := []) rfl (hb hbytes d26)
    have hh9 := q9.trans hh7
    have c10 : Steps p.tables e below (s₁.setTop (entryFrame m #[.ref x, .ref y] 3)) (T9.setTop (mkF m 30 #[.val (.ref x), .val (.ref y), .val (.ref y)] [.ref y, .int cd])) := (c8.trans (st9 _ (Steps.refl _))).trans (by
      refine XS.aloadN X9.here hexec rfl (hb hbytes d29) rfl rfl ?_
      exact Steps.refl _)
    obtain ⟨T11, X11, q11, st11⟩ := X9.hget hexec hown (wk W (.fieldLink "java/lang/String" 15 "java/lang/String" "coder" "B")) (hy.mv X9.warmed.alike hh9).2.2.1 (g := (mkF m 30 #[.val (.ref x), .val (.ref y), .val (.ref y)] [.ref y, .int cd])) rfl (rest := [.int cd]) rfl (hb hbytes d30)
    have hh11 := q11.trans hh9
    have c12 : Steps p.tables e below (s₁.setTop (entryFrame m #[.ref x, .ref y] 3)) (T11.setTop (mkF m 33 #[.val (.ref x), .val (.ref y), .val (.ref y)] [.int cd', .int cd])) := c10.trans (st11 _ (Steps.refl _))
    by_cases hcd : cd = cd'
    · subst hcd
      have c13 : Steps p.tables e below (s₁.setTop (entryFrame m #[.ref x, .ref y] 3)) (T11.setTop (mkF m 37 #[.val (.ref x), .val (.ref y), .val (.ref y)] [.ref x])) := c12.trans (by
        refine XS.icmpNo X11.here hexec rfl (hb hbytes d33) rfl (ii_ne_f rfl) ?_
        refine XS.aloadN X11.here hexec rfl (hb hbytes d36) rfl rfl ?_
        exact Steps.refl _)
      obtain ⟨T14, X14, q14, st14⟩ := X11.hget hexec hown (wk W (.fieldLink "java/lang/String" 9 "java/lang/String" "value" "[B")) (hx.mv X11.warmed.alike hh11).2.1 (g := (mkF m 37 #[.val (.ref x), .val (.ref y), .val (.ref y)] [.ref x])) rfl (rest := []) rfl (hb hbytes d37)
      have hh14 := q14.trans hh11
      have c15 : Steps p.tables e below (s₁.setTop (entryFrame m #[.ref x, .ref y] 3)) (T14.setTop (mkF m 41 #[.val (.ref x), .val (.ref y), .val (.ref y)] [.ref y, .ref t])) := (c13.trans (st14 _ (Steps.refl _))).trans (by
        refine XS.aloadN X14.here hexec rfl (hb hbytes d40) rfl rfl ?_
        exact Steps.refl _)
      obtain ⟨T16, X16, q16, st16⟩ := X14.hget hexec hown (wk W (.fieldLink "java/lang/String" 9 "java/lang/String" "value" "[B")) (hy.mv X14.warmed.alike hh14).2.1 (g := (mkF m 41 #[.val (.ref x), .val (.ref y), .val (.ref y)] [.ref y, .ref t])) rfl (rest := [.ref t]) rfl (hb hbytes d41)
      have hh16 := q16.trans hh14
      have c17 : Steps p.tables e below (s₁.setTop (entryFrame m #[.ref x, .ref y] 3)) (T16.setTop (mkF m 44 #[.val (.ref x), .val (.ref y), .val (.ref y)] [.ref t', .ref t])) := c15.trans (st16 _ (Steps.refl _))
      obtain ⟨v18, T18, X18, E18, g18⟩ := X16.callS hexec (LEq.law l t V t' V') hown (wks W (staticW "java/lang/String" 541 LEq.yN)) (wk W LEq.tab) (W := 0) (Nat.le_of_ble_eq_true rfl) (Nat.le_of_ble_eq_true rfl) (Nat.le_refl _) (Nat.le_refl _) (g := (mkF m 44 #[.val (.ref x), .val (.ref y), .val (.ref y)] [.ref t', .ref t])) rfl (by rw [hml]; rfl) c17 (argsL := [.ref t, .ref t']) (rest := []) rfl rfl (by show 2 * 0 + 0 ≤ _; decide) (hb hbytes d44) (⟨rfl, hx.2.2.2.1.mv X16.warmed.alike hh16, hx.2.2.2.2.1.ty, hy.2.2.2.1.mv X16.warmed.alike hh16, hy.2.2.2.2.1.ty⟩)
      obtain ⟨v, rfl, q18, hv⟩ := E18
      have iff := Cod.eqv hx.2.2.2.2.1 hy.2.2.2.2.1 hx.2.2.2.2.2 hy.2.2.2.2.2
      rcases hv with ⟨rfl, he⟩ | ⟨rfl, he⟩
      · have c19 : Steps p.tables e below (s₁.setTop (entryFrame m #[.ref x, .ref y] 3)) (T18.setTop (mkF m 55 #[.val (.ref x), .val (.ref y), .val (.ref y)] [.int 1])) := Steps.trans g18 (by
          refine XS.ifNo X18.here hexec rfl (hb hbytes d47) rfl (i0_eq_f (by decide)) ?_
          refine iconstV X18.here hexec rfl 1 (hb hbytes d50) (by decide) ?_
          refine XS.goto X18.here hexec rfl (pc0 := 51) rfl (hb hbytes d51) (by decide) rfl ?_
          exact Steps.refl _)
        exact ⟨T18, some (.int 1), _, _, _, X18, rfl, rfl, rfl, (fun h => by cases h), ⟨1, rfl, q18.trans hh16, Or.inl ⟨rfl, iff.mp he⟩⟩, fun fs hl => c19.trans (X18.ireturnOut hexec hret rfl (Or.inr (Or.inl rfl)) (hb hbytes d55) hl)⟩
      · have c19 : Steps p.tables e below (s₁.setTop (entryFrame m #[.ref x, .ref y] 3)) (T18.setTop (mkF m 55 #[.val (.ref x), .val (.ref y), .val (.ref y)] [.int 0])) := Steps.trans g18 (by
          refine XS.ifYes X18.here hexec rfl (pc0 := 47) rfl (hb hbytes d47) rfl (i0_eq_t rfl) (by decide) rfl ?_
          refine iconstV X18.here hexec rfl 0 (hb hbytes d54) (by decide) ?_
          exact Steps.refl _)
        exact ⟨T18, some (.int 0), _, _, _, X18, rfl, rfl, rfl, (fun h => by cases h), ⟨0, rfl, q18.trans hh16, Or.inr ⟨rfl, fun q => he (iff.mpr q)⟩⟩, fun fs hl => c19.trans (X18.ireturnOut hexec hret rfl (Or.inr (Or.inl rfl)) (hb hbytes d55) hl)⟩
    · have c13 : Steps p.tables e below (s₁.setTop (entryFrame m #[.ref x, .ref y] 3)) (T11.setTop (mkF m 55 #[.val (.ref x), .val (.ref y), .val (.ref y)] [.int 0])) := c12.trans (by
        refine XS.icmpYes X11.here hexec rfl (pc0 := 33) rfl (hb hbytes d33) rfl (ii_ne_t hcd) (by decide) rfl ?_
        refine iconstV X11.here hexec rfl 0 (hb hbytes d54) (by decide) ?_
        exact Steps.refl _)
      exact ⟨T11, some (.int 0), _, _, _, X11, rfl, rfl, rfl, (fun h => by cases h), ⟨0, rfl, hh11, Or.inr ⟨rfl, Cod.dif hx.2.2.2.2.1 hy.2.2.2.2.1 hcd⟩⟩, fun fs hl => c13.trans (X11.ireturnOut hexec hret rfl (Or.inr (Or.inl rfl)) (hb hbytes d55) hl)⟩
theorem pays {l : Launch} {R : Room} {p : Program} {e : Env} {below : List Frame} {s : State} {sargs : Array Value} {len W : Nat} (x t : Addr) (V : Cell) (cd : Int32) (n : Nat) (f : Nat → Int32) (y t' : Addr) (V' : Cell) (cd' : Int32) (k : Nat) (g : Nat → Int32) (z : Int32) (htab : tab.before sargs s = true) (hfr : 2 ≤ R.frames) (hlo : W + 28 ≤ R.locals) :
    Back l R p e below s sargs yN len W (fun A₁ a₁ => A₁.cells + 0 ≤ R.cells ∧ A₁.slots + 0 ≤ R.slots ∧ P x t V cd n f y t' V' cd' k g z a₁ A₁.U) (fun A₁ _ v₁ B₁ => Says01 (SameT n f k g) v₁ A₁.U B₁.U ∧ B₁.locs = A₁.locs ++ [] ∧ B₁.cells = A₁.cells + 0 ∧ B₁.slots = A₁.slots + 0) :=
  (law l x t V cd n f y t' V' cd' k g z).pays htab hfr (by omega)
end SEq
end StrChars
namespace StrChars.Road
open Jvm Sem ClassFile Op Lib Jvm.Stand Jvm.Free Jvm.Free.XT
open Jvm.Lib.Cold (StaticIs)
/-- the words of String.equals(Object) -/
abbrev wordsEq : List Jvm.Cond := [.code SEq.yN SEq.yB 3 (some .boolean), .initialized ST, .classLink ST 10 ST, .fieldLink ST 38 ST "COMPACT_STRINGS" "Z", .fieldLink ST 15 ST "coder" "B", .fieldLink ST 9 ST "value" "[B", .methodLink ST 541 LEq.yN, .static LEq.yN, .code LEq.yN LEq.yB 3 (some .boolean), .initialized "java/lang/StringLatin1"]
theorem tabEq_of {a : Array Value} {s : State} (h : ∀ w ∈ wordsEq, w.before a s = true) : SEq.tab.before a s = true := by
  have hl : LEq.tab.before a s = true := unparts (wk h (.code LEq.yN LEq.yB 3 (some .boolean))) (wks h (.initialized LEq.yN.cls :: LEq.site))
  have q := consq hl h
  exact unparts (wk q (.code SEq.yN SEq.yB 3 (some .boolean))) (wks q (.initialized SEq.yN.cls :: SEq.site))
theorem movedEq {Z s : State} {a0 args : Array Value} (hZ : Z.Warmed39 s.vm) (hw : ∀ d ∈ wordsEq, d.before a0 Z = true) : ∀ d ∈ wordsEq, d.before args s = true := fun d hd => by
  have t : ∀ d ∈ wordsEq, (d.onTables && d.keepsFace) = true := by decide +kernel
  exact RoadKit.mv hZ (hw d hd) (t d hd)
/-- the road's facts of a String, as the laws ask it -/
theorem txt_of {Z U : State} {a0 : Array Value} {kI : Nat} (wi : (Jvm.Cond.instantiable ST kI).before a0 Z = true) (al : Z.vm.Alike U.vm) {x t : Addr} {kb : ClassId} {cs : List Int32} {cd N2 : Int32} {vs : List Value} (E : RoadKit.Exa Z U.heap x ST) (V : RoadKit.Fld Z U.heap x ST "value" "[B" (.ref t)) (C : RoadKit.Fld Z U.heap x ST "coder" "B" (.int cd)) (K : RoadKit.Arv Z U.heap t kb .byte N2 vs (.int 0)) (hc : CodA cs cd N2 vs) (hb : ∀ c ∈ cs, ¬ c < 0 ∧ ¬ (65535 : Int32) < c) (l2 : cs.length ≤ 4000) :
    ∃ A, Txt x t A cd cs.length (fun j => cs.getD j 0) U := by
  obtain ⟨A, K1, K2, K3, K4, K5, K6⟩ := K
  have hcod := hc.cod (by omega) K3 K5
  obtain ⟨D, fV, fC, hB, F1, F2, g1, g2, -, -⟩ := strObj wi al E V C
  exact ⟨A, ⟨_, hB.2.2.1, D, hB.1, rfl, by cases q : D.vm <;> first | rfl | exact absurd q (hB.2.1.2 _)⟩, Has.of hB F1 g1, Has.of hB F2 g2, ⟨K1.1, State.isArrayOf_alike al K1.2.1, K1.2.2, by rcases hcod with ⟨-, q, -⟩ | ⟨-, q, -⟩ <;> omega⟩, hcod, fun j hj => by
    have e : cs.getD j 0 = cs[j] := by simp [List.getD_eq_getElem?_getD, hj]
    show ¬ cs.getD j 0 < 0 ∧ ¬ 65535 < cs.getD j 0
    rw [e]; exact hb _ (List.getElem_mem _)⟩
theorem same_list (cs ds : List Int32) : SameT cs.length (fun j => cs.getD j 0) ds.length (fun j => ds.getD j 0) ↔ cs = ds := by
  constructor
  · rintro ⟨e, q⟩
    refine List.ext_getElem e fun j h1 h2 => ?_
    have := q j h1
    simpa [List.getD_eq_getElem?_getD, h1, h2] using this
  · rintro rfl
    exact ⟨rfl, fun _ _ => rfl⟩
/-- **equals(Object) OF TWO SUCH STRINGS**: 1 just where the chars are the same -/
theorem eqW {p : Program} {l : Launch} {e : Env} {R : Room} {s : State} {args : Array Value} {below : List Frame} {len W : Nat} {Z : State} {a0 : Array Value} {h : Heap} (hZ : Z.Warmed39 s.vm) (hw : ∀ d ∈ wordsEq, d.before a0 Z = true) {kI : Nat} (wi : (Jvm.Cond.instantiable ST kI).before a0 Z = true)
    {x t : Addr} {kb : ClassId} {cs : List Int32} {cd N2 : Int32} {vs : List Value} (E : RoadKit.Exa Z h x ST) (V : RoadKit.Fld Z h x ST "value" "[B" (.ref t)) (C : RoadKit.Fld Z h x ST "coder" "B" (.int cd)) (K : RoadKit.Arv Z h t kb .byte N2 vs (.int 0)) (hc : CodA cs cd N2 vs) (hb : ∀ c ∈ cs, ¬ c < 0 ∧ ¬ (65535 : Int32) < c) (l2 : cs.length ≤ 4000)
    {y t' : Addr} {kb' : ClassId} {ds : List Int32} {cd' N2' : Int32} {vs' : List Value} (E' : RoadKit.Exa Z h y ST) (V' : RoadKit.Fld Z h y ST "value" "[B" (.ref t')) (C' : RoadKit.Fld Z h y ST "coder" "B" (.int cd')) (K' : RoadKit.Arv Z h t' kb' .byte N2' vs' (.int 0)) (hc' : CodA ds cd' N2' vs') (hb' : ∀ c ∈ ds, ¬ c < 0 ∧ ¬ (65535 : Int32) < c) (l2' : ds.length ≤ 4000)
    {z : Int32} (S : RoadKit.Sta Z h ST "COMPACT_STRINGS" "Z" (.int z)) (hz : ¬ z = 0) (hfr : 2 ≤ R.frames) (hlo : W + 28 ≤ R.locals) :
    Back l R p e below s args (⟨"java/lang/String", "equals", "(Ljava/lang/Object;)Z"⟩ : MethodName) len W (fun P a => a = #[.ref x, .ref y] ∧ P.U.heap = h ∧ P.cells + 0 ≤ R.cells ∧ P.slots + 0 ≤ R.slots)
      (fun P _ v B => ∃ L, (((v = some (.int 1) ∧ cs = ds) ∨ (v = some (.int 0) ∧ ¬ cs = ds)) ∧ L = [] ∧ B.U.heap = h) ∧ B.locs = P.locs ++ L ∧ B.cells = P.cells + 0 ∧ B.slots = P.slots + 0) := by
  intro m meth c P g ig mk a X hg hsize hdg hW hn hp'
  obtain ⟨rfl, rfl, r1, r2⟩ := hp'
  have al : Z.vm.Alike P.U.vm := hZ.alike.trans X.warmed.alike
  obtain ⟨A, hx⟩ := txt_of wi al E V C K hc hb l2
  obtain ⟨A', hy⟩ := txt_of wi al E' V' C' K' hc' hb' l2'
  obtain ⟨v, B, X', ⟨⟨w, hv, hh, hq⟩, hl, hk, hs⟩, st⟩ := SEq.pays x t A cd cs.length (fun j => cs.getD j 0) y t' A' cd' ds.length (fun j => ds.getD j 0) z (tabEq_of (movedEq hZ hw)) hfr hlo m meth c P g ig mk _ X hg hsize hdg hW hn ⟨r1, r2, rfl, hx, hy, sta_is al S, hz⟩
  refine ⟨v, B, X', ⟨[], ⟨?_, rfl, hh⟩, hl, hk, hs⟩, st⟩
  rcases hq with ⟨rfl, q⟩ | ⟨rfl, q⟩
  · exact Or.inl ⟨hv, (same_list cs ds).mp q⟩
  · exact Or.inr ⟨hv, fun e => q ((same_list cs ds).mpr e)⟩
end StrChars.Road
namespace StrChars
open Jvm Sem ClassFile Op Lib Jvm.Stand Jvm.Free.XT Jvm.Free.ALB Jvm.Free.JM Jvm.Free
open Jvm.Lib.Cold (StaticIs)
namespace ChN
def yN : MethodName := ⟨"java/lang/String", "charAt", "(I)C"⟩
abbrev yB : ByteArray := jdk_42_method_56_code
theorem d0 : decode yB 0 = .ok (.aload_n 0, 1) := by decide +kernel
theorem d1 : decode yB 1 = .ok (.invokevirtual 492, 3) := by decide +kernel
theorem d4 : decode yB 4 = .ok (.ifCond (.eq) 12, 3) := by decide +kernel
theorem d7 : decode yB 7 = .ok (.aload_n 0, 1) := by decide +kernel
theorem d8 : decode yB 8 = .ok (.getfield 9, 3) := by decide +kernel
theorem d11 : decode yB 11 = .ok (.iload_n 1, 1) := by decide +kernel
theorem d12 : decode yB 12 = .ok (.invokestatic 495, 3) := by decide +kernel
theorem d15 : decode yB 15 = .ok (.ireturn, 1) := by decide +kernel
def site : List Cond := [.fieldLink "java/lang/String" 9 "java/lang/String" "value" "[B", IsL.tab, LChA.tab] ++ virtW "java/lang/String" 492 "java/lang/String" IsL.yN IsL.yN ++ staticW "java/lang/String" 495 LChA.yN
def tab : Cond := tabOf yN yB 2 (some .char) site
def P (x t : Addr) (V : Cell) (n : Nat) (f : Nat → Int32) (z : Int32) (fm : Value) (i : Nat) (args : Array Value) (s : State) : Prop := args = #[.ref x, .int (Int32.ofNat i)] ∧ Txt x t V 0 n f s ∧ i < n ∧ StaticIs s "java/lang/String" "COMPACT_STRINGS" "Z" (.int z) ∧ ¬ z = 0 ∧ StaticIs s "jdk/internal/util/Preconditions" "SIOOBE_FORMATTER" "Ljava/util/function/BiFunction;" fm ∧ fm.isRef = true
def E (f : Nat → Int32) (i : Nat) (r : Option Value) (s u : State) : Prop := XT.PureE (some (.int (f i))) r s u
/-- charAt(i) of a Latin-1 String of n chars, i < n: f i -/
theorem law (l : Launch) (x t : Addr) (V : Cell) (n : Nat) (f : Nat → Int32) (z : Int32) (fm : Value) (i : Nat) : Law l yN 2 1 3 40 yB 2 (some .char) site (P x t V n f z fm i) (E f i) [] 0 0 := by
  refine Law.of_walk (plainFor_of_name (by decide +kernel)) (by decide +kernel) (by decide +kernel) (by decide) (fun _ _ h => by rw [h.1]; rfl) (fun _ U U' hal hh h => ⟨h.1, h.2.1.mv hal hh, h.2.2.1, h.2.2.2.1.there hal hh, h.2.2.2.2.1, h.2.2.2.2.2.1.there hal hh, h.2.2.2.2.2.2⟩) (fun r U U' V V' h1 hal h2 h => XT.PureE.mv r U U' V V' h1 hal h2 h) ?_
  intro p e s m args below meth c s₁ X0 hexec hbytes hml hret hlk hnm hown hh0 W hP
  obtain ⟨rfl, hx, hi, s1, hz, s3, rf⟩ := hP
  have v31 := hx.2.2.2.1.2.2.2
  have hr := hx.2.2.2.2.2 i hi
  have hx0 := hx.mv X0.warmed.alike hh0
  have c1 : Steps p.tables e below (s₁.setTop (entryFrame m #[.ref x, .int (Int32.ofNat i)] 2)) (s₁.setTop (mkF m 1 #[.val (.ref x), .val (.int (Int32.ofNat i))] [.ref x])) := Steps.trans (entry rfl) (by
    show Steps p.tables e below (s₁.setTop (mkF m 0 #[.val (.ref x), .val (.int (Int32.ofNat i))] [])) _
    refine XS.aloadN X0.here hexec rfl (hb hbytes d0) rfl rfl ?_
    exact Steps.refl _)
  obtain ⟨v2, T2, X2, E2, g2⟩ := X0.callV hexec (IsL.law l x 0 z) hown (wks W (virtW "java/lang/String" 492 "java/lang/String" IsL.yN IsL.yN)) rfl (by decide) (wk W IsL.tab) (W := 0) (Nat.le_of_ble_eq_true rfl) (Nat.le_of_ble_eq_true rfl) (Nat.le_refl _) (Nat.le_refl _) (hx0.1.fc X0.warmed.alike) hx0.1.is (g := (mkF m 1 #[.val (.ref x), .val (.int (Int32.ofNat i))] [.ref x])) rfl (by rw [hml]; rfl) c1 (argsL := []) (rest := []) rfl rfl (by show 2 * 0 + 0 ≤ _; decide) (hb hbytes d1) (⟨rfl, hx0.2.2.1, hx.2.2.2.2.1.cd, s1.there X0.warmed.alike hh0, hz⟩)
  obtain ⟨rfl, q2⟩ := E2
  have hh2 := q2.trans hh0
  have hx2 := hx.mv X2.warmed.alike hh2
  obtain ⟨-, k1, k2⟩ | ⟨k0, -⟩ := hx.2.2.2.2.1
  · have c3 : Steps p.tables e below (s₁.setTop (entryFrame m #[.ref x, .int (Int32.ofNat i)] 2)) (T2.setTop (mkF m 8 #[.val (.ref x), .val (.int (Int32.ofNat i))] [.ref x])) := Steps.trans g2 (by
      refine XS.ifNo X2.here hexec rfl (hb hbytes d4) rfl (i0_eq_f (by decide)) ?_
      refine XS.aloadN X2.here hexec rfl (hb hbytes d7) rfl rfl ?_
      exact Steps.refl _)
    obtain ⟨T4, X4, q4, st4⟩ := X2.hget hexec hown (wk W (.fieldLink "java/lang/String" 9 "java/lang/String" "value" "[B")) hx2.2.1 (g := (mkF m 8 #[.val (.ref x), .val (.int (Int32.ofNat i))] [.ref x])) rfl (rest := []) rfl (hb hbytes d8)
    have hh4 := q4.trans hh2
    have c5 : Steps p.tables e below (s₁.setTop (entryFrame m #[.ref x, .int (Int32.ofNat i)] 2)) (T4.setTop (mkF m 12 #[.val (.ref x), .val (.int (Int32.ofNat i))] [.int (Int32.ofNat i), .ref t])) := (c3.trans (st4 _ (Steps.refl _))).trans (by
      refine XS.iloadN X4.here hexec rfl (hb hbytes d11) rfl ?_
      exact Steps.refl _)
    obtain ⟨v6, T6, X6, E6, g6⟩ := X4.callS hexec (LChA.law l t V i (lo8 (f i)) fm) hown (wks W (staticW "java/lang/String" 495 LChA.yN)) (wk W LChA.tab) (W := 0) (Nat.le_of_ble_eq_true rfl) (Nat.le_of_ble_eq_true rfl) (Nat.le_refl _) (Nat.le_refl _) (g := (mkF m 12 #[.val (.ref x), .val (.int (Int32.ofNat i))] [.int (Int32.ofNat i), .ref t])) rfl (by rw [hml]; rfl) c5 (argsL := [.ref t, .int (Int32.ofNat i)]) (rest := []) rfl rfl (by show 2 * 0 + 0 ≤ _; decide) (hb hbytes d12) (⟨rfl, hx.2.2.2.1.mv X4.warmed.alike hh4, (k2 i hi).1, s3.there X4.warmed.alike hh4, rf⟩)
    obtain ⟨rfl, q6⟩ := E6
    rw [chr8_lo8 hr.1 (k2 i hi).2] at g6
    exact ⟨T6, some (.int (f i)), _, _, _, X6, rfl, rfl, rfl, (fun h => by cases h), ⟨rfl, q6.trans hh4⟩, fun fs hl => Steps.trans g6 (X6.ireturnOut hexec hret (narrow_ch hr.1 hr.2) (Or.inr (Or.inr (Or.inr (Or.inl rfl)))) (hb hbytes d15) hl)⟩
  · exact absurd k0 (by decide)
theorem pays {l : Launch} {R : Room} {p : Program} {e : Env} {below : List Frame} {s : State} {sargs : Array Value} {len W : Nat} (x t : Addr) (V : Cell) (n : Nat) (f : Nat → Int32) (z : Int32) (fm : Value) (i : Nat) (htab : tab.before sargs s = true) (hfr : 4 ≤ R.frames) (hlo : W + 53 ≤ R.locals) :
    Back l R p e below s sargs yN len W (fun A₁ a₁ => A₁.cells + 0 ≤ R.cells ∧ A₁.slots + 0 ≤ R.slots ∧ P x t V n f z fm i a₁ A₁.U) (fun A₁ _ v₁ B₁ => E f i v₁ A₁.U B₁.U ∧ B₁.locs = A₁.locs ++ [] ∧ B₁.cells = A₁.cells + 0 ∧ B₁.slots = A₁.slots + 0) :=
  (law l x t V n f z fm i).pays htab hfr (by omega)
end ChN
end StrChars
namespace StrChars.Road
open Jvm Sem ClassFile Op Lib Jvm.Stand Jvm.Free Jvm.Free.XT
open Jvm.Lib.Cold (StaticIs)
/-- the words of String.charAt(int), the Latin-1 road alone -/
abbrev wordsChN : List Jvm.Cond := [.code ChN.yN ChN.yB 2 (some .char), .initialized ST, .fieldLink ST 9 ST "value" "[B", .fieldLink ST 38 ST "COMPACT_STRINGS" "Z", .fieldLink ST 15 ST "coder" "B", .code IsL.yN IsL.yB 1 (some .boolean), .methodLink ST 492 IsL.yN, .declares IsL.yN, .selects ST IsL.yN IsL.yN, .instanceMethod IsL.yN,
  .methodLink ST 495 LChA.yN, .static LChA.yN, .code LChA.yN LChA.yB 2 (some .char), .initialized "java/lang/StringLatin1", .methodLink "java/lang/StringLatin1" 9 JO.Str_checkIndex.yN, .static JO.Str_checkIndex.yN, .code JO.Str_checkIndex.yN JO.Str_checkIndex.yB 2 none,
  .fieldLink ST 1053 "jdk/internal/util/Preconditions" "SIOOBE_FORMATTER" "Ljava/util/function/BiFunction;", .methodLink ST 1059 JC.PreCheck.yN, .static JC.PreCheck.yN, .code JC.PreCheck.yN JC.PreCheck.yB 3 (some .int), .initialized "jdk/internal/util/Preconditions"]
theorem tabChN_of {a : Array Value} {s : State} (h : ∀ w ∈ wordsChN, w.before a s = true) : ChN.tab.before a s = true := by
  have hp : JC.PreCheck.tab.before a s = true := unparts (wk h (.code JC.PreCheck.yN JC.PreCheck.yB 3 (some .int))) (wks h (.initialized JC.PreCheck.yN.cls :: JC.PreCheck.site))
  have qk := consq hp h
  have hk : JO.Str_checkIndex.tab.before a s = true := unparts (wk qk (.code JO.Str_checkIndex.yN JO.Str_checkIndex.yB 2 none)) (wks qk (.initialized JO.Str_checkIndex.yN.cls :: JO.Str_checkIndex.site))
  have ql := consq hk h
  have hl : LChA.tab.before a s = true := unparts (wk ql (.code LChA.yN LChA.yB 2 (some .char))) (wks ql (.initialized LChA.yN.cls :: LChA.site))
  have hi : IsL.tab.before a s = true := unparts (wk h (.code IsL.yN IsL.yB 1 (some .boolean))) (wks h (.initialized IsL.yN.cls :: IsL.site))
  have q := consq hi (consq hl h)
  exact unparts (wk q (.code ChN.yN ChN.yB 2 (some .char))) (wks q (.initialized ChN.yN.cls :: ChN.site))
theorem movedChN {Z s : State} {a0 args : Array Value} (hZ : Z.Warmed39 s.vm) (hw : ∀ d ∈ wordsChN, d.before a0 Z = true) : ∀ d ∈ wordsChN, d.before args s = true := fun d hd => by
  have t : ∀ d ∈ wordsChN, (d.onTables && d.keepsFace) = true := by decide +kernel
  exact RoadKit.mv hZ (hw d hd) (t d hd)
/-- **charAt(i) OF A LATIN-1 STRING**, i < n: the char -/
theorem chN {p : Program} {l : Launch} {e : Env} {R : Room} {s : State} {args : Array Value} {below : List Frame} {len W : Nat} {Z : State} {a0 : Array Value} {h : Heap} (hZ : Z.Warmed39 s.vm) (hw : ∀ d ∈ wordsChN, d.before a0 Z = true) {kI : Nat} (wi : (Jvm.Cond.instantiable ST kI).before a0 Z = true)
    {x t : Addr} {kb : ClassId} {cs : List Int32} {N2 z : Int32} {vs : List Value} {fm : Value} {i : Nat} {j : Int32} (E : RoadKit.Exa Z h x ST) (V : RoadKit.Fld Z h x ST "value" "[B" (.ref t)) (C : RoadKit.Fld Z h x ST "coder" "B" (.int 0)) (K : RoadKit.Arv Z h t kb .byte N2 vs (.int 0)) (hc : CodA cs 0 N2 vs) (hb : ∀ c ∈ cs, ¬ c < 0 ∧ ¬ (65535 : Int32) < c)
    (S : RoadKit.Sta Z h ST "COMPACT_STRINGS" "Z" (.int z)) (hz : ¬ z = 0) (F : RoadKit.Sta Z h "jdk/internal/util/Preconditions" "SIOOBE_FORMATTER" "Ljava/util/function/BiFunction;" fm) (rf : fm.isRef = true) (l2 : cs.length ≤ 4000) (hi : i < cs.length) (hj : j = Int32.ofNat i) (hfr : 4 ≤ R.frames) (hlo : W + 53 ≤ R.locals) :
    Back l R p e below s args (⟨"java/lang/String", "charAt", "(I)C"⟩ : MethodName) len W (fun P a => a = #[.ref x, .int j] ∧ P.U.heap = h ∧ P.cells + 0 ≤ R.cells ∧ P.slots + 0 ≤ R.slots)
      (fun P _ v B => ∃ L, (v = some (.int (cs.getD i 0)) ∧ L = [] ∧ B.U.heap = h) ∧ B.locs = P.locs ++ L ∧ B.cells = P.cells + 0 ∧ B.slots = P.slots + 0) := by
  subst hj
  intro m meth c P g ig mk a X hg hsize hdg hW hn hp'
  obtain ⟨rfl, rfl, r1, r2⟩ := hp'
  have al : Z.vm.Alike P.U.vm := hZ.alike.trans X.warmed.alike
  obtain ⟨A, hx⟩ := txt_of wi al E V C K hc hb l2
  obtain ⟨v, B, X', ⟨⟨hv, hh⟩, hl, hk, hs⟩, st⟩ := ChN.pays x t A cs.length (fun j => cs.getD j 0) z fm i (tabChN_of (movedChN hZ hw)) hfr hlo m meth c P g ig mk _ X hg hsize hdg hW hn ⟨r1, r2, rfl, hx, hi, sta_is al S, hz, sta_is al F, rf⟩
  exact ⟨v, B, X', ⟨[], ⟨hv, rfl, hh⟩, hl, hk, hs⟩, st⟩
/-- what backV says of its String, as the contracts of this text ask it: cs's low bytes, coder 0 -/
theorem codOf {cs : List Int32} {n : Nat} (hn : cs.length = n) (hb : ∀ c ∈ cs, ¬ 255 < c) : CodA cs 0 (Int32.ofNat n) ((cs.map lo8).map Value.int) := Or.inl ⟨rfl, by rw [hn], by simp [List.map_map, Function.comp_def], hb⟩
end StrChars.Road
end Jvm.Pilot.@@N@@

namespace Jvm.Pilot.@@N@@
open Jvm Jvm.ClassFile Sem Op Lib Jvm.Free Jvm.Stand Jvm.LawKit Jvm.RoadKit Bundle Jvm.OwnKit Jvm.Pilot.@@N@@.Jvm.D
theorem b5_0 : Dc prog_151_method_4_code 0 (.invokestatic 42) 3 3 := ⟨by decide +kernel, rfl⟩
theorem b5_3 : Dc prog_151_method_4_code 3 (.astore_n 1) 1 4 := ⟨by decide +kernel, rfl⟩
theorem b5_4 : Dc prog_151_method_4_code 4 (.aload_n 1) 1 5 := ⟨by decide +kernel, rfl⟩
theorem b5_5 : Dc prog_151_method_4_code 5 (.arraylength) 1 6 := ⟨by decide +kernel, rfl⟩
theorem b5_6 : Dc prog_151_method_4_code 6 (.istore_n 2) 1 7 := ⟨by decide +kernel, rfl⟩
theorem b5_7 : Dc prog_151_method_4_code 7 (.iconst 0) 1 8 := ⟨by decide +kernel, rfl⟩
theorem b5_8 : Dc prog_151_method_4_code 8 (.istore_n 3) 1 9 := ⟨by decide +kernel, rfl⟩
theorem b5_9 : Dc prog_151_method_4_code 9 (.iload_n 3) 1 10 := ⟨by decide +kernel, rfl⟩
theorem b5_10 : Dc prog_151_method_4_code 10 (.iload_n 2) 1 11 := ⟨by decide +kernel, rfl⟩
theorem b5_11 : Db prog_151_method_4_code 11 (.if_icmp .ge 29) (29) 14 40 := ⟨by decide +kernel, rfl, by decide, by decide⟩
theorem b5_14 : Dc prog_151_method_4_code 14 (.aload_n 1) 1 15 := ⟨by decide +kernel, rfl⟩
theorem b5_15 : Dc prog_151_method_4_code 15 (.iload_n 3) 1 16 := ⟨by decide +kernel, rfl⟩
theorem b5_16 : Dc prog_151_method_4_code 16 (.aaload) 1 17 := ⟨by decide +kernel, rfl⟩
theorem b5_17 : Dc prog_151_method_4_code 17 (.astore 4) 2 19 := ⟨by decide +kernel, rfl⟩
theorem b5_19 : Dc prog_151_method_4_code 19 (.aload 4) 2 21 := ⟨by decide +kernel, rfl⟩
theorem b5_21 : Dc prog_151_method_4_code 21 (.getfield 38) 3 24 := ⟨by decide +kernel, rfl⟩
theorem b5_24 : Dc prog_151_method_4_code 24 (.aload_n 0) 1 25 := ⟨by decide +kernel, rfl⟩
theorem b5_25 : Dc prog_151_method_4_code 25 (.invokevirtual 46) 3 28 := ⟨by decide +kernel, rfl⟩
theorem b5_28 : Db prog_151_method_4_code 28 (.ifCond .eq 6) (6) 31 34 := ⟨by decide +kernel, rfl, by decide, by decide⟩
theorem b5_31 : Dc prog_151_method_4_code 31 (.aload 4) 2 33 := ⟨by decide +kernel, rfl⟩
theorem b5_33 : Dc prog_151_method_4_code 33 (.areturn) 1 34 := ⟨by decide +kernel, rfl⟩
theorem b5_34 : Dc prog_151_method_4_code 34 (.iinc 3 1) 3 37 := ⟨by decide +kernel, rfl⟩
theorem b5_37 : Db prog_151_method_4_code 37 (.goto (-28)) (-28) 40 9 := ⟨by decide +kernel, rfl, by decide, by decide⟩
theorem b5_40 : Dc prog_151_method_4_code 40 (.aconst_null) 1 41 := ⟨by decide +kernel, rfl⟩
theorem b5_41 : Dc prog_151_method_4_code 41 (.areturn) 1 42 := ⟨by decide +kernel, rfl⟩
theorem b1_0 : Dc jdk_42_method_149_code 0 (.aload_n 0) 1 1 := ⟨by decide +kernel, rfl⟩
theorem b1_1 : Dc jdk_42_method_149_code 1 (.invokespecial 1) 3 4 := ⟨by decide +kernel, rfl⟩
theorem b1_4 : Dc jdk_42_method_149_code 4 (.iload_n 3) 1 5 := ⟨by decide +kernel, rfl⟩
theorem b1_5 : Db jdk_42_method_149_code 5 (.ifCond .ne 22) (22) 8 27 := ⟨by decide +kernel, rfl, by decide, by decide⟩
theorem b1_8 : Dc jdk_42_method_149_code 8 (.aload_n 0) 1 9 := ⟨by decide +kernel, rfl⟩
theorem b1_9 : Dc jdk_42_method_149_code 9 (.ldc 7) 2 11 := ⟨by decide +kernel, rfl⟩
theorem b1_11 : Dc jdk_42_method_149_code 11 (.getfield 9) 3 14 := ⟨by decide +kernel, rfl⟩
theorem b1_14 : Dc jdk_42_method_149_code 14 (.putfield 9) 3 17 := ⟨by decide +kernel, rfl⟩
theorem b1_17 : Dc jdk_42_method_149_code 17 (.aload_n 0) 1 18 := ⟨by decide +kernel, rfl⟩
theorem b1_18 : Dc jdk_42_method_149_code 18 (.ldc 7) 2 20 := ⟨by decide +kernel, rfl⟩
theorem b1_20 : Dc jdk_42_method_149_code 20 (.getfield 15) 3 23 := ⟨by decide +kernel, rfl⟩
theorem b1_23 : Dc jdk_42_method_149_code 23 (.putfield 15) 3 26 := ⟨by decide +kernel, rfl⟩
theorem b1_26 : Dc jdk_42_method_149_code 26 (.return_) 1 27 := ⟨by decide +kernel, rfl⟩
theorem b0_0 : Dc jdk_42_method_3_code 0 (.aload_n 0) 1 1 := ⟨by decide +kernel, rfl⟩
theorem b0_1 : Dc jdk_42_method_3_code 1 (.aload_n 1) 1 2 := ⟨by decide +kernel, rfl⟩
theorem b0_2 : Dc jdk_42_method_3_code 2 (.iconst 0) 1 3 := ⟨by decide +kernel, rfl⟩
theorem b0_3 : Dc jdk_42_method_3_code 3 (.aload_n 1) 1 4 := ⟨by decide +kernel, rfl⟩
theorem b0_4 : Dc jdk_42_method_3_code 4 (.arraylength) 1 5 := ⟨by decide +kernel, rfl⟩
theorem b0_5 : Dc jdk_42_method_3_code 5 (.aconst_null) 1 6 := ⟨by decide +kernel, rfl⟩
theorem b0_6 : Dc jdk_42_method_3_code 6 (.invokespecial 27) 3 9 := ⟨by decide +kernel, rfl⟩
theorem b0_9 : Dc jdk_42_method_3_code 9 (.return_) 1 10 := ⟨by decide +kernel, rfl⟩
theorem b6_0 : Dc prog_151_method_1_code 0 (.getstatic 10) 3 3 := ⟨by decide +kernel, rfl⟩
theorem b6_3 : Dc prog_151_method_1_code 3 (.invokevirtual 14) 3 6 := ⟨by decide +kernel, rfl⟩
theorem b6_6 : Dc prog_151_method_1_code 6 (.checkcast 15) 3 9 := ⟨by decide +kernel, rfl⟩
theorem b6_9 : Dc prog_151_method_1_code 9 (.areturn) 1 10 := ⟨by decide +kernel, rfl⟩
theorem b7_0 : Dc method_3_code 0 (.iload_n 3) 1 1 := ⟨by decide +kernel, rfl⟩
theorem b7_1 : Db method_3_code 1 (.ifCond .eq 12) (12) 4 13 := ⟨by decide +kernel, rfl, by decide, by decide⟩
theorem b7_13 : Dc method_3_code 13 (.iload_n 0) 1 14 := ⟨by decide +kernel, rfl⟩
theorem b7_14 : Dc method_3_code 14 (.iload_n 2) 1 15 := ⟨by decide +kernel, rfl⟩
theorem b7_15 : Db method_3_code 15 (.if_icmp .lt 6) (6) 18 21 := ⟨by decide +kernel, rfl, by decide, by decide⟩
theorem b7_21 : Dc method_3_code 21 (.iload_n 1) 1 22 := ⟨by decide +kernel, rfl⟩
theorem b7_22 : Db method_3_code 22 (.ifCond .ne 12) (12) 25 34 := ⟨by decide +kernel, rfl, by decide, by decide⟩
theorem b7_34 : Dc method_3_code 34 (.ldc 31) 2 36 := ⟨by decide +kernel, rfl⟩
theorem b7_36 : Dc method_3_code 36 (.iload_n 0) 1 37 := ⟨by decide +kernel, rfl⟩
theorem b7_37 : Dc method_3_code 37 (.invokevirtual 40) 3 40 := ⟨by decide +kernel, rfl⟩
theorem b7_40 : Dc method_3_code 40 (.ireturn) 1 41 := ⟨by decide +kernel, rfl⟩
theorem b7_25 : Dc method_3_code 25 (.ldc 19) 2 27 := ⟨by decide +kernel, rfl⟩
theorem b7_27 : Dc method_3_code 27 (.iload_n 0) 1 28 := ⟨by decide +kernel, rfl⟩
theorem b7_28 : Dc method_3_code 28 (.invokevirtual 40) 3 31 := ⟨by decide +kernel, rfl⟩
theorem b7_31 : Db method_3_code 31 (.goto 9) (9) 34 40 := ⟨by decide +kernel, rfl, by decide, by decide⟩
theorem b7_18 : Dc method_3_code 18 (.iload 6) 2 20 := ⟨by decide +kernel, rfl⟩
theorem b7_20 : Dc method_3_code 20 (.ireturn) 1 21 := ⟨by decide +kernel, rfl⟩
theorem b7_4 : Dc method_3_code 4 (.iload_n 0) 1 5 := ⟨by decide +kernel, rfl⟩
theorem b7_5 : Dc method_3_code 5 (.iload 4) 2 7 := ⟨by decide +kernel, rfl⟩
theorem b7_7 : Db method_3_code 7 (.if_icmp .ne 6) (6) 10 13 := ⟨by decide +kernel, rfl, by decide, by decide⟩
theorem b7_10 : Dc method_3_code 10 (.iload 5) 2 12 := ⟨by decide +kernel, rfl⟩
theorem b7_12 : Dc method_3_code 12 (.ireturn) 1 13 := ⟨by decide +kernel, rfl⟩
theorem L_0 : Dc code 0 (.iload_n 0) 1 1 := ⟨at_0, rfl⟩
theorem L_1 : Dc code 1 (.iconst 1) 1 2 := ⟨at_1, rfl⟩
theorem L_2 : Dc code 2 (.iand) 1 3 := ⟨at_2, rfl⟩
theorem L_3 : Dc code 3 (.istore 5) 2 5 := ⟨at_3, rfl⟩
theorem L_5 : Dc code 5 (.iload 5) 2 7 := ⟨at_5, rfl⟩
theorem L_7 : Db code 7 (.ifCond .ne 8) (8) 10 15 := ⟨at_7, rfl, by decide, by decide⟩
theorem L_15 : Dc code 15 (.bipush 6) 2 17 := ⟨at_15, rfl⟩
theorem L_17 : Dc code 17 (.istore 6) 2 19 := ⟨at_17, rfl⟩
theorem L_19 : Dc code 19 (.iload_n 1) 1 20 := ⟨at_19, rfl⟩
theorem L_20 : Dc code 20 (.iconst 3) 1 21 := ⟨at_20, rfl⟩
theorem L_21 : Dc code 21 (.iand) 1 22 := ⟨at_21, rfl⟩
theorem L_22 : Dc code 22 (.istore 7) 2 24 := ⟨at_22, rfl⟩
theorem L_24 : Dc code 24 (.iload 7) 2 26 := ⟨at_24, rfl⟩
theorem L_26 : Db code 26 (.ifCond .ne 8) (8) 29 34 := ⟨at_26, rfl, by decide, by decide⟩
theorem L_34 : Dc code 34 (.iload 7) 2 36 := ⟨at_34, rfl⟩
theorem L_36 : Dc code 36 (.iconst 1) 1 37 := ⟨at_36, rfl⟩
theorem L_37 : Db code 37 (.if_icmp .ne 10) (10) 40 47 := ⟨at_37, rfl, by decide, by decide⟩
theorem L_47 : Dc code 47 (.iload 7) 2 49 := ⟨at_47, rfl⟩
theorem L_49 : Dc code 49 (.iconst 2) 1 50 := ⟨at_49, rfl⟩
theorem L_50 : Db code 50 (.if_icmp .ne 10) (10) 53 60 := ⟨at_50, rfl, by decide, by decide⟩
theorem L_60 : Dc code 60 (.iconst 0) 1 61 := ⟨at_60, rfl⟩
theorem L_61 : Dc code 61 (.istore 8) 2 63 := ⟨at_61, rfl⟩
theorem L_74 : Dc code 74 (.istore 9) 2 76 := ⟨at_74, rfl⟩
theorem L_76 : Dc code 76 (.iload_n 2) 1 77 := ⟨at_76, rfl⟩
theorem L_77 : Dc code 77 (.ldc 7) 2 79 := ⟨at_77, rfl⟩
theorem L_79 : Dc code 79 (.iand) 1 80 := ⟨at_79, rfl⟩
theorem L_80 : Dc code 80 (.bipush 9) 2 82 := ⟨at_80, rfl⟩
theorem L_82 : Dc code 82 (.irem) 1 83 := ⟨at_82, rfl⟩
theorem L_83 : Dc code 83 (.istore 10) 2 85 := ⟨at_83, rfl⟩
theorem L_85 : Dc code 85 (.iload_n 3) 1 86 := ⟨at_85, rfl⟩
theorem L_86 : Dc code 86 (.sipush 255) 3 89 := ⟨at_86, rfl⟩
theorem L_89 : Dc code 89 (.iand) 1 90 := ⟨at_89, rfl⟩
theorem L_90 : Dc code 90 (.i2c) 1 91 := ⟨at_90, rfl⟩
theorem L_91 : Dc code 91 (.istore 11) 2 93 := ⟨at_91, rfl⟩
theorem L_93 : Dc code 93 (.iload 4) 2 95 := ⟨at_93, rfl⟩
theorem L_95 : Dc code 95 (.sipush 255) 3 98 := ⟨at_95, rfl⟩
theorem L_98 : Dc code 98 (.iand) 1 99 := ⟨at_98, rfl⟩
theorem L_99 : Dc code 99 (.i2c) 1 100 := ⟨at_99, rfl⟩
theorem L_100 : Dc code 100 (.istore 12) 2 102 := ⟨at_100, rfl⟩
theorem L_102 : Dc code 102 (.iload 8) 2 104 := ⟨at_102, rfl⟩
theorem L_104 : Dc code 104 (.newarray .char) 2 106 := ⟨at_104, rfl⟩
theorem L_106 : Dc code 106 (.astore 13) 2 108 := ⟨at_106, rfl⟩
theorem L_108 : Dc code 108 (.iload 8) 2 110 := ⟨at_108, rfl⟩
theorem L_110 : Db code 110 (.ifCond .le 23) (23) 113 133 := ⟨at_110, rfl, by decide, by decide⟩
theorem L_133 : Dc code 133 (.iload 8) 2 135 := ⟨at_133, rfl⟩
theorem L_135 : Dc code 135 (.iconst 1) 1 136 := ⟨at_135, rfl⟩
theorem L_136 : Db code 136 (.if_icmp .le 23) (23) 139 159 := ⟨at_136, rfl, by decide, by decide⟩
theorem L_159 : Dc code 159 (.iload 8) 2 161 := ⟨at_159, rfl⟩
theorem L_161 : Dc code 161 (.iconst 2) 1 162 := ⟨at_161, rfl⟩
theorem L_162 : Db code 162 (.if_icmp .le 23) (23) 165 185 := ⟨at_162, rfl, by decide, by decide⟩
theorem L_185 : Dc code 185 (.iload 8) 2 187 := ⟨at_185, rfl⟩
theorem L_187 : Dc code 187 (.iconst 3) 1 188 := ⟨at_187, rfl⟩
theorem L_188 : Db code 188 (.if_icmp .le 23) (23) 191 211 := ⟨at_188, rfl, by decide, by decide⟩
theorem L_211 : Dc code 211 (.iload 8) 2 213 := ⟨at_211, rfl⟩
theorem L_213 : Dc code 213 (.iconst 4) 1 214 := ⟨at_213, rfl⟩
theorem L_214 : Db code 214 (.if_icmp .le 23) (23) 217 237 := ⟨at_214, rfl, by decide, by decide⟩
theorem L_237 : Dc code 237 (.iload 8) 2 239 := ⟨at_237, rfl⟩
theorem L_239 : Dc code 239 (.iconst 5) 1 240 := ⟨at_239, rfl⟩
theorem L_240 : Db code 240 (.if_icmp .le 23) (23) 243 263 := ⟨at_240, rfl, by decide, by decide⟩
theorem L_263 : Dc code 263 (.iload 8) 2 265 := ⟨at_263, rfl⟩
theorem L_265 : Dc code 265 (.bipush 6) 2 267 := ⟨at_265, rfl⟩
theorem L_267 : Db code 267 (.if_icmp .le 25) (25) 270 292 := ⟨at_267, rfl, by decide, by decide⟩
theorem L_292 : Dc code 292 (.iload 8) 2 294 := ⟨at_292, rfl⟩
theorem L_294 : Dc code 294 (.bipush 7) 2 296 := ⟨at_294, rfl⟩
theorem L_296 : Db code 296 (.if_icmp .le 25) (25) 299 321 := ⟨at_296, rfl, by decide, by decide⟩
theorem L_321 : Dc code 321 (.iload 8) 2 323 := ⟨at_321, rfl⟩
theorem L_323 : Dc code 323 (.bipush 8) 2 325 := ⟨at_323, rfl⟩
theorem L_325 : Db code 325 (.if_icmp .le 25) (25) 328 350 := ⟨at_325, rfl, by decide, by decide⟩
theorem L_350 : Dc code 350 (.new 14) 3 353 := ⟨at_350, rfl⟩
theorem L_353 : Dc code 353 (.dup) 1 354 := ⟨at_353, rfl⟩
theorem L_354 : Dc code 354 (.aload 13) 2 356 := ⟨at_354, rfl⟩
theorem L_356 : Dc code 356 (.invokespecial 16) 3 359 := ⟨at_356, rfl⟩
theorem L_359 : Dc code 359 (.astore 14) 2 361 := ⟨at_359, rfl⟩
theorem L_361 : Dc code 361 (.aconst_null) 1 362 := ⟨at_361, rfl⟩
theorem L_362 : Dc code 362 (.astore 15) 2 364 := ⟨at_362, rfl⟩
theorem L_364 : Dc code 364 (.aload 14) 2 366 := ⟨at_364, rfl⟩
theorem L_366 : Dc code 366 (.ldc 19) 2 368 := ⟨at_366, rfl⟩
theorem L_368 : Dc code 368 (.invokevirtual 21) 3 371 := ⟨at_368, rfl⟩
theorem L_371 : Db code 371 (.ifCond .eq 11) (11) 374 382 := ⟨at_371, rfl, by decide, by decide⟩
theorem L_374 : Dc code 374 (.getstatic 25) 3 377 := ⟨at_374, rfl⟩
theorem L_377 : Dc code 377 (.astore 15) 2 379 := ⟨at_377, rfl⟩
theorem L_379 : Db code 379 (.goto 18) (18) 382 397 := ⟨at_379, rfl, by decide, by decide⟩
theorem L_397 : Dc code 397 (.aload 14) 2 399 := ⟨at_397, rfl⟩
theorem L_399 : Dc code 399 (.invokestatic 36) 3 402 := ⟨at_399, rfl⟩
theorem L_402 : Dc code 402 (.aload 15) 2 404 := ⟨at_402, rfl⟩
theorem L_404 : Db code 404 (.if_acmp .ne 7) (7) 407 411 := ⟨at_404, rfl, by decide, by decide⟩
theorem L_407 : Dc code 407 (.iconst 1) 1 408 := ⟨at_407, rfl⟩
theorem L_408 : Db code 408 (.goto 4) (4) 411 412 := ⟨at_408, rfl, by decide, by decide⟩
theorem L_412 : Dc code 412 (.ireturn) 1 413 := ⟨at_412, rfl⟩
theorem L_382 : Dc code 382 (.aload 14) 2 384 := ⟨at_382, rfl⟩
theorem L_384 : Dc code 384 (.ldc 31) 2 386 := ⟨at_384, rfl⟩
theorem L_386 : Dc code 386 (.invokevirtual 21) 3 389 := ⟨at_386, rfl⟩
theorem L_389 : Db code 389 (.ifCond .eq 8) (8) 392 397 := ⟨at_389, rfl, by decide, by decide⟩
theorem L_392 : Dc code 392 (.getstatic 33) 3 395 := ⟨at_392, rfl⟩
theorem L_395 : Dc code 395 (.astore 15) 2 397 := ⟨at_395, rfl⟩
theorem L_63 : Dc code 63 (.iload_n 1) 1 64 := ⟨at_63, rfl⟩
theorem L_64 : Dc code 64 (.iconst 4) 1 65 := ⟨at_64, rfl⟩
theorem L_65 : Dc code 65 (.iand) 1 66 := ⟨at_65, rfl⟩
theorem L_66 : Db code 66 (.ifCond .eq 7) (7) 69 73 := ⟨at_66, rfl, by decide, by decide⟩
theorem L_73 : Dc code 73 (.iconst 0) 1 74 := ⟨at_73, rfl⟩
theorem L_69 : Dc code 69 (.iconst 1) 1 70 := ⟨at_69, rfl⟩
theorem L_70 : Db code 70 (.goto 4) (4) 73 74 := ⟨at_70, rfl, by decide, by decide⟩
theorem L_53 : Dc code 53 (.iload 6) 2 55 := ⟨at_53, rfl⟩
theorem L_55 : Dc code 55 (.iconst 1) 1 56 := ⟨at_55, rfl⟩
theorem L_56 : Dc code 56 (.isub) 1 57 := ⟨at_56, rfl⟩
theorem L_57 : Db code 57 (.goto 4) (4) 60 61 := ⟨at_57, rfl, by decide, by decide⟩
theorem L_113 : Dc code 113 (.aload 13) 2 115 := ⟨at_113, rfl⟩
theorem L_115 : Dc code 115 (.iconst 0) 1 116 := ⟨at_115, rfl⟩
theorem L_116 : Dc code 116 (.iconst 0) 1 117 := ⟨at_116, rfl⟩
theorem L_117 : Dc code 117 (.iload 5) 2 119 := ⟨at_117, rfl⟩
theorem L_119 : Dc code 119 (.iload 6) 2 121 := ⟨at_119, rfl⟩
theorem L_121 : Dc code 121 (.iload 9) 2 123 := ⟨at_121, rfl⟩
theorem L_123 : Dc code 123 (.iload 10) 2 125 := ⟨at_123, rfl⟩
theorem L_125 : Dc code 125 (.iload 11) 2 127 := ⟨at_125, rfl⟩
theorem L_127 : Dc code 127 (.iload 12) 2 129 := ⟨at_127, rfl⟩
theorem L_129 : Dc code 129 (.invokestatic 8) 3 132 := ⟨at_129, rfl⟩
theorem L_132 : Dc code 132 (.castore) 1 133 := ⟨at_132, rfl⟩
theorem L_139 : Dc code 139 (.aload 13) 2 141 := ⟨at_139, rfl⟩
theorem L_141 : Dc code 141 (.iconst 1) 1 142 := ⟨at_141, rfl⟩
theorem L_142 : Dc code 142 (.iconst 1) 1 143 := ⟨at_142, rfl⟩
theorem L_143 : Dc code 143 (.iload 5) 2 145 := ⟨at_143, rfl⟩
theorem L_145 : Dc code 145 (.iload 6) 2 147 := ⟨at_145, rfl⟩
theorem L_147 : Dc code 147 (.iload 9) 2 149 := ⟨at_147, rfl⟩
theorem L_149 : Dc code 149 (.iload 10) 2 151 := ⟨at_149, rfl⟩
theorem L_151 : Dc code 151 (.iload 11) 2 153 := ⟨at_151, rfl⟩
theorem L_153 : Dc code 153 (.iload 12) 2 155 := ⟨at_153, rfl⟩
theorem L_155 : Dc code 155 (.invokestatic 8) 3 158 := ⟨at_155, rfl⟩
theorem L_158 : Dc code 158 (.castore) 1 159 := ⟨at_158, rfl⟩
theorem L_165 : Dc code 165 (.aload 13) 2 167 := ⟨at_165, rfl⟩
theorem L_167 : Dc code 167 (.iconst 2) 1 168 := ⟨at_167, rfl⟩
theorem L_168 : Dc code 168 (.iconst 2) 1 169 := ⟨at_168, rfl⟩
theorem L_169 : Dc code 169 (.iload 5) 2 171 := ⟨at_169, rfl⟩
theorem L_171 : Dc code 171 (.iload 6) 2 173 := ⟨at_171, rfl⟩
theorem L_173 : Dc code 173 (.iload 9) 2 175 := ⟨at_173, rfl⟩
theorem L_175 : Dc code 175 (.iload 10) 2 177 := ⟨at_175, rfl⟩
theorem L_177 : Dc code 177 (.iload 11) 2 179 := ⟨at_177, rfl⟩
theorem L_179 : Dc code 179 (.iload 12) 2 181 := ⟨at_179, rfl⟩
theorem L_181 : Dc code 181 (.invokestatic 8) 3 184 := ⟨at_181, rfl⟩
theorem L_184 : Dc code 184 (.castore) 1 185 := ⟨at_184, rfl⟩
theorem L_191 : Dc code 191 (.aload 13) 2 193 := ⟨at_191, rfl⟩
theorem L_193 : Dc code 193 (.iconst 3) 1 194 := ⟨at_193, rfl⟩
theorem L_194 : Dc code 194 (.iconst 3) 1 195 := ⟨at_194, rfl⟩
theorem L_195 : Dc code 195 (.iload 5) 2 197 := ⟨at_195, rfl⟩
theorem L_197 : Dc code 197 (.iload 6) 2 199 := ⟨at_197, rfl⟩
theorem L_199 : Dc code 199 (.iload 9) 2 201 := ⟨at_199, rfl⟩
theorem L_201 : Dc code 201 (.iload 10) 2 203 := ⟨at_201, rfl⟩
theorem L_203 : Dc code 203 (.iload 11) 2 205 := ⟨at_203, rfl⟩
theorem L_205 : Dc code 205 (.iload 12) 2 207 := ⟨at_205, rfl⟩
theorem L_207 : Dc code 207 (.invokestatic 8) 3 210 := ⟨at_207, rfl⟩
theorem L_210 : Dc code 210 (.castore) 1 211 := ⟨at_210, rfl⟩
theorem L_217 : Dc code 217 (.aload 13) 2 219 := ⟨at_217, rfl⟩
theorem L_219 : Dc code 219 (.iconst 4) 1 220 := ⟨at_219, rfl⟩
theorem L_220 : Dc code 220 (.iconst 4) 1 221 := ⟨at_220, rfl⟩
theorem L_221 : Dc code 221 (.iload 5) 2 223 := ⟨at_221, rfl⟩
theorem L_223 : Dc code 223 (.iload 6) 2 225 := ⟨at_223, rfl⟩
theorem L_225 : Dc code 225 (.iload 9) 2 227 := ⟨at_225, rfl⟩
theorem L_227 : Dc code 227 (.iload 10) 2 229 := ⟨at_227, rfl⟩
theorem L_229 : Dc code 229 (.iload 11) 2 231 := ⟨at_229, rfl⟩
theorem L_231 : Dc code 231 (.iload 12) 2 233 := ⟨at_231, rfl⟩
theorem L_233 : Dc code 233 (.invokestatic 8) 3 236 := ⟨at_233, rfl⟩
theorem L_236 : Dc code 236 (.castore) 1 237 := ⟨at_236, rfl⟩
theorem L_40 : Dc code 40 (.iload 6) 2 42 := ⟨at_40, rfl⟩
theorem L_42 : Dc code 42 (.iconst 1) 1 43 := ⟨at_42, rfl⟩
theorem L_43 : Dc code 43 (.iadd) 1 44 := ⟨at_43, rfl⟩
theorem L_44 : Db code 44 (.goto 17) (17) 47 61 := ⟨at_44, rfl, by decide, by decide⟩
theorem L_243 : Dc code 243 (.aload 13) 2 245 := ⟨at_243, rfl⟩
theorem L_245 : Dc code 245 (.iconst 5) 1 246 := ⟨at_245, rfl⟩
theorem L_246 : Dc code 246 (.iconst 5) 1 247 := ⟨at_246, rfl⟩
theorem L_247 : Dc code 247 (.iload 5) 2 249 := ⟨at_247, rfl⟩
theorem L_249 : Dc code 249 (.iload 6) 2 251 := ⟨at_249, rfl⟩
theorem L_251 : Dc code 251 (.iload 9) 2 253 := ⟨at_251, rfl⟩
theorem L_253 : Dc code 253 (.iload 10) 2 255 := ⟨at_253, rfl⟩
theorem L_255 : Dc code 255 (.iload 11) 2 257 := ⟨at_255, rfl⟩
theorem L_257 : Dc code 257 (.iload 12) 2 259 := ⟨at_257, rfl⟩
theorem L_259 : Dc code 259 (.invokestatic 8) 3 262 := ⟨at_259, rfl⟩
theorem L_262 : Dc code 262 (.castore) 1 263 := ⟨at_262, rfl⟩
theorem L_270 : Dc code 270 (.aload 13) 2 272 := ⟨at_270, rfl⟩
theorem L_272 : Dc code 272 (.bipush 6) 2 274 := ⟨at_272, rfl⟩
theorem L_274 : Dc code 274 (.bipush 6) 2 276 := ⟨at_274, rfl⟩
theorem L_276 : Dc code 276 (.iload 5) 2 278 := ⟨at_276, rfl⟩
theorem L_278 : Dc code 278 (.iload 6) 2 280 := ⟨at_278, rfl⟩
theorem L_280 : Dc code 280 (.iload 9) 2 282 := ⟨at_280, rfl⟩
theorem L_282 : Dc code 282 (.iload 10) 2 284 := ⟨at_282, rfl⟩
theorem L_284 : Dc code 284 (.iload 11) 2 286 := ⟨at_284, rfl⟩
theorem L_286 : Dc code 286 (.iload 12) 2 288 := ⟨at_286, rfl⟩
theorem L_288 : Dc code 288 (.invokestatic 8) 3 291 := ⟨at_288, rfl⟩
theorem L_291 : Dc code 291 (.castore) 1 292 := ⟨at_291, rfl⟩
theorem L_29 : Dc code 29 (.iload 6) 2 31 := ⟨at_29, rfl⟩
theorem L_31 : Db code 31 (.goto 30) (30) 34 61 := ⟨at_31, rfl, by decide, by decide⟩
theorem L_10 : Dc code 10 (.bipush 8) 2 12 := ⟨at_10, rfl⟩
theorem L_12 : Db code 12 (.goto 5) (5) 15 17 := ⟨at_12, rfl, by decide, by decide⟩
theorem L_299 : Dc code 299 (.aload 13) 2 301 := ⟨at_299, rfl⟩
theorem L_301 : Dc code 301 (.bipush 7) 2 303 := ⟨at_301, rfl⟩
theorem L_303 : Dc code 303 (.bipush 7) 2 305 := ⟨at_303, rfl⟩
theorem L_305 : Dc code 305 (.iload 5) 2 307 := ⟨at_305, rfl⟩
theorem L_307 : Dc code 307 (.iload 6) 2 309 := ⟨at_307, rfl⟩
theorem L_309 : Dc code 309 (.iload 9) 2 311 := ⟨at_309, rfl⟩
theorem L_311 : Dc code 311 (.iload 10) 2 313 := ⟨at_311, rfl⟩
theorem L_313 : Dc code 313 (.iload 11) 2 315 := ⟨at_313, rfl⟩
theorem L_315 : Dc code 315 (.iload 12) 2 317 := ⟨at_315, rfl⟩
theorem L_317 : Dc code 317 (.invokestatic 8) 3 320 := ⟨at_317, rfl⟩
theorem L_320 : Dc code 320 (.castore) 1 321 := ⟨at_320, rfl⟩
theorem L_328 : Dc code 328 (.aload 13) 2 330 := ⟨at_328, rfl⟩
theorem L_330 : Dc code 330 (.bipush 8) 2 332 := ⟨at_330, rfl⟩
theorem L_332 : Dc code 332 (.bipush 8) 2 334 := ⟨at_332, rfl⟩
theorem L_334 : Dc code 334 (.iload 5) 2 336 := ⟨at_334, rfl⟩
theorem L_336 : Dc code 336 (.iload 6) 2 338 := ⟨at_336, rfl⟩
theorem L_338 : Dc code 338 (.iload 9) 2 340 := ⟨at_338, rfl⟩
theorem L_340 : Dc code 340 (.iload 10) 2 342 := ⟨at_340, rfl⟩
theorem L_342 : Dc code 342 (.iload 11) 2 344 := ⟨at_342, rfl⟩
theorem L_344 : Dc code 344 (.iload 12) 2 346 := ⟨at_344, rfl⟩
theorem L_346 : Dc code 346 (.invokestatic 8) 3 349 := ⟨at_346, rfl⟩
theorem L_349 : Dc code 349 (.castore) 1 350 := ⟨at_349, rfl⟩
theorem pd0 : parseMethodDescriptor "()[Lcom/example/tranche/tranche/calendar/City;" = some ⟨[], some (.array (.object "com/example/tranche/tranche/calendar/City"))⟩ := by decide +kernel
theorem pd1 : parseMethodDescriptor "(Ljava/lang/Object;)Z" = some ⟨[(.object "java/lang/Object")], some .boolean⟩ := by decide +kernel
theorem pd2 : parseMethodDescriptor "([CIILjava/lang/Void;)V" = some ⟨[(.array .char), .int, .int, (.object "java/lang/Void")], none⟩ := by decide +kernel
theorem pd3 : parseMethodDescriptor "(I)C" = some ⟨[.int], some .char⟩ := by decide +kernel
theorem pd4 : parseMethodDescriptor "([C)V" = some ⟨[(.array .char)], none⟩ := by decide +kernel
theorem pd5 : parseMethodDescriptor "(Ljava/lang/String;)Lcom/example/tranche/tranche/calendar/City;" = some ⟨[(.object "java/lang/String")], some (.object "com/example/tranche/tranche/calendar/City")⟩ := by decide +kernel
theorem pd6 : parseMethodDescriptor "(IIIZICC)C" = some ⟨[.int, .int, .int, .boolean, .int, .char, .char], some .char⟩ := by decide +kernel
theorem pn0 : plainName "com/example/tranche/tranche/calendar/City" = true := by first | (simp [plainName, overriddenIn]; done) | decide +kernel
theorem pn1 : plainName "java/lang/String" = true := by first | (simp [plainName, overriddenIn]; done) | decide +kernel
theorem pn2 : plainName "com/example/tranche/tranche/calendar/CityFromLabelPinLaw" = true := by first | (simp [plainName, overriddenIn]; done) | decide +kernel
def StrL (Z : State) (h : Heap) (x : Addr) (cs : List Int32) : Prop := ∃ (t : Addr) (kb : ClassId), Exa Z h x "java/lang/String" ∧ Fld Z h x "java/lang/String" "coder" "B" (.int 0) ∧ Fld Z h x "java/lang/String" "value" "[B" (.ref t) ∧ Arv Z h t kb .byte (Int32.ofNat cs.length) ((cs.map StrChars.lo8).map Value.int) (.int 0) ∧ (∀ c ∈ cs, ¬ c < 0 ∧ ¬ (255 : Int32) < c) ∧ cs.length ≤ 4000
theorem StrL.ext {Z : State} {h h' : Heap} {x : Addr} {cs : List Int32} (E : Ext h h') (S : StrL Z h x cs) : StrL Z h' x cs := by
  obtain ⟨t, kb, a, b, c, d, e, f⟩ := S
  exact ⟨t, kb, a.ext E, b.ext E, c.ext E, d.ext E, e, f⟩
theorem StrL.exa {Z : State} {h : Heap} {x : Addr} {cs : List Int32} (S : StrL Z h x cs) : Exa Z h x "java/lang/String" := by obtain ⟨t, kb, a, -⟩ := S; exact a
theorem StrL.up {Z : State} {h : Heap} {x : Addr} {cs : List Int32} (S : StrL Z h x cs) : ∀ c ∈ cs, ¬ c < 0 ∧ ¬ (65535 : Int32) < c := by obtain ⟨t, kb, -, -, -, -, e, -⟩ := S; exact fun c hc => ⟨(e c hc).1, ch_up (e c hc).2⟩

theorem hws_new {Z : State} {a0 : Array Value} (hw : ∀ d ∈ tables_1, d.before a0 Z = true) : ∀ d ∈ StrChars.Road.words, d.before a0 Z = true := fun d hd => hw d ((by decide +kernel : ∀ d ∈ StrChars.Road.words, d ∈ tables_1) d hd)

theorem hws_eq {Z : State} {a0 : Array Value} (hw : ∀ d ∈ tables_1, d.before a0 Z = true) : ∀ d ∈ StrChars.Road.wordsEq, d.before a0 Z = true := fun d hd => hw d ((by decide +kernel : ∀ d ∈ StrChars.Road.wordsEq, d ∈ tables_1) d hd)

theorem hws_ch {Z : State} {a0 : Array Value} (hw : ∀ d ∈ tables_1, d.before a0 Z = true) : ∀ d ∈ StrChars.Road.wordsChN, d.before a0 Z = true := fun d hd => hw d ((by decide +kernel : ∀ d ∈ StrChars.Road.wordsChN, d ∈ tables_1) d hd)

theorem hsA {Z : State} {a0 : Array Value} (hw : ∀ d ∈ tables_1, d.before a0 Z = true) : ∀ d ∈ Bundle.stringAtoms, d.before a0 Z = true := fun d hd => hw d ((by decide +kernel : ∀ d ∈ Bundle.stringAtoms, d ∈ tables_1) d hd)

theorem cal_strN {md : Option EList} {p : Program} {l : Launch} {e : Env} {R : Room} {args : Array Value} {below : List Frame} {W : Nat} {Z : State} {a0 : Array Value} {h : Heap} {n0 : Nat} (hw : ∀ d ∈ tables_1, d.before a0 Z = true) {x b : Addr} {kC : ClassId} {cs : List Int32} {d v0 c0 : Value} {z : Int32} (n : Nat)
    (hx0 : n0 ≤ x) (hh0 : n0 ≤ h.size) (E : Exa Z h x "java/lang/String") (V : Fld Z h x "java/lang/String" "value" "[B" v0) (C : Fld Z h x "java/lang/String" "coder" "B" c0) (K : Arv Z h b kC .char (Int32.ofNat n) (cs.map Value.int) d) (S : Sta Z h "java/lang/String" "COMPACT_STRINGS" "Z" (.int z)) (hz : ¬ z = 0)
    (hn : cs.length = n) (l0 : 0 < n) (l2 : n ≤ 4000) (hp : ∀ c ∈ cs, ¬ c < 0 ∧ ¬ (255 : Int32) < c) (hfr : 4 ≤ R.frames) (hlo : W + 65 ≤ R.locals) :
    Cal md l R p e below args (⟨"java/lang/String", "<init>", "([C)V"⟩ : MethodName) 3 W Z n0 h [x] #[.ref x, .ref b] 1 n (fun v h' => v = none ∧ StrL Z h' x cs) :=
  Cal.ofBack (fun s' hZ => StrChars.Road.backV (W := W) hZ (hws_new hw) (kI := 4) (hw _ (List.mem_of_getElem? (i := 3) rfl)) (cs := cs) (bs := cs.map fun c => c.toInt8.toInt32) (n := n) (n0 := n0) hx0 hh0 E V C K S hz hn rfl l0 l2 hp rfl hfr hlo)
    (fun v h' L q => by
      obtain ⟨q1, q2, q3, q4, q5, t, kb, q6, q7, q8, q9, q10⟩ := q
      subst hn
      exact ⟨⟨q1, t, kb, q4, q5, q9, q10, hp, l2⟩, q3, q2⟩)

theorem cal_eq {md : Option EList} {p : Program} {l : Launch} {e : Env} {R : Room} {args : Array Value} {below : List Frame} {W : Nat} {Z : State} {a0 : Array Value} {h : Heap} {n0 : Nat} (hw : ∀ d ∈ tables_1, d.before a0 Z = true) {x y : Addr} {cs ds : List Int32} {z : Int32} (A : StrL Z h x cs) (B : StrL Z h y ds) (S : Sta Z h "java/lang/String" "COMPACT_STRINGS" "Z" (.int z)) (hz : ¬ z = 0) (hfr : 2 ≤ R.frames) (hlo : W + 28 ≤ R.locals) :
    Cal md l R p e below args (⟨"java/lang/String", "equals", "(Ljava/lang/Object;)Z"⟩ : MethodName) 3 W Z n0 h [] #[.ref x, .ref y] 0 0 (fun v h' => (v = some (.int 1) ∧ cs = ds) ∨ (v = some (.int 0) ∧ ¬ cs = ds)) := by
  have u1 := A.up
  have u2 := B.up
  obtain ⟨t, kb, a1, a2, a3, a4, a5, a6⟩ := A
  obtain ⟨t', kb', b1, b2, b3, b4, b5, b6⟩ := B
  refine Cal.ofBack (Q := fun v h' L => ((v = some (.int 1) ∧ cs = ds) ∨ (v = some (.int 0) ∧ ¬ cs = ds)) ∧ L = [] ∧ h' = h) (fun s' hZ => StrChars.Road.eqW (W := W) hZ (hws_eq hw) (kI := 4) (hw _ (List.mem_of_getElem? (i := 3) rfl)) a1 a3 a2 a4 (StrChars.Road.codOf rfl fun c hc => (a5 c hc).2) u1 a6 b1 b3 b2 b4 (StrChars.Road.codOf rfl fun c hc => (b5 c hc).2) u2 b6 S hz hfr hlo) (fun v h' L q => ?_)
  obtain ⟨q1, rfl, rfl⟩ := q
  exact ⟨q1, Keep.refl _ _, Fr.nil _⟩

theorem cal_ch {md : Option EList} {p : Program} {l : Launch} {e : Env} {R : Room} {args : Array Value} {below : List Frame} {W : Nat} {Z : State} {a0 : Array Value} {h : Heap} {n0 : Nat} (hw : ∀ d ∈ tables_1, d.before a0 Z = true) {x : Addr} {cs : List Int32} {z : Int32} {fm : Value} {j : Int32} (i : Nat) (A : StrL Z h x cs) (S : Sta Z h "java/lang/String" "COMPACT_STRINGS" "Z" (.int z)) (hz : ¬ z = 0) (Sf : Sta Z h "jdk/internal/util/Preconditions" "SIOOBE_FORMATTER" "Ljava/util/function/BiFunction;" fm) (rf : fm.isRef = true) (hi : i < cs.length) (hj : j = Int32.ofNat i) (hfr : 4 ≤ R.frames) (hlo : W + 53 ≤ R.locals) :
    Cal md l R p e below args (⟨"java/lang/String", "charAt", "(I)C"⟩ : MethodName) 3 W Z n0 h [] #[.ref x, .int j] 0 0 (fun v h' => v = some (.int (cs.getD i 0))) := by
  have u1 := A.up
  obtain ⟨t, kb, a1, a2, a3, a4, a5, a6⟩ := A
  refine Cal.ofBack (Q := fun v h' L => v = some (.int (cs.getD i 0)) ∧ L = [] ∧ h' = h) (fun s' hZ => StrChars.Road.chN (W := W) hZ (hws_ch hw) (kI := 4) (hw _ (List.mem_of_getElem? (i := 3) rfl)) a1 a3 a2 a4 (StrChars.Road.codOf rfl fun c hc => (a5 c hc).2) u1 S hz Sf rf a6 hi hj hfr hlo) (fun v h' L q => ?_)
  obtain ⟨q1, rfl, rfl⟩ := q
  exact ⟨q1, Keep.refl _ _, Fr.nil _⟩

set_option maxRecDepth 65536 in
set_option maxHeartbeats 40000000 in
theorem c_initE4 (l : Launch) (Z : State) (a0 : Array Value) (hw : ∀ d ∈ tables_1, d.before a0 Z = true) (h0 : Heap) (n0 : Nat) (Z0 : n0 ≤ h0.size) (x b : Addr) (v1 v2 : Value) (gx : n0 ≤ x) (Ex : Exa Z h0 x "java/lang/String") (F1 : Fld Z h0 x "java/lang/String" "value" "[B" v1) (F2 : Fld Z h0 x "java/lang/String" "coder" "B" v2) (hE : EW Z a0 [("com/example/tranche/tranche/calendar/CityFromLabelPinLaw", 19), ("com/example/tranche/tranche/calendar/CityFromLabelPinLaw", 31), ("java/lang/String", 7)]) :
    Con (some [("com/example/tranche/tranche/calendar/CityFromLabelPinLaw", 19), ("com/example/tranche/tranche/calendar/CityFromLabelPinLaw", 31), ("java/lang/String", 7)]) l (⟨"java/lang/String", "<init>", "([CIILjava/lang/Void;)V"⟩ : MethodName) jdk_42_method_149_code 6 none [] ({ frames := 1, cells := 4, slots := 8, locals := 12 } : Room) Z n0 h0 [x] #[(.ref x), (.ref b), (.int (0 : Int32)), (.int (0 : Int32)), .null] (fun v h => v = none ∧ StrL Z h x []) := by
  refine Con.intro pn1 Z0 (allS ⟨gx, Ex.lt⟩ all0) ⟨a0, hE⟩ #[.val (.ref x), .val (.ref b), .val (.int (0 : Int32)), .val (.int (0 : Int32)), .val .null, .unset] (fun m => by first | (simp [entryFrame, mkF, argsToLocals, Value.category]; done) | rfl) ?_
  intro p e s m below meth c T0 hlk hret hnm K0
  have P0 := Keep.refl h0 [x]
  refine gAloadN K0 b1_0 (v := (.ref x)) rfl rfl ?_
  refine gInitO K0 b1_1 (hw _ (List.mem_of_getElem? (i := 12) rfl)) (hw _ (List.mem_of_getElem? (i := 13) rfl)) (hw _ (List.mem_of_getElem? (i := 14) rfl)) rfl (by decide) (W := 0) (Nat.le_of_eq rfl) (by decide) (fun T101 K101 => ?_)
  refine gIloadN K101 b1_4 (v := (0 : Int32)) rfl ?_
  refine gIf_ne K101 b1_5 (fun q => absurd q (by first | decide | (intro hh; cases hh) | simp)) (fun q5 => ?_)
  refine gAloadN K101 b1_8 (v := (.ref x)) rfl rfl ?_
  refine gLdc K101 b1_9 (hw _ (List.mem_of_getElem? (i := 15) rfl)) (hsA hw) (by decide) (vs := []) (z := 0) (by decide) (by decide) (by decide) 0 (by decide) (by decide) (by decide) (by decide) (fun T102 h102 a102 b102 kA102 K102 E102 Ea102 Fc102 Fv102 Ab102 ne102 => ?_)
  have P103 := P0.ext E102
  refine gGet K102 b1_11 (hw _ (List.mem_of_getElem? (i := 21) rfl)) Fv102 (fun T104 K104 => ?_)
  refine gPut K104 b1_14 (hw _ (List.mem_of_getElem? (i := 21) rfl)) (List.mem_of_getElem? (i := 0) rfl) (F1.ext E102) (Ex.ext E102) (Or.inr ⟨(hw _ (List.mem_of_getElem? (i := 17) rfl)), rfl, hnm⟩) (hw _ (List.mem_of_getElem? (i := 3) rfl)) (ty := (.array .byte)) (by decide) rfl rfl (fun T105 h105 K105 W105 F105 => ?_)
  have P106 := P103.trans (Keep.of_wr W105) (fun z q => by cases List.mem_singleton.mp q; exact Or.inl (List.mem_of_getElem? (i := 0) rfl))
  have F107 := Fld.other W105 (F2.ext E102) (Or.inr (slot_ne (C := "java/lang/String") (a0 := a0) (Or.inr (hw _ (List.mem_of_getElem? (i := 18) rfl))) (Or.inr (hw _ (List.mem_of_getElem? (i := 17) rfl))) (by decide) (by decide : parseFieldDescriptor _ = some .byte) (by decide : parseFieldDescriptor _ = some (.array .byte))))
  have A108 := Exa.wr W105 (Ex.ext E102)
  refine gAloadN K105 b1_17 (v := (.ref x)) rfl rfl ?_
  refine gLdc K105 b1_18 (hw _ (List.mem_of_getElem? (i := 15) rfl)) (hsA hw) (by decide) (vs := []) (z := 0) (by decide) (by decide) (by decide) 0 (by decide) (by decide) (by decide) (by decide) (fun T109 h109 a109 b109 kA109 K109 E109 Ea109 Fc109 Fv109 Ab109 ne109 => ?_)
  have P110 := P106.ext E109
  refine gGet K109 b1_20 (hw _ (List.mem_of_getElem? (i := 22) rfl)) Fc109 (fun T111 K111 => ?_)
  refine gPut K111 b1_23 (hw _ (List.mem_of_getElem? (i := 22) rfl)) (List.mem_of_getElem? (i := 0) rfl) (F107.ext E109) (A108.ext E109) (Or.inr ⟨(hw _ (List.mem_of_getElem? (i := 18) rfl)), rfl, hnm⟩) (hw _ (List.mem_of_getElem? (i := 3) rfl)) (ty := .byte) (by decide) rfl rfl (fun T112 h112 K112 W112 F112 => ?_)
  have P113 := P110.trans (Keep.of_wr W112) (fun z q => by cases List.mem_singleton.mp q; exact Or.inl (List.mem_of_getElem? (i := 0) rfl))
  have F114 := Fld.other W112 (F105.ext E109) (Or.inr (slot_ne (C := "java/lang/String") (a0 := a0) (Or.inr (hw _ (List.mem_of_getElem? (i := 17) rfl))) (Or.inr (hw _ (List.mem_of_getElem? (i := 18) rfl))) (by decide) (by decide : parseFieldDescriptor _ = some (.array .byte)) (by decide : parseFieldDescriptor _ = some .byte)))
  have A115 := Exa.wr W112 (A108.ext E109)
  refine gRetV K112 hlk hret b1_26 P113 (by decide) (by decide) ?_
  exact ⟨rfl, b102, _, A115, F112, F114, (((Ab102.keep (Keep.of_wr W105) (ninS (ne102 x (List.mem_of_getElem? (i := 0) rfl)).2.symm nin0)).ext E109).keep (Keep.of_wr W112) (ninS (ne102 x (List.mem_of_getElem? (i := 0) rfl)).2.symm nin0)), (fun _ q => nomatch q), by decide⟩
set_option maxRecDepth 65536 in
set_option maxHeartbeats 40000000 in
theorem c_initE1 (l : Launch) (Z : State) (a0 : Array Value) (hw : ∀ d ∈ tables_1, d.before a0 Z = true) (h0 : Heap) (n0 : Nat) (Z0 : n0 ≤ h0.size) (x b : Addr) (kC : ClassId) (vs : List Value) (dv : Value) (v1 v2 : Value) (gx : n0 ≤ x) (Ex : Exa Z h0 x "java/lang/String") (F1 : Fld Z h0 x "java/lang/String" "value" "[B" v1) (F2 : Fld Z h0 x "java/lang/String" "coder" "B" v2) (Ab : Arv Z h0 b kC .char 0 vs dv) (hE : EW Z a0 [("com/example/tranche/tranche/calendar/CityFromLabelPinLaw", 19), ("com/example/tranche/tranche/calendar/CityFromLabelPinLaw", 31), ("java/lang/String", 7)]) :
    Con (some [("com/example/tranche/tranche/calendar/CityFromLabelPinLaw", 19), ("com/example/tranche/tranche/calendar/CityFromLabelPinLaw", 31), ("java/lang/String", 7)]) l (⟨"java/lang/String", "<init>", "([C)V"⟩ : MethodName) jdk_42_method_3_code 2 none [] ({ frames := 2, cells := 4, slots := 8, locals := 29 } : Room) Z n0 h0 [x] #[(.ref x), (.ref b)] (fun v h => v = none ∧ StrL Z h x []) := by
  refine Con.intro pn1 Z0 (allS ⟨gx, Ex.lt⟩ all0) ⟨a0, hE⟩ #[.val (.ref x), .val (.ref b)] (fun m => by first | (simp [entryFrame, mkF, argsToLocals, Value.category]; done) | rfl) ?_
  intro p e s m below meth c T0 hlk hret hnm K0
  have P0 := Keep.refl h0 [x]
  refine gAloadN K0 b0_0 (v := (.ref x)) rfl rfl ?_
  refine gAloadN K0 b0_1 (v := (.ref b)) rfl rfl ?_
  refine gIconst K0 (0 : Int32) b0_2 rfl ?_
  refine gAloadN K0 b0_3 (v := (.ref b)) rfl rfl ?_
  refine gLen K0 b0_4 Ab ?_
  refine gNull K0 b0_5 ?_
  refine gCallI K0 (W := 0) x [(.ref b), (.int (0 : Int32)), (.int (0 : Int32)), .null] [] b0_6 rfl (hw _ (List.mem_of_getElem? (i := 8) rfl)) (hw _ (List.mem_of_getElem? (i := 9) rfl)) (hw _ (List.mem_of_getElem? (i := 11) rfl)) (Cal.ofW (W := 0) (c_initE4 l Z a0 hw h0 n0 K0.n0le x b v1 v2 gx Ex F1 F2 hE) (hw _ (List.mem_of_getElem? (i := 11) rfl)) (hw _ (List.mem_of_getElem? (i := 4) rfl)) (by decide) (by decide)) (fun z q => by cases List.mem_singleton.mp q; exact (List.mem_of_getElem? (i := 0) rfl)) pd2 rfl rfl (Nat.le_of_eq rfl) rfl (by decide) (by decide) (by decide) (fun v101 T101 h101 K101 Q101 q101 => ?_)
  have P102 := P0.trans Q101 (fun z q => by cases List.mem_singleton.mp q; exact Or.inl (List.mem_of_getElem? (i := 0) rfl))
  obtain ⟨rfl, St101⟩ := q101
  refine gRetV K101 hlk hret b0_9 P102 (by decide) (by decide) ?_
  exact ⟨rfl, St101⟩
theorem cal_str {p : Program} {l : Launch} {e : Env} {R : Room} {args : Array Value} {below : List Frame} {W : Nat} {Z : State} {a0 : Array Value} {h : Heap} {n0 : Nat} (hw : ∀ d ∈ tables_1, d.before a0 Z = true) (hE : EW Z a0 [("com/example/tranche/tranche/calendar/CityFromLabelPinLaw", 19), ("com/example/tranche/tranche/calendar/CityFromLabelPinLaw", 31), ("java/lang/String", 7)]) {x b : Addr} {kC : ClassId} {cs : List Int32} {d v0 c0 : Value} {z : Int32} (n : Nat)
    (hx0 : n0 ≤ x) (hh0 : n0 ≤ h.size) (E : Exa Z h x "java/lang/String") (V : Fld Z h x "java/lang/String" "value" "[B" v0) (C : Fld Z h x "java/lang/String" "coder" "B" c0) (K : Arv Z h b kC .char (Int32.ofNat n) (cs.map Value.int) d) (S : Sta Z h "java/lang/String" "COMPACT_STRINGS" "Z" (.int z)) (hz : ¬ z = 0)
    (hn : cs.length = n) (l2 : n ≤ 4000) (hp : ∀ c ∈ cs, ¬ c < 0 ∧ ¬ (255 : Int32) < c) (hfr : 4 ≤ R.frames) (hlo : W + 65 ≤ R.locals) (ks : Nat) (hk1 : n ≤ ks) (hk2 : 8 ≤ ks) :
    Cal (some [("com/example/tranche/tranche/calendar/CityFromLabelPinLaw", 19), ("com/example/tranche/tranche/calendar/CityFromLabelPinLaw", 31), ("java/lang/String", 7)]) l R p e below args (⟨"java/lang/String", "<init>", "([C)V"⟩ : MethodName) 3 W Z n0 h [x] #[.ref x, .ref b] 4 ks (fun v h' => v = none ∧ StrL Z h' x cs) := by
  by_cases h0 : n = 0
  · subst h0
    obtain rfl : cs = [] := List.length_eq_zero_iff.mp hn
    exact Cal.mono (Cal.ofW (W := W) (c_initE1 l Z a0 hw h n0 hh0 x b kC _ d v0 c0 hx0 E V C K hE) (hw _ (List.mem_of_getElem? (i := 7) rfl)) (hw _ (List.mem_of_getElem? (i := 4) rfl)) (Nat.le_trans (by decide) hfr) (Nat.le_trans (show W + (2 + 11) + 29 ≤ W + 65 by omega) hlo)) (by decide) hk2 (fun _ _ q => q)
  · exact Cal.mono (cal_strN hw n hx0 hh0 E V C K S hz hn (Nat.pos_of_ne_zero h0) l2 hp hfr hlo) (by decide) hk1 (fun _ _ q => q)

set_option maxRecDepth 65536 in
set_option maxHeartbeats 40000000 in
theorem c_values (l : Launch) (Z : State) (a0 : Array Value) (hw : ∀ d ∈ tables_1, d.before a0 Z = true) (h0 : Heap) (n0 : Nat) (Z0 : n0 ≤ h0.size) (va : Addr) (kV : ClassId) (zv : Int32) (vs : List Value) (dv : Value) (hcap : zv.toNatClampNeg ≤ 2) (Sv : Sta Z h0 "com/example/tranche/tranche/calendar/City" "$VALUES" "[Lcom/example/tranche/tranche/calendar/City;" (.ref va)) (Av : Arv Z h0 va kV (.object "com/example/tranche/tranche/calendar/City") zv vs dv) (Ev : Exa Z h0 va "[Lcom/example/tranche/tranche/calendar/City;") :
    Con none l (⟨"com/example/tranche/tranche/calendar/City", "values", "()[Lcom/example/tranche/tranche/calendar/City;"⟩ : MethodName) prog_151_method_1_code 0 (some (.array (.object "com/example/tranche/tranche/calendar/City"))) [] ({ frames := 1, cells := 1, slots := 2, locals := 14 } : Room) Z n0 h0 [] #[] (fun v h => ∃ x : Addr, v = some (.ref x) ∧ Arv Z h x kV (.object "com/example/tranche/tranche/calendar/City") zv vs dv) := by
  refine Con.intro pn0 Z0 (fun _ q => nomatch q) trivial #[] (fun m => by first | (simp [entryFrame, mkF, argsToLocals, Value.category]; done) | rfl) ?_
  intro p e s m below meth c T0 hlk hret hnm K0
  have P0 := Keep.refl h0 []
  refine gGetS K0 b6_0 (hw _ (List.mem_of_getElem? (i := 43) rfl)) Sv (fun T101 K101 => ?_)
  refine gClone K101 b6_3 (hw _ (List.mem_of_getElem? (i := 45) rfl)) (hw _ (List.mem_of_getElem? (i := 46) rfl)) (hw _ (List.mem_of_getElem? (i := 50) rfl)) (hw _ (List.mem_of_getElem? (i := 48) rfl)) (hw _ (List.mem_of_getElem? (i := 49) rfl)) (hw _ (List.mem_of_getElem? (i := 51) rfl)) Av Ev rfl (by decide) (W := 0) (Nat.le_of_eq rfl) (by decide) 2 hcap (by decide) (by decide) (fun T102 h102 x102 K102 E102 g102 A102 B102 ne102 => ?_)
  have P103 := P0.ext E102
  have ge_x102 : h0.size ≤ x102 := by rw [g102]; exact P0.1
  refine gCast K102 b6_6 (hw _ (List.mem_of_getElem? (i := 53) rfl)) (Ins.self B102) (fun T104 K104 => ?_)
  refine gRetA K104 hlk hret rfl rfl b6_9 P103 (by decide) (by decide) ?_
  exact ⟨_, rfl, A102⟩
set_option maxRecDepth 65536 in
set_option maxHeartbeats 40000000 in
theorem c_look (l : Launch) (Z : State) (a0 : Array Value) (hw : ∀ d ∈ tables_1, d.before a0 Z = true) (h0 : Heap) (n0 : Nat) (Z0 : n0 ≤ h0.size) (sx : Addr) (cs : List Int32) (va : Addr) (kV : ClassId) (dv : Value) (v0 l0 v1 l1 : Addr) (z : Int32) (Sv : Sta Z h0 "com/example/tranche/tranche/calendar/City" "$VALUES" "[Lcom/example/tranche/tranche/calendar/City;" (.ref va)) (Av : Arv Z h0 va kV (.object "com/example/tranche/tranche/calendar/City") 2 [.ref v0, .ref v1] dv) (Ev : Exa Z h0 va "[Lcom/example/tranche/tranche/calendar/City;") (F0 : Fld Z h0 v0 "com/example/tranche/tranche/calendar/City" "label" "Ljava/lang/String;" (.ref l0)) (L0 : StrL Z h0 l0 [(110 : Int32), (101 : Int32), (119 : Int32), (45 : Int32), (121 : Int32), (111 : Int32), (114 : Int32), (107 : Int32)]) (F1 : Fld Z h0 v1 "com/example/tranche/tranche/calendar/City" "label" "Ljava/lang/String;" (.ref l1)) (L1 : StrL Z h0 l1 [(108 : Int32), (111 : Int32), (110 : Int32), (100 : Int32), (111 : Int32), (110 : Int32)]) (Sc : Sta Z h0 "java/lang/String" "COMPACT_STRINGS" "Z" (.int z)) (hz : ¬ z = 0) (Sx : StrL Z h0 sx cs) :
    Con none l (⟨"com/example/tranche/tranche/calendar/City", "fromLabel", "(Ljava/lang/String;)Lcom/example/tranche/tranche/calendar/City;"⟩ : MethodName) prog_151_method_4_code 5 (some (.object "com/example/tranche/tranche/calendar/City")) [] ({ frames := 2, cells := 1, slots := 2, locals := 28 } : Room) Z n0 h0 [] #[(.ref sx)] (fun v h => v = some (if cs = [(110 : Int32), (101 : Int32), (119 : Int32), (45 : Int32), (121 : Int32), (111 : Int32), (114 : Int32), (107 : Int32)] then .ref v0 else (if cs = [(108 : Int32), (111 : Int32), (110 : Int32), (100 : Int32), (111 : Int32), (110 : Int32)] then .ref v1 else .null))) := by
  refine Con.intro pn0 Z0 (fun _ q => nomatch q) trivial #[.val (.ref sx), .unset, .unset, .unset, .unset] (fun m => by first | (simp [entryFrame, mkF, argsToLocals, Value.category]; done) | rfl) ?_
  intro p e s m below meth c T0 hlk hret hnm K0
  have P0 := Keep.refl h0 []
  refine gCallS K0 (W := 0) [] [] b5_0 (hw _ (List.mem_of_getElem? (i := 40) rfl)) (hw _ (List.mem_of_getElem? (i := 41) rfl)) (hw _ (List.mem_of_getElem? (i := 38) rfl)) (hw _ (List.mem_of_getElem? (i := 42) rfl)) (Cal.ofN (W := 0) (c_values l Z a0 hw h0 n0 K0.n0le va kV (2 : Int32) _ dv (by decide) Sv Av Ev) (hw _ (List.mem_of_getElem? (i := 42) rfl)) (hw _ (List.mem_of_getElem? (i := 38) rfl)) (by decide) (by decide)) (fun _ q => nomatch q) pd0 rfl rfl (Nat.le_of_eq rfl) rfl (by decide) (by decide) (by decide) (fun v101 T101 h101 K101 Q101 q101 => ?_)
  have E101 := Ext.of0 Q101
  have P102 := P0.ext E101
  obtain ⟨y101, rfl, Ay101⟩ := q101
  refine gAstoreN K101 b5_3 rfl (Ls' := #[.val (.ref sx), .val (.ref y101), .unset, .unset, .unset]) rfl ?_
  refine gAloadN K101 b5_4 (v := (.ref y101)) rfl rfl ?_
  refine gLen K101 b5_5 Ay101 ?_
  refine gIstoreN K101 b5_6 (Ls' := #[.val (.ref sx), .val (.ref y101), .val (.int (2 : Int32)), .unset, .unset]) rfl ?_
  refine gIconst K101 (0 : Int32) b5_7 rfl ?_
  refine gIstoreN K101 b5_8 (Ls' := #[.val (.ref sx), .val (.ref y101), .val (.int (2 : Int32)), .val (.int (0 : Int32)), .unset]) rfl ?_
  refine gIloadN K101 b5_9 (v := (0 : Int32)) rfl ?_
  refine gIloadN K101 b5_10 (v := (2 : Int32)) rfl ?_
  refine gIcmp_ge K101 b5_11 (fun q => absurd q (by first | decide | (intro hh; cases hh) | simp)) (fun q11 => ?_)
  refine gAloadN K101 b5_14 (v := (.ref y101)) rfl rfl ?_
  refine gIloadN K101 b5_15 (v := (0 : Int32)) rfl ?_
  refine gAaload K101 b5_16 Ay101 rfl (by decide) (v := (.ref v0)) rfl ?_
  refine gAstore K101 b5_17 rfl (Ls' := #[.val (.ref sx), .val (.ref y101), .val (.int (2 : Int32)), .val (.int (0 : Int32)), .val (.ref v0)]) rfl ?_
  refine gAload K101 b5_19 (v := (.ref v0)) rfl rfl ?_
  refine gGet K101 b5_21 (hw _ (List.mem_of_getElem? (i := 55) rfl)) (F0.ext E101) (fun T103 K103 => ?_)
  refine gAloadN K103 b5_24 (v := (.ref sx)) rfl rfl ?_
  refine gCallV K103 (W := 0) (C := "java/lang/String") l0 [(.ref sx)] [] b5_25 (hw _ (List.mem_of_getElem? (i := 57) rfl)) (hw _ (List.mem_of_getElem? (i := 25) rfl)) (hw _ (List.mem_of_getElem? (i := 27) rfl)) (hw _ (List.mem_of_getElem? (i := 26) rfl)) (cal_eq hw (W := 0) (L0.ext E101) (Sx.ext E101) (Sc.ext E101) hz (by decide) (by decide)) ((L0.ext E101)).exa (fun _ q => nomatch q) pd1 rfl rfl (Nat.le_of_eq rfl) rfl (by decide) (by decide) (by decide) (fun v104 T104 h104 K104 Q104 q104 => ?_)
  have E104 := Ext.of0 Q104
  have P105 := P102.ext E104
  rcases q104 with ⟨rfl, hc0⟩ | ⟨rfl, hc0⟩
  · skip
    refine gIf_eq K104 b5_28 (fun q => absurd q (by first | decide | (intro hh; cases hh) | simp)) (fun q28 => ?_)
    refine gAload K104 b5_31 (v := (.ref v0)) rfl rfl ?_
    refine gRetA K104 hlk hret rfl rfl b5_33 P105 (by decide) (by decide) ?_
    show _ = _
    rw [if_pos hc0.symm]
  · skip
    refine gIf_eq K104 b5_28 (fun q28 => ?_) (fun q => absurd q (by first | decide | (intro hh; cases hh) | simp))
    refine gIinc K104 (1 : Int32) b5_34 rfl (x := (0 : Int32)) rfl (Ls' := #[.val (.ref sx), .val (.ref y101), .val (.int (2 : Int32)), .val (.int (1 : Int32)), .val (.ref v0)]) rfl ?_
    refine gGoto K104 b5_37 ?_
    refine gIloadN K104 b5_9 (v := (1 : Int32)) rfl ?_
    refine gIloadN K104 b5_10 (v := (2 : Int32)) rfl ?_
    refine gIcmp_ge K104 b5_11 (fun q => absurd q (by first | decide | (intro hh; cases hh) | simp)) (fun q11 => ?_)
    refine gAloadN K104 b5_14 (v := (.ref y101)) rfl rfl ?_
    refine gIloadN K104 b5_15 (v := (1 : Int32)) rfl ?_
    refine gAaload K104 b5_16 (Ay101.ext E104) rfl (by decide) (v := (.ref v1)) rfl ?_
    refine gAstore K104 b5_17 rfl (Ls' := #[.val (.ref sx), .val (.ref y101), .val (.int (2 : Int32)), .val (.int (1 : Int32)), .val (.ref v1)]) rfl ?_
    refine gAload K104 b5_19 (v := (.ref v1)) rfl rfl ?_
    refine gGet K104 b5_21 (hw _ (List.mem_of_getElem? (i := 55) rfl)) (F1.ext (Ext.tr E101 E104)) (fun T106 K106 => ?_)
    refine gAloadN K106 b5_24 (v := (.ref sx)) rfl rfl ?_
    refine gCallV K106 (W := 0) (C := "java/lang/String") l1 [(.ref sx)] [] b5_25 (hw _ (List.mem_of_getElem? (i := 57) rfl)) (hw _ (List.mem_of_getElem? (i := 25) rfl)) (hw _ (List.mem_of_getElem? (i := 27) rfl)) (hw _ (List.mem_of_getElem? (i := 26) rfl)) (cal_eq hw (W := 0) (L1.ext (Ext.tr E101 E104)) (Sx.ext (Ext.tr E101 E104)) (Sc.ext (Ext.tr E101 E104)) hz (by decide) (by decide)) ((L1.ext (Ext.tr E101 E104))).exa (fun _ q => nomatch q) pd1 rfl rfl (Nat.le_of_eq rfl) rfl (by decide) (by decide) (by decide) (fun v107 T107 h107 K107 Q107 q107 => ?_)
    have E107 := Ext.of0 Q107
    have P108 := P105.ext E107
    rcases q107 with ⟨rfl, hc1⟩ | ⟨rfl, hc1⟩
    · skip
      refine gIf_eq K107 b5_28 (fun q => absurd q (by first | decide | (intro hh; cases hh) | simp)) (fun q28 => ?_)
      refine gAload K107 b5_31 (v := (.ref v1)) rfl rfl ?_
      refine gRetA K107 hlk hret rfl rfl b5_33 P108 (by decide) (by decide) ?_
      show _ = _
      rw [if_neg (fun q => hc0 q.symm)]; rw [if_pos hc1.symm]
    · skip
      refine gIf_eq K107 b5_28 (fun q28 => ?_) (fun q => absurd q (by first | decide | (intro hh; cases hh) | simp))
      refine gIinc K107 (1 : Int32) b5_34 rfl (x := (1 : Int32)) rfl (Ls' := #[.val (.ref sx), .val (.ref y101), .val (.int (2 : Int32)), .val (.int (2 : Int32)), .val (.ref v1)]) rfl ?_
      refine gGoto K107 b5_37 ?_
      refine gIloadN K107 b5_9 (v := (2 : Int32)) rfl ?_
      refine gIloadN K107 b5_10 (v := (2 : Int32)) rfl ?_
      refine gIcmp_ge K107 b5_11 (fun q11 => ?_) (fun q => absurd q (by first | decide | (intro hh; cases hh) | simp))
      refine gNull K107 b5_40 ?_
      refine gRetA K107 hlk hret rfl rfl b5_41 P108 (by decide) (by decide) ?_
      show _ = _
      rw [if_neg (fun q => hc0 q.symm)]; rw [if_neg (fun q => hc1 q.symm)]
set_option maxRecDepth 65536 in
set_option maxHeartbeats 40000000 in
theorem c_at (l : Launch) (Z : State) (a0 : Array Value) (hw : ∀ d ∈ tables_1, d.before a0 Z = true) (h0 : Heap) (n0 : Nat) (Z0 : n0 ≤ h0.size) (hE : EW Z a0 [("com/example/tranche/tranche/calendar/CityFromLabelPinLaw", 19), ("com/example/tranche/tranche/calendar/CityFromLabelPinLaw", 31), ("java/lang/String", 7)]) (wh sb pp cc e_ : Int32) (k N : Nat) (hk : k ≤ 100) (hN : N ≤ 100) (hn0 : wh = 0 → N ≤ 8) (hn1 : ¬ wh = 0 → N ≤ 6) (hcb : ¬ cc < 0 ∧ ¬ (255 : Int32) < cc) (heb : ¬ e_ < 0 ∧ ¬ (255 : Int32) < e_) (z : Int32) (Sc : Sta Z h0 "java/lang/String" "COMPACT_STRINGS" "Z" (.int z)) (hz : ¬ z = 0) (fm : Value) (Sf : Sta Z h0 "jdk/internal/util/Preconditions" "SIOOBE_FORMATTER" "Ljava/util/function/BiFunction;" fm) (rf : fm.isRef = true) :
    Con (some [("com/example/tranche/tranche/calendar/CityFromLabelPinLaw", 19), ("com/example/tranche/tranche/calendar/CityFromLabelPinLaw", 31), ("java/lang/String", 7)]) l (⟨"com/example/tranche/tranche/calendar/CityFromLabelPinLaw", "at", "(IIIZICC)C"⟩ : MethodName) method_3_code 7 (some .char) [] ({ frames := 4, cells := 2, slots := 36, locals := 53 } : Room) Z n0 h0 [] #[(.int (Int32.ofNat k)), (.int wh), (.int (Int32.ofNat N)), (.int sb), (.int pp), (.int cc), (.int e_)] (fun v h => ∃ r : Int32, v = some (.int r) ∧ (¬ r < 0 ∧ ¬ (255 : Int32) < r)) := by
  refine Con.intro pn2 Z0 (fun _ q => nomatch q) ⟨a0, hE⟩ #[.val (.int (Int32.ofNat k)), .val (.int wh), .val (.int (Int32.ofNat N)), .val (.int sb), .val (.int pp), .val (.int cc), .val (.int e_)] (fun m => by first | (simp [entryFrame, mkF, argsToLocals, Value.category]; done) | rfl) ?_
  intro p e s m below meth c T0 hlk hret hnm K0
  have P0 := Keep.refl h0 []
  refine gIloadN K0 b7_0 (v := sb) rfl ?_
  refine gIf_eq K0 b7_1 (fun q1 => ?_) (fun q1 => ?_)
  · skip
    refine gIloadN K0 b7_13 (v := (Int32.ofNat k)) rfl ?_
    refine gIloadN K0 b7_14 (v := (Int32.ofNat N)) rfl ?_
    refine gIcmp_lt K0 b7_15 (fun q15 => ?_) (fun q15 => ?_)
    · skip
      refine gIloadN K0 b7_21 (v := wh) rfl ?_
      refine gIf_ne K0 b7_22 (fun q22 => ?_) (fun q22 => ?_)
      · skip
        refine gLdc K0 b7_34 (hw _ (List.mem_of_getElem? (i := 35) rfl)) (hsA hw) (by decide) (vs := ([(108 : Int32), (111 : Int32), (110 : Int32), (100 : Int32), (111 : Int32), (110 : Int32)].map StrChars.lo8).map Value.int) (z := Int32.ofNat 6) (by decide +kernel) (by decide) (by decide) 24 (by decide) (by decide) (by decide) (by decide) (fun T101 h101 a101 b101 kA101 K101 E101 Ea101 Fc101 Fv101 Ab101 ne101 => ?_)
        have P102 := P0.ext E101
        have Sl101 : StrL Z h101 a101 [(108 : Int32), (111 : Int32), (110 : Int32), (100 : Int32), (111 : Int32), (110 : Int32)] := ⟨b101, kA101, Ea101, Fc101, Fv101, Ab101, by decide, by decide⟩
        refine gIloadN K101 b7_36 (v := (Int32.ofNat k)) rfl ?_
        refine gCallV K101 (W := 0) (C := "java/lang/String") a101 [(.int (Int32.ofNat k))] [] b7_37 (hw _ (List.mem_of_getElem? (i := 63) rfl)) (hw _ (List.mem_of_getElem? (i := 64) rfl)) (hw _ (List.mem_of_getElem? (i := 66) rfl)) (hw _ (List.mem_of_getElem? (i := 65) rfl)) (cal_ch hw (W := 0) (j := (Int32.ofNat k)) k Sl101 (Sc.ext E101) hz (Sf.ext E101) rf (Nat.lt_of_lt_of_le (ofNat_lt (by omega) (by omega) q15) (hn1 q22)) rfl (by decide) (by decide)) (Sl101).exa (fun _ q => nomatch q) pd3 rfl rfl (Nat.le_of_eq rfl) rfl (by decide) (by decide) (by decide) (fun v103 T103 h103 K103 Q103 q103 => ?_)
        have E103 := Ext.of0 Q103
        have P104 := P102.ext E103
        cases q103
        refine gRetI K103 hlk hret (by simp) b7_40 (narrow_c (getD_bd (cs := [(108 : Int32), (111 : Int32), (110 : Int32), (100 : Int32), (111 : Int32), (110 : Int32)]) (by decide) k)) P104 (by decide) (by decide) ?_
        exact ⟨_, rfl, (getD_bd (cs := [(108 : Int32), (111 : Int32), (110 : Int32), (100 : Int32), (111 : Int32), (110 : Int32)]) (by decide) k)⟩
      · skip
        refine gLdc K0 b7_25 (hw _ (List.mem_of_getElem? (i := 23) rfl)) (hsA hw) (by decide) (vs := ([(110 : Int32), (101 : Int32), (119 : Int32), (45 : Int32), (121 : Int32), (111 : Int32), (114 : Int32), (107 : Int32)].map StrChars.lo8).map Value.int) (z := Int32.ofNat 8) (by decide +kernel) (by decide) (by decide) 32 (by decide) (by decide) (by decide) (by decide) (fun T105 h105 a105 b105 kA105 K105 E105 Ea105 Fc105 Fv105 Ab105 ne105 => ?_)
        have P106 := P0.ext E105
        have Sl105 : StrL Z h105 a105 [(110 : Int32), (101 : Int32), (119 : Int32), (45 : Int32), (121 : Int32), (111 : Int32), (114 : Int32), (107 : Int32)] := ⟨b105, kA105, Ea105, Fc105, Fv105, Ab105, by decide, by decide⟩
        refine gIloadN K105 b7_27 (v := (Int32.ofNat k)) rfl ?_
        refine gCallV K105 (W := 0) (C := "java/lang/String") a105 [(.int (Int32.ofNat k))] [] b7_28 (hw _ (List.mem_of_getElem? (i := 63) rfl)) (hw _ (List.mem_of_getElem? (i := 64) rfl)) (hw _ (List.mem_of_getElem? (i := 66) rfl)) (hw _ (List.mem_of_getElem? (i := 65) rfl)) (cal_ch hw (W := 0) (j := (Int32.ofNat k)) k Sl105 (Sc.ext E105) hz (Sf.ext E105) rf (Nat.lt_of_lt_of_le (ofNat_lt (by omega) (by omega) q15) (hn0 q22)) rfl (by decide) (by decide)) (Sl105).exa (fun _ q => nomatch q) pd3 rfl rfl (Nat.le_of_eq rfl) rfl (by decide) (by decide) (by decide) (fun v107 T107 h107 K107 Q107 q107 => ?_)
        have E107 := Ext.of0 Q107
        have P108 := P106.ext E107
        cases q107
        refine gGoto K107 b7_31 ?_
        refine gRetI K107 hlk hret (by simp) b7_40 (narrow_c (getD_bd (cs := [(110 : Int32), (101 : Int32), (119 : Int32), (45 : Int32), (121 : Int32), (111 : Int32), (114 : Int32), (107 : Int32)]) (by decide) k)) P108 (by decide) (by decide) ?_
        exact ⟨_, rfl, (getD_bd (cs := [(110 : Int32), (101 : Int32), (119 : Int32), (45 : Int32), (121 : Int32), (111 : Int32), (114 : Int32), (107 : Int32)]) (by decide) k)⟩
    · skip
      refine gIload K0 b7_18 (v := e_) rfl ?_
      refine gRetI K0 hlk hret (by simp) b7_20 (narrow_c heb) P0 (by decide) (by decide) ?_
      exact ⟨_, rfl, heb⟩
  · skip
    refine gIloadN K0 b7_4 (v := (Int32.ofNat k)) rfl ?_
    refine gIload K0 b7_5 (v := pp) rfl ?_
    refine gIcmp_ne K0 b7_7 (fun q7 => ?_) (fun q7 => ?_)
    · skip
      refine gIloadN K0 b7_13 (v := (Int32.ofNat k)) rfl ?_
      refine gIloadN K0 b7_14 (v := (Int32.ofNat N)) rfl ?_
      refine gIcmp_lt K0 b7_15 (fun q15 => ?_) (fun q15 => ?_)
      · skip
        refine gIloadN K0 b7_21 (v := wh) rfl ?_
        refine gIf_ne K0 b7_22 (fun q22 => ?_) (fun q22 => ?_)
        · skip
          refine gLdc K0 b7_34 (hw _ (List.mem_of_getElem? (i := 35) rfl)) (hsA hw) (by decide) (vs := ([(108 : Int32), (111 : Int32), (110 : Int32), (100 : Int32), (111 : Int32), (110 : Int32)].map StrChars.lo8).map Value.int) (z := Int32.ofNat 6) (by decide +kernel) (by decide) (by decide) 24 (by decide) (by decide) (by decide) (by decide) (fun T109 h109 a109 b109 kA109 K109 E109 Ea109 Fc109 Fv109 Ab109 ne109 => ?_)
          have P110 := P0.ext E109
          have Sl109 : StrL Z h109 a109 [(108 : Int32), (111 : Int32), (110 : Int32), (100 : Int32), (111 : Int32), (110 : Int32)] := ⟨b109, kA109, Ea109, Fc109, Fv109, Ab109, by decide, by decide⟩
          refine gIloadN K109 b7_36 (v := (Int32.ofNat k)) rfl ?_
          refine gCallV K109 (W := 0) (C := "java/lang/String") a109 [(.int (Int32.ofNat k))] [] b7_37 (hw _ (List.mem_of_getElem? (i := 63) rfl)) (hw _ (List.mem_of_getElem? (i := 64) rfl)) (hw _ (List.mem_of_getElem? (i := 66) rfl)) (hw _ (List.mem_of_getElem? (i := 65) rfl)) (cal_ch hw (W := 0) (j := (Int32.ofNat k)) k Sl109 (Sc.ext E109) hz (Sf.ext E109) rf (Nat.lt_of_lt_of_le (ofNat_lt (by omega) (by omega) q15) (hn1 q22)) rfl (by decide) (by decide)) (Sl109).exa (fun _ q => nomatch q) pd3 rfl rfl (Nat.le_of_eq rfl) rfl (by decide) (by decide) (by decide) (fun v111 T111 h111 K111 Q111 q111 => ?_)
          have E111 := Ext.of0 Q111
          have P112 := P110.ext E111
          cases q111
          refine gRetI K111 hlk hret (by simp) b7_40 (narrow_c (getD_bd (cs := [(108 : Int32), (111 : Int32), (110 : Int32), (100 : Int32), (111 : Int32), (110 : Int32)]) (by decide) k)) P112 (by decide) (by decide) ?_
          exact ⟨_, rfl, (getD_bd (cs := [(108 : Int32), (111 : Int32), (110 : Int32), (100 : Int32), (111 : Int32), (110 : Int32)]) (by decide) k)⟩
        · skip
          refine gLdc K0 b7_25 (hw _ (List.mem_of_getElem? (i := 23) rfl)) (hsA hw) (by decide) (vs := ([(110 : Int32), (101 : Int32), (119 : Int32), (45 : Int32), (121 : Int32), (111 : Int32), (114 : Int32), (107 : Int32)].map StrChars.lo8).map Value.int) (z := Int32.ofNat 8) (by decide +kernel) (by decide) (by decide) 32 (by decide) (by decide) (by decide) (by decide) (fun T113 h113 a113 b113 kA113 K113 E113 Ea113 Fc113 Fv113 Ab113 ne113 => ?_)
          have P114 := P0.ext E113
          have Sl113 : StrL Z h113 a113 [(110 : Int32), (101 : Int32), (119 : Int32), (45 : Int32), (121 : Int32), (111 : Int32), (114 : Int32), (107 : Int32)] := ⟨b113, kA113, Ea113, Fc113, Fv113, Ab113, by decide, by decide⟩
          refine gIloadN K113 b7_27 (v := (Int32.ofNat k)) rfl ?_
          refine gCallV K113 (W := 0) (C := "java/lang/String") a113 [(.int (Int32.ofNat k))] [] b7_28 (hw _ (List.mem_of_getElem? (i := 63) rfl)) (hw _ (List.mem_of_getElem? (i := 64) rfl)) (hw _ (List.mem_of_getElem? (i := 66) rfl)) (hw _ (List.mem_of_getElem? (i := 65) rfl)) (cal_ch hw (W := 0) (j := (Int32.ofNat k)) k Sl113 (Sc.ext E113) hz (Sf.ext E113) rf (Nat.lt_of_lt_of_le (ofNat_lt (by omega) (by omega) q15) (hn0 q22)) rfl (by decide) (by decide)) (Sl113).exa (fun _ q => nomatch q) pd3 rfl rfl (Nat.le_of_eq rfl) rfl (by decide) (by decide) (by decide) (fun v115 T115 h115 K115 Q115 q115 => ?_)
          have E115 := Ext.of0 Q115
          have P116 := P114.ext E115
          cases q115
          refine gGoto K115 b7_31 ?_
          refine gRetI K115 hlk hret (by simp) b7_40 (narrow_c (getD_bd (cs := [(110 : Int32), (101 : Int32), (119 : Int32), (45 : Int32), (121 : Int32), (111 : Int32), (114 : Int32), (107 : Int32)]) (by decide) k)) P116 (by decide) (by decide) ?_
          exact ⟨_, rfl, (getD_bd (cs := [(110 : Int32), (101 : Int32), (119 : Int32), (45 : Int32), (121 : Int32), (111 : Int32), (114 : Int32), (107 : Int32)]) (by decide) k)⟩
      · skip
        refine gIload K0 b7_18 (v := e_) rfl ?_
        refine gRetI K0 hlk hret (by simp) b7_20 (narrow_c heb) P0 (by decide) (by decide) ?_
        exact ⟨_, rfl, heb⟩
    · skip
      refine gIload K0 b7_10 (v := cc) rfl ?_
      refine gRetI K0 hlk hret (by simp) b7_12 (narrow_c hcb) P0 (by decide) (by decide) ?_
      exact ⟨_, rfl, hcb⟩
set_option maxRecDepth 65536 in
set_option maxHeartbeats 40000000 in
theorem c_atE (l : Launch) (Z : State) (a0 : Array Value) (hw : ∀ d ∈ tables_1, d.before a0 Z = true) (h0 : Heap) (n0 : Nat) (Z0 : n0 ≤ h0.size) (wh n sb pp cc e_ : Int32) (hcb : ¬ cc < 0 ∧ ¬ (255 : Int32) < cc) (heb : ¬ e_ < 0 ∧ ¬ (255 : Int32) < e_) :
    Con none l (⟨"com/example/tranche/tranche/calendar/CityFromLabelPinLaw", "at", "(IIIZICC)C"⟩ : MethodName) method_3_code 7 (some .char) [] ({ frames := 0, cells := 0, slots := 0, locals := 0 } : Room) Z n0 h0 [] #[(.int n), (.int wh), (.int n), (.int sb), (.int pp), (.int cc), (.int e_)] (fun v h => ∃ r : Int32, v = some (.int r) ∧ (¬ r < 0 ∧ ¬ (255 : Int32) < r)) := by
  refine Con.intro pn2 Z0 (fun _ q => nomatch q) trivial #[.val (.int n), .val (.int wh), .val (.int n), .val (.int sb), .val (.int pp), .val (.int cc), .val (.int e_)] (fun m => by first | (simp [entryFrame, mkF, argsToLocals, Value.category]; done) | rfl) ?_
  intro p e s m below meth c T0 hlk hret hnm K0
  have P0 := Keep.refl h0 []
  refine gIloadN K0 b7_0 (v := sb) rfl ?_
  refine gIf_eq K0 b7_1 (fun q1 => ?_) (fun q1 => ?_)
  · skip
    refine gIloadN K0 b7_13 (v := n) rfl ?_
    refine gIloadN K0 b7_14 (v := n) rfl ?_
    refine gIcmp_lt K0 b7_15 (fun q => absurd q (fun hh => absurd (i_lt hh) (Int.lt_irrefl _))) (fun q15 => ?_)
    refine gIload K0 b7_18 (v := e_) rfl ?_
    refine gRetI K0 hlk hret (by simp) b7_20 (narrow_c heb) P0 (by decide) (by decide) ?_
    exact ⟨_, rfl, heb⟩
  · skip
    refine gIloadN K0 b7_4 (v := n) rfl ?_
    refine gIload K0 b7_5 (v := pp) rfl ?_
    refine gIcmp_ne K0 b7_7 (fun q7 => ?_) (fun q7 => ?_)
    · skip
      refine gIloadN K0 b7_13 (v := n) rfl ?_
      refine gIloadN K0 b7_14 (v := n) rfl ?_
      refine gIcmp_lt K0 b7_15 (fun q => absurd q (fun hh => absurd (i_lt hh) (Int.lt_irrefl _))) (fun q15 => ?_)
      refine gIload K0 b7_18 (v := e_) rfl ?_
      refine gRetI K0 hlk hret (by simp) b7_20 (narrow_c heb) P0 (by decide) (by decide) ?_
      exact ⟨_, rfl, heb⟩
    · skip
      refine gIload K0 b7_10 (v := cc) rfl ?_
      refine gRetI K0 hlk hret (by simp) b7_12 (narrow_c hcb) P0 (by decide) (by decide) ?_
      exact ⟨_, rfl, hcb⟩
set_option maxRecDepth 65536 in
set_option maxHeartbeats 40000000 in
theorem c_law (l : Launch) (Z : State) (a0 : Array Value) (hw : ∀ d ∈ tables_1, d.before a0 Z = true) (h0 : Heap) (n0 : Nat) (Z0 : n0 ≤ h0.size) (hE : EW Z a0 [("com/example/tranche/tranche/calendar/CityFromLabelPinLaw", 19), ("com/example/tranche/tranche/calendar/CityFromLabelPinLaw", 31), ("java/lang/String", 7)]) (pick shape pos chh ext : Int32) (va : Addr) (kV : ClassId) (dv : Value) (v0 l0 v1 l1 : Addr) (z : Int32) (Sv : Sta Z h0 "com/example/tranche/tranche/calendar/City" "$VALUES" "[Lcom/example/tranche/tranche/calendar/City;" (.ref va)) (Av : Arv Z h0 va kV (.object "com/example/tranche/tranche/calendar/City") 2 [.ref v0, .ref v1] dv) (Ev : Exa Z h0 va "[Lcom/example/tranche/tranche/calendar/City;") (F0 : Fld Z h0 v0 "com/example/tranche/tranche/calendar/City" "label" "Ljava/lang/String;" (.ref l0)) (L0 : StrL Z h0 l0 [(110 : Int32), (101 : Int32), (119 : Int32), (45 : Int32), (121 : Int32), (111 : Int32), (114 : Int32), (107 : Int32)]) (F1 : Fld Z h0 v1 "com/example/tranche/tranche/calendar/City" "label" "Ljava/lang/String;" (.ref l1)) (L1 : StrL Z h0 l1 [(108 : Int32), (111 : Int32), (110 : Int32), (100 : Int32), (111 : Int32), (110 : Int32)]) (Sc : Sta Z h0 "java/lang/String" "COMPACT_STRINGS" "Z" (.int z)) (hz : ¬ z = 0) (fm : Value) (Sf : Sta Z h0 "jdk/internal/util/Preconditions" "SIOOBE_FORMATTER" "Ljava/util/function/BiFunction;" fm) (rf : fm.isRef = true) (S0 : Sta Z h0 "com/example/tranche/tranche/calendar/City" "NEW_YORK" "Lcom/example/tranche/tranche/calendar/City;" (.ref v0)) (S1 : Sta Z h0 "com/example/tranche/tranche/calendar/City" "LONDON" "Lcom/example/tranche/tranche/calendar/City;" (.ref v1)) :
    Con (some [("com/example/tranche/tranche/calendar/CityFromLabelPinLaw", 19), ("com/example/tranche/tranche/calendar/CityFromLabelPinLaw", 31), ("java/lang/String", 7)]) l (⟨"com/example/tranche/tranche/calendar/CityFromLabelPinLaw", "law", "(IIIII)Z"⟩ : MethodName) code maxLocals ret tables_1 room_1 Z n0 h0 [] #[(.int pick), (.int shape), (.int pos), (.int chh), (.int ext)] (fun v h => v = some (.int 1)) := by
  refine Con.intro pn2 Z0 (fun _ q => nomatch q) ⟨a0, hE⟩ #[.val (.int pick), .val (.int shape), .val (.int pos), .val (.int chh), .val (.int ext), .unset, .unset, .unset, .unset, .unset, .unset, .unset, .unset, .unset, .unset, .unset] (fun m => by first | (simp [entryFrame, mkF, argsToLocals, Value.category, maxLocals]; done) | rfl) ?_
  intro p e s m below meth c T0 hlk hret hnm K0
  have P0 := Keep.refl h0 []
  refine gIloadN K0 L_0 (v := pick) rfl ?_
  refine gIconst K0 (1 : Int32) L_1 rfl ?_
  refine gIand K0 L_2 ?_
  refine gIstore K0 L_3 (Ls' := #[.val (.int pick), .val (.int shape), .val (.int pos), .val (.int chh), .val (.int ext), .val (.int (pick &&& (1 : Int32))), .unset, .unset, .unset, .unset, .unset, .unset, .unset, .unset, .unset, .unset]) rfl ?_
  generalize hwh : pick &&& 1 = wh
  refine gIload K0 L_5 (v := wh) rfl ?_
  refine gIf_ne K0 L_7 (fun q7 => ?_) (fun q7 => ?_)
  · skip
    refine gBipush K0 (6 : Int32) L_15 rfl ?_
    refine gIstore K0 L_17 (Ls' := #[.val (.int pick), .val (.int shape), .val (.int pos), .val (.int chh), .val (.int ext), .val (.int wh), .val (.int (6 : Int32)), .unset, .unset, .unset, .unset, .unset, .unset, .unset, .unset, .unset]) rfl ?_
    refine gIloadN K0 L_19 (v := shape) rfl ?_
    refine gIconst K0 (3 : Int32) L_20 rfl ?_
    refine gIand K0 L_21 ?_
    refine gIstore K0 L_22 (Ls' := #[.val (.int pick), .val (.int shape), .val (.int pos), .val (.int chh), .val (.int ext), .val (.int wh), .val (.int (6 : Int32)), .val (.int (shape &&& (3 : Int32))), .unset, .unset, .unset, .unset, .unset, .unset, .unset, .unset]) rfl ?_
    refine gIload K0 L_24 (v := (shape &&& (3 : Int32))) rfl ?_
    refine gIf_ne K0 L_26 (fun q26 => ?_) (fun q26 => ?_)
    · skip
      refine gIload K0 L_34 (v := (shape &&& (3 : Int32))) rfl ?_
      refine gIconst K0 (1 : Int32) L_36 rfl ?_
      refine gIcmp_ne K0 L_37 (fun q37 => ?_) (fun q37 => ?_)
      · skip
        refine gIload K0 L_47 (v := (shape &&& (3 : Int32))) rfl ?_
        refine gIconst K0 (2 : Int32) L_49 rfl ?_
        refine gIcmp_ne K0 L_50 (fun q50 => ?_) (fun q50 => ?_)
        · skip
          refine gIconst K0 (0 : Int32) L_60 rfl ?_
          refine gIstore K0 L_61 (Ls' := #[.val (.int pick), .val (.int shape), .val (.int pos), .val (.int chh), .val (.int ext), .val (.int wh), .val (.int (6 : Int32)), .val (.int (shape &&& (3 : Int32))), .val (.int (0 : Int32)), .unset, .unset, .unset, .unset, .unset, .unset, .unset]) rfl ?_
          have j74 : ∀ (T101 : State) (K101 : Cx p l e room_1 s m #[(.int pick), (.int shape), (.int pos), (.int chh), (.int ext)] below meth c code maxLocals Z "com/example/tranche/tranche/calendar/CityFromLabelPinLaw" n0 (some [("com/example/tranche/tranche/calendar/CityFromLabelPinLaw", 19), ("com/example/tranche/tranche/calendar/CityFromLabelPinLaw", 31), ("java/lang/String", 7)]) T101 h0 [] 0 0) (sb : Int32), Go p e below (End (some [("com/example/tranche/tranche/calendar/CityFromLabelPinLaw", 19), ("com/example/tranche/tranche/calendar/CityFromLabelPinLaw", 31), ("java/lang/String", 7)]) s Z n0 h0 [] room_1.cells room_1.slots (fun v h => v = some (.int 1))) T101 (mkF m 74 #[.val (.int pick), .val (.int shape), .val (.int pos), .val (.int chh), .val (.int ext), .val (.int wh), .val (.int (6 : Int32)), .val (.int (shape &&& (3 : Int32))), .val (.int (0 : Int32)), .unset, .unset, .unset, .unset, .unset, .unset, .unset] [(.int sb)]) := by
            intro T101 K101 sb
            refine gIstore K101 L_74 (Ls' := #[.val (.int pick), .val (.int shape), .val (.int pos), .val (.int chh), .val (.int ext), .val (.int wh), .val (.int (6 : Int32)), .val (.int (shape &&& (3 : Int32))), .val (.int (0 : Int32)), .val (.int sb), .unset, .unset, .unset, .unset, .unset, .unset]) rfl ?_
            refine gIloadN K101 L_76 (v := pos) rfl ?_
            refine gLdcI K101 (2147483647 : Int32) L_77 (hw _ (List.mem_of_getElem? (i := 0) rfl)) ?_
            refine gIand K101 L_79 ?_
            refine gBipush K101 (9 : Int32) L_80 rfl ?_
            refine gIrem K101 L_82 (by decide) ?_
            generalize ((pos &&& (2147483647 : Int32)) % (9 : Int32)) = pp
            refine gIstore K101 L_83 (Ls' := #[.val (.int pick), .val (.int shape), .val (.int pos), .val (.int chh), .val (.int ext), .val (.int wh), .val (.int (6 : Int32)), .val (.int (shape &&& (3 : Int32))), .val (.int (0 : Int32)), .val (.int sb), .val (.int pp), .unset, .unset, .unset, .unset, .unset]) rfl ?_
            refine gIloadN K101 L_85 (v := chh) rfl ?_
            refine gSipush K101 (255 : Int32) L_86 rfl ?_
            refine gIand K101 L_89 ?_
            refine gI2c K101 L_90 ?_
            have hb_c_ := and255c chh
            generalize ((chh &&& (255 : Int32))).toUInt32.toUInt16.toUInt32.toInt32 = c_ at hb_c_ ⊢
            refine gIstore K101 L_91 (Ls' := #[.val (.int pick), .val (.int shape), .val (.int pos), .val (.int chh), .val (.int ext), .val (.int wh), .val (.int (6 : Int32)), .val (.int (shape &&& (3 : Int32))), .val (.int (0 : Int32)), .val (.int sb), .val (.int pp), .val (.int c_), .unset, .unset, .unset, .unset]) rfl ?_
            refine gIload K101 L_93 (v := ext) rfl ?_
            refine gSipush K101 (255 : Int32) L_95 rfl ?_
            refine gIand K101 L_98 ?_
            refine gI2c K101 L_99 ?_
            have hb_e_ := and255c ext
            generalize ((ext &&& (255 : Int32))).toUInt32.toUInt16.toUInt32.toInt32 = e_ at hb_e_ ⊢
            refine gIstore K101 L_100 (Ls' := #[.val (.int pick), .val (.int shape), .val (.int pos), .val (.int chh), .val (.int ext), .val (.int wh), .val (.int (6 : Int32)), .val (.int (shape &&& (3 : Int32))), .val (.int (0 : Int32)), .val (.int sb), .val (.int pp), .val (.int c_), .val (.int e_), .unset, .unset, .unset]) rfl ?_
            refine gIload K101 L_102 (v := (0 : Int32)) rfl ?_
            refine gNewarr K101 L_104 (hw _ (List.mem_of_getElem? (i := 1) rfl)) (by decide) 0 (by decide) (by decide) (by decide) (by decide) (fun T102 h102 x102 kA102 K102 E102 g102 A102 ne102 => ?_)
            have P103 := P0.ext E102
            have ge_x102 : h0.size ≤ x102 := by rw [g102]; exact P0.1
            refine gAstore K102 L_106 rfl (Ls' := #[.val (.int pick), .val (.int shape), .val (.int pos), .val (.int chh), .val (.int ext), .val (.int wh), .val (.int (6 : Int32)), .val (.int (shape &&& (3 : Int32))), .val (.int (0 : Int32)), .val (.int sb), .val (.int pp), .val (.int c_), .val (.int e_), .val (.ref x102), .unset, .unset]) rfl ?_
            refine gIload K102 L_108 (v := (0 : Int32)) rfl ?_
            refine gIf_le K102 L_110 (fun q110 => ?_) (fun q => absurd q (by first | decide | (intro hh; cases hh) | simp))
            refine gIload K102 L_133 (v := (0 : Int32)) rfl ?_
            refine gIconst K102 (1 : Int32) L_135 rfl ?_
            refine gIcmp_le K102 L_136 (fun q136 => ?_) (fun q => absurd q (by first | decide | (intro hh; cases hh) | simp))
            refine gIload K102 L_159 (v := (0 : Int32)) rfl ?_
            refine gIconst K102 (2 : Int32) L_161 rfl ?_
            refine gIcmp_le K102 L_162 (fun q162 => ?_) (fun q => absurd q (by first | decide | (intro hh; cases hh) | simp))
            refine gIload K102 L_185 (v := (0 : Int32)) rfl ?_
            refine gIconst K102 (3 : Int32) L_187 rfl ?_
            refine gIcmp_le K102 L_188 (fun q188 => ?_) (fun q => absurd q (by first | decide | (intro hh; cases hh) | simp))
            refine gIload K102 L_211 (v := (0 : Int32)) rfl ?_
            refine gIconst K102 (4 : Int32) L_213 rfl ?_
            refine gIcmp_le K102 L_214 (fun q214 => ?_) (fun q => absurd q (by first | decide | (intro hh; cases hh) | simp))
            refine gIload K102 L_237 (v := (0 : Int32)) rfl ?_
            refine gIconst K102 (5 : Int32) L_239 rfl ?_
            refine gIcmp_le K102 L_240 (fun q240 => ?_) (fun q => absurd q (by first | decide | (intro hh; cases hh) | simp))
            refine gIload K102 L_263 (v := (0 : Int32)) rfl ?_
            refine gBipush K102 (6 : Int32) L_265 rfl ?_
            refine gIcmp_le K102 L_267 (fun q267 => ?_) (fun q => absurd q (by first | decide | (intro hh; cases hh) | simp))
            refine gIload K102 L_292 (v := (0 : Int32)) rfl ?_
            refine gBipush K102 (7 : Int32) L_294 rfl ?_
            refine gIcmp_le K102 L_296 (fun q296 => ?_) (fun q => absurd q (by first | decide | (intro hh; cases hh) | simp))
            refine gIload K102 L_321 (v := (0 : Int32)) rfl ?_
            refine gBipush K102 (8 : Int32) L_323 rfl ?_
            refine gIcmp_le K102 L_325 (fun q325 => ?_) (fun q => absurd q (by first | decide | (intro hh; cases hh) | simp))
            refine gNew K102 L_350 (hw _ (List.mem_of_getElem? (i := 2) rfl)) (hw _ (List.mem_of_getElem? (i := 3) rfl)) (hw _ (List.mem_of_getElem? (i := 4) rfl)) (by decide) (by decide) (fun T104 h104 x104 K104 E104 g104 A104 D104 ne104 => ?_)
            have P105 := P103.ext E104
            have ge_x104 : h0.size ≤ x104 := by rw [g104]; exact P103.1
            have F106 : Fld Z h104 x104 "java/lang/String" "value" "[B" .null := (D104 (Or.inr (hw _ (List.mem_of_getElem? (i := 17) rfl))) (ty := (.array .byte)) (by decide))
            have F107 : Fld Z h104 x104 "java/lang/String" "coder" "B" (.int (0 : Int32)) := (D104 (Or.inr (hw _ (List.mem_of_getElem? (i := 18) rfl))) (ty := .byte) (by decide))
            refine gDup K104 L_353 rfl ?_
            refine gAload K104 L_354 (v := (.ref x102)) rfl rfl ?_
            refine gCallI K104 (W := 1) x104 [(.ref x102)] [(.ref x104)] L_356 rfl (hw _ (List.mem_of_getElem? (i := 5) rfl)) (hw _ (List.mem_of_getElem? (i := 6) rfl)) (hw _ (List.mem_of_getElem? (i := 7) rfl)) (cal_str hw hE (W := 1) (cs := []) 0 (K104.wsge (List.mem_of_getElem? (i := 0) rfl)) K104.n0le A104 F106 F107 (A102.ext E104) (Sc.ext (Ext.tr E102 E104)) hz rfl (by decide) allI0 (by decide) (by decide) 8 (by decide) (by decide)) (fun z q => by cases List.mem_singleton.mp q; exact (List.mem_of_getElem? (i := 0) rfl)) pd4 rfl rfl (Nat.le_of_eq rfl) rfl (by decide) (by decide) (by decide) (fun v108 T108 h108 K108 Q108 q108 => ?_)
            have P109 := P105.trans Q108 (fun z q => by cases List.mem_singleton.mp q; exact Or.inr ge_x104)
            obtain ⟨rfl, St108⟩ := q108
            generalize hcs : ([] : List Int32) = cs at St108
            refine gAstore K108 L_359 rfl (Ls' := #[.val (.int pick), .val (.int shape), .val (.int pos), .val (.int chh), .val (.int ext), .val (.int wh), .val (.int (6 : Int32)), .val (.int (shape &&& (3 : Int32))), .val (.int (0 : Int32)), .val (.int sb), .val (.int pp), .val (.int c_), .val (.int e_), .val (.ref x102), .val (.ref x104), .unset]) rfl ?_
            refine gNull K108 L_361 ?_
            refine gAstore K108 L_362 rfl (Ls' := #[.val (.int pick), .val (.int shape), .val (.int pos), .val (.int chh), .val (.int ext), .val (.int wh), .val (.int (6 : Int32)), .val (.int (shape &&& (3 : Int32))), .val (.int (0 : Int32)), .val (.int sb), .val (.int pp), .val (.int c_), .val (.int e_), .val (.ref x102), .val (.ref x104), .val .null]) rfl ?_
            refine gAload K108 L_364 (v := (.ref x104)) rfl rfl ?_
            refine gLdc K108 L_366 (hw _ (List.mem_of_getElem? (i := 23) rfl)) (hsA hw) (by decide) (vs := ([(110 : Int32), (101 : Int32), (119 : Int32), (45 : Int32), (121 : Int32), (111 : Int32), (114 : Int32), (107 : Int32)].map StrChars.lo8).map Value.int) (z := Int32.ofNat 8) (by decide +kernel) (by decide) (by decide) 32 (by decide) (by decide) (by decide) (by decide) (fun T110 h110 a110 b110 kA110 K110 E110 Ea110 Fc110 Fv110 Ab110 ne110 => ?_)
            have P111 := P109.ext E110
            have Sl110 : StrL Z h110 a110 [(110 : Int32), (101 : Int32), (119 : Int32), (45 : Int32), (121 : Int32), (111 : Int32), (114 : Int32), (107 : Int32)] := ⟨b110, kA110, Ea110, Fc110, Fv110, Ab110, by decide, by decide⟩
            refine gCallV K110 (W := 0) (C := "java/lang/String") x104 [(.ref a110)] [] L_368 (hw _ (List.mem_of_getElem? (i := 24) rfl)) (hw _ (List.mem_of_getElem? (i := 25) rfl)) (hw _ (List.mem_of_getElem? (i := 27) rfl)) (hw _ (List.mem_of_getElem? (i := 26) rfl)) (cal_eq hw (W := 0) (St108.ext E110) Sl110 (Sc.ext (Ext.tr (Ext.kp1 (Ext.tr E102 E104) Q108 (Nat.le_trans E102.1 (Nat.le_of_eq g104.symm))) E110)) hz (by decide) (by decide)) ((St108.ext E110)).exa (fun _ q => nomatch q) pd1 rfl rfl (Nat.le_of_eq rfl) rfl (by decide) (by decide) (by decide) (fun v112 T112 h112 K112 Q112 q112 => ?_)
            have E112 := Ext.of0 Q112
            have P113 := P111.ext E112
            rcases q112 with ⟨rfl, hc0⟩ | ⟨rfl, hc0⟩
            · skip
              refine gIf_eq K112 L_371 (fun q => absurd q (by first | decide | (intro hh; cases hh) | simp)) (fun q371 => ?_)
              refine gGetS K112 L_374 (hw _ (List.mem_of_getElem? (i := 96) rfl)) (S0.ext (Ext.tr (Ext.tr (Ext.kp1 (Ext.tr E102 E104) Q108 (Nat.le_trans E102.1 (Nat.le_of_eq g104.symm))) E110) E112)) (fun T114 K114 => ?_)
              refine gAstore K114 L_377 rfl (Ls' := #[.val (.int pick), .val (.int shape), .val (.int pos), .val (.int chh), .val (.int ext), .val (.int wh), .val (.int (6 : Int32)), .val (.int (shape &&& (3 : Int32))), .val (.int (0 : Int32)), .val (.int sb), .val (.int pp), .val (.int c_), .val (.int e_), .val (.ref x102), .val (.ref x104), .val (.ref v0)]) rfl ?_
              refine gGoto K114 L_379 ?_
              refine gAload K114 L_397 (v := (.ref x104)) rfl rfl ?_
              refine gCallS K114 (W := 0) [(.ref x104)] [] L_399 (hw _ (List.mem_of_getElem? (i := 36) rfl)) (hw _ (List.mem_of_getElem? (i := 37) rfl)) (hw _ (List.mem_of_getElem? (i := 38) rfl)) (hw _ (List.mem_of_getElem? (i := 39) rfl)) (Cal.ofN (W := 0) (c_look l Z a0 hw h112 n0 K114.n0le x104 cs va kV dv v0 l0 v1 l1 z (Sv.ext (Ext.tr (Ext.tr (Ext.kp1 (Ext.tr E102 E104) Q108 (Nat.le_trans E102.1 (Nat.le_of_eq g104.symm))) E110) E112)) (Av.ext (Ext.tr (Ext.tr (Ext.kp1 (Ext.tr E102 E104) Q108 (Nat.le_trans E102.1 (Nat.le_of_eq g104.symm))) E110) E112)) (Ev.ext (Ext.tr (Ext.tr (Ext.kp1 (Ext.tr E102 E104) Q108 (Nat.le_trans E102.1 (Nat.le_of_eq g104.symm))) E110) E112)) (F0.ext (Ext.tr (Ext.tr (Ext.kp1 (Ext.tr E102 E104) Q108 (Nat.le_trans E102.1 (Nat.le_of_eq g104.symm))) E110) E112)) (L0.ext (Ext.tr (Ext.tr (Ext.kp1 (Ext.tr E102 E104) Q108 (Nat.le_trans E102.1 (Nat.le_of_eq g104.symm))) E110) E112)) (F1.ext (Ext.tr (Ext.tr (Ext.kp1 (Ext.tr E102 E104) Q108 (Nat.le_trans E102.1 (Nat.le_of_eq g104.symm))) E110) E112)) (L1.ext (Ext.tr (Ext.tr (Ext.kp1 (Ext.tr E102 E104) Q108 (Nat.le_trans E102.1 (Nat.le_of_eq g104.symm))) E110) E112)) (Sc.ext (Ext.tr (Ext.tr (Ext.kp1 (Ext.tr E102 E104) Q108 (Nat.le_trans E102.1 (Nat.le_of_eq g104.symm))) E110) E112)) hz (St108.ext (Ext.tr E110 E112))) (hw _ (List.mem_of_getElem? (i := 39) rfl)) (hw _ (List.mem_of_getElem? (i := 38) rfl)) (by decide) (by decide)) (fun _ q => nomatch q) pd5 rfl rfl (Nat.le_of_eq rfl) rfl (by decide) (by decide) (by decide) (fun v115 T115 h115 K115 Q115 q115 => ?_)
              have E115 := Ext.of0 Q115
              have P116 := P113.ext E115
              cases q115
              rw [if_pos hc0]
              refine gAload K115 L_402 (v := (.ref v0)) rfl rfl ?_
              refine gAcmp_ne K115 L_404 rfl rfl (fun q => absurd q (by first | decide | (intro hh; cases hh) | simp)) (fun q404 => ?_)
              refine gIconst K115 (1 : Int32) L_407 rfl ?_
              refine gGoto K115 L_408 ?_
              refine gRetI K115 hlk hret (by simp) L_412 rfl P116 (by decide) (by decide) ?_
              exact rfl
            · skip
              refine gIf_eq K112 L_371 (fun q371 => ?_) (fun q => absurd q (by first | decide | (intro hh; cases hh) | simp))
              refine gAload K112 L_382 (v := (.ref x104)) rfl rfl ?_
              refine gLdc K112 L_384 (hw _ (List.mem_of_getElem? (i := 35) rfl)) (hsA hw) (by decide) (vs := ([(108 : Int32), (111 : Int32), (110 : Int32), (100 : Int32), (111 : Int32), (110 : Int32)].map StrChars.lo8).map Value.int) (z := Int32.ofNat 6) (by decide +kernel) (by decide) (by decide) 24 (by decide) (by decide) (by decide) (by decide) (fun T117 h117 a117 b117 kA117 K117 E117 Ea117 Fc117 Fv117 Ab117 ne117 => ?_)
              have P118 := P113.ext E117
              have Sl117 : StrL Z h117 a117 [(108 : Int32), (111 : Int32), (110 : Int32), (100 : Int32), (111 : Int32), (110 : Int32)] := ⟨b117, kA117, Ea117, Fc117, Fv117, Ab117, by decide, by decide⟩
              refine gCallV K117 (W := 0) (C := "java/lang/String") x104 [(.ref a117)] [] L_386 (hw _ (List.mem_of_getElem? (i := 24) rfl)) (hw _ (List.mem_of_getElem? (i := 25) rfl)) (hw _ (List.mem_of_getElem? (i := 27) rfl)) (hw _ (List.mem_of_getElem? (i := 26) rfl)) (cal_eq hw (W := 0) (St108.ext (Ext.tr (Ext.tr E110 E112) E117)) Sl117 (Sc.ext (Ext.tr (Ext.tr (Ext.tr (Ext.kp1 (Ext.tr E102 E104) Q108 (Nat.le_trans E102.1 (Nat.le_of_eq g104.symm))) E110) E112) E117)) hz (by decide) (by decide)) ((St108.ext (Ext.tr (Ext.tr E110 E112) E117))).exa (fun _ q => nomatch q) pd1 rfl rfl (Nat.le_of_eq rfl) rfl (by decide) (by decide) (by decide) (fun v119 T119 h119 K119 Q119 q119 => ?_)
              have E119 := Ext.of0 Q119
              have P120 := P118.ext E119
              rcases q119 with ⟨rfl, hc1⟩ | ⟨rfl, hc1⟩
              · skip
                refine gIf_eq K119 L_389 (fun q => absurd q (by first | decide | (intro hh; cases hh) | simp)) (fun q389 => ?_)
                refine gGetS K119 L_392 (hw _ (List.mem_of_getElem? (i := 94) rfl)) (S1.ext (Ext.tr (Ext.tr (Ext.tr (Ext.tr (Ext.kp1 (Ext.tr E102 E104) Q108 (Nat.le_trans E102.1 (Nat.le_of_eq g104.symm))) E110) E112) E117) E119)) (fun T121 K121 => ?_)
                refine gAstore K121 L_395 rfl (Ls' := #[.val (.int pick), .val (.int shape), .val (.int pos), .val (.int chh), .val (.int ext), .val (.int wh), .val (.int (6 : Int32)), .val (.int (shape &&& (3 : Int32))), .val (.int (0 : Int32)), .val (.int sb), .val (.int pp), .val (.int c_), .val (.int e_), .val (.ref x102), .val (.ref x104), .val (.ref v1)]) rfl ?_
                refine gAload K121 L_397 (v := (.ref x104)) rfl rfl ?_
                refine gCallS K121 (W := 0) [(.ref x104)] [] L_399 (hw _ (List.mem_of_getElem? (i := 36) rfl)) (hw _ (List.mem_of_getElem? (i := 37) rfl)) (hw _ (List.mem_of_getElem? (i := 38) rfl)) (hw _ (List.mem_of_getElem? (i := 39) rfl)) (Cal.ofN (W := 0) (c_look l Z a0 hw h119 n0 K121.n0le x104 cs va kV dv v0 l0 v1 l1 z (Sv.ext (Ext.tr (Ext.tr (Ext.tr (Ext.tr (Ext.kp1 (Ext.tr E102 E104) Q108 (Nat.le_trans E102.1 (Nat.le_of_eq g104.symm))) E110) E112) E117) E119)) (Av.ext (Ext.tr (Ext.tr (Ext.tr (Ext.tr (Ext.kp1 (Ext.tr E102 E104) Q108 (Nat.le_trans E102.1 (Nat.le_of_eq g104.symm))) E110) E112) E117) E119)) (Ev.ext (Ext.tr (Ext.tr (Ext.tr (Ext.tr (Ext.kp1 (Ext.tr E102 E104) Q108 (Nat.le_trans E102.1 (Nat.le_of_eq g104.symm))) E110) E112) E117) E119)) (F0.ext (Ext.tr (Ext.tr (Ext.tr (Ext.tr (Ext.kp1 (Ext.tr E102 E104) Q108 (Nat.le_trans E102.1 (Nat.le_of_eq g104.symm))) E110) E112) E117) E119)) (L0.ext (Ext.tr (Ext.tr (Ext.tr (Ext.tr (Ext.kp1 (Ext.tr E102 E104) Q108 (Nat.le_trans E102.1 (Nat.le_of_eq g104.symm))) E110) E112) E117) E119)) (F1.ext (Ext.tr (Ext.tr (Ext.tr (Ext.tr (Ext.kp1 (Ext.tr E102 E104) Q108 (Nat.le_trans E102.1 (Nat.le_of_eq g104.symm))) E110) E112) E117) E119)) (L1.ext (Ext.tr (Ext.tr (Ext.tr (Ext.tr (Ext.kp1 (Ext.tr E102 E104) Q108 (Nat.le_trans E102.1 (Nat.le_of_eq g104.symm))) E110) E112) E117) E119)) (Sc.ext (Ext.tr (Ext.tr (Ext.tr (Ext.tr (Ext.kp1 (Ext.tr E102 E104) Q108 (Nat.le_trans E102.1 (Nat.le_of_eq g104.symm))) E110) E112) E117) E119)) hz (St108.ext (Ext.tr (Ext.tr (Ext.tr E110 E112) E117) E119))) (hw _ (List.mem_of_getElem? (i := 39) rfl)) (hw _ (List.mem_of_getElem? (i := 38) rfl)) (by decide) (by decide)) (fun _ q => nomatch q) pd5 rfl rfl (Nat.le_of_eq rfl) rfl (by decide) (by decide) (by decide) (fun v122 T122 h122 K122 Q122 q122 => ?_)
                have E122 := Ext.of0 Q122
                have P123 := P120.ext E122
                cases q122
                rw [if_neg hc0, if_pos hc1]
                refine gAload K122 L_402 (v := (.ref v1)) rfl rfl ?_
                refine gAcmp_ne K122 L_404 rfl rfl (fun q => absurd q (by first | decide | (intro hh; cases hh) | simp)) (fun q404 => ?_)
                refine gIconst K122 (1 : Int32) L_407 rfl ?_
                refine gGoto K122 L_408 ?_
                refine gRetI K122 hlk hret (by simp) L_412 rfl P123 (by decide) (by decide) ?_
                exact rfl
              · skip
                refine gIf_eq K119 L_389 (fun q389 => ?_) (fun q => absurd q (by first | decide | (intro hh; cases hh) | simp))
                refine gAload K119 L_397 (v := (.ref x104)) rfl rfl ?_
                refine gCallS K119 (W := 0) [(.ref x104)] [] L_399 (hw _ (List.mem_of_getElem? (i := 36) rfl)) (hw _ (List.mem_of_getElem? (i := 37) rfl)) (hw _ (List.mem_of_getElem? (i := 38) rfl)) (hw _ (List.mem_of_getElem? (i := 39) rfl)) (Cal.ofN (W := 0) (c_look l Z a0 hw h119 n0 K119.n0le x104 cs va kV dv v0 l0 v1 l1 z (Sv.ext (Ext.tr (Ext.tr (Ext.tr (Ext.tr (Ext.kp1 (Ext.tr E102 E104) Q108 (Nat.le_trans E102.1 (Nat.le_of_eq g104.symm))) E110) E112) E117) E119)) (Av.ext (Ext.tr (Ext.tr (Ext.tr (Ext.tr (Ext.kp1 (Ext.tr E102 E104) Q108 (Nat.le_trans E102.1 (Nat.le_of_eq g104.symm))) E110) E112) E117) E119)) (Ev.ext (Ext.tr (Ext.tr (Ext.tr (Ext.tr (Ext.kp1 (Ext.tr E102 E104) Q108 (Nat.le_trans E102.1 (Nat.le_of_eq g104.symm))) E110) E112) E117) E119)) (F0.ext (Ext.tr (Ext.tr (Ext.tr (Ext.tr (Ext.kp1 (Ext.tr E102 E104) Q108 (Nat.le_trans E102.1 (Nat.le_of_eq g104.symm))) E110) E112) E117) E119)) (L0.ext (Ext.tr (Ext.tr (Ext.tr (Ext.tr (Ext.kp1 (Ext.tr E102 E104) Q108 (Nat.le_trans E102.1 (Nat.le_of_eq g104.symm))) E110) E112) E117) E119)) (F1.ext (Ext.tr (Ext.tr (Ext.tr (Ext.tr (Ext.kp1 (Ext.tr E102 E104) Q108 (Nat.le_trans E102.1 (Nat.le_of_eq g104.symm))) E110) E112) E117) E119)) (L1.ext (Ext.tr (Ext.tr (Ext.tr (Ext.tr (Ext.kp1 (Ext.tr E102 E104) Q108 (Nat.le_trans E102.1 (Nat.le_of_eq g104.symm))) E110) E112) E117) E119)) (Sc.ext (Ext.tr (Ext.tr (Ext.tr (Ext.tr (Ext.kp1 (Ext.tr E102 E104) Q108 (Nat.le_trans E102.1 (Nat.le_of_eq g104.symm))) E110) E112) E117) E119)) hz (St108.ext (Ext.tr (Ext.tr (Ext.tr E110 E112) E117) E119))) (hw _ (List.mem_of_getElem? (i := 39) rfl)) (hw _ (List.mem_of_getElem? (i := 38) rfl)) (by decide) (by decide)) (fun _ q => nomatch q) pd5 rfl rfl (Nat.le_of_eq rfl) rfl (by decide) (by decide) (by decide) (fun v124 T124 h124 K124 Q124 q124 => ?_)
                have E124 := Ext.of0 Q124
                have P125 := P120.ext E124
                cases q124
                rw [if_neg hc0, if_neg hc1]
                refine gAload K124 L_402 (v := .null) rfl rfl ?_
                refine gAcmp_ne K124 L_404 rfl rfl (fun q => absurd q (by first | decide | (intro hh; cases hh) | simp)) (fun q404 => ?_)
                refine gIconst K124 (1 : Int32) L_407 rfl ?_
                refine gGoto K124 L_408 ?_
                refine gRetI K124 hlk hret (by simp) L_412 rfl P125 (by decide) (by decide) ?_
                exact rfl
          refine gIloadN K0 L_63 (v := shape) rfl ?_
          refine gIconst K0 (4 : Int32) L_64 rfl ?_
          refine gIand K0 L_65 ?_
          refine gIf_eq K0 L_66 (fun q66 => ?_) (fun q66 => ?_)
          · skip
            refine gIconst K0 (0 : Int32) L_73 rfl ?_
            exact j74 _ K0 (0 : Int32)
          · skip
            refine gIconst K0 (1 : Int32) L_69 rfl ?_
            refine gGoto K0 L_70 ?_
            exact j74 _ K0 (1 : Int32)
        · skip
          refine gIload K0 L_53 (v := (6 : Int32)) rfl ?_
          refine gIconst K0 (1 : Int32) L_55 rfl ?_
          refine gIsubV K0 (5 : Int32) L_56 (by decide) ?_
          refine gGoto K0 L_57 ?_
          refine gIstore K0 L_61 (Ls' := #[.val (.int pick), .val (.int shape), .val (.int pos), .val (.int chh), .val (.int ext), .val (.int wh), .val (.int (6 : Int32)), .val (.int (shape &&& (3 : Int32))), .val (.int (5 : Int32)), .unset, .unset, .unset, .unset, .unset, .unset, .unset]) rfl ?_
          have j74 : ∀ (T126 : State) (K126 : Cx p l e room_1 s m #[(.int pick), (.int shape), (.int pos), (.int chh), (.int ext)] below meth c code maxLocals Z "com/example/tranche/tranche/calendar/CityFromLabelPinLaw" n0 (some [("com/example/tranche/tranche/calendar/CityFromLabelPinLaw", 19), ("com/example/tranche/tranche/calendar/CityFromLabelPinLaw", 31), ("java/lang/String", 7)]) T126 h0 [] 0 0) (sb : Int32), Go p e below (End (some [("com/example/tranche/tranche/calendar/CityFromLabelPinLaw", 19), ("com/example/tranche/tranche/calendar/CityFromLabelPinLaw", 31), ("java/lang/String", 7)]) s Z n0 h0 [] room_1.cells room_1.slots (fun v h => v = some (.int 1))) T126 (mkF m 74 #[.val (.int pick), .val (.int shape), .val (.int pos), .val (.int chh), .val (.int ext), .val (.int wh), .val (.int (6 : Int32)), .val (.int (shape &&& (3 : Int32))), .val (.int (5 : Int32)), .unset, .unset, .unset, .unset, .unset, .unset, .unset] [(.int sb)]) := by
            intro T126 K126 sb
            refine gIstore K126 L_74 (Ls' := #[.val (.int pick), .val (.int shape), .val (.int pos), .val (.int chh), .val (.int ext), .val (.int wh), .val (.int (6 : Int32)), .val (.int (shape &&& (3 : Int32))), .val (.int (5 : Int32)), .val (.int sb), .unset, .unset, .unset, .unset, .unset, .unset]) rfl ?_
            refine gIloadN K126 L_76 (v := pos) rfl ?_
            refine gLdcI K126 (2147483647 : Int32) L_77 (hw _ (List.mem_of_getElem? (i := 0) rfl)) ?_
            refine gIand K126 L_79 ?_
            refine gBipush K126 (9 : Int32) L_80 rfl ?_
            refine gIrem K126 L_82 (by decide) ?_
            generalize ((pos &&& (2147483647 : Int32)) % (9 : Int32)) = pp
            refine gIstore K126 L_83 (Ls' := #[.val (.int pick), .val (.int shape), .val (.int pos), .val (.int chh), .val (.int ext), .val (.int wh), .val (.int (6 : Int32)), .val (.int (shape &&& (3 : Int32))), .val (.int (5 : Int32)), .val (.int sb), .val (.int pp), .unset, .unset, .unset, .unset, .unset]) rfl ?_
            refine gIloadN K126 L_85 (v := chh) rfl ?_
            refine gSipush K126 (255 : Int32) L_86 rfl ?_
            refine gIand K126 L_89 ?_
            refine gI2c K126 L_90 ?_
            have hb_c_ := and255c chh
            generalize ((chh &&& (255 : Int32))).toUInt32.toUInt16.toUInt32.toInt32 = c_ at hb_c_ ⊢
            refine gIstore K126 L_91 (Ls' := #[.val (.int pick), .val (.int shape), .val (.int pos), .val (.int chh), .val (.int ext), .val (.int wh), .val (.int (6 : Int32)), .val (.int (shape &&& (3 : Int32))), .val (.int (5 : Int32)), .val (.int sb), .val (.int pp), .val (.int c_), .unset, .unset, .unset, .unset]) rfl ?_
            refine gIload K126 L_93 (v := ext) rfl ?_
            refine gSipush K126 (255 : Int32) L_95 rfl ?_
            refine gIand K126 L_98 ?_
            refine gI2c K126 L_99 ?_
            have hb_e_ := and255c ext
            generalize ((ext &&& (255 : Int32))).toUInt32.toUInt16.toUInt32.toInt32 = e_ at hb_e_ ⊢
            refine gIstore K126 L_100 (Ls' := #[.val (.int pick), .val (.int shape), .val (.int pos), .val (.int chh), .val (.int ext), .val (.int wh), .val (.int (6 : Int32)), .val (.int (shape &&& (3 : Int32))), .val (.int (5 : Int32)), .val (.int sb), .val (.int pp), .val (.int c_), .val (.int e_), .unset, .unset, .unset]) rfl ?_
            refine gIload K126 L_102 (v := (5 : Int32)) rfl ?_
            refine gNewarr K126 L_104 (hw _ (List.mem_of_getElem? (i := 1) rfl)) (by decide) 5 (by decide) (by decide) (by decide) (by decide) (fun T127 h127 x127 kA127 K127 E127 g127 A127 ne127 => ?_)
            have P128 := P0.ext E127
            have ge_x127 : h0.size ≤ x127 := by rw [g127]; exact P0.1
            refine gAstore K127 L_106 rfl (Ls' := #[.val (.int pick), .val (.int shape), .val (.int pos), .val (.int chh), .val (.int ext), .val (.int wh), .val (.int (6 : Int32)), .val (.int (shape &&& (3 : Int32))), .val (.int (5 : Int32)), .val (.int sb), .val (.int pp), .val (.int c_), .val (.int e_), .val (.ref x127), .unset, .unset]) rfl ?_
            refine gIload K127 L_108 (v := (5 : Int32)) rfl ?_
            refine gIf_le K127 L_110 (fun q => absurd q (by first | decide | (intro hh; cases hh) | simp)) (fun q110 => ?_)
            refine gAload K127 L_113 (v := (.ref x127)) rfl rfl ?_
            refine gIconst K127 (0 : Int32) L_115 rfl ?_
            refine gIconst K127 (0 : Int32) L_116 rfl ?_
            refine gIload K127 L_117 (v := wh) rfl ?_
            refine gIload K127 L_119 (v := (6 : Int32)) rfl ?_
            refine gIload K127 L_121 (v := sb) rfl ?_
            refine gIload K127 L_123 (v := pp) rfl ?_
            refine gIload K127 L_125 (v := c_) rfl ?_
            refine gIload K127 L_127 (v := e_) rfl ?_
            refine gCallS K127 (W := 2) [(.int (0 : Int32)), (.int wh), (.int (6 : Int32)), (.int sb), (.int pp), (.int c_), (.int e_)] [(.int (0 : Int32)), (.ref x127)] L_129 (hw _ (List.mem_of_getElem? (i := 59) rfl)) (hw _ (List.mem_of_getElem? (i := 60) rfl)) (hw _ (List.mem_of_getElem? (i := 61) rfl)) (hw _ (List.mem_of_getElem? (i := 62) rfl)) (Cal.ofW (W := 2) (c_at l Z a0 hw h127 n0 K127.n0le hE wh sb pp c_ e_ 0 6 (by decide) (by decide) (fun q => absurd q q7) (fun _ => by decide) hb_c_ hb_e_ z (Sc.ext E127) hz fm (Sf.ext E127) rf) (hw _ (List.mem_of_getElem? (i := 62) rfl)) (hw _ (List.mem_of_getElem? (i := 61) rfl)) (by decide) (by decide)) (fun _ q => nomatch q) pd6 rfl rfl (Nat.le_of_eq rfl) rfl (by decide) (by decide) (by decide) (fun v129 T129 h129 K129 Q129 q129 => ?_)
            have E129 := Ext.of0 Q129
            have P130 := P128.ext E129
            obtain ⟨r129, rfl, hb129⟩ := q129
            refine gCastore K129 L_132 (List.mem_of_getElem? (i := 0) rfl) (A127.ext E129) rfl (by decide) hb129.1 (ch_up hb129.2) (fun T131 h131 K131 Q131 A131 => ?_)
            have P132 := P130.trans Q131 (fun z q => by cases List.mem_singleton.mp q; exact Or.inr ge_x127)
            refine gIload K131 L_133 (v := (5 : Int32)) rfl ?_
            refine gIconst K131 (1 : Int32) L_135 rfl ?_
            refine gIcmp_le K131 L_136 (fun q => absurd q (by first | decide | (intro hh; cases hh) | simp)) (fun q136 => ?_)
            refine gAload K131 L_139 (v := (.ref x127)) rfl rfl ?_
            refine gIconst K131 (1 : Int32) L_141 rfl ?_
            refine gIconst K131 (1 : Int32) L_142 rfl ?_
            refine gIload K131 L_143 (v := wh) rfl ?_
            refine gIload K131 L_145 (v := (6 : Int32)) rfl ?_
            refine gIload K131 L_147 (v := sb) rfl ?_
            refine gIload K131 L_149 (v := pp) rfl ?_
            refine gIload K131 L_151 (v := c_) rfl ?_
            refine gIload K131 L_153 (v := e_) rfl ?_
            refine gCallS K131 (W := 2) [(.int (1 : Int32)), (.int wh), (.int (6 : Int32)), (.int sb), (.int pp), (.int c_), (.int e_)] [(.int (1 : Int32)), (.ref x127)] L_155 (hw _ (List.mem_of_getElem? (i := 59) rfl)) (hw _ (List.mem_of_getElem? (i := 60) rfl)) (hw _ (List.mem_of_getElem? (i := 61) rfl)) (hw _ (List.mem_of_getElem? (i := 62) rfl)) (Cal.ofW (W := 2) (c_at l Z a0 hw h131 n0 K131.n0le hE wh sb pp c_ e_ 1 6 (by decide) (by decide) (fun q => absurd q q7) (fun _ => by decide) hb_c_ hb_e_ z (Sc.ext (Ext.kp1 (Ext.tr E127 E129) Q131 (Nat.le_of_eq g127.symm))) hz fm (Sf.ext (Ext.kp1 (Ext.tr E127 E129) Q131 (Nat.le_of_eq g127.symm))) rf) (hw _ (List.mem_of_getElem? (i := 62) rfl)) (hw _ (List.mem_of_getElem? (i := 61) rfl)) (by decide) (by decide)) (fun _ q => nomatch q) pd6 rfl rfl (Nat.le_of_eq rfl) rfl (by decide) (by decide) (by decide) (fun v133 T133 h133 K133 Q133 q133 => ?_)
            have E133 := Ext.of0 Q133
            have P134 := P132.ext E133
            obtain ⟨r133, rfl, hb133⟩ := q133
            refine gCastore K133 L_158 (List.mem_of_getElem? (i := 0) rfl) (A131.ext E133) rfl (by decide) hb133.1 (ch_up hb133.2) (fun T135 h135 K135 Q135 A135 => ?_)
            have P136 := P134.trans Q135 (fun z q => by cases List.mem_singleton.mp q; exact Or.inr ge_x127)
            refine gIload K135 L_159 (v := (5 : Int32)) rfl ?_
            refine gIconst K135 (2 : Int32) L_161 rfl ?_
            refine gIcmp_le K135 L_162 (fun q => absurd q (by first | decide | (intro hh; cases hh) | simp)) (fun q162 => ?_)
            refine gAload K135 L_165 (v := (.ref x127)) rfl rfl ?_
            refine gIconst K135 (2 : Int32) L_167 rfl ?_
            refine gIconst K135 (2 : Int32) L_168 rfl ?_
            refine gIload K135 L_169 (v := wh) rfl ?_
            refine gIload K135 L_171 (v := (6 : Int32)) rfl ?_
            refine gIload K135 L_173 (v := sb) rfl ?_
            refine gIload K135 L_175 (v := pp) rfl ?_
            refine gIload K135 L_177 (v := c_) rfl ?_
            refine gIload K135 L_179 (v := e_) rfl ?_
            refine gCallS K135 (W := 2) [(.int (2 : Int32)), (.int wh), (.int (6 : Int32)), (.int sb), (.int pp), (.int c_), (.int e_)] [(.int (2 : Int32)), (.ref x127)] L_181 (hw _ (List.mem_of_getElem? (i := 59) rfl)) (hw _ (List.mem_of_getElem? (i := 60) rfl)) (hw _ (List.mem_of_getElem? (i := 61) rfl)) (hw _ (List.mem_of_getElem? (i := 62) rfl)) (Cal.ofW (W := 2) (c_at l Z a0 hw h135 n0 K135.n0le hE wh sb pp c_ e_ 2 6 (by decide) (by decide) (fun q => absurd q q7) (fun _ => by decide) hb_c_ hb_e_ z (Sc.ext (Ext.kp1 (Ext.tr (Ext.kp1 (Ext.tr E127 E129) Q131 (Nat.le_of_eq g127.symm)) E133) Q135 (Nat.le_of_eq g127.symm))) hz fm (Sf.ext (Ext.kp1 (Ext.tr (Ext.kp1 (Ext.tr E127 E129) Q131 (Nat.le_of_eq g127.symm)) E133) Q135 (Nat.le_of_eq g127.symm))) rf) (hw _ (List.mem_of_getElem? (i := 62) rfl)) (hw _ (List.mem_of_getElem? (i := 61) rfl)) (by decide) (by decide)) (fun _ q => nomatch q) pd6 rfl rfl (Nat.le_of_eq rfl) rfl (by decide) (by decide) (by decide) (fun v137 T137 h137 K137 Q137 q137 => ?_)
            have E137 := Ext.of0 Q137
            have P138 := P136.ext E137
            obtain ⟨r137, rfl, hb137⟩ := q137
            refine gCastore K137 L_184 (List.mem_of_getElem? (i := 0) rfl) (A135.ext E137) rfl (by decide) hb137.1 (ch_up hb137.2) (fun T139 h139 K139 Q139 A139 => ?_)
            have P140 := P138.trans Q139 (fun z q => by cases List.mem_singleton.mp q; exact Or.inr ge_x127)
            refine gIload K139 L_185 (v := (5 : Int32)) rfl ?_
            refine gIconst K139 (3 : Int32) L_187 rfl ?_
            refine gIcmp_le K139 L_188 (fun q => absurd q (by first | decide | (intro hh; cases hh) | simp)) (fun q188 => ?_)
            refine gAload K139 L_191 (v := (.ref x127)) rfl rfl ?_
            refine gIconst K139 (3 : Int32) L_193 rfl ?_
            refine gIconst K139 (3 : Int32) L_194 rfl ?_
            refine gIload K139 L_195 (v := wh) rfl ?_
            refine gIload K139 L_197 (v := (6 : Int32)) rfl ?_
            refine gIload K139 L_199 (v := sb) rfl ?_
            refine gIload K139 L_201 (v := pp) rfl ?_
            refine gIload K139 L_203 (v := c_) rfl ?_
            refine gIload K139 L_205 (v := e_) rfl ?_
            refine gCallS K139 (W := 2) [(.int (3 : Int32)), (.int wh), (.int (6 : Int32)), (.int sb), (.int pp), (.int c_), (.int e_)] [(.int (3 : Int32)), (.ref x127)] L_207 (hw _ (List.mem_of_getElem? (i := 59) rfl)) (hw _ (List.mem_of_getElem? (i := 60) rfl)) (hw _ (List.mem_of_getElem? (i := 61) rfl)) (hw _ (List.mem_of_getElem? (i := 62) rfl)) (Cal.ofW (W := 2) (c_at l Z a0 hw h139 n0 K139.n0le hE wh sb pp c_ e_ 3 6 (by decide) (by decide) (fun q => absurd q q7) (fun _ => by decide) hb_c_ hb_e_ z (Sc.ext (Ext.kp1 (Ext.tr (Ext.kp1 (Ext.tr (Ext.kp1 (Ext.tr E127 E129) Q131 (Nat.le_of_eq g127.symm)) E133) Q135 (Nat.le_of_eq g127.symm)) E137) Q139 (Nat.le_of_eq g127.symm))) hz fm (Sf.ext (Ext.kp1 (Ext.tr (Ext.kp1 (Ext.tr (Ext.kp1 (Ext.tr E127 E129) Q131 (Nat.le_of_eq g127.symm)) E133) Q135 (Nat.le_of_eq g127.symm)) E137) Q139 (Nat.le_of_eq g127.symm))) rf) (hw _ (List.mem_of_getElem? (i := 62) rfl)) (hw _ (List.mem_of_getElem? (i := 61) rfl)) (by decide) (by decide)) (fun _ q => nomatch q) pd6 rfl rfl (Nat.le_of_eq rfl) rfl (by decide) (by decide) (by decide) (fun v141 T141 h141 K141 Q141 q141 => ?_)
            have E141 := Ext.of0 Q141
            have P142 := P140.ext E141
            obtain ⟨r141, rfl, hb141⟩ := q141
            refine gCastore K141 L_210 (List.mem_of_getElem? (i := 0) rfl) (A139.ext E141) rfl (by decide) hb141.1 (ch_up hb141.2) (fun T143 h143 K143 Q143 A143 => ?_)
            have P144 := P142.trans Q143 (fun z q => by cases List.mem_singleton.mp q; exact Or.inr ge_x127)
            refine gIload K143 L_211 (v := (5 : Int32)) rfl ?_
            refine gIconst K143 (4 : Int32) L_213 rfl ?_
            refine gIcmp_le K143 L_214 (fun q => absurd q (by first | decide | (intro hh; cases hh) | simp)) (fun q214 => ?_)
            refine gAload K143 L_217 (v := (.ref x127)) rfl rfl ?_
            refine gIconst K143 (4 : Int32) L_219 rfl ?_
            refine gIconst K143 (4 : Int32) L_220 rfl ?_
            refine gIload K143 L_221 (v := wh) rfl ?_
            refine gIload K143 L_223 (v := (6 : Int32)) rfl ?_
            refine gIload K143 L_225 (v := sb) rfl ?_
            refine gIload K143 L_227 (v := pp) rfl ?_
            refine gIload K143 L_229 (v := c_) rfl ?_
            refine gIload K143 L_231 (v := e_) rfl ?_
            refine gCallS K143 (W := 2) [(.int (4 : Int32)), (.int wh), (.int (6 : Int32)), (.int sb), (.int pp), (.int c_), (.int e_)] [(.int (4 : Int32)), (.ref x127)] L_233 (hw _ (List.mem_of_getElem? (i := 59) rfl)) (hw _ (List.mem_of_getElem? (i := 60) rfl)) (hw _ (List.mem_of_getElem? (i := 61) rfl)) (hw _ (List.mem_of_getElem? (i := 62) rfl)) (Cal.ofW (W := 2) (c_at l Z a0 hw h143 n0 K143.n0le hE wh sb pp c_ e_ 4 6 (by decide) (by decide) (fun q => absurd q q7) (fun _ => by decide) hb_c_ hb_e_ z (Sc.ext (Ext.kp1 (Ext.tr (Ext.kp1 (Ext.tr (Ext.kp1 (Ext.tr (Ext.kp1 (Ext.tr E127 E129) Q131 (Nat.le_of_eq g127.symm)) E133) Q135 (Nat.le_of_eq g127.symm)) E137) Q139 (Nat.le_of_eq g127.symm)) E141) Q143 (Nat.le_of_eq g127.symm))) hz fm (Sf.ext (Ext.kp1 (Ext.tr (Ext.kp1 (Ext.tr (Ext.kp1 (Ext.tr (Ext.kp1 (Ext.tr E127 E129) Q131 (Nat.le_of_eq g127.symm)) E133) Q135 (Nat.le_of_eq g127.symm)) E137) Q139 (Nat.le_of_eq g127.symm)) E141) Q143 (Nat.le_of_eq g127.symm))) rf) (hw _ (List.mem_of_getElem? (i := 62) rfl)) (hw _ (List.mem_of_getElem? (i := 61) rfl)) (by decide) (by decide)) (fun _ q => nomatch q) pd6 rfl rfl (Nat.le_of_eq rfl) rfl (by decide) (by decide) (by decide) (fun v145 T145 h145 K145 Q145 q145 => ?_)
            have E145 := Ext.of0 Q145
            have P146 := P144.ext E145
            obtain ⟨r145, rfl, hb145⟩ := q145
            refine gCastore K145 L_236 (List.mem_of_getElem? (i := 0) rfl) (A143.ext E145) rfl (by decide) hb145.1 (ch_up hb145.2) (fun T147 h147 K147 Q147 A147 => ?_)
            have P148 := P146.trans Q147 (fun z q => by cases List.mem_singleton.mp q; exact Or.inr ge_x127)
            refine gIload K147 L_237 (v := (5 : Int32)) rfl ?_
            refine gIconst K147 (5 : Int32) L_239 rfl ?_
            refine gIcmp_le K147 L_240 (fun q240 => ?_) (fun q => absurd q (by first | decide | (intro hh; cases hh) | simp))
            refine gIload K147 L_263 (v := (5 : Int32)) rfl ?_
            refine gBipush K147 (6 : Int32) L_265 rfl ?_
            refine gIcmp_le K147 L_267 (fun q267 => ?_) (fun q => absurd q (by first | decide | (intro hh; cases hh) | simp))
            refine gIload K147 L_292 (v := (5 : Int32)) rfl ?_
            refine gBipush K147 (7 : Int32) L_294 rfl ?_
            refine gIcmp_le K147 L_296 (fun q296 => ?_) (fun q => absurd q (by first | decide | (intro hh; cases hh) | simp))
            refine gIload K147 L_321 (v := (5 : Int32)) rfl ?_
            refine gBipush K147 (8 : Int32) L_323 rfl ?_
            refine gIcmp_le K147 L_325 (fun q325 => ?_) (fun q => absurd q (by first | decide | (intro hh; cases hh) | simp))
            refine gNew K147 L_350 (hw _ (List.mem_of_getElem? (i := 2) rfl)) (hw _ (List.mem_of_getElem? (i := 3) rfl)) (hw _ (List.mem_of_getElem? (i := 4) rfl)) (by decide) (by decide) (fun T149 h149 x149 K149 E149 g149 A149 D149 ne149 => ?_)
            have P150 := P148.ext E149
            have ge_x149 : h0.size ≤ x149 := by rw [g149]; exact P148.1
            have F151 : Fld Z h149 x149 "java/lang/String" "value" "[B" .null := (D149 (Or.inr (hw _ (List.mem_of_getElem? (i := 17) rfl))) (ty := (.array .byte)) (by decide))
            have F152 : Fld Z h149 x149 "java/lang/String" "coder" "B" (.int (0 : Int32)) := (D149 (Or.inr (hw _ (List.mem_of_getElem? (i := 18) rfl))) (ty := .byte) (by decide))
            refine gDup K149 L_353 rfl ?_
            refine gAload K149 L_354 (v := (.ref x127)) rfl rfl ?_
            refine gCallI K149 (W := 1) x149 [(.ref x127)] [(.ref x149)] L_356 rfl (hw _ (List.mem_of_getElem? (i := 5) rfl)) (hw _ (List.mem_of_getElem? (i := 6) rfl)) (hw _ (List.mem_of_getElem? (i := 7) rfl)) (cal_strN hw (W := 1) (cs := [r129, r133, r137, r141, r145]) 5 (K149.wsge (List.mem_of_getElem? (i := 0) rfl)) K149.n0le A149 F151 F152 (A147.ext E149) (Sc.ext (Ext.tr (Ext.kp1 (Ext.tr (Ext.kp1 (Ext.tr (Ext.kp1 (Ext.tr (Ext.kp1 (Ext.tr (Ext.kp1 (Ext.tr E127 E129) Q131 (Nat.le_of_eq g127.symm)) E133) Q135 (Nat.le_of_eq g127.symm)) E137) Q139 (Nat.le_of_eq g127.symm)) E141) Q143 (Nat.le_of_eq g127.symm)) E145) Q147 (Nat.le_of_eq g127.symm)) E149)) hz rfl (by decide) (by decide) (allI hb129 (allI hb133 (allI hb137 (allI hb141 (allI hb145 allI0))))) (by decide) (by decide)) (fun z q => by cases List.mem_singleton.mp q; exact (List.mem_of_getElem? (i := 0) rfl)) pd4 rfl rfl (Nat.le_of_eq rfl) rfl (by decide) (by decide) (by decide) (fun v153 T153 h153 K153 Q153 q153 => ?_)
            have P154 := P150.trans Q153 (fun z q => by cases List.mem_singleton.mp q; exact Or.inr ge_x149)
            obtain ⟨rfl, St153⟩ := q153
            generalize hcs : [r129, r133, r137, r141, r145] = cs at St153
            refine gAstore K153 L_359 rfl (Ls' := #[.val (.int pick), .val (.int shape), .val (.int pos), .val (.int chh), .val (.int ext), .val (.int wh), .val (.int (6 : Int32)), .val (.int (shape &&& (3 : Int32))), .val (.int (5 : Int32)), .val (.int sb), .val (.int pp), .val (.int c_), .val (.int e_), .val (.ref x127), .val (.ref x149), .unset]) rfl ?_
            refine gNull K153 L_361 ?_
            refine gAstore K153 L_362 rfl (Ls' := #[.val (.int pick), .val (.int shape), .val (.int pos), .val (.int chh), .val (.int ext), .val (.int wh), .val (.int (6 : Int32)), .val (.int (shape &&& (3 : Int32))), .val (.int (5 : Int32)), .val (.int sb), .val (.int pp), .val (.int c_), .val (.int e_), .val (.ref x127), .val (.ref x149), .val .null]) rfl ?_
            refine gAload K153 L_364 (v := (.ref x149)) rfl rfl ?_
            refine gLdc K153 L_366 (hw _ (List.mem_of_getElem? (i := 23) rfl)) (hsA hw) (by decide) (vs := ([(110 : Int32), (101 : Int32), (119 : Int32), (45 : Int32), (121 : Int32), (111 : Int32), (114 : Int32), (107 : Int32)].map StrChars.lo8).map Value.int) (z := Int32.ofNat 8) (by decide +kernel) (by decide) (by decide) 32 (by decide) (by decide) (by decide) (by decide) (fun T155 h155 a155 b155 kA155 K155 E155 Ea155 Fc155 Fv155 Ab155 ne155 => ?_)
            have P156 := P154.ext E155
            have Sl155 : StrL Z h155 a155 [(110 : Int32), (101 : Int32), (119 : Int32), (45 : Int32), (121 : Int32), (111 : Int32), (114 : Int32), (107 : Int32)] := ⟨b155, kA155, Ea155, Fc155, Fv155, Ab155, by decide, by decide⟩
            refine gCallV K155 (W := 0) (C := "java/lang/String") x149 [(.ref a155)] [] L_368 (hw _ (List.mem_of_getElem? (i := 24) rfl)) (hw _ (List.mem_of_getElem? (i := 25) rfl)) (hw _ (List.mem_of_getElem? (i := 27) rfl)) (hw _ (List.mem_of_getElem? (i := 26) rfl)) (cal_eq hw (W := 0) (St153.ext E155) Sl155 (Sc.ext (Ext.tr (Ext.kp1 (Ext.tr (Ext.kp1 (Ext.tr (Ext.kp1 (Ext.tr (Ext.kp1 (Ext.tr (Ext.kp1 (Ext.tr (Ext.kp1 (Ext.tr E127 E129) Q131 (Nat.le_of_eq g127.symm)) E133) Q135 (Nat.le_of_eq g127.symm)) E137) Q139 (Nat.le_of_eq g127.symm)) E141) Q143 (Nat.le_of_eq g127.symm)) E145) Q147 (Nat.le_of_eq g127.symm)) E149) Q153 (Nat.le_trans (Ext.kp1 (Ext.tr (Ext.kp1 (Ext.tr (Ext.kp1 (Ext.tr (Ext.kp1 (Ext.tr (Ext.kp1 (Ext.tr E127 E129) Q131 (Nat.le_of_eq g127.symm)) E133) Q135 (Nat.le_of_eq g127.symm)) E137) Q139 (Nat.le_of_eq g127.symm)) E141) Q143 (Nat.le_of_eq g127.symm)) E145) Q147 (Nat.le_of_eq g127.symm)).1 (Nat.le_of_eq g149.symm))) E155)) hz (by decide) (by decide)) ((St153.ext E155)).exa (fun _ q => nomatch q) pd1 rfl rfl (Nat.le_of_eq rfl) rfl (by decide) (by decide) (by decide) (fun v157 T157 h157 K157 Q157 q157 => ?_)
            have E157 := Ext.of0 Q157
            have P158 := P156.ext E157
            rcases q157 with ⟨rfl, hc0⟩ | ⟨rfl, hc0⟩
            · skip
              refine gIf_eq K157 L_371 (fun q => absurd q (by first | decide | (intro hh; cases hh) | simp)) (fun q371 => ?_)
              refine gGetS K157 L_374 (hw _ (List.mem_of_getElem? (i := 96) rfl)) (S0.ext (Ext.tr (Ext.tr (Ext.kp1 (Ext.tr (Ext.kp1 (Ext.tr (Ext.kp1 (Ext.tr (Ext.kp1 (Ext.tr (Ext.kp1 (Ext.tr (Ext.kp1 (Ext.tr E127 E129) Q131 (Nat.le_of_eq g127.symm)) E133) Q135 (Nat.le_of_eq g127.symm)) E137) Q139 (Nat.le_of_eq g127.symm)) E141) Q143 (Nat.le_of_eq g127.symm)) E145) Q147 (Nat.le_of_eq g127.symm)) E149) Q153 (Nat.le_trans (Ext.kp1 (Ext.tr (Ext.kp1 (Ext.tr (Ext.kp1 (Ext.tr (Ext.kp1 (Ext.tr (Ext.kp1 (Ext.tr E127 E129) Q131 (Nat.le_of_eq g127.symm)) E133) Q135 (Nat.le_of_eq g127.symm)) E137) Q139 (Nat.le_of_eq g127.symm)) E141) Q143 (Nat.le_of_eq g127.symm)) E145) Q147 (Nat.le_of_eq g127.symm)).1 (Nat.le_of_eq g149.symm))) E155) E157)) (fun T159 K159 => ?_)
              refine gAstore K159 L_377 rfl (Ls' := #[.val (.int pick), .val (.int shape), .val (.int pos), .val (.int chh), .val (.int ext), .val (.int wh), .val (.int (6 : Int32)), .val (.int (shape &&& (3 : Int32))), .val (.int (5 : Int32)), .val (.int sb), .val (.int pp), .val (.int c_), .val (.int e_), .val (.ref x127), .val (.ref x149), .val (.ref v0)]) rfl ?_
              refine gGoto K159 L_379 ?_
              refine gAload K159 L_397 (v := (.ref x149)) rfl rfl ?_
              refine gCallS K159 (W := 0) [(.ref x149)] [] L_399 (hw _ (List.mem_of_getElem? (i := 36) rfl)) (hw _ (List.mem_of_getElem? (i := 37) rfl)) (hw _ (List.mem_of_getElem? (i := 38) rfl)) (hw _ (List.mem_of_getElem? (i := 39) rfl)) (Cal.ofN (W := 0) (c_look l Z a0 hw h157 n0 K159.n0le x149 cs va kV dv v0 l0 v1 l1 z (Sv.ext (Ext.tr (Ext.tr (Ext.kp1 (Ext.tr (Ext.kp1 (Ext.tr (Ext.kp1 (Ext.tr (Ext.kp1 (Ext.tr (Ext.kp1 (Ext.tr (Ext.kp1 (Ext.tr E127 E129) Q131 (Nat.le_of_eq g127.symm)) E133) Q135 (Nat.le_of_eq g127.symm)) E137) Q139 (Nat.le_of_eq g127.symm)) E141) Q143 (Nat.le_of_eq g127.symm)) E145) Q147 (Nat.le_of_eq g127.symm)) E149) Q153 (Nat.le_trans (Ext.kp1 (Ext.tr (Ext.kp1 (Ext.tr (Ext.kp1 (Ext.tr (Ext.kp1 (Ext.tr (Ext.kp1 (Ext.tr E127 E129) Q131 (Nat.le_of_eq g127.symm)) E133) Q135 (Nat.le_of_eq g127.symm)) E137) Q139 (Nat.le_of_eq g127.symm)) E141) Q143 (Nat.le_of_eq g127.symm)) E145) Q147 (Nat.le_of_eq g127.symm)).1 (Nat.le_of_eq g149.symm))) E155) E157)) (Av.ext (Ext.tr (Ext.tr (Ext.kp1 (Ext.tr (Ext.kp1 (Ext.tr (Ext.kp1 (Ext.tr (Ext.kp1 (Ext.tr (Ext.kp1 (Ext.tr (Ext.kp1 (Ext.tr E127 E129) Q131 (Nat.le_of_eq g127.symm)) E133) Q135 (Nat.le_of_eq g127.symm)) E137) Q139 (Nat.le_of_eq g127.symm)) E141) Q143 (Nat.le_of_eq g127.symm)) E145) Q147 (Nat.le_of_eq g127.symm)) E149) Q153 (Nat.le_trans (Ext.kp1 (Ext.tr (Ext.kp1 (Ext.tr (Ext.kp1 (Ext.tr (Ext.kp1 (Ext.tr (Ext.kp1 (Ext.tr E127 E129) Q131 (Nat.le_of_eq g127.symm)) E133) Q135 (Nat.le_of_eq g127.symm)) E137) Q139 (Nat.le_of_eq g127.symm)) E141) Q143 (Nat.le_of_eq g127.symm)) E145) Q147 (Nat.le_of_eq g127.symm)).1 (Nat.le_of_eq g149.symm))) E155) E157)) (Ev.ext (Ext.tr (Ext.tr (Ext.kp1 (Ext.tr (Ext.kp1 (Ext.tr (Ext.kp1 (Ext.tr (Ext.kp1 (Ext.tr (Ext.kp1 (Ext.tr (Ext.kp1 (Ext.tr E127 E129) Q131 (Nat.le_of_eq g127.symm)) E133) Q135 (Nat.le_of_eq g127.symm)) E137) Q139 (Nat.le_of_eq g127.symm)) E141) Q143 (Nat.le_of_eq g127.symm)) E145) Q147 (Nat.le_of_eq g127.symm)) E149) Q153 (Nat.le_trans (Ext.kp1 (Ext.tr (Ext.kp1 (Ext.tr (Ext.kp1 (Ext.tr (Ext.kp1 (Ext.tr (Ext.kp1 (Ext.tr E127 E129) Q131 (Nat.le_of_eq g127.symm)) E133) Q135 (Nat.le_of_eq g127.symm)) E137) Q139 (Nat.le_of_eq g127.symm)) E141) Q143 (Nat.le_of_eq g127.symm)) E145) Q147 (Nat.le_of_eq g127.symm)).1 (Nat.le_of_eq g149.symm))) E155) E157)) (F0.ext (Ext.tr (Ext.tr (Ext.kp1 (Ext.tr (Ext.kp1 (Ext.tr (Ext.kp1 (Ext.tr (Ext.kp1 (Ext.tr (Ext.kp1 (Ext.tr (Ext.kp1 (Ext.tr E127 E129) Q131 (Nat.le_of_eq g127.symm)) E133) Q135 (Nat.le_of_eq g127.symm)) E137) Q139 (Nat.le_of_eq g127.symm)) E141) Q143 (Nat.le_of_eq g127.symm)) E145) Q147 (Nat.le_of_eq g127.symm)) E149) Q153 (Nat.le_trans (Ext.kp1 (Ext.tr (Ext.kp1 (Ext.tr (Ext.kp1 (Ext.tr (Ext.kp1 (Ext.tr (Ext.kp1 (Ext.tr E127 E129) Q131 (Nat.le_of_eq g127.symm)) E133) Q135 (Nat.le_of_eq g127.symm)) E137) Q139 (Nat.le_of_eq g127.symm)) E141) Q143 (Nat.le_of_eq g127.symm)) E145) Q147 (Nat.le_of_eq g127.symm)).1 (Nat.le_of_eq g149.symm))) E155) E157)) (L0.ext (Ext.tr (Ext.tr (Ext.kp1 (Ext.tr (Ext.kp1 (Ext.tr (Ext.kp1 (Ext.tr (Ext.kp1 (Ext.tr (Ext.kp1 (Ext.tr (Ext.kp1 (Ext.tr E127 E129) Q131 (Nat.le_of_eq g127.symm)) E133) Q135 (Nat.le_of_eq g127.symm)) E137) Q139 (Nat.le_of_eq g127.symm)) E141) Q143 (Nat.le_of_eq g127.symm)) E145) Q147 (Nat.le_of_eq g127.symm)) E149) Q153 (Nat.le_trans (Ext.kp1 (Ext.tr (Ext.kp1 (Ext.tr (Ext.kp1 (Ext.tr (Ext.kp1 (Ext.tr (Ext.kp1 (Ext.tr E127 E129) Q131 (Nat.le_of_eq g127.symm)) E133) Q135 (Nat.le_of_eq g127.symm)) E137) Q139 (Nat.le_of_eq g127.symm)) E141) Q143 (Nat.le_of_eq g127.symm)) E145) Q147 (Nat.le_of_eq g127.symm)).1 (Nat.le_of_eq g149.symm))) E155) E157)) (F1.ext (Ext.tr (Ext.tr (Ext.kp1 (Ext.tr (Ext.kp1 (Ext.tr (Ext.kp1 (Ext.tr (Ext.kp1 (Ext.tr (Ext.kp1 (Ext.tr (Ext.kp1 (Ext.tr E127 E129) Q131 (Nat.le_of_eq g127.symm)) E133) Q135 (Nat.le_of_eq g127.symm)) E137) Q139 (Nat.le_of_eq g127.symm)) E141) Q143 (Nat.le_of_eq g127.symm)) E145) Q147 (Nat.le_of_eq g127.symm)) E149) Q153 (Nat.le_trans (Ext.kp1 (Ext.tr (Ext.kp1 (Ext.tr (Ext.kp1 (Ext.tr (Ext.kp1 (Ext.tr (Ext.kp1 (Ext.tr E127 E129) Q131 (Nat.le_of_eq g127.symm)) E133) Q135 (Nat.le_of_eq g127.symm)) E137) Q139 (Nat.le_of_eq g127.symm)) E141) Q143 (Nat.le_of_eq g127.symm)) E145) Q147 (Nat.le_of_eq g127.symm)).1 (Nat.le_of_eq g149.symm))) E155) E157)) (L1.ext (Ext.tr (Ext.tr (Ext.kp1 (Ext.tr (Ext.kp1 (Ext.tr (Ext.kp1 (Ext.tr (Ext.kp1 (Ext.tr (Ext.kp1 (Ext.tr (Ext.kp1 (Ext.tr E127 E129) Q131 (Nat.le_of_eq g127.symm)) E133) Q135 (Nat.le_of_eq g127.symm)) E137) Q139 (Nat.le_of_eq g127.symm)) E141) Q143 (Nat.le_of_eq g127.symm)) E145) Q147 (Nat.le_of_eq g127.symm)) E149) Q153 (Nat.le_trans (Ext.kp1 (Ext.tr (Ext.kp1 (Ext.tr (Ext.kp1 (Ext.tr (Ext.kp1 (Ext.tr (Ext.kp1 (Ext.tr E127 E129) Q131 (Nat.le_of_eq g127.symm)) E133) Q135 (Nat.le_of_eq g127.symm)) E137) Q139 (Nat.le_of_eq g127.symm)) E141) Q143 (Nat.le_of_eq g127.symm)) E145) Q147 (Nat.le_of_eq g127.symm)).1 (Nat.le_of_eq g149.symm))) E155) E157)) (Sc.ext (Ext.tr (Ext.tr (Ext.kp1 (Ext.tr (Ext.kp1 (Ext.tr (Ext.kp1 (Ext.tr (Ext.kp1 (Ext.tr (Ext.kp1 (Ext.tr (Ext.kp1 (Ext.tr E127 E129) Q131 (Nat.le_of_eq g127.symm)) E133) Q135 (Nat.le_of_eq g127.symm)) E137) Q139 (Nat.le_of_eq g127.symm)) E141) Q143 (Nat.le_of_eq g127.symm)) E145) Q147 (Nat.le_of_eq g127.symm)) E149) Q153 (Nat.le_trans (Ext.kp1 (Ext.tr (Ext.kp1 (Ext.tr (Ext.kp1 (Ext.tr (Ext.kp1 (Ext.tr (Ext.kp1 (Ext.tr E127 E129) Q131 (Nat.le_of_eq g127.symm)) E133) Q135 (Nat.le_of_eq g127.symm)) E137) Q139 (Nat.le_of_eq g127.symm)) E141) Q143 (Nat.le_of_eq g127.symm)) E145) Q147 (Nat.le_of_eq g127.symm)).1 (Nat.le_of_eq g149.symm))) E155) E157)) hz (St153.ext (Ext.tr E155 E157))) (hw _ (List.mem_of_getElem? (i := 39) rfl)) (hw _ (List.mem_of_getElem? (i := 38) rfl)) (by decide) (by decide)) (fun _ q => nomatch q) pd5 rfl rfl (Nat.le_of_eq rfl) rfl (by decide) (by decide) (by decide) (fun v160 T160 h160 K160 Q160 q160 => ?_)
              have E160 := Ext.of0 Q160
              have P161 := P158.ext E160
              cases q160
              rw [if_pos hc0]
              refine gAload K160 L_402 (v := (.ref v0)) rfl rfl ?_
              refine gAcmp_ne K160 L_404 rfl rfl (fun q => absurd q (by first | decide | (intro hh; cases hh) | simp)) (fun q404 => ?_)
              refine gIconst K160 (1 : Int32) L_407 rfl ?_
              refine gGoto K160 L_408 ?_
              refine gRetI K160 hlk hret (by simp) L_412 rfl P161 (by decide) (by decide) ?_
              exact rfl
            · skip
              refine gIf_eq K157 L_371 (fun q371 => ?_) (fun q => absurd q (by first | decide | (intro hh; cases hh) | simp))
              refine gAload K157 L_382 (v := (.ref x149)) rfl rfl ?_
              refine gLdc K157 L_384 (hw _ (List.mem_of_getElem? (i := 35) rfl)) (hsA hw) (by decide) (vs := ([(108 : Int32), (111 : Int32), (110 : Int32), (100 : Int32), (111 : Int32), (110 : Int32)].map StrChars.lo8).map Value.int) (z := Int32.ofNat 6) (by decide +kernel) (by decide) (by decide) 24 (by decide) (by decide) (by decide) (by decide) (fun T162 h162 a162 b162 kA162 K162 E162 Ea162 Fc162 Fv162 Ab162 ne162 => ?_)
              have P163 := P158.ext E162
              have Sl162 : StrL Z h162 a162 [(108 : Int32), (111 : Int32), (110 : Int32), (100 : Int32), (111 : Int32), (110 : Int32)] := ⟨b162, kA162, Ea162, Fc162, Fv162, Ab162, by decide, by decide⟩
              refine gCallV K162 (W := 0) (C := "java/lang/String") x149 [(.ref a162)] [] L_386 (hw _ (List.mem_of_getElem? (i := 24) rfl)) (hw _ (List.mem_of_getElem? (i := 25) rfl)) (hw _ (List.mem_of_getElem? (i := 27) rfl)) (hw _ (List.mem_of_getElem? (i := 26) rfl)) (cal_eq hw (W := 0) (St153.ext (Ext.tr (Ext.tr E155 E157) E162)) Sl162 (Sc.ext (Ext.tr (Ext.tr (Ext.tr (Ext.kp1 (Ext.tr (Ext.kp1 (Ext.tr (Ext.kp1 (Ext.tr (Ext.kp1 (Ext.tr (Ext.kp1 (Ext.tr (Ext.kp1 (Ext.tr E127 E129) Q131 (Nat.le_of_eq g127.symm)) E133) Q135 (Nat.le_of_eq g127.symm)) E137) Q139 (Nat.le_of_eq g127.symm)) E141) Q143 (Nat.le_of_eq g127.symm)) E145) Q147 (Nat.le_of_eq g127.symm)) E149) Q153 (Nat.le_trans (Ext.kp1 (Ext.tr (Ext.kp1 (Ext.tr (Ext.kp1 (Ext.tr (Ext.kp1 (Ext.tr (Ext.kp1 (Ext.tr E127 E129) Q131 (Nat.le_of_eq g127.symm)) E133) Q135 (Nat.le_of_eq g127.symm)) E137) Q139 (Nat.le_of_eq g127.symm)) E141) Q143 (Nat.le_of_eq g127.symm)) E145) Q147 (Nat.le_of_eq g127.symm)).1 (Nat.le_of_eq g149.symm))) E155) E157) E162)) hz (by decide) (by decide)) ((St153.ext (Ext.tr (Ext.tr E155 E157) E162))).exa (fun _ q => nomatch q) pd1 rfl rfl (Nat.le_of_eq rfl) rfl (by decide) (by decide) (by decide) (fun v164 T164 h164 K164 Q164 q164 => ?_)
              have E164 := Ext.of0 Q164
              have P165 := P163.ext E164
              rcases q164 with ⟨rfl, hc1⟩ | ⟨rfl, hc1⟩
              · skip
                refine gIf_eq K164 L_389 (fun q => absurd q (by first | decide | (intro hh; cases hh) | simp)) (fun q389 => ?_)
                refine gGetS K164 L_392 (hw _ (List.mem_of_getElem? (i := 94) rfl)) (S1.ext (Ext.tr (Ext.tr (Ext.tr (Ext.tr (Ext.kp1 (Ext.tr (Ext.kp1 (Ext.tr (Ext.kp1 (Ext.tr (Ext.kp1 (Ext.tr (Ext.kp1 (Ext.tr (Ext.kp1 (Ext.tr E127 E129) Q131 (Nat.le_of_eq g127.symm)) E133) Q135 (Nat.le_of_eq g127.symm)) E137) Q139 (Nat.le_of_eq g127.symm)) E141) Q143 (Nat.le_of_eq g127.symm)) E145) Q147 (Nat.le_of_eq g127.symm)) E149) Q153 (Nat.le_trans (Ext.kp1 (Ext.tr (Ext.kp1 (Ext.tr (Ext.kp1 (Ext.tr (Ext.kp1 (Ext.tr (Ext.kp1 (Ext.tr E127 E129) Q131 (Nat.le_of_eq g127.symm)) E133) Q135 (Nat.le_of_eq g127.symm)) E137) Q139 (Nat.le_of_eq g127.symm)) E141) Q143 (Nat.le_of_eq g127.symm)) E145) Q147 (Nat.le_of_eq g127.symm)).1 (Nat.le_of_eq g149.symm))) E155) E157) E162) E164)) (fun T166 K166 => ?_)
                refine gAstore K166 L_395 rfl (Ls' := #[.val (.int pick), .val (.int shape), .val (.int pos), .val (.int chh), .val (.int ext), .val (.int wh), .val (.int (6 : Int32)), .val (.int (shape &&& (3 : Int32))), .val (.int (5 : Int32)), .val (.int sb), .val (.int pp), .val (.int c_), .val (.int e_), .val (.ref x127), .val (.ref x149), .val (.ref v1)]) rfl ?_
                refine gAload K166 L_397 (v := (.ref x149)) rfl rfl ?_
                refine gCallS K166 (W := 0) [(.ref x149)] [] L_399 (hw _ (List.mem_of_getElem? (i := 36) rfl)) (hw _ (List.mem_of_getElem? (i := 37) rfl)) (hw _ (List.mem_of_getElem? (i := 38) rfl)) (hw _ (List.mem_of_getElem? (i := 39) rfl)) (Cal.ofN (W := 0) (c_look l Z a0 hw h164 n0 K166.n0le x149 cs va kV dv v0 l0 v1 l1 z (Sv.ext (Ext.tr (Ext.tr (Ext.tr (Ext.tr (Ext.kp1 (Ext.tr (Ext.kp1 (Ext.tr (Ext.kp1 (Ext.tr (Ext.kp1 (Ext.tr (Ext.kp1 (Ext.tr (Ext.kp1 (Ext.tr E127 E129) Q131 (Nat.le_of_eq g127.symm)) E133) Q135 (Nat.le_of_eq g127.symm)) E137) Q139 (Nat.le_of_eq g127.symm)) E141) Q143 (Nat.le_of_eq g127.symm)) E145) Q147 (Nat.le_of_eq g127.symm)) E149) Q153 (Nat.le_trans (Ext.kp1 (Ext.tr (Ext.kp1 (Ext.tr (Ext.kp1 (Ext.tr (Ext.kp1 (Ext.tr (Ext.kp1 (Ext.tr E127 E129) Q131 (Nat.le_of_eq g127.symm)) E133) Q135 (Nat.le_of_eq g127.symm)) E137) Q139 (Nat.le_of_eq g127.symm)) E141) Q143 (Nat.le_of_eq g127.symm)) E145) Q147 (Nat.le_of_eq g127.symm)).1 (Nat.le_of_eq g149.symm))) E155) E157) E162) E164)) (Av.ext (Ext.tr (Ext.tr (Ext.tr (Ext.tr (Ext.kp1 (Ext.tr (Ext.kp1 (Ext.tr (Ext.kp1 (Ext.tr (Ext.kp1 (Ext.tr (Ext.kp1 (Ext.tr (Ext.kp1 (Ext.tr E127 E129) Q131 (Nat.le_of_eq g127.symm)) E133) Q135 (Nat.le_of_eq g127.symm)) E137) Q139 (Nat.le_of_eq g127.symm)) E141) Q143 (Nat.le_of_eq g127.symm)) E145) Q147 (Nat.le_of_eq g127.symm)) E149) Q153 (Nat.le_trans (Ext.kp1 (Ext.tr (Ext.kp1 (Ext.tr (Ext.kp1 (Ext.tr (Ext.kp1 (Ext.tr (Ext.kp1 (Ext.tr E127 E129) Q131 (Nat.le_of_eq g127.symm)) E133) Q135 (Nat.le_of_eq g127.symm)) E137) Q139 (Nat.le_of_eq g127.symm)) E141) Q143 (Nat.le_of_eq g127.symm)) E145) Q147 (Nat.le_of_eq g127.symm)).1 (Nat.le_of_eq g149.symm))) E155) E157) E162) E164)) (Ev.ext (Ext.tr (Ext.tr (Ext.tr (Ext.tr (Ext.kp1 (Ext.tr (Ext.kp1 (Ext.tr (Ext.kp1 (Ext.tr (Ext.kp1 (Ext.tr (Ext.kp1 (Ext.tr (Ext.kp1 (Ext.tr E127 E129) Q131 (Nat.le_of_eq g127.symm)) E133) Q135 (Nat.le_of_eq g127.symm)) E137) Q139 (Nat.le_of_eq g127.symm)) E141) Q143 (Nat.le_of_eq g127.symm)) E145) Q147 (Nat.le_of_eq g127.symm)) E149) Q153 (Nat.le_trans (Ext.kp1 (Ext.tr (Ext.kp1 (Ext.tr (Ext.kp1 (Ext.tr (Ext.kp1 (Ext.tr (Ext.kp1 (Ext.tr E127 E129) Q131 (Nat.le_of_eq g127.symm)) E133) Q135 (Nat.le_of_eq g127.symm)) E137) Q139 (Nat.le_of_eq g127.symm)) E141) Q143 (Nat.le_of_eq g127.symm)) E145) Q147 (Nat.le_of_eq g127.symm)).1 (Nat.le_of_eq g149.symm))) E155) E157) E162) E164)) (F0.ext (Ext.tr (Ext.tr (Ext.tr (Ext.tr (Ext.kp1 (Ext.tr (Ext.kp1 (Ext.tr (Ext.kp1 (Ext.tr (Ext.kp1 (Ext.tr (Ext.kp1 (Ext.tr (Ext.kp1 (Ext.tr E127 E129) Q131 (Nat.le_of_eq g127.symm)) E133) Q135 (Nat.le_of_eq g127.symm)) E137) Q139 (Nat.le_of_eq g127.symm)) E141) Q143 (Nat.le_of_eq g127.symm)) E145) Q147 (Nat.le_of_eq g127.symm)) E149) Q153 (Nat.le_trans (Ext.kp1 (Ext.tr (Ext.kp1 (Ext.tr (Ext.kp1 (Ext.tr (Ext.kp1 (Ext.tr (Ext.kp1 (Ext.tr E127 E129) Q131 (Nat.le_of_eq g127.symm)) E133) Q135 (Nat.le_of_eq g127.symm)) E137) Q139 (Nat.le_of_eq g127.symm)) E141) Q143 (Nat.le_of_eq g127.symm)) E145) Q147 (Nat.le_of_eq g127.symm)).1 (Nat.le_of_eq g149.symm))) E155) E157) E162) E164)) (L0.ext (Ext.tr (Ext.tr (Ext.tr (Ext.tr (Ext.kp1 (Ext.tr (Ext.kp1 (Ext.tr (Ext.kp1 (Ext.tr (Ext.kp1 (Ext.tr (Ext.kp1 (Ext.tr (Ext.kp1 (Ext.tr E127 E129) Q131 (Nat.le_of_eq g127.symm)) E133) Q135 (Nat.le_of_eq g127.symm)) E137) Q139 (Nat.le_of_eq g127.symm)) E141) Q143 (Nat.le_of_eq g127.symm)) E145) Q147 (Nat.le_of_eq g127.symm)) E149) Q153 (Nat.le_trans (Ext.kp1 (Ext.tr (Ext.kp1 (Ext.tr (Ext.kp1 (Ext.tr (Ext.kp1 (Ext.tr (Ext.kp1 (Ext.tr E127 E129) Q131 (Nat.le_of_eq g127.symm)) E133) Q135 (Nat.le_of_eq g127.symm)) E137) Q139 (Nat.le_of_eq g127.symm)) E141) Q143 (Nat.le_of_eq g127.symm)) E145) Q147 (Nat.le_of_eq g127.symm)).1 (Nat.le_of_eq g149.symm))) E155) E157) E162) E164)) (F1.ext (Ext.tr (Ext.tr (Ext.tr (Ext.tr (Ext.kp1 (Ext.tr (Ext.kp1 (Ext.tr (Ext.kp1 (Ext.tr (Ext.kp1 (Ext.tr (Ext.kp1 (Ext.tr (Ext.kp1 (Ext.tr E127 E129) Q131 (Nat.le_of_eq g127.symm)) E133) Q135 (Nat.le_of_eq g127.symm)) E137) Q139 (Nat.le_of_eq g127.symm)) E141) Q143 (Nat.le_of_eq g127.symm)) E145) Q147 (Nat.le_of_eq g127.symm)) E149) Q153 (Nat.le_trans (Ext.kp1 (Ext.tr (Ext.kp1 (Ext.tr (Ext.kp1 (Ext.tr (Ext.kp1 (Ext.tr (Ext.kp1 (Ext.tr E127 E129) Q131 (Nat.le_of_eq g127.symm)) E133) Q135 (Nat.le_of_eq g127.symm)) E137) Q139 (Nat.le_of_eq g127.symm)) E141) Q143 (Nat.le_of_eq g127.symm)) E145) Q147 (Nat.le_of_eq g127.symm)).1 (Nat.le_of_eq g149.symm))) E155) E157) E162) E164)) (L1.ext (Ext.tr (Ext.tr (Ext.tr (Ext.tr (Ext.kp1 (Ext.tr (Ext.kp1 (Ext.tr (Ext.kp1 (Ext.tr (Ext.kp1 (Ext.tr (Ext.kp1 (Ext.tr (Ext.kp1 (Ext.tr E127 E129) Q131 (Nat.le_of_eq g127.symm)) E133) Q135 (Nat.le_of_eq g127.symm)) E137) Q139 (Nat.le_of_eq g127.symm)) E141) Q143 (Nat.le_of_eq g127.symm)) E145) Q147 (Nat.le_of_eq g127.symm)) E149) Q153 (Nat.le_trans (Ext.kp1 (Ext.tr (Ext.kp1 (Ext.tr (Ext.kp1 (Ext.tr (Ext.kp1 (Ext.tr (Ext.kp1 (Ext.tr E127 E129) Q131 (Nat.le_of_eq g127.symm)) E133) Q135 (Nat.le_of_eq g127.symm)) E137) Q139 (Nat.le_of_eq g127.symm)) E141) Q143 (Nat.le_of_eq g127.symm)) E145) Q147 (Nat.le_of_eq g127.symm)).1 (Nat.le_of_eq g149.symm))) E155) E157) E162) E164)) (Sc.ext (Ext.tr (Ext.tr (Ext.tr (Ext.tr (Ext.kp1 (Ext.tr (Ext.kp1 (Ext.tr (Ext.kp1 (Ext.tr (Ext.kp1 (Ext.tr (Ext.kp1 (Ext.tr (Ext.kp1 (Ext.tr E127 E129) Q131 (Nat.le_of_eq g127.symm)) E133) Q135 (Nat.le_of_eq g127.symm)) E137) Q139 (Nat.le_of_eq g127.symm)) E141) Q143 (Nat.le_of_eq g127.symm)) E145) Q147 (Nat.le_of_eq g127.symm)) E149) Q153 (Nat.le_trans (Ext.kp1 (Ext.tr (Ext.kp1 (Ext.tr (Ext.kp1 (Ext.tr (Ext.kp1 (Ext.tr (Ext.kp1 (Ext.tr E127 E129) Q131 (Nat.le_of_eq g127.symm)) E133) Q135 (Nat.le_of_eq g127.symm)) E137) Q139 (Nat.le_of_eq g127.symm)) E141) Q143 (Nat.le_of_eq g127.symm)) E145) Q147 (Nat.le_of_eq g127.symm)).1 (Nat.le_of_eq g149.symm))) E155) E157) E162) E164)) hz (St153.ext (Ext.tr (Ext.tr (Ext.tr E155 E157) E162) E164))) (hw _ (List.mem_of_getElem? (i := 39) rfl)) (hw _ (List.mem_of_getElem? (i := 38) rfl)) (by decide) (by decide)) (fun _ q => nomatch q) pd5 rfl rfl (Nat.le_of_eq rfl) rfl (by decide) (by decide) (by decide) (fun v167 T167 h167 K167 Q167 q167 => ?_)
                have E167 := Ext.of0 Q167
                have P168 := P165.ext E167
                cases q167
                rw [if_neg hc0, if_pos hc1]
                refine gAload K167 L_402 (v := (.ref v1)) rfl rfl ?_
                refine gAcmp_ne K167 L_404 rfl rfl (fun q => absurd q (by first | decide | (intro hh; cases hh) | simp)) (fun q404 => ?_)
                refine gIconst K167 (1 : Int32) L_407 rfl ?_
                refine gGoto K167 L_408 ?_
                refine gRetI K167 hlk hret (by simp) L_412 rfl P168 (by decide) (by decide) ?_
                exact rfl
              · skip
                refine gIf_eq K164 L_389 (fun q389 => ?_) (fun q => absurd q (by first | decide | (intro hh; cases hh) | simp))
                refine gAload K164 L_397 (v := (.ref x149)) rfl rfl ?_
                refine gCallS K164 (W := 0) [(.ref x149)] [] L_399 (hw _ (List.mem_of_getElem? (i := 36) rfl)) (hw _ (List.mem_of_getElem? (i := 37) rfl)) (hw _ (List.mem_of_getElem? (i := 38) rfl)) (hw _ (List.mem_of_getElem? (i := 39) rfl)) (Cal.ofN (W := 0) (c_look l Z a0 hw h164 n0 K164.n0le x149 cs va kV dv v0 l0 v1 l1 z (Sv.ext (Ext.tr (Ext.tr (Ext.tr (Ext.tr (Ext.kp1 (Ext.tr (Ext.kp1 (Ext.tr (Ext.kp1 (Ext.tr (Ext.kp1 (Ext.tr (Ext.kp1 (Ext.tr (Ext.kp1 (Ext.tr E127 E129) Q131 (Nat.le_of_eq g127.symm)) E133) Q135 (Nat.le_of_eq g127.symm)) E137) Q139 (Nat.le_of_eq g127.symm)) E141) Q143 (Nat.le_of_eq g127.symm)) E145) Q147 (Nat.le_of_eq g127.symm)) E149) Q153 (Nat.le_trans (Ext.kp1 (Ext.tr (Ext.kp1 (Ext.tr (Ext.kp1 (Ext.tr (Ext.kp1 (Ext.tr (Ext.kp1 (Ext.tr E127 E129) Q131 (Nat.le_of_eq g127.symm)) E133) Q135 (Nat.le_of_eq g127.symm)) E137) Q139 (Nat.le_of_eq g127.symm)) E141) Q143 (Nat.le_of_eq g127.symm)) E145) Q147 (Nat.le_of_eq g127.symm)).1 (Nat.le_of_eq g149.symm))) E155) E157) E162) E164)) (Av.ext (Ext.tr (Ext.tr (Ext.tr (Ext.tr (Ext.kp1 (Ext.tr (Ext.kp1 (Ext.tr (Ext.kp1 (Ext.tr (Ext.kp1 (Ext.tr (Ext.kp1 (Ext.tr (Ext.kp1 (Ext.tr E127 E129) Q131 (Nat.le_of_eq g127.symm)) E133) Q135 (Nat.le_of_eq g127.symm)) E137) Q139 (Nat.le_of_eq g127.symm)) E141) Q143 (Nat.le_of_eq g127.symm)) E145) Q147 (Nat.le_of_eq g127.symm)) E149) Q153 (Nat.le_trans (Ext.kp1 (Ext.tr (Ext.kp1 (Ext.tr (Ext.kp1 (Ext.tr (Ext.kp1 (Ext.tr (Ext.kp1 (Ext.tr E127 E129) Q131 (Nat.le_of_eq g127.symm)) E133) Q135 (Nat.le_of_eq g127.symm)) E137) Q139 (Nat.le_of_eq g127.symm)) E141) Q143 (Nat.le_of_eq g127.symm)) E145) Q147 (Nat.le_of_eq g127.symm)).1 (Nat.le_of_eq g149.symm))) E155) E157) E162) E164)) (Ev.ext (Ext.tr (Ext.tr (Ext.tr (Ext.tr (Ext.kp1 (Ext.tr (Ext.kp1 (Ext.tr (Ext.kp1 (Ext.tr (Ext.kp1 (Ext.tr (Ext.kp1 (Ext.tr (Ext.kp1 (Ext.tr E127 E129) Q131 (Nat.le_of_eq g127.symm)) E133) Q135 (Nat.le_of_eq g127.symm)) E137) Q139 (Nat.le_of_eq g127.symm)) E141) Q143 (Nat.le_of_eq g127.symm)) E145) Q147 (Nat.le_of_eq g127.symm)) E149) Q153 (Nat.le_trans (Ext.kp1 (Ext.tr (Ext.kp1 (Ext.tr (Ext.kp1 (Ext.tr (Ext.kp1 (Ext.tr (Ext.kp1 (Ext.tr E127 E129) Q131 (Nat.le_of_eq g127.symm)) E133) Q135 (Nat.le_of_eq g127.symm)) E137) Q139 (Nat.le_of_eq g127.symm)) E141) Q143 (Nat.le_of_eq g127.symm)) E145) Q147 (Nat.le_of_eq g127.symm)).1 (Nat.le_of_eq g149.symm))) E155) E157) E162) E164)) (F0.ext (Ext.tr (Ext.tr (Ext.tr (Ext.tr (Ext.kp1 (Ext.tr (Ext.kp1 (Ext.tr (Ext.kp1 (Ext.tr (Ext.kp1 (Ext.tr (Ext.kp1 (Ext.tr (Ext.kp1 (Ext.tr E127 E129) Q131 (Nat.le_of_eq g127.symm)) E133) Q135 (Nat.le_of_eq g127.symm)) E137) Q139 (Nat.le_of_eq g127.symm)) E141) Q143 (Nat.le_of_eq g127.symm)) E145) Q147 (Nat.le_of_eq g127.symm)) E149) Q153 (Nat.le_trans (Ext.kp1 (Ext.tr (Ext.kp1 (Ext.tr (Ext.kp1 (Ext.tr (Ext.kp1 (Ext.tr (Ext.kp1 (Ext.tr E127 E129) Q131 (Nat.le_of_eq g127.symm)) E133) Q135 (Nat.le_of_eq g127.symm)) E137) Q139 (Nat.le_of_eq g127.symm)) E141) Q143 (Nat.le_of_eq g127.symm)) E145) Q147 (Nat.le_of_eq g127.symm)).1 (Nat.le_of_eq g149.symm))) E155) E157) E162) E164)) (L0.ext (Ext.tr (Ext.tr (Ext.tr (Ext.tr (Ext.kp1 (Ext.tr (Ext.kp1 (Ext.tr (Ext.kp1 (Ext.tr (Ext.kp1 (Ext.tr (Ext.kp1 (Ext.tr (Ext.kp1 (Ext.tr E127 E129) Q131 (Nat.le_of_eq g127.symm)) E133) Q135 (Nat.le_of_eq g127.symm)) E137) Q139 (Nat.le_of_eq g127.symm)) E141) Q143 (Nat.le_of_eq g127.symm)) E145) Q147 (Nat.le_of_eq g127.symm)) E149) Q153 (Nat.le_trans (Ext.kp1 (Ext.tr (Ext.kp1 (Ext.tr (Ext.kp1 (Ext.tr (Ext.kp1 (Ext.tr (Ext.kp1 (Ext.tr E127 E129) Q131 (Nat.le_of_eq g127.symm)) E133) Q135 (Nat.le_of_eq g127.symm)) E137) Q139 (Nat.le_of_eq g127.symm)) E141) Q143 (Nat.le_of_eq g127.symm)) E145) Q147 (Nat.le_of_eq g127.symm)).1 (Nat.le_of_eq g149.symm))) E155) E157) E162) E164)) (F1.ext (Ext.tr (Ext.tr (Ext.tr (Ext.tr (Ext.kp1 (Ext.tr (Ext.kp1 (Ext.tr (Ext.kp1 (Ext.tr (Ext.kp1 (Ext.tr (Ext.kp1 (Ext.tr (Ext.kp1 (Ext.tr E127 E129) Q131 (Nat.le_of_eq g127.symm)) E133) Q135 (Nat.le_of_eq g127.symm)) E137) Q139 (Nat.le_of_eq g127.symm)) E141) Q143 (Nat.le_of_eq g127.symm)) E145) Q147 (Nat.le_of_eq g127.symm)) E149) Q153 (Nat.le_trans (Ext.kp1 (Ext.tr (Ext.kp1 (Ext.tr (Ext.kp1 (Ext.tr (Ext.kp1 (Ext.tr (Ext.kp1 (Ext.tr E127 E129) Q131 (Nat.le_of_eq g127.symm)) E133) Q135 (Nat.le_of_eq g127.symm)) E137) Q139 (Nat.le_of_eq g127.symm)) E141) Q143 (Nat.le_of_eq g127.symm)) E145) Q147 (Nat.le_of_eq g127.symm)).1 (Nat.le_of_eq g149.symm))) E155) E157) E162) E164)) (L1.ext (Ext.tr (Ext.tr (Ext.tr (Ext.tr (Ext.kp1 (Ext.tr (Ext.kp1 (Ext.tr (Ext.kp1 (Ext.tr (Ext.kp1 (Ext.tr (Ext.kp1 (Ext.tr (Ext.kp1 (Ext.tr E127 E129) Q131 (Nat.le_of_eq g127.symm)) E133) Q135 (Nat.le_of_eq g127.symm)) E137) Q139 (Nat.le_of_eq g127.symm)) E141) Q143 (Nat.le_of_eq g127.symm)) E145) Q147 (Nat.le_of_eq g127.symm)) E149) Q153 (Nat.le_trans (Ext.kp1 (Ext.tr (Ext.kp1 (Ext.tr (Ext.kp1 (Ext.tr (Ext.kp1 (Ext.tr (Ext.kp1 (Ext.tr E127 E129) Q131 (Nat.le_of_eq g127.symm)) E133) Q135 (Nat.le_of_eq g127.symm)) E137) Q139 (Nat.le_of_eq g127.symm)) E141) Q143 (Nat.le_of_eq g127.symm)) E145) Q147 (Nat.le_of_eq g127.symm)).1 (Nat.le_of_eq g149.symm))) E155) E157) E162) E164)) (Sc.ext (Ext.tr (Ext.tr (Ext.tr (Ext.tr (Ext.kp1 (Ext.tr (Ext.kp1 (Ext.tr (Ext.kp1 (Ext.tr (Ext.kp1 (Ext.tr (Ext.kp1 (Ext.tr (Ext.kp1 (Ext.tr E127 E129) Q131 (Nat.le_of_eq g127.symm)) E133) Q135 (Nat.le_of_eq g127.symm)) E137) Q139 (Nat.le_of_eq g127.symm)) E141) Q143 (Nat.le_of_eq g127.symm)) E145) Q147 (Nat.le_of_eq g127.symm)) E149) Q153 (Nat.le_trans (Ext.kp1 (Ext.tr (Ext.kp1 (Ext.tr (Ext.kp1 (Ext.tr (Ext.kp1 (Ext.tr (Ext.kp1 (Ext.tr E127 E129) Q131 (Nat.le_of_eq g127.symm)) E133) Q135 (Nat.le_of_eq g127.symm)) E137) Q139 (Nat.le_of_eq g127.symm)) E141) Q143 (Nat.le_of_eq g127.symm)) E145) Q147 (Nat.le_of_eq g127.symm)).1 (Nat.le_of_eq g149.symm))) E155) E157) E162) E164)) hz (St153.ext (Ext.tr (Ext.tr (Ext.tr E155 E157) E162) E164))) (hw _ (List.mem_of_getElem? (i := 39) rfl)) (hw _ (List.mem_of_getElem? (i := 38) rfl)) (by decide) (by decide)) (fun _ q => nomatch q) pd5 rfl rfl (Nat.le_of_eq rfl) rfl (by decide) (by decide) (by decide) (fun v169 T169 h169 K169 Q169 q169 => ?_)
                have E169 := Ext.of0 Q169
                have P170 := P165.ext E169
                cases q169
                rw [if_neg hc0, if_neg hc1]
                refine gAload K169 L_402 (v := .null) rfl rfl ?_
                refine gAcmp_ne K169 L_404 rfl rfl (fun q => absurd q (by first | decide | (intro hh; cases hh) | simp)) (fun q404 => ?_)
                refine gIconst K169 (1 : Int32) L_407 rfl ?_
                refine gGoto K169 L_408 ?_
                refine gRetI K169 hlk hret (by simp) L_412 rfl P170 (by decide) (by decide) ?_
                exact rfl
          refine gIloadN K0 L_63 (v := shape) rfl ?_
          refine gIconst K0 (4 : Int32) L_64 rfl ?_
          refine gIand K0 L_65 ?_
          refine gIf_eq K0 L_66 (fun q66 => ?_) (fun q66 => ?_)
          · skip
            refine gIconst K0 (0 : Int32) L_73 rfl ?_
            exact j74 _ K0 (0 : Int32)
          · skip
            refine gIconst K0 (1 : Int32) L_69 rfl ?_
            refine gGoto K0 L_70 ?_
            exact j74 _ K0 (1 : Int32)
      · skip
        refine gIload K0 L_40 (v := (6 : Int32)) rfl ?_
        refine gIconst K0 (1 : Int32) L_42 rfl ?_
        refine gIaddV K0 (7 : Int32) L_43 (by decide) ?_
        refine gGoto K0 L_44 ?_
        refine gIstore K0 L_61 (Ls' := #[.val (.int pick), .val (.int shape), .val (.int pos), .val (.int chh), .val (.int ext), .val (.int wh), .val (.int (6 : Int32)), .val (.int (shape &&& (3 : Int32))), .val (.int (7 : Int32)), .unset, .unset, .unset, .unset, .unset, .unset, .unset]) rfl ?_
        have j74 : ∀ (T171 : State) (K171 : Cx p l e room_1 s m #[(.int pick), (.int shape), (.int pos), (.int chh), (.int ext)] below meth c code maxLocals Z "com/example/tranche/tranche/calendar/CityFromLabelPinLaw" n0 (some [("com/example/tranche/tranche/calendar/CityFromLabelPinLaw", 19), ("com/example/tranche/tranche/calendar/CityFromLabelPinLaw", 31), ("java/lang/String", 7)]) T171 h0 [] 0 0) (sb : Int32), Go p e below (End (some [("com/example/tranche/tranche/calendar/CityFromLabelPinLaw", 19), ("com/example/tranche/tranche/calendar/CityFromLabelPinLaw", 31), ("java/lang/String", 7)]) s Z n0 h0 [] room_1.cells room_1.slots (fun v h => v = some (.int 1))) T171 (mkF m 74 #[.val (.int pick), .val (.int shape), .val (.int pos), .val (.int chh), .val (.int ext), .val (.int wh), .val (.int (6 : Int32)), .val (.int (shape &&& (3 : Int32))), .val (.int (7 : Int32)), .unset, .unset, .unset, .unset, .unset, .unset, .unset] [(.int sb)]) := by
          intro T171 K171 sb
          refine gIstore K171 L_74 (Ls' := #[.val (.int pick), .val (.int shape), .val (.int pos), .val (.int chh), .val (.int ext), .val (.int wh), .val (.int (6 : Int32)), .val (.int (shape &&& (3 : Int32))), .val (.int (7 : Int32)), .val (.int sb), .unset, .unset, .unset, .unset, .unset, .unset]) rfl ?_
          refine gIloadN K171 L_76 (v := pos) rfl ?_
          refine gLdcI K171 (2147483647 : Int32) L_77 (hw _ (List.mem_of_getElem? (i := 0) rfl)) ?_
          refine gIand K171 L_79 ?_
          refine gBipush K171 (9 : Int32) L_80 rfl ?_
          refine gIrem K171 L_82 (by decide) ?_
          generalize ((pos &&& (2147483647 : Int32)) % (9 : Int32)) = pp
          refine gIstore K171 L_83 (Ls' := #[.val (.int pick), .val (.int shape), .val (.int pos), .val (.int chh), .val (.int ext), .val (.int wh), .val (.int (6 : Int32)), .val (.int (shape &&& (3 : Int32))), .val (.int (7 : Int32)), .val (.int sb), .val (.int pp), .unset, .unset, .unset, .unset, .unset]) rfl ?_
          refine gIloadN K171 L_85 (v := chh) rfl ?_
          refine gSipush K171 (255 : Int32) L_86 rfl ?_
          refine gIand K171 L_89 ?_
          refine gI2c K171 L_90 ?_
          have hb_c_ := and255c chh
          generalize ((chh &&& (255 : Int32))).toUInt32.toUInt16.toUInt32.toInt32 = c_ at hb_c_ ⊢
          refine gIstore K171 L_91 (Ls' := #[.val (.int pick), .val (.int shape), .val (.int pos), .val (.int chh), .val (.int ext), .val (.int wh), .val (.int (6 : Int32)), .val (.int (shape &&& (3 : Int32))), .val (.int (7 : Int32)), .val (.int sb), .val (.int pp), .val (.int c_), .unset, .unset, .unset, .unset]) rfl ?_
          refine gIload K171 L_93 (v := ext) rfl ?_
          refine gSipush K171 (255 : Int32) L_95 rfl ?_
          refine gIand K171 L_98 ?_
          refine gI2c K171 L_99 ?_
          have hb_e_ := and255c ext
          generalize ((ext &&& (255 : Int32))).toUInt32.toUInt16.toUInt32.toInt32 = e_ at hb_e_ ⊢
          refine gIstore K171 L_100 (Ls' := #[.val (.int pick), .val (.int shape), .val (.int pos), .val (.int chh), .val (.int ext), .val (.int wh), .val (.int (6 : Int32)), .val (.int (shape &&& (3 : Int32))), .val (.int (7 : Int32)), .val (.int sb), .val (.int pp), .val (.int c_), .val (.int e_), .unset, .unset, .unset]) rfl ?_
          refine gIload K171 L_102 (v := (7 : Int32)) rfl ?_
          refine gNewarr K171 L_104 (hw _ (List.mem_of_getElem? (i := 1) rfl)) (by decide) 7 (by decide) (by decide) (by decide) (by decide) (fun T172 h172 x172 kA172 K172 E172 g172 A172 ne172 => ?_)
          have P173 := P0.ext E172
          have ge_x172 : h0.size ≤ x172 := by rw [g172]; exact P0.1
          refine gAstore K172 L_106 rfl (Ls' := #[.val (.int pick), .val (.int shape), .val (.int pos), .val (.int chh), .val (.int ext), .val (.int wh), .val (.int (6 : Int32)), .val (.int (shape &&& (3 : Int32))), .val (.int (7 : Int32)), .val (.int sb), .val (.int pp), .val (.int c_), .val (.int e_), .val (.ref x172), .unset, .unset]) rfl ?_
          refine gIload K172 L_108 (v := (7 : Int32)) rfl ?_
          refine gIf_le K172 L_110 (fun q => absurd q (by first | decide | (intro hh; cases hh) | simp)) (fun q110 => ?_)
          refine gAload K172 L_113 (v := (.ref x172)) rfl rfl ?_
          refine gIconst K172 (0 : Int32) L_115 rfl ?_
          refine gIconst K172 (0 : Int32) L_116 rfl ?_
          refine gIload K172 L_117 (v := wh) rfl ?_
          refine gIload K172 L_119 (v := (6 : Int32)) rfl ?_
          refine gIload K172 L_121 (v := sb) rfl ?_
          refine gIload K172 L_123 (v := pp) rfl ?_
          refine gIload K172 L_125 (v := c_) rfl ?_
          refine gIload K172 L_127 (v := e_) rfl ?_
          refine gCallS K172 (W := 2) [(.int (0 : Int32)), (.int wh), (.int (6 : Int32)), (.int sb), (.int pp), (.int c_), (.int e_)] [(.int (0 : Int32)), (.ref x172)] L_129 (hw _ (List.mem_of_getElem? (i := 59) rfl)) (hw _ (List.mem_of_getElem? (i := 60) rfl)) (hw _ (List.mem_of_getElem? (i := 61) rfl)) (hw _ (List.mem_of_getElem? (i := 62) rfl)) (Cal.ofW (W := 2) (c_at l Z a0 hw h172 n0 K172.n0le hE wh sb pp c_ e_ 0 6 (by decide) (by decide) (fun q => absurd q q7) (fun _ => by decide) hb_c_ hb_e_ z (Sc.ext E172) hz fm (Sf.ext E172) rf) (hw _ (List.mem_of_getElem? (i := 62) rfl)) (hw _ (List.mem_of_getElem? (i := 61) rfl)) (by decide) (by decide)) (fun _ q => nomatch q) pd6 rfl rfl (Nat.le_of_eq rfl) rfl (by decide) (by decide) (by decide) (fun v174 T174 h174 K174 Q174 q174 => ?_)
          have E174 := Ext.of0 Q174
          have P175 := P173.ext E174
          obtain ⟨r174, rfl, hb174⟩ := q174
          refine gCastore K174 L_132 (List.mem_of_getElem? (i := 0) rfl) (A172.ext E174) rfl (by decide) hb174.1 (ch_up hb174.2) (fun T176 h176 K176 Q176 A176 => ?_)
          have P177 := P175.trans Q176 (fun z q => by cases List.mem_singleton.mp q; exact Or.inr ge_x172)
          refine gIload K176 L_133 (v := (7 : Int32)) rfl ?_
          refine gIconst K176 (1 : Int32) L_135 rfl ?_
          refine gIcmp_le K176 L_136 (fun q => absurd q (by first | decide | (intro hh; cases hh) | simp)) (fun q136 => ?_)
          refine gAload K176 L_139 (v := (.ref x172)) rfl rfl ?_
          refine gIconst K176 (1 : Int32) L_141 rfl ?_
          refine gIconst K176 (1 : Int32) L_142 rfl ?_
          refine gIload K176 L_143 (v := wh) rfl ?_
          refine gIload K176 L_145 (v := (6 : Int32)) rfl ?_
          refine gIload K176 L_147 (v := sb) rfl ?_
          refine gIload K176 L_149 (v := pp) rfl ?_
          refine gIload K176 L_151 (v := c_) rfl ?_
          refine gIload K176 L_153 (v := e_) rfl ?_
          refine gCallS K176 (W := 2) [(.int (1 : Int32)), (.int wh), (.int (6 : Int32)), (.int sb), (.int pp), (.int c_), (.int e_)] [(.int (1 : Int32)), (.ref x172)] L_155 (hw _ (List.mem_of_getElem? (i := 59) rfl)) (hw _ (List.mem_of_getElem? (i := 60) rfl)) (hw _ (List.mem_of_getElem? (i := 61) rfl)) (hw _ (List.mem_of_getElem? (i := 62) rfl)) (Cal.ofW (W := 2) (c_at l Z a0 hw h176 n0 K176.n0le hE wh sb pp c_ e_ 1 6 (by decide) (by decide) (fun q => absurd q q7) (fun _ => by decide) hb_c_ hb_e_ z (Sc.ext (Ext.kp1 (Ext.tr E172 E174) Q176 (Nat.le_of_eq g172.symm))) hz fm (Sf.ext (Ext.kp1 (Ext.tr E172 E174) Q176 (Nat.le_of_eq g172.symm))) rf) (hw _ (List.mem_of_getElem? (i := 62) rfl)) (hw _ (List.mem_of_getElem? (i := 61) rfl)) (by decide) (by decide)) (fun _ q => nomatch q) pd6 rfl rfl (Nat.le_of_eq rfl) rfl (by decide) (by decide) (by decide) (fun v178 T178 h178 K178 Q178 q178 => ?_)
          have E178 := Ext.of0 Q178
          have P179 := P177.ext E178
          obtain ⟨r178, rfl, hb178⟩ := q178
          refine gCastore K178 L_158 (List.mem_of_getElem? (i := 0) rfl) (A176.ext E178) rfl (by decide) hb178.1 (ch_up hb178.2) (fun T180 h180 K180 Q180 A180 => ?_)
          have P181 := P179.trans Q180 (fun z q => by cases List.mem_singleton.mp q; exact Or.inr ge_x172)
          refine gIload K180 L_159 (v := (7 : Int32)) rfl ?_
          refine gIconst K180 (2 : Int32) L_161 rfl ?_
          refine gIcmp_le K180 L_162 (fun q => absurd q (by first | decide | (intro hh; cases hh) | simp)) (fun q162 => ?_)
          refine gAload K180 L_165 (v := (.ref x172)) rfl rfl ?_
          refine gIconst K180 (2 : Int32) L_167 rfl ?_
          refine gIconst K180 (2 : Int32) L_168 rfl ?_
          refine gIload K180 L_169 (v := wh) rfl ?_
          refine gIload K180 L_171 (v := (6 : Int32)) rfl ?_
          refine gIload K180 L_173 (v := sb) rfl ?_
          refine gIload K180 L_175 (v := pp) rfl ?_
          refine gIload K180 L_177 (v := c_) rfl ?_
          refine gIload K180 L_179 (v := e_) rfl ?_
          refine gCallS K180 (W := 2) [(.int (2 : Int32)), (.int wh), (.int (6 : Int32)), (.int sb), (.int pp), (.int c_), (.int e_)] [(.int (2 : Int32)), (.ref x172)] L_181 (hw _ (List.mem_of_getElem? (i := 59) rfl)) (hw _ (List.mem_of_getElem? (i := 60) rfl)) (hw _ (List.mem_of_getElem? (i := 61) rfl)) (hw _ (List.mem_of_getElem? (i := 62) rfl)) (Cal.ofW (W := 2) (c_at l Z a0 hw h180 n0 K180.n0le hE wh sb pp c_ e_ 2 6 (by decide) (by decide) (fun q => absurd q q7) (fun _ => by decide) hb_c_ hb_e_ z (Sc.ext (Ext.kp1 (Ext.tr (Ext.kp1 (Ext.tr E172 E174) Q176 (Nat.le_of_eq g172.symm)) E178) Q180 (Nat.le_of_eq g172.symm))) hz fm (Sf.ext (Ext.kp1 (Ext.tr (Ext.kp1 (Ext.tr E172 E174) Q176 (Nat.le_of_eq g172.symm)) E178) Q180 (Nat.le_of_eq g172.symm))) rf) (hw _ (List.mem_of_getElem? (i := 62) rfl)) (hw _ (List.mem_of_getElem? (i := 61) rfl)) (by decide) (by decide)) (fun _ q => nomatch q) pd6 rfl rfl (Nat.le_of_eq rfl) rfl (by decide) (by decide) (by decide) (fun v182 T182 h182 K182 Q182 q182 => ?_)
          have E182 := Ext.of0 Q182
          have P183 := P181.ext E182
          obtain ⟨r182, rfl, hb182⟩ := q182
          refine gCastore K182 L_184 (List.mem_of_getElem? (i := 0) rfl) (A180.ext E182) rfl (by decide) hb182.1 (ch_up hb182.2) (fun T184 h184 K184 Q184 A184 => ?_)
          have P185 := P183.trans Q184 (fun z q => by cases List.mem_singleton.mp q; exact Or.inr ge_x172)
          refine gIload K184 L_185 (v := (7 : Int32)) rfl ?_
          refine gIconst K184 (3 : Int32) L_187 rfl ?_
          refine gIcmp_le K184 L_188 (fun q => absurd q (by first | decide | (intro hh; cases hh) | simp)) (fun q188 => ?_)
          refine gAload K184 L_191 (v := (.ref x172)) rfl rfl ?_
          refine gIconst K184 (3 : Int32) L_193 rfl ?_
          refine gIconst K184 (3 : Int32) L_194 rfl ?_
          refine gIload K184 L_195 (v := wh) rfl ?_
          refine gIload K184 L_197 (v := (6 : Int32)) rfl ?_
          refine gIload K184 L_199 (v := sb) rfl ?_
          refine gIload K184 L_201 (v := pp) rfl ?_
          refine gIload K184 L_203 (v := c_) rfl ?_
          refine gIload K184 L_205 (v := e_) rfl ?_
          refine gCallS K184 (W := 2) [(.int (3 : Int32)), (.int wh), (.int (6 : Int32)), (.int sb), (.int pp), (.int c_), (.int e_)] [(.int (3 : Int32)), (.ref x172)] L_207 (hw _ (List.mem_of_getElem? (i := 59) rfl)) (hw _ (List.mem_of_getElem? (i := 60) rfl)) (hw _ (List.mem_of_getElem? (i := 61) rfl)) (hw _ (List.mem_of_getElem? (i := 62) rfl)) (Cal.ofW (W := 2) (c_at l Z a0 hw h184 n0 K184.n0le hE wh sb pp c_ e_ 3 6 (by decide) (by decide) (fun q => absurd q q7) (fun _ => by decide) hb_c_ hb_e_ z (Sc.ext (Ext.kp1 (Ext.tr (Ext.kp1 (Ext.tr (Ext.kp1 (Ext.tr E172 E174) Q176 (Nat.le_of_eq g172.symm)) E178) Q180 (Nat.le_of_eq g172.symm)) E182) Q184 (Nat.le_of_eq g172.symm))) hz fm (Sf.ext (Ext.kp1 (Ext.tr (Ext.kp1 (Ext.tr (Ext.kp1 (Ext.tr E172 E174) Q176 (Nat.le_of_eq g172.symm)) E178) Q180 (Nat.le_of_eq g172.symm)) E182) Q184 (Nat.le_of_eq g172.symm))) rf) (hw _ (List.mem_of_getElem? (i := 62) rfl)) (hw _ (List.mem_of_getElem? (i := 61) rfl)) (by decide) (by decide)) (fun _ q => nomatch q) pd6 rfl rfl (Nat.le_of_eq rfl) rfl (by decide) (by decide) (by decide) (fun v186 T186 h186 K186 Q186 q186 => ?_)
          have E186 := Ext.of0 Q186
          have P187 := P185.ext E186
          obtain ⟨r186, rfl, hb186⟩ := q186
          refine gCastore K186 L_210 (List.mem_of_getElem? (i := 0) rfl) (A184.ext E186) rfl (by decide) hb186.1 (ch_up hb186.2) (fun T188 h188 K188 Q188 A188 => ?_)
          have P189 := P187.trans Q188 (fun z q => by cases List.mem_singleton.mp q; exact Or.inr ge_x172)
          refine gIload K188 L_211 (v := (7 : Int32)) rfl ?_
          refine gIconst K188 (4 : Int32) L_213 rfl ?_
          refine gIcmp_le K188 L_214 (fun q => absurd q (by first | decide | (intro hh; cases hh) | simp)) (fun q214 => ?_)
          refine gAload K188 L_217 (v := (.ref x172)) rfl rfl ?_
          refine gIconst K188 (4 : Int32) L_219 rfl ?_
          refine gIconst K188 (4 : Int32) L_220 rfl ?_
          refine gIload K188 L_221 (v := wh) rfl ?_
          refine gIload K188 L_223 (v := (6 : Int32)) rfl ?_
          refine gIload K188 L_225 (v := sb) rfl ?_
          refine gIload K188 L_227 (v := pp) rfl ?_
          refine gIload K188 L_229 (v := c_) rfl ?_
          refine gIload K188 L_231 (v := e_) rfl ?_
          refine gCallS K188 (W := 2) [(.int (4 : Int32)), (.int wh), (.int (6 : Int32)), (.int sb), (.int pp), (.int c_), (.int e_)] [(.int (4 : Int32)), (.ref x172)] L_233 (hw _ (List.mem_of_getElem? (i := 59) rfl)) (hw _ (List.mem_of_getElem? (i := 60) rfl)) (hw _ (List.mem_of_getElem? (i := 61) rfl)) (hw _ (List.mem_of_getElem? (i := 62) rfl)) (Cal.ofW (W := 2) (c_at l Z a0 hw h188 n0 K188.n0le hE wh sb pp c_ e_ 4 6 (by decide) (by decide) (fun q => absurd q q7) (fun _ => by decide) hb_c_ hb_e_ z (Sc.ext (Ext.kp1 (Ext.tr (Ext.kp1 (Ext.tr (Ext.kp1 (Ext.tr (Ext.kp1 (Ext.tr E172 E174) Q176 (Nat.le_of_eq g172.symm)) E178) Q180 (Nat.le_of_eq g172.symm)) E182) Q184 (Nat.le_of_eq g172.symm)) E186) Q188 (Nat.le_of_eq g172.symm))) hz fm (Sf.ext (Ext.kp1 (Ext.tr (Ext.kp1 (Ext.tr (Ext.kp1 (Ext.tr (Ext.kp1 (Ext.tr E172 E174) Q176 (Nat.le_of_eq g172.symm)) E178) Q180 (Nat.le_of_eq g172.symm)) E182) Q184 (Nat.le_of_eq g172.symm)) E186) Q188 (Nat.le_of_eq g172.symm))) rf) (hw _ (List.mem_of_getElem? (i := 62) rfl)) (hw _ (List.mem_of_getElem? (i := 61) rfl)) (by decide) (by decide)) (fun _ q => nomatch q) pd6 rfl rfl (Nat.le_of_eq rfl) rfl (by decide) (by decide) (by decide) (fun v190 T190 h190 K190 Q190 q190 => ?_)
          have E190 := Ext.of0 Q190
          have P191 := P189.ext E190
          obtain ⟨r190, rfl, hb190⟩ := q190
          refine gCastore K190 L_236 (List.mem_of_getElem? (i := 0) rfl) (A188.ext E190) rfl (by decide) hb190.1 (ch_up hb190.2) (fun T192 h192 K192 Q192 A192 => ?_)
          have P193 := P191.trans Q192 (fun z q => by cases List.mem_singleton.mp q; exact Or.inr ge_x172)
          refine gIload K192 L_237 (v := (7 : Int32)) rfl ?_
          refine gIconst K192 (5 : Int32) L_239 rfl ?_
          refine gIcmp_le K192 L_240 (fun q => absurd q (by first | decide | (intro hh; cases hh) | simp)) (fun q240 => ?_)
          refine gAload K192 L_243 (v := (.ref x172)) rfl rfl ?_
          refine gIconst K192 (5 : Int32) L_245 rfl ?_
          refine gIconst K192 (5 : Int32) L_246 rfl ?_
          refine gIload K192 L_247 (v := wh) rfl ?_
          refine gIload K192 L_249 (v := (6 : Int32)) rfl ?_
          refine gIload K192 L_251 (v := sb) rfl ?_
          refine gIload K192 L_253 (v := pp) rfl ?_
          refine gIload K192 L_255 (v := c_) rfl ?_
          refine gIload K192 L_257 (v := e_) rfl ?_
          refine gCallS K192 (W := 2) [(.int (5 : Int32)), (.int wh), (.int (6 : Int32)), (.int sb), (.int pp), (.int c_), (.int e_)] [(.int (5 : Int32)), (.ref x172)] L_259 (hw _ (List.mem_of_getElem? (i := 59) rfl)) (hw _ (List.mem_of_getElem? (i := 60) rfl)) (hw _ (List.mem_of_getElem? (i := 61) rfl)) (hw _ (List.mem_of_getElem? (i := 62) rfl)) (Cal.ofW (W := 2) (c_at l Z a0 hw h192 n0 K192.n0le hE wh sb pp c_ e_ 5 6 (by decide) (by decide) (fun q => absurd q q7) (fun _ => by decide) hb_c_ hb_e_ z (Sc.ext (Ext.kp1 (Ext.tr (Ext.kp1 (Ext.tr (Ext.kp1 (Ext.tr (Ext.kp1 (Ext.tr (Ext.kp1 (Ext.tr E172 E174) Q176 (Nat.le_of_eq g172.symm)) E178) Q180 (Nat.le_of_eq g172.symm)) E182) Q184 (Nat.le_of_eq g172.symm)) E186) Q188 (Nat.le_of_eq g172.symm)) E190) Q192 (Nat.le_of_eq g172.symm))) hz fm (Sf.ext (Ext.kp1 (Ext.tr (Ext.kp1 (Ext.tr (Ext.kp1 (Ext.tr (Ext.kp1 (Ext.tr (Ext.kp1 (Ext.tr E172 E174) Q176 (Nat.le_of_eq g172.symm)) E178) Q180 (Nat.le_of_eq g172.symm)) E182) Q184 (Nat.le_of_eq g172.symm)) E186) Q188 (Nat.le_of_eq g172.symm)) E190) Q192 (Nat.le_of_eq g172.symm))) rf) (hw _ (List.mem_of_getElem? (i := 62) rfl)) (hw _ (List.mem_of_getElem? (i := 61) rfl)) (by decide) (by decide)) (fun _ q => nomatch q) pd6 rfl rfl (Nat.le_of_eq rfl) rfl (by decide) (by decide) (by decide) (fun v194 T194 h194 K194 Q194 q194 => ?_)
          have E194 := Ext.of0 Q194
          have P195 := P193.ext E194
          obtain ⟨r194, rfl, hb194⟩ := q194
          refine gCastore K194 L_262 (List.mem_of_getElem? (i := 0) rfl) (A192.ext E194) rfl (by decide) hb194.1 (ch_up hb194.2) (fun T196 h196 K196 Q196 A196 => ?_)
          have P197 := P195.trans Q196 (fun z q => by cases List.mem_singleton.mp q; exact Or.inr ge_x172)
          refine gIload K196 L_263 (v := (7 : Int32)) rfl ?_
          refine gBipush K196 (6 : Int32) L_265 rfl ?_
          refine gIcmp_le K196 L_267 (fun q => absurd q (by first | decide | (intro hh; cases hh) | simp)) (fun q267 => ?_)
          refine gAload K196 L_270 (v := (.ref x172)) rfl rfl ?_
          refine gBipush K196 (6 : Int32) L_272 rfl ?_
          refine gBipush K196 (6 : Int32) L_274 rfl ?_
          refine gIload K196 L_276 (v := wh) rfl ?_
          refine gIload K196 L_278 (v := (6 : Int32)) rfl ?_
          refine gIload K196 L_280 (v := sb) rfl ?_
          refine gIload K196 L_282 (v := pp) rfl ?_
          refine gIload K196 L_284 (v := c_) rfl ?_
          refine gIload K196 L_286 (v := e_) rfl ?_
          refine gCallS K196 (W := 2) [(.int (6 : Int32)), (.int wh), (.int (6 : Int32)), (.int sb), (.int pp), (.int c_), (.int e_)] [(.int (6 : Int32)), (.ref x172)] L_288 (hw _ (List.mem_of_getElem? (i := 59) rfl)) (hw _ (List.mem_of_getElem? (i := 60) rfl)) (hw _ (List.mem_of_getElem? (i := 61) rfl)) (hw _ (List.mem_of_getElem? (i := 62) rfl)) (Cal.ofN (W := 2) (c_atE l Z a0 hw h196 n0 K196.n0le wh (6 : Int32) sb pp c_ e_ hb_c_ hb_e_) (hw _ (List.mem_of_getElem? (i := 62) rfl)) (hw _ (List.mem_of_getElem? (i := 61) rfl)) (by decide) (by decide)) (fun _ q => nomatch q) pd6 rfl rfl (Nat.le_of_eq rfl) rfl (by decide) (by decide) (by decide) (fun v198 T198 h198 K198 Q198 q198 => ?_)
          have E198 := Ext.of0 Q198
          have P199 := P197.ext E198
          obtain ⟨r198, rfl, hb198⟩ := q198
          refine gCastore K198 L_291 (List.mem_of_getElem? (i := 0) rfl) (A196.ext E198) rfl (by decide) hb198.1 (ch_up hb198.2) (fun T200 h200 K200 Q200 A200 => ?_)
          have P201 := P199.trans Q200 (fun z q => by cases List.mem_singleton.mp q; exact Or.inr ge_x172)
          refine gIload K200 L_292 (v := (7 : Int32)) rfl ?_
          refine gBipush K200 (7 : Int32) L_294 rfl ?_
          refine gIcmp_le K200 L_296 (fun q296 => ?_) (fun q => absurd q (by first | decide | (intro hh; cases hh) | simp))
          refine gIload K200 L_321 (v := (7 : Int32)) rfl ?_
          refine gBipush K200 (8 : Int32) L_323 rfl ?_
          refine gIcmp_le K200 L_325 (fun q325 => ?_) (fun q => absurd q (by first | decide | (intro hh; cases hh) | simp))
          refine gNew K200 L_350 (hw _ (List.mem_of_getElem? (i := 2) rfl)) (hw _ (List.mem_of_getElem? (i := 3) rfl)) (hw _ (List.mem_of_getElem? (i := 4) rfl)) (by decide) (by decide) (fun T202 h202 x202 K202 E202 g202 A202 D202 ne202 => ?_)
          have P203 := P201.ext E202
          have ge_x202 : h0.size ≤ x202 := by rw [g202]; exact P201.1
          have F204 : Fld Z h202 x202 "java/lang/String" "value" "[B" .null := (D202 (Or.inr (hw _ (List.mem_of_getElem? (i := 17) rfl))) (ty := (.array .byte)) (by decide))
          have F205 : Fld Z h202 x202 "java/lang/String" "coder" "B" (.int (0 : Int32)) := (D202 (Or.inr (hw _ (List.mem_of_getElem? (i := 18) rfl))) (ty := .byte) (by decide))
          refine gDup K202 L_353 rfl ?_
          refine gAload K202 L_354 (v := (.ref x172)) rfl rfl ?_
          refine gCallI K202 (W := 1) x202 [(.ref x172)] [(.ref x202)] L_356 rfl (hw _ (List.mem_of_getElem? (i := 5) rfl)) (hw _ (List.mem_of_getElem? (i := 6) rfl)) (hw _ (List.mem_of_getElem? (i := 7) rfl)) (cal_strN hw (W := 1) (cs := [r174, r178, r182, r186, r190, r194, r198]) 7 (K202.wsge (List.mem_of_getElem? (i := 0) rfl)) K202.n0le A202 F204 F205 (A200.ext E202) (Sc.ext (Ext.tr (Ext.kp1 (Ext.tr (Ext.kp1 (Ext.tr (Ext.kp1 (Ext.tr (Ext.kp1 (Ext.tr (Ext.kp1 (Ext.tr (Ext.kp1 (Ext.tr (Ext.kp1 (Ext.tr E172 E174) Q176 (Nat.le_of_eq g172.symm)) E178) Q180 (Nat.le_of_eq g172.symm)) E182) Q184 (Nat.le_of_eq g172.symm)) E186) Q188 (Nat.le_of_eq g172.symm)) E190) Q192 (Nat.le_of_eq g172.symm)) E194) Q196 (Nat.le_of_eq g172.symm)) E198) Q200 (Nat.le_of_eq g172.symm)) E202)) hz rfl (by decide) (by decide) (allI hb174 (allI hb178 (allI hb182 (allI hb186 (allI hb190 (allI hb194 (allI hb198 allI0))))))) (by decide) (by decide)) (fun z q => by cases List.mem_singleton.mp q; exact (List.mem_of_getElem? (i := 0) rfl)) pd4 rfl rfl (Nat.le_of_eq rfl) rfl (by decide) (by decide) (by decide) (fun v206 T206 h206 K206 Q206 q206 => ?_)
          have P207 := P203.trans Q206 (fun z q => by cases List.mem_singleton.mp q; exact Or.inr ge_x202)
          obtain ⟨rfl, St206⟩ := q206
          generalize hcs : [r174, r178, r182, r186, r190, r194, r198] = cs at St206
          refine gAstore K206 L_359 rfl (Ls' := #[.val (.int pick), .val (.int shape), .val (.int pos), .val (.int chh), .val (.int ext), .val (.int wh), .val (.int (6 : Int32)), .val (.int (shape &&& (3 : Int32))), .val (.int (7 : Int32)), .val (.int sb), .val (.int pp), .val (.int c_), .val (.int e_), .val (.ref x172), .val (.ref x202), .unset]) rfl ?_
          refine gNull K206 L_361 ?_
          refine gAstore K206 L_362 rfl (Ls' := #[.val (.int pick), .val (.int shape), .val (.int pos), .val (.int chh), .val (.int ext), .val (.int wh), .val (.int (6 : Int32)), .val (.int (shape &&& (3 : Int32))), .val (.int (7 : Int32)), .val (.int sb), .val (.int pp), .val (.int c_), .val (.int e_), .val (.ref x172), .val (.ref x202), .val .null]) rfl ?_
          refine gAload K206 L_364 (v := (.ref x202)) rfl rfl ?_
          refine gLdc K206 L_366 (hw _ (List.mem_of_getElem? (i := 23) rfl)) (hsA hw) (by decide) (vs := ([(110 : Int32), (101 : Int32), (119 : Int32), (45 : Int32), (121 : Int32), (111 : Int32), (114 : Int32), (107 : Int32)].map StrChars.lo8).map Value.int) (z := Int32.ofNat 8) (by decide +kernel) (by decide) (by decide) 32 (by decide) (by decide) (by decide) (by decide) (fun T208 h208 a208 b208 kA208 K208 E208 Ea208 Fc208 Fv208 Ab208 ne208 => ?_)
          have P209 := P207.ext E208
          have Sl208 : StrL Z h208 a208 [(110 : Int32), (101 : Int32), (119 : Int32), (45 : Int32), (121 : Int32), (111 : Int32), (114 : Int32), (107 : Int32)] := ⟨b208, kA208, Ea208, Fc208, Fv208, Ab208, by decide, by decide⟩
          refine gCallV K208 (W := 0) (C := "java/lang/String") x202 [(.ref a208)] [] L_368 (hw _ (List.mem_of_getElem? (i := 24) rfl)) (hw _ (List.mem_of_getElem? (i := 25) rfl)) (hw _ (List.mem_of_getElem? (i := 27) rfl)) (hw _ (List.mem_of_getElem? (i := 26) rfl)) (cal_eq hw (W := 0) (St206.ext E208) Sl208 (Sc.ext (Ext.tr (Ext.kp1 (Ext.tr (Ext.kp1 (Ext.tr (Ext.kp1 (Ext.tr (Ext.kp1 (Ext.tr (Ext.kp1 (Ext.tr (Ext.kp1 (Ext.tr (Ext.kp1 (Ext.tr (Ext.kp1 (Ext.tr E172 E174) Q176 (Nat.le_of_eq g172.symm)) E178) Q180 (Nat.le_of_eq g172.symm)) E182) Q184 (Nat.le_of_eq g172.symm)) E186) Q188 (Nat.le_of_eq g172.symm)) E190) Q192 (Nat.le_of_eq g172.symm)) E194) Q196 (Nat.le_of_eq g172.symm)) E198) Q200 (Nat.le_of_eq g172.symm)) E202) Q206 (Nat.le_trans (Ext.kp1 (Ext.tr (Ext.kp1 (Ext.tr (Ext.kp1 (Ext.tr (Ext.kp1 (Ext.tr (Ext.kp1 (Ext.tr (Ext.kp1 (Ext.tr (Ext.kp1 (Ext.tr E172 E174) Q176 (Nat.le_of_eq g172.symm)) E178) Q180 (Nat.le_of_eq g172.symm)) E182) Q184 (Nat.le_of_eq g172.symm)) E186) Q188 (Nat.le_of_eq g172.symm)) E190) Q192 (Nat.le_of_eq g172.symm)) E194) Q196 (Nat.le_of_eq g172.symm)) E198) Q200 (Nat.le_of_eq g172.symm)).1 (Nat.le_of_eq g202.symm))) E208)) hz (by decide) (by decide)) ((St206.ext E208)).exa (fun _ q => nomatch q) pd1 rfl rfl (Nat.le_of_eq rfl) rfl (by decide) (by decide) (by decide) (fun v210 T210 h210 K210 Q210 q210 => ?_)
          have E210 := Ext.of0 Q210
          have P211 := P209.ext E210
          rcases q210 with ⟨rfl, hc0⟩ | ⟨rfl, hc0⟩
          · skip
            refine gIf_eq K210 L_371 (fun q => absurd q (by first | decide | (intro hh; cases hh) | simp)) (fun q371 => ?_)
            refine gGetS K210 L_374 (hw _ (List.mem_of_getElem? (i := 96) rfl)) (S0.ext (Ext.tr (Ext.tr (Ext.kp1 (Ext.tr (Ext.kp1 (Ext.tr (Ext.kp1 (Ext.tr (Ext.kp1 (Ext.tr (Ext.kp1 (Ext.tr (Ext.kp1 (Ext.tr (Ext.kp1 (Ext.tr (Ext.kp1 (Ext.tr E172 E174) Q176 (Nat.le_of_eq g172.symm)) E178) Q180 (Nat.le_of_eq g172.symm)) E182) Q184 (Nat.le_of_eq g172.symm)) E186) Q188 (Nat.le_of_eq g172.symm)) E190) Q192 (Nat.le_of_eq g172.symm)) E194) Q196 (Nat.le_of_eq g172.symm)) E198) Q200 (Nat.le_of_eq g172.symm)) E202) Q206 (Nat.le_trans (Ext.kp1 (Ext.tr (Ext.kp1 (Ext.tr (Ext.kp1 (Ext.tr (Ext.kp1 (Ext.tr (Ext.kp1 (Ext.tr (Ext.kp1 (Ext.tr (Ext.kp1 (Ext.tr E172 E174) Q176 (Nat.le_of_eq g172.symm)) E178) Q180 (Nat.le_of_eq g172.symm)) E182) Q184 (Nat.le_of_eq g172.symm)) E186) Q188 (Nat.le_of_eq g172.symm)) E190) Q192 (Nat.le_of_eq g172.symm)) E194) Q196 (Nat.le_of_eq g172.symm)) E198) Q200 (Nat.le_of_eq g172.symm)).1 (Nat.le_of_eq g202.symm))) E208) E210)) (fun T212 K212 => ?_)
            refine gAstore K212 L_377 rfl (Ls' := #[.val (.int pick), .val (.int shape), .val (.int pos), .val (.int chh), .val (.int ext), .val (.int wh), .val (.int (6 : Int32)), .val (.int (shape &&& (3 : Int32))), .val (.int (7 : Int32)), .val (.int sb), .val (.int pp), .val (.int c_), .val (.int e_), .val (.ref x172), .val (.ref x202), .val (.ref v0)]) rfl ?_
            refine gGoto K212 L_379 ?_
            refine gAload K212 L_397 (v := (.ref x202)) rfl rfl ?_
            refine gCallS K212 (W := 0) [(.ref x202)] [] L_399 (hw _ (List.mem_of_getElem? (i := 36) rfl)) (hw _ (List.mem_of_getElem? (i := 37) rfl)) (hw _ (List.mem_of_getElem? (i := 38) rfl)) (hw _ (List.mem_of_getElem? (i := 39) rfl)) (Cal.ofN (W := 0) (c_look l Z a0 hw h210 n0 K212.n0le x202 cs va kV dv v0 l0 v1 l1 z (Sv.ext (Ext.tr (Ext.tr (Ext.kp1 (Ext.tr (Ext.kp1 (Ext.tr (Ext.kp1 (Ext.tr (Ext.kp1 (Ext.tr (Ext.kp1 (Ext.tr (Ext.kp1 (Ext.tr (Ext.kp1 (Ext.tr (Ext.kp1 (Ext.tr E172 E174) Q176 (Nat.le_of_eq g172.symm)) E178) Q180 (Nat.le_of_eq g172.symm)) E182) Q184 (Nat.le_of_eq g172.symm)) E186) Q188 (Nat.le_of_eq g172.symm)) E190) Q192 (Nat.le_of_eq g172.symm)) E194) Q196 (Nat.le_of_eq g172.symm)) E198) Q200 (Nat.le_of_eq g172.symm)) E202) Q206 (Nat.le_trans (Ext.kp1 (Ext.tr (Ext.kp1 (Ext.tr (Ext.kp1 (Ext.tr (Ext.kp1 (Ext.tr (Ext.kp1 (Ext.tr (Ext.kp1 (Ext.tr (Ext.kp1 (Ext.tr E172 E174) Q176 (Nat.le_of_eq g172.symm)) E178) Q180 (Nat.le_of_eq g172.symm)) E182) Q184 (Nat.le_of_eq g172.symm)) E186) Q188 (Nat.le_of_eq g172.symm)) E190) Q192 (Nat.le_of_eq g172.symm)) E194) Q196 (Nat.le_of_eq g172.symm)) E198) Q200 (Nat.le_of_eq g172.symm)).1 (Nat.le_of_eq g202.symm))) E208) E210)) (Av.ext (Ext.tr (Ext.tr (Ext.kp1 (Ext.tr (Ext.kp1 (Ext.tr (Ext.kp1 (Ext.tr (Ext.kp1 (Ext.tr (Ext.kp1 (Ext.tr (Ext.kp1 (Ext.tr (Ext.kp1 (Ext.tr (Ext.kp1 (Ext.tr E172 E174) Q176 (Nat.le_of_eq g172.symm)) E178) Q180 (Nat.le_of_eq g172.symm)) E182) Q184 (Nat.le_of_eq g172.symm)) E186) Q188 (Nat.le_of_eq g172.symm)) E190) Q192 (Nat.le_of_eq g172.symm)) E194) Q196 (Nat.le_of_eq g172.symm)) E198) Q200 (Nat.le_of_eq g172.symm)) E202) Q206 (Nat.le_trans (Ext.kp1 (Ext.tr (Ext.kp1 (Ext.tr (Ext.kp1 (Ext.tr (Ext.kp1 (Ext.tr (Ext.kp1 (Ext.tr (Ext.kp1 (Ext.tr (Ext.kp1 (Ext.tr E172 E174) Q176 (Nat.le_of_eq g172.symm)) E178) Q180 (Nat.le_of_eq g172.symm)) E182) Q184 (Nat.le_of_eq g172.symm)) E186) Q188 (Nat.le_of_eq g172.symm)) E190) Q192 (Nat.le_of_eq g172.symm)) E194) Q196 (Nat.le_of_eq g172.symm)) E198) Q200 (Nat.le_of_eq g172.symm)).1 (Nat.le_of_eq g202.symm))) E208) E210)) (Ev.ext (Ext.tr (Ext.tr (Ext.kp1 (Ext.tr (Ext.kp1 (Ext.tr (Ext.kp1 (Ext.tr (Ext.kp1 (Ext.tr (Ext.kp1 (Ext.tr (Ext.kp1 (Ext.tr (Ext.kp1 (Ext.tr (Ext.kp1 (Ext.tr E172 E174) Q176 (Nat.le_of_eq g172.symm)) E178) Q180 (Nat.le_of_eq g172.symm)) E182) Q184 (Nat.le_of_eq g172.symm)) E186) Q188 (Nat.le_of_eq g172.symm)) E190) Q192 (Nat.le_of_eq g172.symm)) E194) Q196 (Nat.le_of_eq g172.symm)) E198) Q200 (Nat.le_of_eq g172.symm)) E202) Q206 (Nat.le_trans (Ext.kp1 (Ext.tr (Ext.kp1 (Ext.tr (Ext.kp1 (Ext.tr (Ext.kp1 (Ext.tr (Ext.kp1 (Ext.tr (Ext.kp1 (Ext.tr (Ext.kp1 (Ext.tr E172 E174) Q176 (Nat.le_of_eq g172.symm)) E178) Q180 (Nat.le_of_eq g172.symm)) E182) Q184 (Nat.le_of_eq g172.symm)) E186) Q188 (Nat.le_of_eq g172.symm)) E190) Q192 (Nat.le_of_eq g172.symm)) E194) Q196 (Nat.le_of_eq g172.symm)) E198) Q200 (Nat.le_of_eq g172.symm)).1 (Nat.le_of_eq g202.symm))) E208) E210)) (F0.ext (Ext.tr (Ext.tr (Ext.kp1 (Ext.tr (Ext.kp1 (Ext.tr (Ext.kp1 (Ext.tr (Ext.kp1 (Ext.tr (Ext.kp1 (Ext.tr (Ext.kp1 (Ext.tr (Ext.kp1 (Ext.tr (Ext.kp1 (Ext.tr E172 E174) Q176 (Nat.le_of_eq g172.symm)) E178) Q180 (Nat.le_of_eq g172.symm)) E182) Q184 (Nat.le_of_eq g172.symm)) E186) Q188 (Nat.le_of_eq g172.symm)) E190) Q192 (Nat.le_of_eq g172.symm)) E194) Q196 (Nat.le_of_eq g172.symm)) E198) Q200 (Nat.le_of_eq g172.symm)) E202) Q206 (Nat.le_trans (Ext.kp1 (Ext.tr (Ext.kp1 (Ext.tr (Ext.kp1 (Ext.tr (Ext.kp1 (Ext.tr (Ext.kp1 (Ext.tr (Ext.kp1 (Ext.tr (Ext.kp1 (Ext.tr E172 E174) Q176 (Nat.le_of_eq g172.symm)) E178) Q180 (Nat.le_of_eq g172.symm)) E182) Q184 (Nat.le_of_eq g172.symm)) E186) Q188 (Nat.le_of_eq g172.symm)) E190) Q192 (Nat.le_of_eq g172.symm)) E194) Q196 (Nat.le_of_eq g172.symm)) E198) Q200 (Nat.le_of_eq g172.symm)).1 (Nat.le_of_eq g202.symm))) E208) E210)) (L0.ext (Ext.tr (Ext.tr (Ext.kp1 (Ext.tr (Ext.kp1 (Ext.tr (Ext.kp1 (Ext.tr (Ext.kp1 (Ext.tr (Ext.kp1 (Ext.tr (Ext.kp1 (Ext.tr (Ext.kp1 (Ext.tr (Ext.kp1 (Ext.tr E172 E174) Q176 (Nat.le_of_eq g172.symm)) E178) Q180 (Nat.le_of_eq g172.symm)) E182) Q184 (Nat.le_of_eq g172.symm)) E186) Q188 (Nat.le_of_eq g172.symm)) E190) Q192 (Nat.le_of_eq g172.symm)) E194) Q196 (Nat.le_of_eq g172.symm)) E198) Q200 (Nat.le_of_eq g172.symm)) E202) Q206 (Nat.le_trans (Ext.kp1 (Ext.tr (Ext.kp1 (Ext.tr (Ext.kp1 (Ext.tr (Ext.kp1 (Ext.tr (Ext.kp1 (Ext.tr (Ext.kp1 (Ext.tr (Ext.kp1 (Ext.tr E172 E174) Q176 (Nat.le_of_eq g172.symm)) E178) Q180 (Nat.le_of_eq g172.symm)) E182) Q184 (Nat.le_of_eq g172.symm)) E186) Q188 (Nat.le_of_eq g172.symm)) E190) Q192 (Nat.le_of_eq g172.symm)) E194) Q196 (Nat.le_of_eq g172.symm)) E198) Q200 (Nat.le_of_eq g172.symm)).1 (Nat.le_of_eq g202.symm))) E208) E210)) (F1.ext (Ext.tr (Ext.tr (Ext.kp1 (Ext.tr (Ext.kp1 (Ext.tr (Ext.kp1 (Ext.tr (Ext.kp1 (Ext.tr (Ext.kp1 (Ext.tr (Ext.kp1 (Ext.tr (Ext.kp1 (Ext.tr (Ext.kp1 (Ext.tr E172 E174) Q176 (Nat.le_of_eq g172.symm)) E178) Q180 (Nat.le_of_eq g172.symm)) E182) Q184 (Nat.le_of_eq g172.symm)) E186) Q188 (Nat.le_of_eq g172.symm)) E190) Q192 (Nat.le_of_eq g172.symm)) E194) Q196 (Nat.le_of_eq g172.symm)) E198) Q200 (Nat.le_of_eq g172.symm)) E202) Q206 (Nat.le_trans (Ext.kp1 (Ext.tr (Ext.kp1 (Ext.tr (Ext.kp1 (Ext.tr (Ext.kp1 (Ext.tr (Ext.kp1 (Ext.tr (Ext.kp1 (Ext.tr (Ext.kp1 (Ext.tr E172 E174) Q176 (Nat.le_of_eq g172.symm)) E178) Q180 (Nat.le_of_eq g172.symm)) E182) Q184 (Nat.le_of_eq g172.symm)) E186) Q188 (Nat.le_of_eq g172.symm)) E190) Q192 (Nat.le_of_eq g172.symm)) E194) Q196 (Nat.le_of_eq g172.symm)) E198) Q200 (Nat.le_of_eq g172.symm)).1 (Nat.le_of_eq g202.symm))) E208) E210)) (L1.ext (Ext.tr (Ext.tr (Ext.kp1 (Ext.tr (Ext.kp1 (Ext.tr (Ext.kp1 (Ext.tr (Ext.kp1 (Ext.tr (Ext.kp1 (Ext.tr (Ext.kp1 (Ext.tr (Ext.kp1 (Ext.tr (Ext.kp1 (Ext.tr E172 E174) Q176 (Nat.le_of_eq g172.symm)) E178) Q180 (Nat.le_of_eq g172.symm)) E182) Q184 (Nat.le_of_eq g172.symm)) E186) Q188 (Nat.le_of_eq g172.symm)) E190) Q192 (Nat.le_of_eq g172.symm)) E194) Q196 (Nat.le_of_eq g172.symm)) E198) Q200 (Nat.le_of_eq g172.symm)) E202) Q206 (Nat.le_trans (Ext.kp1 (Ext.tr (Ext.kp1 (Ext.tr (Ext.kp1 (Ext.tr (Ext.kp1 (Ext.tr (Ext.kp1 (Ext.tr (Ext.kp1 (Ext.tr (Ext.kp1 (Ext.tr E172 E174) Q176 (Nat.le_of_eq g172.symm)) E178) Q180 (Nat.le_of_eq g172.symm)) E182) Q184 (Nat.le_of_eq g172.symm)) E186) Q188 (Nat.le_of_eq g172.symm)) E190) Q192 (Nat.le_of_eq g172.symm)) E194) Q196 (Nat.le_of_eq g172.symm)) E198) Q200 (Nat.le_of_eq g172.symm)).1 (Nat.le_of_eq g202.symm))) E208) E210)) (Sc.ext (Ext.tr (Ext.tr (Ext.kp1 (Ext.tr (Ext.kp1 (Ext.tr (Ext.kp1 (Ext.tr (Ext.kp1 (Ext.tr (Ext.kp1 (Ext.tr (Ext.kp1 (Ext.tr (Ext.kp1 (Ext.tr (Ext.kp1 (Ext.tr E172 E174) Q176 (Nat.le_of_eq g172.symm)) E178) Q180 (Nat.le_of_eq g172.symm)) E182) Q184 (Nat.le_of_eq g172.symm)) E186) Q188 (Nat.le_of_eq g172.symm)) E190) Q192 (Nat.le_of_eq g172.symm)) E194) Q196 (Nat.le_of_eq g172.symm)) E198) Q200 (Nat.le_of_eq g172.symm)) E202) Q206 (Nat.le_trans (Ext.kp1 (Ext.tr (Ext.kp1 (Ext.tr (Ext.kp1 (Ext.tr (Ext.kp1 (Ext.tr (Ext.kp1 (Ext.tr (Ext.kp1 (Ext.tr (Ext.kp1 (Ext.tr E172 E174) Q176 (Nat.le_of_eq g172.symm)) E178) Q180 (Nat.le_of_eq g172.symm)) E182) Q184 (Nat.le_of_eq g172.symm)) E186) Q188 (Nat.le_of_eq g172.symm)) E190) Q192 (Nat.le_of_eq g172.symm)) E194) Q196 (Nat.le_of_eq g172.symm)) E198) Q200 (Nat.le_of_eq g172.symm)).1 (Nat.le_of_eq g202.symm))) E208) E210)) hz (St206.ext (Ext.tr E208 E210))) (hw _ (List.mem_of_getElem? (i := 39) rfl)) (hw _ (List.mem_of_getElem? (i := 38) rfl)) (by decide) (by decide)) (fun _ q => nomatch q) pd5 rfl rfl (Nat.le_of_eq rfl) rfl (by decide) (by decide) (by decide) (fun v213 T213 h213 K213 Q213 q213 => ?_)
            have E213 := Ext.of0 Q213
            have P214 := P211.ext E213
            cases q213
            rw [if_pos hc0]
            refine gAload K213 L_402 (v := (.ref v0)) rfl rfl ?_
            refine gAcmp_ne K213 L_404 rfl rfl (fun q => absurd q (by first | decide | (intro hh; cases hh) | simp)) (fun q404 => ?_)
            refine gIconst K213 (1 : Int32) L_407 rfl ?_
            refine gGoto K213 L_408 ?_
            refine gRetI K213 hlk hret (by simp) L_412 rfl P214 (by decide) (by decide) ?_
            exact rfl
          · skip
            refine gIf_eq K210 L_371 (fun q371 => ?_) (fun q => absurd q (by first | decide | (intro hh; cases hh) | simp))
            refine gAload K210 L_382 (v := (.ref x202)) rfl rfl ?_
            refine gLdc K210 L_384 (hw _ (List.mem_of_getElem? (i := 35) rfl)) (hsA hw) (by decide) (vs := ([(108 : Int32), (111 : Int32), (110 : Int32), (100 : Int32), (111 : Int32), (110 : Int32)].map StrChars.lo8).map Value.int) (z := Int32.ofNat 6) (by decide +kernel) (by decide) (by decide) 24 (by decide) (by decide) (by decide) (by decide) (fun T215 h215 a215 b215 kA215 K215 E215 Ea215 Fc215 Fv215 Ab215 ne215 => ?_)
            have P216 := P211.ext E215
            have Sl215 : StrL Z h215 a215 [(108 : Int32), (111 : Int32), (110 : Int32), (100 : Int32), (111 : Int32), (110 : Int32)] := ⟨b215, kA215, Ea215, Fc215, Fv215, Ab215, by decide, by decide⟩
            refine gCallV K215 (W := 0) (C := "java/lang/String") x202 [(.ref a215)] [] L_386 (hw _ (List.mem_of_getElem? (i := 24) rfl)) (hw _ (List.mem_of_getElem? (i := 25) rfl)) (hw _ (List.mem_of_getElem? (i := 27) rfl)) (hw _ (List.mem_of_getElem? (i := 26) rfl)) (cal_eq hw (W := 0) (St206.ext (Ext.tr (Ext.tr E208 E210) E215)) Sl215 (Sc.ext (Ext.tr (Ext.tr (Ext.tr (Ext.kp1 (Ext.tr (Ext.kp1 (Ext.tr (Ext.kp1 (Ext.tr (Ext.kp1 (Ext.tr (Ext.kp1 (Ext.tr (Ext.kp1 (Ext.tr (Ext.kp1 (Ext.tr (Ext.kp1 (Ext.tr E172 E174) Q176 (Nat.le_of_eq g172.symm)) E178) Q180 (Nat.le_of_eq g172.symm)) E182) Q184 (Nat.le_of_eq g172.symm)) E186) Q188 (Nat.le_of_eq g172.symm)) E190) Q192 (Nat.le_of_eq g172.symm)) E194) Q196 (Nat.le_of_eq g172.symm)) E198) Q200 (Nat.le_of_eq g172.symm)) E202) Q206 (Nat.le_trans (Ext.kp1 (Ext.tr (Ext.kp1 (Ext.tr (Ext.kp1 (Ext.tr (Ext.kp1 (Ext.tr (Ext.kp1 (Ext.tr (Ext.kp1 (Ext.tr (Ext.kp1 (Ext.tr E172 E174) Q176 (Nat.le_of_eq g172.symm)) E178) Q180 (Nat.le_of_eq g172.symm)) E182) Q184 (Nat.le_of_eq g172.symm)) E186) Q188 (Nat.le_of_eq g172.symm)) E190) Q192 (Nat.le_of_eq g172.symm)) E194) Q196 (Nat.le_of_eq g172.symm)) E198) Q200 (Nat.le_of_eq g172.symm)).1 (Nat.le_of_eq g202.symm))) E208) E210) E215)) hz (by decide) (by decide)) ((St206.ext (Ext.tr (Ext.tr E208 E210) E215))).exa (fun _ q => nomatch q) pd1 rfl rfl (Nat.le_of_eq rfl) rfl (by decide) (by decide) (by decide) (fun v217 T217 h217 K217 Q217 q217 => ?_)
            have E217 := Ext.of0 Q217
            have P218 := P216.ext E217
            rcases q217 with ⟨rfl, hc1⟩ | ⟨rfl, hc1⟩
            · skip
              refine gIf_eq K217 L_389 (fun q => absurd q (by first | decide | (intro hh; cases hh) | simp)) (fun q389 => ?_)
              refine gGetS K217 L_392 (hw _ (List.mem_of_getElem? (i := 94) rfl)) (S1.ext (Ext.tr (Ext.tr (Ext.tr (Ext.tr (Ext.kp1 (Ext.tr (Ext.kp1 (Ext.tr (Ext.kp1 (Ext.tr (Ext.kp1 (Ext.tr (Ext.kp1 (Ext.tr (Ext.kp1 (Ext.tr (Ext.kp1 (Ext.tr (Ext.kp1 (Ext.tr E172 E174) Q176 (Nat.le_of_eq g172.symm)) E178) Q180 (Nat.le_of_eq g172.symm)) E182) Q184 (Nat.le_of_eq g172.symm)) E186) Q188 (Nat.le_of_eq g172.symm)) E190) Q192 (Nat.le_of_eq g172.symm)) E194) Q196 (Nat.le_of_eq g172.symm)) E198) Q200 (Nat.le_of_eq g172.symm)) E202) Q206 (Nat.le_trans (Ext.kp1 (Ext.tr (Ext.kp1 (Ext.tr (Ext.kp1 (Ext.tr (Ext.kp1 (Ext.tr (Ext.kp1 (Ext.tr (Ext.kp1 (Ext.tr (Ext.kp1 (Ext.tr E172 E174) Q176 (Nat.le_of_eq g172.symm)) E178) Q180 (Nat.le_of_eq g172.symm)) E182) Q184 (Nat.le_of_eq g172.symm)) E186) Q188 (Nat.le_of_eq g172.symm)) E190) Q192 (Nat.le_of_eq g172.symm)) E194) Q196 (Nat.le_of_eq g172.symm)) E198) Q200 (Nat.le_of_eq g172.symm)).1 (Nat.le_of_eq g202.symm))) E208) E210) E215) E217)) (fun T219 K219 => ?_)
              refine gAstore K219 L_395 rfl (Ls' := #[.val (.int pick), .val (.int shape), .val (.int pos), .val (.int chh), .val (.int ext), .val (.int wh), .val (.int (6 : Int32)), .val (.int (shape &&& (3 : Int32))), .val (.int (7 : Int32)), .val (.int sb), .val (.int pp), .val (.int c_), .val (.int e_), .val (.ref x172), .val (.ref x202), .val (.ref v1)]) rfl ?_
              refine gAload K219 L_397 (v := (.ref x202)) rfl rfl ?_
              refine gCallS K219 (W := 0) [(.ref x202)] [] L_399 (hw _ (List.mem_of_getElem? (i := 36) rfl)) (hw _ (List.mem_of_getElem? (i := 37) rfl)) (hw _ (List.mem_of_getElem? (i := 38) rfl)) (hw _ (List.mem_of_getElem? (i := 39) rfl)) (Cal.ofN (W := 0) (c_look l Z a0 hw h217 n0 K219.n0le x202 cs va kV dv v0 l0 v1 l1 z (Sv.ext (Ext.tr (Ext.tr (Ext.tr (Ext.tr (Ext.kp1 (Ext.tr (Ext.kp1 (Ext.tr (Ext.kp1 (Ext.tr (Ext.kp1 (Ext.tr (Ext.kp1 (Ext.tr (Ext.kp1 (Ext.tr (Ext.kp1 (Ext.tr (Ext.kp1 (Ext.tr E172 E174) Q176 (Nat.le_of_eq g172.symm)) E178) Q180 (Nat.le_of_eq g172.symm)) E182) Q184 (Nat.le_of_eq g172.symm)) E186) Q188 (Nat.le_of_eq g172.symm)) E190) Q192 (Nat.le_of_eq g172.symm)) E194) Q196 (Nat.le_of_eq g172.symm)) E198) Q200 (Nat.le_of_eq g172.symm)) E202) Q206 (Nat.le_trans (Ext.kp1 (Ext.tr (Ext.kp1 (Ext.tr (Ext.kp1 (Ext.tr (Ext.kp1 (Ext.tr (Ext.kp1 (Ext.tr (Ext.kp1 (Ext.tr (Ext.kp1 (Ext.tr E172 E174) Q176 (Nat.le_of_eq g172.symm)) E178) Q180 (Nat.le_of_eq g172.symm)) E182) Q184 (Nat.le_of_eq g172.symm)) E186) Q188 (Nat.le_of_eq g172.symm)) E190) Q192 (Nat.le_of_eq g172.symm)) E194) Q196 (Nat.le_of_eq g172.symm)) E198) Q200 (Nat.le_of_eq g172.symm)).1 (Nat.le_of_eq g202.symm))) E208) E210) E215) E217)) (Av.ext (Ext.tr (Ext.tr (Ext.tr (Ext.tr (Ext.kp1 (Ext.tr (Ext.kp1 (Ext.tr (Ext.kp1 (Ext.tr (Ext.kp1 (Ext.tr (Ext.kp1 (Ext.tr (Ext.kp1 (Ext.tr (Ext.kp1 (Ext.tr (Ext.kp1 (Ext.tr E172 E174) Q176 (Nat.le_of_eq g172.symm)) E178) Q180 (Nat.le_of_eq g172.symm)) E182) Q184 (Nat.le_of_eq g172.symm)) E186) Q188 (Nat.le_of_eq g172.symm)) E190) Q192 (Nat.le_of_eq g172.symm)) E194) Q196 (Nat.le_of_eq g172.symm)) E198) Q200 (Nat.le_of_eq g172.symm)) E202) Q206 (Nat.le_trans (Ext.kp1 (Ext.tr (Ext.kp1 (Ext.tr (Ext.kp1 (Ext.tr (Ext.kp1 (Ext.tr (Ext.kp1 (Ext.tr (Ext.kp1 (Ext.tr (Ext.kp1 (Ext.tr E172 E174) Q176 (Nat.le_of_eq g172.symm)) E178) Q180 (Nat.le_of_eq g172.symm)) E182) Q184 (Nat.le_of_eq g172.symm)) E186) Q188 (Nat.le_of_eq g172.symm)) E190) Q192 (Nat.le_of_eq g172.symm)) E194) Q196 (Nat.le_of_eq g172.symm)) E198) Q200 (Nat.le_of_eq g172.symm)).1 (Nat.le_of_eq g202.symm))) E208) E210) E215) E217)) (Ev.ext (Ext.tr (Ext.tr (Ext.tr (Ext.tr (Ext.kp1 (Ext.tr (Ext.kp1 (Ext.tr (Ext.kp1 (Ext.tr (Ext.kp1 (Ext.tr (Ext.kp1 (Ext.tr (Ext.kp1 (Ext.tr (Ext.kp1 (Ext.tr (Ext.kp1 (Ext.tr E172 E174) Q176 (Nat.le_of_eq g172.symm)) E178) Q180 (Nat.le_of_eq g172.symm)) E182) Q184 (Nat.le_of_eq g172.symm)) E186) Q188 (Nat.le_of_eq g172.symm)) E190) Q192 (Nat.le_of_eq g172.symm)) E194) Q196 (Nat.le_of_eq g172.symm)) E198) Q200 (Nat.le_of_eq g172.symm)) E202) Q206 (Nat.le_trans (Ext.kp1 (Ext.tr (Ext.kp1 (Ext.tr (Ext.kp1 (Ext.tr (Ext.kp1 (Ext.tr (Ext.kp1 (Ext.tr (Ext.kp1 (Ext.tr (Ext.kp1 (Ext.tr E172 E174) Q176 (Nat.le_of_eq g172.symm)) E178) Q180 (Nat.le_of_eq g172.symm)) E182) Q184 (Nat.le_of_eq g172.symm)) E186) Q188 (Nat.le_of_eq g172.symm)) E190) Q192 (Nat.le_of_eq g172.symm)) E194) Q196 (Nat.le_of_eq g172.symm)) E198) Q200 (Nat.le_of_eq g172.symm)).1 (Nat.le_of_eq g202.symm))) E208) E210) E215) E217)) (F0.ext (Ext.tr (Ext.tr (Ext.tr (Ext.tr (Ext.kp1 (Ext.tr (Ext.kp1 (Ext.tr (Ext.kp1 (Ext.tr (Ext.kp1 (Ext.tr (Ext.kp1 (Ext.tr (Ext.kp1 (Ext.tr (Ext.kp1 (Ext.tr (Ext.kp1 (Ext.tr E172 E174) Q176 (Nat.le_of_eq g172.symm)) E178) Q180 (Nat.le_of_eq g172.symm)) E182) Q184 (Nat.le_of_eq g172.symm)) E186) Q188 (Nat.le_of_eq g172.symm)) E190) Q192 (Nat.le_of_eq g172.symm)) E194) Q196 (Nat.le_of_eq g172.symm)) E198) Q200 (Nat.le_of_eq g172.symm)) E202) Q206 (Nat.le_trans (Ext.kp1 (Ext.tr (Ext.kp1 (Ext.tr (Ext.kp1 (Ext.tr (Ext.kp1 (Ext.tr (Ext.kp1 (Ext.tr (Ext.kp1 (Ext.tr (Ext.kp1 (Ext.tr E172 E174) Q176 (Nat.le_of_eq g172.symm)) E178) Q180 (Nat.le_of_eq g172.symm)) E182) Q184 (Nat.le_of_eq g172.symm)) E186) Q188 (Nat.le_of_eq g172.symm)) E190) Q192 (Nat.le_of_eq g172.symm)) E194) Q196 (Nat.le_of_eq g172.symm)) E198) Q200 (Nat.le_of_eq g172.symm)).1 (Nat.le_of_eq g202.symm))) E208) E210) E215) E217)) (L0.ext (Ext.tr (Ext.tr (Ext.tr (Ext.tr (Ext.kp1 (Ext.tr (Ext.kp1 (Ext.tr (Ext.kp1 (Ext.tr (Ext.kp1 (Ext.tr (Ext.kp1 (Ext.tr (Ext.kp1 (Ext.tr (Ext.kp1 (Ext.tr (Ext.kp1 (Ext.tr E172 E174) Q176 (Nat.le_of_eq g172.symm)) E178) Q180 (Nat.le_of_eq g172.symm)) E182) Q184 (Nat.le_of_eq g172.symm)) E186) Q188 (Nat.le_of_eq g172.symm)) E190) Q192 (Nat.le_of_eq g172.symm)) E194) Q196 (Nat.le_of_eq g172.symm)) E198) Q200 (Nat.le_of_eq g172.symm)) E202) Q206 (Nat.le_trans (Ext.kp1 (Ext.tr (Ext.kp1 (Ext.tr (Ext.kp1 (Ext.tr (Ext.kp1 (Ext.tr (Ext.kp1 (Ext.tr (Ext.kp1 (Ext.tr (Ext.kp1 (Ext.tr E172 E174) Q176 (Nat.le_of_eq g172.symm)) E178) Q180 (Nat.le_of_eq g172.symm)) E182) Q184 (Nat.le_of_eq g172.symm)) E186) Q188 (Nat.le_of_eq g172.symm)) E190) Q192 (Nat.le_of_eq g172.symm)) E194) Q196 (Nat.le_of_eq g172.symm)) E198) Q200 (Nat.le_of_eq g172.symm)).1 (Nat.le_of_eq g202.symm))) E208) E210) E215) E217)) (F1.ext (Ext.tr (Ext.tr (Ext.tr (Ext.tr (Ext.kp1 (Ext.tr (Ext.kp1 (Ext.tr (Ext.kp1 (Ext.tr (Ext.kp1 (Ext.tr (Ext.kp1 (Ext.tr (Ext.kp1 (Ext.tr (Ext.kp1 (Ext.tr (Ext.kp1 (Ext.tr E172 E174) Q176 (Nat.le_of_eq g172.symm)) E178) Q180 (Nat.le_of_eq g172.symm)) E182) Q184 (Nat.le_of_eq g172.symm)) E186) Q188 (Nat.le_of_eq g172.symm)) E190) Q192 (Nat.le_of_eq g172.symm)) E194) Q196 (Nat.le_of_eq g172.symm)) E198) Q200 (Nat.le_of_eq g172.symm)) E202) Q206 (Nat.le_trans (Ext.kp1 (Ext.tr (Ext.kp1 (Ext.tr (Ext.kp1 (Ext.tr (Ext.kp1 (Ext.tr (Ext.kp1 (Ext.tr (Ext.kp1 (Ext.tr (Ext.kp1 (Ext.tr E172 E174) Q176 (Nat.le_of_eq g172.symm)) E178) Q180 (Nat.le_of_eq g172.symm)) E182) Q184 (Nat.le_of_eq g172.symm)) E186) Q188 (Nat.le_of_eq g172.symm)) E190) Q192 (Nat.le_of_eq g172.symm)) E194) Q196 (Nat.le_of_eq g172.symm)) E198) Q200 (Nat.le_of_eq g172.symm)).1 (Nat.le_of_eq g202.symm))) E208) E210) E215) E217)) (L1.ext (Ext.tr (Ext.tr (Ext.tr (Ext.tr (Ext.kp1 (Ext.tr (Ext.kp1 (Ext.tr (Ext.kp1 (Ext.tr (Ext.kp1 (Ext.tr (Ext.kp1 (Ext.tr (Ext.kp1 (Ext.tr (Ext.kp1 (Ext.tr (Ext.kp1 (Ext.tr E172 E174) Q176 (Nat.le_of_eq g172.symm)) E178) Q180 (Nat.le_of_eq g172.symm)) E182) Q184 (Nat.le_of_eq g172.symm)) E186) Q188 (Nat.le_of_eq g172.symm)) E190) Q192 (Nat.le_of_eq g172.symm)) E194) Q196 (Nat.le_of_eq g172.symm)) E198) Q200 (Nat.le_of_eq g172.symm)) E202) Q206 (Nat.le_trans (Ext.kp1 (Ext.tr (Ext.kp1 (Ext.tr (Ext.kp1 (Ext.tr (Ext.kp1 (Ext.tr (Ext.kp1 (Ext.tr (Ext.kp1 (Ext.tr (Ext.kp1 (Ext.tr E172 E174) Q176 (Nat.le_of_eq g172.symm)) E178) Q180 (Nat.le_of_eq g172.symm)) E182) Q184 (Nat.le_of_eq g172.symm)) E186) Q188 (Nat.le_of_eq g172.symm)) E190) Q192 (Nat.le_of_eq g172.symm)) E194) Q196 (Nat.le_of_eq g172.symm)) E198) Q200 (Nat.le_of_eq g172.symm)).1 (Nat.le_of_eq g202.symm))) E208) E210) E215) E217)) (Sc.ext (Ext.tr (Ext.tr (Ext.tr (Ext.tr (Ext.kp1 (Ext.tr (Ext.kp1 (Ext.tr (Ext.kp1 (Ext.tr (Ext.kp1 (Ext.tr (Ext.kp1 (Ext.tr (Ext.kp1 (Ext.tr (Ext.kp1 (Ext.tr (Ext.kp1 (Ext.tr E172 E174) Q176 (Nat.le_of_eq g172.symm)) E178) Q180 (Nat.le_of_eq g172.symm)) E182) Q184 (Nat.le_of_eq g172.symm)) E186) Q188 (Nat.le_of_eq g172.symm)) E190) Q192 (Nat.le_of_eq g172.symm)) E194) Q196 (Nat.le_of_eq g172.symm)) E198) Q200 (Nat.le_of_eq g172.symm)) E202) Q206 (Nat.le_trans (Ext.kp1 (Ext.tr (Ext.kp1 (Ext.tr (Ext.kp1 (Ext.tr (Ext.kp1 (Ext.tr (Ext.kp1 (Ext.tr (Ext.kp1 (Ext.tr (Ext.kp1 (Ext.tr E172 E174) Q176 (Nat.le_of_eq g172.symm)) E178) Q180 (Nat.le_of_eq g172.symm)) E182) Q184 (Nat.le_of_eq g172.symm)) E186) Q188 (Nat.le_of_eq g172.symm)) E190) Q192 (Nat.le_of_eq g172.symm)) E194) Q196 (Nat.le_of_eq g172.symm)) E198) Q200 (Nat.le_of_eq g172.symm)).1 (Nat.le_of_eq g202.symm))) E208) E210) E215) E217)) hz (St206.ext (Ext.tr (Ext.tr (Ext.tr E208 E210) E215) E217))) (hw _ (List.mem_of_getElem? (i := 39) rfl)) (hw _ (List.mem_of_getElem? (i := 38) rfl)) (by decide) (by decide)) (fun _ q => nomatch q) pd5 rfl rfl (Nat.le_of_eq rfl) rfl (by decide) (by decide) (by decide) (fun v220 T220 h220 K220 Q220 q220 => ?_)
              have E220 := Ext.of0 Q220
              have P221 := P218.ext E220
              cases q220
              rw [if_neg hc0, if_pos hc1]
              refine gAload K220 L_402 (v := (.ref v1)) rfl rfl ?_
              refine gAcmp_ne K220 L_404 rfl rfl (fun q => absurd q (by first | decide | (intro hh; cases hh) | simp)) (fun q404 => ?_)
              refine gIconst K220 (1 : Int32) L_407 rfl ?_
              refine gGoto K220 L_408 ?_
              refine gRetI K220 hlk hret (by simp) L_412 rfl P221 (by decide) (by decide) ?_
              exact rfl
            · skip
              refine gIf_eq K217 L_389 (fun q389 => ?_) (fun q => absurd q (by first | decide | (intro hh; cases hh) | simp))
              refine gAload K217 L_397 (v := (.ref x202)) rfl rfl ?_
              refine gCallS K217 (W := 0) [(.ref x202)] [] L_399 (hw _ (List.mem_of_getElem? (i := 36) rfl)) (hw _ (List.mem_of_getElem? (i := 37) rfl)) (hw _ (List.mem_of_getElem? (i := 38) rfl)) (hw _ (List.mem_of_getElem? (i := 39) rfl)) (Cal.ofN (W := 0) (c_look l Z a0 hw h217 n0 K217.n0le x202 cs va kV dv v0 l0 v1 l1 z (Sv.ext (Ext.tr (Ext.tr (Ext.tr (Ext.tr (Ext.kp1 (Ext.tr (Ext.kp1 (Ext.tr (Ext.kp1 (Ext.tr (Ext.kp1 (Ext.tr (Ext.kp1 (Ext.tr (Ext.kp1 (Ext.tr (Ext.kp1 (Ext.tr (Ext.kp1 (Ext.tr E172 E174) Q176 (Nat.le_of_eq g172.symm)) E178) Q180 (Nat.le_of_eq g172.symm)) E182) Q184 (Nat.le_of_eq g172.symm)) E186) Q188 (Nat.le_of_eq g172.symm)) E190) Q192 (Nat.le_of_eq g172.symm)) E194) Q196 (Nat.le_of_eq g172.symm)) E198) Q200 (Nat.le_of_eq g172.symm)) E202) Q206 (Nat.le_trans (Ext.kp1 (Ext.tr (Ext.kp1 (Ext.tr (Ext.kp1 (Ext.tr (Ext.kp1 (Ext.tr (Ext.kp1 (Ext.tr (Ext.kp1 (Ext.tr (Ext.kp1 (Ext.tr E172 E174) Q176 (Nat.le_of_eq g172.symm)) E178) Q180 (Nat.le_of_eq g172.symm)) E182) Q184 (Nat.le_of_eq g172.symm)) E186) Q188 (Nat.le_of_eq g172.symm)) E190) Q192 (Nat.le_of_eq g172.symm)) E194) Q196 (Nat.le_of_eq g172.symm)) E198) Q200 (Nat.le_of_eq g172.symm)).1 (Nat.le_of_eq g202.symm))) E208) E210) E215) E217)) (Av.ext (Ext.tr (Ext.tr (Ext.tr (Ext.tr (Ext.kp1 (Ext.tr (Ext.kp1 (Ext.tr (Ext.kp1 (Ext.tr (Ext.kp1 (Ext.tr (Ext.kp1 (Ext.tr (Ext.kp1 (Ext.tr (Ext.kp1 (Ext.tr (Ext.kp1 (Ext.tr E172 E174) Q176 (Nat.le_of_eq g172.symm)) E178) Q180 (Nat.le_of_eq g172.symm)) E182) Q184 (Nat.le_of_eq g172.symm)) E186) Q188 (Nat.le_of_eq g172.symm)) E190) Q192 (Nat.le_of_eq g172.symm)) E194) Q196 (Nat.le_of_eq g172.symm)) E198) Q200 (Nat.le_of_eq g172.symm)) E202) Q206 (Nat.le_trans (Ext.kp1 (Ext.tr (Ext.kp1 (Ext.tr (Ext.kp1 (Ext.tr (Ext.kp1 (Ext.tr (Ext.kp1 (Ext.tr (Ext.kp1 (Ext.tr (Ext.kp1 (Ext.tr E172 E174) Q176 (Nat.le_of_eq g172.symm)) E178) Q180 (Nat.le_of_eq g172.symm)) E182) Q184 (Nat.le_of_eq g172.symm)) E186) Q188 (Nat.le_of_eq g172.symm)) E190) Q192 (Nat.le_of_eq g172.symm)) E194) Q196 (Nat.le_of_eq g172.symm)) E198) Q200 (Nat.le_of_eq g172.symm)).1 (Nat.le_of_eq g202.symm))) E208) E210) E215) E217)) (Ev.ext (Ext.tr (Ext.tr (Ext.tr (Ext.tr (Ext.kp1 (Ext.tr (Ext.kp1 (Ext.tr (Ext.kp1 (Ext.tr (Ext.kp1 (Ext.tr (Ext.kp1 (Ext.tr (Ext.kp1 (Ext.tr (Ext.kp1 (Ext.tr (Ext.kp1 (Ext.tr E172 E174) Q176 (Nat.le_of_eq g172.symm)) E178) Q180 (Nat.le_of_eq g172.symm)) E182) Q184 (Nat.le_of_eq g172.symm)) E186) Q188 (Nat.le_of_eq g172.symm)) E190) Q192 (Nat.le_of_eq g172.symm)) E194) Q196 (Nat.le_of_eq g172.symm)) E198) Q200 (Nat.le_of_eq g172.symm)) E202) Q206 (Nat.le_trans (Ext.kp1 (Ext.tr (Ext.kp1 (Ext.tr (Ext.kp1 (Ext.tr (Ext.kp1 (Ext.tr (Ext.kp1 (Ext.tr (Ext.kp1 (Ext.tr (Ext.kp1 (Ext.tr E172 E174) Q176 (Nat.le_of_eq g172.symm)) E178) Q180 (Nat.le_of_eq g172.symm)) E182) Q184 (Nat.le_of_eq g172.symm)) E186) Q188 (Nat.le_of_eq g172.symm)) E190) Q192 (Nat.le_of_eq g172.symm)) E194) Q196 (Nat.le_of_eq g172.symm)) E198) Q200 (Nat.le_of_eq g172.symm)).1 (Nat.le_of_eq g202.symm))) E208) E210) E215) E217)) (F0.ext (Ext.tr (Ext.tr (Ext.tr (Ext.tr (Ext.kp1 (Ext.tr (Ext.kp1 (Ext.tr (Ext.kp1 (Ext.tr (Ext.kp1 (Ext.tr (Ext.kp1 (Ext.tr (Ext.kp1 (Ext.tr (Ext.kp1 (Ext.tr (Ext.kp1 (Ext.tr E172 E174) Q176 (Nat.le_of_eq g172.symm)) E178) Q180 (Nat.le_of_eq g172.symm)) E182) Q184 (Nat.le_of_eq g172.symm)) E186) Q188 (Nat.le_of_eq g172.symm)) E190) Q192 (Nat.le_of_eq g172.symm)) E194) Q196 (Nat.le_of_eq g172.symm)) E198) Q200 (Nat.le_of_eq g172.symm)) E202) Q206 (Nat.le_trans (Ext.kp1 (Ext.tr (Ext.kp1 (Ext.tr (Ext.kp1 (Ext.tr (Ext.kp1 (Ext.tr (Ext.kp1 (Ext.tr (Ext.kp1 (Ext.tr (Ext.kp1 (Ext.tr E172 E174) Q176 (Nat.le_of_eq g172.symm)) E178) Q180 (Nat.le_of_eq g172.symm)) E182) Q184 (Nat.le_of_eq g172.symm)) E186) Q188 (Nat.le_of_eq g172.symm)) E190) Q192 (Nat.le_of_eq g172.symm)) E194) Q196 (Nat.le_of_eq g172.symm)) E198) Q200 (Nat.le_of_eq g172.symm)).1 (Nat.le_of_eq g202.symm))) E208) E210) E215) E217)) (L0.ext (Ext.tr (Ext.tr (Ext.tr (Ext.tr (Ext.kp1 (Ext.tr (Ext.kp1 (Ext.tr (Ext.kp1 (Ext.tr (Ext.kp1 (Ext.tr (Ext.kp1 (Ext.tr (Ext.kp1 (Ext.tr (Ext.kp1 (Ext.tr (Ext.kp1 (Ext.tr E172 E174) Q176 (Nat.le_of_eq g172.symm)) E178) Q180 (Nat.le_of_eq g172.symm)) E182) Q184 (Nat.le_of_eq g172.symm)) E186) Q188 (Nat.le_of_eq g172.symm)) E190) Q192 (Nat.le_of_eq g172.symm)) E194) Q196 (Nat.le_of_eq g172.symm)) E198) Q200 (Nat.le_of_eq g172.symm)) E202) Q206 (Nat.le_trans (Ext.kp1 (Ext.tr (Ext.kp1 (Ext.tr (Ext.kp1 (Ext.tr (Ext.kp1 (Ext.tr (Ext.kp1 (Ext.tr (Ext.kp1 (Ext.tr (Ext.kp1 (Ext.tr E172 E174) Q176 (Nat.le_of_eq g172.symm)) E178) Q180 (Nat.le_of_eq g172.symm)) E182) Q184 (Nat.le_of_eq g172.symm)) E186) Q188 (Nat.le_of_eq g172.symm)) E190) Q192 (Nat.le_of_eq g172.symm)) E194) Q196 (Nat.le_of_eq g172.symm)) E198) Q200 (Nat.le_of_eq g172.symm)).1 (Nat.le_of_eq g202.symm))) E208) E210) E215) E217)) (F1.ext (Ext.tr (Ext.tr (Ext.tr (Ext.tr (Ext.kp1 (Ext.tr (Ext.kp1 (Ext.tr (Ext.kp1 (Ext.tr (Ext.kp1 (Ext.tr (Ext.kp1 (Ext.tr (Ext.kp1 (Ext.tr (Ext.kp1 (Ext.tr (Ext.kp1 (Ext.tr E172 E174) Q176 (Nat.le_of_eq g172.symm)) E178) Q180 (Nat.le_of_eq g172.symm)) E182) Q184 (Nat.le_of_eq g172.symm)) E186) Q188 (Nat.le_of_eq g172.symm)) E190) Q192 (Nat.le_of_eq g172.symm)) E194) Q196 (Nat.le_of_eq g172.symm)) E198) Q200 (Nat.le_of_eq g172.symm)) E202) Q206 (Nat.le_trans (Ext.kp1 (Ext.tr (Ext.kp1 (Ext.tr (Ext.kp1 (Ext.tr (Ext.kp1 (Ext.tr (Ext.kp1 (Ext.tr (Ext.kp1 (Ext.tr (Ext.kp1 (Ext.tr E172 E174) Q176 (Nat.le_of_eq g172.symm)) E178) Q180 (Nat.le_of_eq g172.symm)) E182) Q184 (Nat.le_of_eq g172.symm)) E186) Q188 (Nat.le_of_eq g172.symm)) E190) Q192 (Nat.le_of_eq g172.symm)) E194) Q196 (Nat.le_of_eq g172.symm)) E198) Q200 (Nat.le_of_eq g172.symm)).1 (Nat.le_of_eq g202.symm))) E208) E210) E215) E217)) (L1.ext (Ext.tr (Ext.tr (Ext.tr (Ext.tr (Ext.kp1 (Ext.tr (Ext.kp1 (Ext.tr (Ext.kp1 (Ext.tr (Ext.kp1 (Ext.tr (Ext.kp1 (Ext.tr (Ext.kp1 (Ext.tr (Ext.kp1 (Ext.tr (Ext.kp1 (Ext.tr E172 E174) Q176 (Nat.le_of_eq g172.symm)) E178) Q180 (Nat.le_of_eq g172.symm)) E182) Q184 (Nat.le_of_eq g172.symm)) E186) Q188 (Nat.le_of_eq g172.symm)) E190) Q192 (Nat.le_of_eq g172.symm)) E194) Q196 (Nat.le_of_eq g172.symm)) E198) Q200 (Nat.le_of_eq g172.symm)) E202) Q206 (Nat.le_trans (Ext.kp1 (Ext.tr (Ext.kp1 (Ext.tr (Ext.kp1 (Ext.tr (Ext.kp1 (Ext.tr (Ext.kp1 (Ext.tr (Ext.kp1 (Ext.tr (Ext.kp1 (Ext.tr E172 E174) Q176 (Nat.le_of_eq g172.symm)) E178) Q180 (Nat.le_of_eq g172.symm)) E182) Q184 (Nat.le_of_eq g172.symm)) E186) Q188 (Nat.le_of_eq g172.symm)) E190) Q192 (Nat.le_of_eq g172.symm)) E194) Q196 (Nat.le_of_eq g172.symm)) E198) Q200 (Nat.le_of_eq g172.symm)).1 (Nat.le_of_eq g202.symm))) E208) E210) E215) E217)) (Sc.ext (Ext.tr (Ext.tr (Ext.tr (Ext.tr (Ext.kp1 (Ext.tr (Ext.kp1 (Ext.tr (Ext.kp1 (Ext.tr (Ext.kp1 (Ext.tr (Ext.kp1 (Ext.tr (Ext.kp1 (Ext.tr (Ext.kp1 (Ext.tr (Ext.kp1 (Ext.tr E172 E174) Q176 (Nat.le_of_eq g172.symm)) E178) Q180 (Nat.le_of_eq g172.symm)) E182) Q184 (Nat.le_of_eq g172.symm)) E186) Q188 (Nat.le_of_eq g172.symm)) E190) Q192 (Nat.le_of_eq g172.symm)) E194) Q196 (Nat.le_of_eq g172.symm)) E198) Q200 (Nat.le_of_eq g172.symm)) E202) Q206 (Nat.le_trans (Ext.kp1 (Ext.tr (Ext.kp1 (Ext.tr (Ext.kp1 (Ext.tr (Ext.kp1 (Ext.tr (Ext.kp1 (Ext.tr (Ext.kp1 (Ext.tr (Ext.kp1 (Ext.tr E172 E174) Q176 (Nat.le_of_eq g172.symm)) E178) Q180 (Nat.le_of_eq g172.symm)) E182) Q184 (Nat.le_of_eq g172.symm)) E186) Q188 (Nat.le_of_eq g172.symm)) E190) Q192 (Nat.le_of_eq g172.symm)) E194) Q196 (Nat.le_of_eq g172.symm)) E198) Q200 (Nat.le_of_eq g172.symm)).1 (Nat.le_of_eq g202.symm))) E208) E210) E215) E217)) hz (St206.ext (Ext.tr (Ext.tr (Ext.tr E208 E210) E215) E217))) (hw _ (List.mem_of_getElem? (i := 39) rfl)) (hw _ (List.mem_of_getElem? (i := 38) rfl)) (by decide) (by decide)) (fun _ q => nomatch q) pd5 rfl rfl (Nat.le_of_eq rfl) rfl (by decide) (by decide) (by decide) (fun v222 T222 h222 K222 Q222 q222 => ?_)
              have E222 := Ext.of0 Q222
              have P223 := P218.ext E222
              cases q222
              rw [if_neg hc0, if_neg hc1]
              refine gAload K222 L_402 (v := .null) rfl rfl ?_
              refine gAcmp_ne K222 L_404 rfl rfl (fun q => absurd q (by first | decide | (intro hh; cases hh) | simp)) (fun q404 => ?_)
              refine gIconst K222 (1 : Int32) L_407 rfl ?_
              refine gGoto K222 L_408 ?_
              refine gRetI K222 hlk hret (by simp) L_412 rfl P223 (by decide) (by decide) ?_
              exact rfl
        refine gIloadN K0 L_63 (v := shape) rfl ?_
        refine gIconst K0 (4 : Int32) L_64 rfl ?_
        refine gIand K0 L_65 ?_
        refine gIf_eq K0 L_66 (fun q66 => ?_) (fun q66 => ?_)
        · skip
          refine gIconst K0 (0 : Int32) L_73 rfl ?_
          exact j74 _ K0 (0 : Int32)
        · skip
          refine gIconst K0 (1 : Int32) L_69 rfl ?_
          refine gGoto K0 L_70 ?_
          exact j74 _ K0 (1 : Int32)
    · skip
      refine gIload K0 L_29 (v := (6 : Int32)) rfl ?_
      refine gGoto K0 L_31 ?_
      refine gIstore K0 L_61 (Ls' := #[.val (.int pick), .val (.int shape), .val (.int pos), .val (.int chh), .val (.int ext), .val (.int wh), .val (.int (6 : Int32)), .val (.int (shape &&& (3 : Int32))), .val (.int (6 : Int32)), .unset, .unset, .unset, .unset, .unset, .unset, .unset]) rfl ?_
      have j74 : ∀ (T224 : State) (K224 : Cx p l e room_1 s m #[(.int pick), (.int shape), (.int pos), (.int chh), (.int ext)] below meth c code maxLocals Z "com/example/tranche/tranche/calendar/CityFromLabelPinLaw" n0 (some [("com/example/tranche/tranche/calendar/CityFromLabelPinLaw", 19), ("com/example/tranche/tranche/calendar/CityFromLabelPinLaw", 31), ("java/lang/String", 7)]) T224 h0 [] 0 0) (sb : Int32), Go p e below (End (some [("com/example/tranche/tranche/calendar/CityFromLabelPinLaw", 19), ("com/example/tranche/tranche/calendar/CityFromLabelPinLaw", 31), ("java/lang/String", 7)]) s Z n0 h0 [] room_1.cells room_1.slots (fun v h => v = some (.int 1))) T224 (mkF m 74 #[.val (.int pick), .val (.int shape), .val (.int pos), .val (.int chh), .val (.int ext), .val (.int wh), .val (.int (6 : Int32)), .val (.int (shape &&& (3 : Int32))), .val (.int (6 : Int32)), .unset, .unset, .unset, .unset, .unset, .unset, .unset] [(.int sb)]) := by
        intro T224 K224 sb
        refine gIstore K224 L_74 (Ls' := #[.val (.int pick), .val (.int shape), .val (.int pos), .val (.int chh), .val (.int ext), .val (.int wh), .val (.int (6 : Int32)), .val (.int (shape &&& (3 : Int32))), .val (.int (6 : Int32)), .val (.int sb), .unset, .unset, .unset, .unset, .unset, .unset]) rfl ?_
        refine gIloadN K224 L_76 (v := pos) rfl ?_
        refine gLdcI K224 (2147483647 : Int32) L_77 (hw _ (List.mem_of_getElem? (i := 0) rfl)) ?_
        refine gIand K224 L_79 ?_
        refine gBipush K224 (9 : Int32) L_80 rfl ?_
        refine gIrem K224 L_82 (by decide) ?_
        generalize ((pos &&& (2147483647 : Int32)) % (9 : Int32)) = pp
        refine gIstore K224 L_83 (Ls' := #[.val (.int pick), .val (.int shape), .val (.int pos), .val (.int chh), .val (.int ext), .val (.int wh), .val (.int (6 : Int32)), .val (.int (shape &&& (3 : Int32))), .val (.int (6 : Int32)), .val (.int sb), .val (.int pp), .unset, .unset, .unset, .unset, .unset]) rfl ?_
        refine gIloadN K224 L_85 (v := chh) rfl ?_
        refine gSipush K224 (255 : Int32) L_86 rfl ?_
        refine gIand K224 L_89 ?_
        refine gI2c K224 L_90 ?_
        have hb_c_ := and255c chh
        generalize ((chh &&& (255 : Int32))).toUInt32.toUInt16.toUInt32.toInt32 = c_ at hb_c_ ⊢
        refine gIstore K224 L_91 (Ls' := #[.val (.int pick), .val (.int shape), .val (.int pos), .val (.int chh), .val (.int ext), .val (.int wh), .val (.int (6 : Int32)), .val (.int (shape &&& (3 : Int32))), .val (.int (6 : Int32)), .val (.int sb), .val (.int pp), .val (.int c_), .unset, .unset, .unset, .unset]) rfl ?_
        refine gIload K224 L_93 (v := ext) rfl ?_
        refine gSipush K224 (255 : Int32) L_95 rfl ?_
        refine gIand K224 L_98 ?_
        refine gI2c K224 L_99 ?_
        have hb_e_ := and255c ext
        generalize ((ext &&& (255 : Int32))).toUInt32.toUInt16.toUInt32.toInt32 = e_ at hb_e_ ⊢
        refine gIstore K224 L_100 (Ls' := #[.val (.int pick), .val (.int shape), .val (.int pos), .val (.int chh), .val (.int ext), .val (.int wh), .val (.int (6 : Int32)), .val (.int (shape &&& (3 : Int32))), .val (.int (6 : Int32)), .val (.int sb), .val (.int pp), .val (.int c_), .val (.int e_), .unset, .unset, .unset]) rfl ?_
        refine gIload K224 L_102 (v := (6 : Int32)) rfl ?_
        refine gNewarr K224 L_104 (hw _ (List.mem_of_getElem? (i := 1) rfl)) (by decide) 6 (by decide) (by decide) (by decide) (by decide) (fun T225 h225 x225 kA225 K225 E225 g225 A225 ne225 => ?_)
        have P226 := P0.ext E225
        have ge_x225 : h0.size ≤ x225 := by rw [g225]; exact P0.1
        refine gAstore K225 L_106 rfl (Ls' := #[.val (.int pick), .val (.int shape), .val (.int pos), .val (.int chh), .val (.int ext), .val (.int wh), .val (.int (6 : Int32)), .val (.int (shape &&& (3 : Int32))), .val (.int (6 : Int32)), .val (.int sb), .val (.int pp), .val (.int c_), .val (.int e_), .val (.ref x225), .unset, .unset]) rfl ?_
        refine gIload K225 L_108 (v := (6 : Int32)) rfl ?_
        refine gIf_le K225 L_110 (fun q => absurd q (by first | decide | (intro hh; cases hh) | simp)) (fun q110 => ?_)
        refine gAload K225 L_113 (v := (.ref x225)) rfl rfl ?_
        refine gIconst K225 (0 : Int32) L_115 rfl ?_
        refine gIconst K225 (0 : Int32) L_116 rfl ?_
        refine gIload K225 L_117 (v := wh) rfl ?_
        refine gIload K225 L_119 (v := (6 : Int32)) rfl ?_
        refine gIload K225 L_121 (v := sb) rfl ?_
        refine gIload K225 L_123 (v := pp) rfl ?_
        refine gIload K225 L_125 (v := c_) rfl ?_
        refine gIload K225 L_127 (v := e_) rfl ?_
        refine gCallS K225 (W := 2) [(.int (0 : Int32)), (.int wh), (.int (6 : Int32)), (.int sb), (.int pp), (.int c_), (.int e_)] [(.int (0 : Int32)), (.ref x225)] L_129 (hw _ (List.mem_of_getElem? (i := 59) rfl)) (hw _ (List.mem_of_getElem? (i := 60) rfl)) (hw _ (List.mem_of_getElem? (i := 61) rfl)) (hw _ (List.mem_of_getElem? (i := 62) rfl)) (Cal.ofW (W := 2) (c_at l Z a0 hw h225 n0 K225.n0le hE wh sb pp c_ e_ 0 6 (by decide) (by decide) (fun q => absurd q q7) (fun _ => by decide) hb_c_ hb_e_ z (Sc.ext E225) hz fm (Sf.ext E225) rf) (hw _ (List.mem_of_getElem? (i := 62) rfl)) (hw _ (List.mem_of_getElem? (i := 61) rfl)) (by decide) (by decide)) (fun _ q => nomatch q) pd6 rfl rfl (Nat.le_of_eq rfl) rfl (by decide) (by decide) (by decide) (fun v227 T227 h227 K227 Q227 q227 => ?_)
        have E227 := Ext.of0 Q227
        have P228 := P226.ext E227
        obtain ⟨r227, rfl, hb227⟩ := q227
        refine gCastore K227 L_132 (List.mem_of_getElem? (i := 0) rfl) (A225.ext E227) rfl (by decide) hb227.1 (ch_up hb227.2) (fun T229 h229 K229 Q229 A229 => ?_)
        have P230 := P228.trans Q229 (fun z q => by cases List.mem_singleton.mp q; exact Or.inr ge_x225)
        refine gIload K229 L_133 (v := (6 : Int32)) rfl ?_
        refine gIconst K229 (1 : Int32) L_135 rfl ?_
        refine gIcmp_le K229 L_136 (fun q => absurd q (by first | decide | (intro hh; cases hh) | simp)) (fun q136 => ?_)
        refine gAload K229 L_139 (v := (.ref x225)) rfl rfl ?_
        refine gIconst K229 (1 : Int32) L_141 rfl ?_
        refine gIconst K229 (1 : Int32) L_142 rfl ?_
        refine gIload K229 L_143 (v := wh) rfl ?_
        refine gIload K229 L_145 (v := (6 : Int32)) rfl ?_
        refine gIload K229 L_147 (v := sb) rfl ?_
        refine gIload K229 L_149 (v := pp) rfl ?_
        refine gIload K229 L_151 (v := c_) rfl ?_
        refine gIload K229 L_153 (v := e_) rfl ?_
        refine gCallS K229 (W := 2) [(.int (1 : Int32)), (.int wh), (.int (6 : Int32)), (.int sb), (.int pp), (.int c_), (.int e_)] [(.int (1 : Int32)), (.ref x225)] L_155 (hw _ (List.mem_of_getElem? (i := 59) rfl)) (hw _ (List.mem_of_getElem? (i := 60) rfl)) (hw _ (List.mem_of_getElem? (i := 61) rfl)) (hw _ (List.mem_of_getElem? (i := 62) rfl)) (Cal.ofW (W := 2) (c_at l Z a0 hw h229 n0 K229.n0le hE wh sb pp c_ e_ 1 6 (by decide) (by decide) (fun q => absurd q q7) (fun _ => by decide) hb_c_ hb_e_ z (Sc.ext (Ext.kp1 (Ext.tr E225 E227) Q229 (Nat.le_of_eq g225.symm))) hz fm (Sf.ext (Ext.kp1 (Ext.tr E225 E227) Q229 (Nat.le_of_eq g225.symm))) rf) (hw _ (List.mem_of_getElem? (i := 62) rfl)) (hw _ (List.mem_of_getElem? (i := 61) rfl)) (by decide) (by decide)) (fun _ q => nomatch q) pd6 rfl rfl (Nat.le_of_eq rfl) rfl (by decide) (by decide) (by decide) (fun v231 T231 h231 K231 Q231 q231 => ?_)
        have E231 := Ext.of0 Q231
        have P232 := P230.ext E231
        obtain ⟨r231, rfl, hb231⟩ := q231
        refine gCastore K231 L_158 (List.mem_of_getElem? (i := 0) rfl) (A229.ext E231) rfl (by decide) hb231.1 (ch_up hb231.2) (fun T233 h233 K233 Q233 A233 => ?_)
        have P234 := P232.trans Q233 (fun z q => by cases List.mem_singleton.mp q; exact Or.inr ge_x225)
        refine gIload K233 L_159 (v := (6 : Int32)) rfl ?_
        refine gIconst K233 (2 : Int32) L_161 rfl ?_
        refine gIcmp_le K233 L_162 (fun q => absurd q (by first | decide | (intro hh; cases hh) | simp)) (fun q162 => ?_)
        refine gAload K233 L_165 (v := (.ref x225)) rfl rfl ?_
        refine gIconst K233 (2 : Int32) L_167 rfl ?_
        refine gIconst K233 (2 : Int32) L_168 rfl ?_
        refine gIload K233 L_169 (v := wh) rfl ?_
        refine gIload K233 L_171 (v := (6 : Int32)) rfl ?_
        refine gIload K233 L_173 (v := sb) rfl ?_
        refine gIload K233 L_175 (v := pp) rfl ?_
        refine gIload K233 L_177 (v := c_) rfl ?_
        refine gIload K233 L_179 (v := e_) rfl ?_
        refine gCallS K233 (W := 2) [(.int (2 : Int32)), (.int wh), (.int (6 : Int32)), (.int sb), (.int pp), (.int c_), (.int e_)] [(.int (2 : Int32)), (.ref x225)] L_181 (hw _ (List.mem_of_getElem? (i := 59) rfl)) (hw _ (List.mem_of_getElem? (i := 60) rfl)) (hw _ (List.mem_of_getElem? (i := 61) rfl)) (hw _ (List.mem_of_getElem? (i := 62) rfl)) (Cal.ofW (W := 2) (c_at l Z a0 hw h233 n0 K233.n0le hE wh sb pp c_ e_ 2 6 (by decide) (by decide) (fun q => absurd q q7) (fun _ => by decide) hb_c_ hb_e_ z (Sc.ext (Ext.kp1 (Ext.tr (Ext.kp1 (Ext.tr E225 E227) Q229 (Nat.le_of_eq g225.symm)) E231) Q233 (Nat.le_of_eq g225.symm))) hz fm (Sf.ext (Ext.kp1 (Ext.tr (Ext.kp1 (Ext.tr E225 E227) Q229 (Nat.le_of_eq g225.symm)) E231) Q233 (Nat.le_of_eq g225.symm))) rf) (hw _ (List.mem_of_getElem? (i := 62) rfl)) (hw _ (List.mem_of_getElem? (i := 61) rfl)) (by decide) (by decide)) (fun _ q => nomatch q) pd6 rfl rfl (Nat.le_of_eq rfl) rfl (by decide) (by decide) (by decide) (fun v235 T235 h235 K235 Q235 q235 => ?_)
        have E235 := Ext.of0 Q235
        have P236 := P234.ext E235
        obtain ⟨r235, rfl, hb235⟩ := q235
        refine gCastore K235 L_184 (List.mem_of_getElem? (i := 0) rfl) (A233.ext E235) rfl (by decide) hb235.1 (ch_up hb235.2) (fun T237 h237 K237 Q237 A237 => ?_)
        have P238 := P236.trans Q237 (fun z q => by cases List.mem_singleton.mp q; exact Or.inr ge_x225)
        refine gIload K237 L_185 (v := (6 : Int32)) rfl ?_
        refine gIconst K237 (3 : Int32) L_187 rfl ?_
        refine gIcmp_le K237 L_188 (fun q => absurd q (by first | decide | (intro hh; cases hh) | simp)) (fun q188 => ?_)
        refine gAload K237 L_191 (v := (.ref x225)) rfl rfl ?_
        refine gIconst K237 (3 : Int32) L_193 rfl ?_
        refine gIconst K237 (3 : Int32) L_194 rfl ?_
        refine gIload K237 L_195 (v := wh) rfl ?_
        refine gIload K237 L_197 (v := (6 : Int32)) rfl ?_
        refine gIload K237 L_199 (v := sb) rfl ?_
        refine gIload K237 L_201 (v := pp) rfl ?_
        refine gIload K237 L_203 (v := c_) rfl ?_
        refine gIload K237 L_205 (v := e_) rfl ?_
        refine gCallS K237 (W := 2) [(.int (3 : Int32)), (.int wh), (.int (6 : Int32)), (.int sb), (.int pp), (.int c_), (.int e_)] [(.int (3 : Int32)), (.ref x225)] L_207 (hw _ (List.mem_of_getElem? (i := 59) rfl)) (hw _ (List.mem_of_getElem? (i := 60) rfl)) (hw _ (List.mem_of_getElem? (i := 61) rfl)) (hw _ (List.mem_of_getElem? (i := 62) rfl)) (Cal.ofW (W := 2) (c_at l Z a0 hw h237 n0 K237.n0le hE wh sb pp c_ e_ 3 6 (by decide) (by decide) (fun q => absurd q q7) (fun _ => by decide) hb_c_ hb_e_ z (Sc.ext (Ext.kp1 (Ext.tr (Ext.kp1 (Ext.tr (Ext.kp1 (Ext.tr E225 E227) Q229 (Nat.le_of_eq g225.symm)) E231) Q233 (Nat.le_of_eq g225.symm)) E235) Q237 (Nat.le_of_eq g225.symm))) hz fm (Sf.ext (Ext.kp1 (Ext.tr (Ext.kp1 (Ext.tr (Ext.kp1 (Ext.tr E225 E227) Q229 (Nat.le_of_eq g225.symm)) E231) Q233 (Nat.le_of_eq g225.symm)) E235) Q237 (Nat.le_of_eq g225.symm))) rf) (hw _ (List.mem_of_getElem? (i := 62) rfl)) (hw _ (List.mem_of_getElem? (i := 61) rfl)) (by decide) (by decide)) (fun _ q => nomatch q) pd6 rfl rfl (Nat.le_of_eq rfl) rfl (by decide) (by decide) (by decide) (fun v239 T239 h239 K239 Q239 q239 => ?_)
        have E239 := Ext.of0 Q239
        have P240 := P238.ext E239
        obtain ⟨r239, rfl, hb239⟩ := q239
        refine gCastore K239 L_210 (List.mem_of_getElem? (i := 0) rfl) (A237.ext E239) rfl (by decide) hb239.1 (ch_up hb239.2) (fun T241 h241 K241 Q241 A241 => ?_)
        have P242 := P240.trans Q241 (fun z q => by cases List.mem_singleton.mp q; exact Or.inr ge_x225)
        refine gIload K241 L_211 (v := (6 : Int32)) rfl ?_
        refine gIconst K241 (4 : Int32) L_213 rfl ?_
        refine gIcmp_le K241 L_214 (fun q => absurd q (by first | decide | (intro hh; cases hh) | simp)) (fun q214 => ?_)
        refine gAload K241 L_217 (v := (.ref x225)) rfl rfl ?_
        refine gIconst K241 (4 : Int32) L_219 rfl ?_
        refine gIconst K241 (4 : Int32) L_220 rfl ?_
        refine gIload K241 L_221 (v := wh) rfl ?_
        refine gIload K241 L_223 (v := (6 : Int32)) rfl ?_
        refine gIload K241 L_225 (v := sb) rfl ?_
        refine gIload K241 L_227 (v := pp) rfl ?_
        refine gIload K241 L_229 (v := c_) rfl ?_
        refine gIload K241 L_231 (v := e_) rfl ?_
        refine gCallS K241 (W := 2) [(.int (4 : Int32)), (.int wh), (.int (6 : Int32)), (.int sb), (.int pp), (.int c_), (.int e_)] [(.int (4 : Int32)), (.ref x225)] L_233 (hw _ (List.mem_of_getElem? (i := 59) rfl)) (hw _ (List.mem_of_getElem? (i := 60) rfl)) (hw _ (List.mem_of_getElem? (i := 61) rfl)) (hw _ (List.mem_of_getElem? (i := 62) rfl)) (Cal.ofW (W := 2) (c_at l Z a0 hw h241 n0 K241.n0le hE wh sb pp c_ e_ 4 6 (by decide) (by decide) (fun q => absurd q q7) (fun _ => by decide) hb_c_ hb_e_ z (Sc.ext (Ext.kp1 (Ext.tr (Ext.kp1 (Ext.tr (Ext.kp1 (Ext.tr (Ext.kp1 (Ext.tr E225 E227) Q229 (Nat.le_of_eq g225.symm)) E231) Q233 (Nat.le_of_eq g225.symm)) E235) Q237 (Nat.le_of_eq g225.symm)) E239) Q241 (Nat.le_of_eq g225.symm))) hz fm (Sf.ext (Ext.kp1 (Ext.tr (Ext.kp1 (Ext.tr (Ext.kp1 (Ext.tr (Ext.kp1 (Ext.tr E225 E227) Q229 (Nat.le_of_eq g225.symm)) E231) Q233 (Nat.le_of_eq g225.symm)) E235) Q237 (Nat.le_of_eq g225.symm)) E239) Q241 (Nat.le_of_eq g225.symm))) rf) (hw _ (List.mem_of_getElem? (i := 62) rfl)) (hw _ (List.mem_of_getElem? (i := 61) rfl)) (by decide) (by decide)) (fun _ q => nomatch q) pd6 rfl rfl (Nat.le_of_eq rfl) rfl (by decide) (by decide) (by decide) (fun v243 T243 h243 K243 Q243 q243 => ?_)
        have E243 := Ext.of0 Q243
        have P244 := P242.ext E243
        obtain ⟨r243, rfl, hb243⟩ := q243
        refine gCastore K243 L_236 (List.mem_of_getElem? (i := 0) rfl) (A241.ext E243) rfl (by decide) hb243.1 (ch_up hb243.2) (fun T245 h245 K245 Q245 A245 => ?_)
        have P246 := P244.trans Q245 (fun z q => by cases List.mem_singleton.mp q; exact Or.inr ge_x225)
        refine gIload K245 L_237 (v := (6 : Int32)) rfl ?_
        refine gIconst K245 (5 : Int32) L_239 rfl ?_
        refine gIcmp_le K245 L_240 (fun q => absurd q (by first | decide | (intro hh; cases hh) | simp)) (fun q240 => ?_)
        refine gAload K245 L_243 (v := (.ref x225)) rfl rfl ?_
        refine gIconst K245 (5 : Int32) L_245 rfl ?_
        refine gIconst K245 (5 : Int32) L_246 rfl ?_
        refine gIload K245 L_247 (v := wh) rfl ?_
        refine gIload K245 L_249 (v := (6 : Int32)) rfl ?_
        refine gIload K245 L_251 (v := sb) rfl ?_
        refine gIload K245 L_253 (v := pp) rfl ?_
        refine gIload K245 L_255 (v := c_) rfl ?_
        refine gIload K245 L_257 (v := e_) rfl ?_
        refine gCallS K245 (W := 2) [(.int (5 : Int32)), (.int wh), (.int (6 : Int32)), (.int sb), (.int pp), (.int c_), (.int e_)] [(.int (5 : Int32)), (.ref x225)] L_259 (hw _ (List.mem_of_getElem? (i := 59) rfl)) (hw _ (List.mem_of_getElem? (i := 60) rfl)) (hw _ (List.mem_of_getElem? (i := 61) rfl)) (hw _ (List.mem_of_getElem? (i := 62) rfl)) (Cal.ofW (W := 2) (c_at l Z a0 hw h245 n0 K245.n0le hE wh sb pp c_ e_ 5 6 (by decide) (by decide) (fun q => absurd q q7) (fun _ => by decide) hb_c_ hb_e_ z (Sc.ext (Ext.kp1 (Ext.tr (Ext.kp1 (Ext.tr (Ext.kp1 (Ext.tr (Ext.kp1 (Ext.tr (Ext.kp1 (Ext.tr E225 E227) Q229 (Nat.le_of_eq g225.symm)) E231) Q233 (Nat.le_of_eq g225.symm)) E235) Q237 (Nat.le_of_eq g225.symm)) E239) Q241 (Nat.le_of_eq g225.symm)) E243) Q245 (Nat.le_of_eq g225.symm))) hz fm (Sf.ext (Ext.kp1 (Ext.tr (Ext.kp1 (Ext.tr (Ext.kp1 (Ext.tr (Ext.kp1 (Ext.tr (Ext.kp1 (Ext.tr E225 E227) Q229 (Nat.le_of_eq g225.symm)) E231) Q233 (Nat.le_of_eq g225.symm)) E235) Q237 (Nat.le_of_eq g225.symm)) E239) Q241 (Nat.le_of_eq g225.symm)) E243) Q245 (Nat.le_of_eq g225.symm))) rf) (hw _ (List.mem_of_getElem? (i := 62) rfl)) (hw _ (List.mem_of_getElem? (i := 61) rfl)) (by decide) (by decide)) (fun _ q => nomatch q) pd6 rfl rfl (Nat.le_of_eq rfl) rfl (by decide) (by decide) (by decide) (fun v247 T247 h247 K247 Q247 q247 => ?_)
        have E247 := Ext.of0 Q247
        have P248 := P246.ext E247
        obtain ⟨r247, rfl, hb247⟩ := q247
        refine gCastore K247 L_262 (List.mem_of_getElem? (i := 0) rfl) (A245.ext E247) rfl (by decide) hb247.1 (ch_up hb247.2) (fun T249 h249 K249 Q249 A249 => ?_)
        have P250 := P248.trans Q249 (fun z q => by cases List.mem_singleton.mp q; exact Or.inr ge_x225)
        refine gIload K249 L_263 (v := (6 : Int32)) rfl ?_
        refine gBipush K249 (6 : Int32) L_265 rfl ?_
        refine gIcmp_le K249 L_267 (fun q267 => ?_) (fun q => absurd q (by first | decide | (intro hh; cases hh) | simp))
        refine gIload K249 L_292 (v := (6 : Int32)) rfl ?_
        refine gBipush K249 (7 : Int32) L_294 rfl ?_
        refine gIcmp_le K249 L_296 (fun q296 => ?_) (fun q => absurd q (by first | decide | (intro hh; cases hh) | simp))
        refine gIload K249 L_321 (v := (6 : Int32)) rfl ?_
        refine gBipush K249 (8 : Int32) L_323 rfl ?_
        refine gIcmp_le K249 L_325 (fun q325 => ?_) (fun q => absurd q (by first | decide | (intro hh; cases hh) | simp))
        refine gNew K249 L_350 (hw _ (List.mem_of_getElem? (i := 2) rfl)) (hw _ (List.mem_of_getElem? (i := 3) rfl)) (hw _ (List.mem_of_getElem? (i := 4) rfl)) (by decide) (by decide) (fun T251 h251 x251 K251 E251 g251 A251 D251 ne251 => ?_)
        have P252 := P250.ext E251
        have ge_x251 : h0.size ≤ x251 := by rw [g251]; exact P250.1
        have F253 : Fld Z h251 x251 "java/lang/String" "value" "[B" .null := (D251 (Or.inr (hw _ (List.mem_of_getElem? (i := 17) rfl))) (ty := (.array .byte)) (by decide))
        have F254 : Fld Z h251 x251 "java/lang/String" "coder" "B" (.int (0 : Int32)) := (D251 (Or.inr (hw _ (List.mem_of_getElem? (i := 18) rfl))) (ty := .byte) (by decide))
        refine gDup K251 L_353 rfl ?_
        refine gAload K251 L_354 (v := (.ref x225)) rfl rfl ?_
        refine gCallI K251 (W := 1) x251 [(.ref x225)] [(.ref x251)] L_356 rfl (hw _ (List.mem_of_getElem? (i := 5) rfl)) (hw _ (List.mem_of_getElem? (i := 6) rfl)) (hw _ (List.mem_of_getElem? (i := 7) rfl)) (cal_strN hw (W := 1) (cs := [r227, r231, r235, r239, r243, r247]) 6 (K251.wsge (List.mem_of_getElem? (i := 0) rfl)) K251.n0le A251 F253 F254 (A249.ext E251) (Sc.ext (Ext.tr (Ext.kp1 (Ext.tr (Ext.kp1 (Ext.tr (Ext.kp1 (Ext.tr (Ext.kp1 (Ext.tr (Ext.kp1 (Ext.tr (Ext.kp1 (Ext.tr E225 E227) Q229 (Nat.le_of_eq g225.symm)) E231) Q233 (Nat.le_of_eq g225.symm)) E235) Q237 (Nat.le_of_eq g225.symm)) E239) Q241 (Nat.le_of_eq g225.symm)) E243) Q245 (Nat.le_of_eq g225.symm)) E247) Q249 (Nat.le_of_eq g225.symm)) E251)) hz rfl (by decide) (by decide) (allI hb227 (allI hb231 (allI hb235 (allI hb239 (allI hb243 (allI hb247 allI0)))))) (by decide) (by decide)) (fun z q => by cases List.mem_singleton.mp q; exact (List.mem_of_getElem? (i := 0) rfl)) pd4 rfl rfl (Nat.le_of_eq rfl) rfl (by decide) (by decide) (by decide) (fun v255 T255 h255 K255 Q255 q255 => ?_)
        have P256 := P252.trans Q255 (fun z q => by cases List.mem_singleton.mp q; exact Or.inr ge_x251)
        obtain ⟨rfl, St255⟩ := q255
        generalize hcs : [r227, r231, r235, r239, r243, r247] = cs at St255
        refine gAstore K255 L_359 rfl (Ls' := #[.val (.int pick), .val (.int shape), .val (.int pos), .val (.int chh), .val (.int ext), .val (.int wh), .val (.int (6 : Int32)), .val (.int (shape &&& (3 : Int32))), .val (.int (6 : Int32)), .val (.int sb), .val (.int pp), .val (.int c_), .val (.int e_), .val (.ref x225), .val (.ref x251), .unset]) rfl ?_
        refine gNull K255 L_361 ?_
        refine gAstore K255 L_362 rfl (Ls' := #[.val (.int pick), .val (.int shape), .val (.int pos), .val (.int chh), .val (.int ext), .val (.int wh), .val (.int (6 : Int32)), .val (.int (shape &&& (3 : Int32))), .val (.int (6 : Int32)), .val (.int sb), .val (.int pp), .val (.int c_), .val (.int e_), .val (.ref x225), .val (.ref x251), .val .null]) rfl ?_
        refine gAload K255 L_364 (v := (.ref x251)) rfl rfl ?_
        refine gLdc K255 L_366 (hw _ (List.mem_of_getElem? (i := 23) rfl)) (hsA hw) (by decide) (vs := ([(110 : Int32), (101 : Int32), (119 : Int32), (45 : Int32), (121 : Int32), (111 : Int32), (114 : Int32), (107 : Int32)].map StrChars.lo8).map Value.int) (z := Int32.ofNat 8) (by decide +kernel) (by decide) (by decide) 32 (by decide) (by decide) (by decide) (by decide) (fun T257 h257 a257 b257 kA257 K257 E257 Ea257 Fc257 Fv257 Ab257 ne257 => ?_)
        have P258 := P256.ext E257
        have Sl257 : StrL Z h257 a257 [(110 : Int32), (101 : Int32), (119 : Int32), (45 : Int32), (121 : Int32), (111 : Int32), (114 : Int32), (107 : Int32)] := ⟨b257, kA257, Ea257, Fc257, Fv257, Ab257, by decide, by decide⟩
        refine gCallV K257 (W := 0) (C := "java/lang/String") x251 [(.ref a257)] [] L_368 (hw _ (List.mem_of_getElem? (i := 24) rfl)) (hw _ (List.mem_of_getElem? (i := 25) rfl)) (hw _ (List.mem_of_getElem? (i := 27) rfl)) (hw _ (List.mem_of_getElem? (i := 26) rfl)) (cal_eq hw (W := 0) (St255.ext E257) Sl257 (Sc.ext (Ext.tr (Ext.kp1 (Ext.tr (Ext.kp1 (Ext.tr (Ext.kp1 (Ext.tr (Ext.kp1 (Ext.tr (Ext.kp1 (Ext.tr (Ext.kp1 (Ext.tr (Ext.kp1 (Ext.tr E225 E227) Q229 (Nat.le_of_eq g225.symm)) E231) Q233 (Nat.le_of_eq g225.symm)) E235) Q237 (Nat.le_of_eq g225.symm)) E239) Q241 (Nat.le_of_eq g225.symm)) E243) Q245 (Nat.le_of_eq g225.symm)) E247) Q249 (Nat.le_of_eq g225.symm)) E251) Q255 (Nat.le_trans (Ext.kp1 (Ext.tr (Ext.kp1 (Ext.tr (Ext.kp1 (Ext.tr (Ext.kp1 (Ext.tr (Ext.kp1 (Ext.tr (Ext.kp1 (Ext.tr E225 E227) Q229 (Nat.le_of_eq g225.symm)) E231) Q233 (Nat.le_of_eq g225.symm)) E235) Q237 (Nat.le_of_eq g225.symm)) E239) Q241 (Nat.le_of_eq g225.symm)) E243) Q245 (Nat.le_of_eq g225.symm)) E247) Q249 (Nat.le_of_eq g225.symm)).1 (Nat.le_of_eq g251.symm))) E257)) hz (by decide) (by decide)) ((St255.ext E257)).exa (fun _ q => nomatch q) pd1 rfl rfl (Nat.le_of_eq rfl) rfl (by decide) (by decide) (by decide) (fun v259 T259 h259 K259 Q259 q259 => ?_)
        have E259 := Ext.of0 Q259
        have P260 := P258.ext E259
        rcases q259 with ⟨rfl, hc0⟩ | ⟨rfl, hc0⟩
        · skip
          refine gIf_eq K259 L_371 (fun q => absurd q (by first | decide | (intro hh; cases hh) | simp)) (fun q371 => ?_)
          refine gGetS K259 L_374 (hw _ (List.mem_of_getElem? (i := 96) rfl)) (S0.ext (Ext.tr (Ext.tr (Ext.kp1 (Ext.tr (Ext.kp1 (Ext.tr (Ext.kp1 (Ext.tr (Ext.kp1 (Ext.tr (Ext.kp1 (Ext.tr (Ext.kp1 (Ext.tr (Ext.kp1 (Ext.tr E225 E227) Q229 (Nat.le_of_eq g225.symm)) E231) Q233 (Nat.le_of_eq g225.symm)) E235) Q237 (Nat.le_of_eq g225.symm)) E239) Q241 (Nat.le_of_eq g225.symm)) E243) Q245 (Nat.le_of_eq g225.symm)) E247) Q249 (Nat.le_of_eq g225.symm)) E251) Q255 (Nat.le_trans (Ext.kp1 (Ext.tr (Ext.kp1 (Ext.tr (Ext.kp1 (Ext.tr (Ext.kp1 (Ext.tr (Ext.kp1 (Ext.tr (Ext.kp1 (Ext.tr E225 E227) Q229 (Nat.le_of_eq g225.symm)) E231) Q233 (Nat.le_of_eq g225.symm)) E235) Q237 (Nat.le_of_eq g225.symm)) E239) Q241 (Nat.le_of_eq g225.symm)) E243) Q245 (Nat.le_of_eq g225.symm)) E247) Q249 (Nat.le_of_eq g225.symm)).1 (Nat.le_of_eq g251.symm))) E257) E259)) (fun T261 K261 => ?_)
          refine gAstore K261 L_377 rfl (Ls' := #[.val (.int pick), .val (.int shape), .val (.int pos), .val (.int chh), .val (.int ext), .val (.int wh), .val (.int (6 : Int32)), .val (.int (shape &&& (3 : Int32))), .val (.int (6 : Int32)), .val (.int sb), .val (.int pp), .val (.int c_), .val (.int e_), .val (.ref x225), .val (.ref x251), .val (.ref v0)]) rfl ?_
          refine gGoto K261 L_379 ?_
          refine gAload K261 L_397 (v := (.ref x251)) rfl rfl ?_
          refine gCallS K261 (W := 0) [(.ref x251)] [] L_399 (hw _ (List.mem_of_getElem? (i := 36) rfl)) (hw _ (List.mem_of_getElem? (i := 37) rfl)) (hw _ (List.mem_of_getElem? (i := 38) rfl)) (hw _ (List.mem_of_getElem? (i := 39) rfl)) (Cal.ofN (W := 0) (c_look l Z a0 hw h259 n0 K261.n0le x251 cs va kV dv v0 l0 v1 l1 z (Sv.ext (Ext.tr (Ext.tr (Ext.kp1 (Ext.tr (Ext.kp1 (Ext.tr (Ext.kp1 (Ext.tr (Ext.kp1 (Ext.tr (Ext.kp1 (Ext.tr (Ext.kp1 (Ext.tr (Ext.kp1 (Ext.tr E225 E227) Q229 (Nat.le_of_eq g225.symm)) E231) Q233 (Nat.le_of_eq g225.symm)) E235) Q237 (Nat.le_of_eq g225.symm)) E239) Q241 (Nat.le_of_eq g225.symm)) E243) Q245 (Nat.le_of_eq g225.symm)) E247) Q249 (Nat.le_of_eq g225.symm)) E251) Q255 (Nat.le_trans (Ext.kp1 (Ext.tr (Ext.kp1 (Ext.tr (Ext.kp1 (Ext.tr (Ext.kp1 (Ext.tr (Ext.kp1 (Ext.tr (Ext.kp1 (Ext.tr E225 E227) Q229 (Nat.le_of_eq g225.symm)) E231) Q233 (Nat.le_of_eq g225.symm)) E235) Q237 (Nat.le_of_eq g225.symm)) E239) Q241 (Nat.le_of_eq g225.symm)) E243) Q245 (Nat.le_of_eq g225.symm)) E247) Q249 (Nat.le_of_eq g225.symm)).1 (Nat.le_of_eq g251.symm))) E257) E259)) (Av.ext (Ext.tr (Ext.tr (Ext.kp1 (Ext.tr (Ext.kp1 (Ext.tr (Ext.kp1 (Ext.tr (Ext.kp1 (Ext.tr (Ext.kp1 (Ext.tr (Ext.kp1 (Ext.tr (Ext.kp1 (Ext.tr E225 E227) Q229 (Nat.le_of_eq g225.symm)) E231) Q233 (Nat.le_of_eq g225.symm)) E235) Q237 (Nat.le_of_eq g225.symm)) E239) Q241 (Nat.le_of_eq g225.symm)) E243) Q245 (Nat.le_of_eq g225.symm)) E247) Q249 (Nat.le_of_eq g225.symm)) E251) Q255 (Nat.le_trans (Ext.kp1 (Ext.tr (Ext.kp1 (Ext.tr (Ext.kp1 (Ext.tr (Ext.kp1 (Ext.tr (Ext.kp1 (Ext.tr (Ext.kp1 (Ext.tr E225 E227) Q229 (Nat.le_of_eq g225.symm)) E231) Q233 (Nat.le_of_eq g225.symm)) E235) Q237 (Nat.le_of_eq g225.symm)) E239) Q241 (Nat.le_of_eq g225.symm)) E243) Q245 (Nat.le_of_eq g225.symm)) E247) Q249 (Nat.le_of_eq g225.symm)).1 (Nat.le_of_eq g251.symm))) E257) E259)) (Ev.ext (Ext.tr (Ext.tr (Ext.kp1 (Ext.tr (Ext.kp1 (Ext.tr (Ext.kp1 (Ext.tr (Ext.kp1 (Ext.tr (Ext.kp1 (Ext.tr (Ext.kp1 (Ext.tr (Ext.kp1 (Ext.tr E225 E227) Q229 (Nat.le_of_eq g225.symm)) E231) Q233 (Nat.le_of_eq g225.symm)) E235) Q237 (Nat.le_of_eq g225.symm)) E239) Q241 (Nat.le_of_eq g225.symm)) E243) Q245 (Nat.le_of_eq g225.symm)) E247) Q249 (Nat.le_of_eq g225.symm)) E251) Q255 (Nat.le_trans (Ext.kp1 (Ext.tr (Ext.kp1 (Ext.tr (Ext.kp1 (Ext.tr (Ext.kp1 (Ext.tr (Ext.kp1 (Ext.tr (Ext.kp1 (Ext.tr E225 E227) Q229 (Nat.le_of_eq g225.symm)) E231) Q233 (Nat.le_of_eq g225.symm)) E235) Q237 (Nat.le_of_eq g225.symm)) E239) Q241 (Nat.le_of_eq g225.symm)) E243) Q245 (Nat.le_of_eq g225.symm)) E247) Q249 (Nat.le_of_eq g225.symm)).1 (Nat.le_of_eq g251.symm))) E257) E259)) (F0.ext (Ext.tr (Ext.tr (Ext.kp1 (Ext.tr (Ext.kp1 (Ext.tr (Ext.kp1 (Ext.tr (Ext.kp1 (Ext.tr (Ext.kp1 (Ext.tr (Ext.kp1 (Ext.tr (Ext.kp1 (Ext.tr E225 E227) Q229 (Nat.le_of_eq g225.symm)) E231) Q233 (Nat.le_of_eq g225.symm)) E235) Q237 (Nat.le_of_eq g225.symm)) E239) Q241 (Nat.le_of_eq g225.symm)) E243) Q245 (Nat.le_of_eq g225.symm)) E247) Q249 (Nat.le_of_eq g225.symm)) E251) Q255 (Nat.le_trans (Ext.kp1 (Ext.tr (Ext.kp1 (Ext.tr (Ext.kp1 (Ext.tr (Ext.kp1 (Ext.tr (Ext.kp1 (Ext.tr (Ext.kp1 (Ext.tr E225 E227) Q229 (Nat.le_of_eq g225.symm)) E231) Q233 (Nat.le_of_eq g225.symm)) E235) Q237 (Nat.le_of_eq g225.symm)) E239) Q241 (Nat.le_of_eq g225.symm)) E243) Q245 (Nat.le_of_eq g225.symm)) E247) Q249 (Nat.le_of_eq g225.symm)).1 (Nat.le_of_eq g251.symm))) E257) E259)) (L0.ext (Ext.tr (Ext.tr (Ext.kp1 (Ext.tr (Ext.kp1 (Ext.tr (Ext.kp1 (Ext.tr (Ext.kp1 (Ext.tr (Ext.kp1 (Ext.tr (Ext.kp1 (Ext.tr (Ext.kp1 (Ext.tr E225 E227) Q229 (Nat.le_of_eq g225.symm)) E231) Q233 (Nat.le_of_eq g225.symm)) E235) Q237 (Nat.le_of_eq g225.symm)) E239) Q241 (Nat.le_of_eq g225.symm)) E243) Q245 (Nat.le_of_eq g225.symm)) E247) Q249 (Nat.le_of_eq g225.symm)) E251) Q255 (Nat.le_trans (Ext.kp1 (Ext.tr (Ext.kp1 (Ext.tr (Ext.kp1 (Ext.tr (Ext.kp1 (Ext.tr (Ext.kp1 (Ext.tr (Ext.kp1 (Ext.tr E225 E227) Q229 (Nat.le_of_eq g225.symm)) E231) Q233 (Nat.le_of_eq g225.symm)) E235) Q237 (Nat.le_of_eq g225.symm)) E239) Q241 (Nat.le_of_eq g225.symm)) E243) Q245 (Nat.le_of_eq g225.symm)) E247) Q249 (Nat.le_of_eq g225.symm)).1 (Nat.le_of_eq g251.symm))) E257) E259)) (F1.ext (Ext.tr (Ext.tr (Ext.kp1 (Ext.tr (Ext.kp1 (Ext.tr (Ext.kp1 (Ext.tr (Ext.kp1 (Ext.tr (Ext.kp1 (Ext.tr (Ext.kp1 (Ext.tr (Ext.kp1 (Ext.tr E225 E227) Q229 (Nat.le_of_eq g225.symm)) E231) Q233 (Nat.le_of_eq g225.symm)) E235) Q237 (Nat.le_of_eq g225.symm)) E239) Q241 (Nat.le_of_eq g225.symm)) E243) Q245 (Nat.le_of_eq g225.symm)) E247) Q249 (Nat.le_of_eq g225.symm)) E251) Q255 (Nat.le_trans (Ext.kp1 (Ext.tr (Ext.kp1 (Ext.tr (Ext.kp1 (Ext.tr (Ext.kp1 (Ext.tr (Ext.kp1 (Ext.tr (Ext.kp1 (Ext.tr E225 E227) Q229 (Nat.le_of_eq g225.symm)) E231) Q233 (Nat.le_of_eq g225.symm)) E235) Q237 (Nat.le_of_eq g225.symm)) E239) Q241 (Nat.le_of_eq g225.symm)) E243) Q245 (Nat.le_of_eq g225.symm)) E247) Q249 (Nat.le_of_eq g225.symm)).1 (Nat.le_of_eq g251.symm))) E257) E259)) (L1.ext (Ext.tr (Ext.tr (Ext.kp1 (Ext.tr (Ext.kp1 (Ext.tr (Ext.kp1 (Ext.tr (Ext.kp1 (Ext.tr (Ext.kp1 (Ext.tr (Ext.kp1 (Ext.tr (Ext.kp1 (Ext.tr E225 E227) Q229 (Nat.le_of_eq g225.symm)) E231) Q233 (Nat.le_of_eq g225.symm)) E235) Q237 (Nat.le_of_eq g225.symm)) E239) Q241 (Nat.le_of_eq g225.symm)) E243) Q245 (Nat.le_of_eq g225.symm)) E247) Q249 (Nat.le_of_eq g225.symm)) E251) Q255 (Nat.le_trans (Ext.kp1 (Ext.tr (Ext.kp1 (Ext.tr (Ext.kp1 (Ext.tr (Ext.kp1 (Ext.tr (Ext.kp1 (Ext.tr (Ext.kp1 (Ext.tr E225 E227) Q229 (Nat.le_of_eq g225.symm)) E231) Q233 (Nat.le_of_eq g225.symm)) E235) Q237 (Nat.le_of_eq g225.symm)) E239) Q241 (Nat.le_of_eq g225.symm)) E243) Q245 (Nat.le_of_eq g225.symm)) E247) Q249 (Nat.le_of_eq g225.symm)).1 (Nat.le_of_eq g251.symm))) E257) E259)) (Sc.ext (Ext.tr (Ext.tr (Ext.kp1 (Ext.tr (Ext.kp1 (Ext.tr (Ext.kp1 (Ext.tr (Ext.kp1 (Ext.tr (Ext.kp1 (Ext.tr (Ext.kp1 (Ext.tr (Ext.kp1 (Ext.tr E225 E227) Q229 (Nat.le_of_eq g225.symm)) E231) Q233 (Nat.le_of_eq g225.symm)) E235) Q237 (Nat.le_of_eq g225.symm)) E239) Q241 (Nat.le_of_eq g225.symm)) E243) Q245 (Nat.le_of_eq g225.symm)) E247) Q249 (Nat.le_of_eq g225.symm)) E251) Q255 (Nat.le_trans (Ext.kp1 (Ext.tr (Ext.kp1 (Ext.tr (Ext.kp1 (Ext.tr (Ext.kp1 (Ext.tr (Ext.kp1 (Ext.tr (Ext.kp1 (Ext.tr E225 E227) Q229 (Nat.le_of_eq g225.symm)) E231) Q233 (Nat.le_of_eq g225.symm)) E235) Q237 (Nat.le_of_eq g225.symm)) E239) Q241 (Nat.le_of_eq g225.symm)) E243) Q245 (Nat.le_of_eq g225.symm)) E247) Q249 (Nat.le_of_eq g225.symm)).1 (Nat.le_of_eq g251.symm))) E257) E259)) hz (St255.ext (Ext.tr E257 E259))) (hw _ (List.mem_of_getElem? (i := 39) rfl)) (hw _ (List.mem_of_getElem? (i := 38) rfl)) (by decide) (by decide)) (fun _ q => nomatch q) pd5 rfl rfl (Nat.le_of_eq rfl) rfl (by decide) (by decide) (by decide) (fun v262 T262 h262 K262 Q262 q262 => ?_)
          have E262 := Ext.of0 Q262
          have P263 := P260.ext E262
          cases q262
          rw [if_pos hc0]
          refine gAload K262 L_402 (v := (.ref v0)) rfl rfl ?_
          refine gAcmp_ne K262 L_404 rfl rfl (fun q => absurd q (by first | decide | (intro hh; cases hh) | simp)) (fun q404 => ?_)
          refine gIconst K262 (1 : Int32) L_407 rfl ?_
          refine gGoto K262 L_408 ?_
          refine gRetI K262 hlk hret (by simp) L_412 rfl P263 (by decide) (by decide) ?_
          exact rfl
        · skip
          refine gIf_eq K259 L_371 (fun q371 => ?_) (fun q => absurd q (by first | decide | (intro hh; cases hh) | simp))
          refine gAload K259 L_382 (v := (.ref x251)) rfl rfl ?_
          refine gLdc K259 L_384 (hw _ (List.mem_of_getElem? (i := 35) rfl)) (hsA hw) (by decide) (vs := ([(108 : Int32), (111 : Int32), (110 : Int32), (100 : Int32), (111 : Int32), (110 : Int32)].map StrChars.lo8).map Value.int) (z := Int32.ofNat 6) (by decide +kernel) (by decide) (by decide) 24 (by decide) (by decide) (by decide) (by decide) (fun T264 h264 a264 b264 kA264 K264 E264 Ea264 Fc264 Fv264 Ab264 ne264 => ?_)
          have P265 := P260.ext E264
          have Sl264 : StrL Z h264 a264 [(108 : Int32), (111 : Int32), (110 : Int32), (100 : Int32), (111 : Int32), (110 : Int32)] := ⟨b264, kA264, Ea264, Fc264, Fv264, Ab264, by decide, by decide⟩
          refine gCallV K264 (W := 0) (C := "java/lang/String") x251 [(.ref a264)] [] L_386 (hw _ (List.mem_of_getElem? (i := 24) rfl)) (hw _ (List.mem_of_getElem? (i := 25) rfl)) (hw _ (List.mem_of_getElem? (i := 27) rfl)) (hw _ (List.mem_of_getElem? (i := 26) rfl)) (cal_eq hw (W := 0) (St255.ext (Ext.tr (Ext.tr E257 E259) E264)) Sl264 (Sc.ext (Ext.tr (Ext.tr (Ext.tr (Ext.kp1 (Ext.tr (Ext.kp1 (Ext.tr (Ext.kp1 (Ext.tr (Ext.kp1 (Ext.tr (Ext.kp1 (Ext.tr (Ext.kp1 (Ext.tr (Ext.kp1 (Ext.tr E225 E227) Q229 (Nat.le_of_eq g225.symm)) E231) Q233 (Nat.le_of_eq g225.symm)) E235) Q237 (Nat.le_of_eq g225.symm)) E239) Q241 (Nat.le_of_eq g225.symm)) E243) Q245 (Nat.le_of_eq g225.symm)) E247) Q249 (Nat.le_of_eq g225.symm)) E251) Q255 (Nat.le_trans (Ext.kp1 (Ext.tr (Ext.kp1 (Ext.tr (Ext.kp1 (Ext.tr (Ext.kp1 (Ext.tr (Ext.kp1 (Ext.tr (Ext.kp1 (Ext.tr E225 E227) Q229 (Nat.le_of_eq g225.symm)) E231) Q233 (Nat.le_of_eq g225.symm)) E235) Q237 (Nat.le_of_eq g225.symm)) E239) Q241 (Nat.le_of_eq g225.symm)) E243) Q245 (Nat.le_of_eq g225.symm)) E247) Q249 (Nat.le_of_eq g225.symm)).1 (Nat.le_of_eq g251.symm))) E257) E259) E264)) hz (by decide) (by decide)) ((St255.ext (Ext.tr (Ext.tr E257 E259) E264))).exa (fun _ q => nomatch q) pd1 rfl rfl (Nat.le_of_eq rfl) rfl (by decide) (by decide) (by decide) (fun v266 T266 h266 K266 Q266 q266 => ?_)
          have E266 := Ext.of0 Q266
          have P267 := P265.ext E266
          rcases q266 with ⟨rfl, hc1⟩ | ⟨rfl, hc1⟩
          · skip
            refine gIf_eq K266 L_389 (fun q => absurd q (by first | decide | (intro hh; cases hh) | simp)) (fun q389 => ?_)
            refine gGetS K266 L_392 (hw _ (List.mem_of_getElem? (i := 94) rfl)) (S1.ext (Ext.tr (Ext.tr (Ext.tr (Ext.tr (Ext.kp1 (Ext.tr (Ext.kp1 (Ext.tr (Ext.kp1 (Ext.tr (Ext.kp1 (Ext.tr (Ext.kp1 (Ext.tr (Ext.kp1 (Ext.tr (Ext.kp1 (Ext.tr E225 E227) Q229 (Nat.le_of_eq g225.symm)) E231) Q233 (Nat.le_of_eq g225.symm)) E235) Q237 (Nat.le_of_eq g225.symm)) E239) Q241 (Nat.le_of_eq g225.symm)) E243) Q245 (Nat.le_of_eq g225.symm)) E247) Q249 (Nat.le_of_eq g225.symm)) E251) Q255 (Nat.le_trans (Ext.kp1 (Ext.tr (Ext.kp1 (Ext.tr (Ext.kp1 (Ext.tr (Ext.kp1 (Ext.tr (Ext.kp1 (Ext.tr (Ext.kp1 (Ext.tr E225 E227) Q229 (Nat.le_of_eq g225.symm)) E231) Q233 (Nat.le_of_eq g225.symm)) E235) Q237 (Nat.le_of_eq g225.symm)) E239) Q241 (Nat.le_of_eq g225.symm)) E243) Q245 (Nat.le_of_eq g225.symm)) E247) Q249 (Nat.le_of_eq g225.symm)).1 (Nat.le_of_eq g251.symm))) E257) E259) E264) E266)) (fun T268 K268 => ?_)
            refine gAstore K268 L_395 rfl (Ls' := #[.val (.int pick), .val (.int shape), .val (.int pos), .val (.int chh), .val (.int ext), .val (.int wh), .val (.int (6 : Int32)), .val (.int (shape &&& (3 : Int32))), .val (.int (6 : Int32)), .val (.int sb), .val (.int pp), .val (.int c_), .val (.int e_), .val (.ref x225), .val (.ref x251), .val (.ref v1)]) rfl ?_
            refine gAload K268 L_397 (v := (.ref x251)) rfl rfl ?_
            refine gCallS K268 (W := 0) [(.ref x251)] [] L_399 (hw _ (List.mem_of_getElem? (i := 36) rfl)) (hw _ (List.mem_of_getElem? (i := 37) rfl)) (hw _ (List.mem_of_getElem? (i := 38) rfl)) (hw _ (List.mem_of_getElem? (i := 39) rfl)) (Cal.ofN (W := 0) (c_look l Z a0 hw h266 n0 K268.n0le x251 cs va kV dv v0 l0 v1 l1 z (Sv.ext (Ext.tr (Ext.tr (Ext.tr (Ext.tr (Ext.kp1 (Ext.tr (Ext.kp1 (Ext.tr (Ext.kp1 (Ext.tr (Ext.kp1 (Ext.tr (Ext.kp1 (Ext.tr (Ext.kp1 (Ext.tr (Ext.kp1 (Ext.tr E225 E227) Q229 (Nat.le_of_eq g225.symm)) E231) Q233 (Nat.le_of_eq g225.symm)) E235) Q237 (Nat.le_of_eq g225.symm)) E239) Q241 (Nat.le_of_eq g225.symm)) E243) Q245 (Nat.le_of_eq g225.symm)) E247) Q249 (Nat.le_of_eq g225.symm)) E251) Q255 (Nat.le_trans (Ext.kp1 (Ext.tr (Ext.kp1 (Ext.tr (Ext.kp1 (Ext.tr (Ext.kp1 (Ext.tr (Ext.kp1 (Ext.tr (Ext.kp1 (Ext.tr E225 E227) Q229 (Nat.le_of_eq g225.symm)) E231) Q233 (Nat.le_of_eq g225.symm)) E235) Q237 (Nat.le_of_eq g225.symm)) E239) Q241 (Nat.le_of_eq g225.symm)) E243) Q245 (Nat.le_of_eq g225.symm)) E247) Q249 (Nat.le_of_eq g225.symm)).1 (Nat.le_of_eq g251.symm))) E257) E259) E264) E266)) (Av.ext (Ext.tr (Ext.tr (Ext.tr (Ext.tr (Ext.kp1 (Ext.tr (Ext.kp1 (Ext.tr (Ext.kp1 (Ext.tr (Ext.kp1 (Ext.tr (Ext.kp1 (Ext.tr (Ext.kp1 (Ext.tr (Ext.kp1 (Ext.tr E225 E227) Q229 (Nat.le_of_eq g225.symm)) E231) Q233 (Nat.le_of_eq g225.symm)) E235) Q237 (Nat.le_of_eq g225.symm)) E239) Q241 (Nat.le_of_eq g225.symm)) E243) Q245 (Nat.le_of_eq g225.symm)) E247) Q249 (Nat.le_of_eq g225.symm)) E251) Q255 (Nat.le_trans (Ext.kp1 (Ext.tr (Ext.kp1 (Ext.tr (Ext.kp1 (Ext.tr (Ext.kp1 (Ext.tr (Ext.kp1 (Ext.tr (Ext.kp1 (Ext.tr E225 E227) Q229 (Nat.le_of_eq g225.symm)) E231) Q233 (Nat.le_of_eq g225.symm)) E235) Q237 (Nat.le_of_eq g225.symm)) E239) Q241 (Nat.le_of_eq g225.symm)) E243) Q245 (Nat.le_of_eq g225.symm)) E247) Q249 (Nat.le_of_eq g225.symm)).1 (Nat.le_of_eq g251.symm))) E257) E259) E264) E266)) (Ev.ext (Ext.tr (Ext.tr (Ext.tr (Ext.tr (Ext.kp1 (Ext.tr (Ext.kp1 (Ext.tr (Ext.kp1 (Ext.tr (Ext.kp1 (Ext.tr (Ext.kp1 (Ext.tr (Ext.kp1 (Ext.tr (Ext.kp1 (Ext.tr E225 E227) Q229 (Nat.le_of_eq g225.symm)) E231) Q233 (Nat.le_of_eq g225.symm)) E235) Q237 (Nat.le_of_eq g225.symm)) E239) Q241 (Nat.le_of_eq g225.symm)) E243) Q245 (Nat.le_of_eq g225.symm)) E247) Q249 (Nat.le_of_eq g225.symm)) E251) Q255 (Nat.le_trans (Ext.kp1 (Ext.tr (Ext.kp1 (Ext.tr (Ext.kp1 (Ext.tr (Ext.kp1 (Ext.tr (Ext.kp1 (Ext.tr (Ext.kp1 (Ext.tr E225 E227) Q229 (Nat.le_of_eq g225.symm)) E231) Q233 (Nat.le_of_eq g225.symm)) E235) Q237 (Nat.le_of_eq g225.symm)) E239) Q241 (Nat.le_of_eq g225.symm)) E243) Q245 (Nat.le_of_eq g225.symm)) E247) Q249 (Nat.le_of_eq g225.symm)).1 (Nat.le_of_eq g251.symm))) E257) E259) E264) E266)) (F0.ext (Ext.tr (Ext.tr (Ext.tr (Ext.tr (Ext.kp1 (Ext.tr (Ext.kp1 (Ext.tr (Ext.kp1 (Ext.tr (Ext.kp1 (Ext.tr (Ext.kp1 (Ext.tr (Ext.kp1 (Ext.tr (Ext.kp1 (Ext.tr E225 E227) Q229 (Nat.le_of_eq g225.symm)) E231) Q233 (Nat.le_of_eq g225.symm)) E235) Q237 (Nat.le_of_eq g225.symm)) E239) Q241 (Nat.le_of_eq g225.symm)) E243) Q245 (Nat.le_of_eq g225.symm)) E247) Q249 (Nat.le_of_eq g225.symm)) E251) Q255 (Nat.le_trans (Ext.kp1 (Ext.tr (Ext.kp1 (Ext.tr (Ext.kp1 (Ext.tr (Ext.kp1 (Ext.tr (Ext.kp1 (Ext.tr (Ext.kp1 (Ext.tr E225 E227) Q229 (Nat.le_of_eq g225.symm)) E231) Q233 (Nat.le_of_eq g225.symm)) E235) Q237 (Nat.le_of_eq g225.symm)) E239) Q241 (Nat.le_of_eq g225.symm)) E243) Q245 (Nat.le_of_eq g225.symm)) E247) Q249 (Nat.le_of_eq g225.symm)).1 (Nat.le_of_eq g251.symm))) E257) E259) E264) E266)) (L0.ext (Ext.tr (Ext.tr (Ext.tr (Ext.tr (Ext.kp1 (Ext.tr (Ext.kp1 (Ext.tr (Ext.kp1 (Ext.tr (Ext.kp1 (Ext.tr (Ext.kp1 (Ext.tr (Ext.kp1 (Ext.tr (Ext.kp1 (Ext.tr E225 E227) Q229 (Nat.le_of_eq g225.symm)) E231) Q233 (Nat.le_of_eq g225.symm)) E235) Q237 (Nat.le_of_eq g225.symm)) E239) Q241 (Nat.le_of_eq g225.symm)) E243) Q245 (Nat.le_of_eq g225.symm)) E247) Q249 (Nat.le_of_eq g225.symm)) E251) Q255 (Nat.le_trans (Ext.kp1 (Ext.tr (Ext.kp1 (Ext.tr (Ext.kp1 (Ext.tr (Ext.kp1 (Ext.tr (Ext.kp1 (Ext.tr (Ext.kp1 (Ext.tr E225 E227) Q229 (Nat.le_of_eq g225.symm)) E231) Q233 (Nat.le_of_eq g225.symm)) E235) Q237 (Nat.le_of_eq g225.symm)) E239) Q241 (Nat.le_of_eq g225.symm)) E243) Q245 (Nat.le_of_eq g225.symm)) E247) Q249 (Nat.le_of_eq g225.symm)).1 (Nat.le_of_eq g251.symm))) E257) E259) E264) E266)) (F1.ext (Ext.tr (Ext.tr (Ext.tr (Ext.tr (Ext.kp1 (Ext.tr (Ext.kp1 (Ext.tr (Ext.kp1 (Ext.tr (Ext.kp1 (Ext.tr (Ext.kp1 (Ext.tr (Ext.kp1 (Ext.tr (Ext.kp1 (Ext.tr E225 E227) Q229 (Nat.le_of_eq g225.symm)) E231) Q233 (Nat.le_of_eq g225.symm)) E235) Q237 (Nat.le_of_eq g225.symm)) E239) Q241 (Nat.le_of_eq g225.symm)) E243) Q245 (Nat.le_of_eq g225.symm)) E247) Q249 (Nat.le_of_eq g225.symm)) E251) Q255 (Nat.le_trans (Ext.kp1 (Ext.tr (Ext.kp1 (Ext.tr (Ext.kp1 (Ext.tr (Ext.kp1 (Ext.tr (Ext.kp1 (Ext.tr (Ext.kp1 (Ext.tr E225 E227) Q229 (Nat.le_of_eq g225.symm)) E231) Q233 (Nat.le_of_eq g225.symm)) E235) Q237 (Nat.le_of_eq g225.symm)) E239) Q241 (Nat.le_of_eq g225.symm)) E243) Q245 (Nat.le_of_eq g225.symm)) E247) Q249 (Nat.le_of_eq g225.symm)).1 (Nat.le_of_eq g251.symm))) E257) E259) E264) E266)) (L1.ext (Ext.tr (Ext.tr (Ext.tr (Ext.tr (Ext.kp1 (Ext.tr (Ext.kp1 (Ext.tr (Ext.kp1 (Ext.tr (Ext.kp1 (Ext.tr (Ext.kp1 (Ext.tr (Ext.kp1 (Ext.tr (Ext.kp1 (Ext.tr E225 E227) Q229 (Nat.le_of_eq g225.symm)) E231) Q233 (Nat.le_of_eq g225.symm)) E235) Q237 (Nat.le_of_eq g225.symm)) E239) Q241 (Nat.le_of_eq g225.symm)) E243) Q245 (Nat.le_of_eq g225.symm)) E247) Q249 (Nat.le_of_eq g225.symm)) E251) Q255 (Nat.le_trans (Ext.kp1 (Ext.tr (Ext.kp1 (Ext.tr (Ext.kp1 (Ext.tr (Ext.kp1 (Ext.tr (Ext.kp1 (Ext.tr (Ext.kp1 (Ext.tr E225 E227) Q229 (Nat.le_of_eq g225.symm)) E231) Q233 (Nat.le_of_eq g225.symm)) E235) Q237 (Nat.le_of_eq g225.symm)) E239) Q241 (Nat.le_of_eq g225.symm)) E243) Q245 (Nat.le_of_eq g225.symm)) E247) Q249 (Nat.le_of_eq g225.symm)).1 (Nat.le_of_eq g251.symm))) E257) E259) E264) E266)) (Sc.ext (Ext.tr (Ext.tr (Ext.tr (Ext.tr (Ext.kp1 (Ext.tr (Ext.kp1 (Ext.tr (Ext.kp1 (Ext.tr (Ext.kp1 (Ext.tr (Ext.kp1 (Ext.tr (Ext.kp1 (Ext.tr (Ext.kp1 (Ext.tr E225 E227) Q229 (Nat.le_of_eq g225.symm)) E231) Q233 (Nat.le_of_eq g225.symm)) E235) Q237 (Nat.le_of_eq g225.symm)) E239) Q241 (Nat.le_of_eq g225.symm)) E243) Q245 (Nat.le_of_eq g225.symm)) E247) Q249 (Nat.le_of_eq g225.symm)) E251) Q255 (Nat.le_trans (Ext.kp1 (Ext.tr (Ext.kp1 (Ext.tr (Ext.kp1 (Ext.tr (Ext.kp1 (Ext.tr (Ext.kp1 (Ext.tr (Ext.kp1 (Ext.tr E225 E227) Q229 (Nat.le_of_eq g225.symm)) E231) Q233 (Nat.le_of_eq g225.symm)) E235) Q237 (Nat.le_of_eq g225.symm)) E239) Q241 (Nat.le_of_eq g225.symm)) E243) Q245 (Nat.le_of_eq g225.symm)) E247) Q249 (Nat.le_of_eq g225.symm)).1 (Nat.le_of_eq g251.symm))) E257) E259) E264) E266)) hz (St255.ext (Ext.tr (Ext.tr (Ext.tr E257 E259) E264) E266))) (hw _ (List.mem_of_getElem? (i := 39) rfl)) (hw _ (List.mem_of_getElem? (i := 38) rfl)) (by decide) (by decide)) (fun _ q => nomatch q) pd5 rfl rfl (Nat.le_of_eq rfl) rfl (by decide) (by decide) (by decide) (fun v269 T269 h269 K269 Q269 q269 => ?_)
            have E269 := Ext.of0 Q269
            have P270 := P267.ext E269
            cases q269
            rw [if_neg hc0, if_pos hc1]
            refine gAload K269 L_402 (v := (.ref v1)) rfl rfl ?_
            refine gAcmp_ne K269 L_404 rfl rfl (fun q => absurd q (by first | decide | (intro hh; cases hh) | simp)) (fun q404 => ?_)
            refine gIconst K269 (1 : Int32) L_407 rfl ?_
            refine gGoto K269 L_408 ?_
            refine gRetI K269 hlk hret (by simp) L_412 rfl P270 (by decide) (by decide) ?_
            exact rfl
          · skip
            refine gIf_eq K266 L_389 (fun q389 => ?_) (fun q => absurd q (by first | decide | (intro hh; cases hh) | simp))
            refine gAload K266 L_397 (v := (.ref x251)) rfl rfl ?_
            refine gCallS K266 (W := 0) [(.ref x251)] [] L_399 (hw _ (List.mem_of_getElem? (i := 36) rfl)) (hw _ (List.mem_of_getElem? (i := 37) rfl)) (hw _ (List.mem_of_getElem? (i := 38) rfl)) (hw _ (List.mem_of_getElem? (i := 39) rfl)) (Cal.ofN (W := 0) (c_look l Z a0 hw h266 n0 K266.n0le x251 cs va kV dv v0 l0 v1 l1 z (Sv.ext (Ext.tr (Ext.tr (Ext.tr (Ext.tr (Ext.kp1 (Ext.tr (Ext.kp1 (Ext.tr (Ext.kp1 (Ext.tr (Ext.kp1 (Ext.tr (Ext.kp1 (Ext.tr (Ext.kp1 (Ext.tr (Ext.kp1 (Ext.tr E225 E227) Q229 (Nat.le_of_eq g225.symm)) E231) Q233 (Nat.le_of_eq g225.symm)) E235) Q237 (Nat.le_of_eq g225.symm)) E239) Q241 (Nat.le_of_eq g225.symm)) E243) Q245 (Nat.le_of_eq g225.symm)) E247) Q249 (Nat.le_of_eq g225.symm)) E251) Q255 (Nat.le_trans (Ext.kp1 (Ext.tr (Ext.kp1 (Ext.tr (Ext.kp1 (Ext.tr (Ext.kp1 (Ext.tr (Ext.kp1 (Ext.tr (Ext.kp1 (Ext.tr E225 E227) Q229 (Nat.le_of_eq g225.symm)) E231) Q233 (Nat.le_of_eq g225.symm)) E235) Q237 (Nat.le_of_eq g225.symm)) E239) Q241 (Nat.le_of_eq g225.symm)) E243) Q245 (Nat.le_of_eq g225.symm)) E247) Q249 (Nat.le_of_eq g225.symm)).1 (Nat.le_of_eq g251.symm))) E257) E259) E264) E266)) (Av.ext (Ext.tr (Ext.tr (Ext.tr (Ext.tr (Ext.kp1 (Ext.tr (Ext.kp1 (Ext.tr (Ext.kp1 (Ext.tr (Ext.kp1 (Ext.tr (Ext.kp1 (Ext.tr (Ext.kp1 (Ext.tr (Ext.kp1 (Ext.tr E225 E227) Q229 (Nat.le_of_eq g225.symm)) E231) Q233 (Nat.le_of_eq g225.symm)) E235) Q237 (Nat.le_of_eq g225.symm)) E239) Q241 (Nat.le_of_eq g225.symm)) E243) Q245 (Nat.le_of_eq g225.symm)) E247) Q249 (Nat.le_of_eq g225.symm)) E251) Q255 (Nat.le_trans (Ext.kp1 (Ext.tr (Ext.kp1 (Ext.tr (Ext.kp1 (Ext.tr (Ext.kp1 (Ext.tr (Ext.kp1 (Ext.tr (Ext.kp1 (Ext.tr E225 E227) Q229 (Nat.le_of_eq g225.symm)) E231) Q233 (Nat.le_of_eq g225.symm)) E235) Q237 (Nat.le_of_eq g225.symm)) E239) Q241 (Nat.le_of_eq g225.symm)) E243) Q245 (Nat.le_of_eq g225.symm)) E247) Q249 (Nat.le_of_eq g225.symm)).1 (Nat.le_of_eq g251.symm))) E257) E259) E264) E266)) (Ev.ext (Ext.tr (Ext.tr (Ext.tr (Ext.tr (Ext.kp1 (Ext.tr (Ext.kp1 (Ext.tr (Ext.kp1 (Ext.tr (Ext.kp1 (Ext.tr (Ext.kp1 (Ext.tr (Ext.kp1 (Ext.tr (Ext.kp1 (Ext.tr E225 E227) Q229 (Nat.le_of_eq g225.symm)) E231) Q233 (Nat.le_of_eq g225.symm)) E235) Q237 (Nat.le_of_eq g225.symm)) E239) Q241 (Nat.le_of_eq g225.symm)) E243) Q245 (Nat.le_of_eq g225.symm)) E247) Q249 (Nat.le_of_eq g225.symm)) E251) Q255 (Nat.le_trans (Ext.kp1 (Ext.tr (Ext.kp1 (Ext.tr (Ext.kp1 (Ext.tr (Ext.kp1 (Ext.tr (Ext.kp1 (Ext.tr (Ext.kp1 (Ext.tr E225 E227) Q229 (Nat.le_of_eq g225.symm)) E231) Q233 (Nat.le_of_eq g225.symm)) E235) Q237 (Nat.le_of_eq g225.symm)) E239) Q241 (Nat.le_of_eq g225.symm)) E243) Q245 (Nat.le_of_eq g225.symm)) E247) Q249 (Nat.le_of_eq g225.symm)).1 (Nat.le_of_eq g251.symm))) E257) E259) E264) E266)) (F0.ext (Ext.tr (Ext.tr (Ext.tr (Ext.tr (Ext.kp1 (Ext.tr (Ext.kp1 (Ext.tr (Ext.kp1 (Ext.tr (Ext.kp1 (Ext.tr (Ext.kp1 (Ext.tr (Ext.kp1 (Ext.tr (Ext.kp1 (Ext.tr E225 E227) Q229 (Nat.le_of_eq g225.symm)) E231) Q233 (Nat.le_of_eq g225.symm)) E235) Q237 (Nat.le_of_eq g225.symm)) E239) Q241 (Nat.le_of_eq g225.symm)) E243) Q245 (Nat.le_of_eq g225.symm)) E247) Q249 (Nat.le_of_eq g225.symm)) E251) Q255 (Nat.le_trans (Ext.kp1 (Ext.tr (Ext.kp1 (Ext.tr (Ext.kp1 (Ext.tr (Ext.kp1 (Ext.tr (Ext.kp1 (Ext.tr (Ext.kp1 (Ext.tr E225 E227) Q229 (Nat.le_of_eq g225.symm)) E231) Q233 (Nat.le_of_eq g225.symm)) E235) Q237 (Nat.le_of_eq g225.symm)) E239) Q241 (Nat.le_of_eq g225.symm)) E243) Q245 (Nat.le_of_eq g225.symm)) E247) Q249 (Nat.le_of_eq g225.symm)).1 (Nat.le_of_eq g251.symm))) E257) E259) E264) E266)) (L0.ext (Ext.tr (Ext.tr (Ext.tr (Ext.tr (Ext.kp1 (Ext.tr (Ext.kp1 (Ext.tr (Ext.kp1 (Ext.tr (Ext.kp1 (Ext.tr (Ext.kp1 (Ext.tr (Ext.kp1 (Ext.tr (Ext.kp1 (Ext.tr E225 E227) Q229 (Nat.le_of_eq g225.symm)) E231) Q233 (Nat.le_of_eq g225.symm)) E235) Q237 (Nat.le_of_eq g225.symm)) E239) Q241 (Nat.le_of_eq g225.symm)) E243) Q245 (Nat.le_of_eq g225.symm)) E247) Q249 (Nat.le_of_eq g225.symm)) E251) Q255 (Nat.le_trans (Ext.kp1 (Ext.tr (Ext.kp1 (Ext.tr (Ext.kp1 (Ext.tr (Ext.kp1 (Ext.tr (Ext.kp1 (Ext.tr (Ext.kp1 (Ext.tr E225 E227) Q229 (Nat.le_of_eq g225.symm)) E231) Q233 (Nat.le_of_eq g225.symm)) E235) Q237 (Nat.le_of_eq g225.symm)) E239) Q241 (Nat.le_of_eq g225.symm)) E243) Q245 (Nat.le_of_eq g225.symm)) E247) Q249 (Nat.le_of_eq g225.symm)).1 (Nat.le_of_eq g251.symm))) E257) E259) E264) E266)) (F1.ext (Ext.tr (Ext.tr (Ext.tr (Ext.tr (Ext.kp1 (Ext.tr (Ext.kp1 (Ext.tr (Ext.kp1 (Ext.tr (Ext.kp1 (Ext.tr (Ext.kp1 (Ext.tr (Ext.kp1 (Ext.tr (Ext.kp1 (Ext.tr E225 E227) Q229 (Nat.le_of_eq g225.symm)) E231) Q233 (Nat.le_of_eq g225.symm)) E235) Q237 (Nat.le_of_eq g225.symm)) E239) Q241 (Nat.le_of_eq g225.symm)) E243) Q245 (Nat.le_of_eq g225.symm)) E247) Q249 (Nat.le_of_eq g225.symm)) E251) Q255 (Nat.le_trans (Ext.kp1 (Ext.tr (Ext.kp1 (Ext.tr (Ext.kp1 (Ext.tr (Ext.kp1 (Ext.tr (Ext.kp1 (Ext.tr (Ext.kp1 (Ext.tr E225 E227) Q229 (Nat.le_of_eq g225.symm)) E231) Q233 (Nat.le_of_eq g225.symm)) E235) Q237 (Nat.le_of_eq g225.symm)) E239) Q241 (Nat.le_of_eq g225.symm)) E243) Q245 (Nat.le_of_eq g225.symm)) E247) Q249 (Nat.le_of_eq g225.symm)).1 (Nat.le_of_eq g251.symm))) E257) E259) E264) E266)) (L1.ext (Ext.tr (Ext.tr (Ext.tr (Ext.tr (Ext.kp1 (Ext.tr (Ext.kp1 (Ext.tr (Ext.kp1 (Ext.tr (Ext.kp1 (Ext.tr (Ext.kp1 (Ext.tr (Ext.kp1 (Ext.tr (Ext.kp1 (Ext.tr E225 E227) Q229 (Nat.le_of_eq g225.symm)) E231) Q233 (Nat.le_of_eq g225.symm)) E235) Q237 (Nat.le_of_eq g225.symm)) E239) Q241 (Nat.le_of_eq g225.symm)) E243) Q245 (Nat.le_of_eq g225.symm)) E247) Q249 (Nat.le_of_eq g225.symm)) E251) Q255 (Nat.le_trans (Ext.kp1 (Ext.tr (Ext.kp1 (Ext.tr (Ext.kp1 (Ext.tr (Ext.kp1 (Ext.tr (Ext.kp1 (Ext.tr (Ext.kp1 (Ext.tr E225 E227) Q229 (Nat.le_of_eq g225.symm)) E231) Q233 (Nat.le_of_eq g225.symm)) E235) Q237 (Nat.le_of_eq g225.symm)) E239) Q241 (Nat.le_of_eq g225.symm)) E243) Q245 (Nat.le_of_eq g225.symm)) E247) Q249 (Nat.le_of_eq g225.symm)).1 (Nat.le_of_eq g251.symm))) E257) E259) E264) E266)) (Sc.ext (Ext.tr (Ext.tr (Ext.tr (Ext.tr (Ext.kp1 (Ext.tr (Ext.kp1 (Ext.tr (Ext.kp1 (Ext.tr (Ext.kp1 (Ext.tr (Ext.kp1 (Ext.tr (Ext.kp1 (Ext.tr (Ext.kp1 (Ext.tr E225 E227) Q229 (Nat.le_of_eq g225.symm)) E231) Q233 (Nat.le_of_eq g225.symm)) E235) Q237 (Nat.le_of_eq g225.symm)) E239) Q241 (Nat.le_of_eq g225.symm)) E243) Q245 (Nat.le_of_eq g225.symm)) E247) Q249 (Nat.le_of_eq g225.symm)) E251) Q255 (Nat.le_trans (Ext.kp1 (Ext.tr (Ext.kp1 (Ext.tr (Ext.kp1 (Ext.tr (Ext.kp1 (Ext.tr (Ext.kp1 (Ext.tr (Ext.kp1 (Ext.tr E225 E227) Q229 (Nat.le_of_eq g225.symm)) E231) Q233 (Nat.le_of_eq g225.symm)) E235) Q237 (Nat.le_of_eq g225.symm)) E239) Q241 (Nat.le_of_eq g225.symm)) E243) Q245 (Nat.le_of_eq g225.symm)) E247) Q249 (Nat.le_of_eq g225.symm)).1 (Nat.le_of_eq g251.symm))) E257) E259) E264) E266)) hz (St255.ext (Ext.tr (Ext.tr (Ext.tr E257 E259) E264) E266))) (hw _ (List.mem_of_getElem? (i := 39) rfl)) (hw _ (List.mem_of_getElem? (i := 38) rfl)) (by decide) (by decide)) (fun _ q => nomatch q) pd5 rfl rfl (Nat.le_of_eq rfl) rfl (by decide) (by decide) (by decide) (fun v271 T271 h271 K271 Q271 q271 => ?_)
            have E271 := Ext.of0 Q271
            have P272 := P267.ext E271
            cases q271
            rw [if_neg hc0, if_neg hc1]
            refine gAload K271 L_402 (v := .null) rfl rfl ?_
            refine gAcmp_ne K271 L_404 rfl rfl (fun q => absurd q (by first | decide | (intro hh; cases hh) | simp)) (fun q404 => ?_)
            refine gIconst K271 (1 : Int32) L_407 rfl ?_
            refine gGoto K271 L_408 ?_
            refine gRetI K271 hlk hret (by simp) L_412 rfl P272 (by decide) (by decide) ?_
            exact rfl
      refine gIloadN K0 L_63 (v := shape) rfl ?_
      refine gIconst K0 (4 : Int32) L_64 rfl ?_
      refine gIand K0 L_65 ?_
      refine gIf_eq K0 L_66 (fun q66 => ?_) (fun q66 => ?_)
      · skip
        refine gIconst K0 (0 : Int32) L_73 rfl ?_
        exact j74 _ K0 (0 : Int32)
      · skip
        refine gIconst K0 (1 : Int32) L_69 rfl ?_
        refine gGoto K0 L_70 ?_
        exact j74 _ K0 (1 : Int32)
  · skip
    refine gBipush K0 (8 : Int32) L_10 rfl ?_
    refine gGoto K0 L_12 ?_
    refine gIstore K0 L_17 (Ls' := #[.val (.int pick), .val (.int shape), .val (.int pos), .val (.int chh), .val (.int ext), .val (.int wh), .val (.int (8 : Int32)), .unset, .unset, .unset, .unset, .unset, .unset, .unset, .unset, .unset]) rfl ?_
    refine gIloadN K0 L_19 (v := shape) rfl ?_
    refine gIconst K0 (3 : Int32) L_20 rfl ?_
    refine gIand K0 L_21 ?_
    refine gIstore K0 L_22 (Ls' := #[.val (.int pick), .val (.int shape), .val (.int pos), .val (.int chh), .val (.int ext), .val (.int wh), .val (.int (8 : Int32)), .val (.int (shape &&& (3 : Int32))), .unset, .unset, .unset, .unset, .unset, .unset, .unset, .unset]) rfl ?_
    refine gIload K0 L_24 (v := (shape &&& (3 : Int32))) rfl ?_
    refine gIf_ne K0 L_26 (fun q26 => ?_) (fun q26 => ?_)
    · skip
      refine gIload K0 L_34 (v := (shape &&& (3 : Int32))) rfl ?_
      refine gIconst K0 (1 : Int32) L_36 rfl ?_
      refine gIcmp_ne K0 L_37 (fun q37 => ?_) (fun q37 => ?_)
      · skip
        refine gIload K0 L_47 (v := (shape &&& (3 : Int32))) rfl ?_
        refine gIconst K0 (2 : Int32) L_49 rfl ?_
        refine gIcmp_ne K0 L_50 (fun q50 => ?_) (fun q50 => ?_)
        · skip
          refine gIconst K0 (0 : Int32) L_60 rfl ?_
          refine gIstore K0 L_61 (Ls' := #[.val (.int pick), .val (.int shape), .val (.int pos), .val (.int chh), .val (.int ext), .val (.int wh), .val (.int (8 : Int32)), .val (.int (shape &&& (3 : Int32))), .val (.int (0 : Int32)), .unset, .unset, .unset, .unset, .unset, .unset, .unset]) rfl ?_
          have j74 : ∀ (T273 : State) (K273 : Cx p l e room_1 s m #[(.int pick), (.int shape), (.int pos), (.int chh), (.int ext)] below meth c code maxLocals Z "com/example/tranche/tranche/calendar/CityFromLabelPinLaw" n0 (some [("com/example/tranche/tranche/calendar/CityFromLabelPinLaw", 19), ("com/example/tranche/tranche/calendar/CityFromLabelPinLaw", 31), ("java/lang/String", 7)]) T273 h0 [] 0 0) (sb : Int32), Go p e below (End (some [("com/example/tranche/tranche/calendar/CityFromLabelPinLaw", 19), ("com/example/tranche/tranche/calendar/CityFromLabelPinLaw", 31), ("java/lang/String", 7)]) s Z n0 h0 [] room_1.cells room_1.slots (fun v h => v = some (.int 1))) T273 (mkF m 74 #[.val (.int pick), .val (.int shape), .val (.int pos), .val (.int chh), .val (.int ext), .val (.int wh), .val (.int (8 : Int32)), .val (.int (shape &&& (3 : Int32))), .val (.int (0 : Int32)), .unset, .unset, .unset, .unset, .unset, .unset, .unset] [(.int sb)]) := by
            intro T273 K273 sb
            refine gIstore K273 L_74 (Ls' := #[.val (.int pick), .val (.int shape), .val (.int pos), .val (.int chh), .val (.int ext), .val (.int wh), .val (.int (8 : Int32)), .val (.int (shape &&& (3 : Int32))), .val (.int (0 : Int32)), .val (.int sb), .unset, .unset, .unset, .unset, .unset, .unset]) rfl ?_
            refine gIloadN K273 L_76 (v := pos) rfl ?_
            refine gLdcI K273 (2147483647 : Int32) L_77 (hw _ (List.mem_of_getElem? (i := 0) rfl)) ?_
            refine gIand K273 L_79 ?_
            refine gBipush K273 (9 : Int32) L_80 rfl ?_
            refine gIrem K273 L_82 (by decide) ?_
            generalize ((pos &&& (2147483647 : Int32)) % (9 : Int32)) = pp
            refine gIstore K273 L_83 (Ls' := #[.val (.int pick), .val (.int shape), .val (.int pos), .val (.int chh), .val (.int ext), .val (.int wh), .val (.int (8 : Int32)), .val (.int (shape &&& (3 : Int32))), .val (.int (0 : Int32)), .val (.int sb), .val (.int pp), .unset, .unset, .unset, .unset, .unset]) rfl ?_
            refine gIloadN K273 L_85 (v := chh) rfl ?_
            refine gSipush K273 (255 : Int32) L_86 rfl ?_
            refine gIand K273 L_89 ?_
            refine gI2c K273 L_90 ?_
            have hb_c_ := and255c chh
            generalize ((chh &&& (255 : Int32))).toUInt32.toUInt16.toUInt32.toInt32 = c_ at hb_c_ ⊢
            refine gIstore K273 L_91 (Ls' := #[.val (.int pick), .val (.int shape), .val (.int pos), .val (.int chh), .val (.int ext), .val (.int wh), .val (.int (8 : Int32)), .val (.int (shape &&& (3 : Int32))), .val (.int (0 : Int32)), .val (.int sb), .val (.int pp), .val (.int c_), .unset, .unset, .unset, .unset]) rfl ?_
            refine gIload K273 L_93 (v := ext) rfl ?_
            refine gSipush K273 (255 : Int32) L_95 rfl ?_
            refine gIand K273 L_98 ?_
            refine gI2c K273 L_99 ?_
            have hb_e_ := and255c ext
            generalize ((ext &&& (255 : Int32))).toUInt32.toUInt16.toUInt32.toInt32 = e_ at hb_e_ ⊢
            refine gIstore K273 L_100 (Ls' := #[.val (.int pick), .val (.int shape), .val (.int pos), .val (.int chh), .val (.int ext), .val (.int wh), .val (.int (8 : Int32)), .val (.int (shape &&& (3 : Int32))), .val (.int (0 : Int32)), .val (.int sb), .val (.int pp), .val (.int c_), .val (.int e_), .unset, .unset, .unset]) rfl ?_
            refine gIload K273 L_102 (v := (0 : Int32)) rfl ?_
            refine gNewarr K273 L_104 (hw _ (List.mem_of_getElem? (i := 1) rfl)) (by decide) 0 (by decide) (by decide) (by decide) (by decide) (fun T274 h274 x274 kA274 K274 E274 g274 A274 ne274 => ?_)
            have P275 := P0.ext E274
            have ge_x274 : h0.size ≤ x274 := by rw [g274]; exact P0.1
            refine gAstore K274 L_106 rfl (Ls' := #[.val (.int pick), .val (.int shape), .val (.int pos), .val (.int chh), .val (.int ext), .val (.int wh), .val (.int (8 : Int32)), .val (.int (shape &&& (3 : Int32))), .val (.int (0 : Int32)), .val (.int sb), .val (.int pp), .val (.int c_), .val (.int e_), .val (.ref x274), .unset, .unset]) rfl ?_
            refine gIload K274 L_108 (v := (0 : Int32)) rfl ?_
            refine gIf_le K274 L_110 (fun q110 => ?_) (fun q => absurd q (by first | decide | (intro hh; cases hh) | simp))
            refine gIload K274 L_133 (v := (0 : Int32)) rfl ?_
            refine gIconst K274 (1 : Int32) L_135 rfl ?_
            refine gIcmp_le K274 L_136 (fun q136 => ?_) (fun q => absurd q (by first | decide | (intro hh; cases hh) | simp))
            refine gIload K274 L_159 (v := (0 : Int32)) rfl ?_
            refine gIconst K274 (2 : Int32) L_161 rfl ?_
            refine gIcmp_le K274 L_162 (fun q162 => ?_) (fun q => absurd q (by first | decide | (intro hh; cases hh) | simp))
            refine gIload K274 L_185 (v := (0 : Int32)) rfl ?_
            refine gIconst K274 (3 : Int32) L_187 rfl ?_
            refine gIcmp_le K274 L_188 (fun q188 => ?_) (fun q => absurd q (by first | decide | (intro hh; cases hh) | simp))
            refine gIload K274 L_211 (v := (0 : Int32)) rfl ?_
            refine gIconst K274 (4 : Int32) L_213 rfl ?_
            refine gIcmp_le K274 L_214 (fun q214 => ?_) (fun q => absurd q (by first | decide | (intro hh; cases hh) | simp))
            refine gIload K274 L_237 (v := (0 : Int32)) rfl ?_
            refine gIconst K274 (5 : Int32) L_239 rfl ?_
            refine gIcmp_le K274 L_240 (fun q240 => ?_) (fun q => absurd q (by first | decide | (intro hh; cases hh) | simp))
            refine gIload K274 L_263 (v := (0 : Int32)) rfl ?_
            refine gBipush K274 (6 : Int32) L_265 rfl ?_
            refine gIcmp_le K274 L_267 (fun q267 => ?_) (fun q => absurd q (by first | decide | (intro hh; cases hh) | simp))
            refine gIload K274 L_292 (v := (0 : Int32)) rfl ?_
            refine gBipush K274 (7 : Int32) L_294 rfl ?_
            refine gIcmp_le K274 L_296 (fun q296 => ?_) (fun q => absurd q (by first | decide | (intro hh; cases hh) | simp))
            refine gIload K274 L_321 (v := (0 : Int32)) rfl ?_
            refine gBipush K274 (8 : Int32) L_323 rfl ?_
            refine gIcmp_le K274 L_325 (fun q325 => ?_) (fun q => absurd q (by first | decide | (intro hh; cases hh) | simp))
            refine gNew K274 L_350 (hw _ (List.mem_of_getElem? (i := 2) rfl)) (hw _ (List.mem_of_getElem? (i := 3) rfl)) (hw _ (List.mem_of_getElem? (i := 4) rfl)) (by decide) (by decide) (fun T276 h276 x276 K276 E276 g276 A276 D276 ne276 => ?_)
            have P277 := P275.ext E276
            have ge_x276 : h0.size ≤ x276 := by rw [g276]; exact P275.1
            have F278 : Fld Z h276 x276 "java/lang/String" "value" "[B" .null := (D276 (Or.inr (hw _ (List.mem_of_getElem? (i := 17) rfl))) (ty := (.array .byte)) (by decide))
            have F279 : Fld Z h276 x276 "java/lang/String" "coder" "B" (.int (0 : Int32)) := (D276 (Or.inr (hw _ (List.mem_of_getElem? (i := 18) rfl))) (ty := .byte) (by decide))
            refine gDup K276 L_353 rfl ?_
            refine gAload K276 L_354 (v := (.ref x274)) rfl rfl ?_
            refine gCallI K276 (W := 1) x276 [(.ref x274)] [(.ref x276)] L_356 rfl (hw _ (List.mem_of_getElem? (i := 5) rfl)) (hw _ (List.mem_of_getElem? (i := 6) rfl)) (hw _ (List.mem_of_getElem? (i := 7) rfl)) (cal_str hw hE (W := 1) (cs := []) 0 (K276.wsge (List.mem_of_getElem? (i := 0) rfl)) K276.n0le A276 F278 F279 (A274.ext E276) (Sc.ext (Ext.tr E274 E276)) hz rfl (by decide) allI0 (by decide) (by decide) 8 (by decide) (by decide)) (fun z q => by cases List.mem_singleton.mp q; exact (List.mem_of_getElem? (i := 0) rfl)) pd4 rfl rfl (Nat.le_of_eq rfl) rfl (by decide) (by decide) (by decide) (fun v280 T280 h280 K280 Q280 q280 => ?_)
            have P281 := P277.trans Q280 (fun z q => by cases List.mem_singleton.mp q; exact Or.inr ge_x276)
            obtain ⟨rfl, St280⟩ := q280
            generalize hcs : ([] : List Int32) = cs at St280
            refine gAstore K280 L_359 rfl (Ls' := #[.val (.int pick), .val (.int shape), .val (.int pos), .val (.int chh), .val (.int ext), .val (.int wh), .val (.int (8 : Int32)), .val (.int (shape &&& (3 : Int32))), .val (.int (0 : Int32)), .val (.int sb), .val (.int pp), .val (.int c_), .val (.int e_), .val (.ref x274), .val (.ref x276), .unset]) rfl ?_
            refine gNull K280 L_361 ?_
            refine gAstore K280 L_362 rfl (Ls' := #[.val (.int pick), .val (.int shape), .val (.int pos), .val (.int chh), .val (.int ext), .val (.int wh), .val (.int (8 : Int32)), .val (.int (shape &&& (3 : Int32))), .val (.int (0 : Int32)), .val (.int sb), .val (.int pp), .val (.int c_), .val (.int e_), .val (.ref x274), .val (.ref x276), .val .null]) rfl ?_
            refine gAload K280 L_364 (v := (.ref x276)) rfl rfl ?_
            refine gLdc K280 L_366 (hw _ (List.mem_of_getElem? (i := 23) rfl)) (hsA hw) (by decide) (vs := ([(110 : Int32), (101 : Int32), (119 : Int32), (45 : Int32), (121 : Int32), (111 : Int32), (114 : Int32), (107 : Int32)].map StrChars.lo8).map Value.int) (z := Int32.ofNat 8) (by decide +kernel) (by decide) (by decide) 32 (by decide) (by decide) (by decide) (by decide) (fun T282 h282 a282 b282 kA282 K282 E282 Ea282 Fc282 Fv282 Ab282 ne282 => ?_)
            have P283 := P281.ext E282
            have Sl282 : StrL Z h282 a282 [(110 : Int32), (101 : Int32), (119 : Int32), (45 : Int32), (121 : Int32), (111 : Int32), (114 : Int32), (107 : Int32)] := ⟨b282, kA282, Ea282, Fc282, Fv282, Ab282, by decide, by decide⟩
            refine gCallV K282 (W := 0) (C := "java/lang/String") x276 [(.ref a282)] [] L_368 (hw _ (List.mem_of_getElem? (i := 24) rfl)) (hw _ (List.mem_of_getElem? (i := 25) rfl)) (hw _ (List.mem_of_getElem? (i := 27) rfl)) (hw _ (List.mem_of_getElem? (i := 26) rfl)) (cal_eq hw (W := 0) (St280.ext E282) Sl282 (Sc.ext (Ext.tr (Ext.kp1 (Ext.tr E274 E276) Q280 (Nat.le_trans E274.1 (Nat.le_of_eq g276.symm))) E282)) hz (by decide) (by decide)) ((St280.ext E282)).exa (fun _ q => nomatch q) pd1 rfl rfl (Nat.le_of_eq rfl) rfl (by decide) (by decide) (by decide) (fun v284 T284 h284 K284 Q284 q284 => ?_)
            have E284 := Ext.of0 Q284
            have P285 := P283.ext E284
            rcases q284 with ⟨rfl, hc0⟩ | ⟨rfl, hc0⟩
            · skip
              refine gIf_eq K284 L_371 (fun q => absurd q (by first | decide | (intro hh; cases hh) | simp)) (fun q371 => ?_)
              refine gGetS K284 L_374 (hw _ (List.mem_of_getElem? (i := 96) rfl)) (S0.ext (Ext.tr (Ext.tr (Ext.kp1 (Ext.tr E274 E276) Q280 (Nat.le_trans E274.1 (Nat.le_of_eq g276.symm))) E282) E284)) (fun T286 K286 => ?_)
              refine gAstore K286 L_377 rfl (Ls' := #[.val (.int pick), .val (.int shape), .val (.int pos), .val (.int chh), .val (.int ext), .val (.int wh), .val (.int (8 : Int32)), .val (.int (shape &&& (3 : Int32))), .val (.int (0 : Int32)), .val (.int sb), .val (.int pp), .val (.int c_), .val (.int e_), .val (.ref x274), .val (.ref x276), .val (.ref v0)]) rfl ?_
              refine gGoto K286 L_379 ?_
              refine gAload K286 L_397 (v := (.ref x276)) rfl rfl ?_
              refine gCallS K286 (W := 0) [(.ref x276)] [] L_399 (hw _ (List.mem_of_getElem? (i := 36) rfl)) (hw _ (List.mem_of_getElem? (i := 37) rfl)) (hw _ (List.mem_of_getElem? (i := 38) rfl)) (hw _ (List.mem_of_getElem? (i := 39) rfl)) (Cal.ofN (W := 0) (c_look l Z a0 hw h284 n0 K286.n0le x276 cs va kV dv v0 l0 v1 l1 z (Sv.ext (Ext.tr (Ext.tr (Ext.kp1 (Ext.tr E274 E276) Q280 (Nat.le_trans E274.1 (Nat.le_of_eq g276.symm))) E282) E284)) (Av.ext (Ext.tr (Ext.tr (Ext.kp1 (Ext.tr E274 E276) Q280 (Nat.le_trans E274.1 (Nat.le_of_eq g276.symm))) E282) E284)) (Ev.ext (Ext.tr (Ext.tr (Ext.kp1 (Ext.tr E274 E276) Q280 (Nat.le_trans E274.1 (Nat.le_of_eq g276.symm))) E282) E284)) (F0.ext (Ext.tr (Ext.tr (Ext.kp1 (Ext.tr E274 E276) Q280 (Nat.le_trans E274.1 (Nat.le_of_eq g276.symm))) E282) E284)) (L0.ext (Ext.tr (Ext.tr (Ext.kp1 (Ext.tr E274 E276) Q280 (Nat.le_trans E274.1 (Nat.le_of_eq g276.symm))) E282) E284)) (F1.ext (Ext.tr (Ext.tr (Ext.kp1 (Ext.tr E274 E276) Q280 (Nat.le_trans E274.1 (Nat.le_of_eq g276.symm))) E282) E284)) (L1.ext (Ext.tr (Ext.tr (Ext.kp1 (Ext.tr E274 E276) Q280 (Nat.le_trans E274.1 (Nat.le_of_eq g276.symm))) E282) E284)) (Sc.ext (Ext.tr (Ext.tr (Ext.kp1 (Ext.tr E274 E276) Q280 (Nat.le_trans E274.1 (Nat.le_of_eq g276.symm))) E282) E284)) hz (St280.ext (Ext.tr E282 E284))) (hw _ (List.mem_of_getElem? (i := 39) rfl)) (hw _ (List.mem_of_getElem? (i := 38) rfl)) (by decide) (by decide)) (fun _ q => nomatch q) pd5 rfl rfl (Nat.le_of_eq rfl) rfl (by decide) (by decide) (by decide) (fun v287 T287 h287 K287 Q287 q287 => ?_)
              have E287 := Ext.of0 Q287
              have P288 := P285.ext E287
              cases q287
              rw [if_pos hc0]
              refine gAload K287 L_402 (v := (.ref v0)) rfl rfl ?_
              refine gAcmp_ne K287 L_404 rfl rfl (fun q => absurd q (by first | decide | (intro hh; cases hh) | simp)) (fun q404 => ?_)
              refine gIconst K287 (1 : Int32) L_407 rfl ?_
              refine gGoto K287 L_408 ?_
              refine gRetI K287 hlk hret (by simp) L_412 rfl P288 (by decide) (by decide) ?_
              exact rfl
            · skip
              refine gIf_eq K284 L_371 (fun q371 => ?_) (fun q => absurd q (by first | decide | (intro hh; cases hh) | simp))
              refine gAload K284 L_382 (v := (.ref x276)) rfl rfl ?_
              refine gLdc K284 L_384 (hw _ (List.mem_of_getElem? (i := 35) rfl)) (hsA hw) (by decide) (vs := ([(108 : Int32), (111 : Int32), (110 : Int32), (100 : Int32), (111 : Int32), (110 : Int32)].map StrChars.lo8).map Value.int) (z := Int32.ofNat 6) (by decide +kernel) (by decide) (by decide) 24 (by decide) (by decide) (by decide) (by decide) (fun T289 h289 a289 b289 kA289 K289 E289 Ea289 Fc289 Fv289 Ab289 ne289 => ?_)
              have P290 := P285.ext E289
              have Sl289 : StrL Z h289 a289 [(108 : Int32), (111 : Int32), (110 : Int32), (100 : Int32), (111 : Int32), (110 : Int32)] := ⟨b289, kA289, Ea289, Fc289, Fv289, Ab289, by decide, by decide⟩
              refine gCallV K289 (W := 0) (C := "java/lang/String") x276 [(.ref a289)] [] L_386 (hw _ (List.mem_of_getElem? (i := 24) rfl)) (hw _ (List.mem_of_getElem? (i := 25) rfl)) (hw _ (List.mem_of_getElem? (i := 27) rfl)) (hw _ (List.mem_of_getElem? (i := 26) rfl)) (cal_eq hw (W := 0) (St280.ext (Ext.tr (Ext.tr E282 E284) E289)) Sl289 (Sc.ext (Ext.tr (Ext.tr (Ext.tr (Ext.kp1 (Ext.tr E274 E276) Q280 (Nat.le_trans E274.1 (Nat.le_of_eq g276.symm))) E282) E284) E289)) hz (by decide) (by decide)) ((St280.ext (Ext.tr (Ext.tr E282 E284) E289))).exa (fun _ q => nomatch q) pd1 rfl rfl (Nat.le_of_eq rfl) rfl (by decide) (by decide) (by decide) (fun v291 T291 h291 K291 Q291 q291 => ?_)
              have E291 := Ext.of0 Q291
              have P292 := P290.ext E291
              rcases q291 with ⟨rfl, hc1⟩ | ⟨rfl, hc1⟩
              · skip
                refine gIf_eq K291 L_389 (fun q => absurd q (by first | decide | (intro hh; cases hh) | simp)) (fun q389 => ?_)
                refine gGetS K291 L_392 (hw _ (List.mem_of_getElem? (i := 94) rfl)) (S1.ext (Ext.tr (Ext.tr (Ext.tr (Ext.tr (Ext.kp1 (Ext.tr E274 E276) Q280 (Nat.le_trans E274.1 (Nat.le_of_eq g276.symm))) E282) E284) E289) E291)) (fun T293 K293 => ?_)
                refine gAstore K293 L_395 rfl (Ls' := #[.val (.int pick), .val (.int shape), .val (.int pos), .val (.int chh), .val (.int ext), .val (.int wh), .val (.int (8 : Int32)), .val (.int (shape &&& (3 : Int32))), .val (.int (0 : Int32)), .val (.int sb), .val (.int pp), .val (.int c_), .val (.int e_), .val (.ref x274), .val (.ref x276), .val (.ref v1)]) rfl ?_
                refine gAload K293 L_397 (v := (.ref x276)) rfl rfl ?_
                refine gCallS K293 (W := 0) [(.ref x276)] [] L_399 (hw _ (List.mem_of_getElem? (i := 36) rfl)) (hw _ (List.mem_of_getElem? (i := 37) rfl)) (hw _ (List.mem_of_getElem? (i := 38) rfl)) (hw _ (List.mem_of_getElem? (i := 39) rfl)) (Cal.ofN (W := 0) (c_look l Z a0 hw h291 n0 K293.n0le x276 cs va kV dv v0 l0 v1 l1 z (Sv.ext (Ext.tr (Ext.tr (Ext.tr (Ext.tr (Ext.kp1 (Ext.tr E274 E276) Q280 (Nat.le_trans E274.1 (Nat.le_of_eq g276.symm))) E282) E284) E289) E291)) (Av.ext (Ext.tr (Ext.tr (Ext.tr (Ext.tr (Ext.kp1 (Ext.tr E274 E276) Q280 (Nat.le_trans E274.1 (Nat.le_of_eq g276.symm))) E282) E284) E289) E291)) (Ev.ext (Ext.tr (Ext.tr (Ext.tr (Ext.tr (Ext.kp1 (Ext.tr E274 E276) Q280 (Nat.le_trans E274.1 (Nat.le_of_eq g276.symm))) E282) E284) E289) E291)) (F0.ext (Ext.tr (Ext.tr (Ext.tr (Ext.tr (Ext.kp1 (Ext.tr E274 E276) Q280 (Nat.le_trans E274.1 (Nat.le_of_eq g276.symm))) E282) E284) E289) E291)) (L0.ext (Ext.tr (Ext.tr (Ext.tr (Ext.tr (Ext.kp1 (Ext.tr E274 E276) Q280 (Nat.le_trans E274.1 (Nat.le_of_eq g276.symm))) E282) E284) E289) E291)) (F1.ext (Ext.tr (Ext.tr (Ext.tr (Ext.tr (Ext.kp1 (Ext.tr E274 E276) Q280 (Nat.le_trans E274.1 (Nat.le_of_eq g276.symm))) E282) E284) E289) E291)) (L1.ext (Ext.tr (Ext.tr (Ext.tr (Ext.tr (Ext.kp1 (Ext.tr E274 E276) Q280 (Nat.le_trans E274.1 (Nat.le_of_eq g276.symm))) E282) E284) E289) E291)) (Sc.ext (Ext.tr (Ext.tr (Ext.tr (Ext.tr (Ext.kp1 (Ext.tr E274 E276) Q280 (Nat.le_trans E274.1 (Nat.le_of_eq g276.symm))) E282) E284) E289) E291)) hz (St280.ext (Ext.tr (Ext.tr (Ext.tr E282 E284) E289) E291))) (hw _ (List.mem_of_getElem? (i := 39) rfl)) (hw _ (List.mem_of_getElem? (i := 38) rfl)) (by decide) (by decide)) (fun _ q => nomatch q) pd5 rfl rfl (Nat.le_of_eq rfl) rfl (by decide) (by decide) (by decide) (fun v294 T294 h294 K294 Q294 q294 => ?_)
                have E294 := Ext.of0 Q294
                have P295 := P292.ext E294
                cases q294
                rw [if_neg hc0, if_pos hc1]
                refine gAload K294 L_402 (v := (.ref v1)) rfl rfl ?_
                refine gAcmp_ne K294 L_404 rfl rfl (fun q => absurd q (by first | decide | (intro hh; cases hh) | simp)) (fun q404 => ?_)
                refine gIconst K294 (1 : Int32) L_407 rfl ?_
                refine gGoto K294 L_408 ?_
                refine gRetI K294 hlk hret (by simp) L_412 rfl P295 (by decide) (by decide) ?_
                exact rfl
              · skip
                refine gIf_eq K291 L_389 (fun q389 => ?_) (fun q => absurd q (by first | decide | (intro hh; cases hh) | simp))
                refine gAload K291 L_397 (v := (.ref x276)) rfl rfl ?_
                refine gCallS K291 (W := 0) [(.ref x276)] [] L_399 (hw _ (List.mem_of_getElem? (i := 36) rfl)) (hw _ (List.mem_of_getElem? (i := 37) rfl)) (hw _ (List.mem_of_getElem? (i := 38) rfl)) (hw _ (List.mem_of_getElem? (i := 39) rfl)) (Cal.ofN (W := 0) (c_look l Z a0 hw h291 n0 K291.n0le x276 cs va kV dv v0 l0 v1 l1 z (Sv.ext (Ext.tr (Ext.tr (Ext.tr (Ext.tr (Ext.kp1 (Ext.tr E274 E276) Q280 (Nat.le_trans E274.1 (Nat.le_of_eq g276.symm))) E282) E284) E289) E291)) (Av.ext (Ext.tr (Ext.tr (Ext.tr (Ext.tr (Ext.kp1 (Ext.tr E274 E276) Q280 (Nat.le_trans E274.1 (Nat.le_of_eq g276.symm))) E282) E284) E289) E291)) (Ev.ext (Ext.tr (Ext.tr (Ext.tr (Ext.tr (Ext.kp1 (Ext.tr E274 E276) Q280 (Nat.le_trans E274.1 (Nat.le_of_eq g276.symm))) E282) E284) E289) E291)) (F0.ext (Ext.tr (Ext.tr (Ext.tr (Ext.tr (Ext.kp1 (Ext.tr E274 E276) Q280 (Nat.le_trans E274.1 (Nat.le_of_eq g276.symm))) E282) E284) E289) E291)) (L0.ext (Ext.tr (Ext.tr (Ext.tr (Ext.tr (Ext.kp1 (Ext.tr E274 E276) Q280 (Nat.le_trans E274.1 (Nat.le_of_eq g276.symm))) E282) E284) E289) E291)) (F1.ext (Ext.tr (Ext.tr (Ext.tr (Ext.tr (Ext.kp1 (Ext.tr E274 E276) Q280 (Nat.le_trans E274.1 (Nat.le_of_eq g276.symm))) E282) E284) E289) E291)) (L1.ext (Ext.tr (Ext.tr (Ext.tr (Ext.tr (Ext.kp1 (Ext.tr E274 E276) Q280 (Nat.le_trans E274.1 (Nat.le_of_eq g276.symm))) E282) E284) E289) E291)) (Sc.ext (Ext.tr (Ext.tr (Ext.tr (Ext.tr (Ext.kp1 (Ext.tr E274 E276) Q280 (Nat.le_trans E274.1 (Nat.le_of_eq g276.symm))) E282) E284) E289) E291)) hz (St280.ext (Ext.tr (Ext.tr (Ext.tr E282 E284) E289) E291))) (hw _ (List.mem_of_getElem? (i := 39) rfl)) (hw _ (List.mem_of_getElem? (i := 38) rfl)) (by decide) (by decide)) (fun _ q => nomatch q) pd5 rfl rfl (Nat.le_of_eq rfl) rfl (by decide) (by decide) (by decide) (fun v296 T296 h296 K296 Q296 q296 => ?_)
                have E296 := Ext.of0 Q296
                have P297 := P292.ext E296
                cases q296
                rw [if_neg hc0, if_neg hc1]
                refine gAload K296 L_402 (v := .null) rfl rfl ?_
                refine gAcmp_ne K296 L_404 rfl rfl (fun q => absurd q (by first | decide | (intro hh; cases hh) | simp)) (fun q404 => ?_)
                refine gIconst K296 (1 : Int32) L_407 rfl ?_
                refine gGoto K296 L_408 ?_
                refine gRetI K296 hlk hret (by simp) L_412 rfl P297 (by decide) (by decide) ?_
                exact rfl
          refine gIloadN K0 L_63 (v := shape) rfl ?_
          refine gIconst K0 (4 : Int32) L_64 rfl ?_
          refine gIand K0 L_65 ?_
          refine gIf_eq K0 L_66 (fun q66 => ?_) (fun q66 => ?_)
          · skip
            refine gIconst K0 (0 : Int32) L_73 rfl ?_
            exact j74 _ K0 (0 : Int32)
          · skip
            refine gIconst K0 (1 : Int32) L_69 rfl ?_
            refine gGoto K0 L_70 ?_
            exact j74 _ K0 (1 : Int32)
        · skip
          refine gIload K0 L_53 (v := (8 : Int32)) rfl ?_
          refine gIconst K0 (1 : Int32) L_55 rfl ?_
          refine gIsubV K0 (7 : Int32) L_56 (by decide) ?_
          refine gGoto K0 L_57 ?_
          refine gIstore K0 L_61 (Ls' := #[.val (.int pick), .val (.int shape), .val (.int pos), .val (.int chh), .val (.int ext), .val (.int wh), .val (.int (8 : Int32)), .val (.int (shape &&& (3 : Int32))), .val (.int (7 : Int32)), .unset, .unset, .unset, .unset, .unset, .unset, .unset]) rfl ?_
          have j74 : ∀ (T298 : State) (K298 : Cx p l e room_1 s m #[(.int pick), (.int shape), (.int pos), (.int chh), (.int ext)] below meth c code maxLocals Z "com/example/tranche/tranche/calendar/CityFromLabelPinLaw" n0 (some [("com/example/tranche/tranche/calendar/CityFromLabelPinLaw", 19), ("com/example/tranche/tranche/calendar/CityFromLabelPinLaw", 31), ("java/lang/String", 7)]) T298 h0 [] 0 0) (sb : Int32), Go p e below (End (some [("com/example/tranche/tranche/calendar/CityFromLabelPinLaw", 19), ("com/example/tranche/tranche/calendar/CityFromLabelPinLaw", 31), ("java/lang/String", 7)]) s Z n0 h0 [] room_1.cells room_1.slots (fun v h => v = some (.int 1))) T298 (mkF m 74 #[.val (.int pick), .val (.int shape), .val (.int pos), .val (.int chh), .val (.int ext), .val (.int wh), .val (.int (8 : Int32)), .val (.int (shape &&& (3 : Int32))), .val (.int (7 : Int32)), .unset, .unset, .unset, .unset, .unset, .unset, .unset] [(.int sb)]) := by
            intro T298 K298 sb
            refine gIstore K298 L_74 (Ls' := #[.val (.int pick), .val (.int shape), .val (.int pos), .val (.int chh), .val (.int ext), .val (.int wh), .val (.int (8 : Int32)), .val (.int (shape &&& (3 : Int32))), .val (.int (7 : Int32)), .val (.int sb), .unset, .unset, .unset, .unset, .unset, .unset]) rfl ?_
            refine gIloadN K298 L_76 (v := pos) rfl ?_
            refine gLdcI K298 (2147483647 : Int32) L_77 (hw _ (List.mem_of_getElem? (i := 0) rfl)) ?_
            refine gIand K298 L_79 ?_
            refine gBipush K298 (9 : Int32) L_80 rfl ?_
            refine gIrem K298 L_82 (by decide) ?_
            generalize ((pos &&& (2147483647 : Int32)) % (9 : Int32)) = pp
            refine gIstore K298 L_83 (Ls' := #[.val (.int pick), .val (.int shape), .val (.int pos), .val (.int chh), .val (.int ext), .val (.int wh), .val (.int (8 : Int32)), .val (.int (shape &&& (3 : Int32))), .val (.int (7 : Int32)), .val (.int sb), .val (.int pp), .unset, .unset, .unset, .unset, .unset]) rfl ?_
            refine gIloadN K298 L_85 (v := chh) rfl ?_
            refine gSipush K298 (255 : Int32) L_86 rfl ?_
            refine gIand K298 L_89 ?_
            refine gI2c K298 L_90 ?_
            have hb_c_ := and255c chh
            generalize ((chh &&& (255 : Int32))).toUInt32.toUInt16.toUInt32.toInt32 = c_ at hb_c_ ⊢
            refine gIstore K298 L_91 (Ls' := #[.val (.int pick), .val (.int shape), .val (.int pos), .val (.int chh), .val (.int ext), .val (.int wh), .val (.int (8 : Int32)), .val (.int (shape &&& (3 : Int32))), .val (.int (7 : Int32)), .val (.int sb), .val (.int pp), .val (.int c_), .unset, .unset, .unset, .unset]) rfl ?_
            refine gIload K298 L_93 (v := ext) rfl ?_
            refine gSipush K298 (255 : Int32) L_95 rfl ?_
            refine gIand K298 L_98 ?_
            refine gI2c K298 L_99 ?_
            have hb_e_ := and255c ext
            generalize ((ext &&& (255 : Int32))).toUInt32.toUInt16.toUInt32.toInt32 = e_ at hb_e_ ⊢
            refine gIstore K298 L_100 (Ls' := #[.val (.int pick), .val (.int shape), .val (.int pos), .val (.int chh), .val (.int ext), .val (.int wh), .val (.int (8 : Int32)), .val (.int (shape &&& (3 : Int32))), .val (.int (7 : Int32)), .val (.int sb), .val (.int pp), .val (.int c_), .val (.int e_), .unset, .unset, .unset]) rfl ?_
            refine gIload K298 L_102 (v := (7 : Int32)) rfl ?_
            refine gNewarr K298 L_104 (hw _ (List.mem_of_getElem? (i := 1) rfl)) (by decide) 7 (by decide) (by decide) (by decide) (by decide) (fun T299 h299 x299 kA299 K299 E299 g299 A299 ne299 => ?_)
            have P300 := P0.ext E299
            have ge_x299 : h0.size ≤ x299 := by rw [g299]; exact P0.1
            refine gAstore K299 L_106 rfl (Ls' := #[.val (.int pick), .val (.int shape), .val (.int pos), .val (.int chh), .val (.int ext), .val (.int wh), .val (.int (8 : Int32)), .val (.int (shape &&& (3 : Int32))), .val (.int (7 : Int32)), .val (.int sb), .val (.int pp), .val (.int c_), .val (.int e_), .val (.ref x299), .unset, .unset]) rfl ?_
            refine gIload K299 L_108 (v := (7 : Int32)) rfl ?_
            refine gIf_le K299 L_110 (fun q => absurd q (by first | decide | (intro hh; cases hh) | simp)) (fun q110 => ?_)
            refine gAload K299 L_113 (v := (.ref x299)) rfl rfl ?_
            refine gIconst K299 (0 : Int32) L_115 rfl ?_
            refine gIconst K299 (0 : Int32) L_116 rfl ?_
            refine gIload K299 L_117 (v := wh) rfl ?_
            refine gIload K299 L_119 (v := (8 : Int32)) rfl ?_
            refine gIload K299 L_121 (v := sb) rfl ?_
            refine gIload K299 L_123 (v := pp) rfl ?_
            refine gIload K299 L_125 (v := c_) rfl ?_
            refine gIload K299 L_127 (v := e_) rfl ?_
            refine gCallS K299 (W := 2) [(.int (0 : Int32)), (.int wh), (.int (8 : Int32)), (.int sb), (.int pp), (.int c_), (.int e_)] [(.int (0 : Int32)), (.ref x299)] L_129 (hw _ (List.mem_of_getElem? (i := 59) rfl)) (hw _ (List.mem_of_getElem? (i := 60) rfl)) (hw _ (List.mem_of_getElem? (i := 61) rfl)) (hw _ (List.mem_of_getElem? (i := 62) rfl)) (Cal.ofW (W := 2) (c_at l Z a0 hw h299 n0 K299.n0le hE wh sb pp c_ e_ 0 8 (by decide) (by decide) (fun _ => by decide) (fun q => absurd q7 q) hb_c_ hb_e_ z (Sc.ext E299) hz fm (Sf.ext E299) rf) (hw _ (List.mem_of_getElem? (i := 62) rfl)) (hw _ (List.mem_of_getElem? (i := 61) rfl)) (by decide) (by decide)) (fun _ q => nomatch q) pd6 rfl rfl (Nat.le_of_eq rfl) rfl (by decide) (by decide) (by decide) (fun v301 T301 h301 K301 Q301 q301 => ?_)
            have E301 := Ext.of0 Q301
            have P302 := P300.ext E301
            obtain ⟨r301, rfl, hb301⟩ := q301
            refine gCastore K301 L_132 (List.mem_of_getElem? (i := 0) rfl) (A299.ext E301) rfl (by decide) hb301.1 (ch_up hb301.2) (fun T303 h303 K303 Q303 A303 => ?_)
            have P304 := P302.trans Q303 (fun z q => by cases List.mem_singleton.mp q; exact Or.inr ge_x299)
            refine gIload K303 L_133 (v := (7 : Int32)) rfl ?_
            refine gIconst K303 (1 : Int32) L_135 rfl ?_
            refine gIcmp_le K303 L_136 (fun q => absurd q (by first | decide | (intro hh; cases hh) | simp)) (fun q136 => ?_)
            refine gAload K303 L_139 (v := (.ref x299)) rfl rfl ?_
            refine gIconst K303 (1 : Int32) L_141 rfl ?_
            refine gIconst K303 (1 : Int32) L_142 rfl ?_
            refine gIload K303 L_143 (v := wh) rfl ?_
            refine gIload K303 L_145 (v := (8 : Int32)) rfl ?_
            refine gIload K303 L_147 (v := sb) rfl ?_
            refine gIload K303 L_149 (v := pp) rfl ?_
            refine gIload K303 L_151 (v := c_) rfl ?_
            refine gIload K303 L_153 (v := e_) rfl ?_
            refine gCallS K303 (W := 2) [(.int (1 : Int32)), (.int wh), (.int (8 : Int32)), (.int sb), (.int pp), (.int c_), (.int e_)] [(.int (1 : Int32)), (.ref x299)] L_155 (hw _ (List.mem_of_getElem? (i := 59) rfl)) (hw _ (List.mem_of_getElem? (i := 60) rfl)) (hw _ (List.mem_of_getElem? (i := 61) rfl)) (hw _ (List.mem_of_getElem? (i := 62) rfl)) (Cal.ofW (W := 2) (c_at l Z a0 hw h303 n0 K303.n0le hE wh sb pp c_ e_ 1 8 (by decide) (by decide) (fun _ => by decide) (fun q => absurd q7 q) hb_c_ hb_e_ z (Sc.ext (Ext.kp1 (Ext.tr E299 E301) Q303 (Nat.le_of_eq g299.symm))) hz fm (Sf.ext (Ext.kp1 (Ext.tr E299 E301) Q303 (Nat.le_of_eq g299.symm))) rf) (hw _ (List.mem_of_getElem? (i := 62) rfl)) (hw _ (List.mem_of_getElem? (i := 61) rfl)) (by decide) (by decide)) (fun _ q => nomatch q) pd6 rfl rfl (Nat.le_of_eq rfl) rfl (by decide) (by decide) (by decide) (fun v305 T305 h305 K305 Q305 q305 => ?_)
            have E305 := Ext.of0 Q305
            have P306 := P304.ext E305
            obtain ⟨r305, rfl, hb305⟩ := q305
            refine gCastore K305 L_158 (List.mem_of_getElem? (i := 0) rfl) (A303.ext E305) rfl (by decide) hb305.1 (ch_up hb305.2) (fun T307 h307 K307 Q307 A307 => ?_)
            have P308 := P306.trans Q307 (fun z q => by cases List.mem_singleton.mp q; exact Or.inr ge_x299)
            refine gIload K307 L_159 (v := (7 : Int32)) rfl ?_
            refine gIconst K307 (2 : Int32) L_161 rfl ?_
            refine gIcmp_le K307 L_162 (fun q => absurd q (by first | decide | (intro hh; cases hh) | simp)) (fun q162 => ?_)
            refine gAload K307 L_165 (v := (.ref x299)) rfl rfl ?_
            refine gIconst K307 (2 : Int32) L_167 rfl ?_
            refine gIconst K307 (2 : Int32) L_168 rfl ?_
            refine gIload K307 L_169 (v := wh) rfl ?_
            refine gIload K307 L_171 (v := (8 : Int32)) rfl ?_
            refine gIload K307 L_173 (v := sb) rfl ?_
            refine gIload K307 L_175 (v := pp) rfl ?_
            refine gIload K307 L_177 (v := c_) rfl ?_
            refine gIload K307 L_179 (v := e_) rfl ?_
            refine gCallS K307 (W := 2) [(.int (2 : Int32)), (.int wh), (.int (8 : Int32)), (.int sb), (.int pp), (.int c_), (.int e_)] [(.int (2 : Int32)), (.ref x299)] L_181 (hw _ (List.mem_of_getElem? (i := 59) rfl)) (hw _ (List.mem_of_getElem? (i := 60) rfl)) (hw _ (List.mem_of_getElem? (i := 61) rfl)) (hw _ (List.mem_of_getElem? (i := 62) rfl)) (Cal.ofW (W := 2) (c_at l Z a0 hw h307 n0 K307.n0le hE wh sb pp c_ e_ 2 8 (by decide) (by decide) (fun _ => by decide) (fun q => absurd q7 q) hb_c_ hb_e_ z (Sc.ext (Ext.kp1 (Ext.tr (Ext.kp1 (Ext.tr E299 E301) Q303 (Nat.le_of_eq g299.symm)) E305) Q307 (Nat.le_of_eq g299.symm))) hz fm (Sf.ext (Ext.kp1 (Ext.tr (Ext.kp1 (Ext.tr E299 E301) Q303 (Nat.le_of_eq g299.symm)) E305) Q307 (Nat.le_of_eq g299.symm))) rf) (hw _ (List.mem_of_getElem? (i := 62) rfl)) (hw _ (List.mem_of_getElem? (i := 61) rfl)) (by decide) (by decide)) (fun _ q => nomatch q) pd6 rfl rfl (Nat.le_of_eq rfl) rfl (by decide) (by decide) (by decide) (fun v309 T309 h309 K309 Q309 q309 => ?_)
            have E309 := Ext.of0 Q309
            have P310 := P308.ext E309
            obtain ⟨r309, rfl, hb309⟩ := q309
            refine gCastore K309 L_184 (List.mem_of_getElem? (i := 0) rfl) (A307.ext E309) rfl (by decide) hb309.1 (ch_up hb309.2) (fun T311 h311 K311 Q311 A311 => ?_)
            have P312 := P310.trans Q311 (fun z q => by cases List.mem_singleton.mp q; exact Or.inr ge_x299)
            refine gIload K311 L_185 (v := (7 : Int32)) rfl ?_
            refine gIconst K311 (3 : Int32) L_187 rfl ?_
            refine gIcmp_le K311 L_188 (fun q => absurd q (by first | decide | (intro hh; cases hh) | simp)) (fun q188 => ?_)
            refine gAload K311 L_191 (v := (.ref x299)) rfl rfl ?_
            refine gIconst K311 (3 : Int32) L_193 rfl ?_
            refine gIconst K311 (3 : Int32) L_194 rfl ?_
            refine gIload K311 L_195 (v := wh) rfl ?_
            refine gIload K311 L_197 (v := (8 : Int32)) rfl ?_
            refine gIload K311 L_199 (v := sb) rfl ?_
            refine gIload K311 L_201 (v := pp) rfl ?_
            refine gIload K311 L_203 (v := c_) rfl ?_
            refine gIload K311 L_205 (v := e_) rfl ?_
            refine gCallS K311 (W := 2) [(.int (3 : Int32)), (.int wh), (.int (8 : Int32)), (.int sb), (.int pp), (.int c_), (.int e_)] [(.int (3 : Int32)), (.ref x299)] L_207 (hw _ (List.mem_of_getElem? (i := 59) rfl)) (hw _ (List.mem_of_getElem? (i := 60) rfl)) (hw _ (List.mem_of_getElem? (i := 61) rfl)) (hw _ (List.mem_of_getElem? (i := 62) rfl)) (Cal.ofW (W := 2) (c_at l Z a0 hw h311 n0 K311.n0le hE wh sb pp c_ e_ 3 8 (by decide) (by decide) (fun _ => by decide) (fun q => absurd q7 q) hb_c_ hb_e_ z (Sc.ext (Ext.kp1 (Ext.tr (Ext.kp1 (Ext.tr (Ext.kp1 (Ext.tr E299 E301) Q303 (Nat.le_of_eq g299.symm)) E305) Q307 (Nat.le_of_eq g299.symm)) E309) Q311 (Nat.le_of_eq g299.symm))) hz fm (Sf.ext (Ext.kp1 (Ext.tr (Ext.kp1 (Ext.tr (Ext.kp1 (Ext.tr E299 E301) Q303 (Nat.le_of_eq g299.symm)) E305) Q307 (Nat.le_of_eq g299.symm)) E309) Q311 (Nat.le_of_eq g299.symm))) rf) (hw _ (List.mem_of_getElem? (i := 62) rfl)) (hw _ (List.mem_of_getElem? (i := 61) rfl)) (by decide) (by decide)) (fun _ q => nomatch q) pd6 rfl rfl (Nat.le_of_eq rfl) rfl (by decide) (by decide) (by decide) (fun v313 T313 h313 K313 Q313 q313 => ?_)
            have E313 := Ext.of0 Q313
            have P314 := P312.ext E313
            obtain ⟨r313, rfl, hb313⟩ := q313
            refine gCastore K313 L_210 (List.mem_of_getElem? (i := 0) rfl) (A311.ext E313) rfl (by decide) hb313.1 (ch_up hb313.2) (fun T315 h315 K315 Q315 A315 => ?_)
            have P316 := P314.trans Q315 (fun z q => by cases List.mem_singleton.mp q; exact Or.inr ge_x299)
            refine gIload K315 L_211 (v := (7 : Int32)) rfl ?_
            refine gIconst K315 (4 : Int32) L_213 rfl ?_
            refine gIcmp_le K315 L_214 (fun q => absurd q (by first | decide | (intro hh; cases hh) | simp)) (fun q214 => ?_)
            refine gAload K315 L_217 (v := (.ref x299)) rfl rfl ?_
            refine gIconst K315 (4 : Int32) L_219 rfl ?_
            refine gIconst K315 (4 : Int32) L_220 rfl ?_
            refine gIload K315 L_221 (v := wh) rfl ?_
            refine gIload K315 L_223 (v := (8 : Int32)) rfl ?_
            refine gIload K315 L_225 (v := sb) rfl ?_
            refine gIload K315 L_227 (v := pp) rfl ?_
            refine gIload K315 L_229 (v := c_) rfl ?_
            refine gIload K315 L_231 (v := e_) rfl ?_
            refine gCallS K315 (W := 2) [(.int (4 : Int32)), (.int wh), (.int (8 : Int32)), (.int sb), (.int pp), (.int c_), (.int e_)] [(.int (4 : Int32)), (.ref x299)] L_233 (hw _ (List.mem_of_getElem? (i := 59) rfl)) (hw _ (List.mem_of_getElem? (i := 60) rfl)) (hw _ (List.mem_of_getElem? (i := 61) rfl)) (hw _ (List.mem_of_getElem? (i := 62) rfl)) (Cal.ofW (W := 2) (c_at l Z a0 hw h315 n0 K315.n0le hE wh sb pp c_ e_ 4 8 (by decide) (by decide) (fun _ => by decide) (fun q => absurd q7 q) hb_c_ hb_e_ z (Sc.ext (Ext.kp1 (Ext.tr (Ext.kp1 (Ext.tr (Ext.kp1 (Ext.tr (Ext.kp1 (Ext.tr E299 E301) Q303 (Nat.le_of_eq g299.symm)) E305) Q307 (Nat.le_of_eq g299.symm)) E309) Q311 (Nat.le_of_eq g299.symm)) E313) Q315 (Nat.le_of_eq g299.symm))) hz fm (Sf.ext (Ext.kp1 (Ext.tr (Ext.kp1 (Ext.tr (Ext.kp1 (Ext.tr (Ext.kp1 (Ext.tr E299 E301) Q303 (Nat.le_of_eq g299.symm)) E305) Q307 (Nat.le_of_eq g299.symm)) E309) Q311 (Nat.le_of_eq g299.symm)) E313) Q315 (Nat.le_of_eq g299.symm))) rf) (hw _ (List.mem_of_getElem? (i := 62) rfl)) (hw _ (List.mem_of_getElem? (i := 61) rfl)) (by decide) (by decide)) (fun _ q => nomatch q) pd6 rfl rfl (Nat.le_of_eq rfl) rfl (by decide) (by decide) (by decide) (fun v317 T317 h317 K317 Q317 q317 => ?_)
            have E317 := Ext.of0 Q317
            have P318 := P316.ext E317
            obtain ⟨r317, rfl, hb317⟩ := q317
            refine gCastore K317 L_236 (List.mem_of_getElem? (i := 0) rfl) (A315.ext E317) rfl (by decide) hb317.1 (ch_up hb317.2) (fun T319 h319 K319 Q319 A319 => ?_)
            have P320 := P318.trans Q319 (fun z q => by cases List.mem_singleton.mp q; exact Or.inr ge_x299)
            refine gIload K319 L_237 (v := (7 : Int32)) rfl ?_
            refine gIconst K319 (5 : Int32) L_239 rfl ?_
            refine gIcmp_le K319 L_240 (fun q => absurd q (by first | decide | (intro hh; cases hh) | simp)) (fun q240 => ?_)
            refine gAload K319 L_243 (v := (.ref x299)) rfl rfl ?_
            refine gIconst K319 (5 : Int32) L_245 rfl ?_
            refine gIconst K319 (5 : Int32) L_246 rfl ?_
            refine gIload K319 L_247 (v := wh) rfl ?_
            refine gIload K319 L_249 (v := (8 : Int32)) rfl ?_
            refine gIload K319 L_251 (v := sb) rfl ?_
            refine gIload K319 L_253 (v := pp) rfl ?_
            refine gIload K319 L_255 (v := c_) rfl ?_
            refine gIload K319 L_257 (v := e_) rfl ?_
            refine gCallS K319 (W := 2) [(.int (5 : Int32)), (.int wh), (.int (8 : Int32)), (.int sb), (.int pp), (.int c_), (.int e_)] [(.int (5 : Int32)), (.ref x299)] L_259 (hw _ (List.mem_of_getElem? (i := 59) rfl)) (hw _ (List.mem_of_getElem? (i := 60) rfl)) (hw _ (List.mem_of_getElem? (i := 61) rfl)) (hw _ (List.mem_of_getElem? (i := 62) rfl)) (Cal.ofW (W := 2) (c_at l Z a0 hw h319 n0 K319.n0le hE wh sb pp c_ e_ 5 8 (by decide) (by decide) (fun _ => by decide) (fun q => absurd q7 q) hb_c_ hb_e_ z (Sc.ext (Ext.kp1 (Ext.tr (Ext.kp1 (Ext.tr (Ext.kp1 (Ext.tr (Ext.kp1 (Ext.tr (Ext.kp1 (Ext.tr E299 E301) Q303 (Nat.le_of_eq g299.symm)) E305) Q307 (Nat.le_of_eq g299.symm)) E309) Q311 (Nat.le_of_eq g299.symm)) E313) Q315 (Nat.le_of_eq g299.symm)) E317) Q319 (Nat.le_of_eq g299.symm))) hz fm (Sf.ext (Ext.kp1 (Ext.tr (Ext.kp1 (Ext.tr (Ext.kp1 (Ext.tr (Ext.kp1 (Ext.tr (Ext.kp1 (Ext.tr E299 E301) Q303 (Nat.le_of_eq g299.symm)) E305) Q307 (Nat.le_of_eq g299.symm)) E309) Q311 (Nat.le_of_eq g299.symm)) E313) Q315 (Nat.le_of_eq g299.symm)) E317) Q319 (Nat.le_of_eq g299.symm))) rf) (hw _ (List.mem_of_getElem? (i := 62) rfl)) (hw _ (List.mem_of_getElem? (i := 61) rfl)) (by decide) (by decide)) (fun _ q => nomatch q) pd6 rfl rfl (Nat.le_of_eq rfl) rfl (by decide) (by decide) (by decide) (fun v321 T321 h321 K321 Q321 q321 => ?_)
            have E321 := Ext.of0 Q321
            have P322 := P320.ext E321
            obtain ⟨r321, rfl, hb321⟩ := q321
            refine gCastore K321 L_262 (List.mem_of_getElem? (i := 0) rfl) (A319.ext E321) rfl (by decide) hb321.1 (ch_up hb321.2) (fun T323 h323 K323 Q323 A323 => ?_)
            have P324 := P322.trans Q323 (fun z q => by cases List.mem_singleton.mp q; exact Or.inr ge_x299)
            refine gIload K323 L_263 (v := (7 : Int32)) rfl ?_
            refine gBipush K323 (6 : Int32) L_265 rfl ?_
            refine gIcmp_le K323 L_267 (fun q => absurd q (by first | decide | (intro hh; cases hh) | simp)) (fun q267 => ?_)
            refine gAload K323 L_270 (v := (.ref x299)) rfl rfl ?_
            refine gBipush K323 (6 : Int32) L_272 rfl ?_
            refine gBipush K323 (6 : Int32) L_274 rfl ?_
            refine gIload K323 L_276 (v := wh) rfl ?_
            refine gIload K323 L_278 (v := (8 : Int32)) rfl ?_
            refine gIload K323 L_280 (v := sb) rfl ?_
            refine gIload K323 L_282 (v := pp) rfl ?_
            refine gIload K323 L_284 (v := c_) rfl ?_
            refine gIload K323 L_286 (v := e_) rfl ?_
            refine gCallS K323 (W := 2) [(.int (6 : Int32)), (.int wh), (.int (8 : Int32)), (.int sb), (.int pp), (.int c_), (.int e_)] [(.int (6 : Int32)), (.ref x299)] L_288 (hw _ (List.mem_of_getElem? (i := 59) rfl)) (hw _ (List.mem_of_getElem? (i := 60) rfl)) (hw _ (List.mem_of_getElem? (i := 61) rfl)) (hw _ (List.mem_of_getElem? (i := 62) rfl)) (Cal.ofW (W := 2) (c_at l Z a0 hw h323 n0 K323.n0le hE wh sb pp c_ e_ 6 8 (by decide) (by decide) (fun _ => by decide) (fun q => absurd q7 q) hb_c_ hb_e_ z (Sc.ext (Ext.kp1 (Ext.tr (Ext.kp1 (Ext.tr (Ext.kp1 (Ext.tr (Ext.kp1 (Ext.tr (Ext.kp1 (Ext.tr (Ext.kp1 (Ext.tr E299 E301) Q303 (Nat.le_of_eq g299.symm)) E305) Q307 (Nat.le_of_eq g299.symm)) E309) Q311 (Nat.le_of_eq g299.symm)) E313) Q315 (Nat.le_of_eq g299.symm)) E317) Q319 (Nat.le_of_eq g299.symm)) E321) Q323 (Nat.le_of_eq g299.symm))) hz fm (Sf.ext (Ext.kp1 (Ext.tr (Ext.kp1 (Ext.tr (Ext.kp1 (Ext.tr (Ext.kp1 (Ext.tr (Ext.kp1 (Ext.tr (Ext.kp1 (Ext.tr E299 E301) Q303 (Nat.le_of_eq g299.symm)) E305) Q307 (Nat.le_of_eq g299.symm)) E309) Q311 (Nat.le_of_eq g299.symm)) E313) Q315 (Nat.le_of_eq g299.symm)) E317) Q319 (Nat.le_of_eq g299.symm)) E321) Q323 (Nat.le_of_eq g299.symm))) rf) (hw _ (List.mem_of_getElem? (i := 62) rfl)) (hw _ (List.mem_of_getElem? (i := 61) rfl)) (by decide) (by decide)) (fun _ q => nomatch q) pd6 rfl rfl (Nat.le_of_eq rfl) rfl (by decide) (by decide) (by decide) (fun v325 T325 h325 K325 Q325 q325 => ?_)
            have E325 := Ext.of0 Q325
            have P326 := P324.ext E325
            obtain ⟨r325, rfl, hb325⟩ := q325
            refine gCastore K325 L_291 (List.mem_of_getElem? (i := 0) rfl) (A323.ext E325) rfl (by decide) hb325.1 (ch_up hb325.2) (fun T327 h327 K327 Q327 A327 => ?_)
            have P328 := P326.trans Q327 (fun z q => by cases List.mem_singleton.mp q; exact Or.inr ge_x299)
            refine gIload K327 L_292 (v := (7 : Int32)) rfl ?_
            refine gBipush K327 (7 : Int32) L_294 rfl ?_
            refine gIcmp_le K327 L_296 (fun q296 => ?_) (fun q => absurd q (by first | decide | (intro hh; cases hh) | simp))
            refine gIload K327 L_321 (v := (7 : Int32)) rfl ?_
            refine gBipush K327 (8 : Int32) L_323 rfl ?_
            refine gIcmp_le K327 L_325 (fun q325 => ?_) (fun q => absurd q (by first | decide | (intro hh; cases hh) | simp))
            refine gNew K327 L_350 (hw _ (List.mem_of_getElem? (i := 2) rfl)) (hw _ (List.mem_of_getElem? (i := 3) rfl)) (hw _ (List.mem_of_getElem? (i := 4) rfl)) (by decide) (by decide) (fun T329 h329 x329 K329 E329 g329 A329 D329 ne329 => ?_)
            have P330 := P328.ext E329
            have ge_x329 : h0.size ≤ x329 := by rw [g329]; exact P328.1
            have F331 : Fld Z h329 x329 "java/lang/String" "value" "[B" .null := (D329 (Or.inr (hw _ (List.mem_of_getElem? (i := 17) rfl))) (ty := (.array .byte)) (by decide))
            have F332 : Fld Z h329 x329 "java/lang/String" "coder" "B" (.int (0 : Int32)) := (D329 (Or.inr (hw _ (List.mem_of_getElem? (i := 18) rfl))) (ty := .byte) (by decide))
            refine gDup K329 L_353 rfl ?_
            refine gAload K329 L_354 (v := (.ref x299)) rfl rfl ?_
            refine gCallI K329 (W := 1) x329 [(.ref x299)] [(.ref x329)] L_356 rfl (hw _ (List.mem_of_getElem? (i := 5) rfl)) (hw _ (List.mem_of_getElem? (i := 6) rfl)) (hw _ (List.mem_of_getElem? (i := 7) rfl)) (cal_strN hw (W := 1) (cs := [r301, r305, r309, r313, r317, r321, r325]) 7 (K329.wsge (List.mem_of_getElem? (i := 0) rfl)) K329.n0le A329 F331 F332 (A327.ext E329) (Sc.ext (Ext.tr (Ext.kp1 (Ext.tr (Ext.kp1 (Ext.tr (Ext.kp1 (Ext.tr (Ext.kp1 (Ext.tr (Ext.kp1 (Ext.tr (Ext.kp1 (Ext.tr (Ext.kp1 (Ext.tr E299 E301) Q303 (Nat.le_of_eq g299.symm)) E305) Q307 (Nat.le_of_eq g299.symm)) E309) Q311 (Nat.le_of_eq g299.symm)) E313) Q315 (Nat.le_of_eq g299.symm)) E317) Q319 (Nat.le_of_eq g299.symm)) E321) Q323 (Nat.le_of_eq g299.symm)) E325) Q327 (Nat.le_of_eq g299.symm)) E329)) hz rfl (by decide) (by decide) (allI hb301 (allI hb305 (allI hb309 (allI hb313 (allI hb317 (allI hb321 (allI hb325 allI0))))))) (by decide) (by decide)) (fun z q => by cases List.mem_singleton.mp q; exact (List.mem_of_getElem? (i := 0) rfl)) pd4 rfl rfl (Nat.le_of_eq rfl) rfl (by decide) (by decide) (by decide) (fun v333 T333 h333 K333 Q333 q333 => ?_)
            have P334 := P330.trans Q333 (fun z q => by cases List.mem_singleton.mp q; exact Or.inr ge_x329)
            obtain ⟨rfl, St333⟩ := q333
            generalize hcs : [r301, r305, r309, r313, r317, r321, r325] = cs at St333
            refine gAstore K333 L_359 rfl (Ls' := #[.val (.int pick), .val (.int shape), .val (.int pos), .val (.int chh), .val (.int ext), .val (.int wh), .val (.int (8 : Int32)), .val (.int (shape &&& (3 : Int32))), .val (.int (7 : Int32)), .val (.int sb), .val (.int pp), .val (.int c_), .val (.int e_), .val (.ref x299), .val (.ref x329), .unset]) rfl ?_
            refine gNull K333 L_361 ?_
            refine gAstore K333 L_362 rfl (Ls' := #[.val (.int pick), .val (.int shape), .val (.int pos), .val (.int chh), .val (.int ext), .val (.int wh), .val (.int (8 : Int32)), .val (.int (shape &&& (3 : Int32))), .val (.int (7 : Int32)), .val (.int sb), .val (.int pp), .val (.int c_), .val (.int e_), .val (.ref x299), .val (.ref x329), .val .null]) rfl ?_
            refine gAload K333 L_364 (v := (.ref x329)) rfl rfl ?_
            refine gLdc K333 L_366 (hw _ (List.mem_of_getElem? (i := 23) rfl)) (hsA hw) (by decide) (vs := ([(110 : Int32), (101 : Int32), (119 : Int32), (45 : Int32), (121 : Int32), (111 : Int32), (114 : Int32), (107 : Int32)].map StrChars.lo8).map Value.int) (z := Int32.ofNat 8) (by decide +kernel) (by decide) (by decide) 32 (by decide) (by decide) (by decide) (by decide) (fun T335 h335 a335 b335 kA335 K335 E335 Ea335 Fc335 Fv335 Ab335 ne335 => ?_)
            have P336 := P334.ext E335
            have Sl335 : StrL Z h335 a335 [(110 : Int32), (101 : Int32), (119 : Int32), (45 : Int32), (121 : Int32), (111 : Int32), (114 : Int32), (107 : Int32)] := ⟨b335, kA335, Ea335, Fc335, Fv335, Ab335, by decide, by decide⟩
            refine gCallV K335 (W := 0) (C := "java/lang/String") x329 [(.ref a335)] [] L_368 (hw _ (List.mem_of_getElem? (i := 24) rfl)) (hw _ (List.mem_of_getElem? (i := 25) rfl)) (hw _ (List.mem_of_getElem? (i := 27) rfl)) (hw _ (List.mem_of_getElem? (i := 26) rfl)) (cal_eq hw (W := 0) (St333.ext E335) Sl335 (Sc.ext (Ext.tr (Ext.kp1 (Ext.tr (Ext.kp1 (Ext.tr (Ext.kp1 (Ext.tr (Ext.kp1 (Ext.tr (Ext.kp1 (Ext.tr (Ext.kp1 (Ext.tr (Ext.kp1 (Ext.tr (Ext.kp1 (Ext.tr E299 E301) Q303 (Nat.le_of_eq g299.symm)) E305) Q307 (Nat.le_of_eq g299.symm)) E309) Q311 (Nat.le_of_eq g299.symm)) E313) Q315 (Nat.le_of_eq g299.symm)) E317) Q319 (Nat.le_of_eq g299.symm)) E321) Q323 (Nat.le_of_eq g299.symm)) E325) Q327 (Nat.le_of_eq g299.symm)) E329) Q333 (Nat.le_trans (Ext.kp1 (Ext.tr (Ext.kp1 (Ext.tr (Ext.kp1 (Ext.tr (Ext.kp1 (Ext.tr (Ext.kp1 (Ext.tr (Ext.kp1 (Ext.tr (Ext.kp1 (Ext.tr E299 E301) Q303 (Nat.le_of_eq g299.symm)) E305) Q307 (Nat.le_of_eq g299.symm)) E309) Q311 (Nat.le_of_eq g299.symm)) E313) Q315 (Nat.le_of_eq g299.symm)) E317) Q319 (Nat.le_of_eq g299.symm)) E321) Q323 (Nat.le_of_eq g299.symm)) E325) Q327 (Nat.le_of_eq g299.symm)).1 (Nat.le_of_eq g329.symm))) E335)) hz (by decide) (by decide)) ((St333.ext E335)).exa (fun _ q => nomatch q) pd1 rfl rfl (Nat.le_of_eq rfl) rfl (by decide) (by decide) (by decide) (fun v337 T337 h337 K337 Q337 q337 => ?_)
            have E337 := Ext.of0 Q337
            have P338 := P336.ext E337
            rcases q337 with ⟨rfl, hc0⟩ | ⟨rfl, hc0⟩
            · skip
              refine gIf_eq K337 L_371 (fun q => absurd q (by first | decide | (intro hh; cases hh) | simp)) (fun q371 => ?_)
              refine gGetS K337 L_374 (hw _ (List.mem_of_getElem? (i := 96) rfl)) (S0.ext (Ext.tr (Ext.tr (Ext.kp1 (Ext.tr (Ext.kp1 (Ext.tr (Ext.kp1 (Ext.tr (Ext.kp1 (Ext.tr (Ext.kp1 (Ext.tr (Ext.kp1 (Ext.tr (Ext.kp1 (Ext.tr (Ext.kp1 (Ext.tr E299 E301) Q303 (Nat.le_of_eq g299.symm)) E305) Q307 (Nat.le_of_eq g299.symm)) E309) Q311 (Nat.le_of_eq g299.symm)) E313) Q315 (Nat.le_of_eq g299.symm)) E317) Q319 (Nat.le_of_eq g299.symm)) E321) Q323 (Nat.le_of_eq g299.symm)) E325) Q327 (Nat.le_of_eq g299.symm)) E329) Q333 (Nat.le_trans (Ext.kp1 (Ext.tr (Ext.kp1 (Ext.tr (Ext.kp1 (Ext.tr (Ext.kp1 (Ext.tr (Ext.kp1 (Ext.tr (Ext.kp1 (Ext.tr (Ext.kp1 (Ext.tr E299 E301) Q303 (Nat.le_of_eq g299.symm)) E305) Q307 (Nat.le_of_eq g299.symm)) E309) Q311 (Nat.le_of_eq g299.symm)) E313) Q315 (Nat.le_of_eq g299.symm)) E317) Q319 (Nat.le_of_eq g299.symm)) E321) Q323 (Nat.le_of_eq g299.symm)) E325) Q327 (Nat.le_of_eq g299.symm)).1 (Nat.le_of_eq g329.symm))) E335) E337)) (fun T339 K339 => ?_)
              refine gAstore K339 L_377 rfl (Ls' := #[.val (.int pick), .val (.int shape), .val (.int pos), .val (.int chh), .val (.int ext), .val (.int wh), .val (.int (8 : Int32)), .val (.int (shape &&& (3 : Int32))), .val (.int (7 : Int32)), .val (.int sb), .val (.int pp), .val (.int c_), .val (.int e_), .val (.ref x299), .val (.ref x329), .val (.ref v0)]) rfl ?_
              refine gGoto K339 L_379 ?_
              refine gAload K339 L_397 (v := (.ref x329)) rfl rfl ?_
              refine gCallS K339 (W := 0) [(.ref x329)] [] L_399 (hw _ (List.mem_of_getElem? (i := 36) rfl)) (hw _ (List.mem_of_getElem? (i := 37) rfl)) (hw _ (List.mem_of_getElem? (i := 38) rfl)) (hw _ (List.mem_of_getElem? (i := 39) rfl)) (Cal.ofN (W := 0) (c_look l Z a0 hw h337 n0 K339.n0le x329 cs va kV dv v0 l0 v1 l1 z (Sv.ext (Ext.tr (Ext.tr (Ext.kp1 (Ext.tr (Ext.kp1 (Ext.tr (Ext.kp1 (Ext.tr (Ext.kp1 (Ext.tr (Ext.kp1 (Ext.tr (Ext.kp1 (Ext.tr (Ext.kp1 (Ext.tr (Ext.kp1 (Ext.tr E299 E301) Q303 (Nat.le_of_eq g299.symm)) E305) Q307 (Nat.le_of_eq g299.symm)) E309) Q311 (Nat.le_of_eq g299.symm)) E313) Q315 (Nat.le_of_eq g299.symm)) E317) Q319 (Nat.le_of_eq g299.symm)) E321) Q323 (Nat.le_of_eq g299.symm)) E325) Q327 (Nat.le_of_eq g299.symm)) E329) Q333 (Nat.le_trans (Ext.kp1 (Ext.tr (Ext.kp1 (Ext.tr (Ext.kp1 (Ext.tr (Ext.kp1 (Ext.tr (Ext.kp1 (Ext.tr (Ext.kp1 (Ext.tr (Ext.kp1 (Ext.tr E299 E301) Q303 (Nat.le_of_eq g299.symm)) E305) Q307 (Nat.le_of_eq g299.symm)) E309) Q311 (Nat.le_of_eq g299.symm)) E313) Q315 (Nat.le_of_eq g299.symm)) E317) Q319 (Nat.le_of_eq g299.symm)) E321) Q323 (Nat.le_of_eq g299.symm)) E325) Q327 (Nat.le_of_eq g299.symm)).1 (Nat.le_of_eq g329.symm))) E335) E337)) (Av.ext (Ext.tr (Ext.tr (Ext.kp1 (Ext.tr (Ext.kp1 (Ext.tr (Ext.kp1 (Ext.tr (Ext.kp1 (Ext.tr (Ext.kp1 (Ext.tr (Ext.kp1 (Ext.tr (Ext.kp1 (Ext.tr (Ext.kp1 (Ext.tr E299 E301) Q303 (Nat.le_of_eq g299.symm)) E305) Q307 (Nat.le_of_eq g299.symm)) E309) Q311 (Nat.le_of_eq g299.symm)) E313) Q315 (Nat.le_of_eq g299.symm)) E317) Q319 (Nat.le_of_eq g299.symm)) E321) Q323 (Nat.le_of_eq g299.symm)) E325) Q327 (Nat.le_of_eq g299.symm)) E329) Q333 (Nat.le_trans (Ext.kp1 (Ext.tr (Ext.kp1 (Ext.tr (Ext.kp1 (Ext.tr (Ext.kp1 (Ext.tr (Ext.kp1 (Ext.tr (Ext.kp1 (Ext.tr (Ext.kp1 (Ext.tr E299 E301) Q303 (Nat.le_of_eq g299.symm)) E305) Q307 (Nat.le_of_eq g299.symm)) E309) Q311 (Nat.le_of_eq g299.symm)) E313) Q315 (Nat.le_of_eq g299.symm)) E317) Q319 (Nat.le_of_eq g299.symm)) E321) Q323 (Nat.le_of_eq g299.symm)) E325) Q327 (Nat.le_of_eq g299.symm)).1 (Nat.le_of_eq g329.symm))) E335) E337)) (Ev.ext (Ext.tr (Ext.tr (Ext.kp1 (Ext.tr (Ext.kp1 (Ext.tr (Ext.kp1 (Ext.tr (Ext.kp1 (Ext.tr (Ext.kp1 (Ext.tr (Ext.kp1 (Ext.tr (Ext.kp1 (Ext.tr (Ext.kp1 (Ext.tr E299 E301) Q303 (Nat.le_of_eq g299.symm)) E305) Q307 (Nat.le_of_eq g299.symm)) E309) Q311 (Nat.le_of_eq g299.symm)) E313) Q315 (Nat.le_of_eq g299.symm)) E317) Q319 (Nat.le_of_eq g299.symm)) E321) Q323 (Nat.le_of_eq g299.symm)) E325) Q327 (Nat.le_of_eq g299.symm)) E329) Q333 (Nat.le_trans (Ext.kp1 (Ext.tr (Ext.kp1 (Ext.tr (Ext.kp1 (Ext.tr (Ext.kp1 (Ext.tr (Ext.kp1 (Ext.tr (Ext.kp1 (Ext.tr (Ext.kp1 (Ext.tr E299 E301) Q303 (Nat.le_of_eq g299.symm)) E305) Q307 (Nat.le_of_eq g299.symm)) E309) Q311 (Nat.le_of_eq g299.symm)) E313) Q315 (Nat.le_of_eq g299.symm)) E317) Q319 (Nat.le_of_eq g299.symm)) E321) Q323 (Nat.le_of_eq g299.symm)) E325) Q327 (Nat.le_of_eq g299.symm)).1 (Nat.le_of_eq g329.symm))) E335) E337)) (F0.ext (Ext.tr (Ext.tr (Ext.kp1 (Ext.tr (Ext.kp1 (Ext.tr (Ext.kp1 (Ext.tr (Ext.kp1 (Ext.tr (Ext.kp1 (Ext.tr (Ext.kp1 (Ext.tr (Ext.kp1 (Ext.tr (Ext.kp1 (Ext.tr E299 E301) Q303 (Nat.le_of_eq g299.symm)) E305) Q307 (Nat.le_of_eq g299.symm)) E309) Q311 (Nat.le_of_eq g299.symm)) E313) Q315 (Nat.le_of_eq g299.symm)) E317) Q319 (Nat.le_of_eq g299.symm)) E321) Q323 (Nat.le_of_eq g299.symm)) E325) Q327 (Nat.le_of_eq g299.symm)) E329) Q333 (Nat.le_trans (Ext.kp1 (Ext.tr (Ext.kp1 (Ext.tr (Ext.kp1 (Ext.tr (Ext.kp1 (Ext.tr (Ext.kp1 (Ext.tr (Ext.kp1 (Ext.tr (Ext.kp1 (Ext.tr E299 E301) Q303 (Nat.le_of_eq g299.symm)) E305) Q307 (Nat.le_of_eq g299.symm)) E309) Q311 (Nat.le_of_eq g299.symm)) E313) Q315 (Nat.le_of_eq g299.symm)) E317) Q319 (Nat.le_of_eq g299.symm)) E321) Q323 (Nat.le_of_eq g299.symm)) E325) Q327 (Nat.le_of_eq g299.symm)).1 (Nat.le_of_eq g329.symm))) E335) E337)) (L0.ext (Ext.tr (Ext.tr (Ext.kp1 (Ext.tr (Ext.kp1 (Ext.tr (Ext.kp1 (Ext.tr (Ext.kp1 (Ext.tr (Ext.kp1 (Ext.tr (Ext.kp1 (Ext.tr (Ext.kp1 (Ext.tr (Ext.kp1 (Ext.tr E299 E301) Q303 (Nat.le_of_eq g299.symm)) E305) Q307 (Nat.le_of_eq g299.symm)) E309) Q311 (Nat.le_of_eq g299.symm)) E313) Q315 (Nat.le_of_eq g299.symm)) E317) Q319 (Nat.le_of_eq g299.symm)) E321) Q323 (Nat.le_of_eq g299.symm)) E325) Q327 (Nat.le_of_eq g299.symm)) E329) Q333 (Nat.le_trans (Ext.kp1 (Ext.tr (Ext.kp1 (Ext.tr (Ext.kp1 (Ext.tr (Ext.kp1 (Ext.tr (Ext.kp1 (Ext.tr (Ext.kp1 (Ext.tr (Ext.kp1 (Ext.tr E299 E301) Q303 (Nat.le_of_eq g299.symm)) E305) Q307 (Nat.le_of_eq g299.symm)) E309) Q311 (Nat.le_of_eq g299.symm)) E313) Q315 (Nat.le_of_eq g299.symm)) E317) Q319 (Nat.le_of_eq g299.symm)) E321) Q323 (Nat.le_of_eq g299.symm)) E325) Q327 (Nat.le_of_eq g299.symm)).1 (Nat.le_of_eq g329.symm))) E335) E337)) (F1.ext (Ext.tr (Ext.tr (Ext.kp1 (Ext.tr (Ext.kp1 (Ext.tr (Ext.kp1 (Ext.tr (Ext.kp1 (Ext.tr (Ext.kp1 (Ext.tr (Ext.kp1 (Ext.tr (Ext.kp1 (Ext.tr (Ext.kp1 (Ext.tr E299 E301) Q303 (Nat.le_of_eq g299.symm)) E305) Q307 (Nat.le_of_eq g299.symm)) E309) Q311 (Nat.le_of_eq g299.symm)) E313) Q315 (Nat.le_of_eq g299.symm)) E317) Q319 (Nat.le_of_eq g299.symm)) E321) Q323 (Nat.le_of_eq g299.symm)) E325) Q327 (Nat.le_of_eq g299.symm)) E329) Q333 (Nat.le_trans (Ext.kp1 (Ext.tr (Ext.kp1 (Ext.tr (Ext.kp1 (Ext.tr (Ext.kp1 (Ext.tr (Ext.kp1 (Ext.tr (Ext.kp1 (Ext.tr (Ext.kp1 (Ext.tr E299 E301) Q303 (Nat.le_of_eq g299.symm)) E305) Q307 (Nat.le_of_eq g299.symm)) E309) Q311 (Nat.le_of_eq g299.symm)) E313) Q315 (Nat.le_of_eq g299.symm)) E317) Q319 (Nat.le_of_eq g299.symm)) E321) Q323 (Nat.le_of_eq g299.symm)) E325) Q327 (Nat.le_of_eq g299.symm)).1 (Nat.le_of_eq g329.symm))) E335) E337)) (L1.ext (Ext.tr (Ext.tr (Ext.kp1 (Ext.tr (Ext.kp1 (Ext.tr (Ext.kp1 (Ext.tr (Ext.kp1 (Ext.tr (Ext.kp1 (Ext.tr (Ext.kp1 (Ext.tr (Ext.kp1 (Ext.tr (Ext.kp1 (Ext.tr E299 E301) Q303 (Nat.le_of_eq g299.symm)) E305) Q307 (Nat.le_of_eq g299.symm)) E309) Q311 (Nat.le_of_eq g299.symm)) E313) Q315 (Nat.le_of_eq g299.symm)) E317) Q319 (Nat.le_of_eq g299.symm)) E321) Q323 (Nat.le_of_eq g299.symm)) E325) Q327 (Nat.le_of_eq g299.symm)) E329) Q333 (Nat.le_trans (Ext.kp1 (Ext.tr (Ext.kp1 (Ext.tr (Ext.kp1 (Ext.tr (Ext.kp1 (Ext.tr (Ext.kp1 (Ext.tr (Ext.kp1 (Ext.tr (Ext.kp1 (Ext.tr E299 E301) Q303 (Nat.le_of_eq g299.symm)) E305) Q307 (Nat.le_of_eq g299.symm)) E309) Q311 (Nat.le_of_eq g299.symm)) E313) Q315 (Nat.le_of_eq g299.symm)) E317) Q319 (Nat.le_of_eq g299.symm)) E321) Q323 (Nat.le_of_eq g299.symm)) E325) Q327 (Nat.le_of_eq g299.symm)).1 (Nat.le_of_eq g329.symm))) E335) E337)) (Sc.ext (Ext.tr (Ext.tr (Ext.kp1 (Ext.tr (Ext.kp1 (Ext.tr (Ext.kp1 (Ext.tr (Ext.kp1 (Ext.tr (Ext.kp1 (Ext.tr (Ext.kp1 (Ext.tr (Ext.kp1 (Ext.tr (Ext.kp1 (Ext.tr E299 E301) Q303 (Nat.le_of_eq g299.symm)) E305) Q307 (Nat.le_of_eq g299.symm)) E309) Q311 (Nat.le_of_eq g299.symm)) E313) Q315 (Nat.le_of_eq g299.symm)) E317) Q319 (Nat.le_of_eq g299.symm)) E321) Q323 (Nat.le_of_eq g299.symm)) E325) Q327 (Nat.le_of_eq g299.symm)) E329) Q333 (Nat.le_trans (Ext.kp1 (Ext.tr (Ext.kp1 (Ext.tr (Ext.kp1 (Ext.tr (Ext.kp1 (Ext.tr (Ext.kp1 (Ext.tr (Ext.kp1 (Ext.tr (Ext.kp1 (Ext.tr E299 E301) Q303 (Nat.le_of_eq g299.symm)) E305) Q307 (Nat.le_of_eq g299.symm)) E309) Q311 (Nat.le_of_eq g299.symm)) E313) Q315 (Nat.le_of_eq g299.symm)) E317) Q319 (Nat.le_of_eq g299.symm)) E321) Q323 (Nat.le_of_eq g299.symm)) E325) Q327 (Nat.le_of_eq g299.symm)).1 (Nat.le_of_eq g329.symm))) E335) E337)) hz (St333.ext (Ext.tr E335 E337))) (hw _ (List.mem_of_getElem? (i := 39) rfl)) (hw _ (List.mem_of_getElem? (i := 38) rfl)) (by decide) (by decide)) (fun _ q => nomatch q) pd5 rfl rfl (Nat.le_of_eq rfl) rfl (by decide) (by decide) (by decide) (fun v340 T340 h340 K340 Q340 q340 => ?_)
              have E340 := Ext.of0 Q340
              have P341 := P338.ext E340
              cases q340
              rw [if_pos hc0]
              refine gAload K340 L_402 (v := (.ref v0)) rfl rfl ?_
              refine gAcmp_ne K340 L_404 rfl rfl (fun q => absurd q (by first | decide | (intro hh; cases hh) | simp)) (fun q404 => ?_)
              refine gIconst K340 (1 : Int32) L_407 rfl ?_
              refine gGoto K340 L_408 ?_
              refine gRetI K340 hlk hret (by simp) L_412 rfl P341 (by decide) (by decide) ?_
              exact rfl
            · skip
              refine gIf_eq K337 L_371 (fun q371 => ?_) (fun q => absurd q (by first | decide | (intro hh; cases hh) | simp))
              refine gAload K337 L_382 (v := (.ref x329)) rfl rfl ?_
              refine gLdc K337 L_384 (hw _ (List.mem_of_getElem? (i := 35) rfl)) (hsA hw) (by decide) (vs := ([(108 : Int32), (111 : Int32), (110 : Int32), (100 : Int32), (111 : Int32), (110 : Int32)].map StrChars.lo8).map Value.int) (z := Int32.ofNat 6) (by decide +kernel) (by decide) (by decide) 24 (by decide) (by decide) (by decide) (by decide) (fun T342 h342 a342 b342 kA342 K342 E342 Ea342 Fc342 Fv342 Ab342 ne342 => ?_)
              have P343 := P338.ext E342
              have Sl342 : StrL Z h342 a342 [(108 : Int32), (111 : Int32), (110 : Int32), (100 : Int32), (111 : Int32), (110 : Int32)] := ⟨b342, kA342, Ea342, Fc342, Fv342, Ab342, by decide, by decide⟩
              refine gCallV K342 (W := 0) (C := "java/lang/String") x329 [(.ref a342)] [] L_386 (hw _ (List.mem_of_getElem? (i := 24) rfl)) (hw _ (List.mem_of_getElem? (i := 25) rfl)) (hw _ (List.mem_of_getElem? (i := 27) rfl)) (hw _ (List.mem_of_getElem? (i := 26) rfl)) (cal_eq hw (W := 0) (St333.ext (Ext.tr (Ext.tr E335 E337) E342)) Sl342 (Sc.ext (Ext.tr (Ext.tr (Ext.tr (Ext.kp1 (Ext.tr (Ext.kp1 (Ext.tr (Ext.kp1 (Ext.tr (Ext.kp1 (Ext.tr (Ext.kp1 (Ext.tr (Ext.kp1 (Ext.tr (Ext.kp1 (Ext.tr (Ext.kp1 (Ext.tr E299 E301) Q303 (Nat.le_of_eq g299.symm)) E305) Q307 (Nat.le_of_eq g299.symm)) E309) Q311 (Nat.le_of_eq g299.symm)) E313) Q315 (Nat.le_of_eq g299.symm)) E317) Q319 (Nat.le_of_eq g299.symm)) E321) Q323 (Nat.le_of_eq g299.symm)) E325) Q327 (Nat.le_of_eq g299.symm)) E329) Q333 (Nat.le_trans (Ext.kp1 (Ext.tr (Ext.kp1 (Ext.tr (Ext.kp1 (Ext.tr (Ext.kp1 (Ext.tr (Ext.kp1 (Ext.tr (Ext.kp1 (Ext.tr (Ext.kp1 (Ext.tr E299 E301) Q303 (Nat.le_of_eq g299.symm)) E305) Q307 (Nat.le_of_eq g299.symm)) E309) Q311 (Nat.le_of_eq g299.symm)) E313) Q315 (Nat.le_of_eq g299.symm)) E317) Q319 (Nat.le_of_eq g299.symm)) E321) Q323 (Nat.le_of_eq g299.symm)) E325) Q327 (Nat.le_of_eq g299.symm)).1 (Nat.le_of_eq g329.symm))) E335) E337) E342)) hz (by decide) (by decide)) ((St333.ext (Ext.tr (Ext.tr E335 E337) E342))).exa (fun _ q => nomatch q) pd1 rfl rfl (Nat.le_of_eq rfl) rfl (by decide) (by decide) (by decide) (fun v344 T344 h344 K344 Q344 q344 => ?_)
              have E344 := Ext.of0 Q344
              have P345 := P343.ext E344
              rcases q344 with ⟨rfl, hc1⟩ | ⟨rfl, hc1⟩
              · skip
                refine gIf_eq K344 L_389 (fun q => absurd q (by first | decide | (intro hh; cases hh) | simp)) (fun q389 => ?_)
                refine gGetS K344 L_392 (hw _ (List.mem_of_getElem? (i := 94) rfl)) (S1.ext (Ext.tr (Ext.tr (Ext.tr (Ext.tr (Ext.kp1 (Ext.tr (Ext.kp1 (Ext.tr (Ext.kp1 (Ext.tr (Ext.kp1 (Ext.tr (Ext.kp1 (Ext.tr (Ext.kp1 (Ext.tr (Ext.kp1 (Ext.tr (Ext.kp1 (Ext.tr E299 E301) Q303 (Nat.le_of_eq g299.symm)) E305) Q307 (Nat.le_of_eq g299.symm)) E309) Q311 (Nat.le_of_eq g299.symm)) E313) Q315 (Nat.le_of_eq g299.symm)) E317) Q319 (Nat.le_of_eq g299.symm)) E321) Q323 (Nat.le_of_eq g299.symm)) E325) Q327 (Nat.le_of_eq g299.symm)) E329) Q333 (Nat.le_trans (Ext.kp1 (Ext.tr (Ext.kp1 (Ext.tr (Ext.kp1 (Ext.tr (Ext.kp1 (Ext.tr (Ext.kp1 (Ext.tr (Ext.kp1 (Ext.tr (Ext.kp1 (Ext.tr E299 E301) Q303 (Nat.le_of_eq g299.symm)) E305) Q307 (Nat.le_of_eq g299.symm)) E309) Q311 (Nat.le_of_eq g299.symm)) E313) Q315 (Nat.le_of_eq g299.symm)) E317) Q319 (Nat.le_of_eq g299.symm)) E321) Q323 (Nat.le_of_eq g299.symm)) E325) Q327 (Nat.le_of_eq g299.symm)).1 (Nat.le_of_eq g329.symm))) E335) E337) E342) E344)) (fun T346 K346 => ?_)
                refine gAstore K346 L_395 rfl (Ls' := #[.val (.int pick), .val (.int shape), .val (.int pos), .val (.int chh), .val (.int ext), .val (.int wh), .val (.int (8 : Int32)), .val (.int (shape &&& (3 : Int32))), .val (.int (7 : Int32)), .val (.int sb), .val (.int pp), .val (.int c_), .val (.int e_), .val (.ref x299), .val (.ref x329), .val (.ref v1)]) rfl ?_
                refine gAload K346 L_397 (v := (.ref x329)) rfl rfl ?_
                refine gCallS K346 (W := 0) [(.ref x329)] [] L_399 (hw _ (List.mem_of_getElem? (i := 36) rfl)) (hw _ (List.mem_of_getElem? (i := 37) rfl)) (hw _ (List.mem_of_getElem? (i := 38) rfl)) (hw _ (List.mem_of_getElem? (i := 39) rfl)) (Cal.ofN (W := 0) (c_look l Z a0 hw h344 n0 K346.n0le x329 cs va kV dv v0 l0 v1 l1 z (Sv.ext (Ext.tr (Ext.tr (Ext.tr (Ext.tr (Ext.kp1 (Ext.tr (Ext.kp1 (Ext.tr (Ext.kp1 (Ext.tr (Ext.kp1 (Ext.tr (Ext.kp1 (Ext.tr (Ext.kp1 (Ext.tr (Ext.kp1 (Ext.tr (Ext.kp1 (Ext.tr E299 E301) Q303 (Nat.le_of_eq g299.symm)) E305) Q307 (Nat.le_of_eq g299.symm)) E309) Q311 (Nat.le_of_eq g299.symm)) E313) Q315 (Nat.le_of_eq g299.symm)) E317) Q319 (Nat.le_of_eq g299.symm)) E321) Q323 (Nat.le_of_eq g299.symm)) E325) Q327 (Nat.le_of_eq g299.symm)) E329) Q333 (Nat.le_trans (Ext.kp1 (Ext.tr (Ext.kp1 (Ext.tr (Ext.kp1 (Ext.tr (Ext.kp1 (Ext.tr (Ext.kp1 (Ext.tr (Ext.kp1 (Ext.tr (Ext.kp1 (Ext.tr E299 E301) Q303 (Nat.le_of_eq g299.symm)) E305) Q307 (Nat.le_of_eq g299.symm)) E309) Q311 (Nat.le_of_eq g299.symm)) E313) Q315 (Nat.le_of_eq g299.symm)) E317) Q319 (Nat.le_of_eq g299.symm)) E321) Q323 (Nat.le_of_eq g299.symm)) E325) Q327 (Nat.le_of_eq g299.symm)).1 (Nat.le_of_eq g329.symm))) E335) E337) E342) E344)) (Av.ext (Ext.tr (Ext.tr (Ext.tr (Ext.tr (Ext.kp1 (Ext.tr (Ext.kp1 (Ext.tr (Ext.kp1 (Ext.tr (Ext.kp1 (Ext.tr (Ext.kp1 (Ext.tr (Ext.kp1 (Ext.tr (Ext.kp1 (Ext.tr (Ext.kp1 (Ext.tr E299 E301) Q303 (Nat.le_of_eq g299.symm)) E305) Q307 (Nat.le_of_eq g299.symm)) E309) Q311 (Nat.le_of_eq g299.symm)) E313) Q315 (Nat.le_of_eq g299.symm)) E317) Q319 (Nat.le_of_eq g299.symm)) E321) Q323 (Nat.le_of_eq g299.symm)) E325) Q327 (Nat.le_of_eq g299.symm)) E329) Q333 (Nat.le_trans (Ext.kp1 (Ext.tr (Ext.kp1 (Ext.tr (Ext.kp1 (Ext.tr (Ext.kp1 (Ext.tr (Ext.kp1 (Ext.tr (Ext.kp1 (Ext.tr (Ext.kp1 (Ext.tr E299 E301) Q303 (Nat.le_of_eq g299.symm)) E305) Q307 (Nat.le_of_eq g299.symm)) E309) Q311 (Nat.le_of_eq g299.symm)) E313) Q315 (Nat.le_of_eq g299.symm)) E317) Q319 (Nat.le_of_eq g299.symm)) E321) Q323 (Nat.le_of_eq g299.symm)) E325) Q327 (Nat.le_of_eq g299.symm)).1 (Nat.le_of_eq g329.symm))) E335) E337) E342) E344)) (Ev.ext (Ext.tr (Ext.tr (Ext.tr (Ext.tr (Ext.kp1 (Ext.tr (Ext.kp1 (Ext.tr (Ext.kp1 (Ext.tr (Ext.kp1 (Ext.tr (Ext.kp1 (Ext.tr (Ext.kp1 (Ext.tr (Ext.kp1 (Ext.tr (Ext.kp1 (Ext.tr E299 E301) Q303 (Nat.le_of_eq g299.symm)) E305) Q307 (Nat.le_of_eq g299.symm)) E309) Q311 (Nat.le_of_eq g299.symm)) E313) Q315 (Nat.le_of_eq g299.symm)) E317) Q319 (Nat.le_of_eq g299.symm)) E321) Q323 (Nat.le_of_eq g299.symm)) E325) Q327 (Nat.le_of_eq g299.symm)) E329) Q333 (Nat.le_trans (Ext.kp1 (Ext.tr (Ext.kp1 (Ext.tr (Ext.kp1 (Ext.tr (Ext.kp1 (Ext.tr (Ext.kp1 (Ext.tr (Ext.kp1 (Ext.tr (Ext.kp1 (Ext.tr E299 E301) Q303 (Nat.le_of_eq g299.symm)) E305) Q307 (Nat.le_of_eq g299.symm)) E309) Q311 (Nat.le_of_eq g299.symm)) E313) Q315 (Nat.le_of_eq g299.symm)) E317) Q319 (Nat.le_of_eq g299.symm)) E321) Q323 (Nat.le_of_eq g299.symm)) E325) Q327 (Nat.le_of_eq g299.symm)).1 (Nat.le_of_eq g329.symm))) E335) E337) E342) E344)) (F0.ext (Ext.tr (Ext.tr (Ext.tr (Ext.tr (Ext.kp1 (Ext.tr (Ext.kp1 (Ext.tr (Ext.kp1 (Ext.tr (Ext.kp1 (Ext.tr (Ext.kp1 (Ext.tr (Ext.kp1 (Ext.tr (Ext.kp1 (Ext.tr (Ext.kp1 (Ext.tr E299 E301) Q303 (Nat.le_of_eq g299.symm)) E305) Q307 (Nat.le_of_eq g299.symm)) E309) Q311 (Nat.le_of_eq g299.symm)) E313) Q315 (Nat.le_of_eq g299.symm)) E317) Q319 (Nat.le_of_eq g299.symm)) E321) Q323 (Nat.le_of_eq g299.symm)) E325) Q327 (Nat.le_of_eq g299.symm)) E329) Q333 (Nat.le_trans (Ext.kp1 (Ext.tr (Ext.kp1 (Ext.tr (Ext.kp1 (Ext.tr (Ext.kp1 (Ext.tr (Ext.kp1 (Ext.tr (Ext.kp1 (Ext.tr (Ext.kp1 (Ext.tr E299 E301) Q303 (Nat.le_of_eq g299.symm)) E305) Q307 (Nat.le_of_eq g299.symm)) E309) Q311 (Nat.le_of_eq g299.symm)) E313) Q315 (Nat.le_of_eq g299.symm)) E317) Q319 (Nat.le_of_eq g299.symm)) E321) Q323 (Nat.le_of_eq g299.symm)) E325) Q327 (Nat.le_of_eq g299.symm)).1 (Nat.le_of_eq g329.symm))) E335) E337) E342) E344)) (L0.ext (Ext.tr (Ext.tr (Ext.tr (Ext.tr (Ext.kp1 (Ext.tr (Ext.kp1 (Ext.tr (Ext.kp1 (Ext.tr (Ext.kp1 (Ext.tr (Ext.kp1 (Ext.tr (Ext.kp1 (Ext.tr (Ext.kp1 (Ext.tr (Ext.kp1 (Ext.tr E299 E301) Q303 (Nat.le_of_eq g299.symm)) E305) Q307 (Nat.le_of_eq g299.symm)) E309) Q311 (Nat.le_of_eq g299.symm)) E313) Q315 (Nat.le_of_eq g299.symm)) E317) Q319 (Nat.le_of_eq g299.symm)) E321) Q323 (Nat.le_of_eq g299.symm)) E325) Q327 (Nat.le_of_eq g299.symm)) E329) Q333 (Nat.le_trans (Ext.kp1 (Ext.tr (Ext.kp1 (Ext.tr (Ext.kp1 (Ext.tr (Ext.kp1 (Ext.tr (Ext.kp1 (Ext.tr (Ext.kp1 (Ext.tr (Ext.kp1 (Ext.tr E299 E301) Q303 (Nat.le_of_eq g299.symm)) E305) Q307 (Nat.le_of_eq g299.symm)) E309) Q311 (Nat.le_of_eq g299.symm)) E313) Q315 (Nat.le_of_eq g299.symm)) E317) Q319 (Nat.le_of_eq g299.symm)) E321) Q323 (Nat.le_of_eq g299.symm)) E325) Q327 (Nat.le_of_eq g299.symm)).1 (Nat.le_of_eq g329.symm))) E335) E337) E342) E344)) (F1.ext (Ext.tr (Ext.tr (Ext.tr (Ext.tr (Ext.kp1 (Ext.tr (Ext.kp1 (Ext.tr (Ext.kp1 (Ext.tr (Ext.kp1 (Ext.tr (Ext.kp1 (Ext.tr (Ext.kp1 (Ext.tr (Ext.kp1 (Ext.tr (Ext.kp1 (Ext.tr E299 E301) Q303 (Nat.le_of_eq g299.symm)) E305) Q307 (Nat.le_of_eq g299.symm)) E309) Q311 (Nat.le_of_eq g299.symm)) E313) Q315 (Nat.le_of_eq g299.symm)) E317) Q319 (Nat.le_of_eq g299.symm)) E321) Q323 (Nat.le_of_eq g299.symm)) E325) Q327 (Nat.le_of_eq g299.symm)) E329) Q333 (Nat.le_trans (Ext.kp1 (Ext.tr (Ext.kp1 (Ext.tr (Ext.kp1 (Ext.tr (Ext.kp1 (Ext.tr (Ext.kp1 (Ext.tr (Ext.kp1 (Ext.tr (Ext.kp1 (Ext.tr E299 E301) Q303 (Nat.le_of_eq g299.symm)) E305) Q307 (Nat.le_of_eq g299.symm)) E309) Q311 (Nat.le_of_eq g299.symm)) E313) Q315 (Nat.le_of_eq g299.symm)) E317) Q319 (Nat.le_of_eq g299.symm)) E321) Q323 (Nat.le_of_eq g299.symm)) E325) Q327 (Nat.le_of_eq g299.symm)).1 (Nat.le_of_eq g329.symm))) E335) E337) E342) E344)) (L1.ext (Ext.tr (Ext.tr (Ext.tr (Ext.tr (Ext.kp1 (Ext.tr (Ext.kp1 (Ext.tr (Ext.kp1 (Ext.tr (Ext.kp1 (Ext.tr (Ext.kp1 (Ext.tr (Ext.kp1 (Ext.tr (Ext.kp1 (Ext.tr (Ext.kp1 (Ext.tr E299 E301) Q303 (Nat.le_of_eq g299.symm)) E305) Q307 (Nat.le_of_eq g299.symm)) E309) Q311 (Nat.le_of_eq g299.symm)) E313) Q315 (Nat.le_of_eq g299.symm)) E317) Q319 (Nat.le_of_eq g299.symm)) E321) Q323 (Nat.le_of_eq g299.symm)) E325) Q327 (Nat.le_of_eq g299.symm)) E329) Q333 (Nat.le_trans (Ext.kp1 (Ext.tr (Ext.kp1 (Ext.tr (Ext.kp1 (Ext.tr (Ext.kp1 (Ext.tr (Ext.kp1 (Ext.tr (Ext.kp1 (Ext.tr (Ext.kp1 (Ext.tr E299 E301) Q303 (Nat.le_of_eq g299.symm)) E305) Q307 (Nat.le_of_eq g299.symm)) E309) Q311 (Nat.le_of_eq g299.symm)) E313) Q315 (Nat.le_of_eq g299.symm)) E317) Q319 (Nat.le_of_eq g299.symm)) E321) Q323 (Nat.le_of_eq g299.symm)) E325) Q327 (Nat.le_of_eq g299.symm)).1 (Nat.le_of_eq g329.symm))) E335) E337) E342) E344)) (Sc.ext (Ext.tr (Ext.tr (Ext.tr (Ext.tr (Ext.kp1 (Ext.tr (Ext.kp1 (Ext.tr (Ext.kp1 (Ext.tr (Ext.kp1 (Ext.tr (Ext.kp1 (Ext.tr (Ext.kp1 (Ext.tr (Ext.kp1 (Ext.tr (Ext.kp1 (Ext.tr E299 E301) Q303 (Nat.le_of_eq g299.symm)) E305) Q307 (Nat.le_of_eq g299.symm)) E309) Q311 (Nat.le_of_eq g299.symm)) E313) Q315 (Nat.le_of_eq g299.symm)) E317) Q319 (Nat.le_of_eq g299.symm)) E321) Q323 (Nat.le_of_eq g299.symm)) E325) Q327 (Nat.le_of_eq g299.symm)) E329) Q333 (Nat.le_trans (Ext.kp1 (Ext.tr (Ext.kp1 (Ext.tr (Ext.kp1 (Ext.tr (Ext.kp1 (Ext.tr (Ext.kp1 (Ext.tr (Ext.kp1 (Ext.tr (Ext.kp1 (Ext.tr E299 E301) Q303 (Nat.le_of_eq g299.symm)) E305) Q307 (Nat.le_of_eq g299.symm)) E309) Q311 (Nat.le_of_eq g299.symm)) E313) Q315 (Nat.le_of_eq g299.symm)) E317) Q319 (Nat.le_of_eq g299.symm)) E321) Q323 (Nat.le_of_eq g299.symm)) E325) Q327 (Nat.le_of_eq g299.symm)).1 (Nat.le_of_eq g329.symm))) E335) E337) E342) E344)) hz (St333.ext (Ext.tr (Ext.tr (Ext.tr E335 E337) E342) E344))) (hw _ (List.mem_of_getElem? (i := 39) rfl)) (hw _ (List.mem_of_getElem? (i := 38) rfl)) (by decide) (by decide)) (fun _ q => nomatch q) pd5 rfl rfl (Nat.le_of_eq rfl) rfl (by decide) (by decide) (by decide) (fun v347 T347 h347 K347 Q347 q347 => ?_)
                have E347 := Ext.of0 Q347
                have P348 := P345.ext E347
                cases q347
                rw [if_neg hc0, if_pos hc1]
                refine gAload K347 L_402 (v := (.ref v1)) rfl rfl ?_
                refine gAcmp_ne K347 L_404 rfl rfl (fun q => absurd q (by first | decide | (intro hh; cases hh) | simp)) (fun q404 => ?_)
                refine gIconst K347 (1 : Int32) L_407 rfl ?_
                refine gGoto K347 L_408 ?_
                refine gRetI K347 hlk hret (by simp) L_412 rfl P348 (by decide) (by decide) ?_
                exact rfl
              · skip
                refine gIf_eq K344 L_389 (fun q389 => ?_) (fun q => absurd q (by first | decide | (intro hh; cases hh) | simp))
                refine gAload K344 L_397 (v := (.ref x329)) rfl rfl ?_
                refine gCallS K344 (W := 0) [(.ref x329)] [] L_399 (hw _ (List.mem_of_getElem? (i := 36) rfl)) (hw _ (List.mem_of_getElem? (i := 37) rfl)) (hw _ (List.mem_of_getElem? (i := 38) rfl)) (hw _ (List.mem_of_getElem? (i := 39) rfl)) (Cal.ofN (W := 0) (c_look l Z a0 hw h344 n0 K344.n0le x329 cs va kV dv v0 l0 v1 l1 z (Sv.ext (Ext.tr (Ext.tr (Ext.tr (Ext.tr (Ext.kp1 (Ext.tr (Ext.kp1 (Ext.tr (Ext.kp1 (Ext.tr (Ext.kp1 (Ext.tr (Ext.kp1 (Ext.tr (Ext.kp1 (Ext.tr (Ext.kp1 (Ext.tr (Ext.kp1 (Ext.tr E299 E301) Q303 (Nat.le_of_eq g299.symm)) E305) Q307 (Nat.le_of_eq g299.symm)) E309) Q311 (Nat.le_of_eq g299.symm)) E313) Q315 (Nat.le_of_eq g299.symm)) E317) Q319 (Nat.le_of_eq g299.symm)) E321) Q323 (Nat.le_of_eq g299.symm)) E325) Q327 (Nat.le_of_eq g299.symm)) E329) Q333 (Nat.le_trans (Ext.kp1 (Ext.tr (Ext.kp1 (Ext.tr (Ext.kp1 (Ext.tr (Ext.kp1 (Ext.tr (Ext.kp1 (Ext.tr (Ext.kp1 (Ext.tr (Ext.kp1 (Ext.tr E299 E301) Q303 (Nat.le_of_eq g299.symm)) E305) Q307 (Nat.le_of_eq g299.symm)) E309) Q311 (Nat.le_of_eq g299.symm)) E313) Q315 (Nat.le_of_eq g299.symm)) E317) Q319 (Nat.le_of_eq g299.symm)) E321) Q323 (Nat.le_of_eq g299.symm)) E325) Q327 (Nat.le_of_eq g299.symm)).1 (Nat.le_of_eq g329.symm))) E335) E337) E342) E344)) (Av.ext (Ext.tr (Ext.tr (Ext.tr (Ext.tr (Ext.kp1 (Ext.tr (Ext.kp1 (Ext.tr (Ext.kp1 (Ext.tr (Ext.kp1 (Ext.tr (Ext.kp1 (Ext.tr (Ext.kp1 (Ext.tr (Ext.kp1 (Ext.tr (Ext.kp1 (Ext.tr E299 E301) Q303 (Nat.le_of_eq g299.symm)) E305) Q307 (Nat.le_of_eq g299.symm)) E309) Q311 (Nat.le_of_eq g299.symm)) E313) Q315 (Nat.le_of_eq g299.symm)) E317) Q319 (Nat.le_of_eq g299.symm)) E321) Q323 (Nat.le_of_eq g299.symm)) E325) Q327 (Nat.le_of_eq g299.symm)) E329) Q333 (Nat.le_trans (Ext.kp1 (Ext.tr (Ext.kp1 (Ext.tr (Ext.kp1 (Ext.tr (Ext.kp1 (Ext.tr (Ext.kp1 (Ext.tr (Ext.kp1 (Ext.tr (Ext.kp1 (Ext.tr E299 E301) Q303 (Nat.le_of_eq g299.symm)) E305) Q307 (Nat.le_of_eq g299.symm)) E309) Q311 (Nat.le_of_eq g299.symm)) E313) Q315 (Nat.le_of_eq g299.symm)) E317) Q319 (Nat.le_of_eq g299.symm)) E321) Q323 (Nat.le_of_eq g299.symm)) E325) Q327 (Nat.le_of_eq g299.symm)).1 (Nat.le_of_eq g329.symm))) E335) E337) E342) E344)) (Ev.ext (Ext.tr (Ext.tr (Ext.tr (Ext.tr (Ext.kp1 (Ext.tr (Ext.kp1 (Ext.tr (Ext.kp1 (Ext.tr (Ext.kp1 (Ext.tr (Ext.kp1 (Ext.tr (Ext.kp1 (Ext.tr (Ext.kp1 (Ext.tr (Ext.kp1 (Ext.tr E299 E301) Q303 (Nat.le_of_eq g299.symm)) E305) Q307 (Nat.le_of_eq g299.symm)) E309) Q311 (Nat.le_of_eq g299.symm)) E313) Q315 (Nat.le_of_eq g299.symm)) E317) Q319 (Nat.le_of_eq g299.symm)) E321) Q323 (Nat.le_of_eq g299.symm)) E325) Q327 (Nat.le_of_eq g299.symm)) E329) Q333 (Nat.le_trans (Ext.kp1 (Ext.tr (Ext.kp1 (Ext.tr (Ext.kp1 (Ext.tr (Ext.kp1 (Ext.tr (Ext.kp1 (Ext.tr (Ext.kp1 (Ext.tr (Ext.kp1 (Ext.tr E299 E301) Q303 (Nat.le_of_eq g299.symm)) E305) Q307 (Nat.le_of_eq g299.symm)) E309) Q311 (Nat.le_of_eq g299.symm)) E313) Q315 (Nat.le_of_eq g299.symm)) E317) Q319 (Nat.le_of_eq g299.symm)) E321) Q323 (Nat.le_of_eq g299.symm)) E325) Q327 (Nat.le_of_eq g299.symm)).1 (Nat.le_of_eq g329.symm))) E335) E337) E342) E344)) (F0.ext (Ext.tr (Ext.tr (Ext.tr (Ext.tr (Ext.kp1 (Ext.tr (Ext.kp1 (Ext.tr (Ext.kp1 (Ext.tr (Ext.kp1 (Ext.tr (Ext.kp1 (Ext.tr (Ext.kp1 (Ext.tr (Ext.kp1 (Ext.tr (Ext.kp1 (Ext.tr E299 E301) Q303 (Nat.le_of_eq g299.symm)) E305) Q307 (Nat.le_of_eq g299.symm)) E309) Q311 (Nat.le_of_eq g299.symm)) E313) Q315 (Nat.le_of_eq g299.symm)) E317) Q319 (Nat.le_of_eq g299.symm)) E321) Q323 (Nat.le_of_eq g299.symm)) E325) Q327 (Nat.le_of_eq g299.symm)) E329) Q333 (Nat.le_trans (Ext.kp1 (Ext.tr (Ext.kp1 (Ext.tr (Ext.kp1 (Ext.tr (Ext.kp1 (Ext.tr (Ext.kp1 (Ext.tr (Ext.kp1 (Ext.tr (Ext.kp1 (Ext.tr E299 E301) Q303 (Nat.le_of_eq g299.symm)) E305) Q307 (Nat.le_of_eq g299.symm)) E309) Q311 (Nat.le_of_eq g299.symm)) E313) Q315 (Nat.le_of_eq g299.symm)) E317) Q319 (Nat.le_of_eq g299.symm)) E321) Q323 (Nat.le_of_eq g299.symm)) E325) Q327 (Nat.le_of_eq g299.symm)).1 (Nat.le_of_eq g329.symm))) E335) E337) E342) E344)) (L0.ext (Ext.tr (Ext.tr (Ext.tr (Ext.tr (Ext.kp1 (Ext.tr (Ext.kp1 (Ext.tr (Ext.kp1 (Ext.tr (Ext.kp1 (Ext.tr (Ext.kp1 (Ext.tr (Ext.kp1 (Ext.tr (Ext.kp1 (Ext.tr (Ext.kp1 (Ext.tr E299 E301) Q303 (Nat.le_of_eq g299.symm)) E305) Q307 (Nat.le_of_eq g299.symm)) E309) Q311 (Nat.le_of_eq g299.symm)) E313) Q315 (Nat.le_of_eq g299.symm)) E317) Q319 (Nat.le_of_eq g299.symm)) E321) Q323 (Nat.le_of_eq g299.symm)) E325) Q327 (Nat.le_of_eq g299.symm)) E329) Q333 (Nat.le_trans (Ext.kp1 (Ext.tr (Ext.kp1 (Ext.tr (Ext.kp1 (Ext.tr (Ext.kp1 (Ext.tr (Ext.kp1 (Ext.tr (Ext.kp1 (Ext.tr (Ext.kp1 (Ext.tr E299 E301) Q303 (Nat.le_of_eq g299.symm)) E305) Q307 (Nat.le_of_eq g299.symm)) E309) Q311 (Nat.le_of_eq g299.symm)) E313) Q315 (Nat.le_of_eq g299.symm)) E317) Q319 (Nat.le_of_eq g299.symm)) E321) Q323 (Nat.le_of_eq g299.symm)) E325) Q327 (Nat.le_of_eq g299.symm)).1 (Nat.le_of_eq g329.symm))) E335) E337) E342) E344)) (F1.ext (Ext.tr (Ext.tr (Ext.tr (Ext.tr (Ext.kp1 (Ext.tr (Ext.kp1 (Ext.tr (Ext.kp1 (Ext.tr (Ext.kp1 (Ext.tr (Ext.kp1 (Ext.tr (Ext.kp1 (Ext.tr (Ext.kp1 (Ext.tr (Ext.kp1 (Ext.tr E299 E301) Q303 (Nat.le_of_eq g299.symm)) E305) Q307 (Nat.le_of_eq g299.symm)) E309) Q311 (Nat.le_of_eq g299.symm)) E313) Q315 (Nat.le_of_eq g299.symm)) E317) Q319 (Nat.le_of_eq g299.symm)) E321) Q323 (Nat.le_of_eq g299.symm)) E325) Q327 (Nat.le_of_eq g299.symm)) E329) Q333 (Nat.le_trans (Ext.kp1 (Ext.tr (Ext.kp1 (Ext.tr (Ext.kp1 (Ext.tr (Ext.kp1 (Ext.tr (Ext.kp1 (Ext.tr (Ext.kp1 (Ext.tr (Ext.kp1 (Ext.tr E299 E301) Q303 (Nat.le_of_eq g299.symm)) E305) Q307 (Nat.le_of_eq g299.symm)) E309) Q311 (Nat.le_of_eq g299.symm)) E313) Q315 (Nat.le_of_eq g299.symm)) E317) Q319 (Nat.le_of_eq g299.symm)) E321) Q323 (Nat.le_of_eq g299.symm)) E325) Q327 (Nat.le_of_eq g299.symm)).1 (Nat.le_of_eq g329.symm))) E335) E337) E342) E344)) (L1.ext (Ext.tr (Ext.tr (Ext.tr (Ext.tr (Ext.kp1 (Ext.tr (Ext.kp1 (Ext.tr (Ext.kp1 (Ext.tr (Ext.kp1 (Ext.tr (Ext.kp1 (Ext.tr (Ext.kp1 (Ext.tr (Ext.kp1 (Ext.tr (Ext.kp1 (Ext.tr E299 E301) Q303 (Nat.le_of_eq g299.symm)) E305) Q307 (Nat.le_of_eq g299.symm)) E309) Q311 (Nat.le_of_eq g299.symm)) E313) Q315 (Nat.le_of_eq g299.symm)) E317) Q319 (Nat.le_of_eq g299.symm)) E321) Q323 (Nat.le_of_eq g299.symm)) E325) Q327 (Nat.le_of_eq g299.symm)) E329) Q333 (Nat.le_trans (Ext.kp1 (Ext.tr (Ext.kp1 (Ext.tr (Ext.kp1 (Ext.tr (Ext.kp1 (Ext.tr (Ext.kp1 (Ext.tr (Ext.kp1 (Ext.tr (Ext.kp1 (Ext.tr E299 E301) Q303 (Nat.le_of_eq g299.symm)) E305) Q307 (Nat.le_of_eq g299.symm)) E309) Q311 (Nat.le_of_eq g299.symm)) E313) Q315 (Nat.le_of_eq g299.symm)) E317) Q319 (Nat.le_of_eq g299.symm)) E321) Q323 (Nat.le_of_eq g299.symm)) E325) Q327 (Nat.le_of_eq g299.symm)).1 (Nat.le_of_eq g329.symm))) E335) E337) E342) E344)) (Sc.ext (Ext.tr (Ext.tr (Ext.tr (Ext.tr (Ext.kp1 (Ext.tr (Ext.kp1 (Ext.tr (Ext.kp1 (Ext.tr (Ext.kp1 (Ext.tr (Ext.kp1 (Ext.tr (Ext.kp1 (Ext.tr (Ext.kp1 (Ext.tr (Ext.kp1 (Ext.tr E299 E301) Q303 (Nat.le_of_eq g299.symm)) E305) Q307 (Nat.le_of_eq g299.symm)) E309) Q311 (Nat.le_of_eq g299.symm)) E313) Q315 (Nat.le_of_eq g299.symm)) E317) Q319 (Nat.le_of_eq g299.symm)) E321) Q323 (Nat.le_of_eq g299.symm)) E325) Q327 (Nat.le_of_eq g299.symm)) E329) Q333 (Nat.le_trans (Ext.kp1 (Ext.tr (Ext.kp1 (Ext.tr (Ext.kp1 (Ext.tr (Ext.kp1 (Ext.tr (Ext.kp1 (Ext.tr (Ext.kp1 (Ext.tr (Ext.kp1 (Ext.tr E299 E301) Q303 (Nat.le_of_eq g299.symm)) E305) Q307 (Nat.le_of_eq g299.symm)) E309) Q311 (Nat.le_of_eq g299.symm)) E313) Q315 (Nat.le_of_eq g299.symm)) E317) Q319 (Nat.le_of_eq g299.symm)) E321) Q323 (Nat.le_of_eq g299.symm)) E325) Q327 (Nat.le_of_eq g299.symm)).1 (Nat.le_of_eq g329.symm))) E335) E337) E342) E344)) hz (St333.ext (Ext.tr (Ext.tr (Ext.tr E335 E337) E342) E344))) (hw _ (List.mem_of_getElem? (i := 39) rfl)) (hw _ (List.mem_of_getElem? (i := 38) rfl)) (by decide) (by decide)) (fun _ q => nomatch q) pd5 rfl rfl (Nat.le_of_eq rfl) rfl (by decide) (by decide) (by decide) (fun v349 T349 h349 K349 Q349 q349 => ?_)
                have E349 := Ext.of0 Q349
                have P350 := P345.ext E349
                cases q349
                rw [if_neg hc0, if_neg hc1]
                refine gAload K349 L_402 (v := .null) rfl rfl ?_
                refine gAcmp_ne K349 L_404 rfl rfl (fun q => absurd q (by first | decide | (intro hh; cases hh) | simp)) (fun q404 => ?_)
                refine gIconst K349 (1 : Int32) L_407 rfl ?_
                refine gGoto K349 L_408 ?_
                refine gRetI K349 hlk hret (by simp) L_412 rfl P350 (by decide) (by decide) ?_
                exact rfl
          refine gIloadN K0 L_63 (v := shape) rfl ?_
          refine gIconst K0 (4 : Int32) L_64 rfl ?_
          refine gIand K0 L_65 ?_
          refine gIf_eq K0 L_66 (fun q66 => ?_) (fun q66 => ?_)
          · skip
            refine gIconst K0 (0 : Int32) L_73 rfl ?_
            exact j74 _ K0 (0 : Int32)
          · skip
            refine gIconst K0 (1 : Int32) L_69 rfl ?_
            refine gGoto K0 L_70 ?_
            exact j74 _ K0 (1 : Int32)
      · skip
        refine gIload K0 L_40 (v := (8 : Int32)) rfl ?_
        refine gIconst K0 (1 : Int32) L_42 rfl ?_
        refine gIaddV K0 (9 : Int32) L_43 (by decide) ?_
        refine gGoto K0 L_44 ?_
        refine gIstore K0 L_61 (Ls' := #[.val (.int pick), .val (.int shape), .val (.int pos), .val (.int chh), .val (.int ext), .val (.int wh), .val (.int (8 : Int32)), .val (.int (shape &&& (3 : Int32))), .val (.int (9 : Int32)), .unset, .unset, .unset, .unset, .unset, .unset, .unset]) rfl ?_
        have j74 : ∀ (T351 : State) (K351 : Cx p l e room_1 s m #[(.int pick), (.int shape), (.int pos), (.int chh), (.int ext)] below meth c code maxLocals Z "com/example/tranche/tranche/calendar/CityFromLabelPinLaw" n0 (some [("com/example/tranche/tranche/calendar/CityFromLabelPinLaw", 19), ("com/example/tranche/tranche/calendar/CityFromLabelPinLaw", 31), ("java/lang/String", 7)]) T351 h0 [] 0 0) (sb : Int32), Go p e below (End (some [("com/example/tranche/tranche/calendar/CityFromLabelPinLaw", 19), ("com/example/tranche/tranche/calendar/CityFromLabelPinLaw", 31), ("java/lang/String", 7)]) s Z n0 h0 [] room_1.cells room_1.slots (fun v h => v = some (.int 1))) T351 (mkF m 74 #[.val (.int pick), .val (.int shape), .val (.int pos), .val (.int chh), .val (.int ext), .val (.int wh), .val (.int (8 : Int32)), .val (.int (shape &&& (3 : Int32))), .val (.int (9 : Int32)), .unset, .unset, .unset, .unset, .unset, .unset, .unset] [(.int sb)]) := by
          intro T351 K351 sb
          refine gIstore K351 L_74 (Ls' := #[.val (.int pick), .val (.int shape), .val (.int pos), .val (.int chh), .val (.int ext), .val (.int wh), .val (.int (8 : Int32)), .val (.int (shape &&& (3 : Int32))), .val (.int (9 : Int32)), .val (.int sb), .unset, .unset, .unset, .unset, .unset, .unset]) rfl ?_
          refine gIloadN K351 L_76 (v := pos) rfl ?_
          refine gLdcI K351 (2147483647 : Int32) L_77 (hw _ (List.mem_of_getElem? (i := 0) rfl)) ?_
          refine gIand K351 L_79 ?_
          refine gBipush K351 (9 : Int32) L_80 rfl ?_
          refine gIrem K351 L_82 (by decide) ?_
          generalize ((pos &&& (2147483647 : Int32)) % (9 : Int32)) = pp
          refine gIstore K351 L_83 (Ls' := #[.val (.int pick), .val (.int shape), .val (.int pos), .val (.int chh), .val (.int ext), .val (.int wh), .val (.int (8 : Int32)), .val (.int (shape &&& (3 : Int32))), .val (.int (9 : Int32)), .val (.int sb), .val (.int pp), .unset, .unset, .unset, .unset, .unset]) rfl ?_
          refine gIloadN K351 L_85 (v := chh) rfl ?_
          refine gSipush K351 (255 : Int32) L_86 rfl ?_
          refine gIand K351 L_89 ?_
          refine gI2c K351 L_90 ?_
          have hb_c_ := and255c chh
          generalize ((chh &&& (255 : Int32))).toUInt32.toUInt16.toUInt32.toInt32 = c_ at hb_c_ ⊢
          refine gIstore K351 L_91 (Ls' := #[.val (.int pick), .val (.int shape), .val (.int pos), .val (.int chh), .val (.int ext), .val (.int wh), .val (.int (8 : Int32)), .val (.int (shape &&& (3 : Int32))), .val (.int (9 : Int32)), .val (.int sb), .val (.int pp), .val (.int c_), .unset, .unset, .unset, .unset]) rfl ?_
          refine gIload K351 L_93 (v := ext) rfl ?_
          refine gSipush K351 (255 : Int32) L_95 rfl ?_
          refine gIand K351 L_98 ?_
          refine gI2c K351 L_99 ?_
          have hb_e_ := and255c ext
          generalize ((ext &&& (255 : Int32))).toUInt32.toUInt16.toUInt32.toInt32 = e_ at hb_e_ ⊢
          refine gIstore K351 L_100 (Ls' := #[.val (.int pick), .val (.int shape), .val (.int pos), .val (.int chh), .val (.int ext), .val (.int wh), .val (.int (8 : Int32)), .val (.int (shape &&& (3 : Int32))), .val (.int (9 : Int32)), .val (.int sb), .val (.int pp), .val (.int c_), .val (.int e_), .unset, .unset, .unset]) rfl ?_
          refine gIload K351 L_102 (v := (9 : Int32)) rfl ?_
          refine gNewarr K351 L_104 (hw _ (List.mem_of_getElem? (i := 1) rfl)) (by decide) 9 (by decide) (by decide) (by decide) (by decide) (fun T352 h352 x352 kA352 K352 E352 g352 A352 ne352 => ?_)
          have P353 := P0.ext E352
          have ge_x352 : h0.size ≤ x352 := by rw [g352]; exact P0.1
          refine gAstore K352 L_106 rfl (Ls' := #[.val (.int pick), .val (.int shape), .val (.int pos), .val (.int chh), .val (.int ext), .val (.int wh), .val (.int (8 : Int32)), .val (.int (shape &&& (3 : Int32))), .val (.int (9 : Int32)), .val (.int sb), .val (.int pp), .val (.int c_), .val (.int e_), .val (.ref x352), .unset, .unset]) rfl ?_
          refine gIload K352 L_108 (v := (9 : Int32)) rfl ?_
          refine gIf_le K352 L_110 (fun q => absurd q (by first | decide | (intro hh; cases hh) | simp)) (fun q110 => ?_)
          refine gAload K352 L_113 (v := (.ref x352)) rfl rfl ?_
          refine gIconst K352 (0 : Int32) L_115 rfl ?_
          refine gIconst K352 (0 : Int32) L_116 rfl ?_
          refine gIload K352 L_117 (v := wh) rfl ?_
          refine gIload K352 L_119 (v := (8 : Int32)) rfl ?_
          refine gIload K352 L_121 (v := sb) rfl ?_
          refine gIload K352 L_123 (v := pp) rfl ?_
          refine gIload K352 L_125 (v := c_) rfl ?_
          refine gIload K352 L_127 (v := e_) rfl ?_
          refine gCallS K352 (W := 2) [(.int (0 : Int32)), (.int wh), (.int (8 : Int32)), (.int sb), (.int pp), (.int c_), (.int e_)] [(.int (0 : Int32)), (.ref x352)] L_129 (hw _ (List.mem_of_getElem? (i := 59) rfl)) (hw _ (List.mem_of_getElem? (i := 60) rfl)) (hw _ (List.mem_of_getElem? (i := 61) rfl)) (hw _ (List.mem_of_getElem? (i := 62) rfl)) (Cal.ofW (W := 2) (c_at l Z a0 hw h352 n0 K352.n0le hE wh sb pp c_ e_ 0 8 (by decide) (by decide) (fun _ => by decide) (fun q => absurd q7 q) hb_c_ hb_e_ z (Sc.ext E352) hz fm (Sf.ext E352) rf) (hw _ (List.mem_of_getElem? (i := 62) rfl)) (hw _ (List.mem_of_getElem? (i := 61) rfl)) (by decide) (by decide)) (fun _ q => nomatch q) pd6 rfl rfl (Nat.le_of_eq rfl) rfl (by decide) (by decide) (by decide) (fun v354 T354 h354 K354 Q354 q354 => ?_)
          have E354 := Ext.of0 Q354
          have P355 := P353.ext E354
          obtain ⟨r354, rfl, hb354⟩ := q354
          refine gCastore K354 L_132 (List.mem_of_getElem? (i := 0) rfl) (A352.ext E354) rfl (by decide) hb354.1 (ch_up hb354.2) (fun T356 h356 K356 Q356 A356 => ?_)
          have P357 := P355.trans Q356 (fun z q => by cases List.mem_singleton.mp q; exact Or.inr ge_x352)
          refine gIload K356 L_133 (v := (9 : Int32)) rfl ?_
          refine gIconst K356 (1 : Int32) L_135 rfl ?_
          refine gIcmp_le K356 L_136 (fun q => absurd q (by first | decide | (intro hh; cases hh) | simp)) (fun q136 => ?_)
          refine gAload K356 L_139 (v := (.ref x352)) rfl rfl ?_
          refine gIconst K356 (1 : Int32) L_141 rfl ?_
          refine gIconst K356 (1 : Int32) L_142 rfl ?_
          refine gIload K356 L_143 (v := wh) rfl ?_
          refine gIload K356 L_145 (v := (8 : Int32)) rfl ?_
          refine gIload K356 L_147 (v := sb) rfl ?_
          refine gIload K356 L_149 (v := pp) rfl ?_
          refine gIload K356 L_151 (v := c_) rfl ?_
          refine gIload K356 L_153 (v := e_) rfl ?_
          refine gCallS K356 (W := 2) [(.int (1 : Int32)), (.int wh), (.int (8 : Int32)), (.int sb), (.int pp), (.int c_), (.int e_)] [(.int (1 : Int32)), (.ref x352)] L_155 (hw _ (List.mem_of_getElem? (i := 59) rfl)) (hw _ (List.mem_of_getElem? (i := 60) rfl)) (hw _ (List.mem_of_getElem? (i := 61) rfl)) (hw _ (List.mem_of_getElem? (i := 62) rfl)) (Cal.ofW (W := 2) (c_at l Z a0 hw h356 n0 K356.n0le hE wh sb pp c_ e_ 1 8 (by decide) (by decide) (fun _ => by decide) (fun q => absurd q7 q) hb_c_ hb_e_ z (Sc.ext (Ext.kp1 (Ext.tr E352 E354) Q356 (Nat.le_of_eq g352.symm))) hz fm (Sf.ext (Ext.kp1 (Ext.tr E352 E354) Q356 (Nat.le_of_eq g352.symm))) rf) (hw _ (List.mem_of_getElem? (i := 62) rfl)) (hw _ (List.mem_of_getElem? (i := 61) rfl)) (by decide) (by decide)) (fun _ q => nomatch q) pd6 rfl rfl (Nat.le_of_eq rfl) rfl (by decide) (by decide) (by decide) (fun v358 T358 h358 K358 Q358 q358 => ?_)
          have E358 := Ext.of0 Q358
          have P359 := P357.ext E358
          obtain ⟨r358, rfl, hb358⟩ := q358
          refine gCastore K358 L_158 (List.mem_of_getElem? (i := 0) rfl) (A356.ext E358) rfl (by decide) hb358.1 (ch_up hb358.2) (fun T360 h360 K360 Q360 A360 => ?_)
          have P361 := P359.trans Q360 (fun z q => by cases List.mem_singleton.mp q; exact Or.inr ge_x352)
          refine gIload K360 L_159 (v := (9 : Int32)) rfl ?_
          refine gIconst K360 (2 : Int32) L_161 rfl ?_
          refine gIcmp_le K360 L_162 (fun q => absurd q (by first | decide | (intro hh; cases hh) | simp)) (fun q162 => ?_)
          refine gAload K360 L_165 (v := (.ref x352)) rfl rfl ?_
          refine gIconst K360 (2 : Int32) L_167 rfl ?_
          refine gIconst K360 (2 : Int32) L_168 rfl ?_
          refine gIload K360 L_169 (v := wh) rfl ?_
          refine gIload K360 L_171 (v := (8 : Int32)) rfl ?_
          refine gIload K360 L_173 (v := sb) rfl ?_
          refine gIload K360 L_175 (v := pp) rfl ?_
          refine gIload K360 L_177 (v := c_) rfl ?_
          refine gIload K360 L_179 (v := e_) rfl ?_
          refine gCallS K360 (W := 2) [(.int (2 : Int32)), (.int wh), (.int (8 : Int32)), (.int sb), (.int pp), (.int c_), (.int e_)] [(.int (2 : Int32)), (.ref x352)] L_181 (hw _ (List.mem_of_getElem? (i := 59) rfl)) (hw _ (List.mem_of_getElem? (i := 60) rfl)) (hw _ (List.mem_of_getElem? (i := 61) rfl)) (hw _ (List.mem_of_getElem? (i := 62) rfl)) (Cal.ofW (W := 2) (c_at l Z a0 hw h360 n0 K360.n0le hE wh sb pp c_ e_ 2 8 (by decide) (by decide) (fun _ => by decide) (fun q => absurd q7 q) hb_c_ hb_e_ z (Sc.ext (Ext.kp1 (Ext.tr (Ext.kp1 (Ext.tr E352 E354) Q356 (Nat.le_of_eq g352.symm)) E358) Q360 (Nat.le_of_eq g352.symm))) hz fm (Sf.ext (Ext.kp1 (Ext.tr (Ext.kp1 (Ext.tr E352 E354) Q356 (Nat.le_of_eq g352.symm)) E358) Q360 (Nat.le_of_eq g352.symm))) rf) (hw _ (List.mem_of_getElem? (i := 62) rfl)) (hw _ (List.mem_of_getElem? (i := 61) rfl)) (by decide) (by decide)) (fun _ q => nomatch q) pd6 rfl rfl (Nat.le_of_eq rfl) rfl (by decide) (by decide) (by decide) (fun v362 T362 h362 K362 Q362 q362 => ?_)
          have E362 := Ext.of0 Q362
          have P363 := P361.ext E362
          obtain ⟨r362, rfl, hb362⟩ := q362
          refine gCastore K362 L_184 (List.mem_of_getElem? (i := 0) rfl) (A360.ext E362) rfl (by decide) hb362.1 (ch_up hb362.2) (fun T364 h364 K364 Q364 A364 => ?_)
          have P365 := P363.trans Q364 (fun z q => by cases List.mem_singleton.mp q; exact Or.inr ge_x352)
          refine gIload K364 L_185 (v := (9 : Int32)) rfl ?_
          refine gIconst K364 (3 : Int32) L_187 rfl ?_
          refine gIcmp_le K364 L_188 (fun q => absurd q (by first | decide | (intro hh; cases hh) | simp)) (fun q188 => ?_)
          refine gAload K364 L_191 (v := (.ref x352)) rfl rfl ?_
          refine gIconst K364 (3 : Int32) L_193 rfl ?_
          refine gIconst K364 (3 : Int32) L_194 rfl ?_
          refine gIload K364 L_195 (v := wh) rfl ?_
          refine gIload K364 L_197 (v := (8 : Int32)) rfl ?_
          refine gIload K364 L_199 (v := sb) rfl ?_
          refine gIload K364 L_201 (v := pp) rfl ?_
          refine gIload K364 L_203 (v := c_) rfl ?_
          refine gIload K364 L_205 (v := e_) rfl ?_
          refine gCallS K364 (W := 2) [(.int (3 : Int32)), (.int wh), (.int (8 : Int32)), (.int sb), (.int pp), (.int c_), (.int e_)] [(.int (3 : Int32)), (.ref x352)] L_207 (hw _ (List.mem_of_getElem? (i := 59) rfl)) (hw _ (List.mem_of_getElem? (i := 60) rfl)) (hw _ (List.mem_of_getElem? (i := 61) rfl)) (hw _ (List.mem_of_getElem? (i := 62) rfl)) (Cal.ofW (W := 2) (c_at l Z a0 hw h364 n0 K364.n0le hE wh sb pp c_ e_ 3 8 (by decide) (by decide) (fun _ => by decide) (fun q => absurd q7 q) hb_c_ hb_e_ z (Sc.ext (Ext.kp1 (Ext.tr (Ext.kp1 (Ext.tr (Ext.kp1 (Ext.tr E352 E354) Q356 (Nat.le_of_eq g352.symm)) E358) Q360 (Nat.le_of_eq g352.symm)) E362) Q364 (Nat.le_of_eq g352.symm))) hz fm (Sf.ext (Ext.kp1 (Ext.tr (Ext.kp1 (Ext.tr (Ext.kp1 (Ext.tr E352 E354) Q356 (Nat.le_of_eq g352.symm)) E358) Q360 (Nat.le_of_eq g352.symm)) E362) Q364 (Nat.le_of_eq g352.symm))) rf) (hw _ (List.mem_of_getElem? (i := 62) rfl)) (hw _ (List.mem_of_getElem? (i := 61) rfl)) (by decide) (by decide)) (fun _ q => nomatch q) pd6 rfl rfl (Nat.le_of_eq rfl) rfl (by decide) (by decide) (by decide) (fun v366 T366 h366 K366 Q366 q366 => ?_)
          have E366 := Ext.of0 Q366
          have P367 := P365.ext E366
          obtain ⟨r366, rfl, hb366⟩ := q366
          refine gCastore K366 L_210 (List.mem_of_getElem? (i := 0) rfl) (A364.ext E366) rfl (by decide) hb366.1 (ch_up hb366.2) (fun T368 h368 K368 Q368 A368 => ?_)
          have P369 := P367.trans Q368 (fun z q => by cases List.mem_singleton.mp q; exact Or.inr ge_x352)
          refine gIload K368 L_211 (v := (9 : Int32)) rfl ?_
          refine gIconst K368 (4 : Int32) L_213 rfl ?_
          refine gIcmp_le K368 L_214 (fun q => absurd q (by first | decide | (intro hh; cases hh) | simp)) (fun q214 => ?_)
          refine gAload K368 L_217 (v := (.ref x352)) rfl rfl ?_
          refine gIconst K368 (4 : Int32) L_219 rfl ?_
          refine gIconst K368 (4 : Int32) L_220 rfl ?_
          refine gIload K368 L_221 (v := wh) rfl ?_
          refine gIload K368 L_223 (v := (8 : Int32)) rfl ?_
          refine gIload K368 L_225 (v := sb) rfl ?_
          refine gIload K368 L_227 (v := pp) rfl ?_
          refine gIload K368 L_229 (v := c_) rfl ?_
          refine gIload K368 L_231 (v := e_) rfl ?_
          refine gCallS K368 (W := 2) [(.int (4 : Int32)), (.int wh), (.int (8 : Int32)), (.int sb), (.int pp), (.int c_), (.int e_)] [(.int (4 : Int32)), (.ref x352)] L_233 (hw _ (List.mem_of_getElem? (i := 59) rfl)) (hw _ (List.mem_of_getElem? (i := 60) rfl)) (hw _ (List.mem_of_getElem? (i := 61) rfl)) (hw _ (List.mem_of_getElem? (i := 62) rfl)) (Cal.ofW (W := 2) (c_at l Z a0 hw h368 n0 K368.n0le hE wh sb pp c_ e_ 4 8 (by decide) (by decide) (fun _ => by decide) (fun q => absurd q7 q) hb_c_ hb_e_ z (Sc.ext (Ext.kp1 (Ext.tr (Ext.kp1 (Ext.tr (Ext.kp1 (Ext.tr (Ext.kp1 (Ext.tr E352 E354) Q356 (Nat.le_of_eq g352.symm)) E358) Q360 (Nat.le_of_eq g352.symm)) E362) Q364 (Nat.le_of_eq g352.symm)) E366) Q368 (Nat.le_of_eq g352.symm))) hz fm (Sf.ext (Ext.kp1 (Ext.tr (Ext.kp1 (Ext.tr (Ext.kp1 (Ext.tr (Ext.kp1 (Ext.tr E352 E354) Q356 (Nat.le_of_eq g352.symm)) E358) Q360 (Nat.le_of_eq g352.symm)) E362) Q364 (Nat.le_of_eq g352.symm)) E366) Q368 (Nat.le_of_eq g352.symm))) rf) (hw _ (List.mem_of_getElem? (i := 62) rfl)) (hw _ (List.mem_of_getElem? (i := 61) rfl)) (by decide) (by decide)) (fun _ q => nomatch q) pd6 rfl rfl (Nat.le_of_eq rfl) rfl (by decide) (by decide) (by decide) (fun v370 T370 h370 K370 Q370 q370 => ?_)
          have E370 := Ext.of0 Q370
          have P371 := P369.ext E370
          obtain ⟨r370, rfl, hb370⟩ := q370
          refine gCastore K370 L_236 (List.mem_of_getElem? (i := 0) rfl) (A368.ext E370) rfl (by decide) hb370.1 (ch_up hb370.2) (fun T372 h372 K372 Q372 A372 => ?_)
          have P373 := P371.trans Q372 (fun z q => by cases List.mem_singleton.mp q; exact Or.inr ge_x352)
          refine gIload K372 L_237 (v := (9 : Int32)) rfl ?_
          refine gIconst K372 (5 : Int32) L_239 rfl ?_
          refine gIcmp_le K372 L_240 (fun q => absurd q (by first | decide | (intro hh; cases hh) | simp)) (fun q240 => ?_)
          refine gAload K372 L_243 (v := (.ref x352)) rfl rfl ?_
          refine gIconst K372 (5 : Int32) L_245 rfl ?_
          refine gIconst K372 (5 : Int32) L_246 rfl ?_
          refine gIload K372 L_247 (v := wh) rfl ?_
          refine gIload K372 L_249 (v := (8 : Int32)) rfl ?_
          refine gIload K372 L_251 (v := sb) rfl ?_
          refine gIload K372 L_253 (v := pp) rfl ?_
          refine gIload K372 L_255 (v := c_) rfl ?_
          refine gIload K372 L_257 (v := e_) rfl ?_
          refine gCallS K372 (W := 2) [(.int (5 : Int32)), (.int wh), (.int (8 : Int32)), (.int sb), (.int pp), (.int c_), (.int e_)] [(.int (5 : Int32)), (.ref x352)] L_259 (hw _ (List.mem_of_getElem? (i := 59) rfl)) (hw _ (List.mem_of_getElem? (i := 60) rfl)) (hw _ (List.mem_of_getElem? (i := 61) rfl)) (hw _ (List.mem_of_getElem? (i := 62) rfl)) (Cal.ofW (W := 2) (c_at l Z a0 hw h372 n0 K372.n0le hE wh sb pp c_ e_ 5 8 (by decide) (by decide) (fun _ => by decide) (fun q => absurd q7 q) hb_c_ hb_e_ z (Sc.ext (Ext.kp1 (Ext.tr (Ext.kp1 (Ext.tr (Ext.kp1 (Ext.tr (Ext.kp1 (Ext.tr (Ext.kp1 (Ext.tr E352 E354) Q356 (Nat.le_of_eq g352.symm)) E358) Q360 (Nat.le_of_eq g352.symm)) E362) Q364 (Nat.le_of_eq g352.symm)) E366) Q368 (Nat.le_of_eq g352.symm)) E370) Q372 (Nat.le_of_eq g352.symm))) hz fm (Sf.ext (Ext.kp1 (Ext.tr (Ext.kp1 (Ext.tr (Ext.kp1 (Ext.tr (Ext.kp1 (Ext.tr (Ext.kp1 (Ext.tr E352 E354) Q356 (Nat.le_of_eq g352.symm)) E358) Q360 (Nat.le_of_eq g352.symm)) E362) Q364 (Nat.le_of_eq g352.symm)) E366) Q368 (Nat.le_of_eq g352.symm)) E370) Q372 (Nat.le_of_eq g352.symm))) rf) (hw _ (List.mem_of_getElem? (i := 62) rfl)) (hw _ (List.mem_of_getElem? (i := 61) rfl)) (by decide) (by decide)) (fun _ q => nomatch q) pd6 rfl rfl (Nat.le_of_eq rfl) rfl (by decide) (by decide) (by decide) (fun v374 T374 h374 K374 Q374 q374 => ?_)
          have E374 := Ext.of0 Q374
          have P375 := P373.ext E374
          obtain ⟨r374, rfl, hb374⟩ := q374
          refine gCastore K374 L_262 (List.mem_of_getElem? (i := 0) rfl) (A372.ext E374) rfl (by decide) hb374.1 (ch_up hb374.2) (fun T376 h376 K376 Q376 A376 => ?_)
          have P377 := P375.trans Q376 (fun z q => by cases List.mem_singleton.mp q; exact Or.inr ge_x352)
          refine gIload K376 L_263 (v := (9 : Int32)) rfl ?_
          refine gBipush K376 (6 : Int32) L_265 rfl ?_
          refine gIcmp_le K376 L_267 (fun q => absurd q (by first | decide | (intro hh; cases hh) | simp)) (fun q267 => ?_)
          refine gAload K376 L_270 (v := (.ref x352)) rfl rfl ?_
          refine gBipush K376 (6 : Int32) L_272 rfl ?_
          refine gBipush K376 (6 : Int32) L_274 rfl ?_
          refine gIload K376 L_276 (v := wh) rfl ?_
          refine gIload K376 L_278 (v := (8 : Int32)) rfl ?_
          refine gIload K376 L_280 (v := sb) rfl ?_
          refine gIload K376 L_282 (v := pp) rfl ?_
          refine gIload K376 L_284 (v := c_) rfl ?_
          refine gIload K376 L_286 (v := e_) rfl ?_
          refine gCallS K376 (W := 2) [(.int (6 : Int32)), (.int wh), (.int (8 : Int32)), (.int sb), (.int pp), (.int c_), (.int e_)] [(.int (6 : Int32)), (.ref x352)] L_288 (hw _ (List.mem_of_getElem? (i := 59) rfl)) (hw _ (List.mem_of_getElem? (i := 60) rfl)) (hw _ (List.mem_of_getElem? (i := 61) rfl)) (hw _ (List.mem_of_getElem? (i := 62) rfl)) (Cal.ofW (W := 2) (c_at l Z a0 hw h376 n0 K376.n0le hE wh sb pp c_ e_ 6 8 (by decide) (by decide) (fun _ => by decide) (fun q => absurd q7 q) hb_c_ hb_e_ z (Sc.ext (Ext.kp1 (Ext.tr (Ext.kp1 (Ext.tr (Ext.kp1 (Ext.tr (Ext.kp1 (Ext.tr (Ext.kp1 (Ext.tr (Ext.kp1 (Ext.tr E352 E354) Q356 (Nat.le_of_eq g352.symm)) E358) Q360 (Nat.le_of_eq g352.symm)) E362) Q364 (Nat.le_of_eq g352.symm)) E366) Q368 (Nat.le_of_eq g352.symm)) E370) Q372 (Nat.le_of_eq g352.symm)) E374) Q376 (Nat.le_of_eq g352.symm))) hz fm (Sf.ext (Ext.kp1 (Ext.tr (Ext.kp1 (Ext.tr (Ext.kp1 (Ext.tr (Ext.kp1 (Ext.tr (Ext.kp1 (Ext.tr (Ext.kp1 (Ext.tr E352 E354) Q356 (Nat.le_of_eq g352.symm)) E358) Q360 (Nat.le_of_eq g352.symm)) E362) Q364 (Nat.le_of_eq g352.symm)) E366) Q368 (Nat.le_of_eq g352.symm)) E370) Q372 (Nat.le_of_eq g352.symm)) E374) Q376 (Nat.le_of_eq g352.symm))) rf) (hw _ (List.mem_of_getElem? (i := 62) rfl)) (hw _ (List.mem_of_getElem? (i := 61) rfl)) (by decide) (by decide)) (fun _ q => nomatch q) pd6 rfl rfl (Nat.le_of_eq rfl) rfl (by decide) (by decide) (by decide) (fun v378 T378 h378 K378 Q378 q378 => ?_)
          have E378 := Ext.of0 Q378
          have P379 := P377.ext E378
          obtain ⟨r378, rfl, hb378⟩ := q378
          refine gCastore K378 L_291 (List.mem_of_getElem? (i := 0) rfl) (A376.ext E378) rfl (by decide) hb378.1 (ch_up hb378.2) (fun T380 h380 K380 Q380 A380 => ?_)
          have P381 := P379.trans Q380 (fun z q => by cases List.mem_singleton.mp q; exact Or.inr ge_x352)
          refine gIload K380 L_292 (v := (9 : Int32)) rfl ?_
          refine gBipush K380 (7 : Int32) L_294 rfl ?_
          refine gIcmp_le K380 L_296 (fun q => absurd q (by first | decide | (intro hh; cases hh) | simp)) (fun q296 => ?_)
          refine gAload K380 L_299 (v := (.ref x352)) rfl rfl ?_
          refine gBipush K380 (7 : Int32) L_301 rfl ?_
          refine gBipush K380 (7 : Int32) L_303 rfl ?_
          refine gIload K380 L_305 (v := wh) rfl ?_
          refine gIload K380 L_307 (v := (8 : Int32)) rfl ?_
          refine gIload K380 L_309 (v := sb) rfl ?_
          refine gIload K380 L_311 (v := pp) rfl ?_
          refine gIload K380 L_313 (v := c_) rfl ?_
          refine gIload K380 L_315 (v := e_) rfl ?_
          refine gCallS K380 (W := 2) [(.int (7 : Int32)), (.int wh), (.int (8 : Int32)), (.int sb), (.int pp), (.int c_), (.int e_)] [(.int (7 : Int32)), (.ref x352)] L_317 (hw _ (List.mem_of_getElem? (i := 59) rfl)) (hw _ (List.mem_of_getElem? (i := 60) rfl)) (hw _ (List.mem_of_getElem? (i := 61) rfl)) (hw _ (List.mem_of_getElem? (i := 62) rfl)) (Cal.ofW (W := 2) (c_at l Z a0 hw h380 n0 K380.n0le hE wh sb pp c_ e_ 7 8 (by decide) (by decide) (fun _ => by decide) (fun q => absurd q7 q) hb_c_ hb_e_ z (Sc.ext (Ext.kp1 (Ext.tr (Ext.kp1 (Ext.tr (Ext.kp1 (Ext.tr (Ext.kp1 (Ext.tr (Ext.kp1 (Ext.tr (Ext.kp1 (Ext.tr (Ext.kp1 (Ext.tr E352 E354) Q356 (Nat.le_of_eq g352.symm)) E358) Q360 (Nat.le_of_eq g352.symm)) E362) Q364 (Nat.le_of_eq g352.symm)) E366) Q368 (Nat.le_of_eq g352.symm)) E370) Q372 (Nat.le_of_eq g352.symm)) E374) Q376 (Nat.le_of_eq g352.symm)) E378) Q380 (Nat.le_of_eq g352.symm))) hz fm (Sf.ext (Ext.kp1 (Ext.tr (Ext.kp1 (Ext.tr (Ext.kp1 (Ext.tr (Ext.kp1 (Ext.tr (Ext.kp1 (Ext.tr (Ext.kp1 (Ext.tr (Ext.kp1 (Ext.tr E352 E354) Q356 (Nat.le_of_eq g352.symm)) E358) Q360 (Nat.le_of_eq g352.symm)) E362) Q364 (Nat.le_of_eq g352.symm)) E366) Q368 (Nat.le_of_eq g352.symm)) E370) Q372 (Nat.le_of_eq g352.symm)) E374) Q376 (Nat.le_of_eq g352.symm)) E378) Q380 (Nat.le_of_eq g352.symm))) rf) (hw _ (List.mem_of_getElem? (i := 62) rfl)) (hw _ (List.mem_of_getElem? (i := 61) rfl)) (by decide) (by decide)) (fun _ q => nomatch q) pd6 rfl rfl (Nat.le_of_eq rfl) rfl (by decide) (by decide) (by decide) (fun v382 T382 h382 K382 Q382 q382 => ?_)
          have E382 := Ext.of0 Q382
          have P383 := P381.ext E382
          obtain ⟨r382, rfl, hb382⟩ := q382
          refine gCastore K382 L_320 (List.mem_of_getElem? (i := 0) rfl) (A380.ext E382) rfl (by decide) hb382.1 (ch_up hb382.2) (fun T384 h384 K384 Q384 A384 => ?_)
          have P385 := P383.trans Q384 (fun z q => by cases List.mem_singleton.mp q; exact Or.inr ge_x352)
          refine gIload K384 L_321 (v := (9 : Int32)) rfl ?_
          refine gBipush K384 (8 : Int32) L_323 rfl ?_
          refine gIcmp_le K384 L_325 (fun q => absurd q (by first | decide | (intro hh; cases hh) | simp)) (fun q325 => ?_)
          refine gAload K384 L_328 (v := (.ref x352)) rfl rfl ?_
          refine gBipush K384 (8 : Int32) L_330 rfl ?_
          refine gBipush K384 (8 : Int32) L_332 rfl ?_
          refine gIload K384 L_334 (v := wh) rfl ?_
          refine gIload K384 L_336 (v := (8 : Int32)) rfl ?_
          refine gIload K384 L_338 (v := sb) rfl ?_
          refine gIload K384 L_340 (v := pp) rfl ?_
          refine gIload K384 L_342 (v := c_) rfl ?_
          refine gIload K384 L_344 (v := e_) rfl ?_
          refine gCallS K384 (W := 2) [(.int (8 : Int32)), (.int wh), (.int (8 : Int32)), (.int sb), (.int pp), (.int c_), (.int e_)] [(.int (8 : Int32)), (.ref x352)] L_346 (hw _ (List.mem_of_getElem? (i := 59) rfl)) (hw _ (List.mem_of_getElem? (i := 60) rfl)) (hw _ (List.mem_of_getElem? (i := 61) rfl)) (hw _ (List.mem_of_getElem? (i := 62) rfl)) (Cal.ofN (W := 2) (c_atE l Z a0 hw h384 n0 K384.n0le wh (8 : Int32) sb pp c_ e_ hb_c_ hb_e_) (hw _ (List.mem_of_getElem? (i := 62) rfl)) (hw _ (List.mem_of_getElem? (i := 61) rfl)) (by decide) (by decide)) (fun _ q => nomatch q) pd6 rfl rfl (Nat.le_of_eq rfl) rfl (by decide) (by decide) (by decide) (fun v386 T386 h386 K386 Q386 q386 => ?_)
          have E386 := Ext.of0 Q386
          have P387 := P385.ext E386
          obtain ⟨r386, rfl, hb386⟩ := q386
          refine gCastore K386 L_349 (List.mem_of_getElem? (i := 0) rfl) (A384.ext E386) rfl (by decide) hb386.1 (ch_up hb386.2) (fun T388 h388 K388 Q388 A388 => ?_)
          have P389 := P387.trans Q388 (fun z q => by cases List.mem_singleton.mp q; exact Or.inr ge_x352)
          refine gNew K388 L_350 (hw _ (List.mem_of_getElem? (i := 2) rfl)) (hw _ (List.mem_of_getElem? (i := 3) rfl)) (hw _ (List.mem_of_getElem? (i := 4) rfl)) (by decide) (by decide) (fun T390 h390 x390 K390 E390 g390 A390 D390 ne390 => ?_)
          have P391 := P389.ext E390
          have ge_x390 : h0.size ≤ x390 := by rw [g390]; exact P389.1
          have F392 : Fld Z h390 x390 "java/lang/String" "value" "[B" .null := (D390 (Or.inr (hw _ (List.mem_of_getElem? (i := 17) rfl))) (ty := (.array .byte)) (by decide))
          have F393 : Fld Z h390 x390 "java/lang/String" "coder" "B" (.int (0 : Int32)) := (D390 (Or.inr (hw _ (List.mem_of_getElem? (i := 18) rfl))) (ty := .byte) (by decide))
          refine gDup K390 L_353 rfl ?_
          refine gAload K390 L_354 (v := (.ref x352)) rfl rfl ?_
          refine gCallI K390 (W := 1) x390 [(.ref x352)] [(.ref x390)] L_356 rfl (hw _ (List.mem_of_getElem? (i := 5) rfl)) (hw _ (List.mem_of_getElem? (i := 6) rfl)) (hw _ (List.mem_of_getElem? (i := 7) rfl)) (cal_strN hw (W := 1) (cs := [r354, r358, r362, r366, r370, r374, r378, r382, r386]) 9 (K390.wsge (List.mem_of_getElem? (i := 0) rfl)) K390.n0le A390 F392 F393 (A388.ext E390) (Sc.ext (Ext.tr (Ext.kp1 (Ext.tr (Ext.kp1 (Ext.tr (Ext.kp1 (Ext.tr (Ext.kp1 (Ext.tr (Ext.kp1 (Ext.tr (Ext.kp1 (Ext.tr (Ext.kp1 (Ext.tr (Ext.kp1 (Ext.tr (Ext.kp1 (Ext.tr E352 E354) Q356 (Nat.le_of_eq g352.symm)) E358) Q360 (Nat.le_of_eq g352.symm)) E362) Q364 (Nat.le_of_eq g352.symm)) E366) Q368 (Nat.le_of_eq g352.symm)) E370) Q372 (Nat.le_of_eq g352.symm)) E374) Q376 (Nat.le_of_eq g352.symm)) E378) Q380 (Nat.le_of_eq g352.symm)) E382) Q384 (Nat.le_of_eq g352.symm)) E386) Q388 (Nat.le_of_eq g352.symm)) E390)) hz rfl (by decide) (by decide) (allI hb354 (allI hb358 (allI hb362 (allI hb366 (allI hb370 (allI hb374 (allI hb378 (allI hb382 (allI hb386 allI0))))))))) (by decide) (by decide)) (fun z q => by cases List.mem_singleton.mp q; exact (List.mem_of_getElem? (i := 0) rfl)) pd4 rfl rfl (Nat.le_of_eq rfl) rfl (by decide) (by decide) (by decide) (fun v394 T394 h394 K394 Q394 q394 => ?_)
          have P395 := P391.trans Q394 (fun z q => by cases List.mem_singleton.mp q; exact Or.inr ge_x390)
          obtain ⟨rfl, St394⟩ := q394
          generalize hcs : [r354, r358, r362, r366, r370, r374, r378, r382, r386] = cs at St394
          refine gAstore K394 L_359 rfl (Ls' := #[.val (.int pick), .val (.int shape), .val (.int pos), .val (.int chh), .val (.int ext), .val (.int wh), .val (.int (8 : Int32)), .val (.int (shape &&& (3 : Int32))), .val (.int (9 : Int32)), .val (.int sb), .val (.int pp), .val (.int c_), .val (.int e_), .val (.ref x352), .val (.ref x390), .unset]) rfl ?_
          refine gNull K394 L_361 ?_
          refine gAstore K394 L_362 rfl (Ls' := #[.val (.int pick), .val (.int shape), .val (.int pos), .val (.int chh), .val (.int ext), .val (.int wh), .val (.int (8 : Int32)), .val (.int (shape &&& (3 : Int32))), .val (.int (9 : Int32)), .val (.int sb), .val (.int pp), .val (.int c_), .val (.int e_), .val (.ref x352), .val (.ref x390), .val .null]) rfl ?_
          refine gAload K394 L_364 (v := (.ref x390)) rfl rfl ?_
          refine gLdc K394 L_366 (hw _ (List.mem_of_getElem? (i := 23) rfl)) (hsA hw) (by decide) (vs := ([(110 : Int32), (101 : Int32), (119 : Int32), (45 : Int32), (121 : Int32), (111 : Int32), (114 : Int32), (107 : Int32)].map StrChars.lo8).map Value.int) (z := Int32.ofNat 8) (by decide +kernel) (by decide) (by decide) 32 (by decide) (by decide) (by decide) (by decide) (fun T396 h396 a396 b396 kA396 K396 E396 Ea396 Fc396 Fv396 Ab396 ne396 => ?_)
          have P397 := P395.ext E396
          have Sl396 : StrL Z h396 a396 [(110 : Int32), (101 : Int32), (119 : Int32), (45 : Int32), (121 : Int32), (111 : Int32), (114 : Int32), (107 : Int32)] := ⟨b396, kA396, Ea396, Fc396, Fv396, Ab396, by decide, by decide⟩
          refine gCallV K396 (W := 0) (C := "java/lang/String") x390 [(.ref a396)] [] L_368 (hw _ (List.mem_of_getElem? (i := 24) rfl)) (hw _ (List.mem_of_getElem? (i := 25) rfl)) (hw _ (List.mem_of_getElem? (i := 27) rfl)) (hw _ (List.mem_of_getElem? (i := 26) rfl)) (cal_eq hw (W := 0) (St394.ext E396) Sl396 (Sc.ext (Ext.tr (Ext.kp1 (Ext.tr (Ext.kp1 (Ext.tr (Ext.kp1 (Ext.tr (Ext.kp1 (Ext.tr (Ext.kp1 (Ext.tr (Ext.kp1 (Ext.tr (Ext.kp1 (Ext.tr (Ext.kp1 (Ext.tr (Ext.kp1 (Ext.tr (Ext.kp1 (Ext.tr E352 E354) Q356 (Nat.le_of_eq g352.symm)) E358) Q360 (Nat.le_of_eq g352.symm)) E362) Q364 (Nat.le_of_eq g352.symm)) E366) Q368 (Nat.le_of_eq g352.symm)) E370) Q372 (Nat.le_of_eq g352.symm)) E374) Q376 (Nat.le_of_eq g352.symm)) E378) Q380 (Nat.le_of_eq g352.symm)) E382) Q384 (Nat.le_of_eq g352.symm)) E386) Q388 (Nat.le_of_eq g352.symm)) E390) Q394 (Nat.le_trans (Ext.kp1 (Ext.tr (Ext.kp1 (Ext.tr (Ext.kp1 (Ext.tr (Ext.kp1 (Ext.tr (Ext.kp1 (Ext.tr (Ext.kp1 (Ext.tr (Ext.kp1 (Ext.tr (Ext.kp1 (Ext.tr (Ext.kp1 (Ext.tr E352 E354) Q356 (Nat.le_of_eq g352.symm)) E358) Q360 (Nat.le_of_eq g352.symm)) E362) Q364 (Nat.le_of_eq g352.symm)) E366) Q368 (Nat.le_of_eq g352.symm)) E370) Q372 (Nat.le_of_eq g352.symm)) E374) Q376 (Nat.le_of_eq g352.symm)) E378) Q380 (Nat.le_of_eq g352.symm)) E382) Q384 (Nat.le_of_eq g352.symm)) E386) Q388 (Nat.le_of_eq g352.symm)).1 (Nat.le_of_eq g390.symm))) E396)) hz (by decide) (by decide)) ((St394.ext E396)).exa (fun _ q => nomatch q) pd1 rfl rfl (Nat.le_of_eq rfl) rfl (by decide) (by decide) (by decide) (fun v398 T398 h398 K398 Q398 q398 => ?_)
          have E398 := Ext.of0 Q398
          have P399 := P397.ext E398
          rcases q398 with ⟨rfl, hc0⟩ | ⟨rfl, hc0⟩
          · skip
            refine gIf_eq K398 L_371 (fun q => absurd q (by first | decide | (intro hh; cases hh) | simp)) (fun q371 => ?_)
            refine gGetS K398 L_374 (hw _ (List.mem_of_getElem? (i := 96) rfl)) (S0.ext (Ext.tr (Ext.tr (Ext.kp1 (Ext.tr (Ext.kp1 (Ext.tr (Ext.kp1 (Ext.tr (Ext.kp1 (Ext.tr (Ext.kp1 (Ext.tr (Ext.kp1 (Ext.tr (Ext.kp1 (Ext.tr (Ext.kp1 (Ext.tr (Ext.kp1 (Ext.tr (Ext.kp1 (Ext.tr E352 E354) Q356 (Nat.le_of_eq g352.symm)) E358) Q360 (Nat.le_of_eq g352.symm)) E362) Q364 (Nat.le_of_eq g352.symm)) E366) Q368 (Nat.le_of_eq g352.symm)) E370) Q372 (Nat.le_of_eq g352.symm)) E374) Q376 (Nat.le_of_eq g352.symm)) E378) Q380 (Nat.le_of_eq g352.symm)) E382) Q384 (Nat.le_of_eq g352.symm)) E386) Q388 (Nat.le_of_eq g352.symm)) E390) Q394 (Nat.le_trans (Ext.kp1 (Ext.tr (Ext.kp1 (Ext.tr (Ext.kp1 (Ext.tr (Ext.kp1 (Ext.tr (Ext.kp1 (Ext.tr (Ext.kp1 (Ext.tr (Ext.kp1 (Ext.tr (Ext.kp1 (Ext.tr (Ext.kp1 (Ext.tr E352 E354) Q356 (Nat.le_of_eq g352.symm)) E358) Q360 (Nat.le_of_eq g352.symm)) E362) Q364 (Nat.le_of_eq g352.symm)) E366) Q368 (Nat.le_of_eq g352.symm)) E370) Q372 (Nat.le_of_eq g352.symm)) E374) Q376 (Nat.le_of_eq g352.symm)) E378) Q380 (Nat.le_of_eq g352.symm)) E382) Q384 (Nat.le_of_eq g352.symm)) E386) Q388 (Nat.le_of_eq g352.symm)).1 (Nat.le_of_eq g390.symm))) E396) E398)) (fun T400 K400 => ?_)
            refine gAstore K400 L_377 rfl (Ls' := #[.val (.int pick), .val (.int shape), .val (.int pos), .val (.int chh), .val (.int ext), .val (.int wh), .val (.int (8 : Int32)), .val (.int (shape &&& (3 : Int32))), .val (.int (9 : Int32)), .val (.int sb), .val (.int pp), .val (.int c_), .val (.int e_), .val (.ref x352), .val (.ref x390), .val (.ref v0)]) rfl ?_
            refine gGoto K400 L_379 ?_
            refine gAload K400 L_397 (v := (.ref x390)) rfl rfl ?_
            refine gCallS K400 (W := 0) [(.ref x390)] [] L_399 (hw _ (List.mem_of_getElem? (i := 36) rfl)) (hw _ (List.mem_of_getElem? (i := 37) rfl)) (hw _ (List.mem_of_getElem? (i := 38) rfl)) (hw _ (List.mem_of_getElem? (i := 39) rfl)) (Cal.ofN (W := 0) (c_look l Z a0 hw h398 n0 K400.n0le x390 cs va kV dv v0 l0 v1 l1 z (Sv.ext (Ext.tr (Ext.tr (Ext.kp1 (Ext.tr (Ext.kp1 (Ext.tr (Ext.kp1 (Ext.tr (Ext.kp1 (Ext.tr (Ext.kp1 (Ext.tr (Ext.kp1 (Ext.tr (Ext.kp1 (Ext.tr (Ext.kp1 (Ext.tr (Ext.kp1 (Ext.tr (Ext.kp1 (Ext.tr E352 E354) Q356 (Nat.le_of_eq g352.symm)) E358) Q360 (Nat.le_of_eq g352.symm)) E362) Q364 (Nat.le_of_eq g352.symm)) E366) Q368 (Nat.le_of_eq g352.symm)) E370) Q372 (Nat.le_of_eq g352.symm)) E374) Q376 (Nat.le_of_eq g352.symm)) E378) Q380 (Nat.le_of_eq g352.symm)) E382) Q384 (Nat.le_of_eq g352.symm)) E386) Q388 (Nat.le_of_eq g352.symm)) E390) Q394 (Nat.le_trans (Ext.kp1 (Ext.tr (Ext.kp1 (Ext.tr (Ext.kp1 (Ext.tr (Ext.kp1 (Ext.tr (Ext.kp1 (Ext.tr (Ext.kp1 (Ext.tr (Ext.kp1 (Ext.tr (Ext.kp1 (Ext.tr (Ext.kp1 (Ext.tr E352 E354) Q356 (Nat.le_of_eq g352.symm)) E358) Q360 (Nat.le_of_eq g352.symm)) E362) Q364 (Nat.le_of_eq g352.symm)) E366) Q368 (Nat.le_of_eq g352.symm)) E370) Q372 (Nat.le_of_eq g352.symm)) E374) Q376 (Nat.le_of_eq g352.symm)) E378) Q380 (Nat.le_of_eq g352.symm)) E382) Q384 (Nat.le_of_eq g352.symm)) E386) Q388 (Nat.le_of_eq g352.symm)).1 (Nat.le_of_eq g390.symm))) E396) E398)) (Av.ext (Ext.tr (Ext.tr (Ext.kp1 (Ext.tr (Ext.kp1 (Ext.tr (Ext.kp1 (Ext.tr (Ext.kp1 (Ext.tr (Ext.kp1 (Ext.tr (Ext.kp1 (Ext.tr (Ext.kp1 (Ext.tr (Ext.kp1 (Ext.tr (Ext.kp1 (Ext.tr (Ext.kp1 (Ext.tr E352 E354) Q356 (Nat.le_of_eq g352.symm)) E358) Q360 (Nat.le_of_eq g352.symm)) E362) Q364 (Nat.le_of_eq g352.symm)) E366) Q368 (Nat.le_of_eq g352.symm)) E370) Q372 (Nat.le_of_eq g352.symm)) E374) Q376 (Nat.le_of_eq g352.symm)) E378) Q380 (Nat.le_of_eq g352.symm)) E382) Q384 (Nat.le_of_eq g352.symm)) E386) Q388 (Nat.le_of_eq g352.symm)) E390) Q394 (Nat.le_trans (Ext.kp1 (Ext.tr (Ext.kp1 (Ext.tr (Ext.kp1 (Ext.tr (Ext.kp1 (Ext.tr (Ext.kp1 (Ext.tr (Ext.kp1 (Ext.tr (Ext.kp1 (Ext.tr (Ext.kp1 (Ext.tr (Ext.kp1 (Ext.tr E352 E354) Q356 (Nat.le_of_eq g352.symm)) E358) Q360 (Nat.le_of_eq g352.symm)) E362) Q364 (Nat.le_of_eq g352.symm)) E366) Q368 (Nat.le_of_eq g352.symm)) E370) Q372 (Nat.le_of_eq g352.symm)) E374) Q376 (Nat.le_of_eq g352.symm)) E378) Q380 (Nat.le_of_eq g352.symm)) E382) Q384 (Nat.le_of_eq g352.symm)) E386) Q388 (Nat.le_of_eq g352.symm)).1 (Nat.le_of_eq g390.symm))) E396) E398)) (Ev.ext (Ext.tr (Ext.tr (Ext.kp1 (Ext.tr (Ext.kp1 (Ext.tr (Ext.kp1 (Ext.tr (Ext.kp1 (Ext.tr (Ext.kp1 (Ext.tr (Ext.kp1 (Ext.tr (Ext.kp1 (Ext.tr (Ext.kp1 (Ext.tr (Ext.kp1 (Ext.tr (Ext.kp1 (Ext.tr E352 E354) Q356 (Nat.le_of_eq g352.symm)) E358) Q360 (Nat.le_of_eq g352.symm)) E362) Q364 (Nat.le_of_eq g352.symm)) E366) Q368 (Nat.le_of_eq g352.symm)) E370) Q372 (Nat.le_of_eq g352.symm)) E374) Q376 (Nat.le_of_eq g352.symm)) E378) Q380 (Nat.le_of_eq g352.symm)) E382) Q384 (Nat.le_of_eq g352.symm)) E386) Q388 (Nat.le_of_eq g352.symm)) E390) Q394 (Nat.le_trans (Ext.kp1 (Ext.tr (Ext.kp1 (Ext.tr (Ext.kp1 (Ext.tr (Ext.kp1 (Ext.tr (Ext.kp1 (Ext.tr (Ext.kp1 (Ext.tr (Ext.kp1 (Ext.tr (Ext.kp1 (Ext.tr (Ext.kp1 (Ext.tr E352 E354) Q356 (Nat.le_of_eq g352.symm)) E358) Q360 (Nat.le_of_eq g352.symm)) E362) Q364 (Nat.le_of_eq g352.symm)) E366) Q368 (Nat.le_of_eq g352.symm)) E370) Q372 (Nat.le_of_eq g352.symm)) E374) Q376 (Nat.le_of_eq g352.symm)) E378) Q380 (Nat.le_of_eq g352.symm)) E382) Q384 (Nat.le_of_eq g352.symm)) E386) Q388 (Nat.le_of_eq g352.symm)).1 (Nat.le_of_eq g390.symm))) E396) E398)) (F0.ext (Ext.tr (Ext.tr (Ext.kp1 (Ext.tr (Ext.kp1 (Ext.tr (Ext.kp1 (Ext.tr (Ext.kp1 (Ext.tr (Ext.kp1 (Ext.tr (Ext.kp1 (Ext.tr (Ext.kp1 (Ext.tr (Ext.kp1 (Ext.tr (Ext.kp1 (Ext.tr (Ext.kp1 (Ext.tr E352 E354) Q356 (Nat.le_of_eq g352.symm)) E358) Q360 (Nat.le_of_eq g352.symm)) E362) Q364 (Nat.le_of_eq g352.symm)) E366) Q368 (Nat.le_of_eq g352.symm)) E370) Q372 (Nat.le_of_eq g352.symm)) E374) Q376 (Nat.le_of_eq g352.symm)) E378) Q380 (Nat.le_of_eq g352.symm)) E382) Q384 (Nat.le_of_eq g352.symm)) E386) Q388 (Nat.le_of_eq g352.symm)) E390) Q394 (Nat.le_trans (Ext.kp1 (Ext.tr (Ext.kp1 (Ext.tr (Ext.kp1 (Ext.tr (Ext.kp1 (Ext.tr (Ext.kp1 (Ext.tr (Ext.kp1 (Ext.tr (Ext.kp1 (Ext.tr (Ext.kp1 (Ext.tr (Ext.kp1 (Ext.tr E352 E354) Q356 (Nat.le_of_eq g352.symm)) E358) Q360 (Nat.le_of_eq g352.symm)) E362) Q364 (Nat.le_of_eq g352.symm)) E366) Q368 (Nat.le_of_eq g352.symm)) E370) Q372 (Nat.le_of_eq g352.symm)) E374) Q376 (Nat.le_of_eq g352.symm)) E378) Q380 (Nat.le_of_eq g352.symm)) E382) Q384 (Nat.le_of_eq g352.symm)) E386) Q388 (Nat.le_of_eq g352.symm)).1 (Nat.le_of_eq g390.symm))) E396) E398)) (L0.ext (Ext.tr (Ext.tr (Ext.kp1 (Ext.tr (Ext.kp1 (Ext.tr (Ext.kp1 (Ext.tr (Ext.kp1 (Ext.tr (Ext.kp1 (Ext.tr (Ext.kp1 (Ext.tr (Ext.kp1 (Ext.tr (Ext.kp1 (Ext.tr (Ext.kp1 (Ext.tr (Ext.kp1 (Ext.tr E352 E354) Q356 (Nat.le_of_eq g352.symm)) E358) Q360 (Nat.le_of_eq g352.symm)) E362) Q364 (Nat.le_of_eq g352.symm)) E366) Q368 (Nat.le_of_eq g352.symm)) E370) Q372 (Nat.le_of_eq g352.symm)) E374) Q376 (Nat.le_of_eq g352.symm)) E378) Q380 (Nat.le_of_eq g352.symm)) E382) Q384 (Nat.le_of_eq g352.symm)) E386) Q388 (Nat.le_of_eq g352.symm)) E390) Q394 (Nat.le_trans (Ext.kp1 (Ext.tr (Ext.kp1 (Ext.tr (Ext.kp1 (Ext.tr (Ext.kp1 (Ext.tr (Ext.kp1 (Ext.tr (Ext.kp1 (Ext.tr (Ext.kp1 (Ext.tr (Ext.kp1 (Ext.tr (Ext.kp1 (Ext.tr E352 E354) Q356 (Nat.le_of_eq g352.symm)) E358) Q360 (Nat.le_of_eq g352.symm)) E362) Q364 (Nat.le_of_eq g352.symm)) E366) Q368 (Nat.le_of_eq g352.symm)) E370) Q372 (Nat.le_of_eq g352.symm)) E374) Q376 (Nat.le_of_eq g352.symm)) E378) Q380 (Nat.le_of_eq g352.symm)) E382) Q384 (Nat.le_of_eq g352.symm)) E386) Q388 (Nat.le_of_eq g352.symm)).1 (Nat.le_of_eq g390.symm))) E396) E398)) (F1.ext (Ext.tr (Ext.tr (Ext.kp1 (Ext.tr (Ext.kp1 (Ext.tr (Ext.kp1 (Ext.tr (Ext.kp1 (Ext.tr (Ext.kp1 (Ext.tr (Ext.kp1 (Ext.tr (Ext.kp1 (Ext.tr (Ext.kp1 (Ext.tr (Ext.kp1 (Ext.tr (Ext.kp1 (Ext.tr E352 E354) Q356 (Nat.le_of_eq g352.symm)) E358) Q360 (Nat.le_of_eq g352.symm)) E362) Q364 (Nat.le_of_eq g352.symm)) E366) Q368 (Nat.le_of_eq g352.symm)) E370) Q372 (Nat.le_of_eq g352.symm)) E374) Q376 (Nat.le_of_eq g352.symm)) E378) Q380 (Nat.le_of_eq g352.symm)) E382) Q384 (Nat.le_of_eq g352.symm)) E386) Q388 (Nat.le_of_eq g352.symm)) E390) Q394 (Nat.le_trans (Ext.kp1 (Ext.tr (Ext.kp1 (Ext.tr (Ext.kp1 (Ext.tr (Ext.kp1 (Ext.tr (Ext.kp1 (Ext.tr (Ext.kp1 (Ext.tr (Ext.kp1 (Ext.tr (Ext.kp1 (Ext.tr (Ext.kp1 (Ext.tr E352 E354) Q356 (Nat.le_of_eq g352.symm)) E358) Q360 (Nat.le_of_eq g352.symm)) E362) Q364 (Nat.le_of_eq g352.symm)) E366) Q368 (Nat.le_of_eq g352.symm)) E370) Q372 (Nat.le_of_eq g352.symm)) E374) Q376 (Nat.le_of_eq g352.symm)) E378) Q380 (Nat.le_of_eq g352.symm)) E382) Q384 (Nat.le_of_eq g352.symm)) E386) Q388 (Nat.le_of_eq g352.symm)).1 (Nat.le_of_eq g390.symm))) E396) E398)) (L1.ext (Ext.tr (Ext.tr (Ext.kp1 (Ext.tr (Ext.kp1 (Ext.tr (Ext.kp1 (Ext.tr (Ext.kp1 (Ext.tr (Ext.kp1 (Ext.tr (Ext.kp1 (Ext.tr (Ext.kp1 (Ext.tr (Ext.kp1 (Ext.tr (Ext.kp1 (Ext.tr (Ext.kp1 (Ext.tr E352 E354) Q356 (Nat.le_of_eq g352.symm)) E358) Q360 (Nat.le_of_eq g352.symm)) E362) Q364 (Nat.le_of_eq g352.symm)) E366) Q368 (Nat.le_of_eq g352.symm)) E370) Q372 (Nat.le_of_eq g352.symm)) E374) Q376 (Nat.le_of_eq g352.symm)) E378) Q380 (Nat.le_of_eq g352.symm)) E382) Q384 (Nat.le_of_eq g352.symm)) E386) Q388 (Nat.le_of_eq g352.symm)) E390) Q394 (Nat.le_trans (Ext.kp1 (Ext.tr (Ext.kp1 (Ext.tr (Ext.kp1 (Ext.tr (Ext.kp1 (Ext.tr (Ext.kp1 (Ext.tr (Ext.kp1 (Ext.tr (Ext.kp1 (Ext.tr (Ext.kp1 (Ext.tr (Ext.kp1 (Ext.tr E352 E354) Q356 (Nat.le_of_eq g352.symm)) E358) Q360 (Nat.le_of_eq g352.symm)) E362) Q364 (Nat.le_of_eq g352.symm)) E366) Q368 (Nat.le_of_eq g352.symm)) E370) Q372 (Nat.le_of_eq g352.symm)) E374) Q376 (Nat.le_of_eq g352.symm)) E378) Q380 (Nat.le_of_eq g352.symm)) E382) Q384 (Nat.le_of_eq g352.symm)) E386) Q388 (Nat.le_of_eq g352.symm)).1 (Nat.le_of_eq g390.symm))) E396) E398)) (Sc.ext (Ext.tr (Ext.tr (Ext.kp1 (Ext.tr (Ext.kp1 (Ext.tr (Ext.kp1 (Ext.tr (Ext.kp1 (Ext.tr (Ext.kp1 (Ext.tr (Ext.kp1 (Ext.tr (Ext.kp1 (Ext.tr (Ext.kp1 (Ext.tr (Ext.kp1 (Ext.tr (Ext.kp1 (Ext.tr E352 E354) Q356 (Nat.le_of_eq g352.symm)) E358) Q360 (Nat.le_of_eq g352.symm)) E362) Q364 (Nat.le_of_eq g352.symm)) E366) Q368 (Nat.le_of_eq g352.symm)) E370) Q372 (Nat.le_of_eq g352.symm)) E374) Q376 (Nat.le_of_eq g352.symm)) E378) Q380 (Nat.le_of_eq g352.symm)) E382) Q384 (Nat.le_of_eq g352.symm)) E386) Q388 (Nat.le_of_eq g352.symm)) E390) Q394 (Nat.le_trans (Ext.kp1 (Ext.tr (Ext.kp1 (Ext.tr (Ext.kp1 (Ext.tr (Ext.kp1 (Ext.tr (Ext.kp1 (Ext.tr (Ext.kp1 (Ext.tr (Ext.kp1 (Ext.tr (Ext.kp1 (Ext.tr (Ext.kp1 (Ext.tr E352 E354) Q356 (Nat.le_of_eq g352.symm)) E358) Q360 (Nat.le_of_eq g352.symm)) E362) Q364 (Nat.le_of_eq g352.symm)) E366) Q368 (Nat.le_of_eq g352.symm)) E370) Q372 (Nat.le_of_eq g352.symm)) E374) Q376 (Nat.le_of_eq g352.symm)) E378) Q380 (Nat.le_of_eq g352.symm)) E382) Q384 (Nat.le_of_eq g352.symm)) E386) Q388 (Nat.le_of_eq g352.symm)).1 (Nat.le_of_eq g390.symm))) E396) E398)) hz (St394.ext (Ext.tr E396 E398))) (hw _ (List.mem_of_getElem? (i := 39) rfl)) (hw _ (List.mem_of_getElem? (i := 38) rfl)) (by decide) (by decide)) (fun _ q => nomatch q) pd5 rfl rfl (Nat.le_of_eq rfl) rfl (by decide) (by decide) (by decide) (fun v401 T401 h401 K401 Q401 q401 => ?_)
            have E401 := Ext.of0 Q401
            have P402 := P399.ext E401
            cases q401
            rw [if_pos hc0]
            refine gAload K401 L_402 (v := (.ref v0)) rfl rfl ?_
            refine gAcmp_ne K401 L_404 rfl rfl (fun q => absurd q (by first | decide | (intro hh; cases hh) | simp)) (fun q404 => ?_)
            refine gIconst K401 (1 : Int32) L_407 rfl ?_
            refine gGoto K401 L_408 ?_
            refine gRetI K401 hlk hret (by simp) L_412 rfl P402 (by decide) (by decide) ?_
            exact rfl
          · skip
            refine gIf_eq K398 L_371 (fun q371 => ?_) (fun q => absurd q (by first | decide | (intro hh; cases hh) | simp))
            refine gAload K398 L_382 (v := (.ref x390)) rfl rfl ?_
            refine gLdc K398 L_384 (hw _ (List.mem_of_getElem? (i := 35) rfl)) (hsA hw) (by decide) (vs := ([(108 : Int32), (111 : Int32), (110 : Int32), (100 : Int32), (111 : Int32), (110 : Int32)].map StrChars.lo8).map Value.int) (z := Int32.ofNat 6) (by decide +kernel) (by decide) (by decide) 24 (by decide) (by decide) (by decide) (by decide) (fun T403 h403 a403 b403 kA403 K403 E403 Ea403 Fc403 Fv403 Ab403 ne403 => ?_)
            have P404 := P399.ext E403
            have Sl403 : StrL Z h403 a403 [(108 : Int32), (111 : Int32), (110 : Int32), (100 : Int32), (111 : Int32), (110 : Int32)] := ⟨b403, kA403, Ea403, Fc403, Fv403, Ab403, by decide, by decide⟩
            refine gCallV K403 (W := 0) (C := "java/lang/String") x390 [(.ref a403)] [] L_386 (hw _ (List.mem_of_getElem? (i := 24) rfl)) (hw _ (List.mem_of_getElem? (i := 25) rfl)) (hw _ (List.mem_of_getElem? (i := 27) rfl)) (hw _ (List.mem_of_getElem? (i := 26) rfl)) (cal_eq hw (W := 0) (St394.ext (Ext.tr (Ext.tr E396 E398) E403)) Sl403 (Sc.ext (Ext.tr (Ext.tr (Ext.tr (Ext.kp1 (Ext.tr (Ext.kp1 (Ext.tr (Ext.kp1 (Ext.tr (Ext.kp1 (Ext.tr (Ext.kp1 (Ext.tr (Ext.kp1 (Ext.tr (Ext.kp1 (Ext.tr (Ext.kp1 (Ext.tr (Ext.kp1 (Ext.tr (Ext.kp1 (Ext.tr E352 E354) Q356 (Nat.le_of_eq g352.symm)) E358) Q360 (Nat.le_of_eq g352.symm)) E362) Q364 (Nat.le_of_eq g352.symm)) E366) Q368 (Nat.le_of_eq g352.symm)) E370) Q372 (Nat.le_of_eq g352.symm)) E374) Q376 (Nat.le_of_eq g352.symm)) E378) Q380 (Nat.le_of_eq g352.symm)) E382) Q384 (Nat.le_of_eq g352.symm)) E386) Q388 (Nat.le_of_eq g352.symm)) E390) Q394 (Nat.le_trans (Ext.kp1 (Ext.tr (Ext.kp1 (Ext.tr (Ext.kp1 (Ext.tr (Ext.kp1 (Ext.tr (Ext.kp1 (Ext.tr (Ext.kp1 (Ext.tr (Ext.kp1 (Ext.tr (Ext.kp1 (Ext.tr (Ext.kp1 (Ext.tr E352 E354) Q356 (Nat.le_of_eq g352.symm)) E358) Q360 (Nat.le_of_eq g352.symm)) E362) Q364 (Nat.le_of_eq g352.symm)) E366) Q368 (Nat.le_of_eq g352.symm)) E370) Q372 (Nat.le_of_eq g352.symm)) E374) Q376 (Nat.le_of_eq g352.symm)) E378) Q380 (Nat.le_of_eq g352.symm)) E382) Q384 (Nat.le_of_eq g352.symm)) E386) Q388 (Nat.le_of_eq g352.symm)).1 (Nat.le_of_eq g390.symm))) E396) E398) E403)) hz (by decide) (by decide)) ((St394.ext (Ext.tr (Ext.tr E396 E398) E403))).exa (fun _ q => nomatch q) pd1 rfl rfl (Nat.le_of_eq rfl) rfl (by decide) (by decide) (by decide) (fun v405 T405 h405 K405 Q405 q405 => ?_)
            have E405 := Ext.of0 Q405
            have P406 := P404.ext E405
            rcases q405 with ⟨rfl, hc1⟩ | ⟨rfl, hc1⟩
            · skip
              refine gIf_eq K405 L_389 (fun q => absurd q (by first | decide | (intro hh; cases hh) | simp)) (fun q389 => ?_)
              refine gGetS K405 L_392 (hw _ (List.mem_of_getElem? (i := 94) rfl)) (S1.ext (Ext.tr (Ext.tr (Ext.tr (Ext.tr (Ext.kp1 (Ext.tr (Ext.kp1 (Ext.tr (Ext.kp1 (Ext.tr (Ext.kp1 (Ext.tr (Ext.kp1 (Ext.tr (Ext.kp1 (Ext.tr (Ext.kp1 (Ext.tr (Ext.kp1 (Ext.tr (Ext.kp1 (Ext.tr (Ext.kp1 (Ext.tr E352 E354) Q356 (Nat.le_of_eq g352.symm)) E358) Q360 (Nat.le_of_eq g352.symm)) E362) Q364 (Nat.le_of_eq g352.symm)) E366) Q368 (Nat.le_of_eq g352.symm)) E370) Q372 (Nat.le_of_eq g352.symm)) E374) Q376 (Nat.le_of_eq g352.symm)) E378) Q380 (Nat.le_of_eq g352.symm)) E382) Q384 (Nat.le_of_eq g352.symm)) E386) Q388 (Nat.le_of_eq g352.symm)) E390) Q394 (Nat.le_trans (Ext.kp1 (Ext.tr (Ext.kp1 (Ext.tr (Ext.kp1 (Ext.tr (Ext.kp1 (Ext.tr (Ext.kp1 (Ext.tr (Ext.kp1 (Ext.tr (Ext.kp1 (Ext.tr (Ext.kp1 (Ext.tr (Ext.kp1 (Ext.tr E352 E354) Q356 (Nat.le_of_eq g352.symm)) E358) Q360 (Nat.le_of_eq g352.symm)) E362) Q364 (Nat.le_of_eq g352.symm)) E366) Q368 (Nat.le_of_eq g352.symm)) E370) Q372 (Nat.le_of_eq g352.symm)) E374) Q376 (Nat.le_of_eq g352.symm)) E378) Q380 (Nat.le_of_eq g352.symm)) E382) Q384 (Nat.le_of_eq g352.symm)) E386) Q388 (Nat.le_of_eq g352.symm)).1 (Nat.le_of_eq g390.symm))) E396) E398) E403) E405)) (fun T407 K407 => ?_)
              refine gAstore K407 L_395 rfl (Ls' := #[.val (.int pick), .val (.int shape), .val (.int pos), .val (.int chh), .val (.int ext), .val (.int wh), .val (.int (8 : Int32)), .val (.int (shape &&& (3 : Int32))), .val (.int (9 : Int32)), .val (.int sb), .val (.int pp), .val (.int c_), .val (.int e_), .val (.ref x352), .val (.ref x390), .val (.ref v1)]) rfl ?_
              refine gAload K407 L_397 (v := (.ref x390)) rfl rfl ?_
              refine gCallS K407 (W := 0) [(.ref x390)] [] L_399 (hw _ (List.mem_of_getElem? (i := 36) rfl)) (hw _ (List.mem_of_getElem? (i := 37) rfl)) (hw _ (List.mem_of_getElem? (i := 38) rfl)) (hw _ (List.mem_of_getElem? (i := 39) rfl)) (Cal.ofN (W := 0) (c_look l Z a0 hw h405 n0 K407.n0le x390 cs va kV dv v0 l0 v1 l1 z (Sv.ext (Ext.tr (Ext.tr (Ext.tr (Ext.tr (Ext.kp1 (Ext.tr (Ext.kp1 (Ext.tr (Ext.kp1 (Ext.tr (Ext.kp1 (Ext.tr (Ext.kp1 (Ext.tr (Ext.kp1 (Ext.tr (Ext.kp1 (Ext.tr (Ext.kp1 (Ext.tr (Ext.kp1 (Ext.tr (Ext.kp1 (Ext.tr E352 E354) Q356 (Nat.le_of_eq g352.symm)) E358) Q360 (Nat.le_of_eq g352.symm)) E362) Q364 (Nat.le_of_eq g352.symm)) E366) Q368 (Nat.le_of_eq g352.symm)) E370) Q372 (Nat.le_of_eq g352.symm)) E374) Q376 (Nat.le_of_eq g352.symm)) E378) Q380 (Nat.le_of_eq g352.symm)) E382) Q384 (Nat.le_of_eq g352.symm)) E386) Q388 (Nat.le_of_eq g352.symm)) E390) Q394 (Nat.le_trans (Ext.kp1 (Ext.tr (Ext.kp1 (Ext.tr (Ext.kp1 (Ext.tr (Ext.kp1 (Ext.tr (Ext.kp1 (Ext.tr (Ext.kp1 (Ext.tr (Ext.kp1 (Ext.tr (Ext.kp1 (Ext.tr (Ext.kp1 (Ext.tr E352 E354) Q356 (Nat.le_of_eq g352.symm)) E358) Q360 (Nat.le_of_eq g352.symm)) E362) Q364 (Nat.le_of_eq g352.symm)) E366) Q368 (Nat.le_of_eq g352.symm)) E370) Q372 (Nat.le_of_eq g352.symm)) E374) Q376 (Nat.le_of_eq g352.symm)) E378) Q380 (Nat.le_of_eq g352.symm)) E382) Q384 (Nat.le_of_eq g352.symm)) E386) Q388 (Nat.le_of_eq g352.symm)).1 (Nat.le_of_eq g390.symm))) E396) E398) E403) E405)) (Av.ext (Ext.tr (Ext.tr (Ext.tr (Ext.tr (Ext.kp1 (Ext.tr (Ext.kp1 (Ext.tr (Ext.kp1 (Ext.tr (Ext.kp1 (Ext.tr (Ext.kp1 (Ext.tr (Ext.kp1 (Ext.tr (Ext.kp1 (Ext.tr (Ext.kp1 (Ext.tr (Ext.kp1 (Ext.tr (Ext.kp1 (Ext.tr E352 E354) Q356 (Nat.le_of_eq g352.symm)) E358) Q360 (Nat.le_of_eq g352.symm)) E362) Q364 (Nat.le_of_eq g352.symm)) E366) Q368 (Nat.le_of_eq g352.symm)) E370) Q372 (Nat.le_of_eq g352.symm)) E374) Q376 (Nat.le_of_eq g352.symm)) E378) Q380 (Nat.le_of_eq g352.symm)) E382) Q384 (Nat.le_of_eq g352.symm)) E386) Q388 (Nat.le_of_eq g352.symm)) E390) Q394 (Nat.le_trans (Ext.kp1 (Ext.tr (Ext.kp1 (Ext.tr (Ext.kp1 (Ext.tr (Ext.kp1 (Ext.tr (Ext.kp1 (Ext.tr (Ext.kp1 (Ext.tr (Ext.kp1 (Ext.tr (Ext.kp1 (Ext.tr (Ext.kp1 (Ext.tr E352 E354) Q356 (Nat.le_of_eq g352.symm)) E358) Q360 (Nat.le_of_eq g352.symm)) E362) Q364 (Nat.le_of_eq g352.symm)) E366) Q368 (Nat.le_of_eq g352.symm)) E370) Q372 (Nat.le_of_eq g352.symm)) E374) Q376 (Nat.le_of_eq g352.symm)) E378) Q380 (Nat.le_of_eq g352.symm)) E382) Q384 (Nat.le_of_eq g352.symm)) E386) Q388 (Nat.le_of_eq g352.symm)).1 (Nat.le_of_eq g390.symm))) E396) E398) E403) E405)) (Ev.ext (Ext.tr (Ext.tr (Ext.tr (Ext.tr (Ext.kp1 (Ext.tr (Ext.kp1 (Ext.tr (Ext.kp1 (Ext.tr (Ext.kp1 (Ext.tr (Ext.kp1 (Ext.tr (Ext.kp1 (Ext.tr (Ext.kp1 (Ext.tr (Ext.kp1 (Ext.tr (Ext.kp1 (Ext.tr (Ext.kp1 (Ext.tr E352 E354) Q356 (Nat.le_of_eq g352.symm)) E358) Q360 (Nat.le_of_eq g352.symm)) E362) Q364 (Nat.le_of_eq g352.symm)) E366) Q368 (Nat.le_of_eq g352.symm)) E370) Q372 (Nat.le_of_eq g352.symm)) E374) Q376 (Nat.le_of_eq g352.symm)) E378) Q380 (Nat.le_of_eq g352.symm)) E382) Q384 (Nat.le_of_eq g352.symm)) E386) Q388 (Nat.le_of_eq g352.symm)) E390) Q394 (Nat.le_trans (Ext.kp1 (Ext.tr (Ext.kp1 (Ext.tr (Ext.kp1 (Ext.tr (Ext.kp1 (Ext.tr (Ext.kp1 (Ext.tr (Ext.kp1 (Ext.tr (Ext.kp1 (Ext.tr (Ext.kp1 (Ext.tr (Ext.kp1 (Ext.tr E352 E354) Q356 (Nat.le_of_eq g352.symm)) E358) Q360 (Nat.le_of_eq g352.symm)) E362) Q364 (Nat.le_of_eq g352.symm)) E366) Q368 (Nat.le_of_eq g352.symm)) E370) Q372 (Nat.le_of_eq g352.symm)) E374) Q376 (Nat.le_of_eq g352.symm)) E378) Q380 (Nat.le_of_eq g352.symm)) E382) Q384 (Nat.le_of_eq g352.symm)) E386) Q388 (Nat.le_of_eq g352.symm)).1 (Nat.le_of_eq g390.symm))) E396) E398) E403) E405)) (F0.ext (Ext.tr (Ext.tr (Ext.tr (Ext.tr (Ext.kp1 (Ext.tr (Ext.kp1 (Ext.tr (Ext.kp1 (Ext.tr (Ext.kp1 (Ext.tr (Ext.kp1 (Ext.tr (Ext.kp1 (Ext.tr (Ext.kp1 (Ext.tr (Ext.kp1 (Ext.tr (Ext.kp1 (Ext.tr (Ext.kp1 (Ext.tr E352 E354) Q356 (Nat.le_of_eq g352.symm)) E358) Q360 (Nat.le_of_eq g352.symm)) E362) Q364 (Nat.le_of_eq g352.symm)) E366) Q368 (Nat.le_of_eq g352.symm)) E370) Q372 (Nat.le_of_eq g352.symm)) E374) Q376 (Nat.le_of_eq g352.symm)) E378) Q380 (Nat.le_of_eq g352.symm)) E382) Q384 (Nat.le_of_eq g352.symm)) E386) Q388 (Nat.le_of_eq g352.symm)) E390) Q394 (Nat.le_trans (Ext.kp1 (Ext.tr (Ext.kp1 (Ext.tr (Ext.kp1 (Ext.tr (Ext.kp1 (Ext.tr (Ext.kp1 (Ext.tr (Ext.kp1 (Ext.tr (Ext.kp1 (Ext.tr (Ext.kp1 (Ext.tr (Ext.kp1 (Ext.tr E352 E354) Q356 (Nat.le_of_eq g352.symm)) E358) Q360 (Nat.le_of_eq g352.symm)) E362) Q364 (Nat.le_of_eq g352.symm)) E366) Q368 (Nat.le_of_eq g352.symm)) E370) Q372 (Nat.le_of_eq g352.symm)) E374) Q376 (Nat.le_of_eq g352.symm)) E378) Q380 (Nat.le_of_eq g352.symm)) E382) Q384 (Nat.le_of_eq g352.symm)) E386) Q388 (Nat.le_of_eq g352.symm)).1 (Nat.le_of_eq g390.symm))) E396) E398) E403) E405)) (L0.ext (Ext.tr (Ext.tr (Ext.tr (Ext.tr (Ext.kp1 (Ext.tr (Ext.kp1 (Ext.tr (Ext.kp1 (Ext.tr (Ext.kp1 (Ext.tr (Ext.kp1 (Ext.tr (Ext.kp1 (Ext.tr (Ext.kp1 (Ext.tr (Ext.kp1 (Ext.tr (Ext.kp1 (Ext.tr (Ext.kp1 (Ext.tr E352 E354) Q356 (Nat.le_of_eq g352.symm)) E358) Q360 (Nat.le_of_eq g352.symm)) E362) Q364 (Nat.le_of_eq g352.symm)) E366) Q368 (Nat.le_of_eq g352.symm)) E370) Q372 (Nat.le_of_eq g352.symm)) E374) Q376 (Nat.le_of_eq g352.symm)) E378) Q380 (Nat.le_of_eq g352.symm)) E382) Q384 (Nat.le_of_eq g352.symm)) E386) Q388 (Nat.le_of_eq g352.symm)) E390) Q394 (Nat.le_trans (Ext.kp1 (Ext.tr (Ext.kp1 (Ext.tr (Ext.kp1 (Ext.tr (Ext.kp1 (Ext.tr (Ext.kp1 (Ext.tr (Ext.kp1 (Ext.tr (Ext.kp1 (Ext.tr (Ext.kp1 (Ext.tr (Ext.kp1 (Ext.tr E352 E354) Q356 (Nat.le_of_eq g352.symm)) E358) Q360 (Nat.le_of_eq g352.symm)) E362) Q364 (Nat.le_of_eq g352.symm)) E366) Q368 (Nat.le_of_eq g352.symm)) E370) Q372 (Nat.le_of_eq g352.symm)) E374) Q376 (Nat.le_of_eq g352.symm)) E378) Q380 (Nat.le_of_eq g352.symm)) E382) Q384 (Nat.le_of_eq g352.symm)) E386) Q388 (Nat.le_of_eq g352.symm)).1 (Nat.le_of_eq g390.symm))) E396) E398) E403) E405)) (F1.ext (Ext.tr (Ext.tr (Ext.tr (Ext.tr (Ext.kp1 (Ext.tr (Ext.kp1 (Ext.tr (Ext.kp1 (Ext.tr (Ext.kp1 (Ext.tr (Ext.kp1 (Ext.tr (Ext.kp1 (Ext.tr (Ext.kp1 (Ext.tr (Ext.kp1 (Ext.tr (Ext.kp1 (Ext.tr (Ext.kp1 (Ext.tr E352 E354) Q356 (Nat.le_of_eq g352.symm)) E358) Q360 (Nat.le_of_eq g352.symm)) E362) Q364 (Nat.le_of_eq g352.symm)) E366) Q368 (Nat.le_of_eq g352.symm)) E370) Q372 (Nat.le_of_eq g352.symm)) E374) Q376 (Nat.le_of_eq g352.symm)) E378) Q380 (Nat.le_of_eq g352.symm)) E382) Q384 (Nat.le_of_eq g352.symm)) E386) Q388 (Nat.le_of_eq g352.symm)) E390) Q394 (Nat.le_trans (Ext.kp1 (Ext.tr (Ext.kp1 (Ext.tr (Ext.kp1 (Ext.tr (Ext.kp1 (Ext.tr (Ext.kp1 (Ext.tr (Ext.kp1 (Ext.tr (Ext.kp1 (Ext.tr (Ext.kp1 (Ext.tr (Ext.kp1 (Ext.tr E352 E354) Q356 (Nat.le_of_eq g352.symm)) E358) Q360 (Nat.le_of_eq g352.symm)) E362) Q364 (Nat.le_of_eq g352.symm)) E366) Q368 (Nat.le_of_eq g352.symm)) E370) Q372 (Nat.le_of_eq g352.symm)) E374) Q376 (Nat.le_of_eq g352.symm)) E378) Q380 (Nat.le_of_eq g352.symm)) E382) Q384 (Nat.le_of_eq g352.symm)) E386) Q388 (Nat.le_of_eq g352.symm)).1 (Nat.le_of_eq g390.symm))) E396) E398) E403) E405)) (L1.ext (Ext.tr (Ext.tr (Ext.tr (Ext.tr (Ext.kp1 (Ext.tr (Ext.kp1 (Ext.tr (Ext.kp1 (Ext.tr (Ext.kp1 (Ext.tr (Ext.kp1 (Ext.tr (Ext.kp1 (Ext.tr (Ext.kp1 (Ext.tr (Ext.kp1 (Ext.tr (Ext.kp1 (Ext.tr (Ext.kp1 (Ext.tr E352 E354) Q356 (Nat.le_of_eq g352.symm)) E358) Q360 (Nat.le_of_eq g352.symm)) E362) Q364 (Nat.le_of_eq g352.symm)) E366) Q368 (Nat.le_of_eq g352.symm)) E370) Q372 (Nat.le_of_eq g352.symm)) E374) Q376 (Nat.le_of_eq g352.symm)) E378) Q380 (Nat.le_of_eq g352.symm)) E382) Q384 (Nat.le_of_eq g352.symm)) E386) Q388 (Nat.le_of_eq g352.symm)) E390) Q394 (Nat.le_trans (Ext.kp1 (Ext.tr (Ext.kp1 (Ext.tr (Ext.kp1 (Ext.tr (Ext.kp1 (Ext.tr (Ext.kp1 (Ext.tr (Ext.kp1 (Ext.tr (Ext.kp1 (Ext.tr (Ext.kp1 (Ext.tr (Ext.kp1 (Ext.tr E352 E354) Q356 (Nat.le_of_eq g352.symm)) E358) Q360 (Nat.le_of_eq g352.symm)) E362) Q364 (Nat.le_of_eq g352.symm)) E366) Q368 (Nat.le_of_eq g352.symm)) E370) Q372 (Nat.le_of_eq g352.symm)) E374) Q376 (Nat.le_of_eq g352.symm)) E378) Q380 (Nat.le_of_eq g352.symm)) E382) Q384 (Nat.le_of_eq g352.symm)) E386) Q388 (Nat.le_of_eq g352.symm)).1 (Nat.le_of_eq g390.symm))) E396) E398) E403) E405)) (Sc.ext (Ext.tr (Ext.tr (Ext.tr (Ext.tr (Ext.kp1 (Ext.tr (Ext.kp1 (Ext.tr (Ext.kp1 (Ext.tr (Ext.kp1 (Ext.tr (Ext.kp1 (Ext.tr (Ext.kp1 (Ext.tr (Ext.kp1 (Ext.tr (Ext.kp1 (Ext.tr (Ext.kp1 (Ext.tr (Ext.kp1 (Ext.tr E352 E354) Q356 (Nat.le_of_eq g352.symm)) E358) Q360 (Nat.le_of_eq g352.symm)) E362) Q364 (Nat.le_of_eq g352.symm)) E366) Q368 (Nat.le_of_eq g352.symm)) E370) Q372 (Nat.le_of_eq g352.symm)) E374) Q376 (Nat.le_of_eq g352.symm)) E378) Q380 (Nat.le_of_eq g352.symm)) E382) Q384 (Nat.le_of_eq g352.symm)) E386) Q388 (Nat.le_of_eq g352.symm)) E390) Q394 (Nat.le_trans (Ext.kp1 (Ext.tr (Ext.kp1 (Ext.tr (Ext.kp1 (Ext.tr (Ext.kp1 (Ext.tr (Ext.kp1 (Ext.tr (Ext.kp1 (Ext.tr (Ext.kp1 (Ext.tr (Ext.kp1 (Ext.tr (Ext.kp1 (Ext.tr E352 E354) Q356 (Nat.le_of_eq g352.symm)) E358) Q360 (Nat.le_of_eq g352.symm)) E362) Q364 (Nat.le_of_eq g352.symm)) E366) Q368 (Nat.le_of_eq g352.symm)) E370) Q372 (Nat.le_of_eq g352.symm)) E374) Q376 (Nat.le_of_eq g352.symm)) E378) Q380 (Nat.le_of_eq g352.symm)) E382) Q384 (Nat.le_of_eq g352.symm)) E386) Q388 (Nat.le_of_eq g352.symm)).1 (Nat.le_of_eq g390.symm))) E396) E398) E403) E405)) hz (St394.ext (Ext.tr (Ext.tr (Ext.tr E396 E398) E403) E405))) (hw _ (List.mem_of_getElem? (i := 39) rfl)) (hw _ (List.mem_of_getElem? (i := 38) rfl)) (by decide) (by decide)) (fun _ q => nomatch q) pd5 rfl rfl (Nat.le_of_eq rfl) rfl (by decide) (by decide) (by decide) (fun v408 T408 h408 K408 Q408 q408 => ?_)
              have E408 := Ext.of0 Q408
              have P409 := P406.ext E408
              cases q408
              rw [if_neg hc0, if_pos hc1]
              refine gAload K408 L_402 (v := (.ref v1)) rfl rfl ?_
              refine gAcmp_ne K408 L_404 rfl rfl (fun q => absurd q (by first | decide | (intro hh; cases hh) | simp)) (fun q404 => ?_)
              refine gIconst K408 (1 : Int32) L_407 rfl ?_
              refine gGoto K408 L_408 ?_
              refine gRetI K408 hlk hret (by simp) L_412 rfl P409 (by decide) (by decide) ?_
              exact rfl
            · skip
              refine gIf_eq K405 L_389 (fun q389 => ?_) (fun q => absurd q (by first | decide | (intro hh; cases hh) | simp))
              refine gAload K405 L_397 (v := (.ref x390)) rfl rfl ?_
              refine gCallS K405 (W := 0) [(.ref x390)] [] L_399 (hw _ (List.mem_of_getElem? (i := 36) rfl)) (hw _ (List.mem_of_getElem? (i := 37) rfl)) (hw _ (List.mem_of_getElem? (i := 38) rfl)) (hw _ (List.mem_of_getElem? (i := 39) rfl)) (Cal.ofN (W := 0) (c_look l Z a0 hw h405 n0 K405.n0le x390 cs va kV dv v0 l0 v1 l1 z (Sv.ext (Ext.tr (Ext.tr (Ext.tr (Ext.tr (Ext.kp1 (Ext.tr (Ext.kp1 (Ext.tr (Ext.kp1 (Ext.tr (Ext.kp1 (Ext.tr (Ext.kp1 (Ext.tr (Ext.kp1 (Ext.tr (Ext.kp1 (Ext.tr (Ext.kp1 (Ext.tr (Ext.kp1 (Ext.tr (Ext.kp1 (Ext.tr E352 E354) Q356 (Nat.le_of_eq g352.symm)) E358) Q360 (Nat.le_of_eq g352.symm)) E362) Q364 (Nat.le_of_eq g352.symm)) E366) Q368 (Nat.le_of_eq g352.symm)) E370) Q372 (Nat.le_of_eq g352.symm)) E374) Q376 (Nat.le_of_eq g352.symm)) E378) Q380 (Nat.le_of_eq g352.symm)) E382) Q384 (Nat.le_of_eq g352.symm)) E386) Q388 (Nat.le_of_eq g352.symm)) E390) Q394 (Nat.le_trans (Ext.kp1 (Ext.tr (Ext.kp1 (Ext.tr (Ext.kp1 (Ext.tr (Ext.kp1 (Ext.tr (Ext.kp1 (Ext.tr (Ext.kp1 (Ext.tr (Ext.kp1 (Ext.tr (Ext.kp1 (Ext.tr (Ext.kp1 (Ext.tr E352 E354) Q356 (Nat.le_of_eq g352.symm)) E358) Q360 (Nat.le_of_eq g352.symm)) E362) Q364 (Nat.le_of_eq g352.symm)) E366) Q368 (Nat.le_of_eq g352.symm)) E370) Q372 (Nat.le_of_eq g352.symm)) E374) Q376 (Nat.le_of_eq g352.symm)) E378) Q380 (Nat.le_of_eq g352.symm)) E382) Q384 (Nat.le_of_eq g352.symm)) E386) Q388 (Nat.le_of_eq g352.symm)).1 (Nat.le_of_eq g390.symm))) E396) E398) E403) E405)) (Av.ext (Ext.tr (Ext.tr (Ext.tr (Ext.tr (Ext.kp1 (Ext.tr (Ext.kp1 (Ext.tr (Ext.kp1 (Ext.tr (Ext.kp1 (Ext.tr (Ext.kp1 (Ext.tr (Ext.kp1 (Ext.tr (Ext.kp1 (Ext.tr (Ext.kp1 (Ext.tr (Ext.kp1 (Ext.tr (Ext.kp1 (Ext.tr E352 E354) Q356 (Nat.le_of_eq g352.symm)) E358) Q360 (Nat.le_of_eq g352.symm)) E362) Q364 (Nat.le_of_eq g352.symm)) E366) Q368 (Nat.le_of_eq g352.symm)) E370) Q372 (Nat.le_of_eq g352.symm)) E374) Q376 (Nat.le_of_eq g352.symm)) E378) Q380 (Nat.le_of_eq g352.symm)) E382) Q384 (Nat.le_of_eq g352.symm)) E386) Q388 (Nat.le_of_eq g352.symm)) E390) Q394 (Nat.le_trans (Ext.kp1 (Ext.tr (Ext.kp1 (Ext.tr (Ext.kp1 (Ext.tr (Ext.kp1 (Ext.tr (Ext.kp1 (Ext.tr (Ext.kp1 (Ext.tr (Ext.kp1 (Ext.tr (Ext.kp1 (Ext.tr (Ext.kp1 (Ext.tr E352 E354) Q356 (Nat.le_of_eq g352.symm)) E358) Q360 (Nat.le_of_eq g352.symm)) E362) Q364 (Nat.le_of_eq g352.symm)) E366) Q368 (Nat.le_of_eq g352.symm)) E370) Q372 (Nat.le_of_eq g352.symm)) E374) Q376 (Nat.le_of_eq g352.symm)) E378) Q380 (Nat.le_of_eq g352.symm)) E382) Q384 (Nat.le_of_eq g352.symm)) E386) Q388 (Nat.le_of_eq g352.symm)).1 (Nat.le_of_eq g390.symm))) E396) E398) E403) E405)) (Ev.ext (Ext.tr (Ext.tr (Ext.tr (Ext.tr (Ext.kp1 (Ext.tr (Ext.kp1 (Ext.tr (Ext.kp1 (Ext.tr (Ext.kp1 (Ext.tr (Ext.kp1 (Ext.tr (Ext.kp1 (Ext.tr (Ext.kp1 (Ext.tr (Ext.kp1 (Ext.tr (Ext.kp1 (Ext.tr (Ext.kp1 (Ext.tr E352 E354) Q356 (Nat.le_of_eq g352.symm)) E358) Q360 (Nat.le_of_eq g352.symm)) E362) Q364 (Nat.le_of_eq g352.symm)) E366) Q368 (Nat.le_of_eq g352.symm)) E370) Q372 (Nat.le_of_eq g352.symm)) E374) Q376 (Nat.le_of_eq g352.symm)) E378) Q380 (Nat.le_of_eq g352.symm)) E382) Q384 (Nat.le_of_eq g352.symm)) E386) Q388 (Nat.le_of_eq g352.symm)) E390) Q394 (Nat.le_trans (Ext.kp1 (Ext.tr (Ext.kp1 (Ext.tr (Ext.kp1 (Ext.tr (Ext.kp1 (Ext.tr (Ext.kp1 (Ext.tr (Ext.kp1 (Ext.tr (Ext.kp1 (Ext.tr (Ext.kp1 (Ext.tr (Ext.kp1 (Ext.tr E352 E354) Q356 (Nat.le_of_eq g352.symm)) E358) Q360 (Nat.le_of_eq g352.symm)) E362) Q364 (Nat.le_of_eq g352.symm)) E366) Q368 (Nat.le_of_eq g352.symm)) E370) Q372 (Nat.le_of_eq g352.symm)) E374) Q376 (Nat.le_of_eq g352.symm)) E378) Q380 (Nat.le_of_eq g352.symm)) E382) Q384 (Nat.le_of_eq g352.symm)) E386) Q388 (Nat.le_of_eq g352.symm)).1 (Nat.le_of_eq g390.symm))) E396) E398) E403) E405)) (F0.ext (Ext.tr (Ext.tr (Ext.tr (Ext.tr (Ext.kp1 (Ext.tr (Ext.kp1 (Ext.tr (Ext.kp1 (Ext.tr (Ext.kp1 (Ext.tr (Ext.kp1 (Ext.tr (Ext.kp1 (Ext.tr (Ext.kp1 (Ext.tr (Ext.kp1 (Ext.tr (Ext.kp1 (Ext.tr (Ext.kp1 (Ext.tr E352 E354) Q356 (Nat.le_of_eq g352.symm)) E358) Q360 (Nat.le_of_eq g352.symm)) E362) Q364 (Nat.le_of_eq g352.symm)) E366) Q368 (Nat.le_of_eq g352.symm)) E370) Q372 (Nat.le_of_eq g352.symm)) E374) Q376 (Nat.le_of_eq g352.symm)) E378) Q380 (Nat.le_of_eq g352.symm)) E382) Q384 (Nat.le_of_eq g352.symm)) E386) Q388 (Nat.le_of_eq g352.symm)) E390) Q394 (Nat.le_trans (Ext.kp1 (Ext.tr (Ext.kp1 (Ext.tr (Ext.kp1 (Ext.tr (Ext.kp1 (Ext.tr (Ext.kp1 (Ext.tr (Ext.kp1 (Ext.tr (Ext.kp1 (Ext.tr (Ext.kp1 (Ext.tr (Ext.kp1 (Ext.tr E352 E354) Q356 (Nat.le_of_eq g352.symm)) E358) Q360 (Nat.le_of_eq g352.symm)) E362) Q364 (Nat.le_of_eq g352.symm)) E366) Q368 (Nat.le_of_eq g352.symm)) E370) Q372 (Nat.le_of_eq g352.symm)) E374) Q376 (Nat.le_of_eq g352.symm)) E378) Q380 (Nat.le_of_eq g352.symm)) E382) Q384 (Nat.le_of_eq g352.symm)) E386) Q388 (Nat.le_of_eq g352.symm)).1 (Nat.le_of_eq g390.symm))) E396) E398) E403) E405)) (L0.ext (Ext.tr (Ext.tr (Ext.tr (Ext.tr (Ext.kp1 (Ext.tr (Ext.kp1 (Ext.tr (Ext.kp1 (Ext.tr (Ext.kp1 (Ext.tr (Ext.kp1 (Ext.tr (Ext.kp1 (Ext.tr (Ext.kp1 (Ext.tr (Ext.kp1 (Ext.tr (Ext.kp1 (Ext.tr (Ext.kp1 (Ext.tr E352 E354) Q356 (Nat.le_of_eq g352.symm)) E358) Q360 (Nat.le_of_eq g352.symm)) E362) Q364 (Nat.le_of_eq g352.symm)) E366) Q368 (Nat.le_of_eq g352.symm)) E370) Q372 (Nat.le_of_eq g352.symm)) E374) Q376 (Nat.le_of_eq g352.symm)) E378) Q380 (Nat.le_of_eq g352.symm)) E382) Q384 (Nat.le_of_eq g352.symm)) E386) Q388 (Nat.le_of_eq g352.symm)) E390) Q394 (Nat.le_trans (Ext.kp1 (Ext.tr (Ext.kp1 (Ext.tr (Ext.kp1 (Ext.tr (Ext.kp1 (Ext.tr (Ext.kp1 (Ext.tr (Ext.kp1 (Ext.tr (Ext.kp1 (Ext.tr (Ext.kp1 (Ext.tr (Ext.kp1 (Ext.tr E352 E354) Q356 (Nat.le_of_eq g352.symm)) E358) Q360 (Nat.le_of_eq g352.symm)) E362) Q364 (Nat.le_of_eq g352.symm)) E366) Q368 (Nat.le_of_eq g352.symm)) E370) Q372 (Nat.le_of_eq g352.symm)) E374) Q376 (Nat.le_of_eq g352.symm)) E378) Q380 (Nat.le_of_eq g352.symm)) E382) Q384 (Nat.le_of_eq g352.symm)) E386) Q388 (Nat.le_of_eq g352.symm)).1 (Nat.le_of_eq g390.symm))) E396) E398) E403) E405)) (F1.ext (Ext.tr (Ext.tr (Ext.tr (Ext.tr (Ext.kp1 (Ext.tr (Ext.kp1 (Ext.tr (Ext.kp1 (Ext.tr (Ext.kp1 (Ext.tr (Ext.kp1 (Ext.tr (Ext.kp1 (Ext.tr (Ext.kp1 (Ext.tr (Ext.kp1 (Ext.tr (Ext.kp1 (Ext.tr (Ext.kp1 (Ext.tr E352 E354) Q356 (Nat.le_of_eq g352.symm)) E358) Q360 (Nat.le_of_eq g352.symm)) E362) Q364 (Nat.le_of_eq g352.symm)) E366) Q368 (Nat.le_of_eq g352.symm)) E370) Q372 (Nat.le_of_eq g352.symm)) E374) Q376 (Nat.le_of_eq g352.symm)) E378) Q380 (Nat.le_of_eq g352.symm)) E382) Q384 (Nat.le_of_eq g352.symm)) E386) Q388 (Nat.le_of_eq g352.symm)) E390) Q394 (Nat.le_trans (Ext.kp1 (Ext.tr (Ext.kp1 (Ext.tr (Ext.kp1 (Ext.tr (Ext.kp1 (Ext.tr (Ext.kp1 (Ext.tr (Ext.kp1 (Ext.tr (Ext.kp1 (Ext.tr (Ext.kp1 (Ext.tr (Ext.kp1 (Ext.tr E352 E354) Q356 (Nat.le_of_eq g352.symm)) E358) Q360 (Nat.le_of_eq g352.symm)) E362) Q364 (Nat.le_of_eq g352.symm)) E366) Q368 (Nat.le_of_eq g352.symm)) E370) Q372 (Nat.le_of_eq g352.symm)) E374) Q376 (Nat.le_of_eq g352.symm)) E378) Q380 (Nat.le_of_eq g352.symm)) E382) Q384 (Nat.le_of_eq g352.symm)) E386) Q388 (Nat.le_of_eq g352.symm)).1 (Nat.le_of_eq g390.symm))) E396) E398) E403) E405)) (L1.ext (Ext.tr (Ext.tr (Ext.tr (Ext.tr (Ext.kp1 (Ext.tr (Ext.kp1 (Ext.tr (Ext.kp1 (Ext.tr (Ext.kp1 (Ext.tr (Ext.kp1 (Ext.tr (Ext.kp1 (Ext.tr (Ext.kp1 (Ext.tr (Ext.kp1 (Ext.tr (Ext.kp1 (Ext.tr (Ext.kp1 (Ext.tr E352 E354) Q356 (Nat.le_of_eq g352.symm)) E358) Q360 (Nat.le_of_eq g352.symm)) E362) Q364 (Nat.le_of_eq g352.symm)) E366) Q368 (Nat.le_of_eq g352.symm)) E370) Q372 (Nat.le_of_eq g352.symm)) E374) Q376 (Nat.le_of_eq g352.symm)) E378) Q380 (Nat.le_of_eq g352.symm)) E382) Q384 (Nat.le_of_eq g352.symm)) E386) Q388 (Nat.le_of_eq g352.symm)) E390) Q394 (Nat.le_trans (Ext.kp1 (Ext.tr (Ext.kp1 (Ext.tr (Ext.kp1 (Ext.tr (Ext.kp1 (Ext.tr (Ext.kp1 (Ext.tr (Ext.kp1 (Ext.tr (Ext.kp1 (Ext.tr (Ext.kp1 (Ext.tr (Ext.kp1 (Ext.tr E352 E354) Q356 (Nat.le_of_eq g352.symm)) E358) Q360 (Nat.le_of_eq g352.symm)) E362) Q364 (Nat.le_of_eq g352.symm)) E366) Q368 (Nat.le_of_eq g352.symm)) E370) Q372 (Nat.le_of_eq g352.symm)) E374) Q376 (Nat.le_of_eq g352.symm)) E378) Q380 (Nat.le_of_eq g352.symm)) E382) Q384 (Nat.le_of_eq g352.symm)) E386) Q388 (Nat.le_of_eq g352.symm)).1 (Nat.le_of_eq g390.symm))) E396) E398) E403) E405)) (Sc.ext (Ext.tr (Ext.tr (Ext.tr (Ext.tr (Ext.kp1 (Ext.tr (Ext.kp1 (Ext.tr (Ext.kp1 (Ext.tr (Ext.kp1 (Ext.tr (Ext.kp1 (Ext.tr (Ext.kp1 (Ext.tr (Ext.kp1 (Ext.tr (Ext.kp1 (Ext.tr (Ext.kp1 (Ext.tr (Ext.kp1 (Ext.tr E352 E354) Q356 (Nat.le_of_eq g352.symm)) E358) Q360 (Nat.le_of_eq g352.symm)) E362) Q364 (Nat.le_of_eq g352.symm)) E366) Q368 (Nat.le_of_eq g352.symm)) E370) Q372 (Nat.le_of_eq g352.symm)) E374) Q376 (Nat.le_of_eq g352.symm)) E378) Q380 (Nat.le_of_eq g352.symm)) E382) Q384 (Nat.le_of_eq g352.symm)) E386) Q388 (Nat.le_of_eq g352.symm)) E390) Q394 (Nat.le_trans (Ext.kp1 (Ext.tr (Ext.kp1 (Ext.tr (Ext.kp1 (Ext.tr (Ext.kp1 (Ext.tr (Ext.kp1 (Ext.tr (Ext.kp1 (Ext.tr (Ext.kp1 (Ext.tr (Ext.kp1 (Ext.tr (Ext.kp1 (Ext.tr E352 E354) Q356 (Nat.le_of_eq g352.symm)) E358) Q360 (Nat.le_of_eq g352.symm)) E362) Q364 (Nat.le_of_eq g352.symm)) E366) Q368 (Nat.le_of_eq g352.symm)) E370) Q372 (Nat.le_of_eq g352.symm)) E374) Q376 (Nat.le_of_eq g352.symm)) E378) Q380 (Nat.le_of_eq g352.symm)) E382) Q384 (Nat.le_of_eq g352.symm)) E386) Q388 (Nat.le_of_eq g352.symm)).1 (Nat.le_of_eq g390.symm))) E396) E398) E403) E405)) hz (St394.ext (Ext.tr (Ext.tr (Ext.tr E396 E398) E403) E405))) (hw _ (List.mem_of_getElem? (i := 39) rfl)) (hw _ (List.mem_of_getElem? (i := 38) rfl)) (by decide) (by decide)) (fun _ q => nomatch q) pd5 rfl rfl (Nat.le_of_eq rfl) rfl (by decide) (by decide) (by decide) (fun v410 T410 h410 K410 Q410 q410 => ?_)
              have E410 := Ext.of0 Q410
              have P411 := P406.ext E410
              cases q410
              rw [if_neg hc0, if_neg hc1]
              refine gAload K410 L_402 (v := .null) rfl rfl ?_
              refine gAcmp_ne K410 L_404 rfl rfl (fun q => absurd q (by first | decide | (intro hh; cases hh) | simp)) (fun q404 => ?_)
              refine gIconst K410 (1 : Int32) L_407 rfl ?_
              refine gGoto K410 L_408 ?_
              refine gRetI K410 hlk hret (by simp) L_412 rfl P411 (by decide) (by decide) ?_
              exact rfl
        refine gIloadN K0 L_63 (v := shape) rfl ?_
        refine gIconst K0 (4 : Int32) L_64 rfl ?_
        refine gIand K0 L_65 ?_
        refine gIf_eq K0 L_66 (fun q66 => ?_) (fun q66 => ?_)
        · skip
          refine gIconst K0 (0 : Int32) L_73 rfl ?_
          exact j74 _ K0 (0 : Int32)
        · skip
          refine gIconst K0 (1 : Int32) L_69 rfl ?_
          refine gGoto K0 L_70 ?_
          exact j74 _ K0 (1 : Int32)
    · skip
      refine gIload K0 L_29 (v := (8 : Int32)) rfl ?_
      refine gGoto K0 L_31 ?_
      refine gIstore K0 L_61 (Ls' := #[.val (.int pick), .val (.int shape), .val (.int pos), .val (.int chh), .val (.int ext), .val (.int wh), .val (.int (8 : Int32)), .val (.int (shape &&& (3 : Int32))), .val (.int (8 : Int32)), .unset, .unset, .unset, .unset, .unset, .unset, .unset]) rfl ?_
      have j74 : ∀ (T412 : State) (K412 : Cx p l e room_1 s m #[(.int pick), (.int shape), (.int pos), (.int chh), (.int ext)] below meth c code maxLocals Z "com/example/tranche/tranche/calendar/CityFromLabelPinLaw" n0 (some [("com/example/tranche/tranche/calendar/CityFromLabelPinLaw", 19), ("com/example/tranche/tranche/calendar/CityFromLabelPinLaw", 31), ("java/lang/String", 7)]) T412 h0 [] 0 0) (sb : Int32), Go p e below (End (some [("com/example/tranche/tranche/calendar/CityFromLabelPinLaw", 19), ("com/example/tranche/tranche/calendar/CityFromLabelPinLaw", 31), ("java/lang/String", 7)]) s Z n0 h0 [] room_1.cells room_1.slots (fun v h => v = some (.int 1))) T412 (mkF m 74 #[.val (.int pick), .val (.int shape), .val (.int pos), .val (.int chh), .val (.int ext), .val (.int wh), .val (.int (8 : Int32)), .val (.int (shape &&& (3 : Int32))), .val (.int (8 : Int32)), .unset, .unset, .unset, .unset, .unset, .unset, .unset] [(.int sb)]) := by
        intro T412 K412 sb
        refine gIstore K412 L_74 (Ls' := #[.val (.int pick), .val (.int shape), .val (.int pos), .val (.int chh), .val (.int ext), .val (.int wh), .val (.int (8 : Int32)), .val (.int (shape &&& (3 : Int32))), .val (.int (8 : Int32)), .val (.int sb), .unset, .unset, .unset, .unset, .unset, .unset]) rfl ?_
        refine gIloadN K412 L_76 (v := pos) rfl ?_
        refine gLdcI K412 (2147483647 : Int32) L_77 (hw _ (List.mem_of_getElem? (i := 0) rfl)) ?_
        refine gIand K412 L_79 ?_
        refine gBipush K412 (9 : Int32) L_80 rfl ?_
        refine gIrem K412 L_82 (by decide) ?_
        generalize ((pos &&& (2147483647 : Int32)) % (9 : Int32)) = pp
        refine gIstore K412 L_83 (Ls' := #[.val (.int pick), .val (.int shape), .val (.int pos), .val (.int chh), .val (.int ext), .val (.int wh), .val (.int (8 : Int32)), .val (.int (shape &&& (3 : Int32))), .val (.int (8 : Int32)), .val (.int sb), .val (.int pp), .unset, .unset, .unset, .unset, .unset]) rfl ?_
        refine gIloadN K412 L_85 (v := chh) rfl ?_
        refine gSipush K412 (255 : Int32) L_86 rfl ?_
        refine gIand K412 L_89 ?_
        refine gI2c K412 L_90 ?_
        have hb_c_ := and255c chh
        generalize ((chh &&& (255 : Int32))).toUInt32.toUInt16.toUInt32.toInt32 = c_ at hb_c_ ⊢
        refine gIstore K412 L_91 (Ls' := #[.val (.int pick), .val (.int shape), .val (.int pos), .val (.int chh), .val (.int ext), .val (.int wh), .val (.int (8 : Int32)), .val (.int (shape &&& (3 : Int32))), .val (.int (8 : Int32)), .val (.int sb), .val (.int pp), .val (.int c_), .unset, .unset, .unset, .unset]) rfl ?_
        refine gIload K412 L_93 (v := ext) rfl ?_
        refine gSipush K412 (255 : Int32) L_95 rfl ?_
        refine gIand K412 L_98 ?_
        refine gI2c K412 L_99 ?_
        have hb_e_ := and255c ext
        generalize ((ext &&& (255 : Int32))).toUInt32.toUInt16.toUInt32.toInt32 = e_ at hb_e_ ⊢
        refine gIstore K412 L_100 (Ls' := #[.val (.int pick), .val (.int shape), .val (.int pos), .val (.int chh), .val (.int ext), .val (.int wh), .val (.int (8 : Int32)), .val (.int (shape &&& (3 : Int32))), .val (.int (8 : Int32)), .val (.int sb), .val (.int pp), .val (.int c_), .val (.int e_), .unset, .unset, .unset]) rfl ?_
        refine gIload K412 L_102 (v := (8 : Int32)) rfl ?_
        refine gNewarr K412 L_104 (hw _ (List.mem_of_getElem? (i := 1) rfl)) (by decide) 8 (by decide) (by decide) (by decide) (by decide) (fun T413 h413 x413 kA413 K413 E413 g413 A413 ne413 => ?_)
        have P414 := P0.ext E413
        have ge_x413 : h0.size ≤ x413 := by rw [g413]; exact P0.1
        refine gAstore K413 L_106 rfl (Ls' := #[.val (.int pick), .val (.int shape), .val (.int pos), .val (.int chh), .val (.int ext), .val (.int wh), .val (.int (8 : Int32)), .val (.int (shape &&& (3 : Int32))), .val (.int (8 : Int32)), .val (.int sb), .val (.int pp), .val (.int c_), .val (.int e_), .val (.ref x413), .unset, .unset]) rfl ?_
        refine gIload K413 L_108 (v := (8 : Int32)) rfl ?_
        refine gIf_le K413 L_110 (fun q => absurd q (by first | decide | (intro hh; cases hh) | simp)) (fun q110 => ?_)
        refine gAload K413 L_113 (v := (.ref x413)) rfl rfl ?_
        refine gIconst K413 (0 : Int32) L_115 rfl ?_
        refine gIconst K413 (0 : Int32) L_116 rfl ?_
        refine gIload K413 L_117 (v := wh) rfl ?_
        refine gIload K413 L_119 (v := (8 : Int32)) rfl ?_
        refine gIload K413 L_121 (v := sb) rfl ?_
        refine gIload K413 L_123 (v := pp) rfl ?_
        refine gIload K413 L_125 (v := c_) rfl ?_
        refine gIload K413 L_127 (v := e_) rfl ?_
        refine gCallS K413 (W := 2) [(.int (0 : Int32)), (.int wh), (.int (8 : Int32)), (.int sb), (.int pp), (.int c_), (.int e_)] [(.int (0 : Int32)), (.ref x413)] L_129 (hw _ (List.mem_of_getElem? (i := 59) rfl)) (hw _ (List.mem_of_getElem? (i := 60) rfl)) (hw _ (List.mem_of_getElem? (i := 61) rfl)) (hw _ (List.mem_of_getElem? (i := 62) rfl)) (Cal.ofW (W := 2) (c_at l Z a0 hw h413 n0 K413.n0le hE wh sb pp c_ e_ 0 8 (by decide) (by decide) (fun _ => by decide) (fun q => absurd q7 q) hb_c_ hb_e_ z (Sc.ext E413) hz fm (Sf.ext E413) rf) (hw _ (List.mem_of_getElem? (i := 62) rfl)) (hw _ (List.mem_of_getElem? (i := 61) rfl)) (by decide) (by decide)) (fun _ q => nomatch q) pd6 rfl rfl (Nat.le_of_eq rfl) rfl (by decide) (by decide) (by decide) (fun v415 T415 h415 K415 Q415 q415 => ?_)
        have E415 := Ext.of0 Q415
        have P416 := P414.ext E415
        obtain ⟨r415, rfl, hb415⟩ := q415
        refine gCastore K415 L_132 (List.mem_of_getElem? (i := 0) rfl) (A413.ext E415) rfl (by decide) hb415.1 (ch_up hb415.2) (fun T417 h417 K417 Q417 A417 => ?_)
        have P418 := P416.trans Q417 (fun z q => by cases List.mem_singleton.mp q; exact Or.inr ge_x413)
        refine gIload K417 L_133 (v := (8 : Int32)) rfl ?_
        refine gIconst K417 (1 : Int32) L_135 rfl ?_
        refine gIcmp_le K417 L_136 (fun q => absurd q (by first | decide | (intro hh; cases hh) | simp)) (fun q136 => ?_)
        refine gAload K417 L_139 (v := (.ref x413)) rfl rfl ?_
        refine gIconst K417 (1 : Int32) L_141 rfl ?_
        refine gIconst K417 (1 : Int32) L_142 rfl ?_
        refine gIload K417 L_143 (v := wh) rfl ?_
        refine gIload K417 L_145 (v := (8 : Int32)) rfl ?_
        refine gIload K417 L_147 (v := sb) rfl ?_
        refine gIload K417 L_149 (v := pp) rfl ?_
        refine gIload K417 L_151 (v := c_) rfl ?_
        refine gIload K417 L_153 (v := e_) rfl ?_
        refine gCallS K417 (W := 2) [(.int (1 : Int32)), (.int wh), (.int (8 : Int32)), (.int sb), (.int pp), (.int c_), (.int e_)] [(.int (1 : Int32)), (.ref x413)] L_155 (hw _ (List.mem_of_getElem? (i := 59) rfl)) (hw _ (List.mem_of_getElem? (i := 60) rfl)) (hw _ (List.mem_of_getElem? (i := 61) rfl)) (hw _ (List.mem_of_getElem? (i := 62) rfl)) (Cal.ofW (W := 2) (c_at l Z a0 hw h417 n0 K417.n0le hE wh sb pp c_ e_ 1 8 (by decide) (by decide) (fun _ => by decide) (fun q => absurd q7 q) hb_c_ hb_e_ z (Sc.ext (Ext.kp1 (Ext.tr E413 E415) Q417 (Nat.le_of_eq g413.symm))) hz fm (Sf.ext (Ext.kp1 (Ext.tr E413 E415) Q417 (Nat.le_of_eq g413.symm))) rf) (hw _ (List.mem_of_getElem? (i := 62) rfl)) (hw _ (List.mem_of_getElem? (i := 61) rfl)) (by decide) (by decide)) (fun _ q => nomatch q) pd6 rfl rfl (Nat.le_of_eq rfl) rfl (by decide) (by decide) (by decide) (fun v419 T419 h419 K419 Q419 q419 => ?_)
        have E419 := Ext.of0 Q419
        have P420 := P418.ext E419
        obtain ⟨r419, rfl, hb419⟩ := q419
        refine gCastore K419 L_158 (List.mem_of_getElem? (i := 0) rfl) (A417.ext E419) rfl (by decide) hb419.1 (ch_up hb419.2) (fun T421 h421 K421 Q421 A421 => ?_)
        have P422 := P420.trans Q421 (fun z q => by cases List.mem_singleton.mp q; exact Or.inr ge_x413)
        refine gIload K421 L_159 (v := (8 : Int32)) rfl ?_
        refine gIconst K421 (2 : Int32) L_161 rfl ?_
        refine gIcmp_le K421 L_162 (fun q => absurd q (by first | decide | (intro hh; cases hh) | simp)) (fun q162 => ?_)
        refine gAload K421 L_165 (v := (.ref x413)) rfl rfl ?_
        refine gIconst K421 (2 : Int32) L_167 rfl ?_
        refine gIconst K421 (2 : Int32) L_168 rfl ?_
        refine gIload K421 L_169 (v := wh) rfl ?_
        refine gIload K421 L_171 (v := (8 : Int32)) rfl ?_
        refine gIload K421 L_173 (v := sb) rfl ?_
        refine gIload K421 L_175 (v := pp) rfl ?_
        refine gIload K421 L_177 (v := c_) rfl ?_
        refine gIload K421 L_179 (v := e_) rfl ?_
        refine gCallS K421 (W := 2) [(.int (2 : Int32)), (.int wh), (.int (8 : Int32)), (.int sb), (.int pp), (.int c_), (.int e_)] [(.int (2 : Int32)), (.ref x413)] L_181 (hw _ (List.mem_of_getElem? (i := 59) rfl)) (hw _ (List.mem_of_getElem? (i := 60) rfl)) (hw _ (List.mem_of_getElem? (i := 61) rfl)) (hw _ (List.mem_of_getElem? (i := 62) rfl)) (Cal.ofW (W := 2) (c_at l Z a0 hw h421 n0 K421.n0le hE wh sb pp c_ e_ 2 8 (by decide) (by decide) (fun _ => by decide) (fun q => absurd q7 q) hb_c_ hb_e_ z (Sc.ext (Ext.kp1 (Ext.tr (Ext.kp1 (Ext.tr E413 E415) Q417 (Nat.le_of_eq g413.symm)) E419) Q421 (Nat.le_of_eq g413.symm))) hz fm (Sf.ext (Ext.kp1 (Ext.tr (Ext.kp1 (Ext.tr E413 E415) Q417 (Nat.le_of_eq g413.symm)) E419) Q421 (Nat.le_of_eq g413.symm))) rf) (hw _ (List.mem_of_getElem? (i := 62) rfl)) (hw _ (List.mem_of_getElem? (i := 61) rfl)) (by decide) (by decide)) (fun _ q => nomatch q) pd6 rfl rfl (Nat.le_of_eq rfl) rfl (by decide) (by decide) (by decide) (fun v423 T423 h423 K423 Q423 q423 => ?_)
        have E423 := Ext.of0 Q423
        have P424 := P422.ext E423
        obtain ⟨r423, rfl, hb423⟩ := q423
        refine gCastore K423 L_184 (List.mem_of_getElem? (i := 0) rfl) (A421.ext E423) rfl (by decide) hb423.1 (ch_up hb423.2) (fun T425 h425 K425 Q425 A425 => ?_)
        have P426 := P424.trans Q425 (fun z q => by cases List.mem_singleton.mp q; exact Or.inr ge_x413)
        refine gIload K425 L_185 (v := (8 : Int32)) rfl ?_
        refine gIconst K425 (3 : Int32) L_187 rfl ?_
        refine gIcmp_le K425 L_188 (fun q => absurd q (by first | decide | (intro hh; cases hh) | simp)) (fun q188 => ?_)
        refine gAload K425 L_191 (v := (.ref x413)) rfl rfl ?_
        refine gIconst K425 (3 : Int32) L_193 rfl ?_
        refine gIconst K425 (3 : Int32) L_194 rfl ?_
        refine gIload K425 L_195 (v := wh) rfl ?_
        refine gIload K425 L_197 (v := (8 : Int32)) rfl ?_
        refine gIload K425 L_199 (v := sb) rfl ?_
        refine gIload K425 L_201 (v := pp) rfl ?_
        refine gIload K425 L_203 (v := c_) rfl ?_
        refine gIload K425 L_205 (v := e_) rfl ?_
        refine gCallS K425 (W := 2) [(.int (3 : Int32)), (.int wh), (.int (8 : Int32)), (.int sb), (.int pp), (.int c_), (.int e_)] [(.int (3 : Int32)), (.ref x413)] L_207 (hw _ (List.mem_of_getElem? (i := 59) rfl)) (hw _ (List.mem_of_getElem? (i := 60) rfl)) (hw _ (List.mem_of_getElem? (i := 61) rfl)) (hw _ (List.mem_of_getElem? (i := 62) rfl)) (Cal.ofW (W := 2) (c_at l Z a0 hw h425 n0 K425.n0le hE wh sb pp c_ e_ 3 8 (by decide) (by decide) (fun _ => by decide) (fun q => absurd q7 q) hb_c_ hb_e_ z (Sc.ext (Ext.kp1 (Ext.tr (Ext.kp1 (Ext.tr (Ext.kp1 (Ext.tr E413 E415) Q417 (Nat.le_of_eq g413.symm)) E419) Q421 (Nat.le_of_eq g413.symm)) E423) Q425 (Nat.le_of_eq g413.symm))) hz fm (Sf.ext (Ext.kp1 (Ext.tr (Ext.kp1 (Ext.tr (Ext.kp1 (Ext.tr E413 E415) Q417 (Nat.le_of_eq g413.symm)) E419) Q421 (Nat.le_of_eq g413.symm)) E423) Q425 (Nat.le_of_eq g413.symm))) rf) (hw _ (List.mem_of_getElem? (i := 62) rfl)) (hw _ (List.mem_of_getElem? (i := 61) rfl)) (by decide) (by decide)) (fun _ q => nomatch q) pd6 rfl rfl (Nat.le_of_eq rfl) rfl (by decide) (by decide) (by decide) (fun v427 T427 h427 K427 Q427 q427 => ?_)
        have E427 := Ext.of0 Q427
        have P428 := P426.ext E427
        obtain ⟨r427, rfl, hb427⟩ := q427
        refine gCastore K427 L_210 (List.mem_of_getElem? (i := 0) rfl) (A425.ext E427) rfl (by decide) hb427.1 (ch_up hb427.2) (fun T429 h429 K429 Q429 A429 => ?_)
        have P430 := P428.trans Q429 (fun z q => by cases List.mem_singleton.mp q; exact Or.inr ge_x413)
        refine gIload K429 L_211 (v := (8 : Int32)) rfl ?_
        refine gIconst K429 (4 : Int32) L_213 rfl ?_
        refine gIcmp_le K429 L_214 (fun q => absurd q (by first | decide | (intro hh; cases hh) | simp)) (fun q214 => ?_)
        refine gAload K429 L_217 (v := (.ref x413)) rfl rfl ?_
        refine gIconst K429 (4 : Int32) L_219 rfl ?_
        refine gIconst K429 (4 : Int32) L_220 rfl ?_
        refine gIload K429 L_221 (v := wh) rfl ?_
        refine gIload K429 L_223 (v := (8 : Int32)) rfl ?_
        refine gIload K429 L_225 (v := sb) rfl ?_
        refine gIload K429 L_227 (v := pp) rfl ?_
        refine gIload K429 L_229 (v := c_) rfl ?_
        refine gIload K429 L_231 (v := e_) rfl ?_
        refine gCallS K429 (W := 2) [(.int (4 : Int32)), (.int wh), (.int (8 : Int32)), (.int sb), (.int pp), (.int c_), (.int e_)] [(.int (4 : Int32)), (.ref x413)] L_233 (hw _ (List.mem_of_getElem? (i := 59) rfl)) (hw _ (List.mem_of_getElem? (i := 60) rfl)) (hw _ (List.mem_of_getElem? (i := 61) rfl)) (hw _ (List.mem_of_getElem? (i := 62) rfl)) (Cal.ofW (W := 2) (c_at l Z a0 hw h429 n0 K429.n0le hE wh sb pp c_ e_ 4 8 (by decide) (by decide) (fun _ => by decide) (fun q => absurd q7 q) hb_c_ hb_e_ z (Sc.ext (Ext.kp1 (Ext.tr (Ext.kp1 (Ext.tr (Ext.kp1 (Ext.tr (Ext.kp1 (Ext.tr E413 E415) Q417 (Nat.le_of_eq g413.symm)) E419) Q421 (Nat.le_of_eq g413.symm)) E423) Q425 (Nat.le_of_eq g413.symm)) E427) Q429 (Nat.le_of_eq g413.symm))) hz fm (Sf.ext (Ext.kp1 (Ext.tr (Ext.kp1 (Ext.tr (Ext.kp1 (Ext.tr (Ext.kp1 (Ext.tr E413 E415) Q417 (Nat.le_of_eq g413.symm)) E419) Q421 (Nat.le_of_eq g413.symm)) E423) Q425 (Nat.le_of_eq g413.symm)) E427) Q429 (Nat.le_of_eq g413.symm))) rf) (hw _ (List.mem_of_getElem? (i := 62) rfl)) (hw _ (List.mem_of_getElem? (i := 61) rfl)) (by decide) (by decide)) (fun _ q => nomatch q) pd6 rfl rfl (Nat.le_of_eq rfl) rfl (by decide) (by decide) (by decide) (fun v431 T431 h431 K431 Q431 q431 => ?_)
        have E431 := Ext.of0 Q431
        have P432 := P430.ext E431
        obtain ⟨r431, rfl, hb431⟩ := q431
        refine gCastore K431 L_236 (List.mem_of_getElem? (i := 0) rfl) (A429.ext E431) rfl (by decide) hb431.1 (ch_up hb431.2) (fun T433 h433 K433 Q433 A433 => ?_)
        have P434 := P432.trans Q433 (fun z q => by cases List.mem_singleton.mp q; exact Or.inr ge_x413)
        refine gIload K433 L_237 (v := (8 : Int32)) rfl ?_
        refine gIconst K433 (5 : Int32) L_239 rfl ?_
        refine gIcmp_le K433 L_240 (fun q => absurd q (by first | decide | (intro hh; cases hh) | simp)) (fun q240 => ?_)
        refine gAload K433 L_243 (v := (.ref x413)) rfl rfl ?_
        refine gIconst K433 (5 : Int32) L_245 rfl ?_
        refine gIconst K433 (5 : Int32) L_246 rfl ?_
        refine gIload K433 L_247 (v := wh) rfl ?_
        refine gIload K433 L_249 (v := (8 : Int32)) rfl ?_
        refine gIload K433 L_251 (v := sb) rfl ?_
        refine gIload K433 L_253 (v := pp) rfl ?_
        refine gIload K433 L_255 (v := c_) rfl ?_
        refine gIload K433 L_257 (v := e_) rfl ?_
        refine gCallS K433 (W := 2) [(.int (5 : Int32)), (.int wh), (.int (8 : Int32)), (.int sb), (.int pp), (.int c_), (.int e_)] [(.int (5 : Int32)), (.ref x413)] L_259 (hw _ (List.mem_of_getElem? (i := 59) rfl)) (hw _ (List.mem_of_getElem? (i := 60) rfl)) (hw _ (List.mem_of_getElem? (i := 61) rfl)) (hw _ (List.mem_of_getElem? (i := 62) rfl)) (Cal.ofW (W := 2) (c_at l Z a0 hw h433 n0 K433.n0le hE wh sb pp c_ e_ 5 8 (by decide) (by decide) (fun _ => by decide) (fun q => absurd q7 q) hb_c_ hb_e_ z (Sc.ext (Ext.kp1 (Ext.tr (Ext.kp1 (Ext.tr (Ext.kp1 (Ext.tr (Ext.kp1 (Ext.tr (Ext.kp1 (Ext.tr E413 E415) Q417 (Nat.le_of_eq g413.symm)) E419) Q421 (Nat.le_of_eq g413.symm)) E423) Q425 (Nat.le_of_eq g413.symm)) E427) Q429 (Nat.le_of_eq g413.symm)) E431) Q433 (Nat.le_of_eq g413.symm))) hz fm (Sf.ext (Ext.kp1 (Ext.tr (Ext.kp1 (Ext.tr (Ext.kp1 (Ext.tr (Ext.kp1 (Ext.tr (Ext.kp1 (Ext.tr E413 E415) Q417 (Nat.le_of_eq g413.symm)) E419) Q421 (Nat.le_of_eq g413.symm)) E423) Q425 (Nat.le_of_eq g413.symm)) E427) Q429 (Nat.le_of_eq g413.symm)) E431) Q433 (Nat.le_of_eq g413.symm))) rf) (hw _ (List.mem_of_getElem? (i := 62) rfl)) (hw _ (List.mem_of_getElem? (i := 61) rfl)) (by decide) (by decide)) (fun _ q => nomatch q) pd6 rfl rfl (Nat.le_of_eq rfl) rfl (by decide) (by decide) (by decide) (fun v435 T435 h435 K435 Q435 q435 => ?_)
        have E435 := Ext.of0 Q435
        have P436 := P434.ext E435
        obtain ⟨r435, rfl, hb435⟩ := q435
        refine gCastore K435 L_262 (List.mem_of_getElem? (i := 0) rfl) (A433.ext E435) rfl (by decide) hb435.1 (ch_up hb435.2) (fun T437 h437 K437 Q437 A437 => ?_)
        have P438 := P436.trans Q437 (fun z q => by cases List.mem_singleton.mp q; exact Or.inr ge_x413)
        refine gIload K437 L_263 (v := (8 : Int32)) rfl ?_
        refine gBipush K437 (6 : Int32) L_265 rfl ?_
        refine gIcmp_le K437 L_267 (fun q => absurd q (by first | decide | (intro hh; cases hh) | simp)) (fun q267 => ?_)
        refine gAload K437 L_270 (v := (.ref x413)) rfl rfl ?_
        refine gBipush K437 (6 : Int32) L_272 rfl ?_
        refine gBipush K437 (6 : Int32) L_274 rfl ?_
        refine gIload K437 L_276 (v := wh) rfl ?_
        refine gIload K437 L_278 (v := (8 : Int32)) rfl ?_
        refine gIload K437 L_280 (v := sb) rfl ?_
        refine gIload K437 L_282 (v := pp) rfl ?_
        refine gIload K437 L_284 (v := c_) rfl ?_
        refine gIload K437 L_286 (v := e_) rfl ?_
        refine gCallS K437 (W := 2) [(.int (6 : Int32)), (.int wh), (.int (8 : Int32)), (.int sb), (.int pp), (.int c_), (.int e_)] [(.int (6 : Int32)), (.ref x413)] L_288 (hw _ (List.mem_of_getElem? (i := 59) rfl)) (hw _ (List.mem_of_getElem? (i := 60) rfl)) (hw _ (List.mem_of_getElem? (i := 61) rfl)) (hw _ (List.mem_of_getElem? (i := 62) rfl)) (Cal.ofW (W := 2) (c_at l Z a0 hw h437 n0 K437.n0le hE wh sb pp c_ e_ 6 8 (by decide) (by decide) (fun _ => by decide) (fun q => absurd q7 q) hb_c_ hb_e_ z (Sc.ext (Ext.kp1 (Ext.tr (Ext.kp1 (Ext.tr (Ext.kp1 (Ext.tr (Ext.kp1 (Ext.tr (Ext.kp1 (Ext.tr (Ext.kp1 (Ext.tr E413 E415) Q417 (Nat.le_of_eq g413.symm)) E419) Q421 (Nat.le_of_eq g413.symm)) E423) Q425 (Nat.le_of_eq g413.symm)) E427) Q429 (Nat.le_of_eq g413.symm)) E431) Q433 (Nat.le_of_eq g413.symm)) E435) Q437 (Nat.le_of_eq g413.symm))) hz fm (Sf.ext (Ext.kp1 (Ext.tr (Ext.kp1 (Ext.tr (Ext.kp1 (Ext.tr (Ext.kp1 (Ext.tr (Ext.kp1 (Ext.tr (Ext.kp1 (Ext.tr E413 E415) Q417 (Nat.le_of_eq g413.symm)) E419) Q421 (Nat.le_of_eq g413.symm)) E423) Q425 (Nat.le_of_eq g413.symm)) E427) Q429 (Nat.le_of_eq g413.symm)) E431) Q433 (Nat.le_of_eq g413.symm)) E435) Q437 (Nat.le_of_eq g413.symm))) rf) (hw _ (List.mem_of_getElem? (i := 62) rfl)) (hw _ (List.mem_of_getElem? (i := 61) rfl)) (by decide) (by decide)) (fun _ q => nomatch q) pd6 rfl rfl (Nat.le_of_eq rfl) rfl (by decide) (by decide) (by decide) (fun v439 T439 h439 K439 Q439 q439 => ?_)
        have E439 := Ext.of0 Q439
        have P440 := P438.ext E439
        obtain ⟨r439, rfl, hb439⟩ := q439
        refine gCastore K439 L_291 (List.mem_of_getElem? (i := 0) rfl) (A437.ext E439) rfl (by decide) hb439.1 (ch_up hb439.2) (fun T441 h441 K441 Q441 A441 => ?_)
        have P442 := P440.trans Q441 (fun z q => by cases List.mem_singleton.mp q; exact Or.inr ge_x413)
        refine gIload K441 L_292 (v := (8 : Int32)) rfl ?_
        refine gBipush K441 (7 : Int32) L_294 rfl ?_
        refine gIcmp_le K441 L_296 (fun q => absurd q (by first | decide | (intro hh; cases hh) | simp)) (fun q296 => ?_)
        refine gAload K441 L_299 (v := (.ref x413)) rfl rfl ?_
        refine gBipush K441 (7 : Int32) L_301 rfl ?_
        refine gBipush K441 (7 : Int32) L_303 rfl ?_
        refine gIload K441 L_305 (v := wh) rfl ?_
        refine gIload K441 L_307 (v := (8 : Int32)) rfl ?_
        refine gIload K441 L_309 (v := sb) rfl ?_
        refine gIload K441 L_311 (v := pp) rfl ?_
        refine gIload K441 L_313 (v := c_) rfl ?_
        refine gIload K441 L_315 (v := e_) rfl ?_
        refine gCallS K441 (W := 2) [(.int (7 : Int32)), (.int wh), (.int (8 : Int32)), (.int sb), (.int pp), (.int c_), (.int e_)] [(.int (7 : Int32)), (.ref x413)] L_317 (hw _ (List.mem_of_getElem? (i := 59) rfl)) (hw _ (List.mem_of_getElem? (i := 60) rfl)) (hw _ (List.mem_of_getElem? (i := 61) rfl)) (hw _ (List.mem_of_getElem? (i := 62) rfl)) (Cal.ofW (W := 2) (c_at l Z a0 hw h441 n0 K441.n0le hE wh sb pp c_ e_ 7 8 (by decide) (by decide) (fun _ => by decide) (fun q => absurd q7 q) hb_c_ hb_e_ z (Sc.ext (Ext.kp1 (Ext.tr (Ext.kp1 (Ext.tr (Ext.kp1 (Ext.tr (Ext.kp1 (Ext.tr (Ext.kp1 (Ext.tr (Ext.kp1 (Ext.tr (Ext.kp1 (Ext.tr E413 E415) Q417 (Nat.le_of_eq g413.symm)) E419) Q421 (Nat.le_of_eq g413.symm)) E423) Q425 (Nat.le_of_eq g413.symm)) E427) Q429 (Nat.le_of_eq g413.symm)) E431) Q433 (Nat.le_of_eq g413.symm)) E435) Q437 (Nat.le_of_eq g413.symm)) E439) Q441 (Nat.le_of_eq g413.symm))) hz fm (Sf.ext (Ext.kp1 (Ext.tr (Ext.kp1 (Ext.tr (Ext.kp1 (Ext.tr (Ext.kp1 (Ext.tr (Ext.kp1 (Ext.tr (Ext.kp1 (Ext.tr (Ext.kp1 (Ext.tr E413 E415) Q417 (Nat.le_of_eq g413.symm)) E419) Q421 (Nat.le_of_eq g413.symm)) E423) Q425 (Nat.le_of_eq g413.symm)) E427) Q429 (Nat.le_of_eq g413.symm)) E431) Q433 (Nat.le_of_eq g413.symm)) E435) Q437 (Nat.le_of_eq g413.symm)) E439) Q441 (Nat.le_of_eq g413.symm))) rf) (hw _ (List.mem_of_getElem? (i := 62) rfl)) (hw _ (List.mem_of_getElem? (i := 61) rfl)) (by decide) (by decide)) (fun _ q => nomatch q) pd6 rfl rfl (Nat.le_of_eq rfl) rfl (by decide) (by decide) (by decide) (fun v443 T443 h443 K443 Q443 q443 => ?_)
        have E443 := Ext.of0 Q443
        have P444 := P442.ext E443
        obtain ⟨r443, rfl, hb443⟩ := q443
        refine gCastore K443 L_320 (List.mem_of_getElem? (i := 0) rfl) (A441.ext E443) rfl (by decide) hb443.1 (ch_up hb443.2) (fun T445 h445 K445 Q445 A445 => ?_)
        have P446 := P444.trans Q445 (fun z q => by cases List.mem_singleton.mp q; exact Or.inr ge_x413)
        refine gIload K445 L_321 (v := (8 : Int32)) rfl ?_
        refine gBipush K445 (8 : Int32) L_323 rfl ?_
        refine gIcmp_le K445 L_325 (fun q325 => ?_) (fun q => absurd q (by first | decide | (intro hh; cases hh) | simp))
        refine gNew K445 L_350 (hw _ (List.mem_of_getElem? (i := 2) rfl)) (hw _ (List.mem_of_getElem? (i := 3) rfl)) (hw _ (List.mem_of_getElem? (i := 4) rfl)) (by decide) (by decide) (fun T447 h447 x447 K447 E447 g447 A447 D447 ne447 => ?_)
        have P448 := P446.ext E447
        have ge_x447 : h0.size ≤ x447 := by rw [g447]; exact P446.1
        have F449 : Fld Z h447 x447 "java/lang/String" "value" "[B" .null := (D447 (Or.inr (hw _ (List.mem_of_getElem? (i := 17) rfl))) (ty := (.array .byte)) (by decide))
        have F450 : Fld Z h447 x447 "java/lang/String" "coder" "B" (.int (0 : Int32)) := (D447 (Or.inr (hw _ (List.mem_of_getElem? (i := 18) rfl))) (ty := .byte) (by decide))
        refine gDup K447 L_353 rfl ?_
        refine gAload K447 L_354 (v := (.ref x413)) rfl rfl ?_
        refine gCallI K447 (W := 1) x447 [(.ref x413)] [(.ref x447)] L_356 rfl (hw _ (List.mem_of_getElem? (i := 5) rfl)) (hw _ (List.mem_of_getElem? (i := 6) rfl)) (hw _ (List.mem_of_getElem? (i := 7) rfl)) (cal_strN hw (W := 1) (cs := [r415, r419, r423, r427, r431, r435, r439, r443]) 8 (K447.wsge (List.mem_of_getElem? (i := 0) rfl)) K447.n0le A447 F449 F450 (A445.ext E447) (Sc.ext (Ext.tr (Ext.kp1 (Ext.tr (Ext.kp1 (Ext.tr (Ext.kp1 (Ext.tr (Ext.kp1 (Ext.tr (Ext.kp1 (Ext.tr (Ext.kp1 (Ext.tr (Ext.kp1 (Ext.tr (Ext.kp1 (Ext.tr E413 E415) Q417 (Nat.le_of_eq g413.symm)) E419) Q421 (Nat.le_of_eq g413.symm)) E423) Q425 (Nat.le_of_eq g413.symm)) E427) Q429 (Nat.le_of_eq g413.symm)) E431) Q433 (Nat.le_of_eq g413.symm)) E435) Q437 (Nat.le_of_eq g413.symm)) E439) Q441 (Nat.le_of_eq g413.symm)) E443) Q445 (Nat.le_of_eq g413.symm)) E447)) hz rfl (by decide) (by decide) (allI hb415 (allI hb419 (allI hb423 (allI hb427 (allI hb431 (allI hb435 (allI hb439 (allI hb443 allI0)))))))) (by decide) (by decide)) (fun z q => by cases List.mem_singleton.mp q; exact (List.mem_of_getElem? (i := 0) rfl)) pd4 rfl rfl (Nat.le_of_eq rfl) rfl (by decide) (by decide) (by decide) (fun v451 T451 h451 K451 Q451 q451 => ?_)
        have P452 := P448.trans Q451 (fun z q => by cases List.mem_singleton.mp q; exact Or.inr ge_x447)
        obtain ⟨rfl, St451⟩ := q451
        generalize hcs : [r415, r419, r423, r427, r431, r435, r439, r443] = cs at St451
        refine gAstore K451 L_359 rfl (Ls' := #[.val (.int pick), .val (.int shape), .val (.int pos), .val (.int chh), .val (.int ext), .val (.int wh), .val (.int (8 : Int32)), .val (.int (shape &&& (3 : Int32))), .val (.int (8 : Int32)), .val (.int sb), .val (.int pp), .val (.int c_), .val (.int e_), .val (.ref x413), .val (.ref x447), .unset]) rfl ?_
        refine gNull K451 L_361 ?_
        refine gAstore K451 L_362 rfl (Ls' := #[.val (.int pick), .val (.int shape), .val (.int pos), .val (.int chh), .val (.int ext), .val (.int wh), .val (.int (8 : Int32)), .val (.int (shape &&& (3 : Int32))), .val (.int (8 : Int32)), .val (.int sb), .val (.int pp), .val (.int c_), .val (.int e_), .val (.ref x413), .val (.ref x447), .val .null]) rfl ?_
        refine gAload K451 L_364 (v := (.ref x447)) rfl rfl ?_
        refine gLdc K451 L_366 (hw _ (List.mem_of_getElem? (i := 23) rfl)) (hsA hw) (by decide) (vs := ([(110 : Int32), (101 : Int32), (119 : Int32), (45 : Int32), (121 : Int32), (111 : Int32), (114 : Int32), (107 : Int32)].map StrChars.lo8).map Value.int) (z := Int32.ofNat 8) (by decide +kernel) (by decide) (by decide) 32 (by decide) (by decide) (by decide) (by decide) (fun T453 h453 a453 b453 kA453 K453 E453 Ea453 Fc453 Fv453 Ab453 ne453 => ?_)
        have P454 := P452.ext E453
        have Sl453 : StrL Z h453 a453 [(110 : Int32), (101 : Int32), (119 : Int32), (45 : Int32), (121 : Int32), (111 : Int32), (114 : Int32), (107 : Int32)] := ⟨b453, kA453, Ea453, Fc453, Fv453, Ab453, by decide, by decide⟩
        refine gCallV K453 (W := 0) (C := "java/lang/String") x447 [(.ref a453)] [] L_368 (hw _ (List.mem_of_getElem? (i := 24) rfl)) (hw _ (List.mem_of_getElem? (i := 25) rfl)) (hw _ (List.mem_of_getElem? (i := 27) rfl)) (hw _ (List.mem_of_getElem? (i := 26) rfl)) (cal_eq hw (W := 0) (St451.ext E453) Sl453 (Sc.ext (Ext.tr (Ext.kp1 (Ext.tr (Ext.kp1 (Ext.tr (Ext.kp1 (Ext.tr (Ext.kp1 (Ext.tr (Ext.kp1 (Ext.tr (Ext.kp1 (Ext.tr (Ext.kp1 (Ext.tr (Ext.kp1 (Ext.tr (Ext.kp1 (Ext.tr E413 E415) Q417 (Nat.le_of_eq g413.symm)) E419) Q421 (Nat.le_of_eq g413.symm)) E423) Q425 (Nat.le_of_eq g413.symm)) E427) Q429 (Nat.le_of_eq g413.symm)) E431) Q433 (Nat.le_of_eq g413.symm)) E435) Q437 (Nat.le_of_eq g413.symm)) E439) Q441 (Nat.le_of_eq g413.symm)) E443) Q445 (Nat.le_of_eq g413.symm)) E447) Q451 (Nat.le_trans (Ext.kp1 (Ext.tr (Ext.kp1 (Ext.tr (Ext.kp1 (Ext.tr (Ext.kp1 (Ext.tr (Ext.kp1 (Ext.tr (Ext.kp1 (Ext.tr (Ext.kp1 (Ext.tr (Ext.kp1 (Ext.tr E413 E415) Q417 (Nat.le_of_eq g413.symm)) E419) Q421 (Nat.le_of_eq g413.symm)) E423) Q425 (Nat.le_of_eq g413.symm)) E427) Q429 (Nat.le_of_eq g413.symm)) E431) Q433 (Nat.le_of_eq g413.symm)) E435) Q437 (Nat.le_of_eq g413.symm)) E439) Q441 (Nat.le_of_eq g413.symm)) E443) Q445 (Nat.le_of_eq g413.symm)).1 (Nat.le_of_eq g447.symm))) E453)) hz (by decide) (by decide)) ((St451.ext E453)).exa (fun _ q => nomatch q) pd1 rfl rfl (Nat.le_of_eq rfl) rfl (by decide) (by decide) (by decide) (fun v455 T455 h455 K455 Q455 q455 => ?_)
        have E455 := Ext.of0 Q455
        have P456 := P454.ext E455
        rcases q455 with ⟨rfl, hc0⟩ | ⟨rfl, hc0⟩
        · skip
          refine gIf_eq K455 L_371 (fun q => absurd q (by first | decide | (intro hh; cases hh) | simp)) (fun q371 => ?_)
          refine gGetS K455 L_374 (hw _ (List.mem_of_getElem? (i := 96) rfl)) (S0.ext (Ext.tr (Ext.tr (Ext.kp1 (Ext.tr (Ext.kp1 (Ext.tr (Ext.kp1 (Ext.tr (Ext.kp1 (Ext.tr (Ext.kp1 (Ext.tr (Ext.kp1 (Ext.tr (Ext.kp1 (Ext.tr (Ext.kp1 (Ext.tr (Ext.kp1 (Ext.tr E413 E415) Q417 (Nat.le_of_eq g413.symm)) E419) Q421 (Nat.le_of_eq g413.symm)) E423) Q425 (Nat.le_of_eq g413.symm)) E427) Q429 (Nat.le_of_eq g413.symm)) E431) Q433 (Nat.le_of_eq g413.symm)) E435) Q437 (Nat.le_of_eq g413.symm)) E439) Q441 (Nat.le_of_eq g413.symm)) E443) Q445 (Nat.le_of_eq g413.symm)) E447) Q451 (Nat.le_trans (Ext.kp1 (Ext.tr (Ext.kp1 (Ext.tr (Ext.kp1 (Ext.tr (Ext.kp1 (Ext.tr (Ext.kp1 (Ext.tr (Ext.kp1 (Ext.tr (Ext.kp1 (Ext.tr (Ext.kp1 (Ext.tr E413 E415) Q417 (Nat.le_of_eq g413.symm)) E419) Q421 (Nat.le_of_eq g413.symm)) E423) Q425 (Nat.le_of_eq g413.symm)) E427) Q429 (Nat.le_of_eq g413.symm)) E431) Q433 (Nat.le_of_eq g413.symm)) E435) Q437 (Nat.le_of_eq g413.symm)) E439) Q441 (Nat.le_of_eq g413.symm)) E443) Q445 (Nat.le_of_eq g413.symm)).1 (Nat.le_of_eq g447.symm))) E453) E455)) (fun T457 K457 => ?_)
          refine gAstore K457 L_377 rfl (Ls' := #[.val (.int pick), .val (.int shape), .val (.int pos), .val (.int chh), .val (.int ext), .val (.int wh), .val (.int (8 : Int32)), .val (.int (shape &&& (3 : Int32))), .val (.int (8 : Int32)), .val (.int sb), .val (.int pp), .val (.int c_), .val (.int e_), .val (.ref x413), .val (.ref x447), .val (.ref v0)]) rfl ?_
          refine gGoto K457 L_379 ?_
          refine gAload K457 L_397 (v := (.ref x447)) rfl rfl ?_
          refine gCallS K457 (W := 0) [(.ref x447)] [] L_399 (hw _ (List.mem_of_getElem? (i := 36) rfl)) (hw _ (List.mem_of_getElem? (i := 37) rfl)) (hw _ (List.mem_of_getElem? (i := 38) rfl)) (hw _ (List.mem_of_getElem? (i := 39) rfl)) (Cal.ofN (W := 0) (c_look l Z a0 hw h455 n0 K457.n0le x447 cs va kV dv v0 l0 v1 l1 z (Sv.ext (Ext.tr (Ext.tr (Ext.kp1 (Ext.tr (Ext.kp1 (Ext.tr (Ext.kp1 (Ext.tr (Ext.kp1 (Ext.tr (Ext.kp1 (Ext.tr (Ext.kp1 (Ext.tr (Ext.kp1 (Ext.tr (Ext.kp1 (Ext.tr (Ext.kp1 (Ext.tr E413 E415) Q417 (Nat.le_of_eq g413.symm)) E419) Q421 (Nat.le_of_eq g413.symm)) E423) Q425 (Nat.le_of_eq g413.symm)) E427) Q429 (Nat.le_of_eq g413.symm)) E431) Q433 (Nat.le_of_eq g413.symm)) E435) Q437 (Nat.le_of_eq g413.symm)) E439) Q441 (Nat.le_of_eq g413.symm)) E443) Q445 (Nat.le_of_eq g413.symm)) E447) Q451 (Nat.le_trans (Ext.kp1 (Ext.tr (Ext.kp1 (Ext.tr (Ext.kp1 (Ext.tr (Ext.kp1 (Ext.tr (Ext.kp1 (Ext.tr (Ext.kp1 (Ext.tr (Ext.kp1 (Ext.tr (Ext.kp1 (Ext.tr E413 E415) Q417 (Nat.le_of_eq g413.symm)) E419) Q421 (Nat.le_of_eq g413.symm)) E423) Q425 (Nat.le_of_eq g413.symm)) E427) Q429 (Nat.le_of_eq g413.symm)) E431) Q433 (Nat.le_of_eq g413.symm)) E435) Q437 (Nat.le_of_eq g413.symm)) E439) Q441 (Nat.le_of_eq g413.symm)) E443) Q445 (Nat.le_of_eq g413.symm)).1 (Nat.le_of_eq g447.symm))) E453) E455)) (Av.ext (Ext.tr (Ext.tr (Ext.kp1 (Ext.tr (Ext.kp1 (Ext.tr (Ext.kp1 (Ext.tr (Ext.kp1 (Ext.tr (Ext.kp1 (Ext.tr (Ext.kp1 (Ext.tr (Ext.kp1 (Ext.tr (Ext.kp1 (Ext.tr (Ext.kp1 (Ext.tr E413 E415) Q417 (Nat.le_of_eq g413.symm)) E419) Q421 (Nat.le_of_eq g413.symm)) E423) Q425 (Nat.le_of_eq g413.symm)) E427) Q429 (Nat.le_of_eq g413.symm)) E431) Q433 (Nat.le_of_eq g413.symm)) E435) Q437 (Nat.le_of_eq g413.symm)) E439) Q441 (Nat.le_of_eq g413.symm)) E443) Q445 (Nat.le_of_eq g413.symm)) E447) Q451 (Nat.le_trans (Ext.kp1 (Ext.tr (Ext.kp1 (Ext.tr (Ext.kp1 (Ext.tr (Ext.kp1 (Ext.tr (Ext.kp1 (Ext.tr (Ext.kp1 (Ext.tr (Ext.kp1 (Ext.tr (Ext.kp1 (Ext.tr E413 E415) Q417 (Nat.le_of_eq g413.symm)) E419) Q421 (Nat.le_of_eq g413.symm)) E423) Q425 (Nat.le_of_eq g413.symm)) E427) Q429 (Nat.le_of_eq g413.symm)) E431) Q433 (Nat.le_of_eq g413.symm)) E435) Q437 (Nat.le_of_eq g413.symm)) E439) Q441 (Nat.le_of_eq g413.symm)) E443) Q445 (Nat.le_of_eq g413.symm)).1 (Nat.le_of_eq g447.symm))) E453) E455)) (Ev.ext (Ext.tr (Ext.tr (Ext.kp1 (Ext.tr (Ext.kp1 (Ext.tr (Ext.kp1 (Ext.tr (Ext.kp1 (Ext.tr (Ext.kp1 (Ext.tr (Ext.kp1 (Ext.tr (Ext.kp1 (Ext.tr (Ext.kp1 (Ext.tr (Ext.kp1 (Ext.tr E413 E415) Q417 (Nat.le_of_eq g413.symm)) E419) Q421 (Nat.le_of_eq g413.symm)) E423) Q425 (Nat.le_of_eq g413.symm)) E427) Q429 (Nat.le_of_eq g413.symm)) E431) Q433 (Nat.le_of_eq g413.symm)) E435) Q437 (Nat.le_of_eq g413.symm)) E439) Q441 (Nat.le_of_eq g413.symm)) E443) Q445 (Nat.le_of_eq g413.symm)) E447) Q451 (Nat.le_trans (Ext.kp1 (Ext.tr (Ext.kp1 (Ext.tr (Ext.kp1 (Ext.tr (Ext.kp1 (Ext.tr (Ext.kp1 (Ext.tr (Ext.kp1 (Ext.tr (Ext.kp1 (Ext.tr (Ext.kp1 (Ext.tr E413 E415) Q417 (Nat.le_of_eq g413.symm)) E419) Q421 (Nat.le_of_eq g413.symm)) E423) Q425 (Nat.le_of_eq g413.symm)) E427) Q429 (Nat.le_of_eq g413.symm)) E431) Q433 (Nat.le_of_eq g413.symm)) E435) Q437 (Nat.le_of_eq g413.symm)) E439) Q441 (Nat.le_of_eq g413.symm)) E443) Q445 (Nat.le_of_eq g413.symm)).1 (Nat.le_of_eq g447.symm))) E453) E455)) (F0.ext (Ext.tr (Ext.tr (Ext.kp1 (Ext.tr (Ext.kp1 (Ext.tr (Ext.kp1 (Ext.tr (Ext.kp1 (Ext.tr (Ext.kp1 (Ext.tr (Ext.kp1 (Ext.tr (Ext.kp1 (Ext.tr (Ext.kp1 (Ext.tr (Ext.kp1 (Ext.tr E413 E415) Q417 (Nat.le_of_eq g413.symm)) E419) Q421 (Nat.le_of_eq g413.symm)) E423) Q425 (Nat.le_of_eq g413.symm)) E427) Q429 (Nat.le_of_eq g413.symm)) E431) Q433 (Nat.le_of_eq g413.symm)) E435) Q437 (Nat.le_of_eq g413.symm)) E439) Q441 (Nat.le_of_eq g413.symm)) E443) Q445 (Nat.le_of_eq g413.symm)) E447) Q451 (Nat.le_trans (Ext.kp1 (Ext.tr (Ext.kp1 (Ext.tr (Ext.kp1 (Ext.tr (Ext.kp1 (Ext.tr (Ext.kp1 (Ext.tr (Ext.kp1 (Ext.tr (Ext.kp1 (Ext.tr (Ext.kp1 (Ext.tr E413 E415) Q417 (Nat.le_of_eq g413.symm)) E419) Q421 (Nat.le_of_eq g413.symm)) E423) Q425 (Nat.le_of_eq g413.symm)) E427) Q429 (Nat.le_of_eq g413.symm)) E431) Q433 (Nat.le_of_eq g413.symm)) E435) Q437 (Nat.le_of_eq g413.symm)) E439) Q441 (Nat.le_of_eq g413.symm)) E443) Q445 (Nat.le_of_eq g413.symm)).1 (Nat.le_of_eq g447.symm))) E453) E455)) (L0.ext (Ext.tr (Ext.tr (Ext.kp1 (Ext.tr (Ext.kp1 (Ext.tr (Ext.kp1 (Ext.tr (Ext.kp1 (Ext.tr (Ext.kp1 (Ext.tr (Ext.kp1 (Ext.tr (Ext.kp1 (Ext.tr (Ext.kp1 (Ext.tr (Ext.kp1 (Ext.tr E413 E415) Q417 (Nat.le_of_eq g413.symm)) E419) Q421 (Nat.le_of_eq g413.symm)) E423) Q425 (Nat.le_of_eq g413.symm)) E427) Q429 (Nat.le_of_eq g413.symm)) E431) Q433 (Nat.le_of_eq g413.symm)) E435) Q437 (Nat.le_of_eq g413.symm)) E439) Q441 (Nat.le_of_eq g413.symm)) E443) Q445 (Nat.le_of_eq g413.symm)) E447) Q451 (Nat.le_trans (Ext.kp1 (Ext.tr (Ext.kp1 (Ext.tr (Ext.kp1 (Ext.tr (Ext.kp1 (Ext.tr (Ext.kp1 (Ext.tr (Ext.kp1 (Ext.tr (Ext.kp1 (Ext.tr (Ext.kp1 (Ext.tr E413 E415) Q417 (Nat.le_of_eq g413.symm)) E419) Q421 (Nat.le_of_eq g413.symm)) E423) Q425 (Nat.le_of_eq g413.symm)) E427) Q429 (Nat.le_of_eq g413.symm)) E431) Q433 (Nat.le_of_eq g413.symm)) E435) Q437 (Nat.le_of_eq g413.symm)) E439) Q441 (Nat.le_of_eq g413.symm)) E443) Q445 (Nat.le_of_eq g413.symm)).1 (Nat.le_of_eq g447.symm))) E453) E455)) (F1.ext (Ext.tr (Ext.tr (Ext.kp1 (Ext.tr (Ext.kp1 (Ext.tr (Ext.kp1 (Ext.tr (Ext.kp1 (Ext.tr (Ext.kp1 (Ext.tr (Ext.kp1 (Ext.tr (Ext.kp1 (Ext.tr (Ext.kp1 (Ext.tr (Ext.kp1 (Ext.tr E413 E415) Q417 (Nat.le_of_eq g413.symm)) E419) Q421 (Nat.le_of_eq g413.symm)) E423) Q425 (Nat.le_of_eq g413.symm)) E427) Q429 (Nat.le_of_eq g413.symm)) E431) Q433 (Nat.le_of_eq g413.symm)) E435) Q437 (Nat.le_of_eq g413.symm)) E439) Q441 (Nat.le_of_eq g413.symm)) E443) Q445 (Nat.le_of_eq g413.symm)) E447) Q451 (Nat.le_trans (Ext.kp1 (Ext.tr (Ext.kp1 (Ext.tr (Ext.kp1 (Ext.tr (Ext.kp1 (Ext.tr (Ext.kp1 (Ext.tr (Ext.kp1 (Ext.tr (Ext.kp1 (Ext.tr (Ext.kp1 (Ext.tr E413 E415) Q417 (Nat.le_of_eq g413.symm)) E419) Q421 (Nat.le_of_eq g413.symm)) E423) Q425 (Nat.le_of_eq g413.symm)) E427) Q429 (Nat.le_of_eq g413.symm)) E431) Q433 (Nat.le_of_eq g413.symm)) E435) Q437 (Nat.le_of_eq g413.symm)) E439) Q441 (Nat.le_of_eq g413.symm)) E443) Q445 (Nat.le_of_eq g413.symm)).1 (Nat.le_of_eq g447.symm))) E453) E455)) (L1.ext (Ext.tr (Ext.tr (Ext.kp1 (Ext.tr (Ext.kp1 (Ext.tr (Ext.kp1 (Ext.tr (Ext.kp1 (Ext.tr (Ext.kp1 (Ext.tr (Ext.kp1 (Ext.tr (Ext.kp1 (Ext.tr (Ext.kp1 (Ext.tr (Ext.kp1 (Ext.tr E413 E415) Q417 (Nat.le_of_eq g413.symm)) E419) Q421 (Nat.le_of_eq g413.symm)) E423) Q425 (Nat.le_of_eq g413.symm)) E427) Q429 (Nat.le_of_eq g413.symm)) E431) Q433 (Nat.le_of_eq g413.symm)) E435) Q437 (Nat.le_of_eq g413.symm)) E439) Q441 (Nat.le_of_eq g413.symm)) E443) Q445 (Nat.le_of_eq g413.symm)) E447) Q451 (Nat.le_trans (Ext.kp1 (Ext.tr (Ext.kp1 (Ext.tr (Ext.kp1 (Ext.tr (Ext.kp1 (Ext.tr (Ext.kp1 (Ext.tr (Ext.kp1 (Ext.tr (Ext.kp1 (Ext.tr (Ext.kp1 (Ext.tr E413 E415) Q417 (Nat.le_of_eq g413.symm)) E419) Q421 (Nat.le_of_eq g413.symm)) E423) Q425 (Nat.le_of_eq g413.symm)) E427) Q429 (Nat.le_of_eq g413.symm)) E431) Q433 (Nat.le_of_eq g413.symm)) E435) Q437 (Nat.le_of_eq g413.symm)) E439) Q441 (Nat.le_of_eq g413.symm)) E443) Q445 (Nat.le_of_eq g413.symm)).1 (Nat.le_of_eq g447.symm))) E453) E455)) (Sc.ext (Ext.tr (Ext.tr (Ext.kp1 (Ext.tr (Ext.kp1 (Ext.tr (Ext.kp1 (Ext.tr (Ext.kp1 (Ext.tr (Ext.kp1 (Ext.tr (Ext.kp1 (Ext.tr (Ext.kp1 (Ext.tr (Ext.kp1 (Ext.tr (Ext.kp1 (Ext.tr E413 E415) Q417 (Nat.le_of_eq g413.symm)) E419) Q421 (Nat.le_of_eq g413.symm)) E423) Q425 (Nat.le_of_eq g413.symm)) E427) Q429 (Nat.le_of_eq g413.symm)) E431) Q433 (Nat.le_of_eq g413.symm)) E435) Q437 (Nat.le_of_eq g413.symm)) E439) Q441 (Nat.le_of_eq g413.symm)) E443) Q445 (Nat.le_of_eq g413.symm)) E447) Q451 (Nat.le_trans (Ext.kp1 (Ext.tr (Ext.kp1 (Ext.tr (Ext.kp1 (Ext.tr (Ext.kp1 (Ext.tr (Ext.kp1 (Ext.tr (Ext.kp1 (Ext.tr (Ext.kp1 (Ext.tr (Ext.kp1 (Ext.tr E413 E415) Q417 (Nat.le_of_eq g413.symm)) E419) Q421 (Nat.le_of_eq g413.symm)) E423) Q425 (Nat.le_of_eq g413.symm)) E427) Q429 (Nat.le_of_eq g413.symm)) E431) Q433 (Nat.le_of_eq g413.symm)) E435) Q437 (Nat.le_of_eq g413.symm)) E439) Q441 (Nat.le_of_eq g413.symm)) E443) Q445 (Nat.le_of_eq g413.symm)).1 (Nat.le_of_eq g447.symm))) E453) E455)) hz (St451.ext (Ext.tr E453 E455))) (hw _ (List.mem_of_getElem? (i := 39) rfl)) (hw _ (List.mem_of_getElem? (i := 38) rfl)) (by decide) (by decide)) (fun _ q => nomatch q) pd5 rfl rfl (Nat.le_of_eq rfl) rfl (by decide) (by decide) (by decide) (fun v458 T458 h458 K458 Q458 q458 => ?_)
          have E458 := Ext.of0 Q458
          have P459 := P456.ext E458
          cases q458
          rw [if_pos hc0]
          refine gAload K458 L_402 (v := (.ref v0)) rfl rfl ?_
          refine gAcmp_ne K458 L_404 rfl rfl (fun q => absurd q (by first | decide | (intro hh; cases hh) | simp)) (fun q404 => ?_)
          refine gIconst K458 (1 : Int32) L_407 rfl ?_
          refine gGoto K458 L_408 ?_
          refine gRetI K458 hlk hret (by simp) L_412 rfl P459 (by decide) (by decide) ?_
          exact rfl
        · skip
          refine gIf_eq K455 L_371 (fun q371 => ?_) (fun q => absurd q (by first | decide | (intro hh; cases hh) | simp))
          refine gAload K455 L_382 (v := (.ref x447)) rfl rfl ?_
          refine gLdc K455 L_384 (hw _ (List.mem_of_getElem? (i := 35) rfl)) (hsA hw) (by decide) (vs := ([(108 : Int32), (111 : Int32), (110 : Int32), (100 : Int32), (111 : Int32), (110 : Int32)].map StrChars.lo8).map Value.int) (z := Int32.ofNat 6) (by decide +kernel) (by decide) (by decide) 24 (by decide) (by decide) (by decide) (by decide) (fun T460 h460 a460 b460 kA460 K460 E460 Ea460 Fc460 Fv460 Ab460 ne460 => ?_)
          have P461 := P456.ext E460
          have Sl460 : StrL Z h460 a460 [(108 : Int32), (111 : Int32), (110 : Int32), (100 : Int32), (111 : Int32), (110 : Int32)] := ⟨b460, kA460, Ea460, Fc460, Fv460, Ab460, by decide, by decide⟩
          refine gCallV K460 (W := 0) (C := "java/lang/String") x447 [(.ref a460)] [] L_386 (hw _ (List.mem_of_getElem? (i := 24) rfl)) (hw _ (List.mem_of_getElem? (i := 25) rfl)) (hw _ (List.mem_of_getElem? (i := 27) rfl)) (hw _ (List.mem_of_getElem? (i := 26) rfl)) (cal_eq hw (W := 0) (St451.ext (Ext.tr (Ext.tr E453 E455) E460)) Sl460 (Sc.ext (Ext.tr (Ext.tr (Ext.tr (Ext.kp1 (Ext.tr (Ext.kp1 (Ext.tr (Ext.kp1 (Ext.tr (Ext.kp1 (Ext.tr (Ext.kp1 (Ext.tr (Ext.kp1 (Ext.tr (Ext.kp1 (Ext.tr (Ext.kp1 (Ext.tr (Ext.kp1 (Ext.tr E413 E415) Q417 (Nat.le_of_eq g413.symm)) E419) Q421 (Nat.le_of_eq g413.symm)) E423) Q425 (Nat.le_of_eq g413.symm)) E427) Q429 (Nat.le_of_eq g413.symm)) E431) Q433 (Nat.le_of_eq g413.symm)) E435) Q437 (Nat.le_of_eq g413.symm)) E439) Q441 (Nat.le_of_eq g413.symm)) E443) Q445 (Nat.le_of_eq g413.symm)) E447) Q451 (Nat.le_trans (Ext.kp1 (Ext.tr (Ext.kp1 (Ext.tr (Ext.kp1 (Ext.tr (Ext.kp1 (Ext.tr (Ext.kp1 (Ext.tr (Ext.kp1 (Ext.tr (Ext.kp1 (Ext.tr (Ext.kp1 (Ext.tr E413 E415) Q417 (Nat.le_of_eq g413.symm)) E419) Q421 (Nat.le_of_eq g413.symm)) E423) Q425 (Nat.le_of_eq g413.symm)) E427) Q429 (Nat.le_of_eq g413.symm)) E431) Q433 (Nat.le_of_eq g413.symm)) E435) Q437 (Nat.le_of_eq g413.symm)) E439) Q441 (Nat.le_of_eq g413.symm)) E443) Q445 (Nat.le_of_eq g413.symm)).1 (Nat.le_of_eq g447.symm))) E453) E455) E460)) hz (by decide) (by decide)) ((St451.ext (Ext.tr (Ext.tr E453 E455) E460))).exa (fun _ q => nomatch q) pd1 rfl rfl (Nat.le_of_eq rfl) rfl (by decide) (by decide) (by decide) (fun v462 T462 h462 K462 Q462 q462 => ?_)
          have E462 := Ext.of0 Q462
          have P463 := P461.ext E462
          rcases q462 with ⟨rfl, hc1⟩ | ⟨rfl, hc1⟩
          · skip
            refine gIf_eq K462 L_389 (fun q => absurd q (by first | decide | (intro hh; cases hh) | simp)) (fun q389 => ?_)
            refine gGetS K462 L_392 (hw _ (List.mem_of_getElem? (i := 94) rfl)) (S1.ext (Ext.tr (Ext.tr (Ext.tr (Ext.tr (Ext.kp1 (Ext.tr (Ext.kp1 (Ext.tr (Ext.kp1 (Ext.tr (Ext.kp1 (Ext.tr (Ext.kp1 (Ext.tr (Ext.kp1 (Ext.tr (Ext.kp1 (Ext.tr (Ext.kp1 (Ext.tr (Ext.kp1 (Ext.tr E413 E415) Q417 (Nat.le_of_eq g413.symm)) E419) Q421 (Nat.le_of_eq g413.symm)) E423) Q425 (Nat.le_of_eq g413.symm)) E427) Q429 (Nat.le_of_eq g413.symm)) E431) Q433 (Nat.le_of_eq g413.symm)) E435) Q437 (Nat.le_of_eq g413.symm)) E439) Q441 (Nat.le_of_eq g413.symm)) E443) Q445 (Nat.le_of_eq g413.symm)) E447) Q451 (Nat.le_trans (Ext.kp1 (Ext.tr (Ext.kp1 (Ext.tr (Ext.kp1 (Ext.tr (Ext.kp1 (Ext.tr (Ext.kp1 (Ext.tr (Ext.kp1 (Ext.tr (Ext.kp1 (Ext.tr (Ext.kp1 (Ext.tr E413 E415) Q417 (Nat.le_of_eq g413.symm)) E419) Q421 (Nat.le_of_eq g413.symm)) E423) Q425 (Nat.le_of_eq g413.symm)) E427) Q429 (Nat.le_of_eq g413.symm)) E431) Q433 (Nat.le_of_eq g413.symm)) E435) Q437 (Nat.le_of_eq g413.symm)) E439) Q441 (Nat.le_of_eq g413.symm)) E443) Q445 (Nat.le_of_eq g413.symm)).1 (Nat.le_of_eq g447.symm))) E453) E455) E460) E462)) (fun T464 K464 => ?_)
            refine gAstore K464 L_395 rfl (Ls' := #[.val (.int pick), .val (.int shape), .val (.int pos), .val (.int chh), .val (.int ext), .val (.int wh), .val (.int (8 : Int32)), .val (.int (shape &&& (3 : Int32))), .val (.int (8 : Int32)), .val (.int sb), .val (.int pp), .val (.int c_), .val (.int e_), .val (.ref x413), .val (.ref x447), .val (.ref v1)]) rfl ?_
            refine gAload K464 L_397 (v := (.ref x447)) rfl rfl ?_
            refine gCallS K464 (W := 0) [(.ref x447)] [] L_399 (hw _ (List.mem_of_getElem? (i := 36) rfl)) (hw _ (List.mem_of_getElem? (i := 37) rfl)) (hw _ (List.mem_of_getElem? (i := 38) rfl)) (hw _ (List.mem_of_getElem? (i := 39) rfl)) (Cal.ofN (W := 0) (c_look l Z a0 hw h462 n0 K464.n0le x447 cs va kV dv v0 l0 v1 l1 z (Sv.ext (Ext.tr (Ext.tr (Ext.tr (Ext.tr (Ext.kp1 (Ext.tr (Ext.kp1 (Ext.tr (Ext.kp1 (Ext.tr (Ext.kp1 (Ext.tr (Ext.kp1 (Ext.tr (Ext.kp1 (Ext.tr (Ext.kp1 (Ext.tr (Ext.kp1 (Ext.tr (Ext.kp1 (Ext.tr E413 E415) Q417 (Nat.le_of_eq g413.symm)) E419) Q421 (Nat.le_of_eq g413.symm)) E423) Q425 (Nat.le_of_eq g413.symm)) E427) Q429 (Nat.le_of_eq g413.symm)) E431) Q433 (Nat.le_of_eq g413.symm)) E435) Q437 (Nat.le_of_eq g413.symm)) E439) Q441 (Nat.le_of_eq g413.symm)) E443) Q445 (Nat.le_of_eq g413.symm)) E447) Q451 (Nat.le_trans (Ext.kp1 (Ext.tr (Ext.kp1 (Ext.tr (Ext.kp1 (Ext.tr (Ext.kp1 (Ext.tr (Ext.kp1 (Ext.tr (Ext.kp1 (Ext.tr (Ext.kp1 (Ext.tr (Ext.kp1 (Ext.tr E413 E415) Q417 (Nat.le_of_eq g413.symm)) E419) Q421 (Nat.le_of_eq g413.symm)) E423) Q425 (Nat.le_of_eq g413.symm)) E427) Q429 (Nat.le_of_eq g413.symm)) E431) Q433 (Nat.le_of_eq g413.symm)) E435) Q437 (Nat.le_of_eq g413.symm)) E439) Q441 (Nat.le_of_eq g413.symm)) E443) Q445 (Nat.le_of_eq g413.symm)).1 (Nat.le_of_eq g447.symm))) E453) E455) E460) E462)) (Av.ext (Ext.tr (Ext.tr (Ext.tr (Ext.tr (Ext.kp1 (Ext.tr (Ext.kp1 (Ext.tr (Ext.kp1 (Ext.tr (Ext.kp1 (Ext.tr (Ext.kp1 (Ext.tr (Ext.kp1 (Ext.tr (Ext.kp1 (Ext.tr (Ext.kp1 (Ext.tr (Ext.kp1 (Ext.tr E413 E415) Q417 (Nat.le_of_eq g413.symm)) E419) Q421 (Nat.le_of_eq g413.symm)) E423) Q425 (Nat.le_of_eq g413.symm)) E427) Q429 (Nat.le_of_eq g413.symm)) E431) Q433 (Nat.le_of_eq g413.symm)) E435) Q437 (Nat.le_of_eq g413.symm)) E439) Q441 (Nat.le_of_eq g413.symm)) E443) Q445 (Nat.le_of_eq g413.symm)) E447) Q451 (Nat.le_trans (Ext.kp1 (Ext.tr (Ext.kp1 (Ext.tr (Ext.kp1 (Ext.tr (Ext.kp1 (Ext.tr (Ext.kp1 (Ext.tr (Ext.kp1 (Ext.tr (Ext.kp1 (Ext.tr (Ext.kp1 (Ext.tr E413 E415) Q417 (Nat.le_of_eq g413.symm)) E419) Q421 (Nat.le_of_eq g413.symm)) E423) Q425 (Nat.le_of_eq g413.symm)) E427) Q429 (Nat.le_of_eq g413.symm)) E431) Q433 (Nat.le_of_eq g413.symm)) E435) Q437 (Nat.le_of_eq g413.symm)) E439) Q441 (Nat.le_of_eq g413.symm)) E443) Q445 (Nat.le_of_eq g413.symm)).1 (Nat.le_of_eq g447.symm))) E453) E455) E460) E462)) (Ev.ext (Ext.tr (Ext.tr (Ext.tr (Ext.tr (Ext.kp1 (Ext.tr (Ext.kp1 (Ext.tr (Ext.kp1 (Ext.tr (Ext.kp1 (Ext.tr (Ext.kp1 (Ext.tr (Ext.kp1 (Ext.tr (Ext.kp1 (Ext.tr (Ext.kp1 (Ext.tr (Ext.kp1 (Ext.tr E413 E415) Q417 (Nat.le_of_eq g413.symm)) E419) Q421 (Nat.le_of_eq g413.symm)) E423) Q425 (Nat.le_of_eq g413.symm)) E427) Q429 (Nat.le_of_eq g413.symm)) E431) Q433 (Nat.le_of_eq g413.symm)) E435) Q437 (Nat.le_of_eq g413.symm)) E439) Q441 (Nat.le_of_eq g413.symm)) E443) Q445 (Nat.le_of_eq g413.symm)) E447) Q451 (Nat.le_trans (Ext.kp1 (Ext.tr (Ext.kp1 (Ext.tr (Ext.kp1 (Ext.tr (Ext.kp1 (Ext.tr (Ext.kp1 (Ext.tr (Ext.kp1 (Ext.tr (Ext.kp1 (Ext.tr (Ext.kp1 (Ext.tr E413 E415) Q417 (Nat.le_of_eq g413.symm)) E419) Q421 (Nat.le_of_eq g413.symm)) E423) Q425 (Nat.le_of_eq g413.symm)) E427) Q429 (Nat.le_of_eq g413.symm)) E431) Q433 (Nat.le_of_eq g413.symm)) E435) Q437 (Nat.le_of_eq g413.symm)) E439) Q441 (Nat.le_of_eq g413.symm)) E443) Q445 (Nat.le_of_eq g413.symm)).1 (Nat.le_of_eq g447.symm))) E453) E455) E460) E462)) (F0.ext (Ext.tr (Ext.tr (Ext.tr (Ext.tr (Ext.kp1 (Ext.tr (Ext.kp1 (Ext.tr (Ext.kp1 (Ext.tr (Ext.kp1 (Ext.tr (Ext.kp1 (Ext.tr (Ext.kp1 (Ext.tr (Ext.kp1 (Ext.tr (Ext.kp1 (Ext.tr (Ext.kp1 (Ext.tr E413 E415) Q417 (Nat.le_of_eq g413.symm)) E419) Q421 (Nat.le_of_eq g413.symm)) E423) Q425 (Nat.le_of_eq g413.symm)) E427) Q429 (Nat.le_of_eq g413.symm)) E431) Q433 (Nat.le_of_eq g413.symm)) E435) Q437 (Nat.le_of_eq g413.symm)) E439) Q441 (Nat.le_of_eq g413.symm)) E443) Q445 (Nat.le_of_eq g413.symm)) E447) Q451 (Nat.le_trans (Ext.kp1 (Ext.tr (Ext.kp1 (Ext.tr (Ext.kp1 (Ext.tr (Ext.kp1 (Ext.tr (Ext.kp1 (Ext.tr (Ext.kp1 (Ext.tr (Ext.kp1 (Ext.tr (Ext.kp1 (Ext.tr E413 E415) Q417 (Nat.le_of_eq g413.symm)) E419) Q421 (Nat.le_of_eq g413.symm)) E423) Q425 (Nat.le_of_eq g413.symm)) E427) Q429 (Nat.le_of_eq g413.symm)) E431) Q433 (Nat.le_of_eq g413.symm)) E435) Q437 (Nat.le_of_eq g413.symm)) E439) Q441 (Nat.le_of_eq g413.symm)) E443) Q445 (Nat.le_of_eq g413.symm)).1 (Nat.le_of_eq g447.symm))) E453) E455) E460) E462)) (L0.ext (Ext.tr (Ext.tr (Ext.tr (Ext.tr (Ext.kp1 (Ext.tr (Ext.kp1 (Ext.tr (Ext.kp1 (Ext.tr (Ext.kp1 (Ext.tr (Ext.kp1 (Ext.tr (Ext.kp1 (Ext.tr (Ext.kp1 (Ext.tr (Ext.kp1 (Ext.tr (Ext.kp1 (Ext.tr E413 E415) Q417 (Nat.le_of_eq g413.symm)) E419) Q421 (Nat.le_of_eq g413.symm)) E423) Q425 (Nat.le_of_eq g413.symm)) E427) Q429 (Nat.le_of_eq g413.symm)) E431) Q433 (Nat.le_of_eq g413.symm)) E435) Q437 (Nat.le_of_eq g413.symm)) E439) Q441 (Nat.le_of_eq g413.symm)) E443) Q445 (Nat.le_of_eq g413.symm)) E447) Q451 (Nat.le_trans (Ext.kp1 (Ext.tr (Ext.kp1 (Ext.tr (Ext.kp1 (Ext.tr (Ext.kp1 (Ext.tr (Ext.kp1 (Ext.tr (Ext.kp1 (Ext.tr (Ext.kp1 (Ext.tr (Ext.kp1 (Ext.tr E413 E415) Q417 (Nat.le_of_eq g413.symm)) E419) Q421 (Nat.le_of_eq g413.symm)) E423) Q425 (Nat.le_of_eq g413.symm)) E427) Q429 (Nat.le_of_eq g413.symm)) E431) Q433 (Nat.le_of_eq g413.symm)) E435) Q437 (Nat.le_of_eq g413.symm)) E439) Q441 (Nat.le_of_eq g413.symm)) E443) Q445 (Nat.le_of_eq g413.symm)).1 (Nat.le_of_eq g447.symm))) E453) E455) E460) E462)) (F1.ext (Ext.tr (Ext.tr (Ext.tr (Ext.tr (Ext.kp1 (Ext.tr (Ext.kp1 (Ext.tr (Ext.kp1 (Ext.tr (Ext.kp1 (Ext.tr (Ext.kp1 (Ext.tr (Ext.kp1 (Ext.tr (Ext.kp1 (Ext.tr (Ext.kp1 (Ext.tr (Ext.kp1 (Ext.tr E413 E415) Q417 (Nat.le_of_eq g413.symm)) E419) Q421 (Nat.le_of_eq g413.symm)) E423) Q425 (Nat.le_of_eq g413.symm)) E427) Q429 (Nat.le_of_eq g413.symm)) E431) Q433 (Nat.le_of_eq g413.symm)) E435) Q437 (Nat.le_of_eq g413.symm)) E439) Q441 (Nat.le_of_eq g413.symm)) E443) Q445 (Nat.le_of_eq g413.symm)) E447) Q451 (Nat.le_trans (Ext.kp1 (Ext.tr (Ext.kp1 (Ext.tr (Ext.kp1 (Ext.tr (Ext.kp1 (Ext.tr (Ext.kp1 (Ext.tr (Ext.kp1 (Ext.tr (Ext.kp1 (Ext.tr (Ext.kp1 (Ext.tr E413 E415) Q417 (Nat.le_of_eq g413.symm)) E419) Q421 (Nat.le_of_eq g413.symm)) E423) Q425 (Nat.le_of_eq g413.symm)) E427) Q429 (Nat.le_of_eq g413.symm)) E431) Q433 (Nat.le_of_eq g413.symm)) E435) Q437 (Nat.le_of_eq g413.symm)) E439) Q441 (Nat.le_of_eq g413.symm)) E443) Q445 (Nat.le_of_eq g413.symm)).1 (Nat.le_of_eq g447.symm))) E453) E455) E460) E462)) (L1.ext (Ext.tr (Ext.tr (Ext.tr (Ext.tr (Ext.kp1 (Ext.tr (Ext.kp1 (Ext.tr (Ext.kp1 (Ext.tr (Ext.kp1 (Ext.tr (Ext.kp1 (Ext.tr (Ext.kp1 (Ext.tr (Ext.kp1 (Ext.tr (Ext.kp1 (Ext.tr (Ext.kp1 (Ext.tr E413 E415) Q417 (Nat.le_of_eq g413.symm)) E419) Q421 (Nat.le_of_eq g413.symm)) E423) Q425 (Nat.le_of_eq g413.symm)) E427) Q429 (Nat.le_of_eq g413.symm)) E431) Q433 (Nat.le_of_eq g413.symm)) E435) Q437 (Nat.le_of_eq g413.symm)) E439) Q441 (Nat.le_of_eq g413.symm)) E443) Q445 (Nat.le_of_eq g413.symm)) E447) Q451 (Nat.le_trans (Ext.kp1 (Ext.tr (Ext.kp1 (Ext.tr (Ext.kp1 (Ext.tr (Ext.kp1 (Ext.tr (Ext.kp1 (Ext.tr (Ext.kp1 (Ext.tr (Ext.kp1 (Ext.tr (Ext.kp1 (Ext.tr E413 E415) Q417 (Nat.le_of_eq g413.symm)) E419) Q421 (Nat.le_of_eq g413.symm)) E423) Q425 (Nat.le_of_eq g413.symm)) E427) Q429 (Nat.le_of_eq g413.symm)) E431) Q433 (Nat.le_of_eq g413.symm)) E435) Q437 (Nat.le_of_eq g413.symm)) E439) Q441 (Nat.le_of_eq g413.symm)) E443) Q445 (Nat.le_of_eq g413.symm)).1 (Nat.le_of_eq g447.symm))) E453) E455) E460) E462)) (Sc.ext (Ext.tr (Ext.tr (Ext.tr (Ext.tr (Ext.kp1 (Ext.tr (Ext.kp1 (Ext.tr (Ext.kp1 (Ext.tr (Ext.kp1 (Ext.tr (Ext.kp1 (Ext.tr (Ext.kp1 (Ext.tr (Ext.kp1 (Ext.tr (Ext.kp1 (Ext.tr (Ext.kp1 (Ext.tr E413 E415) Q417 (Nat.le_of_eq g413.symm)) E419) Q421 (Nat.le_of_eq g413.symm)) E423) Q425 (Nat.le_of_eq g413.symm)) E427) Q429 (Nat.le_of_eq g413.symm)) E431) Q433 (Nat.le_of_eq g413.symm)) E435) Q437 (Nat.le_of_eq g413.symm)) E439) Q441 (Nat.le_of_eq g413.symm)) E443) Q445 (Nat.le_of_eq g413.symm)) E447) Q451 (Nat.le_trans (Ext.kp1 (Ext.tr (Ext.kp1 (Ext.tr (Ext.kp1 (Ext.tr (Ext.kp1 (Ext.tr (Ext.kp1 (Ext.tr (Ext.kp1 (Ext.tr (Ext.kp1 (Ext.tr (Ext.kp1 (Ext.tr E413 E415) Q417 (Nat.le_of_eq g413.symm)) E419) Q421 (Nat.le_of_eq g413.symm)) E423) Q425 (Nat.le_of_eq g413.symm)) E427) Q429 (Nat.le_of_eq g413.symm)) E431) Q433 (Nat.le_of_eq g413.symm)) E435) Q437 (Nat.le_of_eq g413.symm)) E439) Q441 (Nat.le_of_eq g413.symm)) E443) Q445 (Nat.le_of_eq g413.symm)).1 (Nat.le_of_eq g447.symm))) E453) E455) E460) E462)) hz (St451.ext (Ext.tr (Ext.tr (Ext.tr E453 E455) E460) E462))) (hw _ (List.mem_of_getElem? (i := 39) rfl)) (hw _ (List.mem_of_getElem? (i := 38) rfl)) (by decide) (by decide)) (fun _ q => nomatch q) pd5 rfl rfl (Nat.le_of_eq rfl) rfl (by decide) (by decide) (by decide) (fun v465 T465 h465 K465 Q465 q465 => ?_)
            have E465 := Ext.of0 Q465
            have P466 := P463.ext E465
            cases q465
            rw [if_neg hc0, if_pos hc1]
            refine gAload K465 L_402 (v := (.ref v1)) rfl rfl ?_
            refine gAcmp_ne K465 L_404 rfl rfl (fun q => absurd q (by first | decide | (intro hh; cases hh) | simp)) (fun q404 => ?_)
            refine gIconst K465 (1 : Int32) L_407 rfl ?_
            refine gGoto K465 L_408 ?_
            refine gRetI K465 hlk hret (by simp) L_412 rfl P466 (by decide) (by decide) ?_
            exact rfl
          · skip
            refine gIf_eq K462 L_389 (fun q389 => ?_) (fun q => absurd q (by first | decide | (intro hh; cases hh) | simp))
            refine gAload K462 L_397 (v := (.ref x447)) rfl rfl ?_
            refine gCallS K462 (W := 0) [(.ref x447)] [] L_399 (hw _ (List.mem_of_getElem? (i := 36) rfl)) (hw _ (List.mem_of_getElem? (i := 37) rfl)) (hw _ (List.mem_of_getElem? (i := 38) rfl)) (hw _ (List.mem_of_getElem? (i := 39) rfl)) (Cal.ofN (W := 0) (c_look l Z a0 hw h462 n0 K462.n0le x447 cs va kV dv v0 l0 v1 l1 z (Sv.ext (Ext.tr (Ext.tr (Ext.tr (Ext.tr (Ext.kp1 (Ext.tr (Ext.kp1 (Ext.tr (Ext.kp1 (Ext.tr (Ext.kp1 (Ext.tr (Ext.kp1 (Ext.tr (Ext.kp1 (Ext.tr (Ext.kp1 (Ext.tr (Ext.kp1 (Ext.tr (Ext.kp1 (Ext.tr E413 E415) Q417 (Nat.le_of_eq g413.symm)) E419) Q421 (Nat.le_of_eq g413.symm)) E423) Q425 (Nat.le_of_eq g413.symm)) E427) Q429 (Nat.le_of_eq g413.symm)) E431) Q433 (Nat.le_of_eq g413.symm)) E435) Q437 (Nat.le_of_eq g413.symm)) E439) Q441 (Nat.le_of_eq g413.symm)) E443) Q445 (Nat.le_of_eq g413.symm)) E447) Q451 (Nat.le_trans (Ext.kp1 (Ext.tr (Ext.kp1 (Ext.tr (Ext.kp1 (Ext.tr (Ext.kp1 (Ext.tr (Ext.kp1 (Ext.tr (Ext.kp1 (Ext.tr (Ext.kp1 (Ext.tr (Ext.kp1 (Ext.tr E413 E415) Q417 (Nat.le_of_eq g413.symm)) E419) Q421 (Nat.le_of_eq g413.symm)) E423) Q425 (Nat.le_of_eq g413.symm)) E427) Q429 (Nat.le_of_eq g413.symm)) E431) Q433 (Nat.le_of_eq g413.symm)) E435) Q437 (Nat.le_of_eq g413.symm)) E439) Q441 (Nat.le_of_eq g413.symm)) E443) Q445 (Nat.le_of_eq g413.symm)).1 (Nat.le_of_eq g447.symm))) E453) E455) E460) E462)) (Av.ext (Ext.tr (Ext.tr (Ext.tr (Ext.tr (Ext.kp1 (Ext.tr (Ext.kp1 (Ext.tr (Ext.kp1 (Ext.tr (Ext.kp1 (Ext.tr (Ext.kp1 (Ext.tr (Ext.kp1 (Ext.tr (Ext.kp1 (Ext.tr (Ext.kp1 (Ext.tr (Ext.kp1 (Ext.tr E413 E415) Q417 (Nat.le_of_eq g413.symm)) E419) Q421 (Nat.le_of_eq g413.symm)) E423) Q425 (Nat.le_of_eq g413.symm)) E427) Q429 (Nat.le_of_eq g413.symm)) E431) Q433 (Nat.le_of_eq g413.symm)) E435) Q437 (Nat.le_of_eq g413.symm)) E439) Q441 (Nat.le_of_eq g413.symm)) E443) Q445 (Nat.le_of_eq g413.symm)) E447) Q451 (Nat.le_trans (Ext.kp1 (Ext.tr (Ext.kp1 (Ext.tr (Ext.kp1 (Ext.tr (Ext.kp1 (Ext.tr (Ext.kp1 (Ext.tr (Ext.kp1 (Ext.tr (Ext.kp1 (Ext.tr (Ext.kp1 (Ext.tr E413 E415) Q417 (Nat.le_of_eq g413.symm)) E419) Q421 (Nat.le_of_eq g413.symm)) E423) Q425 (Nat.le_of_eq g413.symm)) E427) Q429 (Nat.le_of_eq g413.symm)) E431) Q433 (Nat.le_of_eq g413.symm)) E435) Q437 (Nat.le_of_eq g413.symm)) E439) Q441 (Nat.le_of_eq g413.symm)) E443) Q445 (Nat.le_of_eq g413.symm)).1 (Nat.le_of_eq g447.symm))) E453) E455) E460) E462)) (Ev.ext (Ext.tr (Ext.tr (Ext.tr (Ext.tr (Ext.kp1 (Ext.tr (Ext.kp1 (Ext.tr (Ext.kp1 (Ext.tr (Ext.kp1 (Ext.tr (Ext.kp1 (Ext.tr (Ext.kp1 (Ext.tr (Ext.kp1 (Ext.tr (Ext.kp1 (Ext.tr (Ext.kp1 (Ext.tr E413 E415) Q417 (Nat.le_of_eq g413.symm)) E419) Q421 (Nat.le_of_eq g413.symm)) E423) Q425 (Nat.le_of_eq g413.symm)) E427) Q429 (Nat.le_of_eq g413.symm)) E431) Q433 (Nat.le_of_eq g413.symm)) E435) Q437 (Nat.le_of_eq g413.symm)) E439) Q441 (Nat.le_of_eq g413.symm)) E443) Q445 (Nat.le_of_eq g413.symm)) E447) Q451 (Nat.le_trans (Ext.kp1 (Ext.tr (Ext.kp1 (Ext.tr (Ext.kp1 (Ext.tr (Ext.kp1 (Ext.tr (Ext.kp1 (Ext.tr (Ext.kp1 (Ext.tr (Ext.kp1 (Ext.tr (Ext.kp1 (Ext.tr E413 E415) Q417 (Nat.le_of_eq g413.symm)) E419) Q421 (Nat.le_of_eq g413.symm)) E423) Q425 (Nat.le_of_eq g413.symm)) E427) Q429 (Nat.le_of_eq g413.symm)) E431) Q433 (Nat.le_of_eq g413.symm)) E435) Q437 (Nat.le_of_eq g413.symm)) E439) Q441 (Nat.le_of_eq g413.symm)) E443) Q445 (Nat.le_of_eq g413.symm)).1 (Nat.le_of_eq g447.symm))) E453) E455) E460) E462)) (F0.ext (Ext.tr (Ext.tr (Ext.tr (Ext.tr (Ext.kp1 (Ext.tr (Ext.kp1 (Ext.tr (Ext.kp1 (Ext.tr (Ext.kp1 (Ext.tr (Ext.kp1 (Ext.tr (Ext.kp1 (Ext.tr (Ext.kp1 (Ext.tr (Ext.kp1 (Ext.tr (Ext.kp1 (Ext.tr E413 E415) Q417 (Nat.le_of_eq g413.symm)) E419) Q421 (Nat.le_of_eq g413.symm)) E423) Q425 (Nat.le_of_eq g413.symm)) E427) Q429 (Nat.le_of_eq g413.symm)) E431) Q433 (Nat.le_of_eq g413.symm)) E435) Q437 (Nat.le_of_eq g413.symm)) E439) Q441 (Nat.le_of_eq g413.symm)) E443) Q445 (Nat.le_of_eq g413.symm)) E447) Q451 (Nat.le_trans (Ext.kp1 (Ext.tr (Ext.kp1 (Ext.tr (Ext.kp1 (Ext.tr (Ext.kp1 (Ext.tr (Ext.kp1 (Ext.tr (Ext.kp1 (Ext.tr (Ext.kp1 (Ext.tr (Ext.kp1 (Ext.tr E413 E415) Q417 (Nat.le_of_eq g413.symm)) E419) Q421 (Nat.le_of_eq g413.symm)) E423) Q425 (Nat.le_of_eq g413.symm)) E427) Q429 (Nat.le_of_eq g413.symm)) E431) Q433 (Nat.le_of_eq g413.symm)) E435) Q437 (Nat.le_of_eq g413.symm)) E439) Q441 (Nat.le_of_eq g413.symm)) E443) Q445 (Nat.le_of_eq g413.symm)).1 (Nat.le_of_eq g447.symm))) E453) E455) E460) E462)) (L0.ext (Ext.tr (Ext.tr (Ext.tr (Ext.tr (Ext.kp1 (Ext.tr (Ext.kp1 (Ext.tr (Ext.kp1 (Ext.tr (Ext.kp1 (Ext.tr (Ext.kp1 (Ext.tr (Ext.kp1 (Ext.tr (Ext.kp1 (Ext.tr (Ext.kp1 (Ext.tr (Ext.kp1 (Ext.tr E413 E415) Q417 (Nat.le_of_eq g413.symm)) E419) Q421 (Nat.le_of_eq g413.symm)) E423) Q425 (Nat.le_of_eq g413.symm)) E427) Q429 (Nat.le_of_eq g413.symm)) E431) Q433 (Nat.le_of_eq g413.symm)) E435) Q437 (Nat.le_of_eq g413.symm)) E439) Q441 (Nat.le_of_eq g413.symm)) E443) Q445 (Nat.le_of_eq g413.symm)) E447) Q451 (Nat.le_trans (Ext.kp1 (Ext.tr (Ext.kp1 (Ext.tr (Ext.kp1 (Ext.tr (Ext.kp1 (Ext.tr (Ext.kp1 (Ext.tr (Ext.kp1 (Ext.tr (Ext.kp1 (Ext.tr (Ext.kp1 (Ext.tr E413 E415) Q417 (Nat.le_of_eq g413.symm)) E419) Q421 (Nat.le_of_eq g413.symm)) E423) Q425 (Nat.le_of_eq g413.symm)) E427) Q429 (Nat.le_of_eq g413.symm)) E431) Q433 (Nat.le_of_eq g413.symm)) E435) Q437 (Nat.le_of_eq g413.symm)) E439) Q441 (Nat.le_of_eq g413.symm)) E443) Q445 (Nat.le_of_eq g413.symm)).1 (Nat.le_of_eq g447.symm))) E453) E455) E460) E462)) (F1.ext (Ext.tr (Ext.tr (Ext.tr (Ext.tr (Ext.kp1 (Ext.tr (Ext.kp1 (Ext.tr (Ext.kp1 (Ext.tr (Ext.kp1 (Ext.tr (Ext.kp1 (Ext.tr (Ext.kp1 (Ext.tr (Ext.kp1 (Ext.tr (Ext.kp1 (Ext.tr (Ext.kp1 (Ext.tr E413 E415) Q417 (Nat.le_of_eq g413.symm)) E419) Q421 (Nat.le_of_eq g413.symm)) E423) Q425 (Nat.le_of_eq g413.symm)) E427) Q429 (Nat.le_of_eq g413.symm)) E431) Q433 (Nat.le_of_eq g413.symm)) E435) Q437 (Nat.le_of_eq g413.symm)) E439) Q441 (Nat.le_of_eq g413.symm)) E443) Q445 (Nat.le_of_eq g413.symm)) E447) Q451 (Nat.le_trans (Ext.kp1 (Ext.tr (Ext.kp1 (Ext.tr (Ext.kp1 (Ext.tr (Ext.kp1 (Ext.tr (Ext.kp1 (Ext.tr (Ext.kp1 (Ext.tr (Ext.kp1 (Ext.tr (Ext.kp1 (Ext.tr E413 E415) Q417 (Nat.le_of_eq g413.symm)) E419) Q421 (Nat.le_of_eq g413.symm)) E423) Q425 (Nat.le_of_eq g413.symm)) E427) Q429 (Nat.le_of_eq g413.symm)) E431) Q433 (Nat.le_of_eq g413.symm)) E435) Q437 (Nat.le_of_eq g413.symm)) E439) Q441 (Nat.le_of_eq g413.symm)) E443) Q445 (Nat.le_of_eq g413.symm)).1 (Nat.le_of_eq g447.symm))) E453) E455) E460) E462)) (L1.ext (Ext.tr (Ext.tr (Ext.tr (Ext.tr (Ext.kp1 (Ext.tr (Ext.kp1 (Ext.tr (Ext.kp1 (Ext.tr (Ext.kp1 (Ext.tr (Ext.kp1 (Ext.tr (Ext.kp1 (Ext.tr (Ext.kp1 (Ext.tr (Ext.kp1 (Ext.tr (Ext.kp1 (Ext.tr E413 E415) Q417 (Nat.le_of_eq g413.symm)) E419) Q421 (Nat.le_of_eq g413.symm)) E423) Q425 (Nat.le_of_eq g413.symm)) E427) Q429 (Nat.le_of_eq g413.symm)) E431) Q433 (Nat.le_of_eq g413.symm)) E435) Q437 (Nat.le_of_eq g413.symm)) E439) Q441 (Nat.le_of_eq g413.symm)) E443) Q445 (Nat.le_of_eq g413.symm)) E447) Q451 (Nat.le_trans (Ext.kp1 (Ext.tr (Ext.kp1 (Ext.tr (Ext.kp1 (Ext.tr (Ext.kp1 (Ext.tr (Ext.kp1 (Ext.tr (Ext.kp1 (Ext.tr (Ext.kp1 (Ext.tr (Ext.kp1 (Ext.tr E413 E415) Q417 (Nat.le_of_eq g413.symm)) E419) Q421 (Nat.le_of_eq g413.symm)) E423) Q425 (Nat.le_of_eq g413.symm)) E427) Q429 (Nat.le_of_eq g413.symm)) E431) Q433 (Nat.le_of_eq g413.symm)) E435) Q437 (Nat.le_of_eq g413.symm)) E439) Q441 (Nat.le_of_eq g413.symm)) E443) Q445 (Nat.le_of_eq g413.symm)).1 (Nat.le_of_eq g447.symm))) E453) E455) E460) E462)) (Sc.ext (Ext.tr (Ext.tr (Ext.tr (Ext.tr (Ext.kp1 (Ext.tr (Ext.kp1 (Ext.tr (Ext.kp1 (Ext.tr (Ext.kp1 (Ext.tr (Ext.kp1 (Ext.tr (Ext.kp1 (Ext.tr (Ext.kp1 (Ext.tr (Ext.kp1 (Ext.tr (Ext.kp1 (Ext.tr E413 E415) Q417 (Nat.le_of_eq g413.symm)) E419) Q421 (Nat.le_of_eq g413.symm)) E423) Q425 (Nat.le_of_eq g413.symm)) E427) Q429 (Nat.le_of_eq g413.symm)) E431) Q433 (Nat.le_of_eq g413.symm)) E435) Q437 (Nat.le_of_eq g413.symm)) E439) Q441 (Nat.le_of_eq g413.symm)) E443) Q445 (Nat.le_of_eq g413.symm)) E447) Q451 (Nat.le_trans (Ext.kp1 (Ext.tr (Ext.kp1 (Ext.tr (Ext.kp1 (Ext.tr (Ext.kp1 (Ext.tr (Ext.kp1 (Ext.tr (Ext.kp1 (Ext.tr (Ext.kp1 (Ext.tr (Ext.kp1 (Ext.tr E413 E415) Q417 (Nat.le_of_eq g413.symm)) E419) Q421 (Nat.le_of_eq g413.symm)) E423) Q425 (Nat.le_of_eq g413.symm)) E427) Q429 (Nat.le_of_eq g413.symm)) E431) Q433 (Nat.le_of_eq g413.symm)) E435) Q437 (Nat.le_of_eq g413.symm)) E439) Q441 (Nat.le_of_eq g413.symm)) E443) Q445 (Nat.le_of_eq g413.symm)).1 (Nat.le_of_eq g447.symm))) E453) E455) E460) E462)) hz (St451.ext (Ext.tr (Ext.tr (Ext.tr E453 E455) E460) E462))) (hw _ (List.mem_of_getElem? (i := 39) rfl)) (hw _ (List.mem_of_getElem? (i := 38) rfl)) (by decide) (by decide)) (fun _ q => nomatch q) pd5 rfl rfl (Nat.le_of_eq rfl) rfl (by decide) (by decide) (by decide) (fun v467 T467 h467 K467 Q467 q467 => ?_)
            have E467 := Ext.of0 Q467
            have P468 := P463.ext E467
            cases q467
            rw [if_neg hc0, if_neg hc1]
            refine gAload K467 L_402 (v := .null) rfl rfl ?_
            refine gAcmp_ne K467 L_404 rfl rfl (fun q => absurd q (by first | decide | (intro hh; cases hh) | simp)) (fun q404 => ?_)
            refine gIconst K467 (1 : Int32) L_407 rfl ?_
            refine gGoto K467 L_408 ?_
            refine gRetI K467 hlk hret (by simp) L_412 rfl P468 (by decide) (by decide) ?_
            exact rfl
      refine gIloadN K0 L_63 (v := shape) rfl ?_
      refine gIconst K0 (4 : Int32) L_64 rfl ?_
      refine gIand K0 L_65 ?_
      refine gIf_eq K0 L_66 (fun q66 => ?_) (fun q66 => ?_)
      · skip
        refine gIconst K0 (0 : Int32) L_73 rfl ?_
        exact j74 _ K0 (0 : Int32)
      · skip
        refine gIconst K0 (1 : Int32) L_69 rfl ?_
        refine gGoto K0 L_70 ?_
        exact j74 _ K0 (1 : Int32)
set_option maxRecDepth 65536 in
set_option maxHeartbeats 40000000 in
theorem comes_1 {Post : Tables → Env → Array Value → State → Outcome → State → Prop} (hpost : ∀ tb e args s v u, (limb_1_1.after args s (.returned v) u = true ∧ limb_1_2.after args s (.returned v) u = true ∧ True) → ReturnedEndW s (.returned v) u (Jvm.fieldLocs frame_1_writes args s ++ Jvm.arrayLocs frame_1_arrays args s ++ Jvm.staticLocs frame_1_statics s) 24 3200 → Post tb e args s (.returned v) u) :
    ArmFor flags0 classFile x code maxLocals ret World_1 tables_1 room_1 Calls_1 rest_1 Pre_1 Post := by
  intro l hfl _ _ p e ha hc hk s m args below hf hA hF happ hP
  obtain ⟨hcalls, hrest, hpre⟩ := hP
  obtain ⟨-, -, -, hnamed, -, -, -, hat⟩ := (Spec.applies_iff hf).mp happ
  obtain ⟨hg, hn⟩ := and_e (Cond.before_iff.mp (show (Jvm.Cond.and given_1 narrow_1).before args s = true from hpre))
  obtain ⟨hcount, hg0⟩ := and_e hg
  obtain ⟨ha0, hg1⟩ := and_e hg0
  obtain ⟨ha1, hg2⟩ := and_e hg1
  obtain ⟨ha2, hg3⟩ := and_e hg2
  obtain ⟨ha3, hg4⟩ := and_e hg3
  have ha4 := hg4
  obtain ⟨w0, w1, w2, w3, w4, rfl⟩ : ∃ w0 w1 w2 w3 w4 : Value, args = #[w0, w1, w2, w3, w4] := by
    have hs : args.size = 5 := by simpa [Cond.value, given_1] using hcount
    obtain ⟨L⟩ := args
    match L, hs with
    | [w0, w1, w2, w3, w4], _ => exact ⟨w0, w1, w2, w3, w4, rfl⟩
  have hw := fun d (hd : d ∈ tables_1) => atoms_spec (ws := Jvm.Cond.code x code maxLocals ret :: tables_1) hat d (List.mem_cons_of_mem _ hd)
  obtain ⟨hsets, hown0⟩ := atoms_of _ (rest_1_c_eq ▸ (show rest_1_c.before _ s = true from hrest))
  have hfit : Fit s := fun {y c} hc i hi => by
    obtain ⟨ha, rfl⟩ := Array.getElem?_eq_some_iff.mp hc
    have q := List.all_eq_true.mp ((Array.all_eq_true_iff_forall_mem.mp hF) _ (Array.getElem_mem ha)) i (List.mem_range.mpr hi)
    simpa [Array.getElem?_eq_getElem hi] using q
  obtain ⟨i0, e0⟩ := is_v ha0
  obtain rfl : w0 = (.int i0) := Option.some.inj e0
  obtain ⟨i1, e1⟩ := is_v ha1
  obtain rfl : w1 = (.int i1) := Option.some.inj e1
  obtain ⟨i2, e2⟩ := is_v ha2
  obtain rfl : w2 = (.int i2) := Option.some.inj e2
  obtain ⟨i3, e3⟩ := is_v ha3
  obtain rfl : w3 = (.int i3) := Option.some.inj e3
  obtain ⟨i4, e4⟩ := is_v ha4
  obtain rfl : w4 = (.int i4) := Option.some.inj e4
  obtain ⟨c0, hn⟩ := and_e hn
  obtain ⟨c1, hn⟩ := and_e hn
  obtain ⟨c2, hn⟩ := and_e hn
  obtain ⟨c3, hn⟩ := and_e hn
  obtain ⟨c4, hn⟩ := and_e hn
  obtain ⟨c5, hn⟩ := and_e hn
  obtain ⟨c6, hn⟩ := and_e hn
  obtain ⟨c7, hn⟩ := and_e hn
  obtain ⟨c8, hn⟩ := and_e hn
  obtain ⟨c9, hn⟩ := and_e hn
  obtain ⟨c10, hn⟩ := and_e hn
  obtain ⟨c11, hn⟩ := and_e hn
  obtain ⟨c12, hn⟩ := and_e hn
  obtain ⟨c13, hn⟩ := and_e hn
  obtain ⟨c14, hn⟩ := and_e hn
  obtain ⟨c15, hn⟩ := and_e hn
  obtain ⟨c16, hn⟩ := and_e hn
  obtain ⟨c17, hn⟩ := and_e hn
  obtain ⟨c18, hn⟩ := and_e hn
  obtain ⟨c19, hn⟩ := and_e hn
  obtain ⟨c20, hn⟩ := and_e hn
  obtain ⟨c21, hn⟩ := and_e hn
  obtain ⟨c22, hn⟩ := and_e hn
  obtain ⟨c23, hn⟩ := and_e hn
  obtain ⟨c24, hn⟩ := and_e hn
  obtain ⟨c25, hn⟩ := and_e hn
  obtain ⟨c26, hn⟩ := and_e hn
  obtain ⟨c27, hn⟩ := and_e hn
  have c28 := hn
  obtain ⟨x_S_VALUES, ev_S_VALUES⟩ := exa_v c1
  have S_S_VALUES : Sta s s.heap "com/example/tranche/tranche/calendar/City" "$VALUES" "[Lcom/example/tranche/tranche/calendar/City;" (.ref x_S_VALUES) := Sta.start ev_S_VALUES (Or.inr ⟨(hw _ (List.mem_of_getElem? (i := 38) rfl)), (hw _ (List.mem_of_getElem? (i := 44) rfl))⟩)
  have A_S_VALUES : Exa s s.heap x_S_VALUES "[Lcom/example/tranche/tranche/calendar/City;" := Exa.start ev_S_VALUES c1
  obtain ⟨z_COMPACT_STRINGS, ez_COMPACT_STRINGS⟩ := is_v (Cond.before_iff.mp (hsets _ (List.mem_of_getElem? (i := 1) rfl)))
  have S_COMPACT_STRINGS : Sta s s.heap "java/lang/String" "COMPACT_STRINGS" "Z" (.int z_COMPACT_STRINGS) := Sta.start ez_COMPACT_STRINGS (Or.inl (hsets _ (List.mem_of_getElem? (i := 0) rfl)))
  have nz_COMPACT_STRINGS : ¬ (z_COMPACT_STRINGS = (0 : Int32)) := gotF (Cond.eq_ints ez_COMPACT_STRINGS (Term.int_eval (0))) (not_v (Cond.before_iff.mp (hsets _ (List.mem_of_getElem? (i := 2) rfl))))
  obtain ⟨v_SIOOBE_FORMATTER, ez_SIOOBE_FORMATTER, r_SIOOBE_FORMATTER⟩ := isR_v (Cond.before_iff.mp (hsets _ (List.mem_of_getElem? (i := 8) rfl)))
  have S_SIOOBE_FORMATTER : Sta s s.heap "jdk/internal/util/Preconditions" "SIOOBE_FORMATTER" "Ljava/util/function/BiFunction;" v_SIOOBE_FORMATTER := Sta.start ez_SIOOBE_FORMATTER (Or.inl (hsets _ (List.mem_of_getElem? (i := 7) rfl)))
  have hE := (EW.cons (text := "new-york") (hw _ (List.mem_of_getElem? (i := 23) rfl)) (by decide) (EW.cons (text := "london") (hw _ (List.mem_of_getElem? (i := 35) rfl)) (by decide) (EW.cons (text := "") (hw _ (List.mem_of_getElem? (i := 15) rfl)) (by decide) EW.nil)))
  have hCH := CHv.start hE (fun q hq => hcalls.1 q hq) (hsets _ (List.mem_of_getElem? (i := 2) rfl)) (hw _ (List.mem_of_getElem? (i := 16) rfl)) (hw _ (List.mem_of_getElem? (i := 3) rfl))
  obtain ⟨o_1, eo_2⟩ := exa_v c3
  obtain ⟨o_3, eo_4⟩ := exa_v c4
  obtain ⟨k_5, V_6⟩ := arv_words (vs := [.ref o_1, .ref o_3]) (dv := .null) hfit ev_S_VALUES c0 c2 (by decide) rfl (fun j hj => by
    match j, hj with
    | 0, _ => exact eo_2
    | 1, _ => exact eo_4)
  obtain ⟨o_7, eo_8⟩ := exa_v c5
  have F_9 : Fld s s.heap o_1 "com/example/tranche/tranche/calendar/City" "label" "Ljava/lang/String;" (.ref o_7) := fld_word eo_2 eo_8
  have A_10 : Exa s s.heap o_7 "java/lang/String" := Exa.start eo_8 c5
  have F_11 : Fld s s.heap o_7 "java/lang/String" "coder" "B" (.int 0) := fld_word eo_8 (eqint_v c6)
  obtain ⟨o_12, eo_13⟩ := arr_v c7
  have F_14 : Fld s s.heap o_7 "java/lang/String" "value" "[B" (.ref o_12) := fld_word eo_8 eo_13
  obtain ⟨k_15, V_16⟩ := arv_words (vs := [.int (110 : Int32), .int (101 : Int32), .int (119 : Int32), .int (45 : Int32), .int (121 : Int32), .int (111 : Int32), .int (114 : Int32), .int (107 : Int32)]) (dv := (.int 0)) hfit eo_13 c7 c8 (by decide) rfl (fun j hj => by
    match j, hj with
    | 0, _ => exact eqint_v c15
    | 1, _ => exact eqint_v c16
    | 2, _ => exact eqint_v c17
    | 3, _ => exact eqint_v c18
    | 4, _ => exact eqint_v c19
    | 5, _ => exact eqint_v c20
    | 6, _ => exact eqint_v c21
    | 7, _ => exact eqint_v c22)
  have L_17 : StrL s s.heap o_7 [(110 : Int32), (101 : Int32), (119 : Int32), (45 : Int32), (121 : Int32), (111 : Int32), (114 : Int32), (107 : Int32)] := ⟨o_12, k_15, A_10, F_11, F_14, V_16, by decide, by decide⟩
  obtain ⟨o_18, eo_19⟩ := exa_v c9
  have F_20 : Fld s s.heap o_3 "com/example/tranche/tranche/calendar/City" "label" "Ljava/lang/String;" (.ref o_18) := fld_word eo_4 eo_19
  have A_21 : Exa s s.heap o_18 "java/lang/String" := Exa.start eo_19 c9
  have F_22 : Fld s s.heap o_18 "java/lang/String" "coder" "B" (.int 0) := fld_word eo_19 (eqint_v c10)
  obtain ⟨o_23, eo_24⟩ := arr_v c11
  have F_25 : Fld s s.heap o_18 "java/lang/String" "value" "[B" (.ref o_23) := fld_word eo_19 eo_24
  obtain ⟨k_26, V_27⟩ := arv_words (vs := [.int (108 : Int32), .int (111 : Int32), .int (110 : Int32), .int (100 : Int32), .int (111 : Int32), .int (110 : Int32)]) (dv := (.int 0)) hfit eo_24 c11 c12 (by decide) rfl (fun j hj => by
    match j, hj with
    | 0, _ => exact eqint_v c23
    | 1, _ => exact eqint_v c24
    | 2, _ => exact eqint_v c25
    | 3, _ => exact eqint_v c26
    | 4, _ => exact eqint_v c27
    | 5, _ => exact eqint_v c28)
  have L_28 : StrL s s.heap o_18 [(108 : Int32), (111 : Int32), (110 : Int32), (100 : Int32), (111 : Int32), (110 : Int32)] := ⟨o_23, k_26, A_21, F_22, F_25, V_27, by decide, by decide⟩
  have eo_29 := eqref_l c14 eo_2
  have Sx_NEW_YORK : Sta s s.heap "com/example/tranche/tranche/calendar/City" "NEW_YORK" "Lcom/example/tranche/tranche/calendar/City;" (.ref o_1) := Sta.start eo_29 (Or.inr ⟨(hw _ (List.mem_of_getElem? (i := 38) rfl)), (hw _ (List.mem_of_getElem? (i := 97) rfl))⟩)
  have eo_30 := eqref_l c13 eo_4
  have Sx_LONDON : Sta s s.heap "com/example/tranche/tranche/calendar/City" "LONDON" "Lcom/example/tranche/tranche/calendar/City;" (.ref o_3) := Sta.start eo_30 (Or.inr ⟨(hw _ (List.mem_of_getElem? (i := 38) rfl)), (hw _ (List.mem_of_getElem? (i := 95) rfl))⟩)
  obtain ⟨n, o, h1, h2, h3, v, L, rfl, ⟨hv, Kp, N⟩, hq⟩ := (c_law l s _ hw s.heap s.heap.size (Nat.le_refl _) hE i0 i1 i2 i3 i4 x_S_VALUES k_5 .null o_1 o_7 o_3 o_18 z_COMPACT_STRINGS S_S_VALUES V_6 A_S_VALUES F_9 L_17 F_20 L_28 S_COMPACT_STRINGS nz_COMPACT_STRINGS v_SIOOBE_FORMATTER S_SIOOBE_FORMATTER r_SIOOBE_FORMATTER Sx_NEW_YORK Sx_LONDON).asW p e ha hc hk s m _ below hf ((Spec.applies_iff_loose hf).mp happ).1 ⟨rfl, State.Warmed39.refl s, rfl, hCH, (fun _ q => nomatch q)⟩ trivial
  subst hv
  refine ⟨n, _, h1, h2, h3, hpost _ _ _ _ _ _ ⟨Cond.after_iff.mpr rfl, Cond.after_iff.mpr (eq_i res_at (Term.int_eval (1)) rfl), trivial⟩ ⟨hq.2.1, hq.2.2.1, hq.2.2.2.1, (hq.2.2.2.2.sift fun y hy => Or.inr (N y hy)).mono (by decide) (by decide)⟩⟩
theorem main_1_1 : Claimed_1_1 := comes_1 fun _ _ _ _ _ _ h hF => ⟨h.1, hF⟩
theorem main_1_2 : Claimed_1_2 := comes_1 fun _ _ _ _ _ _ h hF => ⟨h.2.1, hF⟩

end Jvm.Pilot.@@N@@
namespace Jvm.Pilot.@@N@@
open Jvm Jvm.ClassFile Sem Op Lib Jvm.Free Jvm.Stand Jvm.Pilot.@@N@@.Jvm.D
/-! MADE BY PROGRAM (witnessworld.py) out of the Statement's table words and the real class files: 24 classes; the members and pool entries that the words name. The judged class is class 1, her method 1. -/
namespace start1
open Jvm.ClassFile
def u (s : String) : CpInfo := .utf8 (stringToUtf16 s)
/-- a pool by its gaps: so many unusable entries, then the entry; so many at the end -/
def gap : Nat → List CpInfo → List CpInfo
  | 0, r => r
  | n + 1, r => .unusable :: gap n r
def poolList (es : List (Nat × CpInfo)) (last : Nat) : List CpInfo := es.foldr (fun e r => gap e.1 (e.2 :: r)) (gap last [])
def pool (es : List (Nat × CpInfo)) (last : Nat) : Array CpInfo := ⟨poolList es last⟩
def fileOf (pool : Array CpInfo) (this : Nat) (attrs : Array Attribute := #[]) (ms : Array MethodInfo := #[]) (fl : Nat := 33) (sup : Nat := 0) (ifs : Array Nat := #[]) (fds : Array FieldInfo := #[]) : ClassFile where
  minorVersion := 0
  majorVersion := 65
  constantPool := pool
  accessFlags := fl
  thisClass := this
  superClass := sup
  interfaces := ifs
  fields := fds
  methods := ms
  attributes := attrs
def plain (name : String) (sup : Option ClassId) : Class where
  name := name
  kind := .ordinary
  loader := none
  accessFlags := 33
  super := sup
  interfaces := #[]
  cf := none
  fields := #[]
  methods := #[]
  instanceTypes := #[]
  staticTypes := #[]
  resolved := #[]
  callSites := []
  init := .initialized
  statics := none
  mirror := none

def pool0 : Array CpInfo := pool [(5, u "<init>"), (0, u "()V"), (1, .class_ 10), (1, u "java/lang/Object"), (85, u "clone"), (0, u "()Ljava/lang/Object;")] 26

def k0c0 : Code := { maxStack := 0, maxLocals := 1, code := object_method_1_code, exceptionTable := #[], attributes := #[] }
def k0m0 : Method := { name := "<init>", desc := "()V", sig := { parameters := [], returnType := none }, accessFlags := 1, code := some k0c0 }
def k0m1 : Method := { name := "clone", desc := "()Ljava/lang/Object;", sig := { parameters := [], returnType := some (.object "java/lang/Object") }, accessFlags := 260, code := none }
/-- java/lang/Object -/
def k0 : Class := { plain "java/lang/Object" none with
  accessFlags := 33
  interfaces := #[]
  cf := some (fileOf pool0 8 #[] #[{ accessFlags := 1, nameIndex := 5, descriptorIndex := 6, attributes := #[] }, { accessFlags := 260, nameIndex := 96, descriptorIndex := 97, attributes := #[] }] 33 0 #[] #[])
  fields := #[]
  methods := #[k0m0, k0m1]
  instanceTypes := #[]
  staticTypes := #[]
  resolved := Array.replicate 124 none
  statics := none }

def pool1 : Array CpInfo := pool [(2, .class_ 4), (1, u "java/lang/Object"), (0, u "<init>"), (0, u "()V"), (0, .integer 2147483647), (0, .methodref 9 10), (0, .class_ 11), (0, .nameAndType 12 13), (0, u "com/example/tranche/tranche/calendar/CityFromLabelPinLaw"), (0, u "at"), (0, u "(IIIZICC)C"), (0, .class_ 15), (0, u "java/lang/String"), (0, .methodref 14 17), (0, .nameAndType 5 18), (0, u "([C)V"), (0, .string 20), (0, u "new-york"), (0, .methodref 14 22), (0, .nameAndType 23 24), (0, u "equals"), (0, u "(Ljava/lang/Object;)Z"), (0, .fieldref 26 27), (0, .class_ 28), (0, .nameAndType 29 30), (0, u "com/example/tranche/tranche/calendar/City"), (0, u "NEW_YORK"), (0, u "Lcom/example/tranche/tranche/calendar/City;"), (0, .string 32), (0, u "london"), (0, .fieldref 26 34), (0, .nameAndType 35 30), (0, u "LONDON"), (0, .methodref 26 37), (0, .nameAndType 38 39), (0, u "fromLabel"), (0, u "(Ljava/lang/String;)Lcom/example/tranche/tranche/calendar/City;"), (0, .methodref 14 41), (0, .nameAndType 42 43), (0, u "charAt"), (0, u "(I)C"), (2, u "law"), (0, u "(IIIII)Z")] 5

def k1m0 : Method := { name := "<init>", desc := "()V", sig := { parameters := [], returnType := none }, accessFlags := 1, code := none }
def k1c1 : Code := { maxStack := 9, maxLocals := 16, code := code, exceptionTable := #[], attributes := #[] }
def k1m1 : Method := { name := "law", desc := "(IIIII)Z", sig := { parameters := [.int, .int, .int, .int, .int], returnType := some .boolean }, accessFlags := 9, code := some k1c1 }
def k1c2 : Code := { maxStack := 2, maxLocals := 7, code := method_3_code, exceptionTable := #[], attributes := #[] }
def k1m2 : Method := { name := "at", desc := "(IIIZICC)C", sig := { parameters := [.int, .int, .int, .boolean, .int, .char, .char], returnType := some .char }, accessFlags := 10, code := some k1c2 }
/-- com/example/tranche/tranche/calendar/CityFromLabelPinLaw -/
def k1 : Class := { plain "com/example/tranche/tranche/calendar/CityFromLabelPinLaw" (some 0) with
  accessFlags := 49
  interfaces := #[]
  cf := some (fileOf pool1 9 #[] #[{ accessFlags := 1, nameIndex := 5, descriptorIndex := 6, attributes := #[] }, { accessFlags := 9, nameIndex := 46, descriptorIndex := 47, attributes := #[] }, { accessFlags := 10, nameIndex := 12, descriptorIndex := 13, attributes := #[] }] 49 2 #[] #[])
  fields := #[]
  methods := #[k1m0, k1m1, k1m2]
  instanceTypes := #[]
  staticTypes := #[]
  resolved := Array.replicate 53 none
  statics := none }

def pool2 : Array CpInfo := pool [(1, .class_ 2), (0, u "java/io/Serializable"), (0, .class_ 4), (0, u "java/lang/Object")] 2

/-- java/io/Serializable -/
def k2 : Class := { plain "java/io/Serializable" (some 0) with
  accessFlags := 1537
  interfaces := #[]
  cf := some (fileOf pool2 1 #[] #[] 1537 3 #[] #[])
  fields := #[]
  methods := #[]
  instanceTypes := #[]
  staticTypes := #[]
  resolved := Array.replicate 7 none
  statics := none }

def pool3 : Array CpInfo := pool [(1, .class_ 2), (0, u "java/lang/Comparable"), (0, .class_ 4), (0, u "java/lang/Object")] 7

/-- java/lang/Comparable -/
def k3 : Class := { plain "java/lang/Comparable" (some 0) with
  accessFlags := 1537
  interfaces := #[]
  cf := some (fileOf pool3 1 #[] #[] 1537 3 #[] #[])
  fields := #[]
  methods := #[]
  instanceTypes := #[]
  staticTypes := #[]
  resolved := Array.replicate 12 none
  statics := none }

def pool4 : Array CpInfo := pool [(2, .class_ 4), (1, u "java/lang/CharSequence"), (42, .class_ 48), (0, u "java/lang/CharSequence$1CodePointIterator"), (10, .class_ 60), (0, u "java/lang/CharSequence$1CharIterator"), (5, .class_ 67), (0, u "java/lang/Object")] 63

/-- java/lang/CharSequence -/
def k4 : Class := { plain "java/lang/CharSequence" (some 0) with
  accessFlags := 1537
  interfaces := #[]
  cf := some (fileOf pool4 2 #[.nestMembers #[47, 59]] #[] 1537 66 #[] #[])
  fields := #[]
  methods := #[]
  instanceTypes := #[]
  staticTypes := #[]
  resolved := Array.replicate 131 none
  statics := none }

def pool5 : Array CpInfo := pool [(1, .class_ 2), (0, u "java/lang/constant/Constable"), (0, .class_ 4), (0, u "java/lang/Object")] 6

/-- java/lang/constant/Constable -/
def k5 : Class := { plain "java/lang/constant/Constable" (some 0) with
  accessFlags := 1537
  interfaces := #[]
  cf := some (fileOf pool5 1 #[] #[] 1537 3 #[] #[])
  fields := #[]
  methods := #[]
  instanceTypes := #[]
  staticTypes := #[]
  resolved := Array.replicate 11 none
  statics := none }

def pool6 : Array CpInfo := pool [(1, .class_ 2), (0, u "java/lang/constant/ConstantDesc"), (0, .class_ 4), (0, u "java/lang/Object")] 32

/-- java/lang/constant/ConstantDesc -/
def k6 : Class := { plain "java/lang/constant/ConstantDesc" (some 0) with
  accessFlags := 1537
  interfaces := #[]
  cf := some (fileOf pool6 1 #[] #[] 1537 3 #[] #[])
  fields := #[]
  methods := #[]
  instanceTypes := #[]
  staticTypes := #[]
  resolved := Array.replicate 37 none
  statics := none }

def pool7 : Array CpInfo := pool [(1, .methodref 2 3), (0, .class_ 4), (0, .nameAndType 5 6), (0, u "java/lang/Object"), (0, u "<init>"), (0, u "()V"), (0, .string 8), (0, u ""), (0, .fieldref 10 11), (0, .class_ 12), (0, .nameAndType 13 14), (0, u "java/lang/String"), (0, u "value"), (0, u "[B"), (0, .fieldref 10 16), (0, .nameAndType 17 18), (0, u "coder"), (0, u "B"), (2, u "hash"), (0, u "I"), (2, u "hashIsZero"), (0, u "Z"), (0, .methodref 10 28), (0, .nameAndType 5 29), (0, u "([CIILjava/lang/Void;)V"), (8, .fieldref 10 39), (0, .nameAndType 40 26), (0, u "COMPACT_STRINGS"), (1, .class_ 44), (1, u "java/lang/StringUTF16"), (0, u "compress"), (1, .methodref 42 48), (0, .nameAndType 49 50), (0, u "coderFromArrayLen"), (0, u "([BI)B"), (56, .class_ 109), (1, u "java/lang/StringLatin1"), (32, u "()Z"), (34, .methodref 42 178), (0, .nameAndType 45 179), (0, u "([CII)[B"), (183, u "([BI)C"), (27, u "(II)V"), (35, u "(I)C"), (64, .methodref 10 493), (0, .nameAndType 494 142), (0, u "isLatin1"), (0, .methodref 107 496), (0, .nameAndType 497 363), (0, u "charAt"), (3, u "checkIndex"), (39, .methodref 107 542), (0, .nameAndType 543 544), (0, u "equals"), (0, u "([B[B)Z"), (28, u "(Ljava/lang/Object;)Z"), (1, .class_ 576), (0, u "java/lang/CharSequence"), (22, u "CASE_INSENSITIVE_ORDER"), (0, u "Ljava/util/Comparator;"), (409, u "([C)V"), (42, .fieldref 1054 1055), (0, .class_ 1056), (0, .nameAndType 1057 1058), (0, u "jdk/internal/util/Preconditions"), (0, u "SIOOBE_FORMATTER"), (0, u "Ljava/util/function/BiFunction;"), (0, .methodref 1054 1060), (0, .nameAndType 501 1061), (0, u "(IILjava/util/function/BiFunction;)I"), (39, u "serialPersistentFields"), (0, u "[Ljava/io/ObjectStreamField;"), (0, .class_ 1104), (0, u "java/lang/String$CaseInsensitiveComparator"), (1, .class_ 1107), (0, u "java/io/Serializable"), (0, .class_ 1109), (0, u "java/lang/Comparable"), (0, .class_ 1111), (0, u "java/lang/constant/Constable"), (0, .class_ 1113), (0, u "java/lang/constant/ConstantDesc"), (2, u "serialVersionUID"), (0, u "J"), (3, u "REPL"), (0, u "C"), (2, u "LATIN1"), (1, u "UTF16")] 323

def k7m0 : Method := { name := "<init>", desc := "()V", sig := { parameters := [], returnType := none }, accessFlags := 1, code := none }
def k7c1 : Code := { maxStack := 5, maxLocals := 2, code := jdk_42_method_3_code, exceptionTable := #[], attributes := #[] }
def k7m1 : Method := { name := "<init>", desc := "([C)V", sig := { parameters := [(.array .char)], returnType := none }, accessFlags := 1, code := some k7c1 }
def k7c2 : Code := { maxStack := 2, maxLocals := 2, code := jdk_42_method_56_code, exceptionTable := #[], attributes := #[] }
def k7m2 : Method := { name := "charAt", desc := "(I)C", sig := { parameters := [.int], returnType := some .char }, accessFlags := 1, code := some k7c2 }
def k7c3 : Code := { maxStack := 2, maxLocals := 3, code := jdk_42_method_66_code, exceptionTable := #[], attributes := #[] }
def k7m3 : Method := { name := "equals", desc := "(Ljava/lang/Object;)Z", sig := { parameters := [(.object "java/lang/Object")], returnType := some .boolean }, accessFlags := 1, code := some k7c3 }
def k7c4 : Code := { maxStack := 4, maxLocals := 6, code := jdk_42_method_149_code, exceptionTable := #[], attributes := #[] }
def k7m4 : Method := { name := "<init>", desc := "([CIILjava/lang/Void;)V", sig := { parameters := [(.array .char), .int, .int, (.object "java/lang/Void")], returnType := none }, accessFlags := 2, code := some k7c4 }
def k7c5 : Code := { maxStack := 1, maxLocals := 1, code := jdk_42_method_154_code, exceptionTable := #[], attributes := #[] }
def k7m5 : Method := { name := "isLatin1", desc := "()Z", sig := { parameters := [], returnType := some .boolean }, accessFlags := 0, code := some k7c5 }
def k7c6 : Code := { maxStack := 3, maxLocals := 2, code := jdk_42_method_155_code, exceptionTable := #[], attributes := #[] }
def k7m6 : Method := { name := "checkIndex", desc := "(II)V", sig := { parameters := [.int, .int], returnType := none }, accessFlags := 8, code := some k7c6 }
/-- java/lang/String -/
def k7 : Class := { plain "java/lang/String" (some 0) with
  accessFlags := 49
  interfaces := #[2, 3, 4, 5, 6]
  cf := some (fileOf pool7 10 #[.nestMembers #[1103]] #[{ accessFlags := 1, nameIndex := 5, descriptorIndex := 6, attributes := #[] }, { accessFlags := 1, nameIndex := 5, descriptorIndex := 1010, attributes := #[] }, { accessFlags := 1, nameIndex := 497, descriptorIndex := 427, attributes := #[] }, { accessFlags := 1, nameIndex := 543, descriptorIndex := 573, attributes := #[] }, { accessFlags := 2, nameIndex := 5, descriptorIndex := 29, attributes := #[] }, { accessFlags := 0, nameIndex := 494, descriptorIndex := 142, attributes := #[] }, { accessFlags := 8, nameIndex := 501, descriptorIndex := 391, attributes := #[] }] 49 2 #[1106, 1108, 575, 1110, 1112] #[{ accessFlags := 18, nameIndex := 13, descriptorIndex := 14, attributes := #[] }, { accessFlags := 18, nameIndex := 17, descriptorIndex := 18, attributes := #[] }, { accessFlags := 2, nameIndex := 21, descriptorIndex := 22, attributes := #[] }, { accessFlags := 2, nameIndex := 25, descriptorIndex := 26, attributes := #[] }, { accessFlags := 26, nameIndex := 1116, descriptorIndex := 1117, attributes := #[] }, { accessFlags := 24, nameIndex := 40, descriptorIndex := 26, attributes := #[] }, { accessFlags := 26, nameIndex := 1101, descriptorIndex := 1102, attributes := #[] }, { accessFlags := 26, nameIndex := 1121, descriptorIndex := 1122, attributes := #[] }, { accessFlags := 25, nameIndex := 599, descriptorIndex := 600, attributes := #[] }, { accessFlags := 24, nameIndex := 1125, descriptorIndex := 18, attributes := #[] }, { accessFlags := 24, nameIndex := 1127, descriptorIndex := 18, attributes := #[] }])
  fields := #[{ name := "value", type := (.array .byte), accessFlags := 18, slot := 0, constantValue := 0 }, { name := "coder", type := .byte, accessFlags := 18, slot := 1, constantValue := 0 }, { name := "hash", type := .int, accessFlags := 2, slot := 2, constantValue := 0 }, { name := "hashIsZero", type := .boolean, accessFlags := 2, slot := 3, constantValue := 0 }, { name := "serialVersionUID", type := .long, accessFlags := 26, slot := 0, constantValue := 0 }, { name := "COMPACT_STRINGS", type := .boolean, accessFlags := 24, slot := 1, constantValue := 0 }, { name := "serialPersistentFields", type := (.array (.object "java/io/ObjectStreamField")), accessFlags := 26, slot := 2, constantValue := 0 }, { name := "REPL", type := .char, accessFlags := 26, slot := 3, constantValue := 0 }, { name := "CASE_INSENSITIVE_ORDER", type := (.object "java/util/Comparator"), accessFlags := 25, slot := 4, constantValue := 0 }, { name := "LATIN1", type := .byte, accessFlags := 24, slot := 5, constantValue := 0 }, { name := "UTF16", type := .byte, accessFlags := 24, slot := 6, constantValue := 0 }]
  methods := #[k7m0, k7m1, k7m2, k7m3, k7m4, k7m5, k7m6]
  instanceTypes := #[(.array .byte), .byte, .int, .boolean]
  staticTypes := #[.long, .boolean, (.array (.object "java/io/ObjectStreamField")), .char, (.object "java/util/Comparator"), .byte, .byte]
  resolved := Array.replicate 1451 none
  statics := some 0 }

def pool8 : Array CpInfo := pool [(1, .class_ 2), (0, u "java/lang/String"), (1, .class_ 6), (1, u "java/lang/Object"), (0, u "<init>"), (0, u "()V"), (0, .methodref 1 10), (0, .nameAndType 11 12), (0, u "checkIndex"), (0, u "(II)V"), (1, .class_ 16), (1, u "java/lang/StringLatin1"), (36, u "([BI)C"), (67, u "$assertionsDisabled"), (0, u "Z"), (98, .class_ 223), (1, u "java/lang/StringLatin1$LinesSpliterator"), (28, u "charAt"), (28, u "equals"), (0, u "([B[B)Z"), (107, .class_ 391), (0, u "java/lang/StringLatin1$CharsSpliterator")] 3

def k8m0 : Method := { name := "<init>", desc := "()V", sig := { parameters := [], returnType := none }, accessFlags := 0, code := none }
def k8c1 : Code := { maxStack := 2, maxLocals := 2, code := jdk_43_method_2_code, exceptionTable := #[], attributes := #[] }
def k8m1 : Method := { name := "charAt", desc := "([BI)C", sig := { parameters := [(.array .byte), .int], returnType := some .char }, accessFlags := 9, code := some k8c1 }
def k8c2 : Code := { maxStack := 3, maxLocals := 3, code := jdk_43_method_13_code, exceptionTable := #[], attributes := #[] }
def k8m2 : Method := { name := "equals", desc := "([B[B)Z", sig := { parameters := [(.array .byte), (.array .byte)], returnType := some .boolean }, accessFlags := 9, code := some k8c2 }
/-- java/lang/StringLatin1 -/
def k8 : Class := { plain "java/lang/StringLatin1" (some 0) with
  accessFlags := 48
  interfaces := #[]
  cf := some (fileOf pool8 14 #[.nestMembers #[390, 221]] #[{ accessFlags := 0, nameIndex := 7, descriptorIndex := 8, attributes := #[] }, { accessFlags := 9, nameIndex := 252, descriptorIndex := 53, attributes := #[] }, { accessFlags := 9, nameIndex := 281, descriptorIndex := 282, attributes := #[] }] 48 4 #[] #[{ accessFlags := 4120, nameIndex := 121, descriptorIndex := 122, attributes := #[] }])
  fields := #[{ name := "$assertionsDisabled", type := .boolean, accessFlags := 4120, slot := 0, constantValue := 0 }]
  methods := #[k8m0, k8m1, k8m2]
  instanceTypes := #[]
  staticTypes := #[.boolean]
  resolved := Array.replicate 395 none
  statics := none }

def pool9 : Array CpInfo := pool [(2, .class_ 4), (1, u "java/lang/Enum"), (0, u "name"), (0, u "Ljava/lang/String;"), (2, u "ordinal"), (0, u "I"), (1, .class_ 14), (1, u "java/lang/Object"), (4, u "hash"), (86, .class_ 108), (1, u "java/lang/Enum$EnumDesc"), (2, .class_ 112), (0, u "java/lang/constant/Constable"), (0, .class_ 114), (0, u "java/lang/Comparable"), (0, .class_ 116), (0, u "java/io/Serializable")] 87

/-- java/lang/Enum -/
def k9 : Class := { plain "java/lang/Enum" (some 0) with
  accessFlags := 1057
  interfaces := #[5, 3, 2]
  cf := some (fileOf pool9 2 #[.nestMembers #[106]] #[] 1057 12 #[111, 113, 115] #[{ accessFlags := 18, nameIndex := 5, descriptorIndex := 6, attributes := #[] }, { accessFlags := 18, nameIndex := 9, descriptorIndex := 10, attributes := #[] }, { accessFlags := 2, nameIndex := 19, descriptorIndex := 10, attributes := #[] }])
  fields := #[{ name := "name", type := (.object "java/lang/String"), accessFlags := 18, slot := 0, constantValue := 0 }, { name := "ordinal", type := .int, accessFlags := 18, slot := 1, constantValue := 0 }, { name := "hash", type := .int, accessFlags := 2, slot := 2, constantValue := 0 }]
  methods := #[]
  instanceTypes := #[(.object "java/lang/String"), .int, .int]
  staticTypes := #[]
  resolved := Array.replicate 204 none
  statics := none }

def pool10 : Array CpInfo := pool [(1, .class_ 2), (0, u "com/example/tranche/tranche/calendar/City"), (2, u "NEW_YORK"), (0, u "Lcom/example/tranche/tranche/calendar/City;"), (2, u "LONDON"), (0, .fieldref 1 11), (0, .nameAndType 12 13), (0, u "$VALUES"), (0, u "[Lcom/example/tranche/tranche/calendar/City;"), (0, .methodref 15 16), (0, .class_ 13), (0, .nameAndType 17 18), (0, u "clone"), (0, u "()Ljava/lang/Object;"), (1, .class_ 22), (1, u "java/lang/Enum"), (13, u "years"), (0, u "Ljava/util/Map;"), (0, .fieldref 1 39), (0, .nameAndType 40 41), (0, u "label"), (0, u "Ljava/lang/String;"), (0, .methodref 1 43), (0, .nameAndType 44 45), (0, u "values"), (0, u "()[Lcom/example/tranche/tranche/calendar/City;"), (0, .methodref 47 48), (0, .class_ 49), (0, .nameAndType 50 51), (0, u "java/lang/String"), (0, u "equals"), (0, u "(Ljava/lang/Object;)Z"), (68, .class_ 121), (0, u "com/example/tranche/tranche/calendar/City$1"), (6, .class_ 129), (0, u "com/example/tranche/tranche/calendar/City$2"), (18, u "MOVED_EARLY_MAY"), (8, u "MOVED_SPRING"), (11, u "ONE_OFF"), (0, u "Ljava/util/List;"), (0, u "JUNETEENTH_FROM"), (0, u "I"), (8, u "(Ljava/lang/String;)Lcom/example/tranche/tranche/calendar/City;"), (2, u "fromLabel")] 38

def k10c0 : Code := { maxStack := 1, maxLocals := 0, code := prog_151_method_1_code, exceptionTable := #[], attributes := #[] }
def k10m0 : Method := { name := "values", desc := "()[Lcom/example/tranche/tranche/calendar/City;", sig := { parameters := [], returnType := some (.array (.object "com/example/tranche/tranche/calendar/City")) }, accessFlags := 9, code := some k10c0 }
def k10c1 : Code := { maxStack := 2, maxLocals := 5, code := prog_151_method_4_code, exceptionTable := #[], attributes := #[] }
def k10m1 : Method := { name := "fromLabel", desc := "(Ljava/lang/String;)Lcom/example/tranche/tranche/calendar/City;", sig := { parameters := [(.object "java/lang/String")], returnType := some (.object "com/example/tranche/tranche/calendar/City") }, accessFlags := 8, code := some k10c1 }
/-- com/example/tranche/tranche/calendar/City -/
def k10 : Class := { plain "com/example/tranche/tranche/calendar/City" (some 9) with
  accessFlags := 17440
  interfaces := #[]
  cf := some (fileOf pool10 1 #[.nestMembers #[128, 120]] #[{ accessFlags := 9, nameIndex := 44, descriptorIndex := 45, attributes := #[] }, { accessFlags := 8, nameIndex := 184, descriptorIndex := 181, attributes := #[] }] 17440 20 #[] #[{ accessFlags := 16409, nameIndex := 5, descriptorIndex := 6, attributes := #[] }, { accessFlags := 16409, nameIndex := 9, descriptorIndex := 6, attributes := #[] }, { accessFlags := 26, nameIndex := 171, descriptorIndex := 172, attributes := #[] }, { accessFlags := 26, nameIndex := 148, descriptorIndex := 37, attributes := #[] }, { accessFlags := 26, nameIndex := 157, descriptorIndex := 37, attributes := #[] }, { accessFlags := 26, nameIndex := 169, descriptorIndex := 170, attributes := #[] }, { accessFlags := 18, nameIndex := 40, descriptorIndex := 41, attributes := #[] }, { accessFlags := 18, nameIndex := 36, descriptorIndex := 37, attributes := #[] }, { accessFlags := 4122, nameIndex := 12, descriptorIndex := 13, attributes := #[] }])
  fields := #[{ name := "NEW_YORK", type := (.object "com/example/tranche/tranche/calendar/City"), accessFlags := 16409, slot := 0, constantValue := 0 }, { name := "LONDON", type := (.object "com/example/tranche/tranche/calendar/City"), accessFlags := 16409, slot := 1, constantValue := 0 }, { name := "JUNETEENTH_FROM", type := .int, accessFlags := 26, slot := 2, constantValue := 0 }, { name := "MOVED_EARLY_MAY", type := (.object "java/util/Map"), accessFlags := 26, slot := 3, constantValue := 0 }, { name := "MOVED_SPRING", type := (.object "java/util/Map"), accessFlags := 26, slot := 4, constantValue := 0 }, { name := "ONE_OFF", type := (.object "java/util/List"), accessFlags := 26, slot := 5, constantValue := 0 }, { name := "label", type := (.object "java/lang/String"), accessFlags := 18, slot := 3, constantValue := 0 }, { name := "years", type := (.object "java/util/Map"), accessFlags := 18, slot := 4, constantValue := 0 }, { name := "$VALUES", type := (.array (.object "com/example/tranche/tranche/calendar/City")), accessFlags := 4122, slot := 6, constantValue := 0 }]
  methods := #[k10m0, k10m1]
  instanceTypes := #[(.object "java/lang/String"), .int, .int, (.object "java/lang/String"), (.object "java/util/Map")]
  staticTypes := #[(.object "com/example/tranche/tranche/calendar/City"), (.object "com/example/tranche/tranche/calendar/City"), .int, (.object "java/util/Map"), (.object "java/util/Map"), (.object "java/util/List"), (.array (.object "com/example/tranche/tranche/calendar/City"))]
  resolved := Array.replicate 223 none
  statics := some 1 }

def pool11 : Array CpInfo := pool [(1, .class_ 2), (0, u "java/lang/Cloneable"), (0, .class_ 4), (0, u "java/lang/Object")] 2

/-- java/lang/Cloneable -/
def k11 : Class := { plain "java/lang/Cloneable" (some 0) with
  accessFlags := 1537
  interfaces := #[]
  cf := some (fileOf pool11 1 #[] #[] 1537 3 #[] #[])
  fields := #[]
  methods := #[]
  instanceTypes := #[]
  staticTypes := #[]
  resolved := Array.replicate 7 none
  statics := none }

def pool12 : Array CpInfo := pool [(1, .class_ 2), (0, u "com/example/tranche/tranche/calendar/City"), (112, .class_ 116), (0, u "com/example/tranche/tranche/calendar/City$1")] 13

/-- com/example/tranche/tranche/calendar/City$1 -/
def k12 : Class := { plain "com/example/tranche/tranche/calendar/City$1" (some 10) with
  accessFlags := 16432
  interfaces := #[]
  cf := some (fileOf pool12 115 #[.nestHost 1] #[] 16432 1 #[] #[])
  fields := #[]
  methods := #[]
  instanceTypes := #[(.object "java/lang/String"), .int, .int, (.object "java/lang/String"), (.object "java/util/Map")]
  staticTypes := #[]
  resolved := Array.replicate 130 none
  statics := none }

def pool13 : Array CpInfo := pool [(2, .class_ 4), (1, u "com/example/tranche/tranche/calendar/City"), (124, .class_ 130), (0, u "com/example/tranche/tranche/calendar/City$2")] 13

/-- com/example/tranche/tranche/calendar/City$2 -/
def k13 : Class := { plain "com/example/tranche/tranche/calendar/City$2" (some 10) with
  accessFlags := 16432
  interfaces := #[]
  cf := some (fileOf pool13 129 #[.nestHost 2] #[] 16432 2 #[] #[])
  fields := #[]
  methods := #[]
  instanceTypes := #[(.object "java/lang/String"), .int, .int, (.object "java/lang/String"), (.object "java/util/Map")]
  staticTypes := #[]
  resolved := Array.replicate 144 none
  statics := none }

def pool14 : Array CpInfo := pool [(2, .class_ 4), (1, u "java/lang/Object"), (0, u "<init>"), (0, u "()V"), (17, .class_ 26), (1, u "jdk/internal/util/Preconditions"), (6, u "checkIndex"), (21, .class_ 56), (0, u "jdk/internal/util/Preconditions$4"), (57, .class_ 115), (0, u "jdk/internal/util/Preconditions$1"), (7, u "SIOOBE_FORMATTER"), (0, u "Ljava/util/function/BiFunction;"), (0, .class_ 126), (0, u "jdk/internal/util/Preconditions$2"), (3, u "AIOOBE_FORMATTER"), (0, .class_ 132), (0, u "jdk/internal/util/Preconditions$3"), (3, u "IOOBE_FORMATTER"), (41, u "(IILjava/util/function/BiFunction;)I")] 15

def k14m0 : Method := { name := "<init>", desc := "()V", sig := { parameters := [], returnType := none }, accessFlags := 1, code := none }
def k14c1 : Code := { maxStack := 3, maxLocals := 3, code := jdk_41_method_11_code, exceptionTable := #[], attributes := #[] }
def k14m1 : Method := { name := "checkIndex", desc := "(IILjava/util/function/BiFunction;)I", sig := { parameters := [.int, .int, (.object "java/util/function/BiFunction")], returnType := some .int }, accessFlags := 9, code := some k14c1 }
/-- jdk/internal/util/Preconditions -/
def k14 : Class := { plain "jdk/internal/util/Preconditions" (some 0) with
  accessFlags := 33
  interfaces := #[]
  cf := some (fileOf pool14 24 #[.nestMembers #[55, 131, 125, 114]] #[{ accessFlags := 1, nameIndex := 5, descriptorIndex := 6, attributes := #[] }, { accessFlags := 9, nameIndex := 33, descriptorIndex := 178, attributes := #[] }] 33 2 #[] #[{ accessFlags := 25, nameIndex := 123, descriptorIndex := 124, attributes := #[] }, { accessFlags := 25, nameIndex := 130, descriptorIndex := 124, attributes := #[] }, { accessFlags := 25, nameIndex := 136, descriptorIndex := 124, attributes := #[] }])
  fields := #[{ name := "SIOOBE_FORMATTER", type := (.object "java/util/function/BiFunction"), accessFlags := 25, slot := 0, constantValue := 0 }, { name := "AIOOBE_FORMATTER", type := (.object "java/util/function/BiFunction"), accessFlags := 25, slot := 1, constantValue := 0 }, { name := "IOOBE_FORMATTER", type := (.object "java/util/function/BiFunction"), accessFlags := 25, slot := 2, constantValue := 0 }]
  methods := #[k14m0, k14m1]
  instanceTypes := #[]
  staticTypes := #[(.object "java/util/function/BiFunction"), (.object "java/util/function/BiFunction"), (.object "java/util/function/BiFunction")]
  resolved := Array.replicate 194 none
  statics := some 2 }

def pool15 : Array CpInfo := pool [(6, .class_ 8), (1, u "java/lang/Object"), (0, u "<init>"), (0, u "()V"), (1, .class_ 14), (1, u "java/lang/StringUTF16"), (31, u "$assertionsDisabled"), (0, u "Z"), (13, u "HI_BYTE_SHIFT"), (0, u "I"), (2, u "LO_BYTE_SHIFT"), (49, .methodref 12 116), (0, .nameAndType 117 118), (0, u "compress"), (0, u "([CI[BII)I"), (3, u "([CII)[B"), (138, u "coderFromArrayLen"), (0, u "([BI)B"), (106, .class_ 371), (1, u "java/lang/StringUTF16$LinesSpliterator"), (58, u "MAX_LENGTH"), (196, .class_ 628), (0, u "java/lang/StringUTF16$CodePointsSpliterator"), (0, .class_ 630), (0, u "java/lang/StringUTF16$CharsSpliterator")] 4

def k15m0 : Method := { name := "<init>", desc := "()V", sig := { parameters := [], returnType := none }, accessFlags := 0, code := none }
def k15c1 : Code := { maxStack := 2, maxLocals := 2, code := jdk_52_method_15_code, exceptionTable := #[], attributes := #[] }
def k15m1 : Method := { name := "coderFromArrayLen", desc := "([BI)B", sig := { parameters := [(.array .byte), .int], returnType := some .byte }, accessFlags := 8, code := some k15c1 }
def k15c2 : Code := { maxStack := 5, maxLocals := 6, code := jdk_52_method_16_code, exceptionTable := #[], attributes := #[] }
def k15m2 : Method := { name := "compress", desc := "([CII)[B", sig := { parameters := [(.array .char), .int, .int], returnType := some (.array .byte) }, accessFlags := 9, code := some k15c2 }
def k15c3 : Code := { maxStack := 3, maxLocals := 7, code := jdk_52_method_21_code, exceptionTable := #[], attributes := #[] }
def k15m3 : Method := { name := "compress", desc := "([CI[BII)I", sig := { parameters := [(.array .char), .int, (.array .byte), .int, .int], returnType := some .int }, accessFlags := 9, code := some k15c3 }
/-- java/lang/StringUTF16 -/
def k15 : Class := { plain "java/lang/StringUTF16" (some 0) with
  accessFlags := 48
  interfaces := #[]
  cf := some (fileOf pool15 12 #[.nestMembers #[627, 629, 369]] #[{ accessFlags := 0, nameIndex := 9, descriptorIndex := 10, attributes := #[] }, { accessFlags := 8, nameIndex := 261, descriptorIndex := 262, attributes := #[] }, { accessFlags := 9, nameIndex := 117, descriptorIndex := 122, attributes := #[] }, { accessFlags := 9, nameIndex := 117, descriptorIndex := 118, attributes := #[] }] 48 6 #[] #[{ accessFlags := 26, nameIndex := 61, descriptorIndex := 62, attributes := #[] }, { accessFlags := 26, nameIndex := 65, descriptorIndex := 62, attributes := #[] }, { accessFlags := 24, nameIndex := 430, descriptorIndex := 62, attributes := #[] }, { accessFlags := 4120, nameIndex := 46, descriptorIndex := 47, attributes := #[] }])
  fields := #[{ name := "HI_BYTE_SHIFT", type := .int, accessFlags := 26, slot := 0, constantValue := 0 }, { name := "LO_BYTE_SHIFT", type := .int, accessFlags := 26, slot := 1, constantValue := 0 }, { name := "MAX_LENGTH", type := .int, accessFlags := 24, slot := 2, constantValue := 0 }, { name := "$assertionsDisabled", type := .boolean, accessFlags := 4120, slot := 3, constantValue := 0 }]
  methods := #[k15m0, k15m1, k15m2, k15m3]
  instanceTypes := #[]
  staticTypes := #[.int, .int, .int, .boolean]
  resolved := Array.replicate 635 none
  statics := none }

def pool16 : Array CpInfo := pool [(9, u "<init>"), (6, .class_ 18), (1, u "java/lang/Object"), (0, u "()V"), (1, .class_ 23), (1, u "jdk/internal/util/ArraysSupport"), (0, u "LOG2_ARRAY_LONG_INDEX_SCALE"), (0, u "I"), (2, u "U"), (0, u "Ljdk/internal/misc/Unsafe;"), (8, u "BIG_ENDIAN"), (0, u "Z"), (8, u "LOG2_BYTE_BIT_SIZE"), (4, u "LOG2_ARRAY_INT_INDEX_SCALE"), (54, u "JLA"), (0, u "Ljdk/internal/access/JavaLangAccess;"), (11, u "LOG2_ARRAY_BOOLEAN_INDEX_SCALE"), (9, u "LOG2_ARRAY_BYTE_INDEX_SCALE"), (5, u "LOG2_ARRAY_CHAR_INDEX_SCALE"), (5, u "LOG2_ARRAY_SHORT_INDEX_SCALE"), (18, u "LOG2_ARRAY_FLOAT_INDEX_SCALE"), (24, u "LOG2_ARRAY_DOUBLE_INDEX_SCALE"), (89, u "T_BOOLEAN"), (2, u "T_CHAR"), (1, u "T_FLOAT"), (1, u "T_DOUBLE"), (1, u "T_BYTE"), (1, u "T_SHORT"), (1, u "T_INT"), (1, u "T_LONG"), (1, u "SOFT_MAX_ARRAY_LENGTH")] 83

def k16m0 : Method := { name := "<init>", desc := "()V", sig := { parameters := [], returnType := none }, accessFlags := 2, code := none }
/-- jdk/internal/util/ArraysSupport -/
def k16 : Class := { plain "jdk/internal/util/ArraysSupport" (some 0) with
  accessFlags := 33
  interfaces := #[]
  cf := some (fileOf pool16 21 #[] #[{ accessFlags := 2, nameIndex := 9, descriptorIndex := 19, attributes := #[] }] 33 16 #[] #[{ accessFlags := 24, nameIndex := 28, descriptorIndex := 29, attributes := #[] }, { accessFlags := 26, nameIndex := 38, descriptorIndex := 39, attributes := #[] }, { accessFlags := 25, nameIndex := 121, descriptorIndex := 25, attributes := #[] }, { accessFlags := 25, nameIndex := 131, descriptorIndex := 25, attributes := #[] }, { accessFlags := 25, nameIndex := 137, descriptorIndex := 25, attributes := #[] }, { accessFlags := 25, nameIndex := 143, descriptorIndex := 25, attributes := #[] }, { accessFlags := 25, nameIndex := 53, descriptorIndex := 25, attributes := #[] }, { accessFlags := 25, nameIndex := 24, descriptorIndex := 25, attributes := #[] }, { accessFlags := 25, nameIndex := 162, descriptorIndex := 25, attributes := #[] }, { accessFlags := 25, nameIndex := 187, descriptorIndex := 25, attributes := #[] }, { accessFlags := 26, nameIndex := 48, descriptorIndex := 25, attributes := #[] }, { accessFlags := 25, nameIndex := 277, descriptorIndex := 25, attributes := #[] }, { accessFlags := 25, nameIndex := 280, descriptorIndex := 25, attributes := #[] }, { accessFlags := 25, nameIndex := 282, descriptorIndex := 25, attributes := #[] }, { accessFlags := 25, nameIndex := 284, descriptorIndex := 25, attributes := #[] }, { accessFlags := 25, nameIndex := 286, descriptorIndex := 25, attributes := #[] }, { accessFlags := 25, nameIndex := 288, descriptorIndex := 25, attributes := #[] }, { accessFlags := 25, nameIndex := 290, descriptorIndex := 25, attributes := #[] }, { accessFlags := 25, nameIndex := 292, descriptorIndex := 25, attributes := #[] }, { accessFlags := 26, nameIndex := 108, descriptorIndex := 109, attributes := #[] }, { accessFlags := 25, nameIndex := 294, descriptorIndex := 25, attributes := #[] }])
  fields := #[{ name := "U", type := (.object "jdk/internal/misc/Unsafe"), accessFlags := 24, slot := 0, constantValue := 0 }, { name := "BIG_ENDIAN", type := .boolean, accessFlags := 26, slot := 1, constantValue := 0 }, { name := "LOG2_ARRAY_BOOLEAN_INDEX_SCALE", type := .int, accessFlags := 25, slot := 2, constantValue := 0 }, { name := "LOG2_ARRAY_BYTE_INDEX_SCALE", type := .int, accessFlags := 25, slot := 3, constantValue := 0 }, { name := "LOG2_ARRAY_CHAR_INDEX_SCALE", type := .int, accessFlags := 25, slot := 4, constantValue := 0 }, { name := "LOG2_ARRAY_SHORT_INDEX_SCALE", type := .int, accessFlags := 25, slot := 5, constantValue := 0 }, { name := "LOG2_ARRAY_INT_INDEX_SCALE", type := .int, accessFlags := 25, slot := 6, constantValue := 0 }, { name := "LOG2_ARRAY_LONG_INDEX_SCALE", type := .int, accessFlags := 25, slot := 7, constantValue := 0 }, { name := "LOG2_ARRAY_FLOAT_INDEX_SCALE", type := .int, accessFlags := 25, slot := 8, constantValue := 0 }, { name := "LOG2_ARRAY_DOUBLE_INDEX_SCALE", type := .int, accessFlags := 25, slot := 9, constantValue := 0 }, { name := "LOG2_BYTE_BIT_SIZE", type := .int, accessFlags := 26, slot := 10, constantValue := 0 }, { name := "T_BOOLEAN", type := .int, accessFlags := 25, slot := 11, constantValue := 0 }, { name := "T_CHAR", type := .int, accessFlags := 25, slot := 12, constantValue := 0 }, { name := "T_FLOAT", type := .int, accessFlags := 25, slot := 13, constantValue := 0 }, { name := "T_DOUBLE", type := .int, accessFlags := 25, slot := 14, constantValue := 0 }, { name := "T_BYTE", type := .int, accessFlags := 25, slot := 15, constantValue := 0 }, { name := "T_SHORT", type := .int, accessFlags := 25, slot := 16, constantValue := 0 }, { name := "T_INT", type := .int, accessFlags := 25, slot := 17, constantValue := 0 }, { name := "T_LONG", type := .int, accessFlags := 25, slot := 18, constantValue := 0 }, { name := "JLA", type := (.object "jdk/internal/access/JavaLangAccess"), accessFlags := 26, slot := 19, constantValue := 0 }, { name := "SOFT_MAX_ARRAY_LENGTH", type := .int, accessFlags := 25, slot := 20, constantValue := 0 }]
  methods := #[k16m0]
  instanceTypes := #[]
  staticTypes := #[(.object "jdk/internal/misc/Unsafe"), .boolean, .int, .int, .int, .int, .int, .int, .int, .int, .int, .int, .int, .int, .int, .int, .int, .int, .int, (.object "jdk/internal/access/JavaLangAccess"), .int]
  resolved := Array.replicate 378 none
  statics := none }

/-- the primitive byte -/
def k17 : Class := { plain "byte" none with kind := .primitive 'B', accessFlags := 0x411 }
/-- [B -/
def k18 : Class := { plain "[B" (some 0) with kind := .array 17 .byte, interfaces := #[11, 2], accessFlags := 1041 }

/-- the primitive char -/
def k19 : Class := { plain "char" none with kind := .primitive 'C', accessFlags := 0x411 }
/-- [C -/
def k20 : Class := { plain "[C" (some 0) with kind := .array 19 .char, interfaces := #[11, 2], accessFlags := 1041 }

/-- the primitive int -/
def k21 : Class := { plain "int" none with kind := .primitive 'I', accessFlags := 0x411 }
/-- [I -/
def k22 : Class := { plain "[I" (some 0) with kind := .array 21 .int, interfaces := #[11, 2], accessFlags := 1041 }

/-- [Lcom/example/tranche/tranche/calendar/City; -/
def k23 : Class := { plain "[Lcom/example/tranche/tranche/calendar/City;" (some 0) with kind := .array 10 (.object "com/example/tranche/tranche/calendar/City"), interfaces := #[11, 2], accessFlags := 1041 }

def heap : Heap := #[{ cls := 7, slots := #[.long 0, .int 1, .null, .int 0, .null, .int 0, .int 0], vm := .statics 7 },
  { cls := 10, slots := #[.ref 4, .ref 5, .int 0, .null, .null, .null, .ref 3], vm := .statics 10 },
  { cls := 14, slots := #[.null, .null, .null], vm := .statics 14 },
  { cls := 23, slots := #[.ref 4, .ref 5], vm := .none },
  { cls := 12, slots := #[.null, .int 0, .int 0, .ref 6, .null], vm := .none },
  { cls := 13, slots := #[.null, .int 1, .int 0, .ref 7, .null], vm := .none },
  { cls := 7, slots := #[.ref 8, .int 0, .int 0, .int 0], vm := .none },
  { cls := 7, slots := #[.ref 9, .int 0, .int 0, .int 0], vm := .none },
  { cls := 18, slots := #[.int 110, .int 101, .int 119, .int 45, .int 121, .int 111, .int 114, .int 107], vm := .none },
  { cls := 18, slots := #[.int 108, .int 111, .int 110, .int 100, .int 111, .int 110], vm := .none }]
def classes : Array Class := #[k0, k1, k2, k3, k4, k5, k6, k7, k8, k9, k10, k11, k12, k13, k14, k15, k16, k17, k18, k19, k20, k21, k22, k23]
def interned : List (Array UInt16 × Addr) := []
def slotsUsed : Nat := 51
def theMethod : MethodId := ⟨1, 1⟩
def args0 : Array Value := #[.int 0, .int 0, .int 0, .int 65, .int 66]
def aboutOver (below : List Frame) : State where
  vm := { classes := classes, interned := interned.toArray }
  heap := heap
  slotsUsed := slotsUsed
  threads := #[{ frames := .invoking theMethod args0 :: below }]
def below0 : List Frame := [.native { method := ⟨0, 0⟩, args := #[] }]
def about1 : State := aboutOver below0
def p0 : Program := .bare "" "" ""
def e0 : Env := launch0.env 0 0 0
theorem w_frames : about1.frames = Frame.invoking theMethod args0 :: below0 := rfl
set_option maxRecDepth 65536 in
theorem w_args : argsFit about1.vm theMethod args0 = true := by decide +kernel
set_option maxRecDepth 65536 in
theorem w_heap : heapFits about1 = true := by decide +kernel
set_option maxRecDepth 65536 in
theorem w_runnable : about1.curStatus? = some .runnable := by decide +kernel
set_option maxRecDepth 65536 in
theorem w_alone : about1.alone = true := by decide +kernel
set_option maxRecDepth 65536 in
theorem w_named : about1.methodNamed? x = some theMethod := by decide +kernel
set_option maxRecDepth 65536 in
theorem w_hears : about1.hears theMethod below0 = true := by decide +kernel
set_option maxRecDepth 65536 in
theorem w_ripe : about1.ripe theMethod args0 below0 = true := by decide +kernel
theorem w_running : about1.status = .running := rfl
set_option maxRecDepth 65536 in
theorem w_room : about1.hasRoom e0.platform room_1 = true :=
  launch0.hasRoom_least _ room_1 (by decide +kernel) (by decide +kernel) (by decide +kernel) (by decide +kernel) (by decide +kernel) (by decide +kernel)
theorem allAtoms_all (ts : List Jvm.Cond) (a : Array Jvm.Value) (st : Jvm.State) : (allAtoms ts).before a st = ts.all (fun c => c.before a st) := by
  induction ts with
  | nil => rfl
  | cons c t ih =>
    show (Jvm.Cond.and c (allAtoms t)).before a st = _
    rw [Jvm.Cond.before_and, ih, List.all_cons]
def words1 : List Jvm.Cond := Jvm.Cond.code x code maxLocals ret :: tables_1
/-- a 'code' word, met by the world's own term for the bytes: nothing is compared byte by byte -/
theorem code_word {y : MethodName} {bytes : ByteArray} {mx : Nat} {rt : Option FieldType} {a : Array Value} {s : State} {m : MethodId} {meth : Method} {c : Code} (h1 : s.methodNamed? y = some m) (h2 : s.vm.method? m = some meth) (h3 : meth.code = some c) (h4 : c.code = bytes)
    (h5 : (c.maxLocals == mx && c.exceptionTable.isEmpty && decide (c.maxStack ≤ mostOperands) && decide (meth.sig.returnType = rt) && !meth.locks && decide (parseMethodDescriptor y.desc = some meth.sig)) = true) : (Jvm.Cond.code y bytes mx rt).before a s = true := by
  simp only [Bool.and_eq_true, beq_iff_eq, Bool.not_eq_true', decide_eq_true_eq] at h5
  obtain ⟨⟨⟨⟨⟨g1, g2⟩, g3⟩, g4⟩, g5⟩, g6⟩ := h5
  simp [Cond.before, Cond.holds, Cond.value, h1, h2, h3, h4, g1, g2, g3, g4, g5, g6]
def isCode : Jvm.Cond → Bool
  | .code _ _ _ _ => true
  | _ => false
theorem all_split {L : List Jvm.Cond} {P : Jvm.Cond → Bool} (h1 : L.all (fun c => isCode c || P c) = true) (h2 : ∀ c ∈ L.filter isCode, P c = true) : L.all P = true := by
  refine List.all_eq_true.mpr fun c hc => ?_
  have h := List.all_eq_true.mp h1 c hc
  rcases Bool.eq_false_or_eq_true (isCode c) with hi | hi
  · exact h2 c (List.mem_filter.mpr ⟨hc, hi⟩)
  · simpa [hi] using h
set_option maxRecDepth 65536 in
theorem w_c0 : (Jvm.Cond.code x code maxLocals ret).before args0 about1 = true := code_word (m := ⟨1, 1⟩) (meth := k1m1) (c := k1c1) (by decide +kernel) rfl rfl rfl (by decide +kernel)
set_option maxRecDepth 65536 in
theorem w_c1 : (Jvm.Cond.code ({ cls := "java/lang/String", name := "<init>", desc := "([C)V" } : Jvm.MethodName) jdk_42_method_3_code (2 : Nat) (Option.none : Option Jvm.ClassFile.FieldType)).before args0 about1 = true := code_word (m := ⟨7, 1⟩) (meth := k7m1) (c := k7c1) (by decide +kernel) rfl rfl rfl (by decide +kernel)
set_option maxRecDepth 65536 in
theorem w_c2 : (Jvm.Cond.code ({ cls := "java/lang/String", name := "<init>", desc := "([CIILjava/lang/Void;)V" } : Jvm.MethodName) jdk_42_method_149_code (6 : Nat) (Option.none : Option Jvm.ClassFile.FieldType)).before args0 about1 = true := code_word (m := ⟨7, 4⟩) (meth := k7m4) (c := k7c4) (by decide +kernel) rfl rfl rfl (by decide +kernel)
set_option maxRecDepth 65536 in
theorem w_c3 : (Jvm.Cond.code ({ cls := "java/lang/Object", name := "<init>", desc := "()V" } : Jvm.MethodName) object_method_1_code (1 : Nat) (Option.none : Option Jvm.ClassFile.FieldType)).before args0 about1 = true := code_word (m := ⟨0, 0⟩) (meth := k0m0) (c := k0c0) (by decide +kernel) rfl rfl rfl (by decide +kernel)
set_option maxRecDepth 65536 in
theorem w_c4 : (Jvm.Cond.code ({ cls := "java/lang/String", name := "equals", desc := "(Ljava/lang/Object;)Z" } : Jvm.MethodName) jdk_42_method_66_code (3 : Nat) (Option.some Jvm.ClassFile.FieldType.boolean)).before args0 about1 = true := code_word (m := ⟨7, 3⟩) (meth := k7m3) (c := k7c3) (by decide +kernel) rfl rfl rfl (by decide +kernel)
set_option maxRecDepth 65536 in
theorem w_c5 : (Jvm.Cond.code ({ cls := "java/lang/StringLatin1", name := "equals", desc := "([B[B)Z" } : Jvm.MethodName) jdk_43_method_13_code (3 : Nat) (Option.some Jvm.ClassFile.FieldType.boolean)).before args0 about1 = true := code_word (m := ⟨8, 2⟩) (meth := k8m2) (c := k8c2) (by decide +kernel) rfl rfl rfl (by decide +kernel)
set_option maxRecDepth 65536 in
theorem w_c6 : (Jvm.Cond.code ({ cls := "com/example/tranche/tranche/calendar/City", name := "fromLabel", desc := "(Ljava/lang/String;)Lcom/example/tranche/tranche/calendar/City;" } : Jvm.MethodName) prog_151_method_4_code (5 : Nat) (Option.some (Jvm.ClassFile.FieldType.object "com/example/tranche/tranche/calendar/City"))).before args0 about1 = true := code_word (m := ⟨10, 1⟩) (meth := k10m1) (c := k10c1) (by decide +kernel) rfl rfl rfl (by decide +kernel)
set_option maxRecDepth 65536 in
theorem w_c7 : (Jvm.Cond.code ({ cls := "com/example/tranche/tranche/calendar/City", name := "values", desc := "()[Lcom/example/tranche/tranche/calendar/City;" } : Jvm.MethodName) prog_151_method_1_code (0 : Nat) (Option.some (Jvm.ClassFile.FieldType.array (Jvm.ClassFile.FieldType.object "com/example/tranche/tranche/calendar/City")))).before args0 about1 = true := code_word (m := ⟨10, 0⟩) (meth := k10m0) (c := k10c0) (by decide +kernel) rfl rfl rfl (by decide +kernel)
set_option maxRecDepth 65536 in
theorem w_c8 : (Jvm.Cond.code ({ cls := "com/example/tranche/tranche/calendar/CityFromLabelPinLaw", name := "at", desc := "(IIIZICC)C" } : Jvm.MethodName) method_3_code (7 : Nat) (Option.some Jvm.ClassFile.FieldType.char)).before args0 about1 = true := code_word (m := ⟨1, 2⟩) (meth := k1m2) (c := k1c2) (by decide +kernel) rfl rfl rfl (by decide +kernel)
set_option maxRecDepth 65536 in
theorem w_c9 : (Jvm.Cond.code ({ cls := "java/lang/String", name := "charAt", desc := "(I)C" } : Jvm.MethodName) jdk_42_method_56_code (2 : Nat) (Option.some Jvm.ClassFile.FieldType.char)).before args0 about1 = true := code_word (m := ⟨7, 2⟩) (meth := k7m2) (c := k7c2) (by decide +kernel) rfl rfl rfl (by decide +kernel)
set_option maxRecDepth 65536 in
theorem w_c10 : (Jvm.Cond.code ({ cls := "java/lang/String", name := "isLatin1", desc := "()Z" } : Jvm.MethodName) jdk_42_method_154_code (1 : Nat) (Option.some Jvm.ClassFile.FieldType.boolean)).before args0 about1 = true := code_word (m := ⟨7, 5⟩) (meth := k7m5) (c := k7c5) (by decide +kernel) rfl rfl rfl (by decide +kernel)
set_option maxRecDepth 65536 in
theorem w_c11 : (Jvm.Cond.code ({ cls := "java/lang/StringLatin1", name := "charAt", desc := "([BI)C" } : Jvm.MethodName) jdk_43_method_2_code (2 : Nat) (Option.some Jvm.ClassFile.FieldType.char)).before args0 about1 = true := code_word (m := ⟨8, 1⟩) (meth := k8m1) (c := k8c1) (by decide +kernel) rfl rfl rfl (by decide +kernel)
set_option maxRecDepth 65536 in
theorem w_c12 : (Jvm.Cond.code ({ cls := "java/lang/String", name := "checkIndex", desc := "(II)V" } : Jvm.MethodName) jdk_42_method_155_code (2 : Nat) (Option.none : Option Jvm.ClassFile.FieldType)).before args0 about1 = true := code_word (m := ⟨7, 6⟩) (meth := k7m6) (c := k7c6) (by decide +kernel) rfl rfl rfl (by decide +kernel)
set_option maxRecDepth 65536 in
theorem w_c13 : (Jvm.Cond.code ({ cls := "jdk/internal/util/Preconditions", name := "checkIndex", desc := "(IILjava/util/function/BiFunction;)I" } : Jvm.MethodName) jdk_41_method_11_code (3 : Nat) (Option.some Jvm.ClassFile.FieldType.int)).before args0 about1 = true := code_word (m := ⟨14, 1⟩) (meth := k14m1) (c := k14c1) (by decide +kernel) rfl rfl rfl (by decide +kernel)
set_option maxRecDepth 65536 in
theorem w_c14 : (Jvm.Cond.code ({ cls := "java/lang/StringUTF16", name := "compress", desc := "([CII)[B" } : Jvm.MethodName) jdk_52_method_16_code (6 : Nat) (Option.some (Jvm.ClassFile.FieldType.array Jvm.ClassFile.FieldType.byte))).before args0 about1 = true := code_word (m := ⟨15, 2⟩) (meth := k15m2) (c := k15c2) (by decide +kernel) rfl rfl rfl (by decide +kernel)
set_option maxRecDepth 65536 in
theorem w_c15 : (Jvm.Cond.code ({ cls := "java/lang/StringUTF16", name := "compress", desc := "([CI[BII)I" } : Jvm.MethodName) jdk_52_method_21_code (7 : Nat) (Option.some Jvm.ClassFile.FieldType.int)).before args0 about1 = true := code_word (m := ⟨15, 3⟩) (meth := k15m3) (c := k15c3) (by decide +kernel) rfl rfl rfl (by decide +kernel)
set_option maxRecDepth 65536 in
theorem w_c16 : (Jvm.Cond.code ({ cls := "java/lang/StringUTF16", name := "coderFromArrayLen", desc := "([BI)B" } : Jvm.MethodName) jdk_52_method_15_code (2 : Nat) (Option.some Jvm.ClassFile.FieldType.byte)).before args0 about1 = true := code_word (m := ⟨15, 1⟩) (meth := k15m1) (c := k15c1) (by decide +kernel) rfl rfl rfl (by decide +kernel)
def codes1 : List Jvm.Cond := [Jvm.Cond.code x code maxLocals ret, Jvm.Cond.code ({ cls := "java/lang/String", name := "<init>", desc := "([C)V" } : Jvm.MethodName) jdk_42_method_3_code (2 : Nat) (Option.none : Option Jvm.ClassFile.FieldType), Jvm.Cond.code ({ cls := "java/lang/String", name := "<init>", desc := "([CIILjava/lang/Void;)V" } : Jvm.MethodName) jdk_42_method_149_code (6 : Nat) (Option.none : Option Jvm.ClassFile.FieldType), Jvm.Cond.code ({ cls := "java/lang/Object", name := "<init>", desc := "()V" } : Jvm.MethodName) object_method_1_code (1 : Nat) (Option.none : Option Jvm.ClassFile.FieldType), Jvm.Cond.code ({ cls := "java/lang/String", name := "equals", desc := "(Ljava/lang/Object;)Z" } : Jvm.MethodName) jdk_42_method_66_code (3 : Nat) (Option.some Jvm.ClassFile.FieldType.boolean), Jvm.Cond.code ({ cls := "java/lang/StringLatin1", name := "equals", desc := "([B[B)Z" } : Jvm.MethodName) jdk_43_method_13_code (3 : Nat) (Option.some Jvm.ClassFile.FieldType.boolean), Jvm.Cond.code ({ cls := "com/example/tranche/tranche/calendar/City", name := "fromLabel", desc := "(Ljava/lang/String;)Lcom/example/tranche/tranche/calendar/City;" } : Jvm.MethodName) prog_151_method_4_code (5 : Nat) (Option.some (Jvm.ClassFile.FieldType.object "com/example/tranche/tranche/calendar/City")), Jvm.Cond.code ({ cls := "com/example/tranche/tranche/calendar/City", name := "values", desc := "()[Lcom/example/tranche/tranche/calendar/City;" } : Jvm.MethodName) prog_151_method_1_code (0 : Nat) (Option.some (Jvm.ClassFile.FieldType.array (Jvm.ClassFile.FieldType.object "com/example/tranche/tranche/calendar/City"))), Jvm.Cond.code ({ cls := "com/example/tranche/tranche/calendar/CityFromLabelPinLaw", name := "at", desc := "(IIIZICC)C" } : Jvm.MethodName) method_3_code (7 : Nat) (Option.some Jvm.ClassFile.FieldType.char), Jvm.Cond.code ({ cls := "java/lang/String", name := "charAt", desc := "(I)C" } : Jvm.MethodName) jdk_42_method_56_code (2 : Nat) (Option.some Jvm.ClassFile.FieldType.char), Jvm.Cond.code ({ cls := "java/lang/String", name := "isLatin1", desc := "()Z" } : Jvm.MethodName) jdk_42_method_154_code (1 : Nat) (Option.some Jvm.ClassFile.FieldType.boolean), Jvm.Cond.code ({ cls := "java/lang/StringLatin1", name := "charAt", desc := "([BI)C" } : Jvm.MethodName) jdk_43_method_2_code (2 : Nat) (Option.some Jvm.ClassFile.FieldType.char), Jvm.Cond.code ({ cls := "java/lang/String", name := "checkIndex", desc := "(II)V" } : Jvm.MethodName) jdk_42_method_155_code (2 : Nat) (Option.none : Option Jvm.ClassFile.FieldType), Jvm.Cond.code ({ cls := "jdk/internal/util/Preconditions", name := "checkIndex", desc := "(IILjava/util/function/BiFunction;)I" } : Jvm.MethodName) jdk_41_method_11_code (3 : Nat) (Option.some Jvm.ClassFile.FieldType.int), Jvm.Cond.code ({ cls := "java/lang/StringUTF16", name := "compress", desc := "([CII)[B" } : Jvm.MethodName) jdk_52_method_16_code (6 : Nat) (Option.some (Jvm.ClassFile.FieldType.array Jvm.ClassFile.FieldType.byte)), Jvm.Cond.code ({ cls := "java/lang/StringUTF16", name := "compress", desc := "([CI[BII)I" } : Jvm.MethodName) jdk_52_method_21_code (7 : Nat) (Option.some Jvm.ClassFile.FieldType.int), Jvm.Cond.code ({ cls := "java/lang/StringUTF16", name := "coderFromArrayLen", desc := "([BI)B" } : Jvm.MethodName) jdk_52_method_15_code (2 : Nat) (Option.some Jvm.ClassFile.FieldType.byte)]
set_option maxRecDepth 65536 in
theorem codes_eq : words1.filter isCode = codes1 := rfl
theorem w_codes : ∀ c ∈ words1.filter isCode, c.before args0 about1 = true := by
  rw [codes_eq]
  intro c hc
  simp only [codes1, List.mem_cons, List.not_mem_nil, or_false] at hc
  rcases hc with rfl | rfl | rfl | rfl | rfl | rfl | rfl | rfl | rfl | rfl | rfl | rfl | rfl | rfl | rfl | rfl | rfl
  · exact w_c0
  · exact w_c1
  · exact w_c2
  · exact w_c3
  · exact w_c4
  · exact w_c5
  · exact w_c6
  · exact w_c7
  · exact w_c8
  · exact w_c9
  · exact w_c10
  · exact w_c11
  · exact w_c12
  · exact w_c13
  · exact w_c14
  · exact w_c15
  · exact w_c16
set_option maxRecDepth 65536 in
theorem w_t1 : (words1.take 24).all (fun c => isCode c || c.before args0 about1) = true := by decide +kernel
set_option maxRecDepth 65536 in
theorem w_t2 : ((words1.drop 24).take 24).all (fun c => isCode c || c.before args0 about1) = true := by decide +kernel
set_option maxRecDepth 65536 in
theorem w_t3 : (((words1.drop 24).drop 24).take 24).all (fun c => isCode c || c.before args0 about1) = true := by decide +kernel
set_option maxRecDepth 65536 in
theorem w_t4 : ((((words1.drop 24).drop 24).drop 24).take 24).all (fun c => isCode c || c.before args0 about1) = true := by decide +kernel
set_option maxRecDepth 65536 in
theorem w_t5 : ((((words1.drop 24).drop 24).drop 24).drop 24).all (fun c => isCode c || c.before args0 about1) = true := by decide +kernel
theorem w_tables : (allAtoms (Jvm.Cond.code x code maxLocals ret :: tables_1)).before args0 about1 = true := by
  rw [allAtoms_all]
  show words1.all (fun c => c.before args0 about1) = true
  refine all_split ?_ w_codes
  rw [← List.take_append_drop 24 words1, List.all_append, w_t1, ← List.take_append_drop 24 (words1.drop 24), List.all_append, w_t2, ← List.take_append_drop 24 ((words1.drop 24).drop 24), List.all_append, w_t3, ← List.take_append_drop 24 (((words1.drop 24).drop 24).drop 24), List.all_append, w_t4, w_t5]
  rfl
set_option maxRecDepth 65536 in
theorem w_rest : rest_1_c.before args0 about1 = true := by decide +kernel
set_option maxRecDepth 65536 in
theorem w_case : (Jvm.Cond.and given_1 narrow_1).before args0 about1 = true := by decide +kernel
set_option maxRecDepth 65536 in
theorem w_consts : constsHeld consts_1 about1 := Jvm.Lit.constsHeldB_iff.mp (by decide +kernel)
theorem w_applies : (headSpec (Jvm.Cond.code x code maxLocals ret :: tables_1) room_1).applies x e0.platform about1 = true :=
  (Spec.applies_iff w_frames).mpr ⟨w_running, w_runnable, w_alone, w_named, w_hears, w_ripe, w_room, w_tables⟩
theorem atStart : AtStart classFile x code maxLocals ret World_1 tables_1 room_1 Calls_1 rest_1 Pre_1 launch0 p0 e0 about1 theMethod args0 below0 :=
  ⟨lists_1, trivial, launch0.admits_env _ _ _, launch0.least_env, fairChoices_fair.cas, fairChoices_fair.clock, w_frames, w_args, w_heap, w_applies, ⟨w_consts, trivial⟩, w_rest, w_case⟩
end start1
theorem witness_1 : WitnessClaimed_1 := ⟨start1.p0, start1.e0, start1.about1, start1.theMethod, start1.args0, start1.below0, start1.atStart⟩
end Jvm.Pilot.@@N@@
