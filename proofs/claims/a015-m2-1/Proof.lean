import JvmDerived
import JvmDerived.Pilot.@@N@@Statement
import JvmDerived.Pilot.@@N@@Code
set_option linter.unusedVariables false
set_option linter.unusedSimpArgs false
namespace Jvm.OwnKit
open Jvm Jvm.ClassFile Sem Op Lib Jvm.Free Jvm.Stand Jvm.LawKit Jvm.RoadKit Bundle
abbrev EList := List (String × Nat)
def Dc (B : ByteArray) (pc : Nat) (i : Instr) (n pc' : Nat) : Prop := decode B pc = .ok (i, n) ∧ pc + n = pc'
def Db (B : ByteArray) (pc : Nat) (i : Instr) (o : Int) (pc' tgt : Nat) : Prop := decode B pc = .ok (i, 3) ∧ pc + 3 = pc' ∧ 0 ≤ (pc : Int) + o ∧ ((pc : Int) + o).toNat = tgt
def Go (p : Program) (e : Env) (below : List Frame) (F : Outcome → State → Prop) (T : State) (g : JFrame) : Prop :=
  ∃ s₂ o, Steps p.tables e below (T.setTop g) s₂ ∧ s₂.status = .running ∧ Ended s₂ below o ∧ F o s₂
def Sf (md : Option EList) (Z s' : State) (h : Heap) (x : Addr) : Prop := match md with | none => True | some EL => Safe Z EL s'.vm h x
def Jd (md : Option EList) (Z s s' : State) (h : Heap) : Prop := match md with
  | none => s' = s
  | some EL => ∃ (vm0 : Vm) (k0 : Nat) (a0 : Array Value), s' = s.setVm vm0 ∧ s.Since vm0 k0 ∧ k0 ≤ h.size ∧ CHr Z EL s.vm s.heap vm0 h ∧ EW Z a0 EL
theorem Jd.ext {md : Option EList} {Z s s' : State} {h h' : Heap} (J : Jd md Z s s' h) (E : Ext h h') : Jd md Z s s' h' := by
  cases md with
  | none => exact J
  | some EL => obtain ⟨vm0, k0, a0, rfl, j2, j3, j4, j5⟩ := J; exact ⟨vm0, k0, a0, rfl, j2, Nat.le_trans j3 E.1, j4.trans (CHr.ext E j4.1), j5⟩
theorem Jd.keep {md : Option EList} {Z s s' : State} {h h' : Heap} {ws : List Addr} (J : Jd md Z s s' h) (K : Keep h h' ws) (hs : ∀ x ∈ ws, Sf md Z s' h x) : Jd md Z s s' h' := by
  cases md with
  | none => exact J
  | some EL => obtain ⟨vm0, k0, a0, rfl, j2, j3, j4, j5⟩ := J; exact ⟨vm0, k0, a0, rfl, j2, Nat.le_trans j3 K.1, j4.trans (CHr.keep K hs j4.1), j5⟩
theorem Sf.ext {md : Option EList} {Z s s' : State} {h h' : Heap} {x : Addr} (S : Sf md Z s' h x) (J : Jd md Z s s' h) (E : Ext h h') : Sf md Z s' h' x := by
  cases md with
  | none => trivial
  | some EL => obtain ⟨vm0, k0, a0, rfl, j2, j3, j4, j5⟩ := J; exact Safe.ext E j4.1 S
theorem Sf.keep {md : Option EList} {Z s s' : State} {h h' : Heap} {x : Addr} {ws : List Addr} (S : Sf md Z s' h x) (J : Jd md Z s s' h) (K : Keep h h' ws) (hs : ∀ x ∈ ws, Sf md Z s' h x) : Sf md Z s' h' x := by
  cases md with
  | none => trivial
  | some EL => obtain ⟨vm0, k0, a0, rfl, j2, j3, j4, j5⟩ := J; exact Safe.keep K hs j4.1 S
theorem Sf.new {md : Option EList} {Z s' : State} {h : Heap} {x : Addr} (q : h.size ≤ x) : Sf md Z s' h x := by
  cases md with
  | none => trivial
  | some EL => exact Safe.new q
theorem Ext.rfl' (h : Heap) : Ext h h := ⟨Nat.le_refl _, fun _ _ q => q⟩
theorem Ext.tr {h h' h2 : Heap} (A : Ext h h') (B : Ext h' h2) : Ext h h2 := ⟨Nat.le_trans A.1 B.1, fun a c q => B.2 a c (A.2 a c q)⟩
/-- a keep whose written cells were made since -/
theorem Ext.kp {h h' h2 : Heap} {ws : List Addr} (A : Ext h h') (B : Keep h' h2 ws) (q : ∀ x ∈ ws, h.size ≤ x) : Ext h h2 := ⟨Nat.le_trans A.1 B.1, fun a c r => B.2.1 a c (A.2 a c r) fun z => absurd (Array.getElem?_eq_some_iff.mp r).1 (Nat.not_lt.mpr (q a z))⟩
theorem Ext.kp1 {h h' h2 : Heap} {x : Addr} (A : Ext h h') (B : Keep h' h2 [x]) (q : h.size ≤ x) : Ext h h2 := Ext.kp A B (allS q all0)
theorem Ext.of0 {h h' : Heap} (B : Keep h h' []) : Ext h h' := ⟨B.1, fun a c r => B.2.1 a c r nin0⟩
theorem Ext.keep {h h' : Heap} (E : Ext h h') (ws : List Addr) : Keep h h' ws := (Keep.refl h ws).ext E
def Cx (p : Program) (l : Launch) (e : Env) (R : Room) (s : State) (m : MethodId) (args : Array Value) (below : List Frame) (meth : Method) (c : Code) (B : ByteArray) (ML : Nat) (Z : State) (own : String) (n0 : Nat) (md : Option EList) (T : State) (h : Heap) (ws : List Addr) (cells slots : Nat) : Prop :=
  (p.tables.exec = Jvm.exec ∧ c.code = B ∧ c.maxLocals = ML) ∧ T.heap = h ∧ n0 ≤ h.size ∧ ∃ (s' : State) (locs : List Loc), Stand p l e R s' m args below meth c T locs cells slots ∧ Z.Warmed39 s'.vm ∧ s'.vm.findClass own = some m.cls ∧ Fr n0 locs ∧ Jd md Z s s' h ∧ ∀ x ∈ ws, n0 ≤ x ∧ x < h.size ∧ Sf md Z s' h x
section Kit
variable {p : Program} {l : Launch} {e : Env} {R : Room} {s : State} {m : MethodId} {args : Array Value} {below : List Frame} {meth : Method} {c : Code} {B : ByteArray} {ML : Nat} {Z : State} {own : String} {n0 : Nat} {md : Option EList} {T : State} {h : Heap} {ws : List Addr} {cells slots : Nat} {F : Outcome → State → Prop} {pc pc' tgt : Nat} {Ls Ls' : Array Slot} {St : List Value} {a0 : Array Value}
theorem Go.st {T T' : State} {g g' : JFrame} (k : Go p e below F T' g') (q : ∀ t, Steps p.tables e below (T'.setTop g') t → Steps p.tables e below (T.setTop g) t) : Go p e below F T g := by
  obtain ⟨s2, o, h1, h2⟩ := k; exact ⟨s2, o, q _ h1, h2⟩
theorem Go.tr {T T' : State} {g g' : JFrame} (k : Go p e below F T' g') (q : Steps p.tables e below (T.setTop g) (T'.setTop g')) : Go p e below F T g := by
  obtain ⟨s2, o, h1, h2⟩ := k; exact ⟨s2, o, q.trans h1, h2⟩
theorem Cx.mono {c' s' : Nat} (K : Cx p l e R s m args below meth c B ML Z own n0 md T h ws cells slots) (q1 : cells ≤ c') (q2 : slots ≤ s') : Cx p l e R s m args below meth c B ML Z own n0 md T h ws c' s' := by
  obtain ⟨k1, k2, k3, s1, locs, X, r⟩ := K
  exact ⟨k1, k2, k3, s1, locs, X.mono q1 q2, r⟩
theorem Cx.sub {ws' : List Addr} (K : Cx p l e R s m args below meth c B ML Z own n0 md T h ws cells slots) (q : ∀ x ∈ ws', x ∈ ws) : Cx p l e R s m args below meth c B ML Z own n0 md T h ws' cells slots := by
  obtain ⟨k1, k2, k3, s1, locs, X, r1, r2, r3, r4, r5⟩ := K
  exact ⟨k1, k2, k3, s1, locs, X, r1, r2, r3, r4, fun x hx => r5 x (q x hx)⟩
theorem Cx.n0le (K : Cx p l e R s m args below meth c B ML Z own n0 md T h ws cells slots) : n0 ≤ h.size := K.2.2.1
theorem Cx.wsge (K : Cx p l e R s m args below meth c B ML Z own n0 md T h ws cells slots) {x : Addr} (q : x ∈ ws) : n0 ≤ x := by obtain ⟨-, -, -, s1, locs, X, r1, r2, r3, r4, r5⟩ := K; exact (r5 x q).1
theorem Cx.wslt (K : Cx p l e R s m args below meth c B ML Z own n0 md T h ws cells slots) {x : Addr} (q : x ∈ ws) : x < h.size := by obtain ⟨-, -, -, s1, locs, X, r1, r2, r3, r4, r5⟩ := K; exact (r5 x q).2.1

theorem gAload (K : Cx p l e R s m args below meth c B ML Z own n0 md T h ws cells slots) {k : Nat} {v : Value} (hd : Dc B pc (.aload k) 2 pc') (hl : Ls[k]? = some (.val v)) (hv : v.isRef = true) (r : Go p e below F T (mkF m pc' Ls (v :: St))) : Go p e below F T (mkF m pc Ls St) := by
  obtain ⟨⟨hx, hby, -⟩, -, -, s1, locs, X, -⟩ := K
  obtain ⟨hd, rfl⟩ := hd
  exact r.st fun t q => XS.aload X.here hx rfl (hb hby hd) hl hv q

theorem gAloadN (K : Cx p l e R s m args below meth c B ML Z own n0 md T h ws cells slots) {k : Fin 4} {v : Value} (hd : Dc B pc (.aload_n k) 1 pc') (hl : Ls[k.val]? = some (.val v)) (hv : v.isRef = true) (r : Go p e below F T (mkF m pc' Ls (v :: St))) : Go p e below F T (mkF m pc Ls St) := by
  obtain ⟨⟨hx, hby, -⟩, -, -, s1, locs, X, -⟩ := K
  obtain ⟨hd, rfl⟩ := hd
  exact r.st fun t q => XS.aloadN X.here hx rfl (hb hby hd) hl hv q

theorem gIload (K : Cx p l e R s m args below meth c B ML Z own n0 md T h ws cells slots) {k : Nat} {v : Int32} (hd : Dc B pc (.iload k) 2 pc') (hl : Ls[k]? = some (.val (.int v))) (r : Go p e below F T (mkF m pc' Ls (.int v :: St))) : Go p e below F T (mkF m pc Ls St) := by
  obtain ⟨⟨hx, hby, -⟩, -, -, s1, locs, X, -⟩ := K
  obtain ⟨hd, rfl⟩ := hd
  exact r.st fun t q => XS.iload X.here hx rfl (hb hby hd) hl q

theorem gIloadN (K : Cx p l e R s m args below meth c B ML Z own n0 md T h ws cells slots) {k : Fin 4} {v : Int32} (hd : Dc B pc (.iload_n k) 1 pc') (hl : Ls[k.val]? = some (.val (.int v))) (r : Go p e below F T (mkF m pc' Ls (.int v :: St))) : Go p e below F T (mkF m pc Ls St) := by
  obtain ⟨⟨hx, hby, -⟩, -, -, s1, locs, X, -⟩ := K
  obtain ⟨hd, rfl⟩ := hd
  exact r.st fun t q => XS.iloadN X.here hx rfl (hb hby hd) hl q

theorem gLload (K : Cx p l e R s m args below meth c B ML Z own n0 md T h ws cells slots) {k : Nat} {v : Int64} (hd : Dc B pc (.lload k) 2 pc') (hl : Ls[k]? = some (.val (.long v))) (r : Go p e below F T (mkF m pc' Ls (.long v :: St))) : Go p e below F T (mkF m pc Ls St) := by
  obtain ⟨⟨hx, hby, -⟩, -, -, s1, locs, X, -⟩ := K
  obtain ⟨hd, rfl⟩ := hd
  exact r.st fun t q => XT.lload X.here hx rfl (hb hby hd) hl q

theorem gLloadN (K : Cx p l e R s m args below meth c B ML Z own n0 md T h ws cells slots) {k : Fin 4} {v : Int64} (hd : Dc B pc (.lload_n k) 1 pc') (hl : Ls[k.val]? = some (.val (.long v))) (r : Go p e below F T (mkF m pc' Ls (.long v :: St))) : Go p e below F T (mkF m pc Ls St) := by
  obtain ⟨⟨hx, hby, -⟩, -, -, s1, locs, X, -⟩ := K
  obtain ⟨hd, rfl⟩ := hd
  exact r.st fun t q => XT.lloadN X.here hx rfl (hb hby hd) hl q

theorem gIconst (K : Cx p l e R s m args below meth c B ML Z own n0 md T h ws cells slots) {i : Int} (v : Int32) (hd : Dc B pc (.iconst i) 1 pc') (hv : Int32.ofInt i = v) (r : Go p e below F T (mkF m pc' Ls (.int v :: St))) : Go p e below F T (mkF m pc Ls St) := by
  obtain ⟨⟨hx, hby, -⟩, -, -, s1, locs, X, -⟩ := K
  obtain ⟨hd, rfl⟩ := hd
  exact r.st fun t q => XT.iconstV X.here hx rfl v (hb hby hd) hv q

theorem gBipush (K : Cx p l e R s m args below meth c B ML Z own n0 md T h ws cells slots) {i : Int} (v : Int32) (hd : Dc B pc (.bipush i) 2 pc') (hv : (Int8.ofInt i).toInt32 = v) (r : Go p e below F T (mkF m pc' Ls (.int v :: St))) : Go p e below F T (mkF m pc Ls St) := by
  obtain ⟨⟨hx, hby, -⟩, -, -, s1, locs, X, -⟩ := K
  obtain ⟨hd, rfl⟩ := hd
  exact r.st fun t q => XT.bipushV X.here hx rfl v (hb hby hd) hv q

theorem gSipush (K : Cx p l e R s m args below meth c B ML Z own n0 md T h ws cells slots) {i : Int} (v : Int32) (hd : Dc B pc (.sipush i) 3 pc') (hv : (Int16.ofInt i).toInt32 = v) (r : Go p e below F T (mkF m pc' Ls (.int v :: St))) : Go p e below F T (mkF m pc Ls St) := by
  obtain ⟨⟨hx, hby, -⟩, -, -, s1, locs, X, -⟩ := K
  obtain ⟨hd, rfl⟩ := hd
  exact r.st fun t q => XT.sipushV X.here hx rfl v (hb hby hd) hv q

theorem gNull (K : Cx p l e R s m args below meth c B ML Z own n0 md T h ws cells slots)  (hd : Dc B pc (.aconst_null) 1 pc') (r : Go p e below F T (mkF m pc' Ls (.null :: St))) : Go p e below F T (mkF m pc Ls St) := by
  obtain ⟨⟨hx, hby, -⟩, -, -, s1, locs, X, -⟩ := K
  obtain ⟨hd, rfl⟩ := hd
  exact r.st fun t q => XS.aconstNull X.here hx rfl (hb hby hd) q

theorem gIadd (K : Cx p l e R s m args below meth c B ML Z own n0 md T h ws cells slots) {x y : Int32} (hd : Dc B pc (.iadd) 1 pc') (r : Go p e below F T (mkF m pc' Ls (.int (x + y) :: St))) : Go p e below F T (mkF m pc Ls (.int y :: .int x :: St)) := by
  obtain ⟨⟨hx, hby, -⟩, -, -, s1, locs, X, -⟩ := K
  obtain ⟨hd, rfl⟩ := hd
  exact r.st fun t q => XS.iadd X.here hx rfl (hb hby hd) rfl q

theorem gIsub (K : Cx p l e R s m args below meth c B ML Z own n0 md T h ws cells slots) {x y : Int32} (hd : Dc B pc (.isub) 1 pc') (r : Go p e below F T (mkF m pc' Ls (.int (x - y) :: St))) : Go p e below F T (mkF m pc Ls (.int y :: .int x :: St)) := by
  obtain ⟨⟨hx, hby, -⟩, -, -, s1, locs, X, -⟩ := K
  obtain ⟨hd, rfl⟩ := hd
  exact r.st fun t q => XS.isub X.here hx rfl (hb hby hd) rfl q

theorem gIand (K : Cx p l e R s m args below meth c B ML Z own n0 md T h ws cells slots) {x y : Int32} (hd : Dc B pc (.iand) 1 pc') (r : Go p e below F T (mkF m pc' Ls (.int (x &&& y) :: St))) : Go p e below F T (mkF m pc Ls (.int y :: .int x :: St)) := by
  obtain ⟨⟨hx, hby, -⟩, -, -, s1, locs, X, -⟩ := K
  obtain ⟨hd, rfl⟩ := hd
  exact r.st fun t q => XS.iand X.here hx rfl (hb hby hd) rfl q

theorem gImul (K : Cx p l e R s m args below meth c B ML Z own n0 md T h ws cells slots) {x y : Int32} (hd : Dc B pc (.imul) 1 pc') (r : Go p e below F T (mkF m pc' Ls (.int (x * y) :: St))) : Go p e below F T (mkF m pc Ls (.int y :: .int x :: St)) := by
  obtain ⟨⟨hx, hby, -⟩, -, -, s1, locs, X, -⟩ := K
  obtain ⟨hd, rfl⟩ := hd
  exact r.st fun t q => XS.imul X.here hx rfl (hb hby hd) rfl q

theorem gIor (K : Cx p l e R s m args below meth c B ML Z own n0 md T h ws cells slots) {x y : Int32} (hd : Dc B pc (.ior) 1 pc') (r : Go p e below F T (mkF m pc' Ls (.int (x ||| y) :: St))) : Go p e below F T (mkF m pc Ls (.int y :: .int x :: St)) := by
  obtain ⟨⟨hx, hby, -⟩, -, -, s1, locs, X, -⟩ := K
  obtain ⟨hd, rfl⟩ := hd
  exact r.st fun t q => XT.ior X.here hx rfl (hb hby hd) rfl q

theorem gIxor (K : Cx p l e R s m args below meth c B ML Z own n0 md T h ws cells slots) {x y : Int32} (hd : Dc B pc (.ixor) 1 pc') (r : Go p e below F T (mkF m pc' Ls (.int (x ^^^ y) :: St))) : Go p e below F T (mkF m pc Ls (.int y :: .int x :: St)) := by
  obtain ⟨⟨hx, hby, -⟩, -, -, s1, locs, X, -⟩ := K
  obtain ⟨hd, rfl⟩ := hd
  exact r.st fun t q => XT.ixor X.here hx rfl (hb hby hd) rfl q

theorem gIshl (K : Cx p l e R s m args below meth c B ML Z own n0 md T h ws cells slots) {x y : Int32} (hd : Dc B pc (.ishl) 1 pc') (r : Go p e below F T (mkF m pc' Ls (.int (x <<< (y &&& 31)) :: St))) : Go p e below F T (mkF m pc Ls (.int y :: .int x :: St)) := by
  obtain ⟨⟨hx, hby, -⟩, -, -, s1, locs, X, -⟩ := K
  obtain ⟨hd, rfl⟩ := hd
  exact r.st fun t q => XT.ishl X.here hx rfl (hb hby hd) rfl q

theorem gIshr (K : Cx p l e R s m args below meth c B ML Z own n0 md T h ws cells slots) {x y : Int32} (hd : Dc B pc (.ishr) 1 pc') (r : Go p e below F T (mkF m pc' Ls (.int (x >>> (y &&& 31)) :: St))) : Go p e below F T (mkF m pc Ls (.int y :: .int x :: St)) := by
  obtain ⟨⟨hx, hby, -⟩, -, -, s1, locs, X, -⟩ := K
  obtain ⟨hd, rfl⟩ := hd
  exact r.st fun t q => XT.ishr X.here hx rfl (hb hby hd) rfl q

theorem gIushr (K : Cx p l e R s m args below meth c B ML Z own n0 md T h ws cells slots) {x y : Int32} (hd : Dc B pc (.iushr) 1 pc') (r : Go p e below F T (mkF m pc' Ls (.int (XT.ushr x y) :: St))) : Go p e below F T (mkF m pc Ls (.int y :: .int x :: St)) := by
  obtain ⟨⟨hx, hby, -⟩, -, -, s1, locs, X, -⟩ := K
  obtain ⟨hd, rfl⟩ := hd
  exact r.st fun t q => XT.iushr X.here hx rfl (hb hby hd) rfl q

theorem gIdiv (K : Cx p l e R s m args below meth c B ML Z own n0 md T h ws cells slots) {x y : Int32} (hd : Dc B pc (.idiv) 1 pc') (hy : y ≠ 0) (r : Go p e below F T (mkF m pc' Ls (.int (x / y) :: St))) : Go p e below F T (mkF m pc Ls (.int y :: .int x :: St)) := by
  obtain ⟨⟨hx, hby, -⟩, -, -, s1, locs, X, -⟩ := K
  obtain ⟨hd, rfl⟩ := hd
  exact r.st fun t q => XS.idiv X.here hx rfl (hb hby hd) rfl hy q

theorem gIrem (K : Cx p l e R s m args below meth c B ML Z own n0 md T h ws cells slots) {x y : Int32} (hd : Dc B pc (.irem) 1 pc') (hy : y ≠ 0) (r : Go p e below F T (mkF m pc' Ls (.int (x % y) :: St))) : Go p e below F T (mkF m pc Ls (.int y :: .int x :: St)) := by
  obtain ⟨⟨hx, hby, -⟩, -, -, s1, locs, X, -⟩ := K
  obtain ⟨hd, rfl⟩ := hd
  exact r.st fun t q => iremM X hx rfl (hb hby hd) rfl hy q

theorem gIneg (K : Cx p l e R s m args below meth c B ML Z own n0 md T h ws cells slots) {x : Int32} (hd : Dc B pc (.ineg) 1 pc') (r : Go p e below F T (mkF m pc' Ls (.int (-x) :: St))) : Go p e below F T (mkF m pc Ls (.int x :: St)) := by
  obtain ⟨⟨hx, hby, -⟩, -, -, s1, locs, X, -⟩ := K
  obtain ⟨hd, rfl⟩ := hd
  exact r.st fun t q => XS.ineg X.here hx rfl (hb hby hd) rfl q

theorem gI2b (K : Cx p l e R s m args below meth c B ML Z own n0 md T h ws cells slots) {x : Int32} (hd : Dc B pc (.i2b) 1 pc') (r : Go p e below F T (mkF m pc' Ls (.int x.toInt8.toInt32 :: St))) : Go p e below F T (mkF m pc Ls (.int x :: St)) := by
  obtain ⟨⟨hx, hby, -⟩, -, -, s1, locs, X, -⟩ := K
  obtain ⟨hd, rfl⟩ := hd
  exact r.st fun t q => XT.i2b X.here hx rfl (hb hby hd) rfl q

theorem gI2c (K : Cx p l e R s m args below meth c B ML Z own n0 md T h ws cells slots) {x : Int32} (hd : Dc B pc (.i2c) 1 pc') (r : Go p e below F T (mkF m pc' Ls (.int x.toUInt32.toUInt16.toUInt32.toInt32 :: St))) : Go p e below F T (mkF m pc Ls (.int x :: St)) := by
  obtain ⟨⟨hx, hby, -⟩, -, -, s1, locs, X, -⟩ := K
  obtain ⟨hd, rfl⟩ := hd
  exact r.st fun t q => XT.i2c X.here hx rfl (hb hby hd) rfl q

theorem gL2i (K : Cx p l e R s m args below meth c B ML Z own n0 md T h ws cells slots) {x : Int64} (hd : Dc B pc (.l2i) 1 pc') (r : Go p e below F T (mkF m pc' Ls (.int x.toInt32 :: St))) : Go p e below F T (mkF m pc Ls (.long x :: St)) := by
  obtain ⟨⟨hx, hby, -⟩, -, -, s1, locs, X, -⟩ := K
  obtain ⟨hd, rfl⟩ := hd
  exact r.st fun t q => XT.l2i X.here hx rfl (hb hby hd) rfl q

theorem gLand (K : Cx p l e R s m args below meth c B ML Z own n0 md T h ws cells slots) {x y : Int64} (hd : Dc B pc (.land) 1 pc') (r : Go p e below F T (mkF m pc' Ls (.long (x &&& y) :: St))) : Go p e below F T (mkF m pc Ls (.long y :: .long x :: St)) := by
  obtain ⟨⟨hx, hby, -⟩, -, -, s1, locs, X, -⟩ := K
  obtain ⟨hd, rfl⟩ := hd
  exact r.st fun t q => XT.land X.here hx rfl (hb hby hd) rfl q

theorem gLushr (K : Cx p l e R s m args below meth c B ML Z own n0 md T h ws cells slots) {x : Int64} {y : Int32} (hd : Dc B pc (.lushr) 1 pc') (r : Go p e below F T (mkF m pc' Ls (.long (XT.ushrL x y) :: St))) : Go p e below F T (mkF m pc Ls (.int y :: .long x :: St)) := by
  obtain ⟨⟨hx, hby, -⟩, -, -, s1, locs, X, -⟩ := K
  obtain ⟨hd, rfl⟩ := hd
  exact r.st fun t q => XT.lushr X.here hx rfl (hb hby hd) rfl q

theorem gDup (K : Cx p l e R s m args below meth c B ML Z own n0 md T h ws cells slots) {x : Value} (hd : Dc B pc (.dup) 1 pc') (hc : x.category = 1) (r : Go p e below F T (mkF m pc' Ls (x :: x :: St))) : Go p e below F T (mkF m pc Ls (x :: St)) := by
  obtain ⟨⟨hx, hby, -⟩, -, -, s1, locs, X, -⟩ := K
  obtain ⟨hd, rfl⟩ := hd
  exact r.st fun t q => XS.dup X.here hx rfl (hb hby hd) rfl hc q

theorem gPop (K : Cx p l e R s m args below meth c B ML Z own n0 md T h ws cells slots) {x : Value} (hd : Dc B pc (.pop) 1 pc') (hc : x.category = 1) (r : Go p e below F T (mkF m pc' Ls St)) : Go p e below F T (mkF m pc Ls (x :: St)) := by
  obtain ⟨⟨hx, hby, -⟩, -, -, s1, locs, X, -⟩ := K
  obtain ⟨hd, rfl⟩ := hd
  exact r.st fun t q => XT.pop X.here hx rfl (hb hby hd) rfl hc q

theorem gIstore (K : Cx p l e R s m args below meth c B ML Z own n0 md T h ws cells slots) {k : Nat} {x : Int32} (hd : Dc B pc (.istore k) 2 pc') (hl : storeLocals Ls k (.int x) = some Ls') (r : Go p e below F T (mkF m pc' Ls' St)) : Go p e below F T (mkF m pc Ls (.int x :: St)) := by
  obtain ⟨⟨hx, hby, -⟩, -, -, s1, locs, X, -⟩ := K
  obtain ⟨hd, rfl⟩ := hd
  exact r.st fun t q => XS.istore X.here hx rfl (hb hby hd) rfl hl q

theorem gIstoreN (K : Cx p l e R s m args below meth c B ML Z own n0 md T h ws cells slots) {k : Fin 4} {x : Int32} (hd : Dc B pc (.istore_n k) 1 pc') (hl : storeLocals Ls k.val (.int x) = some Ls') (r : Go p e below F T (mkF m pc' Ls' St)) : Go p e below F T (mkF m pc Ls (.int x :: St)) := by
  obtain ⟨⟨hx, hby, -⟩, -, -, s1, locs, X, -⟩ := K
  obtain ⟨hd, rfl⟩ := hd
  exact r.st fun t q => XS.istoreN X.here hx rfl (hb hby hd) rfl hl q

theorem gAstore (K : Cx p l e R s m args below meth c B ML Z own n0 md T h ws cells slots) {k : Nat} {x : Value} (hd : Dc B pc (.astore k) 2 pc') (hv : x.isRef = true) (hl : storeLocals Ls k x = some Ls') (r : Go p e below F T (mkF m pc' Ls' St)) : Go p e below F T (mkF m pc Ls (x :: St)) := by
  obtain ⟨⟨hx, hby, -⟩, -, -, s1, locs, X, -⟩ := K
  obtain ⟨hd, rfl⟩ := hd
  exact r.st fun t q => XS.astore X.here hx rfl (hb hby hd) rfl hv hl q

theorem gAstoreN (K : Cx p l e R s m args below meth c B ML Z own n0 md T h ws cells slots) {k : Fin 4} {x : Value} (hd : Dc B pc (.astore_n k) 1 pc') (hv : x.isRef = true) (hl : storeLocals Ls k.val x = some Ls') (r : Go p e below F T (mkF m pc' Ls' St)) : Go p e below F T (mkF m pc Ls (x :: St)) := by
  obtain ⟨⟨hx, hby, -⟩, -, -, s1, locs, X, -⟩ := K
  obtain ⟨hd, rfl⟩ := hd
  exact r.st fun t q => XS.astoreN X.here hx rfl (hb hby hd) rfl hv hl q

theorem gIinc (K : Cx p l e R s m args below meth c B ML Z own n0 md T h ws cells slots) {k : Nat} {cst : Int} {x : Int32} (v : Int32) (hd : Dc B pc (.iinc k cst) 3 pc') (hv : Int32.ofInt cst = v) (hl : Ls[k]? = some (.val (.int x))) (hl' : storeLocals Ls k (.int (x + v)) = some Ls') (r : Go p e below F T (mkF m pc' Ls' St)) : Go p e below F T (mkF m pc Ls St) := by
  obtain ⟨⟨hx, hby, -⟩, -, -, s1, locs, X, -⟩ := K
  obtain ⟨hd, rfl⟩ := hd
  exact r.st fun t q => XT.iincV X.here hx rfl v (hb hby hd) hv hl hl' q

theorem gGoto (K : Cx p l e R s m args below meth c B ML Z own n0 md T h ws cells slots)  {o : Int} (hd : Db B pc (.goto o) o pc' tgt) (r : Go p e below F T (mkF m tgt Ls St)) : Go p e below F T (mkF m pc Ls St) := by
  obtain ⟨⟨hx, hby, -⟩, -, -, s1, locs, X, -⟩ := K
  obtain ⟨hd, rfl, ho, hp⟩ := hd
  exact r.st fun t q => XS.goto X.here hx rfl rfl (hb hby hd) ho hp q

theorem gIcmp_eq (K : Cx p l e R s m args below meth c B ML Z own n0 md T h ws cells slots) {x y : Int32} {o : Int} (hd : Db B pc (.if_icmp .eq o) o pc' tgt) (ry : x = y → Go p e below F T (mkF m tgt Ls St)) (rn : ¬ x = y → Go p e below F T (mkF m pc' Ls St)) : Go p e below F T (mkF m pc Ls (.int y :: .int x :: St)) := by
  obtain ⟨⟨hx, hby, -⟩, -, -, s1, locs, X, -⟩ := K
  obtain ⟨hd, rfl, ho, hp⟩ := hd
  by_cases hq : x = y
  · exact (ry hq).st fun t q => XS.icmpYes X.here hx rfl rfl (hb hby hd) rfl (teq hq).1 ho hp q
  · exact (rn hq).st fun t q => XS.icmpNo X.here hx rfl (hb hby hd) rfl (feq hq).1 q

theorem gIf_eq (K : Cx p l e R s m args below meth c B ML Z own n0 md T h ws cells slots) {x : Int32} {o : Int} (hd : Db B pc (.ifCond .eq o) o pc' tgt) (ry : x = (0 : Int32) → Go p e below F T (mkF m tgt Ls St)) (rn : ¬ x = (0 : Int32) → Go p e below F T (mkF m pc' Ls St)) : Go p e below F T (mkF m pc Ls (.int x :: St)) := by
  obtain ⟨⟨hx, hby, -⟩, -, -, s1, locs, X, -⟩ := K
  obtain ⟨hd, rfl, ho, hp⟩ := hd
  by_cases hq : x = (0 : Int32)
  · exact (ry hq).st fun t q => XS.ifYes X.here hx rfl rfl (hb hby hd) rfl ((if0 _ _).trans (teq hq).1) ho hp q
  · exact (rn hq).st fun t q => XS.ifNo X.here hx rfl (hb hby hd) rfl ((if0 _ _).trans (feq hq).1) q

theorem gIcmp_ne (K : Cx p l e R s m args below meth c B ML Z own n0 md T h ws cells slots) {x y : Int32} {o : Int} (hd : Db B pc (.if_icmp .ne o) o pc' tgt) (ry : ¬ x = y → Go p e below F T (mkF m tgt Ls St)) (rn : x = y → Go p e below F T (mkF m pc' Ls St)) : Go p e below F T (mkF m pc Ls (.int y :: .int x :: St)) := by
  obtain ⟨⟨hx, hby, -⟩, -, -, s1, locs, X, -⟩ := K
  obtain ⟨hd, rfl, ho, hp⟩ := hd
  by_cases hq : x = y
  · exact (rn hq).st fun t q => XS.icmpNo X.here hx rfl (hb hby hd) rfl (teq hq).2 q
  · exact (ry hq).st fun t q => XS.icmpYes X.here hx rfl rfl (hb hby hd) rfl (feq hq).2 ho hp q

theorem gIf_ne (K : Cx p l e R s m args below meth c B ML Z own n0 md T h ws cells slots) {x : Int32} {o : Int} (hd : Db B pc (.ifCond .ne o) o pc' tgt) (ry : ¬ x = (0 : Int32) → Go p e below F T (mkF m tgt Ls St)) (rn : x = (0 : Int32) → Go p e below F T (mkF m pc' Ls St)) : Go p e below F T (mkF m pc Ls (.int x :: St)) := by
  obtain ⟨⟨hx, hby, -⟩, -, -, s1, locs, X, -⟩ := K
  obtain ⟨hd, rfl, ho, hp⟩ := hd
  by_cases hq : x = (0 : Int32)
  · exact (rn hq).st fun t q => XS.ifNo X.here hx rfl (hb hby hd) rfl ((if0 _ _).trans (teq hq).2) q
  · exact (ry hq).st fun t q => XS.ifYes X.here hx rfl rfl (hb hby hd) rfl ((if0 _ _).trans (feq hq).2) ho hp q

theorem gIcmp_lt (K : Cx p l e R s m args below meth c B ML Z own n0 md T h ws cells slots) {x y : Int32} {o : Int} (hd : Db B pc (.if_icmp .lt o) o pc' tgt) (ry : x < y → Go p e below F T (mkF m tgt Ls St)) (rn : ¬ x < y → Go p e below F T (mkF m pc' Ls St)) : Go p e below F T (mkF m pc Ls (.int y :: .int x :: St)) := by
  obtain ⟨⟨hx, hby, -⟩, -, -, s1, locs, X, -⟩ := K
  obtain ⟨hd, rfl, ho, hp⟩ := hd
  by_cases hq : x < y
  · exact (ry hq).st fun t q => XS.icmpYes X.here hx rfl rfl (hb hby hd) rfl (tlt hq).1 ho hp q
  · exact (rn hq).st fun t q => XS.icmpNo X.here hx rfl (hb hby hd) rfl (flt hq).1 q

theorem gIf_lt (K : Cx p l e R s m args below meth c B ML Z own n0 md T h ws cells slots) {x : Int32} {o : Int} (hd : Db B pc (.ifCond .lt o) o pc' tgt) (ry : x < (0 : Int32) → Go p e below F T (mkF m tgt Ls St)) (rn : ¬ x < (0 : Int32) → Go p e below F T (mkF m pc' Ls St)) : Go p e below F T (mkF m pc Ls (.int x :: St)) := by
  obtain ⟨⟨hx, hby, -⟩, -, -, s1, locs, X, -⟩ := K
  obtain ⟨hd, rfl, ho, hp⟩ := hd
  by_cases hq : x < (0 : Int32)
  · exact (ry hq).st fun t q => XS.ifYes X.here hx rfl rfl (hb hby hd) rfl ((if0 _ _).trans (tlt hq).1) ho hp q
  · exact (rn hq).st fun t q => XS.ifNo X.here hx rfl (hb hby hd) rfl ((if0 _ _).trans (flt hq).1) q

theorem gIcmp_ge (K : Cx p l e R s m args below meth c B ML Z own n0 md T h ws cells slots) {x y : Int32} {o : Int} (hd : Db B pc (.if_icmp .ge o) o pc' tgt) (ry : ¬ x < y → Go p e below F T (mkF m tgt Ls St)) (rn : x < y → Go p e below F T (mkF m pc' Ls St)) : Go p e below F T (mkF m pc Ls (.int y :: .int x :: St)) := by
  obtain ⟨⟨hx, hby, -⟩, -, -, s1, locs, X, -⟩ := K
  obtain ⟨hd, rfl, ho, hp⟩ := hd
  by_cases hq : x < y
  · exact (rn hq).st fun t q => XS.icmpNo X.here hx rfl (hb hby hd) rfl (tlt hq).2.1 q
  · exact (ry hq).st fun t q => XS.icmpYes X.here hx rfl rfl (hb hby hd) rfl (flt hq).2.1 ho hp q

theorem gIf_ge (K : Cx p l e R s m args below meth c B ML Z own n0 md T h ws cells slots) {x : Int32} {o : Int} (hd : Db B pc (.ifCond .ge o) o pc' tgt) (ry : ¬ x < (0 : Int32) → Go p e below F T (mkF m tgt Ls St)) (rn : x < (0 : Int32) → Go p e below F T (mkF m pc' Ls St)) : Go p e below F T (mkF m pc Ls (.int x :: St)) := by
  obtain ⟨⟨hx, hby, -⟩, -, -, s1, locs, X, -⟩ := K
  obtain ⟨hd, rfl, ho, hp⟩ := hd
  by_cases hq : x < (0 : Int32)
  · exact (rn hq).st fun t q => XS.ifNo X.here hx rfl (hb hby hd) rfl ((if0 _ _).trans (tlt hq).2.1) q
  · exact (ry hq).st fun t q => XS.ifYes X.here hx rfl rfl (hb hby hd) rfl ((if0 _ _).trans (flt hq).2.1) ho hp q

theorem gIcmp_gt (K : Cx p l e R s m args below meth c B ML Z own n0 md T h ws cells slots) {x y : Int32} {o : Int} (hd : Db B pc (.if_icmp .gt o) o pc' tgt) (ry : y < x → Go p e below F T (mkF m tgt Ls St)) (rn : ¬ y < x → Go p e below F T (mkF m pc' Ls St)) : Go p e below F T (mkF m pc Ls (.int y :: .int x :: St)) := by
  obtain ⟨⟨hx, hby, -⟩, -, -, s1, locs, X, -⟩ := K
  obtain ⟨hd, rfl, ho, hp⟩ := hd
  by_cases hq : y < x
  · exact (ry hq).st fun t q => XS.icmpYes X.here hx rfl rfl (hb hby hd) rfl (tlt hq).2.2.1 ho hp q
  · exact (rn hq).st fun t q => XS.icmpNo X.here hx rfl (hb hby hd) rfl (flt hq).2.2.1 q

theorem gIf_gt (K : Cx p l e R s m args below meth c B ML Z own n0 md T h ws cells slots) {x : Int32} {o : Int} (hd : Db B pc (.ifCond .gt o) o pc' tgt) (ry : (0 : Int32) < x → Go p e below F T (mkF m tgt Ls St)) (rn : ¬ (0 : Int32) < x → Go p e below F T (mkF m pc' Ls St)) : Go p e below F T (mkF m pc Ls (.int x :: St)) := by
  obtain ⟨⟨hx, hby, -⟩, -, -, s1, locs, X, -⟩ := K
  obtain ⟨hd, rfl, ho, hp⟩ := hd
  by_cases hq : (0 : Int32) < x
  · exact (ry hq).st fun t q => XS.ifYes X.here hx rfl rfl (hb hby hd) rfl ((if0 _ _).trans (tlt hq).2.2.1) ho hp q
  · exact (rn hq).st fun t q => XS.ifNo X.here hx rfl (hb hby hd) rfl ((if0 _ _).trans (flt hq).2.2.1) q

theorem gIcmp_le (K : Cx p l e R s m args below meth c B ML Z own n0 md T h ws cells slots) {x y : Int32} {o : Int} (hd : Db B pc (.if_icmp .le o) o pc' tgt) (ry : ¬ y < x → Go p e below F T (mkF m tgt Ls St)) (rn : y < x → Go p e below F T (mkF m pc' Ls St)) : Go p e below F T (mkF m pc Ls (.int y :: .int x :: St)) := by
  obtain ⟨⟨hx, hby, -⟩, -, -, s1, locs, X, -⟩ := K
  obtain ⟨hd, rfl, ho, hp⟩ := hd
  by_cases hq : y < x
  · exact (rn hq).st fun t q => XS.icmpNo X.here hx rfl (hb hby hd) rfl (tlt hq).2.2.2 q
  · exact (ry hq).st fun t q => XS.icmpYes X.here hx rfl rfl (hb hby hd) rfl (flt hq).2.2.2 ho hp q

theorem gIf_le (K : Cx p l e R s m args below meth c B ML Z own n0 md T h ws cells slots) {x : Int32} {o : Int} (hd : Db B pc (.ifCond .le o) o pc' tgt) (ry : ¬ (0 : Int32) < x → Go p e below F T (mkF m tgt Ls St)) (rn : (0 : Int32) < x → Go p e below F T (mkF m pc' Ls St)) : Go p e below F T (mkF m pc Ls (.int x :: St)) := by
  obtain ⟨⟨hx, hby, -⟩, -, -, s1, locs, X, -⟩ := K
  obtain ⟨hd, rfl, ho, hp⟩ := hd
  by_cases hq : (0 : Int32) < x
  · exact (rn hq).st fun t q => XS.ifNo X.here hx rfl (hb hby hd) rfl ((if0 _ _).trans (tlt hq).2.2.2) q
  · exact (ry hq).st fun t q => XS.ifYes X.here hx rfl rfl (hb hby hd) rfl ((if0 _ _).trans (flt hq).2.2.2) ho hp q

theorem gIfnull_t (K : Cx p l e R s m args below meth c B ML Z own n0 md T h ws cells slots)  {o : Int} (hd : Db B pc (.ifnull o) o pc' tgt) (r : Go p e below F T (mkF m tgt Ls St)) : Go p e below F T (mkF m pc Ls (.null :: St)) := by
  obtain ⟨⟨hx, hby, -⟩, -, -, s1, locs, X, -⟩ := K
  obtain ⟨hd, rfl, ho, hp⟩ := hd
  exact r.st fun t q => XS.ifnullYes X.here hx rfl rfl (hb hby hd) rfl ho hp q

theorem gIfnull_f (K : Cx p l e R s m args below meth c B ML Z own n0 md T h ws cells slots) {b : Addr} {o : Int} (hd : Db B pc (.ifnull o) o pc' tgt) (r : Go p e below F T (mkF m pc' Ls St)) : Go p e below F T (mkF m pc Ls (.ref b :: St)) := by
  obtain ⟨⟨hx, hby, -⟩, -, -, s1, locs, X, -⟩ := K
  obtain ⟨hd, rfl, ho, hp⟩ := hd
  exact r.st fun t q => XS.ifnullNo X.here hx rfl (hb hby hd) rfl q

theorem gIfnonnull_t (K : Cx p l e R s m args below meth c B ML Z own n0 md T h ws cells slots) {b : Addr} {o : Int} (hd : Db B pc (.ifnonnull o) o pc' tgt) (r : Go p e below F T (mkF m tgt Ls St)) : Go p e below F T (mkF m pc Ls (.ref b :: St)) := by
  obtain ⟨⟨hx, hby, -⟩, -, -, s1, locs, X, -⟩ := K
  obtain ⟨hd, rfl, ho, hp⟩ := hd
  exact r.st fun t q => XT.ifnonnullYes X.here hx rfl rfl (hb hby hd) rfl ho hp q

theorem gIfnonnull_f (K : Cx p l e R s m args below meth c B ML Z own n0 md T h ws cells slots)  {o : Int} (hd : Db B pc (.ifnonnull o) o pc' tgt) (r : Go p e below F T (mkF m pc' Ls St)) : Go p e below F T (mkF m pc Ls (.null :: St)) := by
  obtain ⟨⟨hx, hby, -⟩, -, -, s1, locs, X, -⟩ := K
  obtain ⟨hd, rfl, ho, hp⟩ := hd
  exact r.st fun t q => XT.ifnonnullNo X.here hx rfl (hb hby hd) rfl q

theorem gAcmp_eq (K : Cx p l e R s m args below meth c B ML Z own n0 md T h ws cells slots) {x y : Value} {o : Int} (hd : Db B pc (.if_acmp .eq o) o pc' tgt) (h1 : x.isRef = true) (h2 : y.isRef = true) (ry : x = y → Go p e below F T (mkF m tgt Ls St)) (rn : ¬ x = y → Go p e below F T (mkF m pc' Ls St)) : Go p e below F T (mkF m pc Ls (y :: x :: St)) := by
  obtain ⟨⟨hx, hby, -⟩, -, -, s1, locs, X, -⟩ := K
  obtain ⟨hd, rfl, ho, hp⟩ := hd
  by_cases hq : x = y
  · exact (ry hq).st fun t q => XT.acmpYes X.here hx rfl rfl (hb hby hd) rfl h1 h2 (XT.aa_eq_t hq) ho hp q
  · exact (rn hq).st fun t q => XT.acmpNo X.here hx rfl (hb hby hd) rfl h1 h2 (XT.aa_eq_f hq) q

theorem gAcmp_ne (K : Cx p l e R s m args below meth c B ML Z own n0 md T h ws cells slots) {x y : Value} {o : Int} (hd : Db B pc (.if_acmp .ne o) o pc' tgt) (h1 : x.isRef = true) (h2 : y.isRef = true) (ry : ¬ x = y → Go p e below F T (mkF m tgt Ls St)) (rn : x = y → Go p e below F T (mkF m pc' Ls St)) : Go p e below F T (mkF m pc Ls (y :: x :: St)) := by
  obtain ⟨⟨hx, hby, -⟩, -, -, s1, locs, X, -⟩ := K
  obtain ⟨hd, rfl, ho, hp⟩ := hd
  by_cases hq : x = y
  · exact (rn hq).st fun t q => XT.acmpNo X.here hx rfl (hb hby hd) rfl h1 h2 (XT.aa_ne_f hq) q
  · exact (ry hq).st fun t q => XT.acmpYes X.here hx rfl rfl (hb hby hd) rfl h1 h2 (XT.aa_ne_t hq) ho hp q

/-! ## steps that touch the heap or the tables -/
theorem Cx.same {T' : State} {s1 : State} {locs : List Loc} (K : Cx p l e R s m args below meth c B ML Z own n0 md T h ws cells slots) (X' : Stand p l e R s1 m args below meth c T' locs cells slots) (e' : T'.heap = h) (hZ : Z.Warmed39 s1.vm) (hown : s1.vm.findClass own = some m.cls) (N : Fr n0 locs) (J : Jd md Z s s1 h) (Wq : ∀ x ∈ ws, n0 ≤ x ∧ x < h.size ∧ Sf md Z s1 h x) : Cx p l e R s m args below meth c B ML Z own n0 md T' h ws cells slots :=
  ⟨K.1, e', K.2.2.1, s1, locs, X', hZ, hown, N, J, Wq⟩
theorem gGet (K : Cx p l e R s m args below meth c B ML Z own n0 md T h ws cells slots) {O n d : String} {index : Nat} {a : Addr} {v : Value} (hd : Dc B pc (.getfield index) 3 pc') (w : (Cond.fieldLink own index O n d).before a0 Z = true) (Fd : Fld Z h a O n d v)
    (k : ∀ T', Cx p l e R s m args below meth c B ML Z own n0 md T' h ws cells slots → Go p e below F T' (mkF m pc' Ls (v :: St))) : Go p e below F T (mkF m pc Ls (.ref a :: St)) := by
  have K0 := K
  obtain ⟨⟨hx, hby, hml⟩, eT, hn0, s1, locs, X, hZ, hown, N, J, Wq⟩ := K
  obtain ⟨hd, rfl⟩ := hd
  obtain ⟨T', X', e', st⟩ := getF X hx hZ hown (host := "") (Or.inl w) Via.refl eT Fd (g := mkF m pc Ls (.ref a :: St)) rfl rfl (hb hby hd)
  exact (k T' (K0.same X' e' hZ hown N J Wq)).st st
theorem gGetVia (K : Cx p l e R s m args below meth c B ML Z own n0 md T h ws cells slots) {R0 O n d : String} {index : Nat} {a : Addr} {v : Value} (hd : Dc B pc (.getfield index) 3 pc') (w : (Cond.fieldLink own index R0 n d).before a0 Z = true) (via : Via Z R0 O n d) (Fd : Fld Z h a O n d v)
    (k : ∀ T', Cx p l e R s m args below meth c B ML Z own n0 md T' h ws cells slots → Go p e below F T' (mkF m pc' Ls (v :: St))) : Go p e below F T (mkF m pc Ls (.ref a :: St)) := by
  have K0 := K
  obtain ⟨⟨hx, hby, hml⟩, eT, hn0, s1, locs, X, hZ, hown, N, J, Wq⟩ := K
  obtain ⟨hd, rfl⟩ := hd
  obtain ⟨T', X', e', st⟩ := getF X hx hZ hown (host := "") (Or.inl w) via eT Fd (g := mkF m pc Ls (.ref a :: St)) rfl rfl (hb hby hd)
  exact (k T' (K0.same X' e' hZ hown N J Wq)).st st
theorem gGetS (K : Cx p l e R s m args below meth c B ML Z own n0 md T h ws cells slots) {O n d : String} {index : Nat} {v : Value} (hd : Dc B pc (.getstatic index) 3 pc') (w : (Cond.fieldLink own index O n d).before a0 Z = true) (Fd : Sta Z h O n d v)
    (k : ∀ T', Cx p l e R s m args below meth c B ML Z own n0 md T' h ws cells slots → Go p e below F T' (mkF m pc' Ls (v :: St))) : Go p e below F T (mkF m pc Ls St) := by
  have K0 := K
  obtain ⟨⟨hx, hby, hml⟩, eT, hn0, s1, locs, X, hZ, hown, N, J, Wq⟩ := K
  obtain ⟨hd, rfl⟩ := hd
  obtain ⟨T', X', e', st⟩ := getS2 X hx hZ hown (host := "") (Or.inl w) Via.refl eT Fd (g := mkF m pc Ls St) rfl (hb hby hd)
  exact (k T' (K0.same X' e' hZ hown N J Wq)).st st
theorem gCast (K : Cx p l e R s m args below meth c B ML Z own n0 md T h ws cells slots) {C : String} {index : Nat} {a : Addr} (hd : Dc B pc (.checkcast index) 3 pc') (w : (Cond.classLink own index C).before a0 Z = true) (Fd : Ins Z h a C true)
    (k : ∀ T', Cx p l e R s m args below meth c B ML Z own n0 md T' h ws cells slots → Go p e below F T' (mkF m pc' Ls (.ref a :: St))) : Go p e below F T (mkF m pc Ls (.ref a :: St)) := by
  have K0 := K
  obtain ⟨⟨hx, hby, hml⟩, eT, hn0, s1, locs, X, hZ, hown, N, J, Wq⟩ := K
  obtain ⟨hd, rfl⟩ := hd
  obtain ⟨T', X', e', st⟩ := castY X hx hZ hown w eT Fd (g := mkF m pc Ls (.ref a :: St)) rfl rfl (hb hby hd)
  exact (k T' (K0.same X' e' hZ hown N J Wq)).st st
theorem gInstY (K : Cx p l e R s m args below meth c B ML Z own n0 md T h ws cells slots) {C : String} {index : Nat} {a : Addr} (hd : Dc B pc (.instanceof index) 3 pc') (w : (Cond.classLink own index C).before a0 Z = true) (Fd : Ins Z h a C true)
    (k : ∀ T', Cx p l e R s m args below meth c B ML Z own n0 md T' h ws cells slots → Go p e below F T' (mkF m pc' Ls (.int 1 :: St))) : Go p e below F T (mkF m pc Ls (.ref a :: St)) := by
  have K0 := K
  obtain ⟨⟨hx, hby, hml⟩, eT, hn0, s1, locs, X, hZ, hown, N, J, Wq⟩ := K
  obtain ⟨hd, rfl⟩ := hd
  obtain ⟨T', X', e', st⟩ := instY X hx hZ hown w eT Fd (g := mkF m pc Ls (.ref a :: St)) rfl rfl (hb hby hd)
  exact (k T' (K0.same X' e' hZ hown N J Wq)).st st
theorem gInstNo (K : Cx p l e R s m args below meth c B ML Z own n0 md T h ws cells slots) {C D : String} {index : Nat} {a : Addr} (hd : Dc B pc (.instanceof index) 3 pc') (w : (Cond.classLink own index D).before a0 Z = true) (E : Exa Z h a C) (Fd : ∃ c t, Z.vm.findClass C = some c ∧ Z.vm.findClass D = some t ∧ Z.vm.assignable c t = false)
    (k : ∀ T', Cx p l e R s m args below meth c B ML Z own n0 md T' h ws cells slots → Go p e below F T' (mkF m pc' Ls (.int 0 :: St))) : Go p e below F T (mkF m pc Ls (.ref a :: St)) := by
  have K0 := K
  obtain ⟨⟨hx, hby, hml⟩, eT, hn0, s1, locs, X, hZ, hown, N, J, Wq⟩ := K
  obtain ⟨hd, rfl⟩ := hd
  obtain ⟨T', X', e', st⟩ := instNo X hx hZ hown w eT E Fd (g := mkF m pc Ls (.ref a :: St)) rfl rfl (hb hby hd)
  exact (k T' (K0.same X' e' hZ hown N J Wq)).st st
theorem gInitO (K : Cx p l e R s m args below meth c B ML Z own n0 md T h ws cells slots) {index : Nat} {a : Addr} (hd : Dc B pc (.invokespecial index) 3 pc') (w1 : (Cond.methodLink own index Lib.objectInit).before a0 Z = true) (w2 : (Cond.instanceMethod Lib.objectInit).before a0 Z = true) (w3 : (Cond.code Lib.objectInit ⟨#[0xb1]⟩ 1 none).before a0 Z = true)
    (hsz : Ls.size = ML) (hf : 1 ≤ R.frames) {W : Nat} (hW : (St.map fun v => v.category).sum ≤ W) (hl : W + 12 ≤ R.locals)
    (k : ∀ T', Cx p l e R s m args below meth c B ML Z own n0 md T' h ws cells slots → Go p e below F T' (mkF m pc' Ls St)) : Go p e below F T (mkF m pc Ls (.ref a :: St)) := by
  have K0 := K
  obtain ⟨⟨hx, hby, hml⟩, eT, hn0, s1, locs, X, hZ, hown, N, J, Wq⟩ := K
  obtain ⟨hd, rfl⟩ := hd
  obtain ⟨T', X', e', st⟩ := initO X hx hZ hown w1 w2 w3 eT (g := mkF m pc Ls (.ref a :: St)) rfl (by rw [hml]; exact hsz) rfl (hb hby hd) hf (W := W) (by show 2 * 0 + _ ≤ _; omega) hl
  exact (k T' (K0.same X' e' hZ hown N J Wq)).st st
theorem Cx.grow {T' : State} {h' : Heap} {c' n' : Nat} {s1 : State} {locs : List Loc} (K : Cx p l e R s m args below meth c B ML Z own n0 md T h ws cells slots) (X' : Stand p l e R s1 m args below meth c T' locs c' n') (e' : T'.heap = h') (E : Ext h h') (hlt : h.size < h'.size) (hZ : Z.Warmed39 s1.vm) (hown : s1.vm.findClass own = some m.cls) (N : Fr n0 locs) (J : Jd md Z s s1 h) (Wq : ∀ x ∈ ws, n0 ≤ x ∧ x < h.size ∧ Sf md Z s1 h x) : Cx p l e R s m args below meth c B ML Z own n0 md T' h' (h.size :: ws) c' n' :=
  ⟨K.1, e', Nat.le_trans K.2.2.1 E.1, s1, locs, X', hZ, hown, N, J.ext E, fun x hx => by
    rcases List.mem_cons.mp hx with rfl | hx
    · exact ⟨K.2.2.1, hlt, (Sf.new (Nat.le_refl _)).ext J E⟩
    · obtain ⟨q1, q2, q3⟩ := Wq x hx; exact ⟨q1, Nat.lt_of_lt_of_le q2 E.1, q3.ext J E⟩⟩
theorem gNew (K : Cx p l e R s m args below meth c B ML Z own n0 md T h ws cells slots) {C : String} {index n : Nat} (hd : Dc B pc (.new index) 3 pc') (w : (Cond.classLink own index C).before a0 Z = true) (wi : (Cond.instantiable C n).before a0 Z = true) (wz : (Cond.initialized C).before a0 Z = true) (hc : cells + 1 ≤ R.cells) (hl : slots + n ≤ R.slots)
    (k : ∀ (T' : State) (h' : Heap) (x : Addr), Cx p l e R s m args below meth c B ML Z own n0 md T' h' (x :: ws) (cells + 1) (slots + n) → Ext h h' → x = h.size → Exa Z h' x C → (∀ {O nm d : String} {ty : FieldType}, Laid Z a0 C O nm d → parseFieldDescriptor d = some ty → Fld Z h' x O nm d (defaultValue ty)) → (∀ y ∈ ws, y ≠ x) → Go p e below F T' (mkF m pc' Ls (.ref x :: St))) : Go p e below F T (mkF m pc Ls St) := by
  have K0 := K
  obtain ⟨⟨hx, hby, hml⟩, eT, hn0, s1, locs, X, hZ, hown, N, J, Wq⟩ := K
  obtain ⟨hd, rfl⟩ := hd
  obtain ⟨T', h', X', e', E, A, D, -, st⟩ := newO X hx hZ hown w wi wz eT (g := mkF m pc Ls St) rfl (hb hby hd) hc hl
  exact (k T' h' h.size (K0.grow X' e' E A.lt hZ hown N J Wq) E rfl A D (fun y hy => Nat.ne_of_lt (Wq y hy).2.1)).st st
theorem gNewarr (K : Cx p l e R s m args below meth c B ML Z own n0 md T h ws cells slots) {aty : ArrayType} {n : Int32} (hd : Dc B pc (.newarray aty) 2 pc') (w : (Cond.arrayClass (newarray.typeOf aty)).before a0 Z = true) (hn : ¬ n < 0) (cap : Nat) (hcap : n.toNatClampNeg ≤ cap) (hbb : cap * 8 ≤ 536870912) (hc : cells + 1 ≤ R.cells) (hl : slots + cap ≤ R.slots)
    (k : ∀ (T' : State) (h' : Heap) (x : Addr) (kA : ClassId), Cx p l e R s m args below meth c B ML Z own n0 md T' h' (x :: ws) (cells + 1) (slots + cap) → Ext h h' → x = h.size → Arv Z h' x kA (newarray.typeOf aty) n [] (defaultValue (newarray.typeOf aty)) → (∀ y ∈ ws, y ≠ x) → Go p e below F T' (mkF m pc' Ls (.ref x :: St))) : Go p e below F T (mkF m pc Ls (.int n :: St)) := by
  have K0 := K
  obtain ⟨⟨hx, hby, hml⟩, eT, hn0, s1, locs, X, hZ, hown, N, J, Wq⟩ := K
  obtain ⟨hd, rfl⟩ := hd
  obtain ⟨T', h', cA, X', e', E, A, st⟩ := newP X hx hZ w eT (g := mkF m pc Ls (.int n :: St)) rfl (hb hby hd) rfl hn hcap hbb hc hl
  exact (k T' h' h.size cA (K0.grow X' e' E A.lt hZ hown N J Wq) E rfl (Arv.new A hn) (fun y hy => Nat.ne_of_lt (Wq y hy).2.1)).st st
theorem Cx.wrote {T' : State} {h' : Heap} {s1 : State} {locs : List Loc} {a : Addr} {sl : Nat} {v : Value} (K : Cx p l e R s m args below meth c B ML Z own n0 md T h ws cells slots) (X' : Stand p l e R s1 m args below meth c T' (locs ++ [⟨a, sl⟩]) cells slots) (e' : T'.heap = h') (W : Wr h h' a sl v) (hm : a ∈ ws) (hZ : Z.Warmed39 s1.vm) (hown : s1.vm.findClass own = some m.cls) (N : Fr n0 locs) (J : Jd md Z s s1 h) (Wq : ∀ x ∈ ws, n0 ≤ x ∧ x < h.size ∧ Sf md Z s1 h x) : Cx p l e R s m args below meth c B ML Z own n0 md T' h' ws cells slots :=
  have hs : ∀ x ∈ [a], Sf md Z s1 h x := allS (Wq a hm).2.2 all0
  ⟨K.1, e', by rw [W.size]; exact K.2.2.1, s1, _, X', hZ, hown, Fr.snoc X' N (Wq a hm).1, J.keep (Keep.of_wr W) hs, fun x hx => by
    obtain ⟨q1, q2, q3⟩ := Wq x hx; exact ⟨q1, by rw [W.size]; exact q2, q3.keep J (Keep.of_wr W) hs⟩⟩
theorem gPut (K : Cx p l e R s m args below meth c B ML Z own n0 md T h ws cells slots) {O n d C : String} {index kk : Nat} {ty : FieldType} {a : Addr} {v old : Value} (hd : Dc B pc (.putfield index) 3 pc') (w : (Cond.fieldLink own index O n d).before a0 Z = true) (hm : a ∈ ws) (Fd : Fld Z h a O n d old) (E : Exa Z h a C)
    (L : (Cond.lays C O n d).before a0 Z = true ∨ ((Cond.laysFinal C O n d).before a0 Z = true ∧ own = O ∧ meth.name = "<init>")) (wi : (Cond.instantiable C kk).before a0 Z = true) (hty : parseFieldDescriptor d = some ty) (hn : narrow ty v = v) (hf : fits ty v = true)
    (k : ∀ (T' : State) (h' : Heap), Cx p l e R s m args below meth c B ML Z own n0 md T' h' ws cells slots → Wr h h' a (RoadKit.slotOf Z O n d) v → Fld Z h' a O n d v → Go p e below F T' (mkF m pc' Ls St)) : Go p e below F T (mkF m pc Ls (v :: .ref a :: St)) := by
  have K0 := K
  obtain ⟨⟨hx, hby, hml⟩, eT, hn0, s1, locs, X, hZ, hown, N, J, Wq⟩ := K
  obtain ⟨hd, rfl⟩ := hd
  obtain ⟨T', h', X', e', W, st⟩ := putF X hx hZ hown (host := "") (Or.inl w) Via.refl eT Fd E L wi hty hn hf (g := mkF m pc Ls (v :: .ref a :: St)) rfl rfl (hb hby hd)
  exact (k T' h' (K0.wrote X' e' W hm hZ hown N J Wq) W (Fd.same W)).st st
theorem nar_c {x : Int32} (h0 : ¬ x < 0) (h1 : ¬ (65535 : Int32) < x) : nar .char x = x := by
  have q := rng32 x
  have a0 : 0 ≤ x.toInt := by rw [Int32.lt_iff_toInt_lt] at h0; simpa using h0
  have a1 : x.toInt ≤ 65535 := by rw [Int32.lt_iff_toInt_lt] at h1; have : (65535 : Int32).toInt = 65535 := by decide
                                  omega
  apply Int32.toInt_inj.mp
  show (x.toUInt32.toUInt16.toUInt32.toInt32).toInt = x.toInt
  have := c_i2c x
  omega
theorem getD_push {vs : List Value} {v dv : Value} {i : Nat} (q : ¬ vs.length = i) : (vs ++ [v]).getD i dv = vs.getD i dv := by
  rw [List.getD_eq_getElem?_getD, List.getD_eq_getElem?_getD]
  by_cases e2 : i < vs.length
  · rw [List.getElem?_append_left e2]
  · rw [List.getElem?_eq_none (by simp; omega), List.getElem?_eq_none (by omega)]
theorem getD_last {vs : List Value} {v dv : Value} : (vs ++ [v]).getD vs.length dv = v := by
  rw [List.getD_eq_getElem?_getD]; simp
theorem arv_push {cl : Cell} {a : Addr} {kA : ClassId} {ty : FieldType} {z j : Int32} {vs : List Value} {dv v : Value} {h' : Heap} (A : Arr Z h a cl ty) (q1 : cl.cls = kA) (S : cl.slots.size = z.toNatClampNeg) (q3 : ¬ z < 0) (H : Has cl vs dv) (G : ∀ i, i < cl.slots.size → fits ty (vs.getD i dv) = true) (hv : fits ty v = true) (W : Wr h h' a j.toNatClampNeg v) (hj : j.toNatClampNeg = vs.length) : Arv Z h' a kA ty z (vs ++ [v]) dv := by
  refine ⟨cl.setSlot j.toNatClampNeg v, A.same W, q1, ?_, q3, ?_, ?_⟩
  · rw [← S]; simp [Cell.setSlot]
  · intro i hi
    have hi' : i < cl.slots.size := by simpa [Cell.setSlot] using hi
    have h9 := H i hi'
    simp only [Cell.setSlot]
    rw [hj]
    by_cases e1 : vs.length = i
    · subst e1; rw [getD_last]; simp [hi']
    · rw [Array.getElem?_setIfInBounds_ne e1, h9, getD_push e1]
  · intro i hi
    have hi' : i < cl.slots.size := by simpa [Cell.setSlot] using hi
    by_cases e1 : vs.length = i
    · subst e1; rw [getD_last]; exact hv
    · rw [getD_push e1]; exact G i hi'

/-! ## arrays -/
theorem gCastore (K : Cx p l e R s m args below meth c B ML Z own n0 md T h ws cells slots) {a : Addr} {kA : ClassId} {z j x : Int32} {vs : List Value} {dv : Value} (hd : Dc B pc .castore 1 pc') (hm : a ∈ ws) (A : Arv Z h a kA .char z vs dv) (hj : j.toNatClampNeg = vs.length) (hlt : ¬ j < 0 ∧ j < z) (hx0 : ¬ x < 0) (hx1 : ¬ (65535 : Int32) < x)
    (k : ∀ (T' : State) (h' : Heap), Cx p l e R s m args below meth c B ML Z own n0 md T' h' ws cells slots → Keep h h' [a] → Arv Z h' a kA .char z (vs ++ [.int x]) dv → Go p e below F T' (mkF m pc' Ls St)) : Go p e below F T (mkF m pc Ls (.int x :: .int j :: .ref a :: St)) := by
  have K0 := K
  obtain ⟨⟨hx, hby, hml⟩, eT, hn0, s1, locs, X, hZ, hown, N, J, Wq⟩ := K
  obtain ⟨hd, rfl⟩ := hd
  obtain ⟨cl, A1, A2, A3, A4, A5, A6⟩ := A
  obtain ⟨T', h', X', e', W, st⟩ := stC X hx hZ eT A1 (inb_of A3 hlt) (x := x) (g := mkF m pc Ls (.int x :: .int j :: .ref a :: St)) rfl rfl (hb hby hd)
  rw [nar_c hx0 hx1] at W
  have hf : fits .char (.int x) = true := by rw [← nar_c hx0 hx1]; exact fits_nar_char x
  exact (k T' h' (K0.wrote X' e' W hm hZ hown N J Wq) (Keep.of_wr W) (arv_push A1 A2 A3 A4 A5 A6 hf W hj)).st st
theorem gBastore (K : Cx p l e R s m args below meth c B ML Z own n0 md T h ws cells slots) {a : Addr} {kA : ClassId} {z j x : Int32} {vs : List Value} {dv : Value} (hd : Dc B pc .bastore 1 pc') (hm : a ∈ ws) (A : Arv Z h a kA .byte z vs dv) (hj : j.toNatClampNeg = vs.length) (hlt : ¬ j < 0 ∧ j < z)
    (k : ∀ (T' : State) (h' : Heap), Cx p l e R s m args below meth c B ML Z own n0 md T' h' ws cells slots → Keep h h' [a] → Arv Z h' a kA .byte z (vs ++ [.int (nar .byte x)]) dv → Go p e below F T' (mkF m pc' Ls St)) : Go p e below F T (mkF m pc Ls (.int x :: .int j :: .ref a :: St)) := by
  have K0 := K
  obtain ⟨⟨hx, hby, hml⟩, eT, hn0, s1, locs, X, hZ, hown, N, J, Wq⟩ := K
  obtain ⟨hd, rfl⟩ := hd
  obtain ⟨cl, A1, A2, A3, A4, A5, A6⟩ := A
  obtain ⟨T', h', X', e', W, st⟩ := stB X hx hZ eT A1 (inb_of A3 hlt) (x := x) (g := mkF m pc Ls (.int x :: .int j :: .ref a :: St)) rfl rfl (hb hby hd)
  exact (k T' h' (K0.wrote X' e' W hm hZ hown N J Wq) (Keep.of_wr W) (arv_push A1 A2 A3 A4 A5 A6 (fits_nar_byte x) W hj)).st st
/-- a store at a place below the known list's length -/
theorem gBastoreAt (K : Cx p l e R s m args below meth c B ML Z own n0 md T h ws cells slots) {a : Addr} {kA : ClassId} {z j x : Int32} {vs : List Value} {dv : Value} (hd : Dc B pc .bastore 1 pc') (hm : a ∈ ws) (A : Arv Z h a kA .byte z vs dv) (i : Nat) (hj : j.toNatClampNeg = i) (hi : i < vs.length) (hlt : ¬ j < 0 ∧ j < z)
    (k : ∀ (T' : State) (h' : Heap), Cx p l e R s m args below meth c B ML Z own n0 md T' h' ws cells slots → Keep h h' [a] → Arv Z h' a kA .byte z (vs.set i (.int (nar .byte x))) dv → Go p e below F T' (mkF m pc' Ls St)) : Go p e below F T (mkF m pc Ls (.int x :: .int j :: .ref a :: St)) := by
  have K0 := K
  obtain ⟨⟨hx, hby, hml⟩, eT, hn0, s1, locs, X, hZ, hown, N, J, Wq⟩ := K
  obtain ⟨hd, rfl⟩ := hd
  obtain ⟨cl, A1, A2, A3, A4, A5, A6⟩ := A
  obtain ⟨T', h', X', e', W, st⟩ := stB X hx hZ eT A1 (inb_of A3 hlt) (x := x) (g := mkF m pc Ls (.int x :: .int j :: .ref a :: St)) rfl rfl (hb hby hd)
  exact (k T' h' (K0.wrote X' e' W hm hZ hown N J Wq) (Keep.of_wr W) (Arv.set A1 A2 A3 A4 A5 A6 (fits_nar_byte x) W i hj hi)).st st
theorem gIastoreAt (K : Cx p l e R s m args below meth c B ML Z own n0 md T h ws cells slots) {a : Addr} {kA : ClassId} {z j x : Int32} {vs : List Value} {dv : Value} (hd : Dc B pc .iastore 1 pc') (hm : a ∈ ws) (A : Arv Z h a kA .int z vs dv) (i : Nat) (hj : j.toNatClampNeg = i) (hi : i < vs.length) (hlt : ¬ j < 0 ∧ j < z)
    (k : ∀ (T' : State) (h' : Heap), Cx p l e R s m args below meth c B ML Z own n0 md T' h' ws cells slots → Keep h h' [a] → Arv Z h' a kA .int z (vs.set i (.int x)) dv → Go p e below F T' (mkF m pc' Ls St)) : Go p e below F T (mkF m pc Ls (.int x :: .int j :: .ref a :: St)) := by
  have K0 := K
  obtain ⟨⟨hx, hby, hml⟩, eT, hn0, s1, locs, X, hZ, hown, N, J, Wq⟩ := K
  obtain ⟨hd, rfl⟩ := hd
  obtain ⟨cl, A1, A2, A3, A4, A5, A6⟩ := A
  obtain ⟨T', h', X', e', W, st⟩ := stI X hx hZ eT A1 (inb_of A3 hlt) (x := x) (g := mkF m pc Ls (.int x :: .int j :: .ref a :: St)) rfl rfl (hb hby hd)
  exact (k T' h' (K0.wrote X' e' W hm hZ hown N J Wq) (Keep.of_wr W) (Arv.set A1 A2 A3 A4 A5 A6 rfl W i hj hi)).st st
theorem gCaload (K : Cx p l e R s m args below meth c B ML Z own n0 md T h ws cells slots) {a : Addr} {kA : ClassId} {z j : Int32} {vs : List Value} {dv v : Value} (hd : Dc B pc .caload 1 pc') (A : Arv Z h a kA .char z vs dv) (hlt : ¬ j < 0 ∧ j < z) (hv : vs.getD j.toNatClampNeg dv = v) (r : Go p e below F T (mkF m pc' Ls (v :: St))) : Go p e below F T (mkF m pc Ls (.int j :: .ref a :: St)) := by
  obtain ⟨⟨hx, hby, hml⟩, eT, hn0, s1, locs, X, hZ, hown, N, J, Wq⟩ := K
  obtain ⟨hd, rfl⟩ := hd
  obtain ⟨cl, A1, A2, A3, A4, A5, A6⟩ := A
  exact r.st fun t q => X.caload hx (by rw [eT]; exact A1.1) (State.isArrayOf_alike hZ.alike A1.2.1) A1.2.2 (inb_of A3 hlt) (A5.at (inb_of A3 hlt) hv) (g := mkF m pc Ls (.int j :: .ref a :: St)) rfl rfl (hb hby hd) t q
theorem gBaload (K : Cx p l e R s m args below meth c B ML Z own n0 md T h ws cells slots) {a : Addr} {kA : ClassId} {z j : Int32} {vs : List Value} {dv v : Value} (hd : Dc B pc .baload 1 pc') (A : Arv Z h a kA .byte z vs dv) (hlt : ¬ j < 0 ∧ j < z) (hv : vs.getD j.toNatClampNeg dv = v) (r : Go p e below F T (mkF m pc' Ls (v :: St))) : Go p e below F T (mkF m pc Ls (.int j :: .ref a :: St)) := by
  obtain ⟨⟨hx, hby, hml⟩, eT, hn0, s1, locs, X, hZ, hown, N, J, Wq⟩ := K
  obtain ⟨hd, rfl⟩ := hd
  obtain ⟨cl, A1, A2, A3, A4, A5, A6⟩ := A
  exact r.st fun t q => X.baloadBytes hx (by rw [eT]; exact A1.1) (State.isArrayOf_alike hZ.alike A1.2.1) A1.2.2 (inb_of A3 hlt) (A5.at (inb_of A3 hlt) hv) (g := mkF m pc Ls (.int j :: .ref a :: St)) rfl rfl (hb hby hd) t q
theorem gIaload (K : Cx p l e R s m args below meth c B ML Z own n0 md T h ws cells slots) {a : Addr} {kA : ClassId} {z j : Int32} {vs : List Value} {dv v : Value} (hd : Dc B pc .iaload 1 pc') (A : Arv Z h a kA .int z vs dv) (hlt : ¬ j < 0 ∧ j < z) (hv : vs.getD j.toNatClampNeg dv = v) (r : Go p e below F T (mkF m pc' Ls (v :: St))) : Go p e below F T (mkF m pc Ls (.int j :: .ref a :: St)) := by
  obtain ⟨⟨hx, hby, hml⟩, eT, hn0, s1, locs, X, hZ, hown, N, J, Wq⟩ := K
  obtain ⟨hd, rfl⟩ := hd
  obtain ⟨cl, A1, A2, A3, A4, A5, A6⟩ := A
  exact r.st fun t q => X.iaload hx (by rw [eT]; exact A1.1) (State.isArrayOf_alike hZ.alike A1.2.1) A1.2.2 (inb_of A3 hlt) (A5.at (inb_of A3 hlt) hv) (g := mkF m pc Ls (.int j :: .ref a :: St)) rfl rfl (hb hby hd) t q
theorem gAaload (K : Cx p l e R s m args below meth c B ML Z own n0 md T h ws cells slots) {a : Addr} {kA : ClassId} {z j : Int32} {vs : List Value} {dv v : Value} {ty : FieldType} (hd : Dc B pc .aaload 1 pc') (A : Arv Z h a kA ty z vs dv) (hty : ty.isReference = true) (hlt : ¬ j < 0 ∧ j < z) (hv : vs.getD j.toNatClampNeg dv = v) (r : Go p e below F T (mkF m pc' Ls (v :: St))) : Go p e below F T (mkF m pc Ls (.int j :: .ref a :: St)) := by
  obtain ⟨⟨hx, hby, hml⟩, eT, hn0, s1, locs, X, hZ, hown, N, J, Wq⟩ := K
  obtain ⟨hd, rfl⟩ := hd
  obtain ⟨cl, A1, A2, A3, A4, A5, A6⟩ := A
  exact r.st fun t q => X.aaload hx (by rw [eT]; exact A1.1) (State.isArrayOf_alike hZ.alike A1.2.1) hty A1.2.2 (inb_of A3 hlt) (A5.at (inb_of A3 hlt) hv) (g := mkF m pc Ls (.int j :: .ref a :: St)) rfl rfl (hb hby hd) t q
theorem gLen (K : Cx p l e R s m args below meth c B ML Z own n0 md T h ws cells slots) {a : Addr} {kA : ClassId} {z : Int32} {vs : List Value} {dv : Value} {ty : FieldType} (hd : Dc B pc .arraylength 1 pc') (A : Arv Z h a kA ty z vs dv) (r : Go p e below F T (mkF m pc' Ls (.int z :: St))) : Go p e below F T (mkF m pc Ls (.ref a :: St)) := by
  obtain ⟨⟨hx, hby, hml⟩, eT, hn0, s1, locs, X, hZ, hown, N, J, Wq⟩ := K
  obtain ⟨hd, rfl⟩ := hd
  obtain ⟨cl, A1, A2, A3, A4, A5, A6⟩ := A
  exact r.st fun t q => X.arraylength hx (by rw [eT]; exact A1.1) (State.isArrayOf_alike hZ.alike A1.2.1) (g := mkF m pc Ls (.ref a :: St)) rfl rfl (hb hby hd) t (by rw [len_of A3 A4]; exact q)
/-! ## calls -/
abbrev PreC (R : Room) (h : Heap) (as' : Array Value) (kc ks : Nat) : Pt → Array Value → Prop := fun A a => a = as' ∧ A.U.heap = h ∧ A.cells + kc ≤ R.cells ∧ A.slots + ks ≤ R.slots
abbrev PostC (Q : Option Value → Heap → List Loc → Prop) (kc ks : Nat) : Pt → Array Value → Option Value → Pt → Prop := fun A _ v B => ∃ L, Q v B.U.heap L ∧ B.locs = A.locs ++ L ∧ B.cells = A.cells + kc ∧ B.slots = A.slots + ks
def Cal (md : Option EList) (l : Launch) (R : Room) (p : Program) (e : Env) (below : List Frame) (args : Array Value) (y : MethodName) (len W : Nat) (Z : State) (n0 : Nat) (h : Heap) (wsC : List Addr) (as' : Array Value) (kc ks : Nat) (QQ : Option Value → Heap → Prop) : Prop := match md with
  | none => ∀ s' : State, Z.Warmed39 s'.vm → Back l R p e below s' args y len W (PreC R h as' kc ks) (PostC (fun v h' L => QQ v h' ∧ Keep h h' wsC ∧ Fr n0 L) kc ks)
  | some EL => ∀ (s : State) (vm0 : Vm) (a0 : Array Value), Z.Warmed39 vm0 → EW Z a0 EL → CHv Z EL vm0 h → (∀ x ∈ wsC, x < h.size ∧ Safe Z EL vm0 h x) →
      BackS l R p e below (s.setVm vm0) args y len W (PreC R h as' kc ks) (fun A a v B => PostC (fun v h' L => QQ v h' ∧ Keep h h' wsC ∧ Fr n0 L) kc ks A a v B ∧ CHr Z EL vm0 h B.U.vm B.U.heap)
theorem Cal.ofBack {y : MethodName} {len W kc ks : Nat} {wsC : List Addr} {as' : Array Value} {Q : Option Value → Heap → List Loc → Prop} {QQ : Option Value → Heap → Prop}
    (hB : ∀ s' : State, Z.Warmed39 s'.vm → Back l R p e below s' args y len W (PreC R h as' kc ks) (PostC Q kc ks)) (hQ : ∀ v h' L, Q v h' L → QQ v h' ∧ Keep h h' wsC ∧ Fr n0 L) : Cal md l R p e below args y len W Z n0 h wsC as' kc ks QQ := by
  cases md with
  | none =>
    intro s' hZ m meth c A g ig mk a X hg hsize hdg hW hn hp
    obtain ⟨v, B, X', ⟨L, q, b⟩, st⟩ := hB s' hZ m meth c A g ig mk a X hg hsize hdg hW hn hp
    exact ⟨v, B, X', ⟨L, hQ _ _ _ q, b⟩, st⟩
  | some EL =>
    intro s vm0 a0 hZ hE H hs m meth c A g ig mk a X hg hsize hdg hW hn hp
    obtain ⟨v, B, X', ⟨L, q, b⟩, st⟩ := hB (s.setVm vm0) hZ m meth c A g ig mk a X hg hsize hdg hW hn hp
    obtain ⟨q1, q2, q3⟩ := hQ _ _ _ q
    have C1 := CHr.keep q2 (fun x hx => (hs x hx).2) H
    exact ⟨v, B, X'.retabled X'.warmed.wide, X'.warmed.since _, by rw [hp.2.1]; exact q2.1, ⟨⟨L, ⟨q1, q2, q3⟩, b⟩, C1.trans (CHv.at X' hZ hE C1.1)⟩, st⟩
/-- a contract: what a body does from the heap h0, writing at most into ws and into what it makes -/
def ConN (l : Launch) (y : MethodName) (bytes : ByteArray) (maxL : Nat) (ret : Option FieldType) (wl : List Cond) (rm : Room) (Z : State) (n0 : Nat) (h0 : Heap) (ws : List Addr) (as' : Array Value) (QQ : Option Value → Heap → Prop) : Prop :=
  MetFree l y (head1 (Cond.code y bytes maxL ret :: wl) rm) (fun a U => a = as' ∧ Z.Warmed39 U.vm ∧ U.heap = h0) (fun _ _ _ _ _ => True) (fun _ U o U' => ∃ v L, o = .returned v ∧ (QQ v U'.heap ∧ Keep h0 U'.heap ws ∧ Fr n0 L) ∧ FrameEnd U o U' L rm.cells rm.slots)
def ConW (EL : EList) (l : Launch) (y : MethodName) (bytes : ByteArray) (maxL : Nat) (ret : Option FieldType) (wl : List Cond) (rm : Room) (Z : State) (n0 : Nat) (h0 : Heap) (ws : List Addr) (as' : Array Value) (QQ : Option Value → Heap → Prop) : Prop :=
  MetFree l y (head1 (Cond.code y bytes maxL ret :: wl) rm) (fun a U => a = as' ∧ Z.Warmed39 U.vm ∧ U.heap = h0 ∧ CHv Z EL U.vm h0 ∧ ∀ x ∈ ws, Safe Z EL U.vm h0 x) (fun _ _ _ _ _ => True) (fun _ U o U' => ∃ v L, o = .returned v ∧ (QQ v U'.heap ∧ Keep h0 U'.heap ws ∧ Fr n0 L) ∧ CHr Z EL U.vm U.heap U'.vm U'.heap ∧ ReturnedEndW U o U' L rm.cells rm.slots)
def Con (md : Option EList) (l : Launch) (y : MethodName) (bytes : ByteArray) (maxL : Nat) (ret : Option FieldType) (wl : List Cond) (rm : Room) (Z : State) (n0 : Nat) (h0 : Heap) (ws : List Addr) (as' : Array Value) (QQ : Option Value → Heap → Prop) : Prop := match md with
  | none => ConN l y bytes maxL ret wl rm Z n0 h0 ws as' QQ
  | some EL => ConW EL l y bytes maxL ret wl rm Z n0 h0 ws as' QQ
theorem Con.asN {y : MethodName} {bytes : ByteArray} {maxL : Nat} {ret : Option FieldType} {wl : List Cond} {rm : Room} {as' : Array Value} {QQ : Option Value → Heap → Prop} (C : Con none l y bytes maxL ret wl rm Z n0 h ws as' QQ) :
    MetFree l y (head1 (Cond.code y bytes maxL ret :: wl) rm) (fun a U => a = as' ∧ Z.Warmed39 U.vm ∧ U.heap = h) (fun _ _ _ _ _ => True) (fun _ U o U' => ∃ v L, o = .returned v ∧ (QQ v U'.heap ∧ Keep h U'.heap ws ∧ Fr n0 L) ∧ FrameEnd U o U' L rm.cells rm.slots) := C
theorem Con.asW {EL : EList} {y : MethodName} {bytes : ByteArray} {maxL : Nat} {ret : Option FieldType} {wl : List Cond} {rm : Room} {as' : Array Value} {QQ : Option Value → Heap → Prop} (C : Con (some EL) l y bytes maxL ret wl rm Z n0 h ws as' QQ) :
    MetFree l y (head1 (Cond.code y bytes maxL ret :: wl) rm) (fun a U => a = as' ∧ Z.Warmed39 U.vm ∧ U.heap = h ∧ CHv Z EL U.vm h ∧ ∀ x ∈ ws, Safe Z EL U.vm h x) (fun _ _ _ _ _ => True) (fun _ U o U' => ∃ v L, o = .returned v ∧ (QQ v U'.heap ∧ Keep h U'.heap ws ∧ Fr n0 L) ∧ CHr Z EL U.vm U.heap U'.vm U'.heap ∧ ReturnedEndW U o U' L rm.cells rm.slots) := C
theorem Cal.ofN {y : MethodName} {bytes : ByteArray} {maxL : Nat} {ret : Option FieldType} {rm : Room} {len W : Nat} {wsC : List Addr} {as' : Array Value} {QQ : Option Value → Heap → Prop} (hM : Con none l y bytes maxL ret [] rm Z n0 h wsC as' QQ) (wc : (Cond.code y bytes maxL ret).before a0 Z = true) (wz : (Cond.initialized y.cls).before a0 Z = true) (hf : rm.frames + 1 ≤ R.frames) (hl : W + (maxL + 11) + rm.locals ≤ R.locals) :
    Cal md l R p e below args y len W Z n0 h wsC as' rm.cells rm.slots QQ :=
  Cal.ofBack (fun s' hZ => backOf (Q := fun v h' L => QQ v h' ∧ Keep h h' wsC ∧ Fr n0 L) hM.asN hZ wc wz hf hl) (fun _ _ _ q => q)
theorem Cal.ofW {EL : EList} {y : MethodName} {bytes : ByteArray} {maxL : Nat} {ret : Option FieldType} {rm : Room} {len W : Nat} {wsC : List Addr} {as' : Array Value} {QQ : Option Value → Heap → Prop} (hM : Con (some EL) l y bytes maxL ret [] rm Z n0 h wsC as' QQ) (wc : (Cond.code y bytes maxL ret).before a0 Z = true) (wz : (Cond.initialized y.cls).before a0 Z = true) (hf : rm.frames + 1 ≤ R.frames) (hl : W + (maxL + 11) + rm.locals ≤ R.locals) :
    Cal (some EL) l R p e below args y len W Z n0 h wsC as' rm.cells rm.slots QQ := fun s vm0 a1 hZ hEL H hs =>
  BackS.of_freeW (bytes := bytes) (maxL := maxL) (ret := ret) (E := fun _ first o t L k n => k = rm.cells ∧ n = rm.slots ∧ (∃ v, o = .returned v ∧ QQ v t.heap ∧ Keep h t.heap wsC ∧ Fr n0 L) ∧ CHr Z EL first.vm first.heap t.vm t.heap) hM.asW hf hl
    (fun m meth c A a Y hp => have hU : Z.Warmed39 A.U.vm := wtrans (s := s.setVm vm0) hZ Y.warmed
      ⟨by show (Cond.and _ .tt).before a A.U = true; rw [Cond.before_and, mv hU wc]; rfl, mv hU wc, mv hU wz, hp.2.2.1, hp.2.2.2⟩)
    (fun m meth c A a g mk Y hp => ⟨hp.1, wtrans (s := s.setVm vm0) hZ Y.warmed, hp.2.1, (CHv.at Y hZ hEL H).1, fun x hx => (CHv.at Y hZ hEL H).safe (hs x hx).1 (hs x hx).2⟩) (fun _ _ _ _ _ _ _ _ _ => trivial)
    (fun _ _ _ _ ⟨v, L, h1, h2, h3, h4⟩ => ⟨L, _, _, h4, rfl, rfl, ⟨v, h1, h2⟩, h3⟩)
    (fun m meth c A a g mk v t L k n Y hp _ _ ⟨e1, e2, ⟨v', e3, e4⟩, e5⟩ => by
      cases e3; subst e1 e2
      refine ⟨⟨L, e4, rfl, rfl, rfl⟩, (CHv.at Y hZ hEL H).trans ?_⟩
      rw [← hp.2.1]; exact e5)
/-- behind a call in the narrow family -/
theorem Cx.backN {s1 : State} {locs : List Loc} {Bp : Pt} {L : List Loc} {wsC : List Addr} {kc ks : Nat} (K : Cx p l e R s m args below meth c B ML Z own n0 none T h ws cells slots) (X' : Stand p l e R s1 m args below meth c Bp.U Bp.locs Bp.cells Bp.slots) (hZ : Z.Warmed39 s1.vm) (hown : s1.vm.findClass own = some m.cls) (N : Fr n0 locs) (J : Jd none Z s s1 h) (Wq : ∀ x ∈ ws, n0 ≤ x ∧ x < h.size ∧ Sf none Z s1 h x) (Kp : Keep h Bp.U.heap wsC) (NL : Fr n0 L) (b1 : Bp.locs = locs ++ L) (b2 : Bp.cells = cells + kc) (b3 : Bp.slots = slots + ks) : Cx p l e R s m args below meth c B ML Z own n0 none Bp.U Bp.U.heap ws (cells + kc) (slots + ks) := by
  obtain ⟨U, lo, ce, sl⟩ := Bp
  dsimp only [Pt.U, Pt.locs, Pt.cells, Pt.slots] at *
  subst b1 b2 b3
  exact ⟨K.1, rfl, Nat.le_trans K.2.2.1 Kp.1, s1, _, X', hZ, hown, Fr.app N NL, J, fun x hx => ⟨(Wq x hx).1, Nat.lt_of_lt_of_le (Wq x hx).2.1 Kp.1, trivial⟩⟩
/-- behind a call in the wide family -/
theorem Cx.backW {EL : EList} {vm0 : Vm} {k0 : Nat} {locs : List Loc} {Bp : Pt} {L : List Loc} {wsC : List Addr} {kc ks : Nat} {a1 : Array Value} (K : Cx p l e R s m args below meth c B ML Z own n0 (some EL) T h ws cells slots) (X' : Stand p l e R ((s.setVm vm0).setVm Bp.U.vm) m args below meth c Bp.U Bp.locs Bp.cells Bp.slots) (hZ : Z.Warmed39 vm0) (hown : vm0.findClass own = some m.cls) (N : Fr n0 locs) (hS : s.Since vm0 k0) (hk : k0 ≤ h.size) (hC : CHr Z EL s.vm s.heap vm0 h) (hE : EW Z a1 EL) (Wq : ∀ x ∈ ws, n0 ≤ x ∧ x < h.size ∧ Safe Z EL vm0 h x) (hS2 : (s.setVm vm0).Since Bp.U.vm Bp.U.heap.size) (Kp : Keep h Bp.U.heap wsC) (NL : Fr n0 L) (b1 : Bp.locs = locs ++ L) (b2 : Bp.cells = cells + kc) (b3 : Bp.slots = slots + ks) (C2 : CHr Z EL vm0 h Bp.U.vm Bp.U.heap) : Cx p l e R s m args below meth c B ML Z own n0 (some EL) Bp.U Bp.U.heap ws (cells + kc) (slots + ks) := by
  obtain ⟨U, lo, ce, sl⟩ := Bp
  dsimp only [Pt.U, Pt.locs, Pt.cells, Pt.slots] at *
  subst b1 b2 b3
  refine ⟨K.1, rfl, Nat.le_trans K.2.2.1 Kp.1, s.setVm U.vm, _, X', State.Warmed39.trans (t := s.setVm vm0) hZ hS2.1, ?_, Fr.app N NL, ⟨U.vm, U.heap.size, a1, rfl, hS.trans hS2 (Nat.le_trans hk Kp.1), Nat.le_refl _, hC.trans C2, hE⟩, fun x hx => ⟨(Wq x hx).1, Nat.lt_of_lt_of_le (Wq x hx).2.1 Kp.1, C2.safe (Wq x hx).2.1 (Wq x hx).2.2⟩⟩
  show U.vm.findClass own = _
  rw [hS2.1.alike.findClass]; exact hown
theorem gCallS (K : Cx p l e R s m args below meth c B ML Z own n0 md T h ws cells slots) {index : Nat} {y : MethodName} {bytes : ByteArray} {maxL : Nat} {ret : Option FieldType} {wsC : List Addr} {kc ks W : Nat} {QQ : Option Value → Heap → Prop} (argsL rest : List Value)
    (hd : Dc B pc (.invokestatic index) 3 pc') (w1 : (Cond.methodLink own index y).before a0 Z = true) (w2 : (Cond.static y).before a0 Z = true) (w3 : (Cond.initialized y.cls).before a0 Z = true) (w4 : (Cond.code y bytes maxL ret).before a0 Z = true)
    (hC : Cal md l R p e below args y 3 W Z n0 h wsC argsL.toArray kc ks QQ) (hws : ∀ x ∈ wsC, x ∈ ws) {ps : List FieldType} {rt : Option FieldType} (hpd : parseMethodDescriptor y.desc = some ⟨ps, rt⟩) (hpl : argsL.length = ps.length) (hst : St = argsL.reverse ++ rest) (hW : (rest.map fun v => v.category).sum ≤ W) (hsz : Ls.size = ML) (hc : cells + kc ≤ R.cells) (hs : slots + ks ≤ R.slots) (hy : y.cls ≠ "java/lang/invoke/MethodHandle" ∧ y.cls ≠ "java/lang/invoke/VarHandle")
    (k : ∀ (v : Option Value) (T' : State) (h' : Heap), Cx p l e R s m args below meth c B ML Z own n0 md T' h' ws (cells + kc) (slots + ks) → Keep h h' wsC → QQ v h' → Go p e below F T' (mkF m pc' Ls (v.toList ++ rest))) : Go p e below F T (mkF m pc Ls St) := by
  have K0 := K
  obtain ⟨⟨hx, hby, hml⟩, eT, hn0, s1, locs, X, hZ, hown, N, J, Wq⟩ := K
  obtain ⟨hd, rfl⟩ := hd
  cases md with
  | none =>
    obtain ⟨v, vm1, Bp, -, X', ⟨L, ⟨q1, q2, q3⟩, b1, b2, b3⟩, st⟩ := Jvm.LawKit.callS X hx hown (mvT hZ w1) (mvT hZ w2) (mvT hZ w3) (mvT hZ w4) hy (hC s1 hZ) (g := mkF m pc Ls St) rfl (by rw [hml]; exact hsz) (lenOf hpd hpl) hst (by show 2 * 0 + _ ≤ _; omega) (hb hby hd) (fun _ _ => ⟨rfl, eT, hc, hs⟩)
    exact (k v Bp.U Bp.U.heap (K0.backN X' hZ hown N J Wq q2 q3 b1 b2 b3) q2 q1).st st
  | some EL =>
    obtain ⟨vm0, k0, a1, rfl, j2, j3, j4, j5⟩ := J
    obtain ⟨v, vm1, Bp, -, X', S2, -, ⟨⟨L, ⟨q1, q2, q3⟩, b1, b2, b3⟩, C2⟩, st⟩ := callSS X hx hown (mvT hZ w1) (mvT hZ w2) (mvT hZ w3) (mvT hZ w4) hy (hC s vm0 a1 hZ j5 j4.1 (fun x hx => (Wq x (hws x hx)).2)) (g := mkF m pc Ls St) rfl (by rw [hml]; exact hsz) (lenOf hpd hpl) hst (by show 2 * 0 + _ ≤ _; omega) (hb hby hd) (fun _ _ => ⟨rfl, eT, hc, hs⟩)
    exact (k v Bp.U Bp.U.heap (K0.backW X' hZ hown N j2 j3 j4 j5 Wq S2 q2 q3 b1 b2 b3 C2) q2 q1).tr st
theorem gCallI (K : Cx p l e R s m args below meth c B ML Z own n0 md T h ws cells slots) {index : Nat} {y : MethodName} {bytes : ByteArray} {maxL : Nat} {wsC : List Addr} {kc ks W : Nat} {QQ : Option Value → Heap → Prop} (a : Addr) (argsL rest : List Value)
    (hd : Dc B pc (.invokespecial index) 3 pc') (hy1 : y.name = "<init>") (w1 : (Cond.methodLink own index y).before a0 Z = true) (w2 : (Cond.instanceMethod y).before a0 Z = true) (w4 : (Cond.code y bytes maxL none).before a0 Z = true)
    (hC : Cal md l R p e below args y 3 W Z n0 h wsC (.ref a :: argsL).toArray kc ks QQ) (hws : ∀ x ∈ wsC, x ∈ ws) {ps : List FieldType} {rt : Option FieldType} (hpd : parseMethodDescriptor y.desc = some ⟨ps, rt⟩) (hpl : argsL.length = ps.length) (hst : St = argsL.reverse ++ .ref a :: rest) (hW : (rest.map fun v => v.category).sum ≤ W) (hsz : Ls.size = ML) (hc : cells + kc ≤ R.cells) (hs : slots + ks ≤ R.slots) (hy : y.cls ≠ "java/lang/invoke/MethodHandle" ∧ y.cls ≠ "java/lang/invoke/VarHandle")
    (k : ∀ (v : Option Value) (T' : State) (h' : Heap), Cx p l e R s m args below meth c B ML Z own n0 md T' h' ws (cells + kc) (slots + ks) → Keep h h' wsC → QQ v h' → Go p e below F T' (mkF m pc' Ls (v.toList ++ rest))) : Go p e below F T (mkF m pc Ls St) := by
  have K0 := K
  obtain ⟨⟨hx, hby, hml⟩, eT, hn0, s1, locs, X, hZ, hown, N, J, Wq⟩ := K
  obtain ⟨hd, rfl⟩ := hd
  cases md with
  | none =>
    obtain ⟨v, vm1, Bp, -, X', ⟨L, ⟨q1, q2, q3⟩, b1, b2, b3⟩, st⟩ := X.specialBack hx hy1 hown (mvT hZ w1) (mvT hZ w2) (mvT hZ w4) hy (hC s1 hZ) (g := mkF m pc Ls St) rfl (by rw [hml]; exact hsz) (Steps.refl _) (lenOf hpd hpl) hst (by show 2 * 0 + _ ≤ _; omega) (hb hby hd) (fun _ _ => ⟨rfl, eT, hc, hs⟩)
    exact (k v Bp.U Bp.U.heap (K0.backN X' hZ hown N J Wq q2 q3 b1 b2 b3) q2 q1).tr st
  | some EL =>
    obtain ⟨vm0, k0, a1, rfl, j2, j3, j4, j5⟩ := J
    obtain ⟨v, vm1, Bp, -, X', S2, -, ⟨⟨L, ⟨q1, q2, q3⟩, b1, b2, b3⟩, C2⟩, st⟩ := X.specialBackS hx hy1 hown (mvT hZ w1) (mvT hZ w2) (mvT hZ w4) hy (hC s vm0 a1 hZ j5 j4.1 (fun x hx => (Wq x (hws x hx)).2)) (g := mkF m pc Ls St) rfl (by rw [hml]; exact hsz) (Steps.refl _) (lenOf hpd hpl) hst (by show 2 * 0 + _ ≤ _; omega) (hb hby hd) (fun _ _ => ⟨rfl, eT, hc, hs⟩)
    exact (k v Bp.U Bp.U.heap (K0.backW X' hZ hown N j2 j3 j4 j5 Wq S2 q2 q3 b1 b2 b3 C2) q2 q1).tr st
theorem gCallV (K : Cx p l e R s m args below meth c B ML Z own n0 md T h ws cells slots) {index : Nat} {C : String} {y : MethodName} {wsC : List Addr} {kc ks W : Nat} {QQ : Option Value → Heap → Prop} (a : Addr) (argsL rest : List Value)
    (hd : Dc B pc (.invokevirtual index) 3 pc') (w1 : (Cond.methodLink own index y).before a0 Z = true) (w2 : (Cond.declares y).before a0 Z = true) (w3 : (Cond.selects C y y).before a0 Z = true) (w4 : (Cond.instanceMethod y).before a0 Z = true)
    (hC : Cal md l R p e below args y 3 W Z n0 h wsC (.ref a :: argsL).toArray kc ks QQ) (E : Exa Z h a C) (hws : ∀ x ∈ wsC, x ∈ ws) {ps : List FieldType} {rt : Option FieldType} (hpd : parseMethodDescriptor y.desc = some ⟨ps, rt⟩) (hpl : argsL.length = ps.length) (hst : St = argsL.reverse ++ .ref a :: rest) (hW : (rest.map fun v => v.category).sum ≤ W) (hsz : Ls.size = ML) (hc : cells + kc ≤ R.cells) (hs : slots + ks ≤ R.slots) (hy : y.cls ≠ "java/lang/invoke/MethodHandle" ∧ y.cls ≠ "java/lang/invoke/VarHandle")
    (k : ∀ (v : Option Value) (T' : State) (h' : Heap), Cx p l e R s m args below meth c B ML Z own n0 md T' h' ws (cells + kc) (slots + ks) → Keep h h' wsC → QQ v h' → Go p e below F T' (mkF m pc' Ls (v.toList ++ rest))) : Go p e below F T (mkF m pc Ls St) := by
  have K0 := K
  obtain ⟨⟨hx, hby, hml⟩, eT, hn0, s1, locs, X, hZ, hown, N, J, Wq⟩ := K
  obtain ⟨hd, rfl⟩ := hd
  obtain ⟨cq, kq, qa, -, qc⟩ := isOf hZ eT E
  cases md with
  | none =>
    obtain ⟨v, vm1, Bp, -, X', ⟨L, ⟨q1, q2, q3⟩, b1, b2, b3⟩, st⟩ := X.virtualBack hx hown (mvT hZ w1) (mvT hZ w2) (notFace_of_selects (args := #[]) (mvT hZ w3)) (mvT hZ w3) (mvT hZ w4) hy (hC s1 hZ) qa qc (g := mkF m pc Ls St) rfl (by rw [hml]; exact hsz) (Steps.refl _) (lenOf hpd hpl) hst (by show 2 * 0 + _ ≤ _; omega) (hb hby hd) (fun _ _ => ⟨rfl, eT, hc, hs⟩)
    exact (k v Bp.U Bp.U.heap (K0.backN X' hZ hown N J Wq q2 q3 b1 b2 b3) q2 q1).tr st
  | some EL =>
    obtain ⟨vm0, k0, a1, rfl, j2, j3, j4, j5⟩ := J
    obtain ⟨v, vm1, Bp, -, X', S2, -, ⟨⟨L, ⟨q1, q2, q3⟩, b1, b2, b3⟩, C2⟩, st⟩ := X.virtualBackS hx hown (mvT hZ w1) (mvT hZ w2) (notFace_of_selects (args := #[]) (mvT hZ w3)) (mvT hZ w3) (mvT hZ w4) hy (hC s vm0 a1 hZ j5 j4.1 (fun x hx => (Wq x (hws x hx)).2)) qa qc (g := mkF m pc Ls St) rfl (by rw [hml]; exact hsz) (Steps.refl _) (lenOf hpd hpl) hst (by show 2 * 0 + _ ≤ _; omega) (hb hby hd) (fun _ _ => ⟨rfl, eT, hc, hs⟩)
    exact (k v Bp.U Bp.U.heap (K0.backW X' hZ hown N j2 j3 j4 j5 Wq S2 q2 q3 b1 b2 b3 C2) q2 q1).tr st
/-! ## the end, the entry -/
def End (md : Option EList) (s Z : State) (n0 : Nat) (h0 : Heap) (ws : List Addr) (kc ks : Nat) (QQ : Option Value → Heap → Prop) : Outcome → State → Prop := match md with
  | none => fun o t => ∃ v L, o = .returned v ∧ (QQ v t.heap ∧ Keep h0 t.heap ws ∧ Fr n0 L) ∧ FrameEnd s o t L kc ks
  | some EL => fun o t => ∃ v L, o = .returned v ∧ (QQ v t.heap ∧ Keep h0 t.heap ws ∧ Fr n0 L) ∧ CHr Z EL s.vm s.heap t.vm t.heap ∧ ReturnedEndW s o t L kc ks
theorem sbn_mono {s t : State} {L : List Loc} {k n k' n' : Nat} (h : s.sameButNew t L k n) (a : k ≤ k') (b : n ≤ n') : s.sameButNew t L k' n' := h.mono a b
theorem gEnd {g : JFrame} {h0 : Heap} {wsA : List Addr} {kc ks : Nat} {QQ : Option Value → Heap → Prop} {v : Option Value} (K : Cx p l e R s m args below meth c B ML Z own n0 md T h ws cells slots) (hlk : meth.locks = false) (hv : meth.sig.returnType = none → v = none)
    (st : ∀ {s1 : State} {locs : List Loc} {fs : List Frame}, Stand p l e R s1 m args below meth c T locs cells slots → (∀ (f : JFrame) (acts : List Action), f.method = m → f.locked = none → f.entered = [] → (doReturn e (T.setTop f) acts v).1 = T.setFrames fs) → Steps p.tables e below (T.setTop g) (T.setFrames fs))
    (Kp : Keep h0 h wsA) (hc : cells ≤ kc) (hs : slots ≤ ks) (hq : QQ v h) : Go p e below (End md s Z n0 h0 wsA kc ks QQ) T g := by
  obtain ⟨⟨hx, hby, hml⟩, eT, hn0, s1, locs, X, hZ, hown, N, J, Wq⟩ := K
  subst eT
  cases md with
  | none =>
    cases J
    obtain ⟨fs, hr, hrun, hended, hW, hsame⟩ := X.leave (v := v) hv hlk
    exact ⟨_, _, st X hr, hrun, hended, v, locs, rfl, ⟨hq, Kp, N⟩, ⟨_, rfl⟩, hW, sbn_mono hsame hc hs⟩
  | some EL =>
    obtain ⟨vm0, k0, a1, rfl, j2, j3, j4, j5⟩ := J
    obtain ⟨fs, hr, hrun, hended, hW⟩ := X.leaveW j2 j3 (v := v) hv hlk
    refine ⟨_, _, st X hr, hrun, hended, v, locs, rfl, ⟨hq, Kp, N⟩, (show CHr Z EL s.vm s.heap T.vm T.heap from j4.trans (CHv.at X hZ j5 j4.1)), ?_⟩
    obtain ⟨w1, w2, w3, w4⟩ := hW
    exact ⟨w1, w2, w3, sbn_mono w4 hc hs⟩
theorem Cal.mono {y : MethodName} {len W kc ks kc' ks' : Nat} {wsC : List Addr} {as' : Array Value} {QQ QQ' : Option Value → Heap → Prop} (C : Cal md l R p e below args y len W Z n0 h wsC as' kc ks QQ) (h1 : kc ≤ kc') (h2 : ks ≤ ks') (hq : ∀ v h', QQ v h' → QQ' v h') : Cal md l R p e below args y len W Z n0 h wsC as' kc' ks' QQ' := by
  cases md with
  | none =>
    intro s' hZ m meth c A g ig mk a X hg hsize hdg hW hn hp
    obtain ⟨v, ⟨U, lo, ce, sl⟩, X', ⟨L, ⟨q1, q2, q3⟩, b1, b2, b3⟩, st⟩ := C s' hZ m meth c A g ig mk a X hg hsize hdg hW hn ⟨hp.1, hp.2.1, by have := hp.2.2.1; omega, by have := hp.2.2.2; omega⟩
    dsimp only [Pt.U, Pt.locs, Pt.cells, Pt.slots] at *
    exact ⟨v, ⟨U, lo, A.cells + kc', A.slots + ks'⟩, X'.mono (by rw [b2]; exact Nat.add_le_add_left h1 _) (by rw [b3]; exact Nat.add_le_add_left h2 _), ⟨L, ⟨hq _ _ q1, q2, q3⟩, b1, rfl, rfl⟩, st⟩
  | some EL =>
    intro s vm0 a0 hZ hE H hs m meth c A g ig mk a X hg hsize hdg hW hn hp
    obtain ⟨v, ⟨U, lo, ce, sl⟩, X', S2, gr, ⟨⟨L, ⟨q1, q2, q3⟩, b1, b2, b3⟩, C2⟩, st⟩ := C s vm0 a0 hZ hE H hs m meth c A g ig mk a X hg hsize hdg hW hn ⟨hp.1, hp.2.1, by have := hp.2.2.1; omega, by have := hp.2.2.2; omega⟩
    dsimp only [Pt.U, Pt.locs, Pt.cells, Pt.slots] at *
    exact ⟨v, ⟨U, lo, A.cells + kc', A.slots + ks'⟩, X'.mono (by rw [b2]; exact Nat.add_le_add_left h1 _) (by rw [b3]; exact Nat.add_le_add_left h2 _), S2, gr, ⟨⟨L, ⟨hq _ _ q1, q2, q3⟩, b1, rfl, rfl⟩, C2⟩, st⟩

theorem gRetI {h0 : Heap} {wsA : List Addr} {kc ks : Nat} {QQ : Option Value → Heap → Prop} {t : FieldType} {z : Int32} (K : Cx p l e R s m args below meth c B ML Z own n0 md T h ws cells slots) (hlk : meth.locks = false) (hret : meth.sig.returnType = some t) (ht : t = .int ∨ t = .boolean ∨ t = .byte ∨ t = .char ∨ t = .short) (hd : Dc B pc .ireturn 1 pc') (hn : narrow t (.int z) = .int z) (Kp : Keep h0 h wsA) (hc : cells ≤ kc) (hs : slots ≤ ks) (hq : QQ (some (.int z)) h) : Go p e below (End md s Z n0 h0 wsA kc ks QQ) T (mkF m pc Ls (.int z :: St)) :=
  gEnd K hlk (fun q => by rw [hret] at q; cases q) (fun X hr => retOut X K.1.1 hret hn (Or.inl ⟨rfl, ht, _, rfl⟩) (hb K.1.2.1 hd.1) hr) Kp hc hs hq
theorem gRetA {h0 : Heap} {wsA : List Addr} {kc ks : Nat} {QQ : Option Value → Heap → Prop} {t : FieldType} {w : Value} (K : Cx p l e R s m args below meth c B ML Z own n0 md T h ws cells slots) (hlk : meth.locks = false) (hret : meth.sig.returnType = some t) (ht : t.isReference = true) (hw : w.isRef = true) (hd : Dc B pc .areturn 1 pc') (Kp : Keep h0 h wsA) (hc : cells ≤ kc) (hs : slots ≤ ks) (hq : QQ (some w) h) : Go p e below (End md s Z n0 h0 wsA kc ks QQ) T (mkF m pc Ls (w :: St)) :=
  gEnd K hlk (fun q => by rw [hret] at q; cases q) (fun X hr => retOut X K.1.1 hret (by cases t <;> cases w <;> simp_all [FieldType.isReference, Value.isRef, narrow]) (Or.inr (Or.inr (Or.inr (Or.inr ⟨rfl, ht, hw⟩)))) (hb K.1.2.1 hd.1) hr) Kp hc hs hq
theorem gRetV {h0 : Heap} {wsA : List Addr} {kc ks : Nat} {QQ : Option Value → Heap → Prop} (K : Cx p l e R s m args below meth c B ML Z own n0 md T h ws cells slots) (hlk : meth.locks = false) (hret : meth.sig.returnType = none) (hd : Dc B pc .return_ 1 pc') (Kp : Keep h0 h wsA) (hc : cells ≤ kc) (hs : slots ≤ ks) (hq : QQ none h) : Go p e below (End md s Z n0 h0 wsA kc ks QQ) T (mkF m pc Ls []) :=
  gEnd K hlk (fun _ => rfl) (fun X hr => X.returnOut K.1.1 hret (hb K.1.2.1 hd.1) hr) Kp hc hs hq
def Ew (md : Option EList) (Z : State) : Prop := match md with | none => True | some EL => ∃ a0, EW Z a0 EL
theorem Con.intro {y : MethodName} {bytes : ByteArray} {maxL : Nat} {ret : Option FieldType} {wl : List Cond} {rm : Room} {h0 : Heap} {as' : Array Value} {QQ : Option Value → Heap → Prop} (hpn : plainName y.cls = true) (Z0 : n0 ≤ h0.size) (hws : ∀ x ∈ ws, n0 ≤ x ∧ x < h0.size) (hE : Ew md Z) (Ls0 : Array Slot) (hef : ∀ m, entryFrame m as' maxL = mkF m 0 Ls0 [])
    (body : ∀ p e s m below meth c T, meth.locks = false → meth.sig.returnType = ret → meth.name = y.name → Cx p l e rm s m as' below meth c bytes maxL Z y.cls n0 md T h0 ws 0 0 → Go p e below (End md s Z n0 h0 ws rm.cells rm.slots QQ) T (mkF m 0 Ls0 [])) : Con md l y bytes maxL ret wl rm Z n0 h0 ws as' QQ := by
  cases md with
  | none =>
    show ConN l y bytes maxL ret wl rm Z n0 h0 ws as' QQ
    unfold ConN
    refine MetFree.of_bodySF (plainFor_of_name hpn) hisR ?_
    intro p e s m args below meth c s₁ Bd hml0 hP hK
    obtain ⟨ha, hZ, hh⟩ := hP
    subst ha
    have G := body p e s m below meth c s₁ Bd.notSynchronized Bd.returns (name_of_methodNamed Bd.named Bd.method).1 ⟨⟨Bd.exec, Bd.bytes, hml0⟩, by rw [← hh, Bd.state]; rfl, Z0, s, [], Stand.of_body Bd, hZ, findClass_of_methodNamed Bd.named, Fr.nil n0, rfl, fun x hx => ⟨(hws x hx).1, (hws x hx).2, trivial⟩⟩
    rw [← hef m] at G
    exact G
  | some EL =>
    obtain ⟨a1, hE⟩ := hE
    show ConW EL l y bytes maxL ret wl rm Z n0 h0 ws as' QQ
    unfold ConW
    refine MetFree.of_bodySF (plainFor_of_name hpn) hisR ?_
    intro p e s m args below meth c s₁ Bd hml0 hP hK
    obtain ⟨ha, hZ, hh, H, hsf⟩ := hP
    subst ha
    have G := body p e s m below meth c s₁ Bd.notSynchronized Bd.returns (name_of_methodNamed Bd.named Bd.method).1 ⟨⟨Bd.exec, Bd.bytes, hml0⟩, by rw [← hh, Bd.state]; rfl, Z0, s, [], Stand.of_body Bd, hZ, findClass_of_methodNamed Bd.named, Fr.nil n0, ⟨s.vm, s.heap.size, a1, rfl, (State.WarmedH.refl s).since _, by rw [hh]; exact Nat.le_refl _, by rw [hh]; exact CHr.refl H, hE⟩, fun x hx => ⟨(hws x hx).1, (hws x hx).2, hsf x hx⟩⟩
    rw [← hef m] at G
    exact G
theorem EW.re {a1 a2 : Array Value} {EL : EList} (E : EW Z a1 EL) : EW Z a2 EL := fun q hq => by
  obtain ⟨t, w, h⟩ := E q hq
  exact ⟨t, mvS (s := Z) (vm0 := Z.vm) (State.Warmed39.refl Z) w, h⟩
theorem gLdc {EL : EList} (K : Cx p l e R s m args below meth c B ML Z own n0 (some EL) T h ws cells slots) {index : Nat} {text : String} (hd : Dc B pc (.ldc index) 2 pc') (w : (Cond.stringLink own index text).before a0 Z = true) (wS : ∀ a ∈ Bundle.stringAtoms, a.before a0 Z = true) (hmem : (own, index) ∈ EL)
    {vs : List Value} {z : Int32} (ht : (∀ c ∈ text.toList, c.toNat < 256) ∧ text.toList.map (fun c => Value.int (Jvm.Lit.byteI c.toNat.toUInt16)) = vs) (hz : ¬ z < 0) (hl : z.toNatClampNeg = vs.length) (n : Nat) (hn : 4 * text.toList.length ≤ n) (hbig : n ≤ 536870912) (hc : cells + 2 ≤ R.cells) (hs : slots + (n + 4) ≤ R.slots)
    (k : ∀ (T' : State) (h' : Heap) (a b : Addr) (kA : ClassId), Cx p l e R s m args below meth c B ML Z own n0 (some EL) T' h' ws (cells + 2) (slots + (n + 4)) → Ext h h' → Exa Z h' a "java/lang/String" → Fld Z h' a "java/lang/String" "coder" "B" (.int 0) → Fld Z h' a "java/lang/String" "value" "[B" (.ref b) → Arv Z h' b kA .byte z vs (.int 0) → (∀ x ∈ ws, x ≠ a ∧ x ≠ b) → Go p e below F T' (mkF m pc' Ls (.ref a :: St))) : Go p e below F T (mkF m pc Ls St) := by
  have K0 := K
  obtain ⟨⟨hx, hby, hml⟩, eT, hn0, s1, locs, X, hZ, hown, N, J, Wq⟩ := K
  obtain ⟨hd, rfl⟩ := hd
  obtain ⟨vm0, k0, a1, rfl, j2, j3, j4, j5⟩ := J
  obtain ⟨a, T', h', k1, b, kA, X', e', E, S', hk', hZ', hown', f1, f2, f3, f4, -, -, C2, -, hne, st⟩ := ldcCH X hx hZ hown w wS eT j2 j3 (EW.re j5) hmem j4.1 ht hz hl (g := mkF m pc Ls St) rfl (hb hby hd) hn hbig hc hs
  exact (k T' h' a b kA ⟨K0.1, e', Nat.le_trans hn0 E.1, _, locs, X', hZ', hown', N, ⟨T'.vm, k1, a1, rfl, S', hk', j4.trans C2, j5⟩, fun x hx => ⟨(Wq x hx).1, Nat.lt_of_lt_of_le (Wq x hx).2.1 E.1, C2.safe (Wq x hx).2.1 (Wq x hx).2.2⟩⟩ E f1 f2 f3 f4 (fun x hx => hne x (C2.safe (Wq x hx).2.1 (Wq x hx).2.2))).st st
theorem gLdcO {EL : EList} (K : Cx p l e R s m args below meth c B ML Z own n0 (some EL) T h ws cells slots) {index : Nat} {text : String} (hd : Dc B pc (.ldc index) 2 pc') (w : (Cond.stringLink own index text).before a0 Z = true) (wS : ∀ a ∈ Bundle.stringAtoms, a.before a0 Z = true) (n : Nat) (hn : 4 * text.toList.length ≤ n) (hbig : n ≤ 536870912) (hc : cells + 2 ≤ R.cells) (hs : slots + (n + 4) ≤ R.slots)
    (k : ∀ (T' : State) (h' : Heap) (a : Addr), Cx p l e R s m args below meth c B ML Z own n0 (some EL) T' h' ws (cells + 2) (slots + (n + 4)) → Ext h h' → Go p e below F T' (mkF m pc' Ls (.ref a :: St))) : Go p e below F T (mkF m pc Ls St) := by
  have K0 := K
  obtain ⟨⟨hx, hby, hml⟩, eT, hn0, s1, locs, X, hZ, hown, N, J, Wq⟩ := K
  obtain ⟨hd, rfl⟩ := hd
  obtain ⟨vm0, k0, a1, rfl, j2, j3, j4, j5⟩ := J
  obtain ⟨a, T', h', k1, X', e', E, S', hk', hZ', hown', C2, -, st⟩ := ldcOH X hx hZ hown w wS eT j2 j3 (EW.re j5) j4.1 (g := mkF m pc Ls St) rfl (hb hby hd) hn hbig hc hs
  exact (k T' h' a ⟨K0.1, e', Nat.le_trans hn0 E.1, _, locs, X', hZ', hown', N, ⟨T'.vm, k1, a1, rfl, S', hk', j4.trans C2, j5⟩, fun x hx => ⟨(Wq x hx).1, Nat.lt_of_lt_of_le (Wq x hx).2.1 E.1, C2.safe (Wq x hx).2.1 (Wq x hx).2.2⟩⟩ E).st st

/-! ## from a case's words -/
theorem eqint_v {first s : State} {o : Option Outcome} {idx : List Nat} {t : Term} {i : Int32} (q : (Cond.eq t (.int i)).value args first o s idx = some true) : t.eval args first o idx s = some (.int i) := by
  simp only [Cond.value, Term.eval] at q
  cases ht : t.eval args first o idx s with
  | none => simp [ht] at q
  | some x => cases x <;> simp [ht] at q ⊢; exact q
theorem ord_of {s : State} {t : Term} {C n d : String} {x : Addr} {i : Int32} (ht : t.eval args s none [] s = some (.ref x)) (q : (Cond.eq (Term.field t C n d) (.int i)).value args s none s [] = some true) : Fld s s.heap x C n d (.int i) := by
  have e1 := eqint_v q
  rw [fld_at ht] at e1
  exact Fld.start e1
theorem Sta.kp {C n d : String} {v : Value} {h' : Heap} (Fd : Sta Z h C n d v) (K : Keep h h' ws) (hn : ∀ x ∈ ws, ∀ cell : Cell, h[x]? = some cell → cell.vm.isStatics = false) : Sta Z h' C n d v := by
  obtain ⟨cf, i, k, f, st, cell, h1, h2, h3, h4, h5, h6, h7⟩ := Fd
  exact ⟨cf, i, k, f, st, cell, h1, h2, h3, h4, K.2.1 st cell h5 (fun q => by have := hn st q cell h5; rw [h6] at this; cases this), h6, h7⟩
theorem i_ne {a b : Int32} (q : ¬ a = b) : a.toInt ≠ b.toInt := fun e => q (Int32.toInt_inj.mp e)
theorem i_lt {a b : Int32} (q : a < b) : a.toInt < b.toInt := Int32.lt_iff_toInt_lt.mp q
theorem i_nlt {a b : Int32} (q : ¬ a < b) : b.toInt ≤ a.toInt := by rw [Int32.lt_iff_toInt_lt] at q; omega
theorem i_eq {a b : Int32} (q : a.toInt = b.toInt) : a = b := Int32.toInt_inj.mp q
theorem and7 (x : Int32) : ¬ (x &&& 7) < 0 ∧ ¬ (7 : Int32) < (x &&& 7) := by
  have := c_and x 7 (by decide)
  rw [Int32.lt_iff_toInt_lt, Int32.lt_iff_toInt_lt]
  have e1 : (7 : Int32).toInt = 7 := by decide
  have e2 : (0 : Int32).toInt = 0 := by decide
  omega
theorem and255c (x : Int32) : ¬ (x &&& 255).toUInt32.toUInt16.toUInt32.toInt32 < 0 ∧ ¬ (255 : Int32) < (x &&& 255).toUInt32.toUInt16.toUInt32.toInt32 := by
  have h1 := c_and x 255 (by decide)
  have h2 := c_i2c (x &&& 255)
  rw [Int32.lt_iff_toInt_lt, Int32.lt_iff_toInt_lt]
  have e1 : (255 : Int32).toInt = 255 := by decide
  have e2 : (0 : Int32).toInt = 0 := by decide
  omega
theorem ch_up {x : Int32} (q : ¬ (255 : Int32) < x) : ¬ (65535 : Int32) < x := by
  rw [Int32.lt_iff_toInt_lt] at q ⊢
  have e1 : (255 : Int32).toInt = 255 := by decide
  have e2 : (65535 : Int32).toInt = 65535 := by decide
  omega
theorem allI0 {P : Int32 → Prop} : ∀ x ∈ ([] : List Int32), P x := fun _ q => nomatch q
theorem allI {P : Int32 → Prop} {y : Int32} {L : List Int32} (q : P y) (r : ∀ x ∈ L, P x) : ∀ x ∈ y :: L, P x := fun x z => (List.mem_cons.mp z).elim (fun u => u ▸ q) (r x)
theorem nar_ref {C : String} {v : Value} (hv : v.isRef = true) : narrow (.object C) v = v := by cases v <;> simp_all [Value.isRef, narrow]
theorem fits_refv {C : String} {v : Value} (hv : v.isRef = true) : fits (.object C) v = true := by cases v <;> simp_all [Value.isRef, fits]
theorem gInstNull (K : Cx p l e R s m args below meth c B ML Z own n0 md T h ws cells slots) {index : Nat} (hd : Dc B pc (.instanceof index) 3 pc') (r : Go p e below F T (mkF m pc' Ls (.int 0 :: St))) : Go p e below F T (mkF m pc Ls (.null :: St)) := by
  obtain ⟨⟨hx, hby, hml⟩, eT, hn0, s1, locs, X, -⟩ := K
  obtain ⟨hd, rfl⟩ := hd
  exact r.st (X.instanceofNull hx (g := mkF m pc Ls (.null :: St)) rfl rfl (hb hby hd))
/-- an object of C (whose superclass is the root) is no D, D an ordinary class -/
theorem noCast {C S D : String} {n : Nat} (w : (Cond.superclass C S).before a0 Z = true) (w0 : (Cond.noSuperclass S).before a0 Z = true) (wi : (Cond.instantiable D n).before a0 Z = true) (hCD : C ≠ D) (hSD : S ≠ D) : ∃ c t, Z.vm.findClass C = some c ∧ Z.vm.findClass D = some t ∧ Z.vm.assignable c t = false := by
  obtain ⟨c, h0⟩ := found_sup w
  obtain ⟨pp, k, kp, h1, h2, h3, h4, h5, h6, h7⟩ := Cond.superclass_spec h0 w
  obtain ⟨t, kt, g0, g2, g5, g7, -, -⟩ := Cond.instantiable_spec wi
  obtain ⟨c', k', r1, r2, r3, -, -⟩ := Cond.noSuperclass_spec w0
  cases h1.symm.trans r1
  cases h3.symm.trans r2
  have ne1 := ids_ne h0 g0 hCD
  have ne2 := ids_ne h1 g0 hSD
  have g7' : kt.isInterface = false := by cases hq : kt.isInterface <;> simp_all
  have sub : ∀ fuel, Z.vm.isSubclassAux fuel c t = false := fun fuel => by
    cases fuel with
    | zero => rfl
    | succ f =>
      cases f with
      | zero => simp [Vm.isSubclassAux, ne1, h2, h4]
      | succ f => simp [Vm.isSubclassAux, ne1, h2, h4, ne2, h3, r3]
  refine ⟨c, t, h0, g0, ?_⟩
  show Z.vm.assignableAux (255 + 1) c t = false
  simp [Vm.assignableAux, ne1, h2, g2, h5, g5, g7', Vm.isSubclass, sub]

end Kit
end Jvm.OwnKit

/- laws to paste: Road.backV, Road.codOf (cut by pick.py; bodies as the Statement names them) -/
namespace Jvm.Pilot.@@N@@
namespace StrChars
open Jvm Sem ClassFile Op Lib Jvm.Stand Jvm.Free.XT Jvm.Free.ALB Jvm.Free.JM Jvm.Free
open Jvm.Lib.Cold (StaticIs)
/-- a char array whose places are chars -/
def Ch (a : Addr) (A : Cell) (U : State) : Prop := Arr .char a A U ∧ Typed .char A
theorem Ch.mv {a : Addr} {A : Cell} {U U' : State} (h : Ch a A U) (hal : U.vm.Alike U'.vm) (hh : U'.heap = U.heap) : Ch a A U' := ⟨h.1.mv hal hh, h.2⟩
theorem Ch.keep {a : Addr} {A : Cell} {U U' : State} (h : Ch a A U) (hal : U.vm.Alike U'.vm) (hk : U'.heap[a]? = some A) : Ch a A U' := ⟨h.1.keep hal hk, h.2⟩
/-- what place i of a char[]'s cell holds -/
def cv (A : Cell) (i : Nat) : Int32 := match A.slots[i]? with | some (.int x) => x | _ => 0
theorem Ch.get {a : Addr} {A : Cell} {U : State} (h : Ch a A U) {i : Nat} (hi : i < A.slots.size) : A.slots[i]? = some (.int (cv A i)) := by
  have e := Array.getElem?_eq_getElem hi
  have f := h.2 i _ e
  unfold cv; rw [e]
  generalize A.slots[i] = v at f
  cases v <;> simp [fits] at f ⊢
/-- the byte that i2b leaves of a char -/
def lo8 (x : Int32) : Int32 := x.toInt8.toInt32
theorem fits_lo8 (y : Int32) : fits .byte (.int (lo8 y)) = true := by
  have h1 := y.toInt8.le_toInt
  have h2 := y.toInt8.toInt_lt
  simp only [lo8, fits, Bool.and_eq_true, decide_eq_true_eq, Int32.le_iff_toInt_le, Int8.toInt_toInt32, show (-128 : Int32).toInt = -128 from by decide, show (127 : Int32).toInt = 127 from by decide]
  omega
/-- A' is A but that each place j of lo .. hi - 1 holds f j -/
def Laid (A A' : Cell) (lo hi : Nat) (f : Nat → Value) : Prop := A'.cls = A.cls ∧ A'.vm = A.vm ∧ A'.slots.size = A.slots.size ∧ ∀ i, A'.slots[i]? = if lo ≤ i ∧ i < hi then some (f i) else A.slots[i]?
theorem Laid.zero (A : Cell) (lo : Nat) (f : Nat → Value) : Laid A A lo (lo + 0) f := ⟨rfl, rfl, rfl, fun i => by rw [if_neg (by omega)]⟩
theorem Laid.step {A Ak : Cell} {lo k : Nat} {f : Nat → Value} {v : Value} (h : Laid A Ak lo k f) (hlo : lo ≤ k) (hk : k < Ak.slots.size) (hv : v = f k) : Laid A (Ak.setSlot k v) lo (k + 1) f := by
  refine ⟨h.1, h.2.1, by simpa [Cell.setSlot] using h.2.2.1, fun i => ?_⟩
  by_cases e : k = i
  · subst e; rw [Cell.slots_setSlot_self v hk, if_pos (by omega), hv]
  · rw [Cell.slots_setSlot_ne v e, h.2.2.2 i]
    by_cases q : lo ≤ i ∧ i < k
    · rw [if_pos q, if_pos (by omega)]
    · rw [if_neg q, if_neg (by omega)]
def U16 : String := "java/lang/StringUTF16"
namespace Cmp5
def yN : MethodName := ⟨"java/lang/StringUTF16", "compress", "([CI[BII)I"⟩
abbrev yB : ByteArray := jdk_52_method_21_code
theorem d0 : decode yB 0 = .ok (.iconst 0, 1) := by decide +kernel
theorem d1 : decode yB 1 = .ok (.istore 5, 2) := by decide +kernel
theorem d3 : decode yB 3 = .ok (.iload 5, 2) := by decide +kernel
theorem d5 : decode yB 5 = .ok (.iload 4, 2) := by decide +kernel
theorem d7 : decode yB 7 = .ok (.if_icmp (.ge) 37, 3) := by decide +kernel
theorem d10 : decode yB 10 = .ok (.aload_n 0, 1) := by decide +kernel
theorem d11 : decode yB 11 = .ok (.iload_n 1, 1) := by decide +kernel
theorem d12 : decode yB 12 = .ok (.caload, 1) := by decide +kernel
theorem d13 : decode yB 13 = .ok (.istore 6, 2) := by decide +kernel
theorem d15 : decode yB 15 = .ok (.iload 6, 2) := by decide +kernel
theorem d17 : decode yB 17 = .ok (.sipush 255, 3) := by decide +kernel
theorem d20 : decode yB 20 = .ok (.if_icmp (.le) 6, 3) := by decide +kernel
theorem d26 : decode yB 26 = .ok (.aload_n 2, 1) := by decide +kernel
theorem d27 : decode yB 27 = .ok (.iload_n 3, 1) := by decide +kernel
theorem d28 : decode yB 28 = .ok (.iload 6, 2) := by decide +kernel
theorem d30 : decode yB 30 = .ok (.i2b, 1) := by decide +kernel
theorem d31 : decode yB 31 = .ok (.bastore, 1) := by decide +kernel
theorem d32 : decode yB 32 = .ok (.iinc 1 1, 3) := by decide +kernel
theorem d35 : decode yB 35 = .ok (.iinc 3 1, 3) := by decide +kernel
theorem d38 : decode yB 38 = .ok (.iinc 5 1, 3) := by decide +kernel
theorem d41 : decode yB 41 = .ok (.goto (-38), 3) := by decide +kernel
theorem d44 : decode yB 44 = .ok (.iload 4, 2) := by decide +kernel
theorem d46 : decode yB 46 = .ok (.ireturn, 1) := by decide +kernel
def site : List Cond := []
def tab : Cond := tabOf yN yB 7 (some .int) site
def P (b : Addr) (A : Cell) (d : Addr) (B : Cell) (o q len : Nat) (args : Array Value) (s : State) : Prop := args = #[.ref b, .int (Int32.ofNat o), .ref d, .int (Int32.ofNat q), .int (Int32.ofNat len)] ∧ Ch b A s ∧ Arr .byte d B s ∧ b ≠ d ∧ o + len ≤ A.slots.size ∧ q + len ≤ B.slots.size ∧ ∀ i, i < len → ¬ 255 < cv A (o + i)
def E (b : Addr) (A : Cell) (d : Addr) (B : Cell) (o q len : Nat) (r : Option Value) (s u : State) : Prop := r = some (.int (Int32.ofNat len)) ∧ ∃ B', Put d B' s u ∧ Laid B B' q (q + len) (fun j => Value.int (lo8 (cv A (o + (j - q)))))
/-- no char of the range above 255: len; the places written hold each char's low byte -/
theorem law (l : Launch) (b : Addr) (A : Cell) (d : Addr) (B : Cell) (o q len : Nat) : Law l yN 5 5 0 0 yB 7 (some .int) site (P b A d B o q len) (E b A d B o q len) (copyLocs d q len) 0 0 := by
  refine Law.of_walk (plainFor_of_name (by decide +kernel)) (by decide +kernel) (by decide +kernel) (by decide) (fun _ _ h => by rw [h.1]; rfl) (fun _ U U' hal hh h => ⟨h.1, h.2.1.mv hal hh, h.2.2.1.mv hal hh, h.2.2.2⟩) (fun r U U' V V' h1 hal h2 h => ⟨h.1, h.2.elim fun B' q => ⟨B', q.1.mv h1 h2, q.2⟩⟩) ?_
  intro p e s m args below meth c s₁ X0 hexec hbytes hml hret hlk hnm hown hh0 W hP
  obtain ⟨rfl, hA, hB, hne, l1, l2, hp⟩ := hP
  have c1 : Steps p.tables e below (s₁.setTop (entryFrame m #[.ref b, .int (Int32.ofNat o), .ref d, .int (Int32.ofNat q), .int (Int32.ofNat len)] 7)) (s₁.setTop (mkF m 0 #[.val (.ref b), .val (.int (Int32.ofNat o)), .val (.ref d), .val (.int (Int32.ofNat q)), .val (.int (Int32.ofNat len)), .unset, .unset] [])) := entry rfl
  have hA0 := hA.1.mv X0.warmed.alike hh0
  have hB0 := hB.mv X0.warmed.alike hh0
  have a31 := hA.1.2.2.2
  have c2 : Steps p.tables e below (s₁.setTop (entryFrame m #[.ref b, .int (Int32.ofNat o), .ref d, .int (Int32.ofNat q), .int (Int32.ofNat len)] 7)) (s₁.setTop (mkF m 3 #[.val (.ref b), .val (.int (Int32.ofNat o)), .val (.ref d), .val (.int (Int32.ofNat q)), .val (.int (Int32.ofNat len)), .val (.int 0), .unset] [])) := c1.trans (by
    refine iconstV X0.here hexec rfl 0 (hb hbytes d0) (by decide) ?_
    refine XS.istore X0.here hexec rfl (hb hbytes d1) rfl rfl ?_
    exact Steps.refl _)
  have loop : ∀ (r i : Nat), i + r = len → ∀ (z : Slot), (z = .unset ∨ ∃ w, z = .val w ∧ w.category = 1) → ∀ (Tl : State) (Bk : Cell), Stand p l e { frames := 0, locals := 0, cells := 0, slots := 0 } s m #[.ref b, .int (Int32.ofNat o), .ref d, .int (Int32.ofNat q), .int (Int32.ofNat len)] below meth c Tl ([] ++ copyLocs d q i) 0 0 → Put d Bk s₁ Tl → Laid B Bk q (q + i) (fun j => Value.int (lo8 (cv A (o + (j - q))))) →
      Steps p.tables e below (s₁.setTop (entryFrame m #[.ref b, .int (Int32.ofNat o), .ref d, .int (Int32.ofNat q), .int (Int32.ofNat len)] 7)) (Tl.setTop (mkF m 3 #[.val (.ref b), .val (.int (Int32.ofNat (o + i))), .val (.ref d), .val (.int (Int32.ofNat (q + i))), .val (.int (Int32.ofNat len)), .val (.int (Int32.ofNat i)), z] [])) → ∃ (T' : State) (B' : Cell) (z' : Slot), Stand p l e { frames := 0, locals := 0, cells := 0, slots := 0 } s m #[.ref b, .int (Int32.ofNat o), .ref d, .int (Int32.ofNat q), .int (Int32.ofNat len)] below meth c T' ([] ++ copyLocs d q len) 0 0 ∧ Put d B' s₁ T' ∧ Laid B B' q (q + len) (fun j => Value.int (lo8 (cv A (o + (j - q))))) ∧
      Steps p.tables e below (s₁.setTop (entryFrame m #[.ref b, .int (Int32.ofNat o), .ref d, .int (Int32.ofNat q), .int (Int32.ofNat len)] 7)) (T'.setTop (mkF m 3 #[.val (.ref b), .val (.int (Int32.ofNat (o + len))), .val (.ref d), .val (.int (Int32.ofNat (q + len))), .val (.int (Int32.ofNat len)), .val (.int (Int32.ofNat len)), z'] [])) := by
    intro r
    induction r with
    | zero =>
      intro i hi z hz Tl Bk Xl pl fl cl
      have hil : i = len := by omega
      rw [hil] at Xl fl cl
      exact ⟨Tl, Bk, z, Xl, pl, fl, cl⟩
    | succ r ih =>
      intro i hi z hz Tl Bk Xl pl fl cl
      have all := X0.warmed.alike.symm.trans Xl.warmed.alike
      have hAl := hA0.keep all (pl.other hne hA0.1)
      have hBk := hB0.like all pl.1 fl.1 fl.2.1 fl.2.2.1
      have hlt : q + i < Bk.slots.size := by rw [fl.2.2.1]; omega
      have c3 : Steps p.tables e below (s₁.setTop (entryFrame m #[.ref b, .int (Int32.ofNat o), .ref d, .int (Int32.ofNat q), .int (Int32.ofNat len)] 7)) (Tl.setTop (mkF m 12 #[.val (.ref b), .val (.int (Int32.ofNat (o + i))), .val (.ref d), .val (.int (Int32.ofNat (q + i))), .val (.int (Int32.ofNat len)), .val (.int (Int32.ofNat i)), z] [.int (Int32.ofNat (o + i)), .ref b])) := cl.trans (by
        refine XS.iload Xl.here hexec rfl (hb hbytes d3) rfl ?_
        refine XS.iload Xl.here hexec rfl (hb hbytes d5) rfl ?_
        refine XS.icmpNo Xl.here hexec rfl (hb hbytes d7) rfl (ii_ge_f (lt32 (by omega) (by omega))) ?_
        refine XS.aloadN Xl.here hexec rfl (hb hbytes d10) rfl rfl ?_
        refine XS.iloadN Xl.here hexec rfl (hb hbytes d11) rfl ?_
        exact Steps.refl _)
      have c4 : Steps p.tables e below (s₁.setTop (entryFrame m #[.ref b, .int (Int32.ofNat o), .ref d, .int (Int32.ofNat q), .int (Int32.ofNat len)] 7)) (Tl.setTop (mkF m 13 #[.val (.ref b), .val (.int (Int32.ofNat (o + i))), .val (.ref d), .val (.int (Int32.ofNat (q + i))), .val (.int (Int32.ofNat len)), .val (.int (Int32.ofNat i)), z] [.int (cv A (o + i))])) := c3.trans (by
        refine Xl.aget hexec hAl rfl (hA.get (i := o + i) (by omega)) rfl rfl (hb hbytes d12) ?_
        exact Steps.refl _)
      have c5 : Steps p.tables e below (s₁.setTop (entryFrame m #[.ref b, .int (Int32.ofNat o), .ref d, .int (Int32.ofNat q), .int (Int32.ofNat len)] 7)) (Tl.setTop (mkF m 15 #[.val (.ref b), .val (.int (Int32.ofNat (o + i))), .val (.ref d), .val (.int (Int32.ofNat (q + i))), .val (.int (Int32.ofNat len)), .val (.int (Int32.ofNat i)), .val (.int (cv A (o + i)))] [])) := c4.trans (by
        refine XS.istoreS Xl.here hexec rfl (hb hbytes d13) rfl rfl hz ?_
        exact Steps.refl _)
      have c6 : Steps p.tables e below (s₁.setTop (entryFrame m #[.ref b, .int (Int32.ofNat o), .ref d, .int (Int32.ofNat q), .int (Int32.ofNat len)] 7)) (Tl.setTop (mkF m 31 #[.val (.ref b), .val (.int (Int32.ofNat (o + i))), .val (.ref d), .val (.int (Int32.ofNat (q + i))), .val (.int (Int32.ofNat len)), .val (.int (Int32.ofNat i)), .val (.int (cv A (o + i)))] [.int (lo8 (cv A (o + i))), .int (Int32.ofNat (q + i)), .ref d])) := c5.trans (by
        refine XS.iload Xl.here hexec rfl (hb hbytes d15) rfl ?_
        refine sipushV Xl.here hexec rfl 255 (hb hbytes d17) (by decide) ?_
        refine XS.icmpYes Xl.here hexec rfl (pc0 := 20) rfl (hb hbytes d20) rfl (ii_le_t (hp i (by omega))) (by decide) rfl ?_
        refine XS.aloadN Xl.here hexec rfl (hb hbytes d26) rfl rfl ?_
        refine XS.iloadN Xl.here hexec rfl (hb hbytes d27) rfl ?_
        refine XS.iload Xl.here hexec rfl (hb hbytes d28) rfl ?_
        refine i2b Xl.here hexec rfl (hb hbytes d30) rfl ?_
        exact Steps.refl _)
      obtain ⟨T7, X7, p7, st7⟩ := Xl.aput hexec hBk rfl hlt rfl (fits_lo8 (cv A (o + i))) (g := (mkF m 31 #[.val (.ref b), .val (.int (Int32.ofNat (o + i))), .val (.ref d), .val (.int (Int32.ofNat (q + i))), .val (.int (Int32.ofNat len)), .val (.int (Int32.ofNat i)), .val (.int (cv A (o + i)))] [.int (lo8 (cv A (o + i))), .int (Int32.ofNat (q + i)), .ref d])) rfl (rest := []) rfl (hb hbytes d31)
      have c8 : Steps p.tables e below (s₁.setTop (entryFrame m #[.ref b, .int (Int32.ofNat o), .ref d, .int (Int32.ofNat q), .int (Int32.ofNat len)] 7)) (T7.setTop (mkF m 32 #[.val (.ref b), .val (.int (Int32.ofNat (o + i))), .val (.ref d), .val (.int (Int32.ofNat (q + i))), .val (.int (Int32.ofNat len)), .val (.int (Int32.ofNat i)), .val (.int (cv A (o + i)))] [])) := c6.trans (st7 _ (Steps.refl _))
      have c9 : Steps p.tables e below (s₁.setTop (entryFrame m #[.ref b, .int (Int32.ofNat o), .ref d, .int (Int32.ofNat q), .int (Int32.ofNat len)] 7)) (T7.setTop (mkF m 3 #[.val (.ref b), .val (.int (Int32.ofNat (o + i) + 1)), .val (.ref d), .val (.int (Int32.ofNat (q + i) + 1)), .val (.int (Int32.ofNat len)), .val (.int (Int32.ofNat i + 1)), .val (.int (cv A (o + i)))] [])) := c8.trans (by
        refine iincV X7.here hexec rfl 1 (hb hbytes d32) (by decide) rfl rfl ?_
        refine iincV X7.here hexec rfl 1 (hb hbytes d35) (by decide) rfl rfl ?_
        refine iincV X7.here hexec rfl 1 (hb hbytes d38) (by decide) rfl rfl ?_
        refine XS.goto X7.here hexec rfl (pc0 := 41) rfl (hb hbytes d41) (by decide) rfl ?_
        exact Steps.refl _)
      have c10 : Steps p.tables e below (s₁.setTop (entryFrame m #[.ref b, .int (Int32.ofNat o), .ref d, .int (Int32.ofNat q), .int (Int32.ofNat len)] 7)) (T7.setTop (mkF m 3 #[.val (.ref b), .val (.int (Int32.ofNat (o + (i + 1)))), .val (.ref d), .val (.int (Int32.ofNat (q + (i + 1)))), .val (.int (Int32.ofNat len)), .val (.int (Int32.ofNat (i + 1))), .val (.int (cv A (o + i)))] [])) := by
        have := c9
        rw [succ32, succ32, succ32] at this
        exact this
      exact ih (i + 1) (by omega) _ (Or.inr ⟨_, rfl, rfl⟩) T7 _ (by rw [copyLocs_step, ← List.append_assoc]; exact X7) (pl.trans p7) (fl.step (by omega) hlt (by simp)) c10
  obtain ⟨T9, B9, z9, X9, p9, f9, g9⟩ := loop len 0 (by omega) .unset (Or.inl rfl) s₁ B (by simpa [copyLocs] using X0) ⟨hB0.1, fun _ _ => rfl, rfl⟩ (Laid.zero _ _ _) c2
  have c11 : Steps p.tables e below (s₁.setTop (entryFrame m #[.ref b, .int (Int32.ofNat o), .ref d, .int (Int32.ofNat q), .int (Int32.ofNat len)] 7)) (T9.setTop (mkF m 46 #[.val (.ref b), .val (.int (Int32.ofNat (o + len))), .val (.ref d), .val (.int (Int32.ofNat (q + len))), .val (.int (Int32.ofNat len)), .val (.int (Int32.ofNat len)), z9] [.int (Int32.ofNat len)])) := g9.trans (by
    refine XS.iload X9.here hexec rfl (hb hbytes d3) rfl ?_
    refine XS.iload X9.here hexec rfl (hb hbytes d5) rfl ?_
    refine XS.icmpYes X9.here hexec rfl (pc0 := 7) rfl (hb hbytes d7) rfl (ii_ge_t (nlt32 (by omega) (Nat.le_refl _))) (by decide) rfl ?_
    refine XS.iload X9.here hexec rfl (hb hbytes d44) rfl ?_
    exact Steps.refl _)
  exact ⟨T9, some (.int (Int32.ofNat len)), _, _, _, X9, by simp, rfl, rfl, (fun h => by cases h), ⟨rfl, B9, p9.from hh0, f9⟩, fun fs hl => c11.trans (X9.ireturnOut hexec hret rfl (Or.inl rfl) (hb hbytes d46) hl)⟩
end Cmp5
namespace Cmp3
def yN : MethodName := ⟨"java/lang/StringUTF16", "compress", "([CII)[B"⟩
abbrev yB : ByteArray := jdk_52_method_16_code
theorem d0 : decode yB 0 = .ok (.iload_n 2, 1) := by decide +kernel
theorem d1 : decode yB 1 = .ok (.newarray .byte, 2) := by decide +kernel
theorem d3 : decode yB 3 = .ok (.astore_n 3, 1) := by decide +kernel
theorem d4 : decode yB 4 = .ok (.aload_n 0, 1) := by decide +kernel
theorem d5 : decode yB 5 = .ok (.iload_n 1, 1) := by decide +kernel
theorem d6 : decode yB 6 = .ok (.aload_n 3, 1) := by decide +kernel
theorem d7 : decode yB 7 = .ok (.iconst 0, 1) := by decide +kernel
theorem d8 : decode yB 8 = .ok (.iload_n 2, 1) := by decide +kernel
theorem d9 : decode yB 9 = .ok (.invokestatic 115, 3) := by decide +kernel
theorem d12 : decode yB 12 = .ok (.istore 4, 2) := by decide +kernel
theorem d14 : decode yB 14 = .ok (.iload 4, 2) := by decide +kernel
theorem d16 : decode yB 16 = .ok (.iload_n 2, 1) := by decide +kernel
theorem d17 : decode yB 17 = .ok (.if_icmp (.eq) 40, 3) := by decide +kernel
theorem d57 : decode yB 57 = .ok (.aload_n 3, 1) := by decide +kernel
theorem d58 : decode yB 58 = .ok (.areturn, 1) := by decide +kernel
def site : List Cond := [.arrayClass .byte, Cmp5.tab] ++ staticW U16 115 Cmp5.yN
def tab : Cond := tabOf yN yB 6 (some (.array .byte)) site
def P (b : Addr) (A : Cell) (o len : Nat) (args : Array Value) (s : State) : Prop := args = #[.ref b, .int (Int32.ofNat o), .int (Int32.ofNat len)] ∧ Ch b A s ∧ o + len ≤ A.slots.size ∧ len ≤ 536870912 ∧ ∀ i, i < len → ¬ 255 < cv A (o + i)
def E (b : Addr) (A : Cell) (o len : Nat) (r : Option Value) (s u : State) : Prop := NewArr .byte "[B" len (fun j => .int (lo8 (cv A (o + j)))) r s u ∧ u.heap.size = s.heap.size + 1
/-- no char of the range above 255: a new byte[] of their low bytes -/
theorem law (l : Launch) (b : Addr) (A : Cell) (o len : Nat) : Law l yN 3 3 1 18 yB 6 (some (.array .byte)) site (P b A o len) (E b A o len) [] 1 len := by
  refine Law.of_walk (plainFor_of_name (by decide +kernel)) (by decide +kernel) (by decide +kernel) (by decide) (fun _ _ h => by rw [h.1]; rfl) (fun _ U U' hal hh h => ⟨h.1, h.2.1.mv hal hh, h.2.2⟩) (fun r U U' V V' h1 hal h2 h => ⟨NewArr.mv r U U' V V' h1 hal h2 h.1, by rw [h1, h2]; exact h.2⟩) ?_
  intro p e s m args below meth c s₁ X0 hexec hbytes hml hret hlk hnm hown hh0 W hP
  obtain ⟨rfl, hA, l1, l2, hp⟩ := hP
  have a31 := hA.1.2.2.2
  have c1 : Steps p.tables e below (s₁.setTop (entryFrame m #[.ref b, .int (Int32.ofNat o), .int (Int32.ofNat len)] 6)) (s₁.setTop (mkF m 0 #[.val (.ref b), .val (.int (Int32.ofNat o)), .val (.int (Int32.ofNat len)), .unset, .unset, .unset] [])) := entry rfl
  have c2 : Steps p.tables e below (s₁.setTop (entryFrame m #[.ref b, .int (Int32.ofNat o), .int (Int32.ofNat len)] 6)) (s₁.setTop (mkF m 1 #[.val (.ref b), .val (.int (Int32.ofNat o)), .val (.int (Int32.ofNat len)), .unset, .unset, .unset] [.int (Int32.ofNat len)])) := c1.trans (by
    refine XS.iloadN X0.here hexec rfl (hb hbytes d0) rfl ?_
    exact Steps.refl _)
  obtain ⟨T3, B3, X3, ba3, bs3, bv3, bh3, bf3, st3⟩ := X0.anew hexec (atype := .byte) (wk W (.arrayClass .byte)) rfl (by show len * 1 ≤ _; omega) (by omega) (g := (mkF m 1 #[.val (.ref b), .val (.int (Int32.ofNat o)), .val (.int (Int32.ofNat len)), .unset, .unset, .unset] [.int (Int32.ofNat len)])) rfl (hb hbytes d1) (rest := []) rfl (Nat.le_refl _) (by show 0 + len ≤ len; omega)
  rw [hh0] at ba3 st3
  have kp3 : XT.Kept s T3 := (XT.Kept.of_eq hh0).push bh3
  have hA3 := hA.keep X3.warmed.alike (kp3 _ _ hA.1.1)
  have hne : b ≠ s.heap.size := hA.1.ne
  have c4 : Steps p.tables e below (s₁.setTop (entryFrame m #[.ref b, .int (Int32.ofNat o), .int (Int32.ofNat len)] 6)) (T3.setTop (mkF m 3 #[.val (.ref b), .val (.int (Int32.ofNat o)), .val (.int (Int32.ofNat len)), .unset, .unset, .unset] [.ref s.heap.size])) := c2.trans (st3 _ (Steps.refl _))
  have c5 : Steps p.tables e below (s₁.setTop (entryFrame m #[.ref b, .int (Int32.ofNat o), .int (Int32.ofNat len)] 6)) (T3.setTop (mkF m 9 #[.val (.ref b), .val (.int (Int32.ofNat o)), .val (.int (Int32.ofNat len)), .val (.ref s.heap.size), .unset, .unset] [.int (Int32.ofNat len), .int 0, .ref s.heap.size, .int (Int32.ofNat o), .ref b])) := c4.trans (by
    refine XS.astoreN X3.here hexec rfl (hb hbytes d3) rfl rfl rfl ?_
    refine XS.aloadN X3.here hexec rfl (hb hbytes d4) rfl rfl ?_
    refine XS.iloadN X3.here hexec rfl (hb hbytes d5) rfl ?_
    refine XS.aloadN X3.here hexec rfl (hb hbytes d6) rfl rfl ?_
    refine iconstV X3.here hexec rfl 0 (hb hbytes d7) (by decide) ?_
    refine XS.iloadN X3.here hexec rfl (hb hbytes d8) rfl ?_
    exact Steps.refl _)
  obtain ⟨v6, T6, X6, E6, g6⟩ := X3.callS hexec (Cmp5.law l b A s.heap.size B3 o 0 len) hown (wks W (staticW U16 115 Cmp5.yN)) (wk W Cmp5.tab) (W := 0) (Nat.le_of_ble_eq_true rfl) (Nat.le_of_ble_eq_true rfl) (Nat.le_refl _) (by show 0 + len + 0 ≤ len; omega) (g := (mkF m 9 #[.val (.ref b), .val (.int (Int32.ofNat o)), .val (.int (Int32.ofNat len)), .val (.ref s.heap.size), .unset, .unset] [.int (Int32.ofNat len), .int (Int32.ofNat 0), .ref s.heap.size, .int (Int32.ofNat o), .ref b])) rfl (by rw [hml]; rfl) c5 (argsL := [.ref b, .int (Int32.ofNat o), .ref s.heap.size, .int (Int32.ofNat 0), .int (Int32.ofNat len)]) (rest := []) rfl rfl (by show 2 * 0 + 0 ≤ _; decide) (hb hbytes d9) (⟨rfl, hA3, ba3, hne, l1, by rw [bs3]; simp, hp⟩)
  obtain ⟨rfl, B6, p6, f6⟩ := E6
  have c7 : Steps p.tables e below (s₁.setTop (entryFrame m #[.ref b, .int (Int32.ofNat o), .int (Int32.ofNat len)] 6)) (T6.setTop (mkF m 12 #[.val (.ref b), .val (.int (Int32.ofNat o)), .val (.int (Int32.ofNat len)), .val (.ref s.heap.size), .unset, .unset] [.int (Int32.ofNat len)])) := g6
  have c8 : Steps p.tables e below (s₁.setTop (entryFrame m #[.ref b, .int (Int32.ofNat o), .int (Int32.ofNat len)] 6)) (T6.setTop (mkF m 58 #[.val (.ref b), .val (.int (Int32.ofNat o)), .val (.int (Int32.ofNat len)), .val (.ref s.heap.size), .val (.int (Int32.ofNat len)), .unset] [.ref s.heap.size])) := c7.trans (by
    refine XS.istore X6.here hexec rfl (hb hbytes d12) rfl rfl ?_
    refine XS.iload X6.here hexec rfl (hb hbytes d14) rfl ?_
    refine XS.iloadN X6.here hexec rfl (hb hbytes d16) rfl ?_
    refine XS.icmpYes X6.here hexec rfl (pc0 := 17) rfl (hb hbytes d17) rfl (ii_eq_t rfl) (by decide) rfl ?_
    refine XS.aloadN X6.here hexec rfl (hb hbytes d57) rfl rfl ?_
    exact Steps.refl _)
  have X8 := X6.wide (L' := []) (cells' := 1) (slots' := len) (fun x hx hlt => by
    simp only [List.nil_append, copyLocs, List.mem_map, List.mem_range] at hx
    obtain ⟨i, -, rfl⟩ := hx
    exact absurd hlt (Nat.lt_irrefl _)) (Nat.le_refl _) (by omega)
  exact ⟨T6, some (.ref s.heap.size), _, _, _, X8, rfl, rfl, rfl, (fun h => by cases h), ⟨⟨rfl, B6, ba3.like (X3.warmed.alike.symm.trans X6.warmed.alike) p6.1 f6.1 f6.2.1 f6.2.2.1, f6.2.1.trans bv3, by rw [X6.warmed.alike.findClass, f6.1]; exact bf3, by rw [f6.2.2.1, bs3]; simp, fun j hj => by rw [f6.2.2.2 j, if_pos (by omega)]; rfl, kp3.put p6 (Nat.le_refl _)⟩, by rw [p6.2.2, bh3, hh0]; simp⟩, fun fs hl => c8.trans (X8.areturnOut hexec rfl hret rfl (hb hbytes d58) hl)⟩
end Cmp3
namespace CodL
def yN : MethodName := ⟨"java/lang/StringUTF16", "coderFromArrayLen", "([BI)B"⟩
abbrev yB : ByteArray := jdk_52_method_15_code
theorem d0 : decode yB 0 = .ok (.iload_n 1, 1) := by decide +kernel
theorem d1 : decode yB 1 = .ok (.aload_n 0, 1) := by decide +kernel
theorem d2 : decode yB 2 = .ok (.arraylength, 1) := by decide +kernel
theorem d3 : decode yB 3 = .ok (.isub, 1) := by decide +kernel
theorem d4 : decode yB 4 = .ok (.bipush 31, 2) := by decide +kernel
theorem d6 : decode yB 6 = .ok (.iushr, 1) := by decide +kernel
theorem d7 : decode yB 7 = .ok (.i2b, 1) := by decide +kernel
theorem d8 : decode yB 8 = .ok (.ireturn, 1) := by decide +kernel
def site : List Cond := []
def tab : Cond := tabOf yN yB 2 (some .byte) site
def P (d : Addr) (B : Cell) (args : Array Value) (s : State) : Prop := args = #[.ref d, .int (Int32.ofNat B.slots.size)] ∧ Arr .byte d B s
def E (r : Option Value) (s u : State) : Prop := XT.PureE (some (.int 0)) r s u
/-- an array as long as the number of chars: LATIN1 -/
theorem law (l : Launch) (d : Addr) (B : Cell) : Law l yN 2 2 0 0 yB 2 (some .byte) site (P d B) E [] 0 0 := by
  refine Law.of_walk (plainFor_of_name (by decide +kernel)) (by decide +kernel) (by decide +kernel) (by decide) (fun _ _ h => by rw [h.1]; rfl) (fun _ U U' hal hh h => ⟨h.1, h.2.mv hal hh⟩) (fun r U U' V V' h1 hal h2 h => XT.PureE.mv r U U' V V' h1 hal h2 h) ?_
  intro p e s m args below meth c s₁ X0 hexec hbytes hml hret hlk hnm hown hh0 W hP
  obtain ⟨rfl, hB⟩ := hP
  have hB0 := hB.mv X0.warmed.alike hh0
  have c1 : Steps p.tables e below (s₁.setTop (entryFrame m #[.ref d, .int (Int32.ofNat B.slots.size)] 2)) (s₁.setTop (mkF m 0 #[.val (.ref d), .val (.int (Int32.ofNat B.slots.size))] [])) := entry rfl
  have c2 : Steps p.tables e below (s₁.setTop (entryFrame m #[.ref d, .int (Int32.ofNat B.slots.size)] 2)) (s₁.setTop (mkF m 2 #[.val (.ref d), .val (.int (Int32.ofNat B.slots.size))] [.ref d, .int (Int32.ofNat B.slots.size)])) := c1.trans (by
    refine XS.iloadN X0.here hexec rfl (hb hbytes d0) rfl ?_
    refine XS.aloadN X0.here hexec rfl (hb hbytes d1) rfl rfl ?_
    exact Steps.refl _)
  have c3 : Steps p.tables e below (s₁.setTop (entryFrame m #[.ref d, .int (Int32.ofNat B.slots.size)] 2)) (s₁.setTop (mkF m 8 #[.val (.ref d), .val (.int (Int32.ofNat B.slots.size))] [.int (lo8 (ushr (Int32.ofNat B.slots.size - Int32.ofNat B.slots.size) 31))])) := c2.trans (by
    refine X0.alen hexec hB0 rfl rfl (hb hbytes d2) ?_
    refine XS.isub X0.here hexec rfl (hb hbytes d3) rfl ?_
    refine bipushV X0.here hexec rfl 31 (hb hbytes d4) (by decide) ?_
    refine iushr X0.here hexec rfl (hb hbytes d6) rfl ?_
    refine i2b X0.here hexec rfl (hb hbytes d7) rfl ?_
    exact Steps.refl _)
  have e0 : lo8 (ushr (Int32.ofNat B.slots.size - Int32.ofNat B.slots.size) 31) = 0 := by rw [Int32.sub_self]; decide
  rw [e0] at c3
  exact ⟨s₁, some (.int 0), _, _, _, X0, rfl, rfl, rfl, (fun h => by cases h), ⟨rfl, hh0⟩, fun fs hl => c3.trans (X0.ireturnOut hexec hret rfl (Or.inr (Or.inr (Or.inl rfl))) (hb hbytes d8) hl)⟩
end CodL
/-- the String at a is Latin-1 over a new byte[] (the heap's one new cell): the low bytes of the len chars of A from o on; every cell but a is kept -/
def Got (a : Addr) (D : Cell) (fV fC : Field) (A : Cell) (o len : Nat) (r : Option Value) (s u : State) : Prop := r = none ∧ ∃ D' V : Cell, Blank "java/lang/String" a D' u ∧ Same D D' [fV.slot, fC.slot] ∧ D'.slots[fV.slot]? = some (.ref s.heap.size) ∧ D'.slots[fC.slot]? = some (.int 0) ∧ Arr .byte s.heap.size V u ∧ V.vm = .none ∧ u.vm.findClass "[B" = some V.cls ∧ V.slots.size = len ∧ (∀ j, j < len → V.slots[j]? = some (.int (lo8 (cv A (o + j))))) ∧ (∀ (y : Addr) (c : Cell), y ≠ a → s.heap[y]? = some c → u.heap[y]? = some c) ∧ u.heap.size = s.heap.size + 1
theorem Got.mv {a : Addr} {D A : Cell} {fV fC : Field} {o len : Nat} : ∀ r (U U' V V' : State), U'.heap = U.heap → V.vm.Alike V'.vm → V'.heap = V.heap → Got a D fV fC A o len r U V → Got a D fV fC A o len r U' V' :=
  fun r U U' V V' h1 hal h2 ⟨e0, D', X, a1, a2, a3, a4, a5, a6, a7, a8, a9, a10, a11⟩ => ⟨e0, D', X, a1.mv hal h2, a2, by rw [h1]; exact a3, a4, by rw [h1]; exact a5.mv hal h2, a6, by rw [hal.findClass]; exact a7, a8, a9, by rw [h1, h2]; exact a10, by rw [h1, h2]; exact a11⟩
namespace New4
def yN : MethodName := ⟨"java/lang/String", "<init>", "([CIILjava/lang/Void;)V"⟩
abbrev yB : ByteArray := jdk_42_method_149_code
theorem d0 : decode yB 0 = .ok (.aload_n 0, 1) := by decide +kernel
theorem d1 : decode yB 1 = .ok (.invokespecial 1, 3) := by decide +kernel
theorem d4 : decode yB 4 = .ok (.iload_n 3, 1) := by decide +kernel
theorem d5 : decode yB 5 = .ok (.ifCond (.ne) 22, 3) := by decide +kernel
theorem d27 : decode yB 27 = .ok (.getstatic 38, 3) := by decide +kernel
theorem d30 : decode yB 30 = .ok (.ifCond (.eq) 28, 3) := by decide +kernel
theorem d33 : decode yB 33 = .ok (.aload_n 1, 1) := by decide +kernel
theorem d34 : decode yB 34 = .ok (.iload_n 2, 1) := by decide +kernel
theorem d35 : decode yB 35 = .ok (.iload_n 3, 1) := by decide +kernel
theorem d36 : decode yB 36 = .ok (.invokestatic 177, 3) := by decide +kernel
theorem d39 : decode yB 39 = .ok (.astore 5, 2) := by decide +kernel
theorem d41 : decode yB 41 = .ok (.aload_n 0, 1) := by decide +kernel
theorem d42 : decode yB 42 = .ok (.aload 5, 2) := by decide +kernel
theorem d44 : decode yB 44 = .ok (.iload_n 3, 1) := by decide +kernel
theorem d45 : decode yB 45 = .ok (.invokestatic 47, 3) := by decide +kernel
theorem d48 : decode yB 48 = .ok (.putfield 15, 3) := by decide +kernel
theorem d51 : decode yB 51 = .ok (.aload_n 0, 1) := by decide +kernel
theorem d52 : decode yB 52 = .ok (.aload 5, 2) := by decide +kernel
theorem d54 : decode yB 54 = .ok (.putfield 9, 3) := by decide +kernel
theorem d57 : decode yB 57 = .ok (.return_, 1) := by decide +kernel
def site : List Cond := [.fieldLink "java/lang/String" 38 "java/lang/String" "COMPACT_STRINGS" "Z", Cmp3.tab, CodL.tab, .laysFinal "java/lang/String" "java/lang/String" "value" "[B", .fieldLink "java/lang/String" 9 "java/lang/String" "value" "[B", .laysFinal "java/lang/String" "java/lang/String" "coder" "B", .fieldLink "java/lang/String" 15 "java/lang/String" "coder" "B"] ++ objW "java/lang/String" 1 ++ staticW "java/lang/String" 177 Cmp3.yN ++ staticW "java/lang/String" 47 CodL.yN
def tab : Cond := tabOf yN yB 6 none site
def P (a : Addr) (D : Cell) (fV fC : Field) (b : Addr) (A : Cell) (z : Int32) (o len : Nat) (args : Array Value) (s : State) : Prop := args = #[.ref a, .ref b, .int (Int32.ofNat o), .int (Int32.ofNat len), .null] ∧ Blank "java/lang/String" a D s ∧ Found "java/lang/String" "value" "[B" fV s ∧ Found "java/lang/String" "coder" "B" fC s ∧ Ch b A s ∧ StaticIs s "java/lang/String" "COMPACT_STRINGS" "Z" (.int z) ∧ ¬ z = 0 ∧ 0 < len ∧ o + len ≤ A.slots.size ∧ len ≤ 536870912 ∧ ∀ i, i < len → ¬ 255 < cv A (o + i)
def E (a : Addr) (D : Cell) (fV fC : Field) (A : Cell) (o len : Nat) (r : Option Value) (s u : State) : Prop := Got a D fV fC A o len r s u
/-- len > 0, no char of the range above 255: a Latin-1 String of their low bytes -/
theorem law (l : Launch) (a : Addr) (D : Cell) (fV fC : Field) (b : Addr) (A : Cell) (z : Int32) (o len : Nat) : Law l yN 5 4 2 35 yB 6 none site (P a D fV fC b A z o len) (E a D fV fC A o len) [⟨a, fC.slot⟩, ⟨a, fV.slot⟩] 1 len := by
  refine Law.of_walk (plainFor_of_name (by decide +kernel)) (by decide +kernel) (by decide +kernel) (by decide) (fun _ _ h => by rw [h.1]; rfl) (fun _ U U' hal hh h => ⟨h.1, h.2.1.mv hal hh, h.2.2.1.al hal, h.2.2.2.1.al hal, h.2.2.2.2.1.mv hal hh, h.2.2.2.2.2.1.there hal hh, h.2.2.2.2.2.2⟩) (fun r U U' V V' h1 hal h2 h => Got.mv r U U' V V' h1 hal h2 h) ?_
  intro p e s m args below meth c s₁ X0 hexec hbytes hml hret hlk hnm hown hh0 W hP
  obtain ⟨rfl, hB, f1, f2, hA, s1, hz, l0, l1, l2, hp⟩ := hP
  have a31 := hA.1.2.2.2
  have c1 : Steps p.tables e below (s₁.setTop (entryFrame m #[.ref a, .ref b, .int (Int32.ofNat o), .int (Int32.ofNat len), .null] 6)) (s₁.setTop (mkF m 0 #[.val (.ref a), .val (.ref b), .val (.int (Int32.ofNat o)), .val (.int (Int32.ofNat len)), .val .null, .unset] [])) := entry rfl
  have c2 : Steps p.tables e below (s₁.setTop (entryFrame m #[.ref a, .ref b, .int (Int32.ofNat o), .int (Int32.ofNat len), .null] 6)) (s₁.setTop (mkF m 1 #[.val (.ref a), .val (.ref b), .val (.int (Int32.ofNat o)), .val (.int (Int32.ofNat len)), .val .null, .unset] [.ref a])) := c1.trans (by
    refine XS.aloadN X0.here hexec rfl (hb hbytes d0) rfl rfl ?_
    exact Steps.refl _)
  obtain ⟨T3, X3, q3, st3⟩ := X0.oinit hexec hown (wks W (objW "java/lang/String" 1)) (g := (mkF m 1 #[.val (.ref a), .val (.ref b), .val (.int (Int32.ofNat o)), .val (.int (Int32.ofNat len)), .val .null, .unset] [.ref a])) rfl (by rw [hml]; rfl) (rest := []) rfl (hb hbytes d1) (W := 0) (by show 2 * 0 + 0 ≤ _; decide) (Nat.le_of_ble_eq_true rfl) (Nat.le_of_ble_eq_true rfl)
  have hh3 := q3.trans hh0
  have c4 : Steps p.tables e below (s₁.setTop (entryFrame m #[.ref a, .ref b, .int (Int32.ofNat o), .int (Int32.ofNat len), .null] 6)) (T3.setTop (mkF m 27 #[.val (.ref a), .val (.ref b), .val (.int (Int32.ofNat o)), .val (.int (Int32.ofNat len)), .val .null, .unset] [])) := (c2.trans (st3 _ (Steps.refl _))).trans (by
    refine XS.iloadN X3.here hexec rfl (hb hbytes d4) rfl ?_
    refine XS.ifYes X3.here hexec rfl (pc0 := 5) rfl (hb hbytes d5) rfl (i0_ne_t (nz32 (by omega) l0)) (by decide) rfl ?_
    exact Steps.refl _)
  obtain ⟨T5, X5, q5, st5⟩ := X3.sget hexec hown (wk W (.fieldLink "java/lang/String" 38 "java/lang/String" "COMPACT_STRINGS" "Z")) s1 (fun _ _ h => by rw [hh3]; exact h) (g := (mkF m 27 #[.val (.ref a), .val (.ref b), .val (.int (Int32.ofNat o)), .val (.int (Int32.ofNat len)), .val .null, .unset] [])) rfl (hb hbytes d27)
  have hh5 := q5.trans hh3
  have c6 : Steps p.tables e below (s₁.setTop (entryFrame m #[.ref a, .ref b, .int (Int32.ofNat o), .int (Int32.ofNat len), .null] 6)) (T5.setTop (mkF m 30 #[.val (.ref a), .val (.ref b), .val (.int (Int32.ofNat o)), .val (.int (Int32.ofNat len)), .val .null, .unset] [.int z])) := c4.trans (st5 _ (Steps.refl _))
  have c7 : Steps p.tables e below (s₁.setTop (entryFrame m #[.ref a, .ref b, .int (Int32.ofNat o), .int (Int32.ofNat len), .null] 6)) (T5.setTop (mkF m 36 #[.val (.ref a), .val (.ref b), .val (.int (Int32.ofNat o)), .val (.int (Int32.ofNat len)), .val .null, .unset] [.int (Int32.ofNat len), .int (Int32.ofNat o), .ref b])) := c6.trans (by
    refine XS.ifNo X5.here hexec rfl (hb hbytes d30) rfl (i0_eq_f hz) ?_
    refine XS.aloadN X5.here hexec rfl (hb hbytes d33) rfl rfl ?_
    refine XS.iloadN X5.here hexec rfl (hb hbytes d34) rfl ?_
    refine XS.iloadN X5.here hexec rfl (hb hbytes d35) rfl ?_
    exact Steps.refl _)
  obtain ⟨v8, T8, X8, E8, g8⟩ := X5.callS hexec (Cmp3.law l b A o len) hown (wks W (staticW "java/lang/String" 177 Cmp3.yN)) (wk W Cmp3.tab) (W := 0) (Nat.le_of_ble_eq_true rfl) (Nat.le_of_ble_eq_true rfl) (Nat.le_refl _) (by show 0 + len ≤ len; omega) (g := (mkF m 36 #[.val (.ref a), .val (.ref b), .val (.int (Int32.ofNat o)), .val (.int (Int32.ofNat len)), .val .null, .unset] [.int (Int32.ofNat len), .int (Int32.ofNat o), .ref b])) rfl (by rw [hml]; rfl) c7 (argsL := [.ref b, .int (Int32.ofNat o), .int (Int32.ofNat len)]) (rest := []) rfl rfl (by show 2 * 0 + 0 ≤ _; decide) (hb hbytes d36) (⟨rfl, hA.mv X5.warmed.alike hh5, l1, l2, hp⟩)
  obtain ⟨e8, z8⟩ := E8
  obtain ⟨rfl, N, n1, n2, n3, n4, n5, n6⟩ := NewArr.mv _ T5 s _ _ hh5.symm (Vm.Alike.refl _) rfl e8
  rw [hh5] at z8
  have hB1 := hB.keep X8.warmed.alike (n6 _ _ hB.1)
  have hne : s.heap.size ≠ a := (Nat.ne_of_lt (Array.getElem?_eq_some_iff.mp hB.1).1).symm
  have c9 : Steps p.tables e below (s₁.setTop (entryFrame m #[.ref a, .ref b, .int (Int32.ofNat o), .int (Int32.ofNat len), .null] 6)) (T8.setTop (mkF m 39 #[.val (.ref a), .val (.ref b), .val (.int (Int32.ofNat o)), .val (.int (Int32.ofNat len)), .val .null, .unset] [.ref s.heap.size])) := g8
  have c10 : Steps p.tables e below (s₁.setTop (entryFrame m #[.ref a, .ref b, .int (Int32.ofNat o), .int (Int32.ofNat len), .null] 6)) (T8.setTop (mkF m 45 #[.val (.ref a), .val (.ref b), .val (.int (Int32.ofNat o)), .val (.int (Int32.ofNat len)), .val .null, .val (.ref s.heap.size)] [.int (Int32.ofNat N.slots.size), .ref s.heap.size, .ref a])) := by
    have hc : Steps p.tables e below (s₁.setTop (entryFrame m #[.ref a, .ref b, .int (Int32.ofNat o), .int (Int32.ofNat len), .null] 6)) (T8.setTop (mkF m 45 #[.val (.ref a), .val (.ref b), .val (.int (Int32.ofNat o)), .val (.int (Int32.ofNat len)), .val .null, .val (.ref s.heap.size)] [.int (Int32.ofNat len), .ref s.heap.size, .ref a])) := c9.trans (by
      refine XS.astore X8.here hexec rfl (hb hbytes d39) rfl rfl rfl ?_
      refine XS.aloadN X8.here hexec rfl (hb hbytes d41) rfl rfl ?_
      refine XS.aload X8.here hexec rfl (hb hbytes d42) rfl rfl ?_
      refine XS.iloadN X8.here hexec rfl (hb hbytes d44) rfl ?_
      exact Steps.refl _)
    rw [n4]; exact hc
  obtain ⟨v11, T11, X11, E11, g11⟩ := X8.callS hexec (CodL.law l s.heap.size N) hown (wks W (staticW "java/lang/String" 47 CodL.yN)) (wk W CodL.tab) (W := 1) (Nat.le_of_ble_eq_true rfl) (Nat.le_of_ble_eq_true rfl) (Nat.le_refl _) (by show 0 + len + 0 ≤ len; omega) (g := (mkF m 45 #[.val (.ref a), .val (.ref b), .val (.int (Int32.ofNat o)), .val (.int (Int32.ofNat len)), .val .null, .val (.ref s.heap.size)] [.int (Int32.ofNat N.slots.size), .ref s.heap.size, .ref a])) rfl (by rw [hml]; rfl) c10 (argsL := [.ref s.heap.size, .int (Int32.ofNat N.slots.size)]) (rest := [.ref a]) rfl rfl (by show 2 * 0 + (1 + 0) ≤ _; decide) (hb hbytes d45) (⟨rfl, n1⟩)
  obtain ⟨rfl, q11⟩ := E11
  have hB11 := hB1.mv (X8.warmed.alike.symm.trans X11.warmed.alike) q11
  have c12 : Steps p.tables e below (s₁.setTop (entryFrame m #[.ref a, .ref b, .int (Int32.ofNat o), .int (Int32.ofNat len), .null] 6)) (T11.setTop (mkF m 48 #[.val (.ref a), .val (.ref b), .val (.int (Int32.ofNat o)), .val (.int (Int32.ofNat len)), .val .null, .val (.ref s.heap.size)] [.int 0, .ref a])) := g11
  obtain ⟨T13, X13, p13, bl13, sl13, st13⟩ := X11.finit hexec hown (wk W (.fieldLink "java/lang/String" 15 "java/lang/String" "coder" "B")) (Or.inr ⟨_, (wk W (.laysFinal "java/lang/String" "java/lang/String" "coder" "B"))⟩) (Or.inl ⟨rfl, hnm⟩) f2 (Or.inl rfl) hB11 (t := .byte) (by decide +kernel) rfl (g := (mkF m 48 #[.val (.ref a), .val (.ref b), .val (.int (Int32.ofNat o)), .val (.int (Int32.ofNat len)), .val .null, .val (.ref s.heap.size)] [.int 0, .ref a])) rfl (rest := []) rfl (hb hbytes d48)
  have c14 : Steps p.tables e below (s₁.setTop (entryFrame m #[.ref a, .ref b, .int (Int32.ofNat o), .int (Int32.ofNat len), .null] 6)) (T13.setTop (mkF m 54 #[.val (.ref a), .val (.ref b), .val (.int (Int32.ofNat o)), .val (.int (Int32.ofNat len)), .val .null, .val (.ref s.heap.size)] [.ref s.heap.size, .ref a])) := (c12.trans (st13 _ (Steps.refl _))).trans (by
    refine XS.aloadN X13.here hexec rfl (hb hbytes d51) rfl rfl ?_
    refine XS.aload X13.here hexec rfl (hb hbytes d52) rfl rfl ?_
    exact Steps.refl _)
  obtain ⟨T15, X15, p15, bl15, sl15, st15⟩ := X13.finit hexec hown (wk W (.fieldLink "java/lang/String" 9 "java/lang/String" "value" "[B")) (Or.inr ⟨_, (wk W (.laysFinal "java/lang/String" "java/lang/String" "value" "[B"))⟩) (Or.inl ⟨rfl, hnm⟩) f1 (Or.inl rfl) bl13 (t := (.array .byte)) (by decide +kernel) rfl (g := (mkF m 54 #[.val (.ref a), .val (.ref b), .val (.int (Int32.ofNat o)), .val (.int (Int32.ofNat len)), .val .null, .val (.ref s.heap.size)] [.ref s.heap.size, .ref a])) rfl (rest := []) rfl (hb hbytes d54)
  have c16 : Steps p.tables e below (s₁.setTop (entryFrame m #[.ref a, .ref b, .int (Int32.ofNat o), .int (Int32.ofNat len), .null] 6)) (T15.setTop (mkF m 57 #[.val (.ref a), .val (.ref b), .val (.int (Int32.ofNat o)), .val (.int (Int32.ofNat len)), .val .null, .val (.ref s.heap.size)] [])) := c14.trans (st15 _ (Steps.refl _))
  have ap := apart (Or.inr ⟨_, (wk W (.laysFinal "java/lang/String" "java/lang/String" "value" "[B"))⟩) (Or.inr ⟨_, (wk W (.laysFinal "java/lang/String" "java/lang/String" "coder" "B"))⟩) f1 f2 (t₁ := .array .byte) (t₂ := .byte) (by decide +kernel) (by decide +kernel) (by decide)
  have al := X8.warmed.alike.symm.trans X15.warmed.alike
  have n7 : T11.heap[s.heap.size]? = some N := by rw [q11]; exact n1.1
  exact ⟨T15, none, _, _, _, X15, by simp, rfl, by omega, (fun _ => rfl), ⟨rfl, _, N, bl15, ((Same.refl D _).set _ (by simp)).set _ (by simp), sl15, (Cell.slots_setSlot_ne _ ap).trans sl13, n1.keep al (p15.other hne (p13.other hne n7)), n2, by rw [al.findClass]; exact n3, n4, n5, fun y c h1 h2 => p15.other h1 (p13.other h1 (by rw [q11]; exact n6 y c h2)), by rw [p15.2.2, p13.2.2, q11]; exact z8⟩, fun fs hl => c16.trans (X15.returnOut hexec hret (hb hbytes d57) hl)⟩
end New4
namespace New1
def yN : MethodName := ⟨"java/lang/String", "<init>", "([C)V"⟩
abbrev yB : ByteArray := jdk_42_method_3_code
theorem d0 : decode yB 0 = .ok (.aload_n 0, 1) := by decide +kernel
theorem d1 : decode yB 1 = .ok (.aload_n 1, 1) := by decide +kernel
theorem d2 : decode yB 2 = .ok (.iconst 0, 1) := by decide +kernel
theorem d3 : decode yB 3 = .ok (.aload_n 1, 1) := by decide +kernel
theorem d4 : decode yB 4 = .ok (.arraylength, 1) := by decide +kernel
theorem d5 : decode yB 5 = .ok (.aconst_null, 1) := by decide +kernel
theorem d6 : decode yB 6 = .ok (.invokespecial 27, 3) := by decide +kernel
theorem d9 : decode yB 9 = .ok (.return_, 1) := by decide +kernel
def site : List Cond := [New4.tab] ++ initW "java/lang/String" 27 New4.yN
def tab : Cond := tabOf yN yB 2 none site
def P (a : Addr) (D : Cell) (fV fC : Field) (b : Addr) (A : Cell) (z : Int32) (args : Array Value) (s : State) : Prop := args = #[.ref a, .ref b] ∧ Blank "java/lang/String" a D s ∧ Found "java/lang/String" "value" "[B" fV s ∧ Found "java/lang/String" "coder" "B" fC s ∧ Ch b A s ∧ StaticIs s "java/lang/String" "COMPACT_STRINGS" "Z" (.int z) ∧ ¬ z = 0 ∧ 0 < A.slots.size ∧ A.slots.size ≤ 536870912 ∧ ∀ i, i < A.slots.size → ¬ 255 < cv A i
def E (a : Addr) (D : Cell) (fV fC : Field) (A : Cell) (r : Option Value) (s u : State) : Prop := Got a D fV fC A 0 A.slots.size r s u
/-- new String(chars), not empty, no char above 255: a Latin-1 String of their low bytes -/
theorem law (l : Launch) (a : Addr) (D : Cell) (fV fC : Field) (b : Addr) (A : Cell) (z : Int32) : Law l yN 2 1 3 52 yB 2 none site (P a D fV fC b A z) (E a D fV fC A) [⟨a, fC.slot⟩, ⟨a, fV.slot⟩] 1 A.slots.size := by
  refine Law.of_walk (plainFor_of_name (by decide +kernel)) (by decide +kernel) (by decide +kernel) (by decide) (fun _ _ h => by rw [h.1]; rfl) (fun _ U U' hal hh h => ⟨h.1, h.2.1.mv hal hh, h.2.2.1.al hal, h.2.2.2.1.al hal, h.2.2.2.2.1.mv hal hh, h.2.2.2.2.2.1.there hal hh, h.2.2.2.2.2.2⟩) (fun r U U' V V' h1 hal h2 h => Got.mv r U U' V V' h1 hal h2 h) ?_
  intro p e s m args below meth c s₁ X0 hexec hbytes hml hret hlk hnm hown hh0 W hP
  obtain ⟨rfl, hB, f1, f2, hA, s1, hz, l0, l2, hp⟩ := hP
  have c1 : Steps p.tables e below (s₁.setTop (entryFrame m #[.ref a, .ref b] 2)) (s₁.setTop (mkF m 0 #[.val (.ref a), .val (.ref b)] [])) := entry rfl
  have c2 : Steps p.tables e below (s₁.setTop (entryFrame m #[.ref a, .ref b] 2)) (s₁.setTop (mkF m 6 #[.val (.ref a), .val (.ref b)] [.null, .int (Int32.ofNat A.slots.size), .int 0, .ref b, .ref a])) := c1.trans (by
    refine XS.aloadN X0.here hexec rfl (hb hbytes d0) rfl rfl ?_
    refine XS.aloadN X0.here hexec rfl (hb hbytes d1) rfl rfl ?_
    refine iconstV X0.here hexec rfl 0 (hb hbytes d2) (by decide) ?_
    refine XS.aloadN X0.here hexec rfl (hb hbytes d3) rfl rfl ?_
    refine X0.alen hexec (hA.1.mv X0.warmed.alike hh0) rfl rfl (hb hbytes d4) ?_
    refine XS.aconstNull X0.here hexec rfl (hb hbytes d5) ?_
    exact Steps.refl _)
  obtain ⟨v3, T3, X3, E3, g3⟩ := X0.callN hexec (New4.law l a D fV fC b A z 0 A.slots.size) rfl hown (wks W (initW "java/lang/String" 27 New4.yN)) (W New4.tab (by simp only [site, List.mem_cons, List.mem_append, true_or, or_true])) (W := 0) (Nat.le_of_ble_eq_true rfl) (Nat.le_of_ble_eq_true rfl) (Nat.le_refl _) (by show 0 + A.slots.size ≤ A.slots.size; omega) (g := (mkF m 6 #[.val (.ref a), .val (.ref b)] [.null, .int (Int32.ofNat A.slots.size), .int (Int32.ofNat 0), .ref b, .ref a])) rfl (by rw [hml]; rfl) c2 (argsL := [.ref b, .int (Int32.ofNat 0), .int (Int32.ofNat A.slots.size), .null]) (rest := []) rfl rfl (by show 2 * 0 + 0 ≤ _; decide) (hb hbytes d6) (⟨rfl, hB.mv X0.warmed.alike hh0, f1.al X0.warmed.alike, f2.al X0.warmed.alike, hA.mv X0.warmed.alike hh0, s1.there X0.warmed.alike hh0, hz, l0, by omega, l2, fun i hi => by rw [Nat.zero_add]; exact hp i hi⟩)
  have e0 := Got.mv _ s₁ s _ _ hh0.symm (Vm.Alike.refl _) rfl E3
  obtain rfl := e0.1
  have c4 : Steps p.tables e below (s₁.setTop (entryFrame m #[.ref a, .ref b] 2)) (T3.setTop (mkF m 9 #[.val (.ref a), .val (.ref b)] [])) := g3
  exact ⟨T3, none, _, _, _, X3, by simp, rfl, by omega, (fun _ => rfl), e0, fun fs hl => c4.trans (X3.returnOut hexec hret (hb hbytes d9) hl)⟩
theorem pays {l : Launch} {R : Room} {p : Program} {e : Env} {below : List Frame} {s : State} {sargs : Array Value} {len W : Nat} (a : Addr) (D : Cell) (fV fC : Field) (b : Addr) (A : Cell) (z : Int32) (htab : tab.before sargs s = true) (hfr : 4 ≤ R.frames) (hlo : W + 65 ≤ R.locals) :
    Back l R p e below s sargs yN len W (fun A₁ a₁ => A₁.cells + 1 ≤ R.cells ∧ A₁.slots + A.slots.size ≤ R.slots ∧ P a D fV fC b A z a₁ A₁.U) (fun A₁ _ v₁ B₁ => E a D fV fC A v₁ A₁.U B₁.U ∧ B₁.locs = A₁.locs ++ [⟨a, fC.slot⟩, ⟨a, fV.slot⟩] ∧ B₁.cells = A₁.cells + 1 ∧ B₁.slots = A₁.slots + A.slots.size) :=
  (law l a D fV fC b A z).pays htab hfr (by omega)
end New1
end StrChars
namespace StrChars.Road
open Jvm Sem ClassFile Op Lib Jvm.Stand Jvm.Free Jvm.Free.XT
open Jvm.Lib.Cold (StaticIs)
abbrev ST : String := "java/lang/String"
/-- every table word that New1's law asks, flat -/
abbrev words : List Jvm.Cond := [.code New1.yN New1.yB 2 none, .initialized ST, .methodLink ST 27 New4.yN, .instanceMethod New4.yN,
  .code New4.yN New4.yB 6 none, .fieldLink ST 38 ST "COMPACT_STRINGS" "Z", .laysFinal ST ST "value" "[B", .fieldLink ST 9 ST "value" "[B", .laysFinal ST ST "coder" "B", .fieldLink ST 15 ST "coder" "B",
  .methodLink ST 1 Lib.objectInit, .instanceMethod Lib.objectInit, .code Lib.objectInit ⟨#[0xb1]⟩ 1 none, .methodLink ST 177 Cmp3.yN, .static Cmp3.yN, .methodLink ST 47 CodL.yN, .static CodL.yN,
  .code Cmp3.yN Cmp3.yB 6 (some (.array .byte)), .initialized U16, .arrayClass .byte, .methodLink U16 115 Cmp5.yN, .static Cmp5.yN, .code Cmp5.yN Cmp5.yB 7 (some .int), .code CodL.yN CodL.yB 2 (some .byte)]
theorem tab_of {a : Array Value} {s : State} (h : ∀ w ∈ words, w.before a s = true) : New1.tab.before a s = true := by
  have h5 : Cmp5.tab.before a s = true := unparts (wk h (.code Cmp5.yN Cmp5.yB 7 (some .int))) (wks h (.initialized Cmp5.yN.cls :: Cmp5.site))
  have hc : CodL.tab.before a s = true := unparts (wk h (.code CodL.yN CodL.yB 2 (some .byte))) (wks h (.initialized CodL.yN.cls :: CodL.site))
  have q5 : ∀ w ∈ Cmp5.tab :: words, w.before a s = true := fun w hw => (List.mem_cons.mp hw).elim (fun e => e ▸ h5) (h w)
  have h3 : Cmp3.tab.before a s = true := unparts (wk q5 (.code Cmp3.yN Cmp3.yB 6 (some (.array .byte)))) (wks q5 (.initialized Cmp3.yN.cls :: Cmp3.site))
  have q3 : ∀ w ∈ Cmp3.tab :: CodL.tab :: words, w.before a s = true := fun w hw => (List.mem_cons.mp hw).elim (fun e => e ▸ h3) fun hw => (List.mem_cons.mp hw).elim (fun e => e ▸ hc) (h w)
  have h4 : New4.tab.before a s = true := unparts (wk q3 (.code New4.yN New4.yB 6 none)) (wks q3 (.initialized New4.yN.cls :: New4.site))
  have q4 : ∀ w ∈ New4.tab :: words, w.before a s = true := fun w hw => (List.mem_cons.mp hw).elim (fun e => e ▸ h4) (h w)
  exact unparts (wk q4 (.code New1.yN New1.yB 2 none)) (wks q4 (.initialized New1.yN.cls :: New1.site))
/-- the words ride from the start Z to the walk's own state -/
theorem moved {Z s : State} {a0 args : Array Value} (hZ : Z.Warmed39 s.vm) (hw : ∀ d ∈ words, d.before a0 Z = true) : ∀ d ∈ words, d.before args s = true := fun d hd => by
  have q := hw d hd
  have t : ∀ d ∈ words, d = .arrayClass .byte ∨ (d.onTables && d.keepsFace) = true := by decide +kernel
  rcases t d hd with rfl | t
  · exact RoadKit.mvA hZ q
  · exact RoadKit.mv hZ q t
/-- WHAT COMES BACK, over the tables of the start Z: h the heap at the call, h' behind it -/
def Q (Z : State) (x : Addr) (A : Cell) (h : Heap) (v : Option Value) (h' : Heap) (L : List Loc) : Prop := v = none ∧ (∀ y ∈ L, y.base = x) ∧ RoadKit.Keep h h' [x] ∧ h'.size = h.size + 1 ∧ RoadKit.Exa Z h' x ST ∧ RoadKit.Fld Z h' x ST "value" "[B" (.ref h.size) ∧ RoadKit.Fld Z h' x ST "coder" "B" (.int 0) ∧
  (∃ V : Cell, RoadKit.Arr Z h' h.size V .byte ∧ V.vm = .none ∧ Z.vm.findClass "[B" = some V.cls ∧ V.slots.size = A.slots.size ∧ ∀ j, j < A.slots.size → V.slots[j]? = some (.int (lo8 (cv A j)))) ∧
  ∀ (O n d : String) (w : Value), RoadKit.Fld Z h x O n d w → RoadKit.slotOf Z O n d ≠ RoadKit.slotOf Z ST "value" "[B" → RoadKit.slotOf Z O n d ≠ RoadKit.slotOf Z ST "coder" "B" → RoadKit.Fld Z h' x O n d w
/-- **new String(chars) AT A CALL, IN THE ROAD'S FORM**: for specialBack behind newO: x the fresh String, b the char[] with the cell A -/
theorem back {p : Program} {l : Launch} {e : Env} {R : Room} {s : State} {args : Array Value} {below : List Frame} {len W : Nat} {Z : State} {a0 : Array Value} {h : Heap} (hZ : Z.Warmed39 s.vm) (hw : ∀ d ∈ words, d.before a0 Z = true) {kI : Nat} (wi : (Jvm.Cond.instantiable ST kI).before a0 Z = true)
    {x b : Addr} {A : Cell} {z : Int32} {v0 c0 : Value} (E : RoadKit.Exa Z h x ST) (V : RoadKit.Fld Z h x ST "value" "[B" v0) (C : RoadKit.Fld Z h x ST "coder" "B" c0) (K : RoadKit.Arr Z h b A .char) (hty : Typed .char A) (S : RoadKit.Sta Z h ST "COMPACT_STRINGS" "Z" (.int z)) (hz : ¬ z = 0)
    (l0 : 0 < A.slots.size) (l2 : A.slots.size ≤ 536870912) (hp : ∀ i, i < A.slots.size → ¬ 255 < cv A i) (hfr : 4 ≤ R.frames) (hlo : W + 65 ≤ R.locals) :
    Back l R p e below s args New1.yN len W (fun P a => a = #[.ref x, .ref b] ∧ P.U.heap = h ∧ P.cells + 1 ≤ R.cells ∧ P.slots + A.slots.size ≤ R.slots)
      (fun P _ v B => ∃ L, Q Z x A h v B.U.heap L ∧ B.locs = P.locs ++ L ∧ B.cells = P.cells + 1 ∧ B.slots = P.slots + A.slots.size) := by
  intro m meth c P g ig mk a X hg hsize hdg hW hn hp'
  obtain ⟨rfl, rfl, r1, r2⟩ := hp'
  have al : Z.vm.Alike P.U.vm := hZ.alike.trans X.warmed.alike
  obtain ⟨D, cfV, kV, iV, fV, hD, gV, stV, knV, obV, asV, slV⟩ := id V
  obtain ⟨D', cfC, kC, iC, fC, hD', gC, stC, -, -, asC, slC⟩ := id C
  cases hD.symm.trans hD'
  obtain ⟨D2, kD, e1, e2, e3, e4, e5⟩ := id E
  cases hD.symm.trans e1
  obtain ⟨c2, k2, i1, i2, i3, -⟩ := Cond.instantiable_spec wi
  cases e2.symm.trans i1
  cases e3.symm.trans i2
  obtain ⟨kU, u1, u2⟩ := al.2.2 _ _ e3
  have hB : Blank ST x D P.U := ⟨hD, ⟨knV, fun q hq => by rw [hq] at obV; cases obV⟩, by rw [al.findClass]; exact e2, kU, u1, by rw [u2]; exact i3, by rw [u2]; exact e5 i3⟩
  have F1 : Found ST "value" "[B" fV P.U := ⟨SBG.found_only al ⟨cfV, kV, iV, gV⟩, stV⟩
  have F2 : Found ST "coder" "B" fC P.U := ⟨SBG.found_only al ⟨cfC, kC, iC, gC⟩, stC⟩
  have hA : Ch b A P.U := ⟨⟨K.1, State.isArrayOf_alike al K.2.1, K.2.2, by omega⟩, hty⟩
  have hS : StaticIs P.U ST "COMPACT_STRINGS" "Z" (.int z) := by
    obtain ⟨cfS, iS, kS, fS, st, cS, t1, t2, t3, t4, t5, t6, t7⟩ := S
    exact StaticIs.there (s := { Z with heap := P.U.heap }) ⟨cfS, iS, kS, fS, st, cS, t1, t2, t3, t4, t5, (fun q => by rw [q] at t6; cases t6), t7⟩ al rfl
  obtain ⟨v, B, X', ⟨⟨hv, E', V', q1, q2, q3, q4, q5, q6, q7, q8, q9, q10, q11⟩, hl, hc, hs⟩, st⟩ := New1.pays x D fV fC b A z (tab_of (moved hZ hw)) hfr hlo m meth c P g ig mk _ X hg hsize hdg hW hn ⟨r1, r2, rfl, hB, F1, F2, hA, hS, hz, l0, l2, hp⟩
  have al' : Z.vm.Alike B.U.vm := hZ.alike.trans X'.warmed.alike
  have hsz : E'.slots.size = D.slots.size := by
    obtain ⟨-, -, -, kB, w1, w2, w3⟩ := q1
    obtain ⟨kB', y1, y2⟩ := al'.2.2 _ _ e3
    rw [q2.2.1] at w1
    cases w1.symm.trans y1
    rw [w3, e5 i3, y2]
  refine ⟨v, B, X', ⟨_, ⟨hv, ?_, ⟨by omega, fun y cy hy hn' => q10 y cy (by simpa using hn') hy, fun y cy hy => ?_⟩, q11, ⟨E', _, q1.1, by rw [q2.2.1]; exact e2, by rw [q2.2.1]; exact e3, by rw [q2.1]; exact obV, fun _ => by rw [hsz]; exact e5 i3⟩,
    ⟨E', cfV, kV, iV, fV, q1.1, gV, stV, by rw [q2.1]; exact knV, by rw [q2.1]; exact obV, by rw [q2.2.1]; exact asV, q3⟩, ⟨E', cfC, kC, iC, fC, q1.1, gC, stC, by rw [q2.1]; exact knV, by rw [q2.1]; exact obV, by rw [q2.2.1]; exact asC, q4⟩,
    ⟨V', ⟨q5.1, State.isArrayOf_alike al'.symm q5.2.1, q5.2.2.1⟩, q6, by rw [← al'.findClass]; exact q7, q8, fun j hj => by have := q9 j hj; rwa [Nat.zero_add] at this⟩, fun O n d w F n1 n2 => ?_⟩, hl, hc, hs⟩, st⟩
  · intro y hy
    simp only [List.mem_cons, List.not_mem_nil, or_false] at hy
    rcases hy with rfl | rfl <;> rfl
  · by_cases q : y = x
    · subst q
      cases hD.symm.trans hy
      exact ⟨E', q1.1, q2.2.1, q2.1, hsz⟩
    · exact ⟨cy, q10 y cy q hy, rfl, rfl, rfl⟩
  · obtain ⟨D3, cf, k, i, f, g1, g2, g3, g4, g5, g6, g7⟩ := F
    cases hD.symm.trans g1
    simp only [RoadKit.slotOf, g2, gV, gC, Option.map_some, Option.getD_some] at n1 n2
    exact ⟨E', cf, k, i, f, q1.1, g2, g3, by rw [q2.1]; exact g4, by rw [q2.1]; exact g5, by rw [q2.2.1]; exact g6, by rw [q2.2.2 f.slot (by simp [n1, n2])]; exact g7⟩
end StrChars.Road
namespace StrChars.Road
open Jvm Sem ClassFile Op Lib Jvm.Stand Jvm.Free Jvm.Free.XT
/-- WHAT COMES BACK, the byte[] as a list of values -/
def QA (Z : State) (x : Addr) (zn : Int32) (cs : List Int32) (h : Heap) (v : Option Value) (h' : Heap) (L : List Loc) : Prop := v = none ∧ (∀ y ∈ L, y.base = x) ∧ RoadKit.Keep h h' [x] ∧ h'.size = h.size + 1 ∧ RoadKit.Exa Z h' x ST ∧ RoadKit.Fld Z h' x ST "value" "[B" (.ref h.size) ∧ RoadKit.Fld Z h' x ST "coder" "B" (.int 0) ∧
  (∃ kb, Z.vm.findClass "[B" = some kb ∧ RoadKit.Arv Z h' h.size kb .byte zn (cs.map fun c => .int (lo8 c)) (.int 0)) ∧
  ∀ (O n d : String) (w : Value), RoadKit.Fld Z h x O n d w → RoadKit.slotOf Z O n d ≠ RoadKit.slotOf Z ST "value" "[B" → RoadKit.slotOf Z O n d ≠ RoadKit.slotOf Z ST "coder" "B" → RoadKit.Fld Z h' x O n d w
/-- **new String(chars) AT A CALL, THE ARRAYS AS LISTS**: the char[] at b holds cs, not empty, no char above 255 -/
theorem backArv {p : Program} {l : Launch} {e : Env} {R : Room} {s : State} {args : Array Value} {below : List Frame} {len W : Nat} {Z : State} {a0 : Array Value} {h : Heap} (hZ : Z.Warmed39 s.vm) (hw : ∀ d ∈ words, d.before a0 Z = true) {kI : Nat} (wi : (Jvm.Cond.instantiable ST kI).before a0 Z = true)
    {x b : Addr} {k : ClassId} {zn z : Int32} {cs : List Int32} {dv v0 c0 : Value} (E : RoadKit.Exa Z h x ST) (V : RoadKit.Fld Z h x ST "value" "[B" v0) (C : RoadKit.Fld Z h x ST "coder" "B" c0) (K : RoadKit.Arv Z h b k .char zn (cs.map Value.int) dv) (S : RoadKit.Sta Z h ST "COMPACT_STRINGS" "Z" (.int z)) (hz : ¬ z = 0)
    (hlen : zn.toNatClampNeg = cs.length) (h0 : 0 < cs.length) (hbig : cs.length ≤ 536870912) (hall : ∀ c ∈ cs, ¬ 255 < c) (hfr : 4 ≤ R.frames) (hlo : W + 65 ≤ R.locals) :
    Back l R p e below s args New1.yN len W (fun P a => a = #[.ref x, .ref b] ∧ P.U.heap = h ∧ P.cells + 1 ≤ R.cells ∧ P.slots + cs.length ≤ R.slots)
      (fun P _ v B => ∃ L, QA Z x zn cs h v B.U.heap L ∧ B.locs = P.locs ++ L ∧ B.cells = P.cells + 1 ∧ B.slots = P.slots + cs.length) := by
  obtain ⟨A, K1, K2, K3, K4, K5, K6⟩ := K
  have e : A.slots.size = cs.length := K3.trans hlen
  have hat : ∀ (i : Nat) (hi : i < cs.length), A.slots[i]? = some (.int cs[i]) := fun i hi => by rw [K5 i (by omega)]; simp [List.getD_eq_getElem?_getD, hi]
  have hcv : ∀ (i : Nat) (hi : i < cs.length), cv A i = cs[i] := fun i hi => by unfold cv; rw [hat i hi]
  have hty : Typed .char A := fun i v hv => by
    have hi : i < A.slots.size := (Array.getElem?_eq_some_iff.mp hv).1
    have q := K5 i hi
    rw [hv] at q
    rw [Option.some.inj q]
    exact K6 i hi
  refine Back.mono (back hZ hw wi E V C K1 hty S hz (by omega) (by omega) (fun i hi => by rw [hcv i (by omega)]; exact hall _ (List.getElem_mem _)) hfr hlo) (fun P a hp => ⟨hp.1, hp.2.1, hp.2.2.1, by rw [e]; exact hp.2.2.2⟩) (fun P a v B hp hq => ?_)
  obtain ⟨L, ⟨q1, q2, q3, q4, q5, q6, q7, ⟨V', v1, v2, v3, v4, v5⟩, q9⟩, hl, hc, hs⟩ := hq
  refine ⟨L, ⟨q1, q2, q3, q4, q5, q6, q7, ⟨V'.cls, v3, V', v1, rfl, by rw [v4, e, hlen], K4, fun i hi => ?_, fun i hi => ?_⟩, q9⟩, hl, hc, by rw [hs, e]⟩
  · have hi' : i < cs.length := by omega
    rw [v5 i (by omega), hcv i hi']; simp [List.getD_eq_getElem?_getD, hi']
  · have hi' : i < cs.length := by omega
    simp only [List.getD_eq_getElem?_getD, List.getElem?_map, List.getElem?_eq_getElem hi', Option.map_some, Option.getD_some]
    exact fits_lo8 _
end StrChars.Road
namespace StrChars.Road
open Jvm Sem ClassFile Op Lib Jvm.Stand Jvm.Free Jvm.Free.XT
/-- WHAT COMES BACK, in the writer's own shape -/
def QV (Z : State) (x : Addr) (N : Int32) (bs : List Int32) (h : Heap) (n0 : Nat) (v : Option Value) (h' : Heap) (L : List Loc) : Prop := v = none ∧ RoadKit.Fr n0 L ∧ RoadKit.Keep h h' [x] ∧ RoadKit.Exa Z h' x ST ∧ RoadKit.Fld Z h' x ST "coder" "B" (.int 0) ∧
  ∃ (t : Addr) (kb : ClassId), n0 ≤ t ∧ h.size ≤ t ∧ ¬ t = x ∧ RoadKit.Fld Z h' x ST "value" "[B" (.ref t) ∧ RoadKit.Arv Z h' t kb .byte N (bs.map Value.int) (.int 0)
/-- **new String(chars) AT A CALL, FOR THE WRITER**: a char[] of n known ints, each 0 to 255 -/
theorem backV {p : Program} {l : Launch} {e : Env} {R : Room} {s : State} {args : Array Value} {below : List Frame} {len W : Nat} {Z : State} {a0 : Array Value} {h : Heap} (hZ : Z.Warmed39 s.vm) (hw : ∀ d ∈ words, d.before a0 Z = true) {kI : Nat} (wi : (Jvm.Cond.instantiable ST kI).before a0 Z = true)
    {x b : Addr} {kC : ClassId} {cs bs : List Int32} {d v0 c0 : Value} {z N : Int32} {n n0 : Nat} (hx0 : n0 ≤ x) (hh0 : n0 ≤ h.size) (E : RoadKit.Exa Z h x ST) (V : RoadKit.Fld Z h x ST "value" "[B" v0) (C : RoadKit.Fld Z h x ST "coder" "B" c0) (K : RoadKit.Arv Z h b kC .char N (cs.map Value.int) d) (S : RoadKit.Sta Z h ST "COMPACT_STRINGS" "Z" (.int z)) (hz : ¬ z = 0)
    (hn : cs.length = n) (hN : N = Int32.ofNat n) (l0 : 0 < n) (l2 : n ≤ 4000) (hp : ∀ c ∈ cs, ¬ c < 0 ∧ ¬ (255 : Int32) < c) (hb : bs = cs.map (fun c => c.toInt8.toInt32)) (hfr : 4 ≤ R.frames) (hlo : W + 65 ≤ R.locals) :
    Back l R p e below s args (⟨"java/lang/String", "<init>", "([C)V"⟩ : MethodName) len W (fun P a => a = #[.ref x, .ref b] ∧ P.U.heap = h ∧ P.cells + 1 ≤ R.cells ∧ P.slots + n ≤ R.slots)
      (fun P _ v B => ∃ L, QV Z x N bs h n0 v B.U.heap L ∧ B.locs = P.locs ++ L ∧ B.cells = P.cells + 1 ∧ B.slots = P.slots + n) := by
  subst hn hN hb
  refine Back.mono (backArv hZ hw wi E V C K S hz (n32 (by omega)) l0 (by omega) (fun c hc => (hp c hc).2) hfr hlo) (fun P a hp => hp) (fun P a v B hp hq => ?_)
  obtain ⟨L, ⟨q1, q2, q3, q4, q5, q6, q7, ⟨kb, v1, v2⟩, q9⟩, hl, hc, hs⟩ := hq
  exact ⟨L, ⟨q1, fun y hy => by rw [q2 y hy]; exact hx0, q3, q5, q7, h.size, kb, hh0, Nat.le_refl _, Nat.ne_of_gt E.lt, q6, by rw [List.map_map]; exact v2⟩, hl, hc, hs⟩
end StrChars.Road
namespace StrChars
open Jvm Sem ClassFile Op Lib Jvm.Stand Jvm.Free.XT Jvm.Free.ALB Jvm.Free.JM Jvm.Free
open Jvm.Lib.Cold (StaticIs)
def hi8 (x : Int32) : Int32 := lo8 (x >>> ((8 : Int32) &&& 31))
end StrChars
namespace StrChars.Road
open Jvm Sem ClassFile Op Lib Jvm.Stand Jvm.Free Jvm.Free.XT
open Jvm.Lib.Cold (StaticIs)
/-- the bytes of the chars cs, low before high -/
def wideBytes : List Int32 → List Value
  | [] => []
  | c :: cs => .int (lo8 c) :: .int (hi8 c) :: wideBytes cs
/-- an array of N2 bytes vs codes the chars cs by the coder cd -/
def CodA (cs : List Int32) (cd N2 : Int32) (vs : List Value) : Prop := (cd = 0 ∧ N2 = Int32.ofNat cs.length ∧ vs = (cs.map fun c => Value.int (lo8 c)) ∧ ∀ c ∈ cs, ¬ 255 < c) ∨ (cd = 1 ∧ N2 = Int32.ofNat (2 * cs.length) ∧ vs = wideBytes cs ∧ ∃ c ∈ cs, 255 < c)
end StrChars.Road
namespace StrChars.Road
open Jvm Sem ClassFile Op Lib Jvm.Stand Jvm.Free Jvm.Free.XT
open Jvm.Lib.Cold (StaticIs)
/-- what backV says of its String, as the contracts of this text ask it: cs's low bytes, coder 0 -/
theorem codOf {cs : List Int32} {n : Nat} (hn : cs.length = n) (hb : ∀ c ∈ cs, ¬ 255 < c) : CodA cs 0 (Int32.ofNat n) ((cs.map lo8).map Value.int) := Or.inl ⟨rfl, by rw [hn], by simp [List.map_map, Function.comp_def], hb⟩
end StrChars.Road
end Jvm.Pilot.@@N@@

namespace Jvm.Pilot.@@N@@
open Jvm Jvm.ClassFile Sem Op Lib Jvm.Free Jvm.Stand Jvm.LawKit Jvm.RoadKit Bundle Jvm.OwnKit Jvm.Pilot.@@N@@.Jvm.D
theorem b9_0 : Dc jdk_42_method_149_code 0 (.aload_n 0) 1 1 := ⟨by decide +kernel, rfl⟩
theorem b9_1 : Dc jdk_42_method_149_code 1 (.invokespecial 1) 3 4 := ⟨by decide +kernel, rfl⟩
theorem b9_4 : Dc jdk_42_method_149_code 4 (.iload_n 3) 1 5 := ⟨by decide +kernel, rfl⟩
theorem b9_5 : Db jdk_42_method_149_code 5 (.ifCond .ne 22) (22) 8 27 := ⟨by decide +kernel, rfl, by decide, by decide⟩
theorem b9_8 : Dc jdk_42_method_149_code 8 (.aload_n 0) 1 9 := ⟨by decide +kernel, rfl⟩
theorem b9_9 : Dc jdk_42_method_149_code 9 (.ldc 7) 2 11 := ⟨by decide +kernel, rfl⟩
theorem b9_11 : Dc jdk_42_method_149_code 11 (.getfield 9) 3 14 := ⟨by decide +kernel, rfl⟩
theorem b9_14 : Dc jdk_42_method_149_code 14 (.putfield 9) 3 17 := ⟨by decide +kernel, rfl⟩
theorem b9_17 : Dc jdk_42_method_149_code 17 (.aload_n 0) 1 18 := ⟨by decide +kernel, rfl⟩
theorem b9_18 : Dc jdk_42_method_149_code 18 (.ldc 7) 2 20 := ⟨by decide +kernel, rfl⟩
theorem b9_20 : Dc jdk_42_method_149_code 20 (.getfield 15) 3 23 := ⟨by decide +kernel, rfl⟩
theorem b9_23 : Dc jdk_42_method_149_code 23 (.putfield 15) 3 26 := ⟨by decide +kernel, rfl⟩
theorem b9_26 : Dc jdk_42_method_149_code 26 (.return_) 1 27 := ⟨by decide +kernel, rfl⟩
theorem b8_0 : Dc jdk_42_method_3_code 0 (.aload_n 0) 1 1 := ⟨by decide +kernel, rfl⟩
theorem b8_1 : Dc jdk_42_method_3_code 1 (.aload_n 1) 1 2 := ⟨by decide +kernel, rfl⟩
theorem b8_2 : Dc jdk_42_method_3_code 2 (.iconst 0) 1 3 := ⟨by decide +kernel, rfl⟩
theorem b8_3 : Dc jdk_42_method_3_code 3 (.aload_n 1) 1 4 := ⟨by decide +kernel, rfl⟩
theorem b8_4 : Dc jdk_42_method_3_code 4 (.arraylength) 1 5 := ⟨by decide +kernel, rfl⟩
theorem b8_5 : Dc jdk_42_method_3_code 5 (.aconst_null) 1 6 := ⟨by decide +kernel, rfl⟩
theorem b8_6 : Dc jdk_42_method_3_code 6 (.invokespecial 27) 3 9 := ⟨by decide +kernel, rfl⟩
theorem b8_9 : Dc jdk_42_method_3_code 9 (.return_) 1 10 := ⟨by decide +kernel, rfl⟩
theorem b0_0 : Dc method_2_code 0 (.iload_n 0) 1 1 := ⟨by decide +kernel, rfl⟩
theorem b0_1 : Db method_2_code 1 (.ifCond .ne 7) (7) 4 8 := ⟨by decide +kernel, rfl, by decide, by decide⟩
theorem b0_8 : Dc method_2_code 8 (.iload_n 0) 1 9 := ⟨by decide +kernel, rfl⟩
theorem b0_9 : Dc method_2_code 9 (.iconst 1) 1 10 := ⟨by decide +kernel, rfl⟩
theorem b0_10 : Db method_2_code 10 (.if_icmp .ne 7) (7) 13 17 := ⟨by decide +kernel, rfl, by decide, by decide⟩
theorem b0_17 : Dc method_2_code 17 (.iload_n 0) 1 18 := ⟨by decide +kernel, rfl⟩
theorem b0_18 : Dc method_2_code 18 (.iconst 2) 1 19 := ⟨by decide +kernel, rfl⟩
theorem b0_19 : Db method_2_code 19 (.if_icmp .ne 7) (7) 22 26 := ⟨by decide +kernel, rfl, by decide, by decide⟩
theorem b0_26 : Dc method_2_code 26 (.iload_n 0) 1 27 := ⟨by decide +kernel, rfl⟩
theorem b0_27 : Dc method_2_code 27 (.iconst 3) 1 28 := ⟨by decide +kernel, rfl⟩
theorem b0_28 : Db method_2_code 28 (.if_icmp .ne 7) (7) 31 35 := ⟨by decide +kernel, rfl, by decide, by decide⟩
theorem b0_35 : Dc method_2_code 35 (.iload_n 0) 1 36 := ⟨by decide +kernel, rfl⟩
theorem b0_36 : Dc method_2_code 36 (.iconst 4) 1 37 := ⟨by decide +kernel, rfl⟩
theorem b0_37 : Db method_2_code 37 (.if_icmp .ne 7) (7) 40 44 := ⟨by decide +kernel, rfl, by decide, by decide⟩
theorem b0_44 : Dc method_2_code 44 (.iload_n 0) 1 45 := ⟨by decide +kernel, rfl⟩
theorem b0_45 : Dc method_2_code 45 (.iconst 5) 1 46 := ⟨by decide +kernel, rfl⟩
theorem b0_46 : Db method_2_code 46 (.if_icmp .ne 7) (7) 49 53 := ⟨by decide +kernel, rfl, by decide, by decide⟩
theorem b0_53 : Dc method_2_code 53 (.iload_n 0) 1 54 := ⟨by decide +kernel, rfl⟩
theorem b0_54 : Dc method_2_code 54 (.bipush 6) 2 56 := ⟨by decide +kernel, rfl⟩
theorem b0_56 : Db method_2_code 56 (.if_icmp .ne 7) (7) 59 63 := ⟨by decide +kernel, rfl, by decide, by decide⟩
theorem b0_63 : Dc method_2_code 63 (.getstatic 31) 3 66 := ⟨by decide +kernel, rfl⟩
theorem b0_66 : Dc method_2_code 66 (.areturn) 1 67 := ⟨by decide +kernel, rfl⟩
theorem b0_59 : Dc method_2_code 59 (.getstatic 28) 3 62 := ⟨by decide +kernel, rfl⟩
theorem b0_62 : Dc method_2_code 62 (.areturn) 1 63 := ⟨by decide +kernel, rfl⟩
theorem b0_49 : Dc method_2_code 49 (.getstatic 25) 3 52 := ⟨by decide +kernel, rfl⟩
theorem b0_52 : Dc method_2_code 52 (.areturn) 1 53 := ⟨by decide +kernel, rfl⟩
theorem b0_40 : Dc method_2_code 40 (.getstatic 22) 3 43 := ⟨by decide +kernel, rfl⟩
theorem b0_43 : Dc method_2_code 43 (.areturn) 1 44 := ⟨by decide +kernel, rfl⟩
theorem b0_31 : Dc method_2_code 31 (.getstatic 19) 3 34 := ⟨by decide +kernel, rfl⟩
theorem b0_34 : Dc method_2_code 34 (.areturn) 1 35 := ⟨by decide +kernel, rfl⟩
theorem b0_22 : Dc method_2_code 22 (.getstatic 16) 3 25 := ⟨by decide +kernel, rfl⟩
theorem b0_25 : Dc method_2_code 25 (.areturn) 1 26 := ⟨by decide +kernel, rfl⟩
theorem b0_13 : Dc method_2_code 13 (.getstatic 13) 3 16 := ⟨by decide +kernel, rfl⟩
theorem b0_16 : Dc method_2_code 16 (.areturn) 1 17 := ⟨by decide +kernel, rfl⟩
theorem b0_4 : Dc method_2_code 4 (.getstatic 7) 3 7 := ⟨by decide +kernel, rfl⟩
theorem b0_7 : Dc method_2_code 7 (.areturn) 1 8 := ⟨by decide +kernel, rfl⟩
theorem b14_0 : Dc jdk_43_method_3_code 0 (.iload_n 0) 1 1 := ⟨by decide +kernel, rfl⟩
theorem b14_1 : Dc jdk_43_method_3_code 1 (.sipush 255) 3 4 := ⟨by decide +kernel, rfl⟩
theorem b14_4 : Db jdk_43_method_3_code 4 (.if_icmp .gt 7) (7) 7 11 := ⟨by decide +kernel, rfl, by decide, by decide⟩
theorem b14_7 : Dc jdk_43_method_3_code 7 (.iconst 1) 1 8 := ⟨by decide +kernel, rfl⟩
theorem b14_8 : Db jdk_43_method_3_code 8 (.goto 4) (4) 11 12 := ⟨by decide +kernel, rfl, by decide, by decide⟩
theorem b14_12 : Dc jdk_43_method_3_code 12 (.ireturn) 1 13 := ⟨by decide +kernel, rfl⟩
theorem b15_0 : Dc jdk_43_method_46_code 0 (.iconst 1) 1 1 := ⟨by decide +kernel, rfl⟩
theorem b15_1 : Dc jdk_43_method_46_code 1 (.newarray .byte) 2 3 := ⟨by decide +kernel, rfl⟩
theorem b15_3 : Dc jdk_43_method_46_code 3 (.dup) 1 4 := ⟨by decide +kernel, rfl⟩
theorem b15_4 : Dc jdk_43_method_46_code 4 (.iconst 0) 1 5 := ⟨by decide +kernel, rfl⟩
theorem b15_5 : Dc jdk_43_method_46_code 5 (.iload_n 0) 1 6 := ⟨by decide +kernel, rfl⟩
theorem b15_6 : Dc jdk_43_method_46_code 6 (.i2b) 1 7 := ⟨by decide +kernel, rfl⟩
theorem b15_7 : Dc jdk_43_method_46_code 7 (.bastore) 1 8 := ⟨by decide +kernel, rfl⟩
theorem b15_8 : Dc jdk_43_method_46_code 8 (.areturn) 1 9 := ⟨by decide +kernel, rfl⟩
theorem b16_0 : Dc jdk_42_method_151_code 0 (.aload_n 0) 1 1 := ⟨by decide +kernel, rfl⟩
theorem b16_1 : Dc jdk_42_method_151_code 1 (.invokespecial 1) 3 4 := ⟨by decide +kernel, rfl⟩
theorem b16_4 : Dc jdk_42_method_151_code 4 (.aload_n 0) 1 5 := ⟨by decide +kernel, rfl⟩
theorem b16_5 : Dc jdk_42_method_151_code 5 (.aload_n 1) 1 6 := ⟨by decide +kernel, rfl⟩
theorem b16_6 : Dc jdk_42_method_151_code 6 (.putfield 9) 3 9 := ⟨by decide +kernel, rfl⟩
theorem b16_9 : Dc jdk_42_method_151_code 9 (.aload_n 0) 1 10 := ⟨by decide +kernel, rfl⟩
theorem b16_10 : Dc jdk_42_method_151_code 10 (.iload_n 2) 1 11 := ⟨by decide +kernel, rfl⟩
theorem b16_11 : Dc jdk_42_method_151_code 11 (.putfield 15) 3 14 := ⟨by decide +kernel, rfl⟩
theorem b16_14 : Dc jdk_42_method_151_code 14 (.return_) 1 15 := ⟨by decide +kernel, rfl⟩
theorem b13_0 : Dc jdk_42_method_139_code 0 (.getstatic 38) 3 3 := ⟨by decide +kernel, rfl⟩
theorem b13_3 : Db jdk_42_method_139_code 3 (.ifCond .eq 23) (23) 6 26 := ⟨by decide +kernel, rfl, by decide, by decide⟩
theorem b13_6 : Dc jdk_42_method_139_code 6 (.iload_n 0) 1 7 := ⟨by decide +kernel, rfl⟩
theorem b13_7 : Dc jdk_42_method_139_code 7 (.invokestatic 1015) 3 10 := ⟨by decide +kernel, rfl⟩
theorem b13_10 : Db jdk_42_method_139_code 10 (.ifCond .eq 16) (16) 13 26 := ⟨by decide +kernel, rfl, by decide, by decide⟩
theorem b13_13 : Dc jdk_42_method_139_code 13 (.new 10) 3 16 := ⟨by decide +kernel, rfl⟩
theorem b13_16 : Dc jdk_42_method_139_code 16 (.dup) 1 17 := ⟨by decide +kernel, rfl⟩
theorem b13_17 : Dc jdk_42_method_139_code 17 (.iload_n 0) 1 18 := ⟨by decide +kernel, rfl⟩
theorem b13_18 : Dc jdk_42_method_139_code 18 (.invokestatic 1018) 3 21 := ⟨by decide +kernel, rfl⟩
theorem b13_21 : Dc jdk_42_method_139_code 21 (.iconst 0) 1 22 := ⟨by decide +kernel, rfl⟩
theorem b13_22 : Dc jdk_42_method_139_code 22 (.invokespecial 209) 3 25 := ⟨by decide +kernel, rfl⟩
theorem b13_25 : Dc jdk_42_method_139_code 25 (.areturn) 1 26 := ⟨by decide +kernel, rfl⟩
theorem b4_0 : Dc jdk_22_method_1_code 0 (.aload_n 0) 1 1 := ⟨by decide +kernel, rfl⟩
theorem b4_1 : Dc jdk_22_method_1_code 1 (.invokespecial 1) 3 4 := ⟨by decide +kernel, rfl⟩
theorem b4_4 : Dc jdk_22_method_1_code 4 (.return_) 1 5 := ⟨by decide +kernel, rfl⟩
theorem b3_0 : Dc jdk_39_method_1_code 0 (.aload_n 0) 1 1 := ⟨by decide +kernel, rfl⟩
theorem b3_1 : Dc jdk_39_method_1_code 1 (.invokespecial 1) 3 4 := ⟨by decide +kernel, rfl⟩
theorem b3_4 : Dc jdk_39_method_1_code 4 (.aload_n 0) 1 5 := ⟨by decide +kernel, rfl⟩
theorem b3_5 : Dc jdk_39_method_1_code 5 (.iconst 0) 1 6 := ⟨by decide +kernel, rfl⟩
theorem b3_6 : Dc jdk_39_method_1_code 6 (.putfield 7) 3 9 := ⟨by decide +kernel, rfl⟩
theorem b3_9 : Dc jdk_39_method_1_code 9 (.return_) 1 10 := ⟨by decide +kernel, rfl⟩
theorem b2_0 : Dc jdk_38_method_2_code 0 (.aload_n 0) 1 1 := ⟨by decide +kernel, rfl⟩
theorem b2_1 : Dc jdk_38_method_2_code 1 (.invokespecial 1) 3 4 := ⟨by decide +kernel, rfl⟩
theorem b2_4 : Dc jdk_38_method_2_code 4 (.aload_n 0) 1 5 := ⟨by decide +kernel, rfl⟩
theorem b2_5 : Dc jdk_38_method_2_code 5 (.getstatic 39) 3 8 := ⟨by decide +kernel, rfl⟩
theorem b2_8 : Dc jdk_38_method_2_code 8 (.putfield 9) 3 11 := ⟨by decide +kernel, rfl⟩
theorem b2_11 : Dc jdk_38_method_2_code 11 (.return_) 1 12 := ⟨by decide +kernel, rfl⟩
theorem b6_0 : Dc prog_9_method_1_code 0 (.aload_n 0) 1 1 := ⟨by decide +kernel, rfl⟩
theorem b6_1 : Dc prog_9_method_1_code 1 (.invokespecial 1) 3 4 := ⟨by decide +kernel, rfl⟩
theorem b6_4 : Dc prog_9_method_1_code 4 (.aload_n 0) 1 5 := ⟨by decide +kernel, rfl⟩
theorem b6_5 : Dc prog_9_method_1_code 5 (.iload_n 1) 1 6 := ⟨by decide +kernel, rfl⟩
theorem b6_6 : Dc prog_9_method_1_code 6 (.putfield 7) 3 9 := ⟨by decide +kernel, rfl⟩
theorem b6_9 : Dc prog_9_method_1_code 9 (.aload_n 0) 1 10 := ⟨by decide +kernel, rfl⟩
theorem b6_10 : Dc prog_9_method_1_code 10 (.aload_n 2) 1 11 := ⟨by decide +kernel, rfl⟩
theorem b6_11 : Dc prog_9_method_1_code 11 (.putfield 13) 3 14 := ⟨by decide +kernel, rfl⟩
theorem b6_14 : Dc prog_9_method_1_code 14 (.aload_n 0) 1 15 := ⟨by decide +kernel, rfl⟩
theorem b6_15 : Dc prog_9_method_1_code 15 (.aload_n 3) 1 16 := ⟨by decide +kernel, rfl⟩
theorem b6_16 : Dc prog_9_method_1_code 16 (.putfield 17) 3 19 := ⟨by decide +kernel, rfl⟩
theorem b6_19 : Dc prog_9_method_1_code 19 (.aload_n 0) 1 20 := ⟨by decide +kernel, rfl⟩
theorem b6_20 : Dc prog_9_method_1_code 20 (.aload 4) 2 22 := ⟨by decide +kernel, rfl⟩
theorem b6_22 : Dc prog_9_method_1_code 22 (.putfield 21) 3 25 := ⟨by decide +kernel, rfl⟩
theorem b6_25 : Dc prog_9_method_1_code 25 (.return_) 1 26 := ⟨by decide +kernel, rfl⟩
theorem b7_0 : Dc prog_9_method_4_code 0 (.aload_n 0) 1 1 := ⟨by decide +kernel, rfl⟩
theorem b7_1 : Dc prog_9_method_4_code 1 (.getfield 13) 3 4 := ⟨by decide +kernel, rfl⟩
theorem b7_4 : Dc prog_9_method_4_code 4 (.getstatic 25) 3 7 := ⟨by decide +kernel, rfl⟩
theorem b7_7 : Db prog_9_method_4_code 7 (.if_acmp .eq 13) (13) 10 20 := ⟨by decide +kernel, rfl, by decide, by decide⟩
theorem b7_20 : Dc prog_9_method_4_code 20 (.aload_n 0) 1 21 := ⟨by decide +kernel, rfl⟩
theorem b7_21 : Dc prog_9_method_4_code 21 (.getfield 17) 3 24 := ⟨by decide +kernel, rfl⟩
theorem b7_24 : Db prog_9_method_4_code 24 (.goto 4) (4) 27 28 := ⟨by decide +kernel, rfl, by decide, by decide⟩
theorem b7_28 : Dc prog_9_method_4_code 28 (.areturn) 1 29 := ⟨by decide +kernel, rfl⟩
theorem b7_10 : Dc prog_9_method_4_code 10 (.aload_n 0) 1 11 := ⟨by decide +kernel, rfl⟩
theorem b7_11 : Dc prog_9_method_4_code 11 (.getfield 13) 3 14 := ⟨by decide +kernel, rfl⟩
theorem b7_14 : Dc prog_9_method_4_code 14 (.getstatic 30) 3 17 := ⟨by decide +kernel, rfl⟩
theorem b7_17 : Db prog_9_method_4_code 17 (.if_acmp .ne 10) (10) 20 27 := ⟨by decide +kernel, rfl, by decide, by decide⟩
theorem b7_27 : Dc prog_9_method_4_code 27 (.aconst_null) 1 28 := ⟨by decide +kernel, rfl⟩
theorem b1_0 : Dc method_3_code 0 (.iconst 2) 1 1 := ⟨by decide +kernel, rfl⟩
theorem b1_1 : Dc method_3_code 1 (.newarray .char) 2 3 := ⟨by decide +kernel, rfl⟩
theorem b1_3 : Dc method_3_code 3 (.dup) 1 4 := ⟨by decide +kernel, rfl⟩
theorem b1_4 : Dc method_3_code 4 (.iconst 0) 1 5 := ⟨by decide +kernel, rfl⟩
theorem b1_5 : Dc method_3_code 5 (.iload_n 1) 1 6 := ⟨by decide +kernel, rfl⟩
theorem b1_6 : Dc method_3_code 6 (.sipush 255) 3 9 := ⟨by decide +kernel, rfl⟩
theorem b1_9 : Dc method_3_code 9 (.iand) 1 10 := ⟨by decide +kernel, rfl⟩
theorem b1_10 : Dc method_3_code 10 (.i2c) 1 11 := ⟨by decide +kernel, rfl⟩
theorem b1_11 : Dc method_3_code 11 (.castore) 1 12 := ⟨by decide +kernel, rfl⟩
theorem b1_12 : Dc method_3_code 12 (.dup) 1 13 := ⟨by decide +kernel, rfl⟩
theorem b1_13 : Dc method_3_code 13 (.iconst 1) 1 14 := ⟨by decide +kernel, rfl⟩
theorem b1_14 : Dc method_3_code 14 (.iload_n 2) 1 15 := ⟨by decide +kernel, rfl⟩
theorem b1_15 : Dc method_3_code 15 (.sipush 255) 3 18 := ⟨by decide +kernel, rfl⟩
theorem b1_18 : Dc method_3_code 18 (.iand) 1 19 := ⟨by decide +kernel, rfl⟩
theorem b1_19 : Dc method_3_code 19 (.i2c) 1 20 := ⟨by decide +kernel, rfl⟩
theorem b1_20 : Dc method_3_code 20 (.castore) 1 21 := ⟨by decide +kernel, rfl⟩
theorem b1_21 : Dc method_3_code 21 (.astore_n 3) 1 22 := ⟨by decide +kernel, rfl⟩
theorem b1_22 : Dc method_3_code 22 (.iconst 0) 1 23 := ⟨by decide +kernel, rfl⟩
theorem b1_23 : Dc method_3_code 23 (.newarray .char) 2 25 := ⟨by decide +kernel, rfl⟩
theorem b1_25 : Dc method_3_code 25 (.astore 4) 2 27 := ⟨by decide +kernel, rfl⟩
theorem b1_27 : Dc method_3_code 27 (.iload_n 0) 1 28 := ⟨by decide +kernel, rfl⟩
theorem b1_28 : Db method_3_code 28 (.ifCond .ne 5) (5) 31 33 := ⟨by decide +kernel, rfl, by decide, by decide⟩
theorem b1_33 : Dc method_3_code 33 (.iload_n 0) 1 34 := ⟨by decide +kernel, rfl⟩
theorem b1_34 : Dc method_3_code 34 (.iconst 1) 1 35 := ⟨by decide +kernel, rfl⟩
theorem b1_35 : Db method_3_code 35 (.if_icmp .ne 13) (13) 38 48 := ⟨by decide +kernel, rfl, by decide, by decide⟩
theorem b1_48 : Dc method_3_code 48 (.iload_n 0) 1 49 := ⟨by decide +kernel, rfl⟩
theorem b1_49 : Dc method_3_code 49 (.iconst 2) 1 50 := ⟨by decide +kernel, rfl⟩
theorem b1_50 : Db method_3_code 50 (.if_icmp .ne 10) (10) 53 60 := ⟨by decide +kernel, rfl, by decide, by decide⟩
theorem b1_60 : Dc method_3_code 60 (.new 34) 3 63 := ⟨by decide +kernel, rfl⟩
theorem b1_63 : Dc method_3_code 63 (.dup) 1 64 := ⟨by decide +kernel, rfl⟩
theorem b1_64 : Dc method_3_code 64 (.aload_n 3) 1 65 := ⟨by decide +kernel, rfl⟩
theorem b1_65 : Dc method_3_code 65 (.invokespecial 36) 3 68 := ⟨by decide +kernel, rfl⟩
theorem b1_68 : Dc method_3_code 68 (.areturn) 1 69 := ⟨by decide +kernel, rfl⟩
theorem b1_53 : Dc method_3_code 53 (.aload_n 3) 1 54 := ⟨by decide +kernel, rfl⟩
theorem b1_54 : Dc method_3_code 54 (.iconst 0) 1 55 := ⟨by decide +kernel, rfl⟩
theorem b1_55 : Dc method_3_code 55 (.caload) 1 56 := ⟨by decide +kernel, rfl⟩
theorem b1_56 : Dc method_3_code 56 (.invokestatic 39) 3 59 := ⟨by decide +kernel, rfl⟩
theorem b1_59 : Dc method_3_code 59 (.areturn) 1 60 := ⟨by decide +kernel, rfl⟩
theorem b1_38 : Dc method_3_code 38 (.new 34) 3 41 := ⟨by decide +kernel, rfl⟩
theorem b1_41 : Dc method_3_code 41 (.dup) 1 42 := ⟨by decide +kernel, rfl⟩
theorem b1_42 : Dc method_3_code 42 (.aload 4) 2 44 := ⟨by decide +kernel, rfl⟩
theorem b1_44 : Dc method_3_code 44 (.invokespecial 36) 3 47 := ⟨by decide +kernel, rfl⟩
theorem b1_47 : Dc method_3_code 47 (.areturn) 1 48 := ⟨by decide +kernel, rfl⟩
theorem b1_31 : Dc method_3_code 31 (.aconst_null) 1 32 := ⟨by decide +kernel, rfl⟩
theorem b1_32 : Dc method_3_code 32 (.areturn) 1 33 := ⟨by decide +kernel, rfl⟩
theorem L_0 : Dc code 0 (.iload_n 0) 1 1 := ⟨at_0, rfl⟩
theorem L_1 : Dc code 1 (.bipush 7) 2 3 := ⟨at_1, rfl⟩
theorem L_3 : Dc code 3 (.iand) 1 4 := ⟨at_3, rfl⟩
theorem L_4 : Dc code 4 (.istore 5) 2 6 := ⟨at_4, rfl⟩
theorem L_6 : Dc code 6 (.iload 5) 2 8 := ⟨at_6, rfl⟩
theorem L_8 : Dc code 8 (.invokestatic 43) 3 11 := ⟨at_8, rfl⟩
theorem L_11 : Dc code 11 (.astore 6) 2 13 := ⟨at_11, rfl⟩
theorem L_13 : Dc code 13 (.iload 4) 2 15 := ⟨at_13, rfl⟩
theorem L_15 : Dc code 15 (.iconst 3) 1 16 := ⟨at_15, rfl⟩
theorem L_16 : Dc code 16 (.iand) 1 17 := ⟨at_16, rfl⟩
theorem L_17 : Dc code 17 (.iload_n 2) 1 18 := ⟨at_17, rfl⟩
theorem L_18 : Dc code 18 (.iload_n 3) 1 19 := ⟨at_18, rfl⟩
theorem L_19 : Dc code 19 (.invokestatic 49) 3 22 := ⟨at_19, rfl⟩
theorem L_22 : Dc code 22 (.astore 7) 2 24 := ⟨at_22, rfl⟩
theorem L_24 : Dc code 24 (.new 53) 3 27 := ⟨at_24, rfl⟩
theorem L_27 : Dc code 27 (.dup) 1 28 := ⟨at_27, rfl⟩
theorem L_28 : Dc code 28 (.invokespecial 55) 3 31 := ⟨at_28, rfl⟩
theorem L_31 : Dc code 31 (.astore 8) 2 33 := ⟨at_31, rfl⟩
theorem L_33 : Dc code 33 (.new 56) 3 36 := ⟨at_33, rfl⟩
theorem L_36 : Dc code 36 (.dup) 1 37 := ⟨at_36, rfl⟩
theorem L_37 : Dc code 37 (.iload_n 1) 1 38 := ⟨at_37, rfl⟩
theorem L_38 : Dc code 38 (.aload 6) 2 40 := ⟨at_38, rfl⟩
theorem L_40 : Dc code 40 (.aload 7) 2 42 := ⟨at_40, rfl⟩
theorem L_42 : Dc code 42 (.aload 8) 2 44 := ⟨at_42, rfl⟩
theorem L_44 : Dc code 44 (.invokespecial 58) 3 47 := ⟨at_44, rfl⟩
theorem L_47 : Dc code 47 (.astore 9) 2 49 := ⟨at_47, rfl⟩
theorem L_49 : Dc code 49 (.aload 9) 2 51 := ⟨at_49, rfl⟩
theorem L_51 : Dc code 51 (.invokevirtual 61) 3 54 := ⟨at_51, rfl⟩
theorem L_54 : Dc code 54 (.astore 10) 2 56 := ⟨at_54, rfl⟩
theorem L_56 : Dc code 56 (.iload 5) 2 58 := ⟨at_56, rfl⟩
theorem L_58 : Dc code 58 (.iconst 2) 1 59 := ⟨at_58, rfl⟩
theorem L_59 : Db code 59 (.if_icmp .eq 9) (9) 62 68 := ⟨at_59, rfl, by decide, by decide⟩
theorem L_68 : Dc code 68 (.iconst 1) 1 69 := ⟨at_68, rfl⟩
theorem L_69 : Db code 69 (.goto 4) (4) 72 73 := ⟨at_69, rfl, by decide, by decide⟩
theorem L_73 : Dc code 73 (.istore 11) 2 75 := ⟨at_73, rfl⟩
theorem L_75 : Dc code 75 (.iload 11) 2 77 := ⟨at_75, rfl⟩
theorem L_77 : Db code 77 (.ifCond .eq 16) (16) 80 93 := ⟨at_77, rfl, by decide, by decide⟩
theorem L_80 : Dc code 80 (.aload 10) 2 82 := ⟨at_80, rfl⟩
theorem L_82 : Dc code 82 (.aload 7) 2 84 := ⟨at_82, rfl⟩
theorem L_84 : Db code 84 (.if_acmp .ne 7) (7) 87 91 := ⟨at_84, rfl, by decide, by decide⟩
theorem L_87 : Dc code 87 (.iconst 1) 1 88 := ⟨at_87, rfl⟩
theorem L_88 : Db code 88 (.goto 4) (4) 91 92 := ⟨at_88, rfl, by decide, by decide⟩
theorem L_92 : Dc code 92 (.ireturn) 1 93 := ⟨at_92, rfl⟩
theorem L_62 : Dc code 62 (.iload 5) 2 64 := ⟨at_62, rfl⟩
theorem L_64 : Dc code 64 (.iconst 3) 1 65 := ⟨at_64, rfl⟩
theorem L_65 : Db code 65 (.if_icmp .ne 7) (7) 68 72 := ⟨at_65, rfl, by decide, by decide⟩
theorem L_72 : Dc code 72 (.iconst 0) 1 73 := ⟨at_72, rfl⟩
theorem L_93 : Dc code 93 (.aload 10) 2 95 := ⟨at_93, rfl⟩
theorem L_95 : Db code 95 (.ifnonnull 7) (7) 98 102 := ⟨at_95, rfl, by decide, by decide⟩
theorem L_98 : Dc code 98 (.iconst 1) 1 99 := ⟨at_98, rfl⟩
theorem L_99 : Db code 99 (.goto 4) (4) 102 103 := ⟨at_99, rfl, by decide, by decide⟩
theorem L_103 : Dc code 103 (.ireturn) 1 104 := ⟨at_103, rfl⟩
theorem pd0 : parseMethodDescriptor "([CIILjava/lang/Void;)V" = some ⟨[(.array .char), .int, .int, (.object "java/lang/Void")], none⟩ := by decide +kernel
theorem pd1 : parseMethodDescriptor "(C)Z" = some ⟨[.char], some .boolean⟩ := by decide +kernel
theorem pd2 : parseMethodDescriptor "(C)[B" = some ⟨[.char], some (.array .byte)⟩ := by decide +kernel
theorem pd3 : parseMethodDescriptor "([BB)V" = some ⟨[(.array .byte), .byte], none⟩ := by decide +kernel
theorem pd4 : parseMethodDescriptor "()V" = some ⟨[], none⟩ := by decide +kernel
theorem pd5 : parseMethodDescriptor "([C)V" = some ⟨[(.array .char)], none⟩ := by decide +kernel
theorem pd6 : parseMethodDescriptor "(C)Ljava/lang/String;" = some ⟨[.char], some (.object "java/lang/String")⟩ := by decide +kernel
theorem pd7 : parseMethodDescriptor "(I)Lcom/example/glean/glean/concept/Concept$Kind;" = some ⟨[.int], some (.object "com/example/glean/glean/concept/Concept$Kind")⟩ := by decide +kernel
theorem pd8 : parseMethodDescriptor "(III)Ljava/lang/String;" = some ⟨[.int, .int, .int], some (.object "java/lang/String")⟩ := by decide +kernel
theorem pd9 : parseMethodDescriptor "(ILcom/example/glean/glean/concept/Concept$Kind;Ljava/lang/String;Ljava/util/List;)V" = some ⟨[.int, (.object "com/example/glean/glean/concept/Concept$Kind"), (.object "java/lang/String"), (.object "java/util/List")], none⟩ := by decide +kernel
theorem pd10 : parseMethodDescriptor "()Ljava/lang/String;" = some ⟨[], some (.object "java/lang/String")⟩ := by decide +kernel
theorem pn0 : plainName "java/lang/String" = true := by first | (simp [plainName, overriddenIn]; done) | decide +kernel
theorem pn1 : plainName "com/example/glean/glean/concept/ConceptNamePinLaw" = true := by first | (simp [plainName, overriddenIn]; done) | decide +kernel
theorem pn2 : plainName "java/lang/StringLatin1" = true := by first | (simp [plainName, overriddenIn]; done) | decide +kernel
theorem pn3 : plainName "java/util/AbstractCollection" = true := by first | (simp [plainName, overriddenIn]; done) | decide +kernel
theorem pn4 : plainName "java/util/AbstractList" = true := by first | (simp [plainName, overriddenIn]; done) | decide +kernel
theorem pn5 : plainName "java/util/ArrayList" = true := by first | (simp [plainName, overriddenIn]; done) | decide +kernel
theorem pn6 : plainName "com/example/glean/glean/concept/Concept" = true := by first | (simp [plainName, overriddenIn]; done) | decide +kernel
def StrL (Z : State) (h : Heap) (x : Addr) (cs : List Int32) : Prop := ∃ (t : Addr) (kb : ClassId), Exa Z h x "java/lang/String" ∧ Fld Z h x "java/lang/String" "coder" "B" (.int 0) ∧ Fld Z h x "java/lang/String" "value" "[B" (.ref t) ∧ Arv Z h t kb .byte (Int32.ofNat cs.length) ((cs.map StrChars.lo8).map Value.int) (.int 0) ∧ (∀ c ∈ cs, ¬ c < 0 ∧ ¬ (255 : Int32) < c) ∧ cs.length ≤ 4000
theorem StrL.ext {Z : State} {h h' : Heap} {x : Addr} {cs : List Int32} (E : Ext h h') (S : StrL Z h x cs) : StrL Z h' x cs := by
  obtain ⟨t, kb, a, b, c, d, e, f⟩ := S
  exact ⟨t, kb, a.ext E, b.ext E, c.ext E, d.ext E, e, f⟩
theorem StrL.exa {Z : State} {h : Heap} {x : Addr} {cs : List Int32} (S : StrL Z h x cs) : Exa Z h x "java/lang/String" := by obtain ⟨t, kb, a, -⟩ := S; exact a
theorem StrL.up {Z : State} {h : Heap} {x : Addr} {cs : List Int32} (S : StrL Z h x cs) : ∀ c ∈ cs, ¬ c < 0 ∧ ¬ (65535 : Int32) < c := by obtain ⟨t, kb, -, -, -, -, e, -⟩ := S; exact fun c hc => ⟨(e c hc).1, ch_up (e c hc).2⟩

theorem hws_new {Z : State} {a0 : Array Value} (hw : ∀ d ∈ tables_1, d.before a0 Z = true) : ∀ d ∈ StrChars.Road.words, d.before a0 Z = true := fun d hd => hw d ((by decide +kernel : ∀ d ∈ StrChars.Road.words, d ∈ tables_1) d hd)

theorem hsA {Z : State} {a0 : Array Value} (hw : ∀ d ∈ tables_1, d.before a0 Z = true) : ∀ d ∈ Bundle.stringAtoms, d.before a0 Z = true := fun d hd => hw d ((by decide +kernel : ∀ d ∈ Bundle.stringAtoms, d ∈ tables_1) d hd)

theorem cal_strN {md : Option EList} {p : Program} {l : Launch} {e : Env} {R : Room} {args : Array Value} {below : List Frame} {W : Nat} {Z : State} {a0 : Array Value} {h : Heap} {n0 : Nat} (hw : ∀ d ∈ tables_1, d.before a0 Z = true) {x b : Addr} {kC : ClassId} {cs : List Int32} {d v0 c0 : Value} {z : Int32} (n : Nat)
    (hx0 : n0 ≤ x) (hh0 : n0 ≤ h.size) (E : Exa Z h x "java/lang/String") (V : Fld Z h x "java/lang/String" "value" "[B" v0) (C : Fld Z h x "java/lang/String" "coder" "B" c0) (K : Arv Z h b kC .char (Int32.ofNat n) (cs.map Value.int) d) (S : Sta Z h "java/lang/String" "COMPACT_STRINGS" "Z" (.int z)) (hz : ¬ z = 0)
    (hn : cs.length = n) (l0 : 0 < n) (l2 : n ≤ 4000) (hp : ∀ c ∈ cs, ¬ c < 0 ∧ ¬ (255 : Int32) < c) (hfr : 4 ≤ R.frames) (hlo : W + 65 ≤ R.locals) :
    Cal md l R p e below args (⟨"java/lang/String", "<init>", "([C)V"⟩ : MethodName) 3 W Z n0 h [x] #[.ref x, .ref b] 1 n (fun v h' => v = none ∧ StrL Z h' x cs) :=
  Cal.ofBack (fun s' hZ => StrChars.Road.backV (W := W) hZ (hws_new hw) (kI := 4) (hw _ (List.mem_of_getElem? (i := 63) rfl)) (cs := cs) (bs := cs.map fun c => c.toInt8.toInt32) (n := n) (n0 := n0) hx0 hh0 E V C K S hz hn rfl l0 l2 hp rfl hfr hlo)
    (fun v h' L q => by
      obtain ⟨q1, q2, q3, q4, q5, t, kb, q6, q7, q8, q9, q10⟩ := q
      subst hn
      exact ⟨⟨q1, t, kb, q4, q5, q9, q10, hp, l2⟩, q3, q2⟩)

set_option maxRecDepth 65536 in
set_option maxHeartbeats 40000000 in
theorem c_initE4 (l : Launch) (Z : State) (a0 : Array Value) (hw : ∀ d ∈ tables_1, d.before a0 Z = true) (h0 : Heap) (n0 : Nat) (Z0 : n0 ≤ h0.size) (x b : Addr) (v1 v2 : Value) (gx : n0 ≤ x) (Ex : Exa Z h0 x "java/lang/String") (F1 : Fld Z h0 x "java/lang/String" "value" "[B" v1) (F2 : Fld Z h0 x "java/lang/String" "coder" "B" v2) (hE : EW Z a0 [("java/lang/String", 7)]) :
    Con (some [("java/lang/String", 7)]) l (⟨"java/lang/String", "<init>", "([CIILjava/lang/Void;)V"⟩ : MethodName) jdk_42_method_149_code 6 none [] ({ frames := 1, cells := 4, slots := 8, locals := 12 } : Room) Z n0 h0 [x] #[(.ref x), (.ref b), (.int (0 : Int32)), (.int (0 : Int32)), .null] (fun v h => v = none ∧ StrL Z h x []) := by
  refine Con.intro pn0 Z0 (allS ⟨gx, Ex.lt⟩ all0) ⟨a0, hE⟩ #[.val (.ref x), .val (.ref b), .val (.int (0 : Int32)), .val (.int (0 : Int32)), .val .null, .unset] (fun m => by first | (simp [entryFrame, mkF, argsToLocals, Value.category]; done) | rfl) ?_
  intro p e s m below meth c T0 hlk hret hnm K0
  have P0 := Keep.refl h0 [x]
  refine gAloadN K0 b9_0 (v := (.ref x)) rfl rfl ?_
  refine gInitO K0 b9_1 (hw _ (List.mem_of_getElem? (i := 72) rfl)) (hw _ (List.mem_of_getElem? (i := 30) rfl)) (hw _ (List.mem_of_getElem? (i := 31) rfl)) rfl (by decide) (W := 0) (Nat.le_of_eq rfl) (by decide) (fun T101 K101 => ?_)
  refine gIloadN K101 b9_4 (v := (0 : Int32)) rfl ?_
  refine gIf_ne K101 b9_5 (fun q => absurd q (by first | decide | (intro hh; cases hh) | simp)) (fun q5 => ?_)
  refine gAloadN K101 b9_8 (v := (.ref x)) rfl rfl ?_
  refine gLdc K101 b9_9 (hw _ (List.mem_of_getElem? (i := 89) rfl)) (hsA hw) (by decide) (vs := []) (z := 0) (by decide) (by decide) (by decide) 0 (by decide) (by decide) (by decide) (by decide) (fun T102 h102 a102 b102 kA102 K102 E102 Ea102 Fc102 Fv102 Ab102 ne102 => ?_)
  have P103 := P0.ext E102
  refine gGet K102 b9_11 (hw _ (List.mem_of_getElem? (i := 87) rfl)) Fv102 (fun T104 K104 => ?_)
  refine gPut K104 b9_14 (hw _ (List.mem_of_getElem? (i := 87) rfl)) (List.mem_of_getElem? (i := 0) rfl) (F1.ext E102) (Ex.ext E102) (Or.inr ⟨(hw _ (List.mem_of_getElem? (i := 88) rfl)), rfl, hnm⟩) (hw _ (List.mem_of_getElem? (i := 63) rfl)) (ty := (.array .byte)) (by decide) rfl rfl (fun T105 h105 K105 W105 F105 => ?_)
  have P106 := P103.trans (Keep.of_wr W105) (fun z q => by cases List.mem_singleton.mp q; exact Or.inl (List.mem_of_getElem? (i := 0) rfl))
  have F107 := Fld.other W105 (F2.ext E102) (Or.inr (slot_ne (C := "java/lang/String") (a0 := a0) (Or.inr (hw _ (List.mem_of_getElem? (i := 86) rfl))) (Or.inr (hw _ (List.mem_of_getElem? (i := 88) rfl))) (by decide) (by decide : parseFieldDescriptor _ = some .byte) (by decide : parseFieldDescriptor _ = some (.array .byte))))
  have A108 := Exa.wr W105 (Ex.ext E102)
  refine gAloadN K105 b9_17 (v := (.ref x)) rfl rfl ?_
  refine gLdc K105 b9_18 (hw _ (List.mem_of_getElem? (i := 89) rfl)) (hsA hw) (by decide) (vs := []) (z := 0) (by decide) (by decide) (by decide) 0 (by decide) (by decide) (by decide) (by decide) (fun T109 h109 a109 b109 kA109 K109 E109 Ea109 Fc109 Fv109 Ab109 ne109 => ?_)
  have P110 := P106.ext E109
  refine gGet K109 b9_20 (hw _ (List.mem_of_getElem? (i := 85) rfl)) Fc109 (fun T111 K111 => ?_)
  refine gPut K111 b9_23 (hw _ (List.mem_of_getElem? (i := 85) rfl)) (List.mem_of_getElem? (i := 0) rfl) (F107.ext E109) (A108.ext E109) (Or.inr ⟨(hw _ (List.mem_of_getElem? (i := 86) rfl)), rfl, hnm⟩) (hw _ (List.mem_of_getElem? (i := 63) rfl)) (ty := .byte) (by decide) rfl rfl (fun T112 h112 K112 W112 F112 => ?_)
  have P113 := P110.trans (Keep.of_wr W112) (fun z q => by cases List.mem_singleton.mp q; exact Or.inl (List.mem_of_getElem? (i := 0) rfl))
  have F114 := Fld.other W112 (F105.ext E109) (Or.inr (slot_ne (C := "java/lang/String") (a0 := a0) (Or.inr (hw _ (List.mem_of_getElem? (i := 88) rfl))) (Or.inr (hw _ (List.mem_of_getElem? (i := 86) rfl))) (by decide) (by decide : parseFieldDescriptor _ = some (.array .byte)) (by decide : parseFieldDescriptor _ = some .byte)))
  have A115 := Exa.wr W112 (A108.ext E109)
  refine gRetV K112 hlk hret b9_26 P113 (by decide) (by decide) ?_
  exact ⟨rfl, b102, _, A115, F112, F114, (((Ab102.keep (Keep.of_wr W105) (ninS (ne102 x (List.mem_of_getElem? (i := 0) rfl)).2.symm nin0)).ext E109).keep (Keep.of_wr W112) (ninS (ne102 x (List.mem_of_getElem? (i := 0) rfl)).2.symm nin0)), (fun _ q => nomatch q), by decide⟩
set_option maxRecDepth 65536 in
set_option maxHeartbeats 40000000 in
theorem c_initE1 (l : Launch) (Z : State) (a0 : Array Value) (hw : ∀ d ∈ tables_1, d.before a0 Z = true) (h0 : Heap) (n0 : Nat) (Z0 : n0 ≤ h0.size) (x b : Addr) (kC : ClassId) (vs : List Value) (dv : Value) (v1 v2 : Value) (gx : n0 ≤ x) (Ex : Exa Z h0 x "java/lang/String") (F1 : Fld Z h0 x "java/lang/String" "value" "[B" v1) (F2 : Fld Z h0 x "java/lang/String" "coder" "B" v2) (Ab : Arv Z h0 b kC .char 0 vs dv) (hE : EW Z a0 [("java/lang/String", 7)]) :
    Con (some [("java/lang/String", 7)]) l (⟨"java/lang/String", "<init>", "([C)V"⟩ : MethodName) jdk_42_method_3_code 2 none [] ({ frames := 2, cells := 4, slots := 8, locals := 29 } : Room) Z n0 h0 [x] #[(.ref x), (.ref b)] (fun v h => v = none ∧ StrL Z h x []) := by
  refine Con.intro pn0 Z0 (allS ⟨gx, Ex.lt⟩ all0) ⟨a0, hE⟩ #[.val (.ref x), .val (.ref b)] (fun m => by first | (simp [entryFrame, mkF, argsToLocals, Value.category]; done) | rfl) ?_
  intro p e s m below meth c T0 hlk hret hnm K0
  have P0 := Keep.refl h0 [x]
  refine gAloadN K0 b8_0 (v := (.ref x)) rfl rfl ?_
  refine gAloadN K0 b8_1 (v := (.ref b)) rfl rfl ?_
  refine gIconst K0 (0 : Int32) b8_2 rfl ?_
  refine gAloadN K0 b8_3 (v := (.ref b)) rfl rfl ?_
  refine gLen K0 b8_4 Ab ?_
  refine gNull K0 b8_5 ?_
  refine gCallI K0 (W := 0) x [(.ref b), (.int (0 : Int32)), (.int (0 : Int32)), .null] [] b8_6 rfl (hw _ (List.mem_of_getElem? (i := 68) rfl)) (hw _ (List.mem_of_getElem? (i := 69) rfl)) (hw _ (List.mem_of_getElem? (i := 71) rfl)) (Cal.ofW (W := 0) (c_initE4 l Z a0 hw h0 n0 K0.n0le x b v1 v2 gx Ex F1 F2 hE) (hw _ (List.mem_of_getElem? (i := 71) rfl)) (hw _ (List.mem_of_getElem? (i := 64) rfl)) (by decide) (by decide)) (fun z q => by cases List.mem_singleton.mp q; exact (List.mem_of_getElem? (i := 0) rfl)) pd0 rfl rfl (Nat.le_of_eq rfl) rfl (by decide) (by decide) (by decide) (fun v101 T101 h101 K101 Q101 q101 => ?_)
  have P102 := P0.trans Q101 (fun z q => by cases List.mem_singleton.mp q; exact Or.inl (List.mem_of_getElem? (i := 0) rfl))
  obtain ⟨rfl, St101⟩ := q101
  refine gRetV K101 hlk hret b8_9 P102 (by decide) (by decide) ?_
  exact ⟨rfl, St101⟩
theorem cal_str {p : Program} {l : Launch} {e : Env} {R : Room} {args : Array Value} {below : List Frame} {W : Nat} {Z : State} {a0 : Array Value} {h : Heap} {n0 : Nat} (hw : ∀ d ∈ tables_1, d.before a0 Z = true) (hE : EW Z a0 [("java/lang/String", 7)]) {x b : Addr} {kC : ClassId} {cs : List Int32} {d v0 c0 : Value} {z : Int32} (n : Nat)
    (hx0 : n0 ≤ x) (hh0 : n0 ≤ h.size) (E : Exa Z h x "java/lang/String") (V : Fld Z h x "java/lang/String" "value" "[B" v0) (C : Fld Z h x "java/lang/String" "coder" "B" c0) (K : Arv Z h b kC .char (Int32.ofNat n) (cs.map Value.int) d) (S : Sta Z h "java/lang/String" "COMPACT_STRINGS" "Z" (.int z)) (hz : ¬ z = 0)
    (hn : cs.length = n) (l2 : n ≤ 4000) (hp : ∀ c ∈ cs, ¬ c < 0 ∧ ¬ (255 : Int32) < c) (hfr : 4 ≤ R.frames) (hlo : W + 65 ≤ R.locals) (ks : Nat) (hk1 : n ≤ ks) (hk2 : 8 ≤ ks) :
    Cal (some [("java/lang/String", 7)]) l R p e below args (⟨"java/lang/String", "<init>", "([C)V"⟩ : MethodName) 3 W Z n0 h [x] #[.ref x, .ref b] 4 ks (fun v h' => v = none ∧ StrL Z h' x cs) := by
  by_cases h0 : n = 0
  · subst h0
    obtain rfl : cs = [] := List.length_eq_zero_iff.mp hn
    exact Cal.mono (Cal.ofW (W := W) (c_initE1 l Z a0 hw h n0 hh0 x b kC _ d v0 c0 hx0 E V C K hE) (hw _ (List.mem_of_getElem? (i := 67) rfl)) (hw _ (List.mem_of_getElem? (i := 64) rfl)) (Nat.le_trans (by decide) hfr) (Nat.le_trans (show W + (2 + 11) + 29 ≤ W + 65 by omega) hlo)) (by decide) hk2 (fun _ _ q => q)
  · exact Cal.mono (cal_strN hw n hx0 hh0 E V C K S hz hn (Nat.pos_of_ne_zero h0) l2 hp hfr hlo) (by decide) hk1 (fun _ _ q => q)

def KS (Z : State) (h : Heap) (w : Nat → Addr) : Prop := Sta Z h "com/example/glean/glean/concept/Concept$Kind" "TOP" "Lcom/example/glean/glean/concept/Concept$Kind;" (.ref (w 0)) ∧ Sta Z h "com/example/glean/glean/concept/Concept$Kind" "BOTTOM" "Lcom/example/glean/glean/concept/Concept$Kind;" (.ref (w 1)) ∧ Sta Z h "com/example/glean/glean/concept/Concept$Kind" "NAME" "Lcom/example/glean/glean/concept/Concept$Kind;" (.ref (w 2)) ∧ Sta Z h "com/example/glean/glean/concept/Concept$Kind" "NEGATED_NAME" "Lcom/example/glean/glean/concept/Concept$Kind;" (.ref (w 3)) ∧ Sta Z h "com/example/glean/glean/concept/Concept$Kind" "AND" "Lcom/example/glean/glean/concept/Concept$Kind;" (.ref (w 4)) ∧ Sta Z h "com/example/glean/glean/concept/Concept$Kind" "OR" "Lcom/example/glean/glean/concept/Concept$Kind;" (.ref (w 5)) ∧ Sta Z h "com/example/glean/glean/concept/Concept$Kind" "SOME" "Lcom/example/glean/glean/concept/Concept$Kind;" (.ref (w 6)) ∧ Sta Z h "com/example/glean/glean/concept/Concept$Kind" "ALL" "Lcom/example/glean/glean/concept/Concept$Kind;" (.ref (w 7))
theorem KS.ext {Z : State} {h h' : Heap} {w : Nat → Addr} (E : Ext h h') (k : KS Z h w) : KS Z h' w := by
  obtain ⟨k0, k1, k2, k3, k4, k5, k6, k7⟩ := k
  exact ⟨k0.ext E, k1.ext E, k2.ext E, k3.ext E, k4.ext E, k5.ext E, k6.ext E, k7.ext E⟩
set_option maxRecDepth 65536 in
set_option maxHeartbeats 40000000 in
theorem c_kindOf (l : Launch) (Z : State) (a0 : Array Value) (hw : ∀ d ∈ tables_1, d.before a0 Z = true) (h0 : Heap) (n0 : Nat) (Z0 : n0 ≤ h0.size) (k : Int32) (hk : ¬ k < 0 ∧ ¬ (7 : Int32) < k) (w : Nat → Addr) (SK : KS Z h0 w) :
    Con none l (⟨"com/example/glean/glean/concept/ConceptNamePinLaw", "kindOf", "(I)Lcom/example/glean/glean/concept/Concept$Kind;"⟩ : MethodName) method_2_code 1 (some (.object "com/example/glean/glean/concept/Concept$Kind")) [] ({ frames := 0, cells := 0, slots := 0, locals := 0 } : Room) Z n0 h0 [] #[(.int k)] (fun v h => v = some (.ref (w k.toNatClampNeg)) ∧ h = h0) := by
  refine Con.intro pn1 Z0 (fun _ q => nomatch q) trivial #[.val (.int k)] (fun m => by first | (simp [entryFrame, mkF, argsToLocals, Value.category]; done) | rfl) ?_
  intro p e s m below meth c T0 hlk hret hnm K0
  have P0 := Keep.refl h0 []
  refine gIloadN K0 b0_0 (v := k) rfl ?_
  refine gIf_ne K0 b0_1 (fun q1 => ?_) (fun q1 => ?_)
  · skip
    refine gIloadN K0 b0_8 (v := k) rfl ?_
    refine gIconst K0 (1 : Int32) b0_9 rfl ?_
    refine gIcmp_ne K0 b0_10 (fun q10 => ?_) (fun q10 => ?_)
    · skip
      refine gIloadN K0 b0_17 (v := k) rfl ?_
      refine gIconst K0 (2 : Int32) b0_18 rfl ?_
      refine gIcmp_ne K0 b0_19 (fun q19 => ?_) (fun q19 => ?_)
      · skip
        refine gIloadN K0 b0_26 (v := k) rfl ?_
        refine gIconst K0 (3 : Int32) b0_27 rfl ?_
        refine gIcmp_ne K0 b0_28 (fun q28 => ?_) (fun q28 => ?_)
        · skip
          refine gIloadN K0 b0_35 (v := k) rfl ?_
          refine gIconst K0 (4 : Int32) b0_36 rfl ?_
          refine gIcmp_ne K0 b0_37 (fun q37 => ?_) (fun q37 => ?_)
          · skip
            refine gIloadN K0 b0_44 (v := k) rfl ?_
            refine gIconst K0 (5 : Int32) b0_45 rfl ?_
            refine gIcmp_ne K0 b0_46 (fun q46 => ?_) (fun q46 => ?_)
            · skip
              refine gIloadN K0 b0_53 (v := k) rfl ?_
              refine gBipush K0 (6 : Int32) b0_54 rfl ?_
              refine gIcmp_ne K0 b0_56 (fun q56 => ?_) (fun q56 => ?_)
              · skip
                refine gGetS K0 b0_63 (hw _ (List.mem_of_getElem? (i := 92) rfl)) SK.2.2.2.2.2.2.2 (fun T101 K101 => ?_)
                refine gRetA K101 hlk hret rfl rfl b0_66 P0 (by decide) (by decide) ?_
                have e7 : k = 7 := by
                  apply i_eq
                  have a1 := i_nlt hk.1
                  have a2 := i_nlt hk.2
                  have b1 := i_ne q1
                  have b10 := i_ne q10
                  have b19 := i_ne q19
                  have b28 := i_ne q28
                  have b37 := i_ne q37
                  have b46 := i_ne q46
                  have b56 := i_ne q56
                  have e0 : (0 : Int32).toInt = 0 := by decide
                  have e1 : (1 : Int32).toInt = 1 := by decide
                  have e2 : (2 : Int32).toInt = 2 := by decide
                  have e3 : (3 : Int32).toInt = 3 := by decide
                  have e4 : (4 : Int32).toInt = 4 := by decide
                  have e5 : (5 : Int32).toInt = 5 := by decide
                  have e6 : (6 : Int32).toInt = 6 := by decide
                  have e7 : (7 : Int32).toInt = 7 := by decide
                  omega
                exact ⟨by rw [e7]; rfl, rfl⟩
              · skip
                refine gGetS K0 b0_59 (hw _ (List.mem_of_getElem? (i := 95) rfl)) SK.2.2.2.2.2.2.1 (fun T102 K102 => ?_)
                refine gRetA K102 hlk hret rfl rfl b0_62 P0 (by decide) (by decide) ?_
                exact ⟨by rw [q56]; rfl, rfl⟩
            · skip
              refine gGetS K0 b0_49 (hw _ (List.mem_of_getElem? (i := 97) rfl)) SK.2.2.2.2.2.1 (fun T103 K103 => ?_)
              refine gRetA K103 hlk hret rfl rfl b0_52 P0 (by decide) (by decide) ?_
              exact ⟨by rw [q46]; rfl, rfl⟩
          · skip
            refine gGetS K0 b0_40 (hw _ (List.mem_of_getElem? (i := 99) rfl)) SK.2.2.2.2.1 (fun T104 K104 => ?_)
            refine gRetA K104 hlk hret rfl rfl b0_43 P0 (by decide) (by decide) ?_
            exact ⟨by rw [q37]; rfl, rfl⟩
        · skip
          refine gGetS K0 b0_31 (hw _ (List.mem_of_getElem? (i := 61) rfl)) SK.2.2.2.1 (fun T105 K105 => ?_)
          refine gRetA K105 hlk hret rfl rfl b0_34 P0 (by decide) (by decide) ?_
          exact ⟨by rw [q28]; rfl, rfl⟩
      · skip
        refine gGetS K0 b0_22 (hw _ (List.mem_of_getElem? (i := 94) rfl)) SK.2.2.1 (fun T106 K106 => ?_)
        refine gRetA K106 hlk hret rfl rfl b0_25 P0 (by decide) (by decide) ?_
        exact ⟨by rw [q19]; rfl, rfl⟩
    · skip
      refine gGetS K0 b0_13 (hw _ (List.mem_of_getElem? (i := 101) rfl)) SK.2.1 (fun T107 K107 => ?_)
      refine gRetA K107 hlk hret rfl rfl b0_16 P0 (by decide) (by decide) ?_
      exact ⟨by rw [q10]; rfl, rfl⟩
  · skip
    refine gGetS K0 b0_4 (hw _ (List.mem_of_getElem? (i := 4) rfl)) SK.1 (fun T108 K108 => ?_)
    refine gRetA K108 hlk hret rfl rfl b0_7 P0 (by decide) (by decide) ?_
    exact ⟨by rw [q1]; rfl, rfl⟩
set_option maxRecDepth 65536 in
set_option maxHeartbeats 40000000 in
theorem c_canEncode (l : Launch) (Z : State) (a0 : Array Value) (hw : ∀ d ∈ tables_1, d.before a0 Z = true) (h0 : Heap) (n0 : Nat) (Z0 : n0 ≤ h0.size) (c0 : Int32) (hc : ¬ (255 : Int32) < c0) :
    Con none l (⟨"java/lang/StringLatin1", "canEncode", "(C)Z"⟩ : MethodName) jdk_43_method_3_code 1 (some .boolean) [] ({ frames := 0, cells := 0, slots := 0, locals := 0 } : Room) Z n0 h0 [] #[(.int c0)] (fun v h => v = some (.int 1) ∧ h = h0) := by
  refine Con.intro pn2 Z0 (fun _ q => nomatch q) trivial #[.val (.int c0)] (fun m => by first | (simp [entryFrame, mkF, argsToLocals, Value.category]; done) | rfl) ?_
  intro p e s m below meth c T0 hlk hret hnm K0
  have P0 := Keep.refl h0 []
  refine gIloadN K0 b14_0 (v := c0) rfl ?_
  refine gSipush K0 (255 : Int32) b14_1 rfl ?_
  refine gIcmp_gt K0 b14_4 (fun q => absurd q hc) (fun q4 => ?_)
  refine gIconst K0 (1 : Int32) b14_7 rfl ?_
  refine gGoto K0 b14_8 ?_
  refine gRetI K0 hlk hret (by simp) b14_12 rfl P0 (by decide) (by decide) ?_
  exact ⟨rfl, rfl⟩
set_option maxRecDepth 65536 in
set_option maxHeartbeats 40000000 in
theorem c_toBytes (l : Launch) (Z : State) (a0 : Array Value) (hw : ∀ d ∈ tables_1, d.before a0 Z = true) (h0 : Heap) (n0 : Nat) (Z0 : n0 ≤ h0.size) (c0 : Int32) :
    Con none l (⟨"java/lang/StringLatin1", "toBytes", "(C)[B"⟩ : MethodName) jdk_43_method_46_code 1 (some (.array .byte)) [] ({ frames := 0, cells := 1, slots := 1, locals := 0 } : Room) Z n0 h0 [] #[(.int c0)] (fun v h => ∃ (b : Addr) (kA : ClassId), v = some (.ref b) ∧ h0.size ≤ b ∧ Arv Z h b kA .byte 1 [.int (nar .byte c0.toInt8.toInt32)] (.int 0)) := by
  refine Con.intro pn2 Z0 (fun _ q => nomatch q) trivial #[.val (.int c0)] (fun m => by first | (simp [entryFrame, mkF, argsToLocals, Value.category]; done) | rfl) ?_
  intro p e s m below meth c T0 hlk hret hnm K0
  have P0 := Keep.refl h0 []
  refine gIconst K0 (1 : Int32) b15_0 rfl ?_
  refine gNewarr K0 b15_1 (hw _ (List.mem_of_getElem? (i := 78) rfl)) (by decide) 1 (by decide) (by decide) (by decide) (by decide) (fun T101 h101 x101 kA101 K101 E101 g101 A101 ne101 => ?_)
  have P102 := P0.ext E101
  have ge_x101 : h0.size ≤ x101 := by rw [g101]; exact P0.1
  refine gDup K101 b15_3 rfl ?_
  refine gIconst K101 (0 : Int32) b15_4 rfl ?_
  refine gIloadN K101 b15_5 (v := c0) rfl ?_
  refine gI2b K101 b15_6 ?_
  refine gBastore K101 b15_7 (List.mem_of_getElem? (i := 0) rfl) A101 rfl (by decide) (fun T103 h103 K103 Q103 A103 => ?_)
  have P104 := P102.trans Q103 (fun z q => by cases List.mem_singleton.mp q; exact Or.inr ge_x101)
  refine gRetA K103 hlk hret rfl rfl b15_8 P104 (by decide) (by decide) ?_
  exact ⟨_, _, rfl, ge_x101, A103⟩
set_option maxRecDepth 65536 in
set_option maxHeartbeats 40000000 in
theorem c_initBB (l : Launch) (Z : State) (a0 : Array Value) (hw : ∀ d ∈ tables_1, d.before a0 Z = true) (h0 : Heap) (n0 : Nat) (Z0 : n0 ≤ h0.size) (x b : Addr) (cd : Int32) (v1 v2 : Value) (hcd : narrow .byte (.int cd) = .int cd ∧ fits .byte (.int cd) = true) (gx : n0 ≤ x) (Ex : Exa Z h0 x "java/lang/String") (F1 : Fld Z h0 x "java/lang/String" "value" "[B" v1) (F2 : Fld Z h0 x "java/lang/String" "coder" "B" v2) :
    Con none l (⟨"java/lang/String", "<init>", "([BB)V"⟩ : MethodName) jdk_42_method_151_code 3 none [] ({ frames := 1, cells := 0, slots := 0, locals := 12 } : Room) Z n0 h0 [x] #[(.ref x), (.ref b), (.int cd)] (fun v h => v = none ∧ Exa Z h x "java/lang/String" ∧ Fld Z h x "java/lang/String" "value" "[B" (.ref b) ∧ Fld Z h x "java/lang/String" "coder" "B" (.int cd)) := by
  refine Con.intro pn0 Z0 (allS ⟨gx, Ex.lt⟩ all0) trivial #[.val (.ref x), .val (.ref b), .val (.int cd)] (fun m => by first | (simp [entryFrame, mkF, argsToLocals, Value.category]; done) | rfl) ?_
  intro p e s m below meth c T0 hlk hret hnm K0
  have P0 := Keep.refl h0 [x]
  refine gAloadN K0 b16_0 (v := (.ref x)) rfl rfl ?_
  refine gInitO K0 b16_1 (hw _ (List.mem_of_getElem? (i := 72) rfl)) (hw _ (List.mem_of_getElem? (i := 30) rfl)) (hw _ (List.mem_of_getElem? (i := 31) rfl)) rfl (by decide) (W := 0) (Nat.le_of_eq rfl) (by decide) (fun T101 K101 => ?_)
  refine gAloadN K101 b16_4 (v := (.ref x)) rfl rfl ?_
  refine gAloadN K101 b16_5 (v := (.ref b)) rfl rfl ?_
  refine gPut K101 b16_6 (hw _ (List.mem_of_getElem? (i := 87) rfl)) (List.mem_of_getElem? (i := 0) rfl) F1 Ex (Or.inr ⟨(hw _ (List.mem_of_getElem? (i := 88) rfl)), rfl, hnm⟩) (hw _ (List.mem_of_getElem? (i := 63) rfl)) (ty := (.array .byte)) (by decide) rfl rfl (fun T102 h102 K102 W102 F102 => ?_)
  have P103 := P0.trans (Keep.of_wr W102) (fun z q => by cases List.mem_singleton.mp q; exact Or.inl (List.mem_of_getElem? (i := 0) rfl))
  have F104 := Fld.other W102 F2 (Or.inr (slot_ne (C := "java/lang/String") (a0 := a0) (Or.inr (hw _ (List.mem_of_getElem? (i := 86) rfl))) (Or.inr (hw _ (List.mem_of_getElem? (i := 88) rfl))) (by decide) (by decide : parseFieldDescriptor _ = some .byte) (by decide : parseFieldDescriptor _ = some (.array .byte))))
  have A105 := Exa.wr W102 Ex
  refine gAloadN K102 b16_9 (v := (.ref x)) rfl rfl ?_
  refine gIloadN K102 b16_10 (v := cd) rfl ?_
  refine gPut K102 b16_11 (hw _ (List.mem_of_getElem? (i := 85) rfl)) (List.mem_of_getElem? (i := 0) rfl) F104 A105 (Or.inr ⟨(hw _ (List.mem_of_getElem? (i := 86) rfl)), rfl, hnm⟩) (hw _ (List.mem_of_getElem? (i := 63) rfl)) (ty := .byte) (by decide) hcd.1 hcd.2 (fun T106 h106 K106 W106 F106 => ?_)
  have P107 := P103.trans (Keep.of_wr W106) (fun z q => by cases List.mem_singleton.mp q; exact Or.inl (List.mem_of_getElem? (i := 0) rfl))
  have F108 := Fld.other W106 F102 (Or.inr (slot_ne (C := "java/lang/String") (a0 := a0) (Or.inr (hw _ (List.mem_of_getElem? (i := 88) rfl))) (Or.inr (hw _ (List.mem_of_getElem? (i := 86) rfl))) (by decide) (by decide : parseFieldDescriptor _ = some (.array .byte)) (by decide : parseFieldDescriptor _ = some .byte)))
  have A109 := Exa.wr W106 A105
  refine gRetV K106 hlk hret b16_14 P107 (by decide) (by decide) ?_
  exact ⟨rfl, A109, F108, F106⟩
set_option maxRecDepth 65536 in
set_option maxHeartbeats 40000000 in
theorem c_valueOf (l : Launch) (Z : State) (a0 : Array Value) (hw : ∀ d ∈ tables_1, d.before a0 Z = true) (h0 : Heap) (n0 : Nat) (Z0 : n0 ≤ h0.size) (c0 z : Int32) (hc : ¬ c0 < 0 ∧ ¬ (255 : Int32) < c0) (Sc : Sta Z h0 "java/lang/String" "COMPACT_STRINGS" "Z" (.int z)) (hz : ¬ z = 0) :
    Con none l (⟨"java/lang/String", "valueOf", "(C)Ljava/lang/String;"⟩ : MethodName) jdk_42_method_139_code 1 (some (.object "java/lang/String")) [] ({ frames := 3, cells := 2, slots := 5, locals := 45 } : Room) Z n0 h0 [] #[(.int c0)] (fun v h => ∃ x : Addr, v = some (.ref x) ∧ h0.size ≤ x ∧ Exa Z h x "java/lang/String") := by
  refine Con.intro pn0 Z0 (fun _ q => nomatch q) trivial #[.val (.int c0)] (fun m => by first | (simp [entryFrame, mkF, argsToLocals, Value.category]; done) | rfl) ?_
  intro p e s m below meth c T0 hlk hret hnm K0
  have P0 := Keep.refl h0 []
  refine gGetS K0 b13_0 (hw _ (List.mem_of_getElem? (i := 73) rfl)) Sc (fun T101 K101 => ?_)
  refine gIf_eq K101 b13_3 (fun q => absurd q hz) (fun q3 => ?_)
  refine gIloadN K101 b13_6 (v := c0) rfl ?_
  refine gCallS K101 (W := 0) [(.int c0)] [] b13_7 (hw _ (List.mem_of_getElem? (i := 106) rfl)) (hw _ (List.mem_of_getElem? (i := 107) rfl)) (hw _ (List.mem_of_getElem? (i := 108) rfl)) (hw _ (List.mem_of_getElem? (i := 109) rfl)) (Cal.ofN (W := 0) (c_canEncode l Z a0 hw h0 n0 K101.n0le c0 hc.2) (hw _ (List.mem_of_getElem? (i := 109) rfl)) (hw _ (List.mem_of_getElem? (i := 108) rfl)) (by decide) (by decide)) (fun _ q => nomatch q) pd1 rfl rfl (Nat.le_of_eq rfl) rfl (by decide) (by decide) (by decide) (fun v102 T102 h102 K102 Q102 q102 => ?_)
  have E102 := Ext.of0 Q102
  have P103 := P0.ext E102
  obtain ⟨rfl, e102⟩ := q102
  refine gIf_eq K102 b13_10 (fun q => absurd q (by first | decide | (intro hh; cases hh) | simp)) (fun q10 => ?_)
  refine gNew K102 b13_13 (hw _ (List.mem_of_getElem? (i := 110) rfl)) (hw _ (List.mem_of_getElem? (i := 63) rfl)) (hw _ (List.mem_of_getElem? (i := 64) rfl)) (by decide) (by decide) (fun T104 h104 x104 K104 E104 g104 A104 D104 ne104 => ?_)
  have P105 := P103.ext E104
  have ge_x104 : h0.size ≤ x104 := by rw [g104]; exact P103.1
  have F106 : Fld Z h104 x104 "java/lang/String" "value" "[B" .null := (D104 (Or.inr (hw _ (List.mem_of_getElem? (i := 88) rfl))) (ty := (.array .byte)) (by decide))
  have F107 : Fld Z h104 x104 "java/lang/String" "coder" "B" (.int (0 : Int32)) := (D104 (Or.inr (hw _ (List.mem_of_getElem? (i := 86) rfl))) (ty := .byte) (by decide))
  refine gDup K104 b13_16 rfl ?_
  refine gIloadN K104 b13_17 (v := c0) rfl ?_
  refine gCallS K104 (W := 2) [(.int c0)] [(.ref x104), (.ref x104)] b13_18 (hw _ (List.mem_of_getElem? (i := 111) rfl)) (hw _ (List.mem_of_getElem? (i := 112) rfl)) (hw _ (List.mem_of_getElem? (i := 108) rfl)) (hw _ (List.mem_of_getElem? (i := 113) rfl)) (Cal.ofN (W := 2) (c_toBytes l Z a0 hw h104 n0 K104.n0le c0) (hw _ (List.mem_of_getElem? (i := 113) rfl)) (hw _ (List.mem_of_getElem? (i := 108) rfl)) (by decide) (by decide)) (fun _ q => nomatch q) pd2 rfl rfl (Nat.le_of_eq rfl) rfl (by decide) (by decide) (by decide) (fun v108 T108 h108 K108 Q108 q108 => ?_)
  have E108 := Ext.of0 Q108
  have P109 := P105.ext E108
  obtain ⟨b108, kb108, rfl, gb108, Ab108⟩ := q108
  refine gIconst K108 (0 : Int32) b13_21 rfl ?_
  refine gCallI K108 (W := 1) x104 [(.ref b108), (.int (0 : Int32))] [(.ref x104)] b13_22 rfl (hw _ (List.mem_of_getElem? (i := 114) rfl)) (hw _ (List.mem_of_getElem? (i := 115) rfl)) (hw _ (List.mem_of_getElem? (i := 116) rfl)) (Cal.ofN (W := 1) (c_initBB l Z a0 hw h108 n0 K108.n0le x104 b108 0 _ _ (by decide) (K108.wsge (List.mem_of_getElem? (i := 0) rfl)) (A104.ext E108) (F106.ext E108) (F107.ext E108)) (hw _ (List.mem_of_getElem? (i := 116) rfl)) (hw _ (List.mem_of_getElem? (i := 64) rfl)) (by decide) (by decide)) (fun z q => by cases List.mem_singleton.mp q; exact (List.mem_of_getElem? (i := 0) rfl)) pd3 rfl rfl (Nat.le_of_eq rfl) rfl (by decide) (by decide) (by decide) (fun v110 T110 h110 K110 Q110 q110 => ?_)
  have P111 := P109.trans Q110 (fun z q => by cases List.mem_singleton.mp q; exact Or.inr ge_x104)
  obtain ⟨rfl, Ex110, Fv110, Fc110⟩ := q110
  refine gRetA K110 hlk hret rfl rfl b13_25 P111 (by decide) (by decide) ?_
  exact ⟨_, rfl, ge_x104, Ex110⟩
set_option maxRecDepth 65536 in
set_option maxHeartbeats 40000000 in
theorem c_acInit (l : Launch) (Z : State) (a0 : Array Value) (hw : ∀ d ∈ tables_1, d.before a0 Z = true) (h0 : Heap) (n0 : Nat) (Z0 : n0 ≤ h0.size) (x : Addr) :
    Con none l (⟨"java/util/AbstractCollection", "<init>", "()V"⟩ : MethodName) jdk_22_method_1_code 1 none [] ({ frames := 1, cells := 0, slots := 0, locals := 12 } : Room) Z n0 h0 [] #[(.ref x)] (fun v h => v = none ∧ h = h0) := by
  refine Con.intro pn3 Z0 (fun _ q => nomatch q) trivial #[.val (.ref x)] (fun m => by first | (simp [entryFrame, mkF, argsToLocals, Value.category]; done) | rfl) ?_
  intro p e s m below meth c T0 hlk hret hnm K0
  have P0 := Keep.refl h0 []
  refine gAloadN K0 b4_0 (v := (.ref x)) rfl rfl ?_
  refine gInitO K0 b4_1 (hw _ (List.mem_of_getElem? (i := 29) rfl)) (hw _ (List.mem_of_getElem? (i := 30) rfl)) (hw _ (List.mem_of_getElem? (i := 31) rfl)) rfl (by decide) (W := 0) (Nat.le_of_eq rfl) (by decide) (fun T101 K101 => ?_)
  refine gRetV K101 hlk hret b4_4 P0 (by decide) (by decide) ?_
  exact ⟨rfl, rfl⟩
set_option maxRecDepth 65536 in
set_option maxHeartbeats 40000000 in
theorem c_ablInit (l : Launch) (Z : State) (a0 : Array Value) (hw : ∀ d ∈ tables_1, d.before a0 Z = true) (h0 : Heap) (n0 : Nat) (Z0 : n0 ≤ h0.size) (x : Addr) (v1 v2 : Value) (gx : n0 ≤ x) (Ex : Exa Z h0 x "java/util/ArrayList") (F1 : Fld Z h0 x "java/util/AbstractList" "modCount" "I" v1) (F2 : Fld Z h0 x "java/util/ArrayList" "elementData" "[Ljava/lang/Object;" v2) :
    Con none l (⟨"java/util/AbstractList", "<init>", "()V"⟩ : MethodName) jdk_39_method_1_code 1 none [] ({ frames := 2, cells := 0, slots := 0, locals := 24 } : Room) Z n0 h0 [x] #[(.ref x)] (fun v h => v = none ∧ Exa Z h x "java/util/ArrayList" ∧ Fld Z h x "java/util/ArrayList" "elementData" "[Ljava/lang/Object;" v2) := by
  refine Con.intro pn4 Z0 (allS ⟨gx, Ex.lt⟩ all0) trivial #[.val (.ref x)] (fun m => by first | (simp [entryFrame, mkF, argsToLocals, Value.category]; done) | rfl) ?_
  intro p e s m below meth c T0 hlk hret hnm K0
  have P0 := Keep.refl h0 [x]
  refine gAloadN K0 b3_0 (v := (.ref x)) rfl rfl ?_
  refine gCallI K0 (W := 0) x [] [] b3_1 rfl (hw _ (List.mem_of_getElem? (i := 23) rfl)) (hw _ (List.mem_of_getElem? (i := 24) rfl)) (hw _ (List.mem_of_getElem? (i := 28) rfl)) (Cal.ofN (W := 0) (c_acInit l Z a0 hw h0 n0 K0.n0le x) (hw _ (List.mem_of_getElem? (i := 28) rfl)) (hw _ (List.mem_of_getElem? (i := 27) rfl)) (by decide) (by decide)) (fun _ q => nomatch q) pd4 rfl rfl (Nat.le_of_eq rfl) rfl (by decide) (by decide) (by decide) (fun v101 T101 h101 K101 Q101 q101 => ?_)
  have E101 := Ext.of0 Q101
  have P102 := P0.ext E101
  obtain ⟨rfl, e101⟩ := q101
  refine gAloadN K101 b3_4 (v := (.ref x)) rfl rfl ?_
  refine gIconst K101 (0 : Int32) b3_5 rfl ?_
  refine gPut K101 b3_6 (hw _ (List.mem_of_getElem? (i := 32) rfl)) (List.mem_of_getElem? (i := 0) rfl) (F1.ext E101) (Ex.ext E101) (Or.inl (hw _ (List.mem_of_getElem? (i := 33) rfl))) (hw _ (List.mem_of_getElem? (i := 12) rfl)) (ty := .int) (by decide) rfl rfl (fun T103 h103 K103 W103 F103 => ?_)
  have P104 := P102.trans (Keep.of_wr W103) (fun z q => by cases List.mem_singleton.mp q; exact Or.inl (List.mem_of_getElem? (i := 0) rfl))
  have F105 := Fld.other W103 (F2.ext E101) (Or.inr (slot_ne (C := "java/util/ArrayList") (a0 := a0) (Or.inl (hw _ (List.mem_of_getElem? (i := 36) rfl))) (Or.inl (hw _ (List.mem_of_getElem? (i := 33) rfl))) (by decide) (by decide : parseFieldDescriptor _ = some (.array (.object "java/lang/Object"))) (by decide : parseFieldDescriptor _ = some .int)))
  have A106 := Exa.wr W103 (Ex.ext E101)
  refine gRetV K103 hlk hret b3_9 P104 (by decide) (by decide) ?_
  exact ⟨rfl, A106, F105⟩
set_option maxRecDepth 65536 in
set_option maxHeartbeats 40000000 in
theorem c_alInit (l : Launch) (Z : State) (a0 : Array Value) (hw : ∀ d ∈ tables_1, d.before a0 Z = true) (h0 : Heap) (n0 : Nat) (Z0 : n0 ≤ h0.size) (x dd : Addr) (v1 v2 : Value) (gx : n0 ≤ x) (Ex : Exa Z h0 x "java/util/ArrayList") (F1 : Fld Z h0 x "java/util/AbstractList" "modCount" "I" v1) (F2 : Fld Z h0 x "java/util/ArrayList" "elementData" "[Ljava/lang/Object;" v2) (Sd : Sta Z h0 "java/util/ArrayList" "DEFAULTCAPACITY_EMPTY_ELEMENTDATA" "[Ljava/lang/Object;" (.ref dd)) :
    Con none l (⟨"java/util/ArrayList", "<init>", "()V"⟩ : MethodName) jdk_38_method_2_code 1 none [] ({ frames := 3, cells := 0, slots := 0, locals := 36 } : Room) Z n0 h0 [x] #[(.ref x)] (fun v h => v = none ∧ Exa Z h x "java/util/ArrayList") := by
  refine Con.intro pn5 Z0 (allS ⟨gx, Ex.lt⟩ all0) trivial #[.val (.ref x)] (fun m => by first | (simp [entryFrame, mkF, argsToLocals, Value.category]; done) | rfl) ?_
  intro p e s m below meth c T0 hlk hret hnm K0
  have P0 := Keep.refl h0 [x]
  refine gAloadN K0 b2_0 (v := (.ref x)) rfl rfl ?_
  refine gCallI K0 (W := 0) x [] [] b2_1 rfl (hw _ (List.mem_of_getElem? (i := 17) rfl)) (hw _ (List.mem_of_getElem? (i := 18) rfl)) (hw _ (List.mem_of_getElem? (i := 22) rfl)) (Cal.ofN (W := 0) (c_ablInit l Z a0 hw h0 n0 K0.n0le x _ _ gx Ex F1 F2) (hw _ (List.mem_of_getElem? (i := 22) rfl)) (hw _ (List.mem_of_getElem? (i := 21) rfl)) (by decide) (by decide)) (fun z q => by cases List.mem_singleton.mp q; exact (List.mem_of_getElem? (i := 0) rfl)) pd4 rfl rfl (Nat.le_of_eq rfl) rfl (by decide) (by decide) (by decide) (fun v101 T101 h101 K101 Q101 q101 => ?_)
  have P102 := P0.trans Q101 (fun z q => by cases List.mem_singleton.mp q; exact Or.inl (List.mem_of_getElem? (i := 0) rfl))
  obtain ⟨rfl, Ex101, Fe101⟩ := q101
  have Sd101 := Sta.kp Sd Q101 (nsS (Exa.nostat Ex) ns0)
  refine gAloadN K101 b2_4 (v := (.ref x)) rfl rfl ?_
  refine gGetS K101 b2_5 (hw _ (List.mem_of_getElem? (i := 34) rfl)) Sd101 (fun T103 K103 => ?_)
  refine gPut K103 b2_8 (hw _ (List.mem_of_getElem? (i := 35) rfl)) (List.mem_of_getElem? (i := 0) rfl) Fe101 Ex101 (Or.inl (hw _ (List.mem_of_getElem? (i := 36) rfl))) (hw _ (List.mem_of_getElem? (i := 12) rfl)) (ty := (.array (.object "java/lang/Object"))) (by decide) rfl rfl (fun T104 h104 K104 W104 F104 => ?_)
  have P105 := P102.trans (Keep.of_wr W104) (fun z q => by cases List.mem_singleton.mp q; exact Or.inl (List.mem_of_getElem? (i := 0) rfl))
  have A106 := Exa.wr W104 Ex101
  refine gRetV K104 hlk hret b2_11 P105 (by decide) (by decide) ?_
  exact ⟨rfl, A106⟩
set_option maxRecDepth 65536 in
set_option maxHeartbeats 40000000 in
theorem c_concept (l : Launch) (Z : State) (a0 : Array Value) (hw : ∀ d ∈ tables_1, d.before a0 Z = true) (h0 : Heap) (n0 : Nat) (Z0 : n0 ≤ h0.size) (x : Addr) (id : Int32) (kd : Addr) (sv : Value) (hsv : sv.isRef = true) (li : Addr) (gx : n0 ≤ x) (Ex : Exa Z h0 x "com/example/glean/glean/concept/Concept") (F1 : Fld Z h0 x "com/example/glean/glean/concept/Concept" "id" "I" (.int 0)) (F2 : Fld Z h0 x "com/example/glean/glean/concept/Concept" "kind" "Lcom/example/glean/glean/concept/Concept$Kind;" .null) (F3 : Fld Z h0 x "com/example/glean/glean/concept/Concept" "symbol" "Ljava/lang/String;" .null) (F4 : Fld Z h0 x "com/example/glean/glean/concept/Concept" "operands" "Ljava/util/List;" .null) :
    Con none l (⟨"com/example/glean/glean/concept/Concept", "<init>", "(ILcom/example/glean/glean/concept/Concept$Kind;Ljava/lang/String;Ljava/util/List;)V"⟩ : MethodName) prog_9_method_1_code 5 none [] ({ frames := 1, cells := 0, slots := 0, locals := 12 } : Room) Z n0 h0 [x] #[(.ref x), (.int id), (.ref kd), sv, (.ref li)] (fun v h => v = none ∧ Exa Z h x "com/example/glean/glean/concept/Concept" ∧ Fld Z h x "com/example/glean/glean/concept/Concept" "kind" "Lcom/example/glean/glean/concept/Concept$Kind;" (.ref kd) ∧ Fld Z h x "com/example/glean/glean/concept/Concept" "symbol" "Ljava/lang/String;" sv) := by
  refine Con.intro pn6 Z0 (allS ⟨gx, Ex.lt⟩ all0) trivial #[.val (.ref x), .val (.int id), .val (.ref kd), .val sv, .val (.ref li)] (fun m => by rcases ref_cases hsv with rfl | ⟨q, rfl⟩ <;> first | (simp [entryFrame, mkF, argsToLocals, Value.category]; done) | rfl) ?_
  intro p e s m below meth c T0 hlk hret hnm K0
  have P0 := Keep.refl h0 [x]
  refine gAloadN K0 b6_0 (v := (.ref x)) rfl rfl ?_
  refine gInitO K0 b6_1 (hw _ (List.mem_of_getElem? (i := 43) rfl)) (hw _ (List.mem_of_getElem? (i := 30) rfl)) (hw _ (List.mem_of_getElem? (i := 31) rfl)) rfl (by decide) (W := 0) (Nat.le_of_eq rfl) (by decide) (fun T101 K101 => ?_)
  refine gAloadN K101 b6_4 (v := (.ref x)) rfl rfl ?_
  refine gIloadN K101 b6_5 (v := id) rfl ?_
  refine gPut K101 b6_6 (hw _ (List.mem_of_getElem? (i := 44) rfl)) (List.mem_of_getElem? (i := 0) rfl) F1 Ex (Or.inr ⟨(hw _ (List.mem_of_getElem? (i := 45) rfl)), rfl, hnm⟩) (hw _ (List.mem_of_getElem? (i := 38) rfl)) (ty := .int) (by decide) rfl rfl (fun T102 h102 K102 W102 F102 => ?_)
  have P103 := P0.trans (Keep.of_wr W102) (fun z q => by cases List.mem_singleton.mp q; exact Or.inl (List.mem_of_getElem? (i := 0) rfl))
  have F104 := Fld.other W102 F2 (Or.inr (slot_ne (C := "com/example/glean/glean/concept/Concept") (a0 := a0) (Or.inr (hw _ (List.mem_of_getElem? (i := 47) rfl))) (Or.inr (hw _ (List.mem_of_getElem? (i := 45) rfl))) (by decide) (by decide : parseFieldDescriptor _ = some (.object "com/example/glean/glean/concept/Concept$Kind")) (by decide : parseFieldDescriptor _ = some .int)))
  have F105 := Fld.other W102 F3 (Or.inr (slot_ne (C := "com/example/glean/glean/concept/Concept") (a0 := a0) (Or.inr (hw _ (List.mem_of_getElem? (i := 49) rfl))) (Or.inr (hw _ (List.mem_of_getElem? (i := 45) rfl))) (by decide) (by decide : parseFieldDescriptor _ = some (.object "java/lang/String")) (by decide : parseFieldDescriptor _ = some .int)))
  have F106 := Fld.other W102 F4 (Or.inr (slot_ne (C := "com/example/glean/glean/concept/Concept") (a0 := a0) (Or.inr (hw _ (List.mem_of_getElem? (i := 51) rfl))) (Or.inr (hw _ (List.mem_of_getElem? (i := 45) rfl))) (by decide) (by decide : parseFieldDescriptor _ = some (.object "java/util/List")) (by decide : parseFieldDescriptor _ = some .int)))
  have A107 := Exa.wr W102 Ex
  refine gAloadN K102 b6_9 (v := (.ref x)) rfl rfl ?_
  refine gAloadN K102 b6_10 (v := (.ref kd)) rfl rfl ?_
  refine gPut K102 b6_11 (hw _ (List.mem_of_getElem? (i := 46) rfl)) (List.mem_of_getElem? (i := 0) rfl) F104 A107 (Or.inr ⟨(hw _ (List.mem_of_getElem? (i := 47) rfl)), rfl, hnm⟩) (hw _ (List.mem_of_getElem? (i := 38) rfl)) (ty := (.object "com/example/glean/glean/concept/Concept$Kind")) (by decide) rfl rfl (fun T108 h108 K108 W108 F108 => ?_)
  have P109 := P103.trans (Keep.of_wr W108) (fun z q => by cases List.mem_singleton.mp q; exact Or.inl (List.mem_of_getElem? (i := 0) rfl))
  have F110 := Fld.other W108 F102 (Or.inr (slot_ne (C := "com/example/glean/glean/concept/Concept") (a0 := a0) (Or.inr (hw _ (List.mem_of_getElem? (i := 45) rfl))) (Or.inr (hw _ (List.mem_of_getElem? (i := 47) rfl))) (by decide) (by decide : parseFieldDescriptor _ = some .int) (by decide : parseFieldDescriptor _ = some (.object "com/example/glean/glean/concept/Concept$Kind"))))
  have F111 := Fld.other W108 F105 (Or.inr (slot_ne (C := "com/example/glean/glean/concept/Concept") (a0 := a0) (Or.inr (hw _ (List.mem_of_getElem? (i := 49) rfl))) (Or.inr (hw _ (List.mem_of_getElem? (i := 47) rfl))) (by decide) (by decide : parseFieldDescriptor _ = some (.object "java/lang/String")) (by decide : parseFieldDescriptor _ = some (.object "com/example/glean/glean/concept/Concept$Kind"))))
  have F112 := Fld.other W108 F106 (Or.inr (slot_ne (C := "com/example/glean/glean/concept/Concept") (a0 := a0) (Or.inr (hw _ (List.mem_of_getElem? (i := 51) rfl))) (Or.inr (hw _ (List.mem_of_getElem? (i := 47) rfl))) (by decide) (by decide : parseFieldDescriptor _ = some (.object "java/util/List")) (by decide : parseFieldDescriptor _ = some (.object "com/example/glean/glean/concept/Concept$Kind"))))
  have A113 := Exa.wr W108 A107
  refine gAloadN K108 b6_14 (v := (.ref x)) rfl rfl ?_
  refine gAloadN K108 b6_15 (v := sv) rfl hsv ?_
  refine gPut K108 b6_16 (hw _ (List.mem_of_getElem? (i := 48) rfl)) (List.mem_of_getElem? (i := 0) rfl) F111 A113 (Or.inr ⟨(hw _ (List.mem_of_getElem? (i := 49) rfl)), rfl, hnm⟩) (hw _ (List.mem_of_getElem? (i := 38) rfl)) (ty := (.object "java/lang/String")) (by decide) (nar_ref hsv) (fits_refv hsv) (fun T114 h114 K114 W114 F114 => ?_)
  have P115 := P109.trans (Keep.of_wr W114) (fun z q => by cases List.mem_singleton.mp q; exact Or.inl (List.mem_of_getElem? (i := 0) rfl))
  have F116 := Fld.other W114 F110 (Or.inr (slot_ne (C := "com/example/glean/glean/concept/Concept") (a0 := a0) (Or.inr (hw _ (List.mem_of_getElem? (i := 45) rfl))) (Or.inr (hw _ (List.mem_of_getElem? (i := 49) rfl))) (by decide) (by decide : parseFieldDescriptor _ = some .int) (by decide : parseFieldDescriptor _ = some (.object "java/lang/String"))))
  have F117 := Fld.other W114 F108 (Or.inr (slot_ne (C := "com/example/glean/glean/concept/Concept") (a0 := a0) (Or.inr (hw _ (List.mem_of_getElem? (i := 47) rfl))) (Or.inr (hw _ (List.mem_of_getElem? (i := 49) rfl))) (by decide) (by decide : parseFieldDescriptor _ = some (.object "com/example/glean/glean/concept/Concept$Kind")) (by decide : parseFieldDescriptor _ = some (.object "java/lang/String"))))
  have F118 := Fld.other W114 F112 (Or.inr (slot_ne (C := "com/example/glean/glean/concept/Concept") (a0 := a0) (Or.inr (hw _ (List.mem_of_getElem? (i := 51) rfl))) (Or.inr (hw _ (List.mem_of_getElem? (i := 49) rfl))) (by decide) (by decide : parseFieldDescriptor _ = some (.object "java/util/List")) (by decide : parseFieldDescriptor _ = some (.object "java/lang/String"))))
  have A119 := Exa.wr W114 A113
  refine gAloadN K114 b6_19 (v := (.ref x)) rfl rfl ?_
  refine gAload K114 b6_20 (v := (.ref li)) rfl rfl ?_
  refine gPut K114 b6_22 (hw _ (List.mem_of_getElem? (i := 50) rfl)) (List.mem_of_getElem? (i := 0) rfl) F118 A119 (Or.inr ⟨(hw _ (List.mem_of_getElem? (i := 51) rfl)), rfl, hnm⟩) (hw _ (List.mem_of_getElem? (i := 38) rfl)) (ty := (.object "java/util/List")) (by decide) rfl rfl (fun T120 h120 K120 W120 F120 => ?_)
  have P121 := P115.trans (Keep.of_wr W120) (fun z q => by cases List.mem_singleton.mp q; exact Or.inl (List.mem_of_getElem? (i := 0) rfl))
  have F122 := Fld.other W120 F116 (Or.inr (slot_ne (C := "com/example/glean/glean/concept/Concept") (a0 := a0) (Or.inr (hw _ (List.mem_of_getElem? (i := 45) rfl))) (Or.inr (hw _ (List.mem_of_getElem? (i := 51) rfl))) (by decide) (by decide : parseFieldDescriptor _ = some .int) (by decide : parseFieldDescriptor _ = some (.object "java/util/List"))))
  have F123 := Fld.other W120 F117 (Or.inr (slot_ne (C := "com/example/glean/glean/concept/Concept") (a0 := a0) (Or.inr (hw _ (List.mem_of_getElem? (i := 47) rfl))) (Or.inr (hw _ (List.mem_of_getElem? (i := 51) rfl))) (by decide) (by decide : parseFieldDescriptor _ = some (.object "com/example/glean/glean/concept/Concept$Kind")) (by decide : parseFieldDescriptor _ = some (.object "java/util/List"))))
  have F124 := Fld.other W120 F114 (Or.inr (slot_ne (C := "com/example/glean/glean/concept/Concept") (a0 := a0) (Or.inr (hw _ (List.mem_of_getElem? (i := 49) rfl))) (Or.inr (hw _ (List.mem_of_getElem? (i := 51) rfl))) (by decide) (by decide : parseFieldDescriptor _ = some (.object "java/lang/String")) (by decide : parseFieldDescriptor _ = some (.object "java/util/List"))))
  have A125 := Exa.wr W120 A119
  refine gRetV K120 hlk hret b6_25 P121 (by decide) (by decide) ?_
  exact ⟨rfl, A125, F123, F124⟩
set_option maxRecDepth 65536 in
set_option maxHeartbeats 40000000 in
theorem c_name (l : Launch) (Z : State) (a0 : Array Value) (hw : ∀ d ∈ tables_1, d.before a0 Z = true) (h0 : Heap) (n0 : Nat) (Z0 : n0 ≤ h0.size) (x : Addr) (kd : Addr) (sv : Value) (hsv : sv.isRef = true) (w : Nat → Addr) (SK : KS Z h0 w) (F2 : Fld Z h0 x "com/example/glean/glean/concept/Concept" "kind" "Lcom/example/glean/glean/concept/Concept$Kind;" (.ref kd)) (F3 : Fld Z h0 x "com/example/glean/glean/concept/Concept" "symbol" "Ljava/lang/String;" sv) :
    Con none l (⟨"com/example/glean/glean/concept/Concept", "name", "()Ljava/lang/String;"⟩ : MethodName) prog_9_method_4_code 1 (some (.object "java/lang/String")) [] ({ frames := 0, cells := 0, slots := 0, locals := 0 } : Room) Z n0 h0 [] #[(.ref x)] (fun v h => v = some (if kd = w 2 ∨ kd = w 3 then sv else .null) ∧ h = h0) := by
  refine Con.intro pn6 Z0 (fun _ q => nomatch q) trivial #[.val (.ref x)] (fun m => by first | (simp [entryFrame, mkF, argsToLocals, Value.category]; done) | rfl) ?_
  intro p e s m below meth c T0 hlk hret hnm K0
  have P0 := Keep.refl h0 []
  refine gAloadN K0 b7_0 (v := (.ref x)) rfl rfl ?_
  refine gGet K0 b7_1 (hw _ (List.mem_of_getElem? (i := 46) rfl)) F2 (fun T101 K101 => ?_)
  refine gGetS K101 b7_4 (hw _ (List.mem_of_getElem? (i := 57) rfl)) SK.2.2.1 (fun T102 K102 => ?_)
  refine gAcmp_eq K102 b7_7 rfl rfl (fun q7 => ?_) (fun q7 => ?_)
  · skip
    refine gAloadN K102 b7_20 (v := (.ref x)) rfl rfl ?_
    refine gGet K102 b7_21 (hw _ (List.mem_of_getElem? (i := 48) rfl)) F3 (fun T103 K103 => ?_)
    refine gGoto K103 b7_24 ?_
    refine gRetA K103 hlk hret rfl hsv b7_28 P0 (by decide) (by decide) ?_
    exact ⟨by rw [if_pos (Or.inl (Value.ref.inj q7))], rfl⟩
  · skip
    refine gAloadN K102 b7_10 (v := (.ref x)) rfl rfl ?_
    refine gGet K102 b7_11 (hw _ (List.mem_of_getElem? (i := 46) rfl)) F2 (fun T104 K104 => ?_)
    refine gGetS K104 b7_14 (hw _ (List.mem_of_getElem? (i := 59) rfl)) SK.2.2.2.1 (fun T105 K105 => ?_)
    refine gAcmp_ne K105 b7_17 rfl rfl (fun q17 => ?_) (fun q17 => ?_)
    · skip
      refine gNull K105 b7_27 ?_
      refine gRetA K105 hlk hret rfl rfl b7_28 P0 (by decide) (by decide) ?_
      exact ⟨by rw [if_neg (fun q => q.elim (fun e1 => q7 (by rw [e1])) (fun e1 => q17 (by rw [e1])))], rfl⟩
    · skip
      refine gAloadN K105 b7_20 (v := (.ref x)) rfl rfl ?_
      refine gGet K105 b7_21 (hw _ (List.mem_of_getElem? (i := 48) rfl)) F3 (fun T106 K106 => ?_)
      refine gGoto K106 b7_24 ?_
      refine gRetA K106 hlk hret rfl hsv b7_28 P0 (by decide) (by decide) ?_
      exact ⟨by rw [if_pos (Or.inr (Value.ref.inj q17))], rfl⟩
theorem ne23 {w : Nat → Addr} {sel : Int32} (hne : ∀ i j, i < 8 → j < 8 → i ≠ j → w i ≠ w j) (hsl : ¬ sel < 0 ∧ ¬ (7 : Int32) < sel) (h6 : ¬ sel = 2) (h7 : ¬ sel = 3) : ¬ (w sel.toNatClampNeg = w 2 ∨ w sel.toNatClampNeg = w 3) := by
  have a1 := i_nlt hsl.1
  have a2 := i_nlt hsl.2
  have a3 := i_ne h6
  have a4 := i_ne h7
  have e0 : (0 : Int32).toInt = 0 := by decide
  have e2 : (2 : Int32).toInt = 2 := by decide
  have e3 : (3 : Int32).toInt = 3 := by decide
  have e6 : (6 : Int32).toInt = 6 := by decide
  have e7 : (7 : Int32).toInt = 7 := by decide
  have a5 := nat_of hsl.1
  rintro (q | q)
  · exact hne _ _ (by omega) (by omega) (by omega) q
  · exact hne _ _ (by omega) (by omega) (by omega) q

set_option maxRecDepth 65536 in
set_option maxHeartbeats 40000000 in
theorem c_sym (l : Launch) (Z : State) (a0 : Array Value) (hw : ∀ d ∈ tables_1, d.before a0 Z = true) (h0 : Heap) (n0 : Nat) (Z0 : n0 ≤ h0.size) (hE : EW Z a0 [("java/lang/String", 7)]) (md c0 c1 z : Int32) (Sc : Sta Z h0 "java/lang/String" "COMPACT_STRINGS" "Z" (.int z)) (hz : ¬ z = 0) :
    Con (some [("java/lang/String", 7)]) l (⟨"com/example/glean/glean/concept/ConceptNamePinLaw", "symbolOf", "(III)Ljava/lang/String;"⟩ : MethodName) method_3_code 5 (some (.object "java/lang/String")) [] ({ frames := 4, cells := 8, slots := 16, locals := 66 } : Room) Z n0 h0 [] #[(.int md), (.int c0), (.int c1)] (fun v h => ∃ sv : Value, v = some sv ∧ sv.isRef = true) := by
  refine Con.intro pn1 Z0 (fun _ q => nomatch q) ⟨a0, hE⟩ #[.val (.int md), .val (.int c0), .val (.int c1), .unset, .unset] (fun m => by first | (simp [entryFrame, mkF, argsToLocals, Value.category]; done) | rfl) ?_
  intro p e s m below meth c T0 hlk hret hnm K0
  have P0 := Keep.refl h0 []
  refine gIconst K0 (2 : Int32) b1_0 rfl ?_
  refine gNewarr K0 b1_1 (hw _ (List.mem_of_getElem? (i := 10) rfl)) (by decide) 2 (by decide) (by decide) (by decide) (by decide) (fun T101 h101 x101 kA101 K101 E101 g101 A101 ne101 => ?_)
  have P102 := P0.ext E101
  have ge_x101 : h0.size ≤ x101 := by rw [g101]; exact P0.1
  refine gDup K101 b1_3 rfl ?_
  refine gIconst K101 (0 : Int32) b1_4 rfl ?_
  refine gIloadN K101 b1_5 (v := c0) rfl ?_
  refine gSipush K101 (255 : Int32) b1_6 rfl ?_
  refine gIand K101 b1_9 ?_
  refine gI2c K101 b1_10 ?_
  refine gCastore K101 b1_11 (List.mem_of_getElem? (i := 0) rfl) A101 rfl (by decide) (and255c c0).1 (ch_up (and255c c0).2) (fun T103 h103 K103 Q103 A103 => ?_)
  have P104 := P102.trans Q103 (fun z q => by cases List.mem_singleton.mp q; exact Or.inr ge_x101)
  refine gDup K103 b1_12 rfl ?_
  refine gIconst K103 (1 : Int32) b1_13 rfl ?_
  refine gIloadN K103 b1_14 (v := c1) rfl ?_
  refine gSipush K103 (255 : Int32) b1_15 rfl ?_
  refine gIand K103 b1_18 ?_
  refine gI2c K103 b1_19 ?_
  refine gCastore K103 b1_20 (List.mem_of_getElem? (i := 0) rfl) A103 rfl (by decide) (and255c c1).1 (ch_up (and255c c1).2) (fun T105 h105 K105 Q105 A105 => ?_)
  have P106 := P104.trans Q105 (fun z q => by cases List.mem_singleton.mp q; exact Or.inr ge_x101)
  refine gAstoreN K105 b1_21 rfl (Ls' := #[.val (.int md), .val (.int c0), .val (.int c1), .val (.ref x101), .unset]) rfl ?_
  refine gIconst K105 (0 : Int32) b1_22 rfl ?_
  refine gNewarr K105 b1_23 (hw _ (List.mem_of_getElem? (i := 10) rfl)) (by decide) 0 (by decide) (by decide) (by decide) (by decide) (fun T107 h107 x107 kA107 K107 E107 g107 A107 ne107 => ?_)
  have P108 := P106.ext E107
  have ge_x107 : h0.size ≤ x107 := by rw [g107]; exact P106.1
  refine gAstore K107 b1_25 rfl (Ls' := #[.val (.int md), .val (.int c0), .val (.int c1), .val (.ref x101), .val (.ref x107)]) rfl ?_
  refine gIloadN K107 b1_27 (v := md) rfl ?_
  refine gIf_ne K107 b1_28 (fun q28 => ?_) (fun q28 => ?_)
  · skip
    refine gIloadN K107 b1_33 (v := md) rfl ?_
    refine gIconst K107 (1 : Int32) b1_34 rfl ?_
    refine gIcmp_ne K107 b1_35 (fun q35 => ?_) (fun q35 => ?_)
    · skip
      refine gIloadN K107 b1_48 (v := md) rfl ?_
      refine gIconst K107 (2 : Int32) b1_49 rfl ?_
      refine gIcmp_ne K107 b1_50 (fun q50 => ?_) (fun q50 => ?_)
      · skip
        refine gNew K107 b1_60 (hw _ (List.mem_of_getElem? (i := 62) rfl)) (hw _ (List.mem_of_getElem? (i := 63) rfl)) (hw _ (List.mem_of_getElem? (i := 64) rfl)) (by decide) (by decide) (fun T109 h109 x109 K109 E109 g109 A109 D109 ne109 => ?_)
        have P110 := P108.ext E109
        have ge_x109 : h0.size ≤ x109 := by rw [g109]; exact P108.1
        have F111 : Fld Z h109 x109 "java/lang/String" "value" "[B" .null := (D109 (Or.inr (hw _ (List.mem_of_getElem? (i := 88) rfl))) (ty := (.array .byte)) (by decide))
        have F112 : Fld Z h109 x109 "java/lang/String" "coder" "B" (.int (0 : Int32)) := (D109 (Or.inr (hw _ (List.mem_of_getElem? (i := 86) rfl))) (ty := .byte) (by decide))
        refine gDup K109 b1_63 rfl ?_
        refine gAloadN K109 b1_64 (v := (.ref x101)) rfl rfl ?_
        refine gCallI K109 (W := 1) x109 [(.ref x101)] [(.ref x109)] b1_65 rfl (hw _ (List.mem_of_getElem? (i := 65) rfl)) (hw _ (List.mem_of_getElem? (i := 66) rfl)) (hw _ (List.mem_of_getElem? (i := 67) rfl)) (cal_str hw hE (W := 1) (cs := [((c0 &&& (255 : Int32))).toUInt32.toUInt16.toUInt32.toInt32, ((c1 &&& (255 : Int32))).toUInt32.toUInt16.toUInt32.toInt32]) 2 (K109.wsge (List.mem_of_getElem? (i := 0) rfl)) K109.n0le A109 F111 F112 (A105.ext (Ext.tr E107 E109)) (Sc.ext (Ext.tr (Ext.tr (Ext.kp1 (Ext.kp1 E101 Q103 (Nat.le_of_eq g101.symm)) Q105 (Nat.le_of_eq g101.symm)) E107) E109)) hz rfl (by decide) (allI (and255c c0) (allI (and255c c1) allI0)) (by decide) (by decide) 8 (by decide) (by decide)) (fun z q => by cases List.mem_singleton.mp q; exact (List.mem_of_getElem? (i := 0) rfl)) pd5 rfl rfl (Nat.le_of_eq rfl) rfl (by decide) (by decide) (by decide) (fun v113 T113 h113 K113 Q113 q113 => ?_)
        have P114 := P110.trans Q113 (fun z q => by cases List.mem_singleton.mp q; exact Or.inr ge_x109)
        obtain ⟨rfl, St113⟩ := q113
        refine gRetA K113 hlk hret rfl rfl b1_68 P114 (by decide) (by decide) ?_
        exact ⟨_, rfl, rfl⟩
      · skip
        refine gAloadN K107 b1_53 (v := (.ref x101)) rfl rfl ?_
        refine gIconst K107 (0 : Int32) b1_54 rfl ?_
        refine gCaload K107 b1_55 (A105.ext E107) (by decide) (v := .int ((c0 &&& (255 : Int32))).toUInt32.toUInt16.toUInt32.toInt32) rfl ?_
        refine gCallS K107 (W := 0) [(.int ((c0 &&& (255 : Int32))).toUInt32.toUInt16.toUInt32.toInt32)] [] b1_56 (hw _ (List.mem_of_getElem? (i := 103) rfl)) (hw _ (List.mem_of_getElem? (i := 104) rfl)) (hw _ (List.mem_of_getElem? (i := 64) rfl)) (hw _ (List.mem_of_getElem? (i := 105) rfl)) (Cal.ofN (W := 0) (c_valueOf l Z a0 hw h107 n0 K107.n0le _ z (and255c c0) (Sc.ext (Ext.tr (Ext.kp1 (Ext.kp1 E101 Q103 (Nat.le_of_eq g101.symm)) Q105 (Nat.le_of_eq g101.symm)) E107)) hz) (hw _ (List.mem_of_getElem? (i := 105) rfl)) (hw _ (List.mem_of_getElem? (i := 64) rfl)) (by decide) (by decide)) (fun _ q => nomatch q) pd6 rfl rfl (Nat.le_of_eq rfl) rfl (by decide) (by decide) (by decide) (fun v115 T115 h115 K115 Q115 q115 => ?_)
        have E115 := Ext.of0 Q115
        have P116 := P108.ext E115
        obtain ⟨y115, rfl, gy115, Ey115⟩ := q115
        refine gRetA K115 hlk hret rfl rfl b1_59 P116 (by decide) (by decide) ?_
        exact ⟨_, rfl, rfl⟩
    · skip
      refine gNew K107 b1_38 (hw _ (List.mem_of_getElem? (i := 62) rfl)) (hw _ (List.mem_of_getElem? (i := 63) rfl)) (hw _ (List.mem_of_getElem? (i := 64) rfl)) (by decide) (by decide) (fun T117 h117 x117 K117 E117 g117 A117 D117 ne117 => ?_)
      have P118 := P108.ext E117
      have ge_x117 : h0.size ≤ x117 := by rw [g117]; exact P108.1
      have F119 : Fld Z h117 x117 "java/lang/String" "value" "[B" .null := (D117 (Or.inr (hw _ (List.mem_of_getElem? (i := 88) rfl))) (ty := (.array .byte)) (by decide))
      have F120 : Fld Z h117 x117 "java/lang/String" "coder" "B" (.int (0 : Int32)) := (D117 (Or.inr (hw _ (List.mem_of_getElem? (i := 86) rfl))) (ty := .byte) (by decide))
      refine gDup K117 b1_41 rfl ?_
      refine gAload K117 b1_42 (v := (.ref x107)) rfl rfl ?_
      refine gCallI K117 (W := 1) x117 [(.ref x107)] [(.ref x117)] b1_44 rfl (hw _ (List.mem_of_getElem? (i := 65) rfl)) (hw _ (List.mem_of_getElem? (i := 66) rfl)) (hw _ (List.mem_of_getElem? (i := 67) rfl)) (cal_str hw hE (W := 1) (cs := []) 0 (K117.wsge (List.mem_of_getElem? (i := 0) rfl)) K117.n0le A117 F119 F120 (A107.ext E117) (Sc.ext (Ext.tr (Ext.tr (Ext.kp1 (Ext.kp1 E101 Q103 (Nat.le_of_eq g101.symm)) Q105 (Nat.le_of_eq g101.symm)) E107) E117)) hz rfl (by decide) allI0 (by decide) (by decide) 8 (by decide) (by decide)) (fun z q => by cases List.mem_singleton.mp q; exact (List.mem_of_getElem? (i := 0) rfl)) pd5 rfl rfl (Nat.le_of_eq rfl) rfl (by decide) (by decide) (by decide) (fun v121 T121 h121 K121 Q121 q121 => ?_)
      have P122 := P118.trans Q121 (fun z q => by cases List.mem_singleton.mp q; exact Or.inr ge_x117)
      obtain ⟨rfl, St121⟩ := q121
      refine gRetA K121 hlk hret rfl rfl b1_47 P122 (by decide) (by decide) ?_
      exact ⟨_, rfl, rfl⟩
  · skip
    refine gNull K107 b1_31 ?_
    refine gRetA K107 hlk hret rfl rfl b1_32 P108 (by decide) (by decide) ?_
    exact ⟨_, rfl, rfl⟩
set_option maxRecDepth 65536 in
set_option maxHeartbeats 40000000 in
theorem c_law (l : Launch) (Z : State) (a0 : Array Value) (hw : ∀ d ∈ tables_1, d.before a0 Z = true) (h0 : Heap) (n0 : Nat) (Z0 : n0 ≤ h0.size) (hE : EW Z a0 [("java/lang/String", 7)]) (k id c0 c1 ms : Int32) (w : Nat → Addr) (SK : KS Z h0 w) (z : Int32) (Sc : Sta Z h0 "java/lang/String" "COMPACT_STRINGS" "Z" (.int z)) (hz : ¬ z = 0) (dd : Addr) (Sd : Sta Z h0 "java/util/ArrayList" "DEFAULTCAPACITY_EMPTY_ELEMENTDATA" "[Ljava/lang/Object;" (.ref dd)) (hne : ∀ i j, i < 8 → j < 8 → i ≠ j → w i ≠ w j) :
    Con (some [("java/lang/String", 7)]) l (⟨"com/example/glean/glean/concept/ConceptNamePinLaw", "law", "(IIIII)Z"⟩ : MethodName) code maxLocals ret tables_1 room_1 Z n0 h0 [] #[(.int k), (.int id), (.int c0), (.int c1), (.int ms)] (fun v h => v = some (.int 1)) := by
  refine Con.intro pn1 Z0 (fun _ q => nomatch q) ⟨a0, hE⟩ #[.val (.int k), .val (.int id), .val (.int c0), .val (.int c1), .val (.int ms), .unset, .unset, .unset, .unset, .unset, .unset, .unset] (fun m => by first | (simp [entryFrame, mkF, argsToLocals, Value.category, maxLocals]; done) | rfl) ?_
  intro p e s m below meth c T0 hlk hret hnm K0
  have P0 := Keep.refl h0 []
  refine gIloadN K0 L_0 (v := k) rfl ?_
  refine gBipush K0 (7 : Int32) L_1 rfl ?_
  refine gIand K0 L_3 ?_
  have hsl := and7 k
  generalize hsel : k &&& 7 = sel at hsl ⊢
  refine gIstore K0 L_4 (Ls' := #[.val (.int k), .val (.int id), .val (.int c0), .val (.int c1), .val (.int ms), .val (.int sel), .unset, .unset, .unset, .unset, .unset, .unset]) rfl ?_
  refine gIload K0 L_6 (v := sel) rfl ?_
  refine gCallS K0 (W := 0) [(.int sel)] [] L_8 (hw _ (List.mem_of_getElem? (i := 0) rfl)) (hw _ (List.mem_of_getElem? (i := 1) rfl)) (hw _ (List.mem_of_getElem? (i := 2) rfl)) (hw _ (List.mem_of_getElem? (i := 3) rfl)) (Cal.ofN (W := 0) (c_kindOf l Z a0 hw h0 n0 K0.n0le sel hsl w SK) (hw _ (List.mem_of_getElem? (i := 3) rfl)) (hw _ (List.mem_of_getElem? (i := 2) rfl)) (by decide) (by decide)) (fun _ q => nomatch q) pd7 rfl rfl (Nat.le_of_eq rfl) rfl (by decide) (by decide) (by decide) (fun v101 T101 h101 K101 Q101 q101 => ?_)
  have E101 := Ext.of0 Q101
  have P102 := P0.ext E101
  obtain ⟨rfl, e101⟩ := q101
  refine gAstore K101 L_11 rfl (Ls' := #[.val (.int k), .val (.int id), .val (.int c0), .val (.int c1), .val (.int ms), .val (.int sel), .val (.ref (w sel.toNatClampNeg)), .unset, .unset, .unset, .unset, .unset]) rfl ?_
  refine gIload K101 L_13 (v := ms) rfl ?_
  refine gIconst K101 (3 : Int32) L_15 rfl ?_
  refine gIand K101 L_16 ?_
  refine gIloadN K101 L_17 (v := c0) rfl ?_
  refine gIloadN K101 L_18 (v := c1) rfl ?_
  refine gCallS K101 (W := 0) [(.int (ms &&& (3 : Int32))), (.int c0), (.int c1)] [] L_19 (hw _ (List.mem_of_getElem? (i := 7) rfl)) (hw _ (List.mem_of_getElem? (i := 8) rfl)) (hw _ (List.mem_of_getElem? (i := 2) rfl)) (hw _ (List.mem_of_getElem? (i := 9) rfl)) (Cal.ofW (W := 0) (c_sym l Z a0 hw h101 n0 K101.n0le hE _ c0 c1 z (Sc.ext E101) hz) (hw _ (List.mem_of_getElem? (i := 9) rfl)) (hw _ (List.mem_of_getElem? (i := 2) rfl)) (by decide) (by decide)) (fun _ q => nomatch q) pd8 rfl rfl (Nat.le_of_eq rfl) rfl (by decide) (by decide) (by decide) (fun v103 T103 h103 K103 Q103 q103 => ?_)
  have E103 := Ext.of0 Q103
  have P104 := P102.ext E103
  obtain ⟨sv, rfl, hsv⟩ := q103
  refine gAstore K103 L_22 hsv (Ls' := #[.val (.int k), .val (.int id), .val (.int c0), .val (.int c1), .val (.int ms), .val (.int sel), .val (.ref (w sel.toNatClampNeg)), .val sv, .unset, .unset, .unset, .unset]) ((XS.store1 (o := .unset) rfl (Or.inl rfl) (XT.cat1 hsv)).trans rfl) ?_
  refine gNew K103 L_24 (hw _ (List.mem_of_getElem? (i := 11) rfl)) (hw _ (List.mem_of_getElem? (i := 12) rfl)) (hw _ (List.mem_of_getElem? (i := 13) rfl)) (by decide) (by decide) (fun T105 h105 x105 K105 E105 g105 A105 D105 ne105 => ?_)
  have P106 := P104.ext E105
  have ge_x105 : h0.size ≤ x105 := by rw [g105]; exact P104.1
  have F107 : Fld Z h105 x105 "java/util/AbstractList" "modCount" "I" (.int (0 : Int32)) := (D105 (Or.inl (hw _ (List.mem_of_getElem? (i := 33) rfl))) (ty := .int) (by decide))
  have F108 : Fld Z h105 x105 "java/util/ArrayList" "elementData" "[Ljava/lang/Object;" .null := (D105 (Or.inl (hw _ (List.mem_of_getElem? (i := 36) rfl))) (ty := (.array (.object "java/lang/Object"))) (by decide))
  refine gDup K105 L_27 rfl ?_
  refine gCallI K105 (W := 1) x105 [] [(.ref x105)] L_28 rfl (hw _ (List.mem_of_getElem? (i := 14) rfl)) (hw _ (List.mem_of_getElem? (i := 15) rfl)) (hw _ (List.mem_of_getElem? (i := 16) rfl)) (Cal.ofN (W := 1) (c_alInit l Z a0 hw h105 n0 K105.n0le x105 dd _ _ (K105.wsge (List.mem_of_getElem? (i := 0) rfl)) A105 F107 F108 (Sd.ext (Ext.tr (Ext.tr E101 E103) E105))) (hw _ (List.mem_of_getElem? (i := 16) rfl)) (hw _ (List.mem_of_getElem? (i := 13) rfl)) (by decide) (by decide)) (fun z q => by cases List.mem_singleton.mp q; exact (List.mem_of_getElem? (i := 0) rfl)) pd4 rfl rfl (Nat.le_of_eq rfl) rfl (by decide) (by decide) (by decide) (fun v109 T109 h109 K109 Q109 q109 => ?_)
  have P110 := P106.trans Q109 (fun z q => by cases List.mem_singleton.mp q; exact Or.inr ge_x105)
  obtain ⟨rfl, Ex109⟩ := q109
  refine gAstore K109 L_31 rfl (Ls' := #[.val (.int k), .val (.int id), .val (.int c0), .val (.int c1), .val (.int ms), .val (.int sel), .val (.ref (w sel.toNatClampNeg)), .val sv, .val (.ref x105), .unset, .unset, .unset]) rfl ?_
  refine gNew K109 L_33 (hw _ (List.mem_of_getElem? (i := 37) rfl)) (hw _ (List.mem_of_getElem? (i := 38) rfl)) (hw _ (List.mem_of_getElem? (i := 39) rfl)) (by decide) (by decide) (fun T111 h111 x111 K111 E111 g111 A111 D111 ne111 => ?_)
  have P112 := P110.ext E111
  have ge_x111 : h0.size ≤ x111 := by rw [g111]; exact P110.1
  have F113 : Fld Z h111 x111 "com/example/glean/glean/concept/Concept" "id" "I" (.int (0 : Int32)) := (D111 (Or.inr (hw _ (List.mem_of_getElem? (i := 45) rfl))) (ty := .int) (by decide))
  have F114 : Fld Z h111 x111 "com/example/glean/glean/concept/Concept" "kind" "Lcom/example/glean/glean/concept/Concept$Kind;" .null := (D111 (Or.inr (hw _ (List.mem_of_getElem? (i := 47) rfl))) (ty := (.object "com/example/glean/glean/concept/Concept$Kind")) (by decide))
  have F115 : Fld Z h111 x111 "com/example/glean/glean/concept/Concept" "symbol" "Ljava/lang/String;" .null := (D111 (Or.inr (hw _ (List.mem_of_getElem? (i := 49) rfl))) (ty := (.object "java/lang/String")) (by decide))
  have F116 : Fld Z h111 x111 "com/example/glean/glean/concept/Concept" "operands" "Ljava/util/List;" .null := (D111 (Or.inr (hw _ (List.mem_of_getElem? (i := 51) rfl))) (ty := (.object "java/util/List")) (by decide))
  refine gDup K111 L_36 rfl ?_
  refine gIloadN K111 L_37 (v := id) rfl ?_
  refine gAload K111 L_38 (v := (.ref (w sel.toNatClampNeg))) rfl rfl ?_
  refine gAload K111 L_40 (v := sv) rfl hsv ?_
  refine gAload K111 L_42 (v := (.ref x105)) rfl rfl ?_
  refine gCallI K111 (W := 1) x111 [(.int id), (.ref (w sel.toNatClampNeg)), sv, (.ref x105)] [(.ref x111)] L_44 rfl (hw _ (List.mem_of_getElem? (i := 40) rfl)) (hw _ (List.mem_of_getElem? (i := 41) rfl)) (hw _ (List.mem_of_getElem? (i := 42) rfl)) (Cal.ofN (W := 1) (c_concept l Z a0 hw h111 n0 K111.n0le x111 id (w sel.toNatClampNeg) sv hsv x105 (K111.wsge (List.mem_of_getElem? (i := 0) rfl)) A111 F113 F114 F115 F116) (hw _ (List.mem_of_getElem? (i := 42) rfl)) (hw _ (List.mem_of_getElem? (i := 39) rfl)) (by decide) (by decide)) (fun z q => by cases List.mem_singleton.mp q; exact (List.mem_of_getElem? (i := 0) rfl)) pd9 rfl rfl (Nat.le_of_eq rfl) rfl (by decide) (by decide) (by decide) (fun v117 T117 h117 K117 Q117 q117 => ?_)
  have P118 := P112.trans Q117 (fun z q => by cases List.mem_singleton.mp q; exact Or.inr ge_x111)
  obtain ⟨rfl, Ex117, Fk117, Fs117⟩ := q117
  refine gAstore K117 L_47 rfl (Ls' := #[.val (.int k), .val (.int id), .val (.int c0), .val (.int c1), .val (.int ms), .val (.int sel), .val (.ref (w sel.toNatClampNeg)), .val sv, .val (.ref x105), .val (.ref x111), .unset, .unset]) rfl ?_
  refine gAload K117 L_49 (v := (.ref x111)) rfl rfl ?_
  refine gCallV K117 (W := 0) (C := "com/example/glean/glean/concept/Concept") x111 [] [] L_51 (hw _ (List.mem_of_getElem? (i := 52) rfl)) (hw _ (List.mem_of_getElem? (i := 53) rfl)) (hw _ (List.mem_of_getElem? (i := 55) rfl)) (hw _ (List.mem_of_getElem? (i := 54) rfl)) (Cal.ofN (W := 0) (c_name l Z a0 hw h117 n0 K117.n0le x111 (w sel.toNatClampNeg) sv hsv w (SK.ext (Ext.kp1 (Ext.tr (Ext.kp1 (Ext.tr (Ext.tr E101 E103) E105) Q109 (Nat.le_trans (Ext.tr E101 E103).1 (Nat.le_of_eq g105.symm))) E111) Q117 (Nat.le_trans (Ext.kp1 (Ext.tr (Ext.tr E101 E103) E105) Q109 (Nat.le_trans (Ext.tr E101 E103).1 (Nat.le_of_eq g105.symm))).1 (Nat.le_of_eq g111.symm)))) Fk117 Fs117) (hw _ (List.mem_of_getElem? (i := 56) rfl)) (hw _ (List.mem_of_getElem? (i := 39) rfl)) (by decide) (by decide)) Ex117 (fun _ q => nomatch q) pd10 rfl rfl (Nat.le_of_eq rfl) rfl (by decide) (by decide) (by decide) (fun v119 T119 h119 K119 Q119 q119 => ?_)
  have E119 := Ext.of0 Q119
  have P120 := P118.ext E119
  obtain ⟨rfl, e119⟩ := q119
  by_cases hs2 : sel = 2
  · skip
    rw [if_pos (Or.inl (by rw [hs2]; rfl))]
    refine gAstore K119 L_54 hsv (Ls' := #[.val (.int k), .val (.int id), .val (.int c0), .val (.int c1), .val (.int ms), .val (.int sel), .val (.ref (w sel.toNatClampNeg)), .val sv, .val (.ref x105), .val (.ref x111), .val sv, .unset]) ((XS.store1 (o := .unset) rfl (Or.inl rfl) (XT.cat1 hsv)).trans rfl) ?_
    refine gIload K119 L_56 (v := sel) rfl ?_
    refine gIconst K119 (2 : Int32) L_58 rfl ?_
    refine gIcmp_eq K119 L_59 (fun q59 => ?_) (fun q => absurd q (not_not_intro hs2))
    refine gIconst K119 (1 : Int32) L_68 rfl ?_
    refine gGoto K119 L_69 ?_
    refine gIstore K119 L_73 (Ls' := #[.val (.int k), .val (.int id), .val (.int c0), .val (.int c1), .val (.int ms), .val (.int sel), .val (.ref (w sel.toNatClampNeg)), .val sv, .val (.ref x105), .val (.ref x111), .val sv, .val (.int (1 : Int32))]) rfl ?_
    refine gIload K119 L_75 (v := (1 : Int32)) rfl ?_
    refine gIf_eq K119 L_77 (fun q => absurd q (by first | decide | (intro hh; cases hh) | simp)) (fun q77 => ?_)
    refine gAload K119 L_80 (v := sv) rfl hsv ?_
    refine gAload K119 L_82 (v := sv) rfl hsv ?_
    refine gAcmp_ne K119 L_84 hsv hsv (fun q => absurd q (not_not_intro rfl)) (fun q84 => ?_)
    refine gIconst K119 (1 : Int32) L_87 rfl ?_
    refine gGoto K119 L_88 ?_
    refine gRetI K119 hlk hret (by simp) L_92 rfl P120 (by decide) (by decide) ?_
    exact rfl
  · skip
    by_cases hs3 : sel = 3
    · skip
      rw [if_pos (Or.inr (by rw [hs3]; rfl))]
      refine gAstore K119 L_54 hsv (Ls' := #[.val (.int k), .val (.int id), .val (.int c0), .val (.int c1), .val (.int ms), .val (.int sel), .val (.ref (w sel.toNatClampNeg)), .val sv, .val (.ref x105), .val (.ref x111), .val sv, .unset]) ((XS.store1 (o := .unset) rfl (Or.inl rfl) (XT.cat1 hsv)).trans rfl) ?_
      refine gIload K119 L_56 (v := sel) rfl ?_
      refine gIconst K119 (2 : Int32) L_58 rfl ?_
      refine gIcmp_eq K119 L_59 (fun q => absurd q hs2) (fun q59 => ?_)
      refine gIload K119 L_62 (v := sel) rfl ?_
      refine gIconst K119 (3 : Int32) L_64 rfl ?_
      refine gIcmp_ne K119 L_65 (fun q => absurd q (not_not_intro hs3)) (fun q65 => ?_)
      refine gIconst K119 (1 : Int32) L_68 rfl ?_
      refine gGoto K119 L_69 ?_
      refine gIstore K119 L_73 (Ls' := #[.val (.int k), .val (.int id), .val (.int c0), .val (.int c1), .val (.int ms), .val (.int sel), .val (.ref (w sel.toNatClampNeg)), .val sv, .val (.ref x105), .val (.ref x111), .val sv, .val (.int (1 : Int32))]) rfl ?_
      refine gIload K119 L_75 (v := (1 : Int32)) rfl ?_
      refine gIf_eq K119 L_77 (fun q => absurd q (by first | decide | (intro hh; cases hh) | simp)) (fun q77 => ?_)
      refine gAload K119 L_80 (v := sv) rfl hsv ?_
      refine gAload K119 L_82 (v := sv) rfl hsv ?_
      refine gAcmp_ne K119 L_84 hsv hsv (fun q => absurd q (not_not_intro rfl)) (fun q84 => ?_)
      refine gIconst K119 (1 : Int32) L_87 rfl ?_
      refine gGoto K119 L_88 ?_
      refine gRetI K119 hlk hret (by simp) L_92 rfl P120 (by decide) (by decide) ?_
      exact rfl
    · skip
      rw [if_neg (ne23 hne hsl hs2 hs3)]
      refine gAstore K119 L_54 rfl (Ls' := #[.val (.int k), .val (.int id), .val (.int c0), .val (.int c1), .val (.int ms), .val (.int sel), .val (.ref (w sel.toNatClampNeg)), .val sv, .val (.ref x105), .val (.ref x111), .val .null, .unset]) rfl ?_
      refine gIload K119 L_56 (v := sel) rfl ?_
      refine gIconst K119 (2 : Int32) L_58 rfl ?_
      refine gIcmp_eq K119 L_59 (fun q => absurd q hs2) (fun q59 => ?_)
      refine gIload K119 L_62 (v := sel) rfl ?_
      refine gIconst K119 (3 : Int32) L_64 rfl ?_
      refine gIcmp_ne K119 L_65 (fun q65 => ?_) (fun q => absurd q hs3)
      refine gIconst K119 (0 : Int32) L_72 rfl ?_
      refine gIstore K119 L_73 (Ls' := #[.val (.int k), .val (.int id), .val (.int c0), .val (.int c1), .val (.int ms), .val (.int sel), .val (.ref (w sel.toNatClampNeg)), .val sv, .val (.ref x105), .val (.ref x111), .val .null, .val (.int (0 : Int32))]) rfl ?_
      refine gIload K119 L_75 (v := (0 : Int32)) rfl ?_
      refine gIf_eq K119 L_77 (fun q77 => ?_) (fun q => absurd q (by first | decide | (intro hh; cases hh) | simp))
      refine gAload K119 L_93 (v := .null) rfl rfl ?_
      refine gIfnonnull_f K119 L_95 ?_
      refine gIconst K119 (1 : Int32) L_98 rfl ?_
      refine gGoto K119 L_99 ?_
      refine gRetI K119 hlk hret (by simp) L_103 rfl P120 (by decide) (by decide) ?_
      exact rfl
set_option maxRecDepth 65536 in
set_option maxHeartbeats 40000000 in
theorem comes_1 {Post : Tables → Env → Array Value → State → Outcome → State → Prop} (hpost : ∀ tb e args s v u, (limb_1_1.after args s (.returned v) u = true ∧ limb_1_2.after args s (.returned v) u = true ∧ True) → ReturnedEndW s (.returned v) u (Jvm.fieldLocs frame_1_writes args s ++ Jvm.arrayLocs frame_1_arrays args s ++ Jvm.staticLocs frame_1_statics s) 24 1152 → Post tb e args s (.returned v) u) :
    ArmFor flags0 classFile x code maxLocals ret World_1 tables_1 room_1 Calls_1 rest_1 Pre_1 Post := by
  intro l hfl _ _ p e ha hc hk s m args below hf hA hF happ hP
  obtain ⟨hcalls, hrest, hpre⟩ := hP
  obtain ⟨-, -, -, hnamed, -, -, -, hat⟩ := (Spec.applies_iff hf).mp happ
  obtain ⟨hg, hn⟩ := and_e (Cond.before_iff.mp (show (Jvm.Cond.and given_1 narrow_1).before args s = true from hpre))
  obtain ⟨hcount, hg0⟩ := and_e hg
  obtain ⟨ha0, hg1⟩ := and_e hg0
  obtain ⟨ha1, hg2⟩ := and_e hg1
  obtain ⟨ha2, hg3⟩ := and_e hg2
  obtain ⟨ha3, hg4⟩ := and_e hg3
  have ha4 := hg4
  obtain ⟨w0, w1, w2, w3, w4, rfl⟩ : ∃ w0 w1 w2 w3 w4 : Value, args = #[w0, w1, w2, w3, w4] := by
    have hs : args.size = 5 := by simpa [Cond.value, given_1] using hcount
    obtain ⟨L⟩ := args
    match L, hs with
    | [w0, w1, w2, w3, w4], _ => exact ⟨w0, w1, w2, w3, w4, rfl⟩
  have hw := fun d (hd : d ∈ tables_1) => atoms_spec (ws := Jvm.Cond.code x code maxLocals ret :: tables_1) hat d (List.mem_cons_of_mem _ hd)
  obtain ⟨hsets, hown0⟩ := atoms_of _ (rest_1_c_eq ▸ (show rest_1_c.before _ s = true from hrest))
  have hfit : Fit s := fun {y c} hc i hi => by
    obtain ⟨ha, rfl⟩ := Array.getElem?_eq_some_iff.mp hc
    have q := List.all_eq_true.mp ((Array.all_eq_true_iff_forall_mem.mp hF) _ (Array.getElem_mem ha)) i (List.mem_range.mpr hi)
    simpa [Array.getElem?_eq_getElem hi] using q
  obtain ⟨i0, e0⟩ := is_v ha0
  obtain rfl : w0 = (.int i0) := Option.some.inj e0
  obtain ⟨i1, e1⟩ := is_v ha1
  obtain rfl : w1 = (.int i1) := Option.some.inj e1
  obtain ⟨i2, e2⟩ := is_v ha2
  obtain rfl : w2 = (.int i2) := Option.some.inj e2
  obtain ⟨i3, e3⟩ := is_v ha3
  obtain rfl : w3 = (.int i3) := Option.some.inj e3
  obtain ⟨i4, e4⟩ := is_v ha4
  obtain rfl : w4 = (.int i4) := Option.some.inj e4
  obtain ⟨c0, hn⟩ := and_e hn
  obtain ⟨c1, hn⟩ := and_e hn
  obtain ⟨c2, hn⟩ := and_e hn
  obtain ⟨c3, hn⟩ := and_e hn
  obtain ⟨c4, hn⟩ := and_e hn
  obtain ⟨c5, hn⟩ := and_e hn
  obtain ⟨c6, hn⟩ := and_e hn
  obtain ⟨c7, hn⟩ := and_e hn
  obtain ⟨c8, hn⟩ := and_e hn
  obtain ⟨c9, hn⟩ := and_e hn
  obtain ⟨c10, hn⟩ := and_e hn
  obtain ⟨c11, hn⟩ := and_e hn
  obtain ⟨c12, hn⟩ := and_e hn
  obtain ⟨c13, hn⟩ := and_e hn
  obtain ⟨c14, hn⟩ := and_e hn
  have c15 := hn
  obtain ⟨x_TOP, ev_TOP⟩ := exa_v c0
  have S_TOP : Sta s s.heap "com/example/glean/glean/concept/Concept$Kind" "TOP" "Lcom/example/glean/glean/concept/Concept$Kind;" (.ref x_TOP) := Sta.start ev_TOP (Or.inr ⟨(hw _ (List.mem_of_getElem? (i := 5) rfl)), (hw _ (List.mem_of_getElem? (i := 6) rfl))⟩)
  have A_TOP : Exa s s.heap x_TOP "com/example/glean/glean/concept/Concept$Kind" := Exa.start ev_TOP c0
  obtain ⟨x_NAME, ev_NAME⟩ := exa_v c1
  have S_NAME : Sta s s.heap "com/example/glean/glean/concept/Concept$Kind" "NAME" "Lcom/example/glean/glean/concept/Concept$Kind;" (.ref x_NAME) := Sta.start ev_NAME (Or.inr ⟨(hw _ (List.mem_of_getElem? (i := 5) rfl)), (hw _ (List.mem_of_getElem? (i := 58) rfl))⟩)
  have A_NAME : Exa s s.heap x_NAME "com/example/glean/glean/concept/Concept$Kind" := Exa.start ev_NAME c1
  have o_TOP : Fld s s.heap x_TOP "java/lang/Enum" "ordinal" "I" (.int (0 : Int32)) := ord_of ev_TOP c2
  have o_NAME : Fld s s.heap x_NAME "java/lang/Enum" "ordinal" "I" (.int (2 : Int32)) := ord_of ev_NAME c3
  obtain ⟨x_NEGATED_NAME, ev_NEGATED_NAME⟩ := exa_v c4
  have S_NEGATED_NAME : Sta s s.heap "com/example/glean/glean/concept/Concept$Kind" "NEGATED_NAME" "Lcom/example/glean/glean/concept/Concept$Kind;" (.ref x_NEGATED_NAME) := Sta.start ev_NEGATED_NAME (Or.inr ⟨(hw _ (List.mem_of_getElem? (i := 5) rfl)), (hw _ (List.mem_of_getElem? (i := 60) rfl))⟩)
  have A_NEGATED_NAME : Exa s s.heap x_NEGATED_NAME "com/example/glean/glean/concept/Concept$Kind" := Exa.start ev_NEGATED_NAME c4
  have o_NEGATED_NAME : Fld s s.heap x_NEGATED_NAME "java/lang/Enum" "ordinal" "I" (.int (3 : Int32)) := ord_of ev_NEGATED_NAME c5
  obtain ⟨x_ALL, ev_ALL⟩ := exa_v c6
  have S_ALL : Sta s s.heap "com/example/glean/glean/concept/Concept$Kind" "ALL" "Lcom/example/glean/glean/concept/Concept$Kind;" (.ref x_ALL) := Sta.start ev_ALL (Or.inr ⟨(hw _ (List.mem_of_getElem? (i := 5) rfl)), (hw _ (List.mem_of_getElem? (i := 93) rfl))⟩)
  have A_ALL : Exa s s.heap x_ALL "com/example/glean/glean/concept/Concept$Kind" := Exa.start ev_ALL c6
  have o_ALL : Fld s s.heap x_ALL "java/lang/Enum" "ordinal" "I" (.int (7 : Int32)) := ord_of ev_ALL c7
  obtain ⟨x_SOME, ev_SOME⟩ := exa_v c8
  have S_SOME : Sta s s.heap "com/example/glean/glean/concept/Concept$Kind" "SOME" "Lcom/example/glean/glean/concept/Concept$Kind;" (.ref x_SOME) := Sta.start ev_SOME (Or.inr ⟨(hw _ (List.mem_of_getElem? (i := 5) rfl)), (hw _ (List.mem_of_getElem? (i := 96) rfl))⟩)
  have A_SOME : Exa s s.heap x_SOME "com/example/glean/glean/concept/Concept$Kind" := Exa.start ev_SOME c8
  have o_SOME : Fld s s.heap x_SOME "java/lang/Enum" "ordinal" "I" (.int (6 : Int32)) := ord_of ev_SOME c9
  obtain ⟨x_OR, ev_OR⟩ := exa_v c10
  have S_OR : Sta s s.heap "com/example/glean/glean/concept/Concept$Kind" "OR" "Lcom/example/glean/glean/concept/Concept$Kind;" (.ref x_OR) := Sta.start ev_OR (Or.inr ⟨(hw _ (List.mem_of_getElem? (i := 5) rfl)), (hw _ (List.mem_of_getElem? (i := 98) rfl))⟩)
  have A_OR : Exa s s.heap x_OR "com/example/glean/glean/concept/Concept$Kind" := Exa.start ev_OR c10
  have o_OR : Fld s s.heap x_OR "java/lang/Enum" "ordinal" "I" (.int (5 : Int32)) := ord_of ev_OR c11
  obtain ⟨x_AND, ev_AND⟩ := exa_v c12
  have S_AND : Sta s s.heap "com/example/glean/glean/concept/Concept$Kind" "AND" "Lcom/example/glean/glean/concept/Concept$Kind;" (.ref x_AND) := Sta.start ev_AND (Or.inr ⟨(hw _ (List.mem_of_getElem? (i := 5) rfl)), (hw _ (List.mem_of_getElem? (i := 100) rfl))⟩)
  have A_AND : Exa s s.heap x_AND "com/example/glean/glean/concept/Concept$Kind" := Exa.start ev_AND c12
  have o_AND : Fld s s.heap x_AND "java/lang/Enum" "ordinal" "I" (.int (4 : Int32)) := ord_of ev_AND c13
  obtain ⟨x_BOTTOM, ev_BOTTOM⟩ := exa_v c14
  have S_BOTTOM : Sta s s.heap "com/example/glean/glean/concept/Concept$Kind" "BOTTOM" "Lcom/example/glean/glean/concept/Concept$Kind;" (.ref x_BOTTOM) := Sta.start ev_BOTTOM (Or.inr ⟨(hw _ (List.mem_of_getElem? (i := 5) rfl)), (hw _ (List.mem_of_getElem? (i := 102) rfl))⟩)
  have A_BOTTOM : Exa s s.heap x_BOTTOM "com/example/glean/glean/concept/Concept$Kind" := Exa.start ev_BOTTOM c14
  have o_BOTTOM : Fld s s.heap x_BOTTOM "java/lang/Enum" "ordinal" "I" (.int (1 : Int32)) := ord_of ev_BOTTOM c15
  obtain ⟨z_COMPACT_STRINGS, ez_COMPACT_STRINGS⟩ := is_v (Cond.before_iff.mp (hsets _ (List.mem_of_getElem? (i := 10) rfl)))
  have S_COMPACT_STRINGS : Sta s s.heap "java/lang/String" "COMPACT_STRINGS" "Z" (.int z_COMPACT_STRINGS) := Sta.start ez_COMPACT_STRINGS (Or.inl (hsets _ (List.mem_of_getElem? (i := 9) rfl)))
  have nz_COMPACT_STRINGS : ¬ (z_COMPACT_STRINGS = (0 : Int32)) := gotF (Cond.eq_ints ez_COMPACT_STRINGS (Term.int_eval (0))) (not_v (Cond.before_iff.mp (hsets _ (List.mem_of_getElem? (i := 11) rfl))))
  obtain ⟨v_SIOOBE_FORMATTER, ez_SIOOBE_FORMATTER, r_SIOOBE_FORMATTER⟩ := isR_v (Cond.before_iff.mp (hsets _ (List.mem_of_getElem? (i := 17) rfl)))
  have S_SIOOBE_FORMATTER : Sta s s.heap "jdk/internal/util/Preconditions" "SIOOBE_FORMATTER" "Ljava/util/function/BiFunction;" v_SIOOBE_FORMATTER := Sta.start ez_SIOOBE_FORMATTER (Or.inl (hsets _ (List.mem_of_getElem? (i := 16) rfl)))
  obtain ⟨dd, edd⟩ := exa_v (Cond.before_iff.mp (hsets _ (List.mem_of_getElem? (i := 7) rfl)))
  have Sdd : Sta s s.heap "java/util/ArrayList" "DEFAULTCAPACITY_EMPTY_ELEMENTDATA" "[Ljava/lang/Object;" (.ref dd) := Sta.start edd (Or.inr ⟨(hw _ (List.mem_of_getElem? (i := 13) rfl)), hsets _ (List.mem_of_getElem? (i := 2) rfl)⟩)
  have FO : ∀ i, i < 8 → Fld s s.heap ([x_TOP, x_BOTTOM, x_NAME, x_NEGATED_NAME, x_AND, x_OR, x_SOME, x_ALL].getD i 0) "java/lang/Enum" "ordinal" "I" (.int (Int32.ofNat i)) := fun i hi => by
    match i, hi with
    | 0, _ => exact o_TOP
    | 1, _ => exact o_BOTTOM
    | 2, _ => exact o_NAME
    | 3, _ => exact o_NEGATED_NAME
    | 4, _ => exact o_AND
    | 5, _ => exact o_OR
    | 6, _ => exact o_SOME
    | 7, _ => exact o_ALL
  have hne : ∀ i j, i < 8 → j < 8 → i ≠ j → [x_TOP, x_BOTTOM, x_NAME, x_NEGATED_NAME, x_AND, x_OR, x_SOME, x_ALL].getD i 0 ≠ [x_TOP, x_BOTTOM, x_NAME, x_NEGATED_NAME, x_AND, x_OR, x_SOME, x_ALL].getD j 0 := fun i j hi hj hij => Fld.ne (FO i hi) (FO j hj) (fun q => hij (by have := (by decide : ∀ a b : Fin 8, Int32.ofNat a.1 = Int32.ofNat b.1 → a = b) ⟨i, hi⟩ ⟨j, hj⟩ (Value.int.inj q); exact congrArg Fin.val this))
  have hE := (EW.cons (text := "") (hw _ (List.mem_of_getElem? (i := 89) rfl)) (by decide) EW.nil)
  have hCH := CHv.start hE (fun q hq => hcalls.1 q hq) (hsets _ (List.mem_of_getElem? (i := 11) rfl)) (hw _ (List.mem_of_getElem? (i := 78) rfl)) (hw _ (List.mem_of_getElem? (i := 63) rfl))
  obtain ⟨n, o, h1, h2, h3, v, L, rfl, ⟨hv, Kp, N⟩, hq⟩ := (c_law l s _ hw s.heap s.heap.size (Nat.le_refl _) hE i0 i1 i2 i3 i4 (fun i => [x_TOP, x_BOTTOM, x_NAME, x_NEGATED_NAME, x_AND, x_OR, x_SOME, x_ALL].getD i 0) ⟨S_TOP, S_BOTTOM, S_NAME, S_NEGATED_NAME, S_AND, S_OR, S_SOME, S_ALL⟩ z_COMPACT_STRINGS S_COMPACT_STRINGS nz_COMPACT_STRINGS dd Sdd hne).asW p e ha hc hk s m _ below hf ((Spec.applies_iff_loose hf).mp happ).1 ⟨rfl, State.Warmed39.refl s, rfl, hCH, (fun _ q => nomatch q)⟩ trivial
  subst hv
  refine ⟨n, _, h1, h2, h3, hpost _ _ _ _ _ _ ⟨Cond.after_iff.mpr rfl, Cond.after_iff.mpr (eq_i res_at (Term.int_eval (1)) rfl), trivial⟩ ⟨hq.2.1, hq.2.2.1, hq.2.2.2.1, (hq.2.2.2.2.sift fun y hy => Or.inr (N y hy)).mono (by decide) (by decide)⟩⟩
theorem main_1_1 : Claimed_1_1 := comes_1 fun _ _ _ _ _ _ h hF => ⟨h.1, hF⟩
theorem main_1_2 : Claimed_1_2 := comes_1 fun _ _ _ _ _ _ h hF => ⟨h.2.1, hF⟩

end Jvm.Pilot.@@N@@
namespace Jvm.Pilot.@@N@@
open Jvm Jvm.ClassFile Sem Op Lib Jvm.Free Jvm.Stand Jvm.Pilot.@@N@@.Jvm.D
/-! MADE BY PROGRAM (witnessworld.py) out of the Statement's table words and the real class files: 31 classes; the members and pool entries that the words name. The judged class is class 1, her method 3. -/
namespace start1
open Jvm.ClassFile
def u (s : String) : CpInfo := .utf8 (stringToUtf16 s)
/-- a pool by its gaps: so many unusable entries, then the entry; so many at the end -/
def gap : Nat → List CpInfo → List CpInfo
  | 0, r => r
  | n + 1, r => .unusable :: gap n r
def poolList (es : List (Nat × CpInfo)) (last : Nat) : List CpInfo := es.foldr (fun e r => gap e.1 (e.2 :: r)) (gap last [])
def pool (es : List (Nat × CpInfo)) (last : Nat) : Array CpInfo := ⟨poolList es last⟩
def fileOf (pool : Array CpInfo) (this : Nat) (attrs : Array Attribute := #[]) (ms : Array MethodInfo := #[]) (fl : Nat := 33) (sup : Nat := 0) (ifs : Array Nat := #[]) (fds : Array FieldInfo := #[]) : ClassFile where
  minorVersion := 0
  majorVersion := 65
  constantPool := pool
  accessFlags := fl
  thisClass := this
  superClass := sup
  interfaces := ifs
  fields := fds
  methods := ms
  attributes := attrs
def plain (name : String) (sup : Option ClassId) : Class where
  name := name
  kind := .ordinary
  loader := none
  accessFlags := 33
  super := sup
  interfaces := #[]
  cf := none
  fields := #[]
  methods := #[]
  instanceTypes := #[]
  staticTypes := #[]
  resolved := #[]
  callSites := []
  init := .initialized
  statics := none
  mirror := none

def pool0 : Array CpInfo := pool [(5, u "<init>"), (0, u "()V"), (1, .class_ 10), (1, u "java/lang/Object")] 113

def k0c0 : Code := { maxStack := 0, maxLocals := 1, code := object_method_1_code, exceptionTable := #[], attributes := #[] }
def k0m0 : Method := { name := "<init>", desc := "()V", sig := { parameters := [], returnType := none }, accessFlags := 1, code := some k0c0 }
/-- java/lang/Object -/
def k0 : Class := { plain "java/lang/Object" none with
  accessFlags := 33
  interfaces := #[]
  cf := some (fileOf pool0 8 #[] #[{ accessFlags := 1, nameIndex := 5, descriptorIndex := 6, attributes := #[] }] 33 0 #[] #[])
  fields := #[]
  methods := #[k0m0]
  instanceTypes := #[]
  staticTypes := #[]
  resolved := Array.replicate 124 none
  statics := none }

def pool1 : Array CpInfo := pool [(2, .class_ 4), (0, .nameAndType 5 6), (0, u "java/lang/Object"), (0, u "<init>"), (0, u "()V"), (0, .fieldref 8 9), (0, .class_ 10), (0, .nameAndType 11 12), (0, u "com/example/glean/glean/concept/Concept$Kind"), (0, u "TOP"), (0, u "Lcom/example/glean/glean/concept/Concept$Kind;"), (0, .fieldref 8 14), (0, .nameAndType 15 12), (0, u "BOTTOM"), (0, .fieldref 8 17), (0, .nameAndType 18 12), (0, u "NAME"), (0, .fieldref 8 20), (0, .nameAndType 21 12), (0, u "NEGATED_NAME"), (0, .fieldref 8 23), (0, .nameAndType 24 12), (0, u "AND"), (0, .fieldref 8 26), (0, .nameAndType 27 12), (0, u "OR"), (0, .fieldref 8 29), (0, .nameAndType 30 12), (0, u "SOME"), (0, .fieldref 8 32), (0, .nameAndType 33 12), (0, u "ALL"), (0, .class_ 35), (0, u "java/lang/String"), (0, .methodref 34 37), (0, .nameAndType 5 38), (0, u "([C)V"), (0, .methodref 34 40), (0, .nameAndType 41 42), (0, u "valueOf"), (0, u "(C)Ljava/lang/String;"), (0, .methodref 44 45), (0, .class_ 46), (0, .nameAndType 47 48), (0, u "com/example/glean/glean/concept/ConceptNamePinLaw"), (0, u "kindOf"), (0, u "(I)Lcom/example/glean/glean/concept/Concept$Kind;"), (0, .methodref 44 50), (0, .nameAndType 51 52), (0, u "symbolOf"), (0, u "(III)Ljava/lang/String;"), (0, .class_ 54), (0, u "java/util/ArrayList"), (0, .methodref 53 3), (0, .class_ 57), (0, u "com/example/glean/glean/concept/Concept"), (0, .methodref 56 59), (0, .nameAndType 5 60), (0, u "(ILcom/example/glean/glean/concept/Concept$Kind;Ljava/lang/String;Ljava/util/List;)V"), (0, .methodref 56 62), (0, .nameAndType 63 64), (0, u "name"), (0, u "()Ljava/lang/String;"), (5, u "law"), (0, u "(IIIII)Z")] 4

def k1m0 : Method := { name := "<init>", desc := "()V", sig := { parameters := [], returnType := none }, accessFlags := 1, code := none }
def k1c1 : Code := { maxStack := 2, maxLocals := 1, code := method_2_code, exceptionTable := #[], attributes := #[] }
def k1m1 : Method := { name := "kindOf", desc := "(I)Lcom/example/glean/glean/concept/Concept$Kind;", sig := { parameters := [.int], returnType := some (.object "com/example/glean/glean/concept/Concept$Kind") }, accessFlags := 10, code := some k1c1 }
def k1c2 : Code := { maxStack := 5, maxLocals := 5, code := method_3_code, exceptionTable := #[], attributes := #[] }
def k1m2 : Method := { name := "symbolOf", desc := "(III)Ljava/lang/String;", sig := { parameters := [.int, .int, .int], returnType := some (.object "java/lang/String") }, accessFlags := 10, code := some k1c2 }
def k1c3 : Code := { maxStack := 6, maxLocals := 12, code := code, exceptionTable := #[], attributes := #[] }
def k1m3 : Method := { name := "law", desc := "(IIIII)Z", sig := { parameters := [.int, .int, .int, .int, .int], returnType := some .boolean }, accessFlags := 9, code := some k1c3 }
/-- com/example/glean/glean/concept/ConceptNamePinLaw -/
def k1 : Class := { plain "com/example/glean/glean/concept/ConceptNamePinLaw" (some 0) with
  accessFlags := 49
  interfaces := #[]
  cf := some (fileOf pool1 44 #[] #[{ accessFlags := 1, nameIndex := 5, descriptorIndex := 6, attributes := #[] }, { accessFlags := 10, nameIndex := 47, descriptorIndex := 48, attributes := #[] }, { accessFlags := 10, nameIndex := 51, descriptorIndex := 52, attributes := #[] }, { accessFlags := 9, nameIndex := 70, descriptorIndex := 71, attributes := #[] }] 49 2 #[] #[])
  fields := #[]
  methods := #[k1m0, k1m1, k1m2, k1m3]
  instanceTypes := #[]
  staticTypes := #[]
  resolved := Array.replicate 76 none
  statics := none }

def pool2 : Array CpInfo := pool [(1, .class_ 2), (0, u "java/lang/constant/Constable"), (0, .class_ 4), (0, u "java/lang/Object")] 6

/-- java/lang/constant/Constable -/
def k2 : Class := { plain "java/lang/constant/Constable" (some 0) with
  accessFlags := 1537
  interfaces := #[]
  cf := some (fileOf pool2 1 #[] #[] 1537 3 #[] #[])
  fields := #[]
  methods := #[]
  instanceTypes := #[]
  staticTypes := #[]
  resolved := Array.replicate 11 none
  statics := none }

def pool3 : Array CpInfo := pool [(1, .class_ 2), (0, u "java/lang/Comparable"), (0, .class_ 4), (0, u "java/lang/Object")] 7

/-- java/lang/Comparable -/
def k3 : Class := { plain "java/lang/Comparable" (some 0) with
  accessFlags := 1537
  interfaces := #[]
  cf := some (fileOf pool3 1 #[] #[] 1537 3 #[] #[])
  fields := #[]
  methods := #[]
  instanceTypes := #[]
  staticTypes := #[]
  resolved := Array.replicate 12 none
  statics := none }

def pool4 : Array CpInfo := pool [(1, .class_ 2), (0, u "java/io/Serializable"), (0, .class_ 4), (0, u "java/lang/Object")] 2

/-- java/io/Serializable -/
def k4 : Class := { plain "java/io/Serializable" (some 0) with
  accessFlags := 1537
  interfaces := #[]
  cf := some (fileOf pool4 1 #[] #[] 1537 3 #[] #[])
  fields := #[]
  methods := #[]
  instanceTypes := #[]
  staticTypes := #[]
  resolved := Array.replicate 7 none
  statics := none }

def pool5 : Array CpInfo := pool [(2, .class_ 4), (1, u "java/lang/Enum"), (0, u "name"), (0, u "Ljava/lang/String;"), (2, u "ordinal"), (0, u "I"), (1, .class_ 14), (1, u "java/lang/Object"), (4, u "hash"), (86, .class_ 108), (1, u "java/lang/Enum$EnumDesc"), (2, .class_ 112), (0, u "java/lang/constant/Constable"), (0, .class_ 114), (0, u "java/lang/Comparable"), (0, .class_ 116), (0, u "java/io/Serializable")] 87

/-- java/lang/Enum -/
def k5 : Class := { plain "java/lang/Enum" (some 0) with
  accessFlags := 1057
  interfaces := #[2, 3, 4]
  cf := some (fileOf pool5 2 #[.nestMembers #[106]] #[] 1057 12 #[111, 113, 115] #[{ accessFlags := 18, nameIndex := 5, descriptorIndex := 6, attributes := #[] }, { accessFlags := 18, nameIndex := 9, descriptorIndex := 10, attributes := #[] }, { accessFlags := 2, nameIndex := 19, descriptorIndex := 10, attributes := #[] }])
  fields := #[{ name := "name", type := (.object "java/lang/String"), accessFlags := 18, slot := 0, constantValue := 0 }, { name := "ordinal", type := .int, accessFlags := 18, slot := 1, constantValue := 0 }, { name := "hash", type := .int, accessFlags := 2, slot := 2, constantValue := 0 }]
  methods := #[]
  instanceTypes := #[(.object "java/lang/String"), .int, .int]
  staticTypes := #[]
  resolved := Array.replicate 204 none
  statics := none }

def pool6 : Array CpInfo := pool [(1, .class_ 2), (0, u "com/example/glean/glean/concept/Concept$Kind"), (2, u "TOP"), (0, u "Lcom/example/glean/glean/concept/Concept$Kind;"), (2, u "BOTTOM"), (2, u "NAME"), (2, u "NEGATED_NAME"), (2, u "AND"), (2, u "OR"), (2, u "SOME"), (2, u "ALL"), (2, u "$VALUES"), (0, u "[Lcom/example/glean/glean/concept/Concept$Kind;"), (6, .class_ 40), (1, u "java/lang/Enum"), (31, .class_ 73), (0, u "com/example/glean/glean/concept/Concept")] 2

/-- com/example/glean/glean/concept/Concept$Kind -/
def k6 : Class := { plain "com/example/glean/glean/concept/Concept$Kind" (some 5) with
  accessFlags := 16433
  interfaces := #[]
  cf := some (fileOf pool6 1 #[.nestHost 72] #[] 16433 38 #[] #[{ accessFlags := 16409, nameIndex := 5, descriptorIndex := 6, attributes := #[] }, { accessFlags := 16409, nameIndex := 9, descriptorIndex := 6, attributes := #[] }, { accessFlags := 16409, nameIndex := 12, descriptorIndex := 6, attributes := #[] }, { accessFlags := 16409, nameIndex := 15, descriptorIndex := 6, attributes := #[] }, { accessFlags := 16409, nameIndex := 18, descriptorIndex := 6, attributes := #[] }, { accessFlags := 16409, nameIndex := 21, descriptorIndex := 6, attributes := #[] }, { accessFlags := 16409, nameIndex := 24, descriptorIndex := 6, attributes := #[] }, { accessFlags := 16409, nameIndex := 27, descriptorIndex := 6, attributes := #[] }, { accessFlags := 4122, nameIndex := 30, descriptorIndex := 31, attributes := #[] }])
  fields := #[{ name := "TOP", type := (.object "com/example/glean/glean/concept/Concept$Kind"), accessFlags := 16409, slot := 0, constantValue := 0 }, { name := "BOTTOM", type := (.object "com/example/glean/glean/concept/Concept$Kind"), accessFlags := 16409, slot := 1, constantValue := 0 }, { name := "NAME", type := (.object "com/example/glean/glean/concept/Concept$Kind"), accessFlags := 16409, slot := 2, constantValue := 0 }, { name := "NEGATED_NAME", type := (.object "com/example/glean/glean/concept/Concept$Kind"), accessFlags := 16409, slot := 3, constantValue := 0 }, { name := "AND", type := (.object "com/example/glean/glean/concept/Concept$Kind"), accessFlags := 16409, slot := 4, constantValue := 0 }, { name := "OR", type := (.object "com/example/glean/glean/concept/Concept$Kind"), accessFlags := 16409, slot := 5, constantValue := 0 }, { name := "SOME", type := (.object "com/example/glean/glean/concept/Concept$Kind"), accessFlags := 16409, slot := 6, constantValue := 0 }, { name := "ALL", type := (.object "com/example/glean/glean/concept/Concept$Kind"), accessFlags := 16409, slot := 7, constantValue := 0 }, { name := "$VALUES", type := (.array (.object "com/example/glean/glean/concept/Concept$Kind")), accessFlags := 4122, slot := 8, constantValue := 0 }]
  methods := #[]
  instanceTypes := #[(.object "java/lang/String"), .int, .int]
  staticTypes := #[(.object "com/example/glean/glean/concept/Concept$Kind"), (.object "com/example/glean/glean/concept/Concept$Kind"), (.object "com/example/glean/glean/concept/Concept$Kind"), (.object "com/example/glean/glean/concept/Concept$Kind"), (.object "com/example/glean/glean/concept/Concept$Kind"), (.object "com/example/glean/glean/concept/Concept$Kind"), (.object "com/example/glean/glean/concept/Concept$Kind"), (.object "com/example/glean/glean/concept/Concept$Kind"), (.array (.object "com/example/glean/glean/concept/Concept$Kind"))]
  resolved := Array.replicate 76 none
  statics := some 0 }

def pool7 : Array CpInfo := pool [(8, .class_ 10), (1, u "java/lang/Iterable"), (24, .class_ 36), (0, u "java/lang/Object")] 25

/-- java/lang/Iterable -/
def k7 : Class := { plain "java/lang/Iterable" (some 0) with
  accessFlags := 1537
  interfaces := #[]
  cf := some (fileOf pool7 8 #[] #[] 1537 35 #[] #[])
  fields := #[]
  methods := #[]
  instanceTypes := #[]
  staticTypes := #[]
  resolved := Array.replicate 62 none
  statics := none }

def pool8 : Array CpInfo := pool [(10, .class_ 12), (1, u "java/util/Collection"), (47, .class_ 61), (0, u "java/lang/Object"), (0, .class_ 63), (0, u "java/lang/Iterable")] 51

/-- java/util/Collection -/
def k8 : Class := { plain "java/util/Collection" (some 0) with
  accessFlags := 1537
  interfaces := #[7]
  cf := some (fileOf pool8 10 #[] #[] 1537 60 #[62] #[])
  fields := #[]
  methods := #[]
  instanceTypes := #[]
  staticTypes := #[]
  resolved := Array.replicate 115 none
  statics := none }

def pool9 : Array CpInfo := pool [(1, .methodref 2 3), (0, .class_ 4), (0, .nameAndType 5 6), (0, u "java/lang/Object"), (0, u "<init>"), (0, u "()V"), (1, .class_ 10), (1, u "java/util/AbstractCollection"), (66, .class_ 78), (0, u "java/util/Collection")] 81

def k9c0 : Code := { maxStack := 1, maxLocals := 1, code := jdk_22_method_1_code, exceptionTable := #[], attributes := #[] }
def k9m0 : Method := { name := "<init>", desc := "()V", sig := { parameters := [], returnType := none }, accessFlags := 4, code := some k9c0 }
/-- java/util/AbstractCollection -/
def k9 : Class := { plain "java/util/AbstractCollection" (some 0) with
  accessFlags := 1057
  interfaces := #[8]
  cf := some (fileOf pool9 8 #[] #[{ accessFlags := 4, nameIndex := 5, descriptorIndex := 6, attributes := #[] }] 1057 2 #[77] #[])
  fields := #[]
  methods := #[k9m0]
  instanceTypes := #[]
  staticTypes := #[]
  resolved := Array.replicate 160 none
  statics := none }

def pool10 : Array CpInfo := pool [(8, .class_ 10), (1, u "java/util/SequencedCollection"), (15, .class_ 27), (0, u "java/lang/Object"), (0, .class_ 29), (0, u "java/util/Collection")] 27

/-- java/util/SequencedCollection -/
def k10 : Class := { plain "java/util/SequencedCollection" (some 0) with
  accessFlags := 1537
  interfaces := #[8]
  cf := some (fileOf pool10 8 #[] #[] 1537 26 #[28] #[])
  fields := #[]
  methods := #[]
  instanceTypes := #[]
  staticTypes := #[]
  resolved := Array.replicate 57 none
  statics := none }

def pool11 : Array CpInfo := pool [(8, .class_ 10), (1, u "java/util/List"), (92, .class_ 104), (0, u "java/lang/Object"), (15, .class_ 121), (0, u "java/util/SequencedCollection")] 129

/-- java/util/List -/
def k11 : Class := { plain "java/util/List" (some 0) with
  accessFlags := 1537
  interfaces := #[10]
  cf := some (fileOf pool11 8 #[] #[] 1537 103 #[120] #[])
  fields := #[]
  methods := #[]
  instanceTypes := #[]
  staticTypes := #[]
  resolved := Array.replicate 251 none
  statics := none }

def pool12 : Array CpInfo := pool [(1, .methodref 2 3), (0, .class_ 4), (0, .nameAndType 5 6), (0, u "java/util/AbstractCollection"), (0, u "<init>"), (0, u "()V"), (0, .fieldref 8 9), (0, .class_ 10), (0, .nameAndType 11 12), (0, u "java/util/AbstractList"), (0, u "modCount"), (0, u "I"), (64, .class_ 78), (0, u "java/util/AbstractList$Itr"), (3, .class_ 83), (0, u "java/util/AbstractList$ListItr"), (9, .class_ 94), (0, u "java/util/AbstractList$RandomAccessSubList"), (3, .class_ 99), (0, u "java/util/AbstractList$SubList"), (33, .class_ 134), (0, u "java/util/List"), (73, .class_ 209), (0, u "java/util/AbstractList$SubList$1"), (0, .class_ 211), (0, u "java/util/AbstractList$RandomAccessSpliterator")] 6

def k12c0 : Code := { maxStack := 2, maxLocals := 1, code := jdk_39_method_1_code, exceptionTable := #[], attributes := #[] }
def k12m0 : Method := { name := "<init>", desc := "()V", sig := { parameters := [], returnType := none }, accessFlags := 4, code := some k12c0 }
/-- java/util/AbstractList -/
def k12 : Class := { plain "java/util/AbstractList" (some 9) with
  accessFlags := 1057
  interfaces := #[11]
  cf := some (fileOf pool12 8 #[.nestMembers #[93, 98, 208, 210, 82, 77]] #[{ accessFlags := 4, nameIndex := 5, descriptorIndex := 6, attributes := #[] }] 1057 2 #[133] #[{ accessFlags := 132, nameIndex := 11, descriptorIndex := 12, attributes := #[] }])
  fields := #[{ name := "modCount", type := .int, accessFlags := 132, slot := 0, constantValue := 0 }]
  methods := #[k12m0]
  instanceTypes := #[.int]
  staticTypes := #[]
  resolved := Array.replicate 218 none
  statics := none }

def pool13 : Array CpInfo := pool [(1, .class_ 2), (0, u "java/util/RandomAccess"), (0, .class_ 4), (0, u "java/lang/Object")] 2

/-- java/util/RandomAccess -/
def k13 : Class := { plain "java/util/RandomAccess" (some 0) with
  accessFlags := 1537
  interfaces := #[]
  cf := some (fileOf pool13 1 #[] #[] 1537 3 #[] #[])
  fields := #[]
  methods := #[]
  instanceTypes := #[]
  staticTypes := #[]
  resolved := Array.replicate 7 none
  statics := none }

def pool14 : Array CpInfo := pool [(1, .class_ 2), (0, u "java/lang/Cloneable"), (0, .class_ 4), (0, u "java/lang/Object")] 2

/-- java/lang/Cloneable -/
def k14 : Class := { plain "java/lang/Cloneable" (some 0) with
  accessFlags := 1537
  interfaces := #[]
  cf := some (fileOf pool14 1 #[] #[] 1537 3 #[] #[])
  fields := #[]
  methods := #[]
  instanceTypes := #[]
  staticTypes := #[]
  resolved := Array.replicate 7 none
  statics := none }

def pool15 : Array CpInfo := pool [(1, .methodref 2 3), (0, .class_ 4), (0, .nameAndType 5 6), (0, u "java/util/AbstractList"), (0, u "<init>"), (0, u "()V"), (2, .fieldref 10 11), (0, .class_ 12), (0, .nameAndType 13 14), (0, u "java/util/ArrayList"), (0, u "elementData"), (0, u "[Ljava/lang/Object;"), (2, u "EMPTY_ELEMENTDATA"), (21, .fieldref 10 40), (0, .nameAndType 41 14), (0, u "DEFAULTCAPACITY_EMPTY_ELEMENTDATA"), (8, u "size"), (0, u "I"), (96, .class_ 149), (0, u "java/util/List"), (112, .class_ 263), (0, u "java/util/ArrayList$ListItr"), (3, .class_ 268), (0, u "java/util/ArrayList$Itr"), (7, .class_ 277), (0, u "java/util/ArrayList$SubList"), (12, .class_ 291), (0, u "java/util/ArrayList$ArrayListSpliterator"), (37, .class_ 330), (0, u "java/util/RandomAccess"), (0, .class_ 332), (0, u "java/lang/Cloneable"), (0, .class_ 334), (0, u "java/io/Serializable"), (0, u "serialVersionUID"), (0, u "J"), (3, u "DEFAULT_CAPACITY"), (159, .class_ 501), (0, u "java/util/ArrayList$SubList$2"), (0, .class_ 503), (0, u "java/util/ArrayList$SubList$1")] 5

def k15c0 : Code := { maxStack := 2, maxLocals := 1, code := jdk_38_method_2_code, exceptionTable := #[], attributes := #[] }
def k15m0 : Method := { name := "<init>", desc := "()V", sig := { parameters := [], returnType := none }, accessFlags := 1, code := some k15c0 }
/-- java/util/ArrayList -/
def k15 : Class := { plain "java/util/ArrayList" (some 12) with
  accessFlags := 33
  interfaces := #[11, 13, 14, 4]
  cf := some (fileOf pool15 10 #[.nestMembers #[290, 276, 500, 502, 262, 267]] #[{ accessFlags := 1, nameIndex := 5, descriptorIndex := 6, attributes := #[] }] 33 2 #[148, 329, 331, 333] #[{ accessFlags := 26, nameIndex := 335, descriptorIndex := 336, attributes := #[] }, { accessFlags := 26, nameIndex := 340, descriptorIndex := 51, attributes := #[] }, { accessFlags := 26, nameIndex := 17, descriptorIndex := 14, attributes := #[] }, { accessFlags := 26, nameIndex := 41, descriptorIndex := 14, attributes := #[] }, { accessFlags := 128, nameIndex := 13, descriptorIndex := 14, attributes := #[] }, { accessFlags := 2, nameIndex := 50, descriptorIndex := 51, attributes := #[] }])
  fields := #[{ name := "serialVersionUID", type := .long, accessFlags := 26, slot := 0, constantValue := 0 }, { name := "DEFAULT_CAPACITY", type := .int, accessFlags := 26, slot := 1, constantValue := 0 }, { name := "EMPTY_ELEMENTDATA", type := (.array (.object "java/lang/Object")), accessFlags := 26, slot := 2, constantValue := 0 }, { name := "DEFAULTCAPACITY_EMPTY_ELEMENTDATA", type := (.array (.object "java/lang/Object")), accessFlags := 26, slot := 3, constantValue := 0 }, { name := "elementData", type := (.array (.object "java/lang/Object")), accessFlags := 128, slot := 1, constantValue := 0 }, { name := "size", type := .int, accessFlags := 2, slot := 2, constantValue := 0 }]
  methods := #[k15m0]
  instanceTypes := #[.int, (.array (.object "java/lang/Object")), .int]
  staticTypes := #[.long, .int, (.array (.object "java/lang/Object")), (.array (.object "java/lang/Object"))]
  resolved := Array.replicate 509 none
  statics := some 1 }

def pool16 : Array CpInfo := pool [(1, .methodref 2 3), (0, .class_ 4), (0, .nameAndType 5 6), (0, u "java/lang/Object"), (0, u "<init>"), (0, u "()V"), (0, .fieldref 8 9), (0, .class_ 10), (0, .nameAndType 11 12), (0, u "com/example/glean/glean/concept/Concept"), (0, u "id"), (0, u "I"), (0, .fieldref 8 14), (0, .nameAndType 15 16), (0, u "kind"), (0, u "Lcom/example/glean/glean/concept/Concept$Kind;"), (0, .fieldref 8 18), (0, .nameAndType 19 20), (0, u "symbol"), (0, u "Ljava/lang/String;"), (0, .fieldref 8 22), (0, .nameAndType 23 24), (0, u "operands"), (0, u "Ljava/util/List;"), (0, .fieldref 26 27), (0, .class_ 28), (0, .nameAndType 29 16), (0, u "com/example/glean/glean/concept/Concept$Kind"), (0, u "NAME"), (0, .fieldref 26 31), (0, .nameAndType 32 16), (0, u "NEGATED_NAME"), (14, u "complement"), (0, u "Lcom/example/glean/glean/concept/Concept;"), (2, u "(ILcom/example/glean/glean/concept/Concept$Kind;Ljava/lang/String;Ljava/util/List;)V"), (5, u "name"), (0, u "()Ljava/lang/String;")] 15

def k16c0 : Code := { maxStack := 2, maxLocals := 5, code := prog_9_method_1_code, exceptionTable := #[], attributes := #[] }
def k16m0 : Method := { name := "<init>", desc := "(ILcom/example/glean/glean/concept/Concept$Kind;Ljava/lang/String;Ljava/util/List;)V", sig := { parameters := [.int, (.object "com/example/glean/glean/concept/Concept$Kind"), (.object "java/lang/String"), (.object "java/util/List")], returnType := none }, accessFlags := 0, code := some k16c0 }
def k16c1 : Code := { maxStack := 2, maxLocals := 1, code := prog_9_method_4_code, exceptionTable := #[], attributes := #[] }
def k16m1 : Method := { name := "name", desc := "()Ljava/lang/String;", sig := { parameters := [], returnType := some (.object "java/lang/String") }, accessFlags := 1, code := some k16c1 }
/-- com/example/glean/glean/concept/Concept -/
def k16 : Class := { plain "com/example/glean/glean/concept/Concept" (some 0) with
  accessFlags := 33
  interfaces := #[]
  cf := some (fileOf pool16 8 #[.nestMembers #[26]] #[{ accessFlags := 0, nameIndex := 5, descriptorIndex := 51, attributes := #[] }, { accessFlags := 1, nameIndex := 57, descriptorIndex := 58, attributes := #[] }] 33 2 #[] #[{ accessFlags := 18, nameIndex := 11, descriptorIndex := 12, attributes := #[] }, { accessFlags := 18, nameIndex := 15, descriptorIndex := 16, attributes := #[] }, { accessFlags := 18, nameIndex := 19, descriptorIndex := 20, attributes := #[] }, { accessFlags := 18, nameIndex := 23, descriptorIndex := 24, attributes := #[] }, { accessFlags := 2, nameIndex := 47, descriptorIndex := 48, attributes := #[] }])
  fields := #[{ name := "id", type := .int, accessFlags := 18, slot := 0, constantValue := 0 }, { name := "kind", type := (.object "com/example/glean/glean/concept/Concept$Kind"), accessFlags := 18, slot := 1, constantValue := 0 }, { name := "symbol", type := (.object "java/lang/String"), accessFlags := 18, slot := 2, constantValue := 0 }, { name := "operands", type := (.object "java/util/List"), accessFlags := 18, slot := 3, constantValue := 0 }, { name := "complement", type := (.object "com/example/glean/glean/concept/Concept"), accessFlags := 2, slot := 4, constantValue := 0 }]
  methods := #[k16m0, k16m1]
  instanceTypes := #[.int, (.object "com/example/glean/glean/concept/Concept$Kind"), (.object "java/lang/String"), (.object "java/util/List"), (.object "com/example/glean/glean/concept/Concept")]
  staticTypes := #[]
  resolved := Array.replicate 74 none
  statics := none }

def pool17 : Array CpInfo := pool [(2, .class_ 4), (1, u "java/lang/CharSequence"), (42, .class_ 48), (0, u "java/lang/CharSequence$1CodePointIterator"), (10, .class_ 60), (0, u "java/lang/CharSequence$1CharIterator"), (5, .class_ 67), (0, u "java/lang/Object")] 63

/-- java/lang/CharSequence -/
def k17 : Class := { plain "java/lang/CharSequence" (some 0) with
  accessFlags := 1537
  interfaces := #[]
  cf := some (fileOf pool17 2 #[.nestMembers #[47, 59]] #[] 1537 66 #[] #[])
  fields := #[]
  methods := #[]
  instanceTypes := #[]
  staticTypes := #[]
  resolved := Array.replicate 131 none
  statics := none }

def pool18 : Array CpInfo := pool [(1, .class_ 2), (0, u "java/lang/constant/ConstantDesc"), (0, .class_ 4), (0, u "java/lang/Object")] 32

/-- java/lang/constant/ConstantDesc -/
def k18 : Class := { plain "java/lang/constant/ConstantDesc" (some 0) with
  accessFlags := 1537
  interfaces := #[]
  cf := some (fileOf pool18 1 #[] #[] 1537 3 #[] #[])
  fields := #[]
  methods := #[]
  instanceTypes := #[]
  staticTypes := #[]
  resolved := Array.replicate 37 none
  statics := none }

def pool19 : Array CpInfo := pool [(1, .methodref 2 3), (0, .class_ 4), (0, .nameAndType 5 6), (0, u "java/lang/Object"), (0, u "<init>"), (0, u "()V"), (0, .string 8), (0, u ""), (0, .fieldref 10 11), (0, .class_ 12), (0, .nameAndType 13 14), (0, u "java/lang/String"), (0, u "value"), (0, u "[B"), (0, .fieldref 10 16), (0, .nameAndType 17 18), (0, u "coder"), (0, u "B"), (2, u "hash"), (0, u "I"), (2, u "hashIsZero"), (0, u "Z"), (0, .methodref 10 28), (0, .nameAndType 5 29), (0, u "([CIILjava/lang/Void;)V"), (8, .fieldref 10 39), (0, .nameAndType 40 26), (0, u "COMPACT_STRINGS"), (1, .class_ 44), (1, u "java/lang/StringUTF16"), (0, u "compress"), (1, .methodref 42 48), (0, .nameAndType 49 50), (0, u "coderFromArrayLen"), (0, u "([BI)B"), (2, u "toBytes"), (53, .class_ 109), (1, u "java/lang/StringLatin1"), (67, .methodref 42 178), (0, .nameAndType 45 179), (0, u "([CII)[B"), (29, .methodref 10 210), (0, .nameAndType 5 211), (0, u "([BB)V"), (157, u "(C)Z"), (205, .class_ 576), (0, u "java/lang/CharSequence"), (22, u "CASE_INSENSITIVE_ORDER"), (0, u "Ljava/util/Comparator;"), (181, u "valueOf"), (0, u "(C)Ljava/lang/String;"), (226, u "([C)V"), (4, .methodref 107 1016), (0, .nameAndType 1017 369), (0, u "canEncode"), (0, .methodref 107 1019), (0, .nameAndType 53 1020), (0, u "(C)[B"), (80, u "serialPersistentFields"), (0, u "[Ljava/io/ObjectStreamField;"), (0, .class_ 1104), (0, u "java/lang/String$CaseInsensitiveComparator"), (1, .class_ 1107), (0, u "java/io/Serializable"), (0, .class_ 1109), (0, u "java/lang/Comparable"), (0, .class_ 1111), (0, u "java/lang/constant/Constable"), (0, .class_ 1113), (0, u "java/lang/constant/ConstantDesc"), (2, u "serialVersionUID"), (0, u "J"), (3, u "REPL"), (0, u "C"), (2, u "LATIN1"), (1, u "UTF16")] 323

def k19m0 : Method := { name := "<init>", desc := "()V", sig := { parameters := [], returnType := none }, accessFlags := 1, code := none }
def k19c1 : Code := { maxStack := 5, maxLocals := 2, code := jdk_42_method_3_code, exceptionTable := #[], attributes := #[] }
def k19m1 : Method := { name := "<init>", desc := "([C)V", sig := { parameters := [(.array .char)], returnType := none }, accessFlags := 1, code := some k19c1 }
def k19c2 : Code := { maxStack := 4, maxLocals := 1, code := jdk_42_method_139_code, exceptionTable := #[], attributes := #[] }
def k19m2 : Method := { name := "valueOf", desc := "(C)Ljava/lang/String;", sig := { parameters := [.char], returnType := some (.object "java/lang/String") }, accessFlags := 9, code := some k19c2 }
def k19c3 : Code := { maxStack := 4, maxLocals := 6, code := jdk_42_method_149_code, exceptionTable := #[], attributes := #[] }
def k19m3 : Method := { name := "<init>", desc := "([CIILjava/lang/Void;)V", sig := { parameters := [(.array .char), .int, .int, (.object "java/lang/Void")], returnType := none }, accessFlags := 2, code := some k19c3 }
def k19c4 : Code := { maxStack := 2, maxLocals := 3, code := jdk_42_method_151_code, exceptionTable := #[], attributes := #[] }
def k19m4 : Method := { name := "<init>", desc := "([BB)V", sig := { parameters := [(.array .byte), .byte], returnType := none }, accessFlags := 0, code := some k19c4 }
/-- java/lang/String -/
def k19 : Class := { plain "java/lang/String" (some 0) with
  accessFlags := 49
  interfaces := #[4, 3, 17, 2, 18]
  cf := some (fileOf pool19 10 #[.nestMembers #[1103]] #[{ accessFlags := 1, nameIndex := 5, descriptorIndex := 6, attributes := #[] }, { accessFlags := 1, nameIndex := 5, descriptorIndex := 1010, attributes := #[] }, { accessFlags := 9, nameIndex := 782, descriptorIndex := 783, attributes := #[] }, { accessFlags := 2, nameIndex := 5, descriptorIndex := 29, attributes := #[] }, { accessFlags := 0, nameIndex := 5, descriptorIndex := 211, attributes := #[] }] 49 2 #[1106, 1108, 575, 1110, 1112] #[{ accessFlags := 18, nameIndex := 13, descriptorIndex := 14, attributes := #[] }, { accessFlags := 18, nameIndex := 17, descriptorIndex := 18, attributes := #[] }, { accessFlags := 2, nameIndex := 21, descriptorIndex := 22, attributes := #[] }, { accessFlags := 2, nameIndex := 25, descriptorIndex := 26, attributes := #[] }, { accessFlags := 26, nameIndex := 1116, descriptorIndex := 1117, attributes := #[] }, { accessFlags := 24, nameIndex := 40, descriptorIndex := 26, attributes := #[] }, { accessFlags := 26, nameIndex := 1101, descriptorIndex := 1102, attributes := #[] }, { accessFlags := 26, nameIndex := 1121, descriptorIndex := 1122, attributes := #[] }, { accessFlags := 25, nameIndex := 599, descriptorIndex := 600, attributes := #[] }, { accessFlags := 24, nameIndex := 1125, descriptorIndex := 18, attributes := #[] }, { accessFlags := 24, nameIndex := 1127, descriptorIndex := 18, attributes := #[] }])
  fields := #[{ name := "value", type := (.array .byte), accessFlags := 18, slot := 0, constantValue := 0 }, { name := "coder", type := .byte, accessFlags := 18, slot := 1, constantValue := 0 }, { name := "hash", type := .int, accessFlags := 2, slot := 2, constantValue := 0 }, { name := "hashIsZero", type := .boolean, accessFlags := 2, slot := 3, constantValue := 0 }, { name := "serialVersionUID", type := .long, accessFlags := 26, slot := 0, constantValue := 0 }, { name := "COMPACT_STRINGS", type := .boolean, accessFlags := 24, slot := 1, constantValue := 0 }, { name := "serialPersistentFields", type := (.array (.object "java/io/ObjectStreamField")), accessFlags := 26, slot := 2, constantValue := 0 }, { name := "REPL", type := .char, accessFlags := 26, slot := 3, constantValue := 0 }, { name := "CASE_INSENSITIVE_ORDER", type := (.object "java/util/Comparator"), accessFlags := 25, slot := 4, constantValue := 0 }, { name := "LATIN1", type := .byte, accessFlags := 24, slot := 5, constantValue := 0 }, { name := "UTF16", type := .byte, accessFlags := 24, slot := 6, constantValue := 0 }]
  methods := #[k19m0, k19m1, k19m2, k19m3, k19m4]
  instanceTypes := #[(.array .byte), .byte, .int, .boolean]
  staticTypes := #[.long, .boolean, (.array (.object "java/io/ObjectStreamField")), .char, (.object "java/util/Comparator"), .byte, .byte]
  resolved := Array.replicate 1451 none
  statics := some 2 }

def pool20 : Array CpInfo := pool [(6, .class_ 8), (1, u "java/lang/Object"), (0, u "<init>"), (0, u "()V"), (1, .class_ 14), (1, u "java/lang/StringUTF16"), (31, u "$assertionsDisabled"), (0, u "Z"), (13, u "HI_BYTE_SHIFT"), (0, u "I"), (2, u "LO_BYTE_SHIFT"), (49, .methodref 12 116), (0, .nameAndType 117 118), (0, u "compress"), (0, u "([CI[BII)I"), (3, u "([CII)[B"), (138, u "coderFromArrayLen"), (0, u "([BI)B"), (106, .class_ 371), (1, u "java/lang/StringUTF16$LinesSpliterator"), (58, u "MAX_LENGTH"), (196, .class_ 628), (0, u "java/lang/StringUTF16$CodePointsSpliterator"), (0, .class_ 630), (0, u "java/lang/StringUTF16$CharsSpliterator")] 4

def k20m0 : Method := { name := "<init>", desc := "()V", sig := { parameters := [], returnType := none }, accessFlags := 0, code := none }
def k20c1 : Code := { maxStack := 2, maxLocals := 2, code := jdk_52_method_15_code, exceptionTable := #[], attributes := #[] }
def k20m1 : Method := { name := "coderFromArrayLen", desc := "([BI)B", sig := { parameters := [(.array .byte), .int], returnType := some .byte }, accessFlags := 8, code := some k20c1 }
def k20c2 : Code := { maxStack := 5, maxLocals := 6, code := jdk_52_method_16_code, exceptionTable := #[], attributes := #[] }
def k20m2 : Method := { name := "compress", desc := "([CII)[B", sig := { parameters := [(.array .char), .int, .int], returnType := some (.array .byte) }, accessFlags := 9, code := some k20c2 }
def k20c3 : Code := { maxStack := 3, maxLocals := 7, code := jdk_52_method_21_code, exceptionTable := #[], attributes := #[] }
def k20m3 : Method := { name := "compress", desc := "([CI[BII)I", sig := { parameters := [(.array .char), .int, (.array .byte), .int, .int], returnType := some .int }, accessFlags := 9, code := some k20c3 }
/-- java/lang/StringUTF16 -/
def k20 : Class := { plain "java/lang/StringUTF16" (some 0) with
  accessFlags := 48
  interfaces := #[]
  cf := some (fileOf pool20 12 #[.nestMembers #[627, 629, 369]] #[{ accessFlags := 0, nameIndex := 9, descriptorIndex := 10, attributes := #[] }, { accessFlags := 8, nameIndex := 261, descriptorIndex := 262, attributes := #[] }, { accessFlags := 9, nameIndex := 117, descriptorIndex := 122, attributes := #[] }, { accessFlags := 9, nameIndex := 117, descriptorIndex := 118, attributes := #[] }] 48 6 #[] #[{ accessFlags := 26, nameIndex := 61, descriptorIndex := 62, attributes := #[] }, { accessFlags := 26, nameIndex := 65, descriptorIndex := 62, attributes := #[] }, { accessFlags := 24, nameIndex := 430, descriptorIndex := 62, attributes := #[] }, { accessFlags := 4120, nameIndex := 46, descriptorIndex := 47, attributes := #[] }])
  fields := #[{ name := "HI_BYTE_SHIFT", type := .int, accessFlags := 26, slot := 0, constantValue := 0 }, { name := "LO_BYTE_SHIFT", type := .int, accessFlags := 26, slot := 1, constantValue := 0 }, { name := "MAX_LENGTH", type := .int, accessFlags := 24, slot := 2, constantValue := 0 }, { name := "$assertionsDisabled", type := .boolean, accessFlags := 4120, slot := 3, constantValue := 0 }]
  methods := #[k20m0, k20m1, k20m2, k20m3]
  instanceTypes := #[]
  staticTypes := #[.int, .int, .int, .boolean]
  resolved := Array.replicate 635 none
  statics := none }

def pool21 : Array CpInfo := pool [(4, .class_ 6), (1, u "java/lang/Object"), (0, u "<init>"), (0, u "()V"), (5, .class_ 16), (1, u "java/lang/StringLatin1"), (73, u "canEncode"), (14, u "(C)Z"), (15, u "$assertionsDisabled"), (0, u "Z"), (98, .class_ 223), (1, u "java/lang/StringLatin1$LinesSpliterator"), (156, u "toBytes"), (1, u "(C)[B"), (7, .class_ 391), (0, u "java/lang/StringLatin1$CharsSpliterator")] 3

def k21m0 : Method := { name := "<init>", desc := "()V", sig := { parameters := [], returnType := none }, accessFlags := 0, code := none }
def k21c1 : Code := { maxStack := 2, maxLocals := 1, code := jdk_43_method_3_code, exceptionTable := #[], attributes := #[] }
def k21m1 : Method := { name := "canEncode", desc := "(C)Z", sig := { parameters := [.char], returnType := some .boolean }, accessFlags := 9, code := some k21c1 }
def k21c2 : Code := { maxStack := 4, maxLocals := 1, code := jdk_43_method_46_code, exceptionTable := #[], attributes := #[] }
def k21m2 : Method := { name := "toBytes", desc := "(C)[B", sig := { parameters := [.char], returnType := some (.array .byte) }, accessFlags := 9, code := some k21c2 }
/-- java/lang/StringLatin1 -/
def k21 : Class := { plain "java/lang/StringLatin1" (some 0) with
  accessFlags := 48
  interfaces := #[]
  cf := some (fileOf pool21 14 #[.nestMembers #[390, 221]] #[{ accessFlags := 0, nameIndex := 7, descriptorIndex := 8, attributes := #[] }, { accessFlags := 9, nameIndex := 90, descriptorIndex := 105, attributes := #[] }, { accessFlags := 9, nameIndex := 380, descriptorIndex := 382, attributes := #[] }] 48 4 #[] #[{ accessFlags := 4120, nameIndex := 121, descriptorIndex := 122, attributes := #[] }])
  fields := #[{ name := "$assertionsDisabled", type := .boolean, accessFlags := 4120, slot := 0, constantValue := 0 }]
  methods := #[k21m0, k21m1, k21m2]
  instanceTypes := #[]
  staticTypes := #[.boolean]
  resolved := Array.replicate 395 none
  statics := none }

def pool22 : Array CpInfo := pool [(2, .class_ 4), (1, u "java/lang/Object"), (0, u "<init>"), (0, u "()V"), (17, .class_ 26), (1, u "jdk/internal/util/Preconditions"), (28, .class_ 56), (0, u "jdk/internal/util/Preconditions$4"), (57, .class_ 115), (0, u "jdk/internal/util/Preconditions$1"), (7, u "SIOOBE_FORMATTER"), (0, u "Ljava/util/function/BiFunction;"), (0, .class_ 126), (0, u "jdk/internal/util/Preconditions$2"), (3, u "AIOOBE_FORMATTER"), (0, .class_ 132), (0, u "jdk/internal/util/Preconditions$3"), (3, u "IOOBE_FORMATTER")] 57

def k22m0 : Method := { name := "<init>", desc := "()V", sig := { parameters := [], returnType := none }, accessFlags := 1, code := none }
/-- jdk/internal/util/Preconditions -/
def k22 : Class := { plain "jdk/internal/util/Preconditions" (some 0) with
  accessFlags := 33
  interfaces := #[]
  cf := some (fileOf pool22 24 #[.nestMembers #[55, 131, 125, 114]] #[{ accessFlags := 1, nameIndex := 5, descriptorIndex := 6, attributes := #[] }] 33 2 #[] #[{ accessFlags := 25, nameIndex := 123, descriptorIndex := 124, attributes := #[] }, { accessFlags := 25, nameIndex := 130, descriptorIndex := 124, attributes := #[] }, { accessFlags := 25, nameIndex := 136, descriptorIndex := 124, attributes := #[] }])
  fields := #[{ name := "SIOOBE_FORMATTER", type := (.object "java/util/function/BiFunction"), accessFlags := 25, slot := 0, constantValue := 0 }, { name := "AIOOBE_FORMATTER", type := (.object "java/util/function/BiFunction"), accessFlags := 25, slot := 1, constantValue := 0 }, { name := "IOOBE_FORMATTER", type := (.object "java/util/function/BiFunction"), accessFlags := 25, slot := 2, constantValue := 0 }]
  methods := #[k22m0]
  instanceTypes := #[]
  staticTypes := #[(.object "java/util/function/BiFunction"), (.object "java/util/function/BiFunction"), (.object "java/util/function/BiFunction")]
  resolved := Array.replicate 194 none
  statics := some 3 }

def pool23 : Array CpInfo := pool [(9, u "<init>"), (6, .class_ 18), (1, u "java/lang/Object"), (0, u "()V"), (1, .class_ 23), (1, u "jdk/internal/util/ArraysSupport"), (0, u "LOG2_ARRAY_LONG_INDEX_SCALE"), (0, u "I"), (2, u "U"), (0, u "Ljdk/internal/misc/Unsafe;"), (8, u "BIG_ENDIAN"), (0, u "Z"), (8, u "LOG2_BYTE_BIT_SIZE"), (4, u "LOG2_ARRAY_INT_INDEX_SCALE"), (54, u "JLA"), (0, u "Ljdk/internal/access/JavaLangAccess;"), (11, u "LOG2_ARRAY_BOOLEAN_INDEX_SCALE"), (9, u "LOG2_ARRAY_BYTE_INDEX_SCALE"), (5, u "LOG2_ARRAY_CHAR_INDEX_SCALE"), (5, u "LOG2_ARRAY_SHORT_INDEX_SCALE"), (18, u "LOG2_ARRAY_FLOAT_INDEX_SCALE"), (24, u "LOG2_ARRAY_DOUBLE_INDEX_SCALE"), (89, u "T_BOOLEAN"), (2, u "T_CHAR"), (1, u "T_FLOAT"), (1, u "T_DOUBLE"), (1, u "T_BYTE"), (1, u "T_SHORT"), (1, u "T_INT"), (1, u "T_LONG"), (1, u "SOFT_MAX_ARRAY_LENGTH")] 83

def k23m0 : Method := { name := "<init>", desc := "()V", sig := { parameters := [], returnType := none }, accessFlags := 2, code := none }
/-- jdk/internal/util/ArraysSupport -/
def k23 : Class := { plain "jdk/internal/util/ArraysSupport" (some 0) with
  accessFlags := 33
  interfaces := #[]
  cf := some (fileOf pool23 21 #[] #[{ accessFlags := 2, nameIndex := 9, descriptorIndex := 19, attributes := #[] }] 33 16 #[] #[{ accessFlags := 24, nameIndex := 28, descriptorIndex := 29, attributes := #[] }, { accessFlags := 26, nameIndex := 38, descriptorIndex := 39, attributes := #[] }, { accessFlags := 25, nameIndex := 121, descriptorIndex := 25, attributes := #[] }, { accessFlags := 25, nameIndex := 131, descriptorIndex := 25, attributes := #[] }, { accessFlags := 25, nameIndex := 137, descriptorIndex := 25, attributes := #[] }, { accessFlags := 25, nameIndex := 143, descriptorIndex := 25, attributes := #[] }, { accessFlags := 25, nameIndex := 53, descriptorIndex := 25, attributes := #[] }, { accessFlags := 25, nameIndex := 24, descriptorIndex := 25, attributes := #[] }, { accessFlags := 25, nameIndex := 162, descriptorIndex := 25, attributes := #[] }, { accessFlags := 25, nameIndex := 187, descriptorIndex := 25, attributes := #[] }, { accessFlags := 26, nameIndex := 48, descriptorIndex := 25, attributes := #[] }, { accessFlags := 25, nameIndex := 277, descriptorIndex := 25, attributes := #[] }, { accessFlags := 25, nameIndex := 280, descriptorIndex := 25, attributes := #[] }, { accessFlags := 25, nameIndex := 282, descriptorIndex := 25, attributes := #[] }, { accessFlags := 25, nameIndex := 284, descriptorIndex := 25, attributes := #[] }, { accessFlags := 25, nameIndex := 286, descriptorIndex := 25, attributes := #[] }, { accessFlags := 25, nameIndex := 288, descriptorIndex := 25, attributes := #[] }, { accessFlags := 25, nameIndex := 290, descriptorIndex := 25, attributes := #[] }, { accessFlags := 25, nameIndex := 292, descriptorIndex := 25, attributes := #[] }, { accessFlags := 26, nameIndex := 108, descriptorIndex := 109, attributes := #[] }, { accessFlags := 25, nameIndex := 294, descriptorIndex := 25, attributes := #[] }])
  fields := #[{ name := "U", type := (.object "jdk/internal/misc/Unsafe"), accessFlags := 24, slot := 0, constantValue := 0 }, { name := "BIG_ENDIAN", type := .boolean, accessFlags := 26, slot := 1, constantValue := 0 }, { name := "LOG2_ARRAY_BOOLEAN_INDEX_SCALE", type := .int, accessFlags := 25, slot := 2, constantValue := 0 }, { name := "LOG2_ARRAY_BYTE_INDEX_SCALE", type := .int, accessFlags := 25, slot := 3, constantValue := 0 }, { name := "LOG2_ARRAY_CHAR_INDEX_SCALE", type := .int, accessFlags := 25, slot := 4, constantValue := 0 }, { name := "LOG2_ARRAY_SHORT_INDEX_SCALE", type := .int, accessFlags := 25, slot := 5, constantValue := 0 }, { name := "LOG2_ARRAY_INT_INDEX_SCALE", type := .int, accessFlags := 25, slot := 6, constantValue := 0 }, { name := "LOG2_ARRAY_LONG_INDEX_SCALE", type := .int, accessFlags := 25, slot := 7, constantValue := 0 }, { name := "LOG2_ARRAY_FLOAT_INDEX_SCALE", type := .int, accessFlags := 25, slot := 8, constantValue := 0 }, { name := "LOG2_ARRAY_DOUBLE_INDEX_SCALE", type := .int, accessFlags := 25, slot := 9, constantValue := 0 }, { name := "LOG2_BYTE_BIT_SIZE", type := .int, accessFlags := 26, slot := 10, constantValue := 0 }, { name := "T_BOOLEAN", type := .int, accessFlags := 25, slot := 11, constantValue := 0 }, { name := "T_CHAR", type := .int, accessFlags := 25, slot := 12, constantValue := 0 }, { name := "T_FLOAT", type := .int, accessFlags := 25, slot := 13, constantValue := 0 }, { name := "T_DOUBLE", type := .int, accessFlags := 25, slot := 14, constantValue := 0 }, { name := "T_BYTE", type := .int, accessFlags := 25, slot := 15, constantValue := 0 }, { name := "T_SHORT", type := .int, accessFlags := 25, slot := 16, constantValue := 0 }, { name := "T_INT", type := .int, accessFlags := 25, slot := 17, constantValue := 0 }, { name := "T_LONG", type := .int, accessFlags := 25, slot := 18, constantValue := 0 }, { name := "JLA", type := (.object "jdk/internal/access/JavaLangAccess"), accessFlags := 26, slot := 19, constantValue := 0 }, { name := "SOFT_MAX_ARRAY_LENGTH", type := .int, accessFlags := 25, slot := 20, constantValue := 0 }]
  methods := #[k23m0]
  instanceTypes := #[]
  staticTypes := #[(.object "jdk/internal/misc/Unsafe"), .boolean, .int, .int, .int, .int, .int, .int, .int, .int, .int, .int, .int, .int, .int, .int, .int, .int, .int, (.object "jdk/internal/access/JavaLangAccess"), .int]
  resolved := Array.replicate 378 none
  statics := none }

/-- the primitive byte -/
def k24 : Class := { plain "byte" none with kind := .primitive 'B', accessFlags := 0x411 }
/-- [B -/
def k25 : Class := { plain "[B" (some 0) with kind := .array 24 .byte, interfaces := #[14, 4], accessFlags := 1041 }

/-- the primitive char -/
def k26 : Class := { plain "char" none with kind := .primitive 'C', accessFlags := 0x411 }
/-- [C -/
def k27 : Class := { plain "[C" (some 0) with kind := .array 26 .char, interfaces := #[14, 4], accessFlags := 1041 }

/-- the primitive int -/
def k28 : Class := { plain "int" none with kind := .primitive 'I', accessFlags := 0x411 }
/-- [I -/
def k29 : Class := { plain "[I" (some 0) with kind := .array 28 .int, interfaces := #[14, 4], accessFlags := 1041 }

/-- [Ljava/lang/Object; -/
def k30 : Class := { plain "[Ljava/lang/Object;" (some 0) with kind := .array 0 (.object "java/lang/Object"), interfaces := #[14, 4], accessFlags := 1041 }

def heap : Heap := #[{ cls := 6, slots := #[.ref 4, .ref 5, .ref 6, .ref 7, .ref 8, .ref 9, .ref 10, .ref 11, .null], vm := .statics 6 },
  { cls := 15, slots := #[.long 0, .int 0, .ref 12, .ref 13], vm := .statics 15 },
  { cls := 19, slots := #[.long 0, .int 1, .null, .int 0, .null, .int 0, .int 0], vm := .statics 19 },
  { cls := 22, slots := #[.null, .null, .null], vm := .statics 22 },
  { cls := 6, slots := #[.null, .int 0, .int 0], vm := .none },
  { cls := 6, slots := #[.null, .int 1, .int 0], vm := .none },
  { cls := 6, slots := #[.null, .int 2, .int 0], vm := .none },
  { cls := 6, slots := #[.null, .int 3, .int 0], vm := .none },
  { cls := 6, slots := #[.null, .int 4, .int 0], vm := .none },
  { cls := 6, slots := #[.null, .int 5, .int 0], vm := .none },
  { cls := 6, slots := #[.null, .int 6, .int 0], vm := .none },
  { cls := 6, slots := #[.null, .int 7, .int 0], vm := .none },
  { cls := 30, slots := #[], vm := .none },
  { cls := 30, slots := #[], vm := .none }]
def classes : Array Class := #[k0, k1, k2, k3, k4, k5, k6, k7, k8, k9, k10, k11, k12, k13, k14, k15, k16, k17, k18, k19, k20, k21, k22, k23, k24, k25, k26, k27, k28, k29, k30]
def interned : List (Array UInt16 × Addr) := []
def slotsUsed : Nat := 47
def theMethod : MethodId := ⟨1, 3⟩
def args0 : Array Value := #[.int 6, .int 5, .int 65, .int 66, .int 3]
def aboutOver (below : List Frame) : State where
  vm := { classes := classes, interned := interned.toArray }
  heap := heap
  slotsUsed := slotsUsed
  threads := #[{ frames := .invoking theMethod args0 :: below }]
def below0 : List Frame := [.native { method := ⟨0, 0⟩, args := #[] }]
def about1 : State := aboutOver below0
def p0 : Program := .bare "" "" ""
def e0 : Env := launch0.env 0 0 0
theorem w_frames : about1.frames = Frame.invoking theMethod args0 :: below0 := rfl
set_option maxRecDepth 65536 in
theorem w_args : argsFit about1.vm theMethod args0 = true := by decide +kernel
set_option maxRecDepth 65536 in
theorem w_heap : heapFits about1 = true := by decide +kernel
set_option maxRecDepth 65536 in
theorem w_runnable : about1.curStatus? = some .runnable := by decide +kernel
set_option maxRecDepth 65536 in
theorem w_alone : about1.alone = true := by decide +kernel
set_option maxRecDepth 65536 in
theorem w_named : about1.methodNamed? x = some theMethod := by decide +kernel
set_option maxRecDepth 65536 in
theorem w_hears : about1.hears theMethod below0 = true := by decide +kernel
set_option maxRecDepth 65536 in
theorem w_ripe : about1.ripe theMethod args0 below0 = true := by decide +kernel
theorem w_running : about1.status = .running := rfl
set_option maxRecDepth 65536 in
theorem w_room : about1.hasRoom e0.platform room_1 = true :=
  launch0.hasRoom_least _ room_1 (by decide +kernel) (by decide +kernel) (by decide +kernel) (by decide +kernel) (by decide +kernel) (by decide +kernel)
theorem allAtoms_all (ts : List Jvm.Cond) (a : Array Jvm.Value) (st : Jvm.State) : (allAtoms ts).before a st = ts.all (fun c => c.before a st) := by
  induction ts with
  | nil => rfl
  | cons c t ih =>
    show (Jvm.Cond.and c (allAtoms t)).before a st = _
    rw [Jvm.Cond.before_and, ih, List.all_cons]
def words1 : List Jvm.Cond := Jvm.Cond.code x code maxLocals ret :: tables_1
/-- a 'code' word, met by the world's own term for the bytes: nothing is compared byte by byte -/
theorem code_word {y : MethodName} {bytes : ByteArray} {mx : Nat} {rt : Option FieldType} {a : Array Value} {s : State} {m : MethodId} {meth : Method} {c : Code} (h1 : s.methodNamed? y = some m) (h2 : s.vm.method? m = some meth) (h3 : meth.code = some c) (h4 : c.code = bytes)
    (h5 : (c.maxLocals == mx && c.exceptionTable.isEmpty && decide (c.maxStack ≤ mostOperands) && decide (meth.sig.returnType = rt) && !meth.locks && decide (parseMethodDescriptor y.desc = some meth.sig)) = true) : (Jvm.Cond.code y bytes mx rt).before a s = true := by
  simp only [Bool.and_eq_true, beq_iff_eq, Bool.not_eq_true', decide_eq_true_eq] at h5
  obtain ⟨⟨⟨⟨⟨g1, g2⟩, g3⟩, g4⟩, g5⟩, g6⟩ := h5
  simp [Cond.before, Cond.holds, Cond.value, h1, h2, h3, h4, g1, g2, g3, g4, g5, g6]
def isCode : Jvm.Cond → Bool
  | .code _ _ _ _ => true
  | _ => false
theorem all_split {L : List Jvm.Cond} {P : Jvm.Cond → Bool} (h1 : L.all (fun c => isCode c || P c) = true) (h2 : ∀ c ∈ L.filter isCode, P c = true) : L.all P = true := by
  refine List.all_eq_true.mpr fun c hc => ?_
  have h := List.all_eq_true.mp h1 c hc
  rcases Bool.eq_false_or_eq_true (isCode c) with hi | hi
  · exact h2 c (List.mem_filter.mpr ⟨hc, hi⟩)
  · simpa [hi] using h
set_option maxRecDepth 65536 in
theorem w_c0 : (Jvm.Cond.code x code maxLocals ret).before args0 about1 = true := code_word (m := ⟨1, 3⟩) (meth := k1m3) (c := k1c3) (by decide +kernel) rfl rfl rfl (by decide +kernel)
set_option maxRecDepth 65536 in
theorem w_c1 : (Jvm.Cond.code ({ cls := "com/example/glean/glean/concept/ConceptNamePinLaw", name := "kindOf", desc := "(I)Lcom/example/glean/glean/concept/Concept$Kind;" } : Jvm.MethodName) method_2_code (1 : Nat) (Option.some (Jvm.ClassFile.FieldType.object "com/example/glean/glean/concept/Concept$Kind"))).before args0 about1 = true := code_word (m := ⟨1, 1⟩) (meth := k1m1) (c := k1c1) (by decide +kernel) rfl rfl rfl (by decide +kernel)
set_option maxRecDepth 65536 in
theorem w_c2 : (Jvm.Cond.code ({ cls := "com/example/glean/glean/concept/ConceptNamePinLaw", name := "symbolOf", desc := "(III)Ljava/lang/String;" } : Jvm.MethodName) method_3_code (5 : Nat) (Option.some (Jvm.ClassFile.FieldType.object "java/lang/String"))).before args0 about1 = true := code_word (m := ⟨1, 2⟩) (meth := k1m2) (c := k1c2) (by decide +kernel) rfl rfl rfl (by decide +kernel)
set_option maxRecDepth 65536 in
theorem w_c3 : (Jvm.Cond.code ({ cls := "java/util/ArrayList", name := "<init>", desc := "()V" } : Jvm.MethodName) jdk_38_method_2_code (1 : Nat) (Option.none : Option Jvm.ClassFile.FieldType)).before args0 about1 = true := code_word (m := ⟨15, 0⟩) (meth := k15m0) (c := k15c0) (by decide +kernel) rfl rfl rfl (by decide +kernel)
set_option maxRecDepth 65536 in
theorem w_c4 : (Jvm.Cond.code ({ cls := "java/util/AbstractList", name := "<init>", desc := "()V" } : Jvm.MethodName) jdk_39_method_1_code (1 : Nat) (Option.none : Option Jvm.ClassFile.FieldType)).before args0 about1 = true := code_word (m := ⟨12, 0⟩) (meth := k12m0) (c := k12c0) (by decide +kernel) rfl rfl rfl (by decide +kernel)
set_option maxRecDepth 65536 in
theorem w_c5 : (Jvm.Cond.code ({ cls := "java/util/AbstractCollection", name := "<init>", desc := "()V" } : Jvm.MethodName) jdk_22_method_1_code (1 : Nat) (Option.none : Option Jvm.ClassFile.FieldType)).before args0 about1 = true := code_word (m := ⟨9, 0⟩) (meth := k9m0) (c := k9c0) (by decide +kernel) rfl rfl rfl (by decide +kernel)
set_option maxRecDepth 65536 in
theorem w_c6 : (Jvm.Cond.code ({ cls := "java/lang/Object", name := "<init>", desc := "()V" } : Jvm.MethodName) object_method_1_code (1 : Nat) (Option.none : Option Jvm.ClassFile.FieldType)).before args0 about1 = true := code_word (m := ⟨0, 0⟩) (meth := k0m0) (c := k0c0) (by decide +kernel) rfl rfl rfl (by decide +kernel)
set_option maxRecDepth 65536 in
theorem w_c7 : (Jvm.Cond.code ({ cls := "com/example/glean/glean/concept/Concept", name := "<init>", desc := "(ILcom/example/glean/glean/concept/Concept$Kind;Ljava/lang/String;Ljava/util/List;)V" } : Jvm.MethodName) prog_9_method_1_code (5 : Nat) (Option.none : Option Jvm.ClassFile.FieldType)).before args0 about1 = true := code_word (m := ⟨16, 0⟩) (meth := k16m0) (c := k16c0) (by decide +kernel) rfl rfl rfl (by decide +kernel)
set_option maxRecDepth 65536 in
theorem w_c8 : (Jvm.Cond.code ({ cls := "com/example/glean/glean/concept/Concept", name := "name", desc := "()Ljava/lang/String;" } : Jvm.MethodName) prog_9_method_4_code (1 : Nat) (Option.some (Jvm.ClassFile.FieldType.object "java/lang/String"))).before args0 about1 = true := code_word (m := ⟨16, 1⟩) (meth := k16m1) (c := k16c1) (by decide +kernel) rfl rfl rfl (by decide +kernel)
set_option maxRecDepth 65536 in
theorem w_c9 : (Jvm.Cond.code ({ cls := "java/lang/String", name := "<init>", desc := "([C)V" } : Jvm.MethodName) jdk_42_method_3_code (2 : Nat) (Option.none : Option Jvm.ClassFile.FieldType)).before args0 about1 = true := code_word (m := ⟨19, 1⟩) (meth := k19m1) (c := k19c1) (by decide +kernel) rfl rfl rfl (by decide +kernel)
set_option maxRecDepth 65536 in
theorem w_c10 : (Jvm.Cond.code ({ cls := "java/lang/String", name := "<init>", desc := "([CIILjava/lang/Void;)V" } : Jvm.MethodName) jdk_42_method_149_code (6 : Nat) (Option.none : Option Jvm.ClassFile.FieldType)).before args0 about1 = true := code_word (m := ⟨19, 3⟩) (meth := k19m3) (c := k19c3) (by decide +kernel) rfl rfl rfl (by decide +kernel)
set_option maxRecDepth 65536 in
theorem w_c11 : (Jvm.Cond.code ({ cls := "java/lang/StringUTF16", name := "compress", desc := "([CII)[B" } : Jvm.MethodName) jdk_52_method_16_code (6 : Nat) (Option.some (Jvm.ClassFile.FieldType.array Jvm.ClassFile.FieldType.byte))).before args0 about1 = true := code_word (m := ⟨20, 2⟩) (meth := k20m2) (c := k20c2) (by decide +kernel) rfl rfl rfl (by decide +kernel)
set_option maxRecDepth 65536 in
theorem w_c12 : (Jvm.Cond.code ({ cls := "java/lang/StringUTF16", name := "compress", desc := "([CI[BII)I" } : Jvm.MethodName) jdk_52_method_21_code (7 : Nat) (Option.some Jvm.ClassFile.FieldType.int)).before args0 about1 = true := code_word (m := ⟨20, 3⟩) (meth := k20m3) (c := k20c3) (by decide +kernel) rfl rfl rfl (by decide +kernel)
set_option maxRecDepth 65536 in
theorem w_c13 : (Jvm.Cond.code ({ cls := "java/lang/StringUTF16", name := "coderFromArrayLen", desc := "([BI)B" } : Jvm.MethodName) jdk_52_method_15_code (2 : Nat) (Option.some Jvm.ClassFile.FieldType.byte)).before args0 about1 = true := code_word (m := ⟨20, 1⟩) (meth := k20m1) (c := k20c1) (by decide +kernel) rfl rfl rfl (by decide +kernel)
set_option maxRecDepth 65536 in
theorem w_c14 : (Jvm.Cond.code ({ cls := "java/lang/String", name := "valueOf", desc := "(C)Ljava/lang/String;" } : Jvm.MethodName) jdk_42_method_139_code (1 : Nat) (Option.some (Jvm.ClassFile.FieldType.object "java/lang/String"))).before args0 about1 = true := code_word (m := ⟨19, 2⟩) (meth := k19m2) (c := k19c2) (by decide +kernel) rfl rfl rfl (by decide +kernel)
set_option maxRecDepth 65536 in
theorem w_c15 : (Jvm.Cond.code ({ cls := "java/lang/StringLatin1", name := "canEncode", desc := "(C)Z" } : Jvm.MethodName) jdk_43_method_3_code (1 : Nat) (Option.some Jvm.ClassFile.FieldType.boolean)).before args0 about1 = true := code_word (m := ⟨21, 1⟩) (meth := k21m1) (c := k21c1) (by decide +kernel) rfl rfl rfl (by decide +kernel)
set_option maxRecDepth 65536 in
theorem w_c16 : (Jvm.Cond.code ({ cls := "java/lang/StringLatin1", name := "toBytes", desc := "(C)[B" } : Jvm.MethodName) jdk_43_method_46_code (1 : Nat) (Option.some (Jvm.ClassFile.FieldType.array Jvm.ClassFile.FieldType.byte))).before args0 about1 = true := code_word (m := ⟨21, 2⟩) (meth := k21m2) (c := k21c2) (by decide +kernel) rfl rfl rfl (by decide +kernel)
set_option maxRecDepth 65536 in
theorem w_c17 : (Jvm.Cond.code ({ cls := "java/lang/String", name := "<init>", desc := "([BB)V" } : Jvm.MethodName) jdk_42_method_151_code (3 : Nat) (Option.none : Option Jvm.ClassFile.FieldType)).before args0 about1 = true := code_word (m := ⟨19, 4⟩) (meth := k19m4) (c := k19c4) (by decide +kernel) rfl rfl rfl (by decide +kernel)
def codes1 : List Jvm.Cond := [Jvm.Cond.code x code maxLocals ret, Jvm.Cond.code ({ cls := "com/example/glean/glean/concept/ConceptNamePinLaw", name := "kindOf", desc := "(I)Lcom/example/glean/glean/concept/Concept$Kind;" } : Jvm.MethodName) method_2_code (1 : Nat) (Option.some (Jvm.ClassFile.FieldType.object "com/example/glean/glean/concept/Concept$Kind")), Jvm.Cond.code ({ cls := "com/example/glean/glean/concept/ConceptNamePinLaw", name := "symbolOf", desc := "(III)Ljava/lang/String;" } : Jvm.MethodName) method_3_code (5 : Nat) (Option.some (Jvm.ClassFile.FieldType.object "java/lang/String")), Jvm.Cond.code ({ cls := "java/util/ArrayList", name := "<init>", desc := "()V" } : Jvm.MethodName) jdk_38_method_2_code (1 : Nat) (Option.none : Option Jvm.ClassFile.FieldType), Jvm.Cond.code ({ cls := "java/util/AbstractList", name := "<init>", desc := "()V" } : Jvm.MethodName) jdk_39_method_1_code (1 : Nat) (Option.none : Option Jvm.ClassFile.FieldType), Jvm.Cond.code ({ cls := "java/util/AbstractCollection", name := "<init>", desc := "()V" } : Jvm.MethodName) jdk_22_method_1_code (1 : Nat) (Option.none : Option Jvm.ClassFile.FieldType), Jvm.Cond.code ({ cls := "java/lang/Object", name := "<init>", desc := "()V" } : Jvm.MethodName) object_method_1_code (1 : Nat) (Option.none : Option Jvm.ClassFile.FieldType), Jvm.Cond.code ({ cls := "com/example/glean/glean/concept/Concept", name := "<init>", desc := "(ILcom/example/glean/glean/concept/Concept$Kind;Ljava/lang/String;Ljava/util/List;)V" } : Jvm.MethodName) prog_9_method_1_code (5 : Nat) (Option.none : Option Jvm.ClassFile.FieldType), Jvm.Cond.code ({ cls := "com/example/glean/glean/concept/Concept", name := "name", desc := "()Ljava/lang/String;" } : Jvm.MethodName) prog_9_method_4_code (1 : Nat) (Option.some (Jvm.ClassFile.FieldType.object "java/lang/String")), Jvm.Cond.code ({ cls := "java/lang/String", name := "<init>", desc := "([C)V" } : Jvm.MethodName) jdk_42_method_3_code (2 : Nat) (Option.none : Option Jvm.ClassFile.FieldType), Jvm.Cond.code ({ cls := "java/lang/String", name := "<init>", desc := "([CIILjava/lang/Void;)V" } : Jvm.MethodName) jdk_42_method_149_code (6 : Nat) (Option.none : Option Jvm.ClassFile.FieldType), Jvm.Cond.code ({ cls := "java/lang/StringUTF16", name := "compress", desc := "([CII)[B" } : Jvm.MethodName) jdk_52_method_16_code (6 : Nat) (Option.some (Jvm.ClassFile.FieldType.array Jvm.ClassFile.FieldType.byte)), Jvm.Cond.code ({ cls := "java/lang/StringUTF16", name := "compress", desc := "([CI[BII)I" } : Jvm.MethodName) jdk_52_method_21_code (7 : Nat) (Option.some Jvm.ClassFile.FieldType.int), Jvm.Cond.code ({ cls := "java/lang/StringUTF16", name := "coderFromArrayLen", desc := "([BI)B" } : Jvm.MethodName) jdk_52_method_15_code (2 : Nat) (Option.some Jvm.ClassFile.FieldType.byte), Jvm.Cond.code ({ cls := "java/lang/String", name := "valueOf", desc := "(C)Ljava/lang/String;" } : Jvm.MethodName) jdk_42_method_139_code (1 : Nat) (Option.some (Jvm.ClassFile.FieldType.object "java/lang/String")), Jvm.Cond.code ({ cls := "java/lang/StringLatin1", name := "canEncode", desc := "(C)Z" } : Jvm.MethodName) jdk_43_method_3_code (1 : Nat) (Option.some Jvm.ClassFile.FieldType.boolean), Jvm.Cond.code ({ cls := "java/lang/StringLatin1", name := "toBytes", desc := "(C)[B" } : Jvm.MethodName) jdk_43_method_46_code (1 : Nat) (Option.some (Jvm.ClassFile.FieldType.array Jvm.ClassFile.FieldType.byte)), Jvm.Cond.code ({ cls := "java/lang/String", name := "<init>", desc := "([BB)V" } : Jvm.MethodName) jdk_42_method_151_code (3 : Nat) (Option.none : Option Jvm.ClassFile.FieldType)]
set_option maxRecDepth 65536 in
theorem codes_eq : words1.filter isCode = codes1 := rfl
theorem w_codes : ∀ c ∈ words1.filter isCode, c.before args0 about1 = true := by
  rw [codes_eq]
  intro c hc
  simp only [codes1, List.mem_cons, List.not_mem_nil, or_false] at hc
  rcases hc with rfl | rfl | rfl | rfl | rfl | rfl | rfl | rfl | rfl | rfl | rfl | rfl | rfl | rfl | rfl | rfl | rfl | rfl
  · exact w_c0
  · exact w_c1
  · exact w_c2
  · exact w_c3
  · exact w_c4
  · exact w_c5
  · exact w_c6
  · exact w_c7
  · exact w_c8
  · exact w_c9
  · exact w_c10
  · exact w_c11
  · exact w_c12
  · exact w_c13
  · exact w_c14
  · exact w_c15
  · exact w_c16
  · exact w_c17
set_option maxRecDepth 65536 in
theorem w_t1 : (words1.take 24).all (fun c => isCode c || c.before args0 about1) = true := by decide +kernel
set_option maxRecDepth 65536 in
theorem w_t2 : ((words1.drop 24).take 24).all (fun c => isCode c || c.before args0 about1) = true := by decide +kernel
set_option maxRecDepth 65536 in
theorem w_t3 : (((words1.drop 24).drop 24).take 24).all (fun c => isCode c || c.before args0 about1) = true := by decide +kernel
set_option maxRecDepth 65536 in
theorem w_t4 : ((((words1.drop 24).drop 24).drop 24).take 24).all (fun c => isCode c || c.before args0 about1) = true := by decide +kernel
set_option maxRecDepth 65536 in
theorem w_t5 : ((((words1.drop 24).drop 24).drop 24).drop 24).all (fun c => isCode c || c.before args0 about1) = true := by decide +kernel
theorem w_tables : (allAtoms (Jvm.Cond.code x code maxLocals ret :: tables_1)).before args0 about1 = true := by
  rw [allAtoms_all]
  show words1.all (fun c => c.before args0 about1) = true
  refine all_split ?_ w_codes
  rw [← List.take_append_drop 24 words1, List.all_append, w_t1, ← List.take_append_drop 24 (words1.drop 24), List.all_append, w_t2, ← List.take_append_drop 24 ((words1.drop 24).drop 24), List.all_append, w_t3, ← List.take_append_drop 24 (((words1.drop 24).drop 24).drop 24), List.all_append, w_t4, w_t5]
  rfl
set_option maxRecDepth 65536 in
theorem w_rest : rest_1_c.before args0 about1 = true := by decide +kernel
set_option maxRecDepth 65536 in
theorem w_case : (Jvm.Cond.and given_1 narrow_1).before args0 about1 = true := by decide +kernel
set_option maxRecDepth 65536 in
theorem w_consts : constsHeld consts_1 about1 := Jvm.Lit.constsHeldB_iff.mp (by decide +kernel)
theorem w_applies : (headSpec (Jvm.Cond.code x code maxLocals ret :: tables_1) room_1).applies x e0.platform about1 = true :=
  (Spec.applies_iff w_frames).mpr ⟨w_running, w_runnable, w_alone, w_named, w_hears, w_ripe, w_room, w_tables⟩
theorem atStart : AtStart classFile x code maxLocals ret World_1 tables_1 room_1 Calls_1 rest_1 Pre_1 launch0 p0 e0 about1 theMethod args0 below0 :=
  ⟨lists_1, trivial, launch0.admits_env _ _ _, launch0.least_env, fairChoices_fair.cas, fairChoices_fair.clock, w_frames, w_args, w_heap, w_applies, ⟨w_consts, trivial⟩, w_rest, w_case⟩
end start1
theorem witness_1 : WitnessClaimed_1 := ⟨start1.p0, start1.e0, start1.about1, start1.theMethod, start1.args0, start1.below0, start1.atStart⟩
end Jvm.Pilot.@@N@@
