import JvmDerived
import JvmDerived.Pilot.@@N@@Statement
import JvmDerived.Pilot.@@N@@Code
set_option linter.unusedVariables false
set_option linter.unusedSimpArgs false
namespace Jvm.OwnKit
open Jvm Jvm.ClassFile Sem Op Lib Jvm.Free Jvm.Stand Jvm.LawKit Jvm.RoadKit Bundle
abbrev EList := List (String × Nat)
def Dc (B : ByteArray) (pc : Nat) (i : Instr) (n pc' : Nat) : Prop := decode B pc = .ok (i, n) ∧ pc + n = pc'
def Db (B : ByteArray) (pc : Nat) (i : Instr) (o : Int) (pc' tgt : Nat) : Prop := decode B pc = .ok (i, 3) ∧ pc + 3 = pc' ∧ 0 ≤ (pc : Int) + o ∧ ((pc : Int) + o).toNat = tgt
def Go (p : Program) (e : Env) (below : List Frame) (F : Outcome → State → Prop) (T : State) (g : JFrame) : Prop :=
  ∃ s₂ o, Steps p.tables e below (T.setTop g) s₂ ∧ s₂.status = .running ∧ Ended s₂ below o ∧ F o s₂
def Sf (md : Option EList) (Z s' : State) (h : Heap) (x : Addr) : Prop := match md with | none => True | some EL => Safe Z EL s'.vm h x
def Jd (md : Option EList) (Z s s' : State) (h : Heap) : Prop := match md with
  | none => s' = s
  | some EL => ∃ (vm0 : Vm) (k0 : Nat) (a0 : Array Value), s' = s.setVm vm0 ∧ s.Since vm0 k0 ∧ k0 ≤ h.size ∧ CHr Z EL s.vm s.heap vm0 h ∧ EW Z a0 EL
theorem Jd.ext {md : Option EList} {Z s s' : State} {h h' : Heap} (J : Jd md Z s s' h) (E : Ext h h') : Jd md Z s s' h' := by
  cases md with
  | none => exact J
  | some EL => obtain ⟨vm0, k0, a0, rfl, j2, j3, j4, j5⟩ := J; exact ⟨vm0, k0, a0, rfl, j2, Nat.le_trans j3 E.1, j4.trans (CHr.ext E j4.1), j5⟩
theorem Jd.keep {md : Option EList} {Z s s' : State} {h h' : Heap} {ws : List Addr} (J : Jd md Z s s' h) (K : Keep h h' ws) (hs : ∀ x ∈ ws, Sf md Z s' h x) : Jd md Z s s' h' := by
  cases md with
  | none => exact J
  | some EL => obtain ⟨vm0, k0, a0, rfl, j2, j3, j4, j5⟩ := J; exact ⟨vm0, k0, a0, rfl, j2, Nat.le_trans j3 K.1, j4.trans (CHr.keep K hs j4.1), j5⟩
theorem Sf.ext {md : Option EList} {Z s s' : State} {h h' : Heap} {x : Addr} (S : Sf md Z s' h x) (J : Jd md Z s s' h) (E : Ext h h') : Sf md Z s' h' x := by
  cases md with
  | none => trivial
  | some EL => obtain ⟨vm0, k0, a0, rfl, j2, j3, j4, j5⟩ := J; exact Safe.ext E j4.1 S
theorem Sf.keep {md : Option EList} {Z s s' : State} {h h' : Heap} {x : Addr} {ws : List Addr} (S : Sf md Z s' h x) (J : Jd md Z s s' h) (K : Keep h h' ws) (hs : ∀ x ∈ ws, Sf md Z s' h x) : Sf md Z s' h' x := by
  cases md with
  | none => trivial
  | some EL => obtain ⟨vm0, k0, a0, rfl, j2, j3, j4, j5⟩ := J; exact Safe.keep K hs j4.1 S
theorem Sf.new {md : Option EList} {Z s' : State} {h : Heap} {x : Addr} (q : h.size ≤ x) : Sf md Z s' h x := by
  cases md with
  | none => trivial
  | some EL => exact Safe.new q
theorem Ext.rfl' (h : Heap) : Ext h h := ⟨Nat.le_refl _, fun _ _ q => q⟩
theorem Ext.tr {h h' h2 : Heap} (A : Ext h h') (B : Ext h' h2) : Ext h h2 := ⟨Nat.le_trans A.1 B.1, fun a c q => B.2 a c (A.2 a c q)⟩
/-- a keep whose written cells were made since -/
theorem Ext.kp {h h' h2 : Heap} {ws : List Addr} (A : Ext h h') (B : Keep h' h2 ws) (q : ∀ x ∈ ws, h.size ≤ x) : Ext h h2 := ⟨Nat.le_trans A.1 B.1, fun a c r => B.2.1 a c (A.2 a c r) fun z => absurd (Array.getElem?_eq_some_iff.mp r).1 (Nat.not_lt.mpr (q a z))⟩
theorem Ext.kp1 {h h' h2 : Heap} {x : Addr} (A : Ext h h') (B : Keep h' h2 [x]) (q : h.size ≤ x) : Ext h h2 := Ext.kp A B (allS q all0)
theorem Ext.of0 {h h' : Heap} (B : Keep h h' []) : Ext h h' := ⟨B.1, fun a c r => B.2.1 a c r nin0⟩
theorem Ext.keep {h h' : Heap} (E : Ext h h') (ws : List Addr) : Keep h h' ws := (Keep.refl h ws).ext E
def Cx (p : Program) (l : Launch) (e : Env) (R : Room) (s : State) (m : MethodId) (args : Array Value) (below : List Frame) (meth : Method) (c : Code) (B : ByteArray) (ML : Nat) (Z : State) (own : String) (n0 : Nat) (md : Option EList) (T : State) (h : Heap) (ws : List Addr) (cells slots : Nat) : Prop :=
  (p.tables.exec = Jvm.exec ∧ c.code = B ∧ c.maxLocals = ML) ∧ T.heap = h ∧ n0 ≤ h.size ∧ ∃ (s' : State) (locs : List Loc), Stand p l e R s' m args below meth c T locs cells slots ∧ Z.Warmed39 s'.vm ∧ s'.vm.findClass own = some m.cls ∧ Fr n0 locs ∧ Jd md Z s s' h ∧ ∀ x ∈ ws, n0 ≤ x ∧ x < h.size ∧ Sf md Z s' h x
section Kit
variable {p : Program} {l : Launch} {e : Env} {R : Room} {s : State} {m : MethodId} {args : Array Value} {below : List Frame} {meth : Method} {c : Code} {B : ByteArray} {ML : Nat} {Z : State} {own : String} {n0 : Nat} {md : Option EList} {T : State} {h : Heap} {ws : List Addr} {cells slots : Nat} {F : Outcome → State → Prop} {pc pc' tgt : Nat} {Ls Ls' : Array Slot} {St : List Value} {a0 : Array Value}
theorem Go.st {T T' : State} {g g' : JFrame} (k : Go p e below F T' g') (q : ∀ t, Steps p.tables e below (T'.setTop g') t → Steps p.tables e below (T.setTop g) t) : Go p e below F T g := by
  obtain ⟨s2, o, h1, h2⟩ := k; exact ⟨s2, o, q _ h1, h2⟩
theorem Go.tr {T T' : State} {g g' : JFrame} (k : Go p e below F T' g') (q : Steps p.tables e below (T.setTop g) (T'.setTop g')) : Go p e below F T g := by
  obtain ⟨s2, o, h1, h2⟩ := k; exact ⟨s2, o, q.trans h1, h2⟩
theorem Cx.mono {c' s' : Nat} (K : Cx p l e R s m args below meth c B ML Z own n0 md T h ws cells slots) (q1 : cells ≤ c') (q2 : slots ≤ s') : Cx p l e R s m args below meth c B ML Z own n0 md T h ws c' s' := by
  obtain ⟨k1, k2, k3, s1, locs, X, r⟩ := K
  exact ⟨k1, k2, k3, s1, locs, X.mono q1 q2, r⟩
theorem Cx.sub {ws' : List Addr} (K : Cx p l e R s m args below meth c B ML Z own n0 md T h ws cells slots) (q : ∀ x ∈ ws', x ∈ ws) : Cx p l e R s m args below meth c B ML Z own n0 md T h ws' cells slots := by
  obtain ⟨k1, k2, k3, s1, locs, X, r1, r2, r3, r4, r5⟩ := K
  exact ⟨k1, k2, k3, s1, locs, X, r1, r2, r3, r4, fun x hx => r5 x (q x hx)⟩
theorem Cx.n0le (K : Cx p l e R s m args below meth c B ML Z own n0 md T h ws cells slots) : n0 ≤ h.size := K.2.2.1
theorem Cx.wsge (K : Cx p l e R s m args below meth c B ML Z own n0 md T h ws cells slots) {x : Addr} (q : x ∈ ws) : n0 ≤ x := by obtain ⟨-, -, -, s1, locs, X, r1, r2, r3, r4, r5⟩ := K; exact (r5 x q).1
theorem Cx.wslt (K : Cx p l e R s m args below meth c B ML Z own n0 md T h ws cells slots) {x : Addr} (q : x ∈ ws) : x < h.size := by obtain ⟨-, -, -, s1, locs, X, r1, r2, r3, r4, r5⟩ := K; exact (r5 x q).2.1

theorem gAload (K : Cx p l e R s m args below meth c B ML Z own n0 md T h ws cells slots) {k : Nat} {v : Value} (hd : Dc B pc (.aload k) 2 pc') (hl : Ls[k]? = some (.val v)) (hv : v.isRef = true) (r : Go p e below F T (mkF m pc' Ls (v :: St))) : Go p e below F T (mkF m pc Ls St) := by
  obtain ⟨⟨hx, hby, -⟩, -, -, s1, locs, X, -⟩ := K
  obtain ⟨hd, rfl⟩ := hd
  exact r.st fun t q => XS.aload X.here hx rfl (hb hby hd) hl hv q

theorem gAloadN (K : Cx p l e R s m args below meth c B ML Z own n0 md T h ws cells slots) {k : Fin 4} {v : Value} (hd : Dc B pc (.aload_n k) 1 pc') (hl : Ls[k.val]? = some (.val v)) (hv : v.isRef = true) (r : Go p e below F T (mkF m pc' Ls (v :: St))) : Go p e below F T (mkF m pc Ls St) := by
  obtain ⟨⟨hx, hby, -⟩, -, -, s1, locs, X, -⟩ := K
  obtain ⟨hd, rfl⟩ := hd
  exact r.st fun t q => XS.aloadN X.here hx rfl (hb hby hd) hl hv q

theorem gIload (K : Cx p l e R s m args below meth c B ML Z own n0 md T h ws cells slots) {k : Nat} {v : Int32} (hd : Dc B pc (.iload k) 2 pc') (hl : Ls[k]? = some (.val (.int v))) (r : Go p e below F T (mkF m pc' Ls (.int v :: St))) : Go p e below F T (mkF m pc Ls St) := by
  obtain ⟨⟨hx, hby, -⟩, -, -, s1, locs, X, -⟩ := K
  obtain ⟨hd, rfl⟩ := hd
  exact r.st fun t q => XS.iload X.here hx rfl (hb hby hd) hl q

theorem gIloadN (K : Cx p l e R s m args below meth c B ML Z own n0 md T h ws cells slots) {k : Fin 4} {v : Int32} (hd : Dc B pc (.iload_n k) 1 pc') (hl : Ls[k.val]? = some (.val (.int v))) (r : Go p e below F T (mkF m pc' Ls (.int v :: St))) : Go p e below F T (mkF m pc Ls St) := by
  obtain ⟨⟨hx, hby, -⟩, -, -, s1, locs, X, -⟩ := K
  obtain ⟨hd, rfl⟩ := hd
  exact r.st fun t q => XS.iloadN X.here hx rfl (hb hby hd) hl q

theorem gLload (K : Cx p l e R s m args below meth c B ML Z own n0 md T h ws cells slots) {k : Nat} {v : Int64} (hd : Dc B pc (.lload k) 2 pc') (hl : Ls[k]? = some (.val (.long v))) (r : Go p e below F T (mkF m pc' Ls (.long v :: St))) : Go p e below F T (mkF m pc Ls St) := by
  obtain ⟨⟨hx, hby, -⟩, -, -, s1, locs, X, -⟩ := K
  obtain ⟨hd, rfl⟩ := hd
  exact r.st fun t q => XT.lload X.here hx rfl (hb hby hd) hl q

theorem gLloadN (K : Cx p l e R s m args below meth c B ML Z own n0 md T h ws cells slots) {k : Fin 4} {v : Int64} (hd : Dc B pc (.lload_n k) 1 pc') (hl : Ls[k.val]? = some (.val (.long v))) (r : Go p e below F T (mkF m pc' Ls (.long v :: St))) : Go p e below F T (mkF m pc Ls St) := by
  obtain ⟨⟨hx, hby, -⟩, -, -, s1, locs, X, -⟩ := K
  obtain ⟨hd, rfl⟩ := hd
  exact r.st fun t q => XT.lloadN X.here hx rfl (hb hby hd) hl q

theorem gIconst (K : Cx p l e R s m args below meth c B ML Z own n0 md T h ws cells slots) {i : Int} (v : Int32) (hd : Dc B pc (.iconst i) 1 pc') (hv : Int32.ofInt i = v) (r : Go p e below F T (mkF m pc' Ls (.int v :: St))) : Go p e below F T (mkF m pc Ls St) := by
  obtain ⟨⟨hx, hby, -⟩, -, -, s1, locs, X, -⟩ := K
  obtain ⟨hd, rfl⟩ := hd
  exact r.st fun t q => XT.iconstV X.here hx rfl v (hb hby hd) hv q

theorem gBipush (K : Cx p l e R s m args below meth c B ML Z own n0 md T h ws cells slots) {i : Int} (v : Int32) (hd : Dc B pc (.bipush i) 2 pc') (hv : (Int8.ofInt i).toInt32 = v) (r : Go p e below F T (mkF m pc' Ls (.int v :: St))) : Go p e below F T (mkF m pc Ls St) := by
  obtain ⟨⟨hx, hby, -⟩, -, -, s1, locs, X, -⟩ := K
  obtain ⟨hd, rfl⟩ := hd
  exact r.st fun t q => XT.bipushV X.here hx rfl v (hb hby hd) hv q

theorem gSipush (K : Cx p l e R s m args below meth c B ML Z own n0 md T h ws cells slots) {i : Int} (v : Int32) (hd : Dc B pc (.sipush i) 3 pc') (hv : (Int16.ofInt i).toInt32 = v) (r : Go p e below F T (mkF m pc' Ls (.int v :: St))) : Go p e below F T (mkF m pc Ls St) := by
  obtain ⟨⟨hx, hby, -⟩, -, -, s1, locs, X, -⟩ := K
  obtain ⟨hd, rfl⟩ := hd
  exact r.st fun t q => XT.sipushV X.here hx rfl v (hb hby hd) hv q

theorem gNull (K : Cx p l e R s m args below meth c B ML Z own n0 md T h ws cells slots)  (hd : Dc B pc (.aconst_null) 1 pc') (r : Go p e below F T (mkF m pc' Ls (.null :: St))) : Go p e below F T (mkF m pc Ls St) := by
  obtain ⟨⟨hx, hby, -⟩, -, -, s1, locs, X, -⟩ := K
  obtain ⟨hd, rfl⟩ := hd
  exact r.st fun t q => XS.aconstNull X.here hx rfl (hb hby hd) q

theorem gIadd (K : Cx p l e R s m args below meth c B ML Z own n0 md T h ws cells slots) {x y : Int32} (hd : Dc B pc (.iadd) 1 pc') (r : Go p e below F T (mkF m pc' Ls (.int (x + y) :: St))) : Go p e below F T (mkF m pc Ls (.int y :: .int x :: St)) := by
  obtain ⟨⟨hx, hby, -⟩, -, -, s1, locs, X, -⟩ := K
  obtain ⟨hd, rfl⟩ := hd
  exact r.st fun t q => XS.iadd X.here hx rfl (hb hby hd) rfl q

theorem gIsub (K : Cx p l e R s m args below meth c B ML Z own n0 md T h ws cells slots) {x y : Int32} (hd : Dc B pc (.isub) 1 pc') (r : Go p e below F T (mkF m pc' Ls (.int (x - y) :: St))) : Go p e below F T (mkF m pc Ls (.int y :: .int x :: St)) := by
  obtain ⟨⟨hx, hby, -⟩, -, -, s1, locs, X, -⟩ := K
  obtain ⟨hd, rfl⟩ := hd
  exact r.st fun t q => XS.isub X.here hx rfl (hb hby hd) rfl q

theorem gIand (K : Cx p l e R s m args below meth c B ML Z own n0 md T h ws cells slots) {x y : Int32} (hd : Dc B pc (.iand) 1 pc') (r : Go p e below F T (mkF m pc' Ls (.int (x &&& y) :: St))) : Go p e below F T (mkF m pc Ls (.int y :: .int x :: St)) := by
  obtain ⟨⟨hx, hby, -⟩, -, -, s1, locs, X, -⟩ := K
  obtain ⟨hd, rfl⟩ := hd
  exact r.st fun t q => XS.iand X.here hx rfl (hb hby hd) rfl q

theorem gImul (K : Cx p l e R s m args below meth c B ML Z own n0 md T h ws cells slots) {x y : Int32} (hd : Dc B pc (.imul) 1 pc') (r : Go p e below F T (mkF m pc' Ls (.int (x * y) :: St))) : Go p e below F T (mkF m pc Ls (.int y :: .int x :: St)) := by
  obtain ⟨⟨hx, hby, -⟩, -, -, s1, locs, X, -⟩ := K
  obtain ⟨hd, rfl⟩ := hd
  exact r.st fun t q => XS.imul X.here hx rfl (hb hby hd) rfl q

theorem gIor (K : Cx p l e R s m args below meth c B ML Z own n0 md T h ws cells slots) {x y : Int32} (hd : Dc B pc (.ior) 1 pc') (r : Go p e below F T (mkF m pc' Ls (.int (x ||| y) :: St))) : Go p e below F T (mkF m pc Ls (.int y :: .int x :: St)) := by
  obtain ⟨⟨hx, hby, -⟩, -, -, s1, locs, X, -⟩ := K
  obtain ⟨hd, rfl⟩ := hd
  exact r.st fun t q => XT.ior X.here hx rfl (hb hby hd) rfl q

theorem gIxor (K : Cx p l e R s m args below meth c B ML Z own n0 md T h ws cells slots) {x y : Int32} (hd : Dc B pc (.ixor) 1 pc') (r : Go p e below F T (mkF m pc' Ls (.int (x ^^^ y) :: St))) : Go p e below F T (mkF m pc Ls (.int y :: .int x :: St)) := by
  obtain ⟨⟨hx, hby, -⟩, -, -, s1, locs, X, -⟩ := K
  obtain ⟨hd, rfl⟩ := hd
  exact r.st fun t q => XT.ixor X.here hx rfl (hb hby hd) rfl q

theorem gIshl (K : Cx p l e R s m args below meth c B ML Z own n0 md T h ws cells slots) {x y : Int32} (hd : Dc B pc (.ishl) 1 pc') (r : Go p e below F T (mkF m pc' Ls (.int (x <<< (y &&& 31)) :: St))) : Go p e below F T (mkF m pc Ls (.int y :: .int x :: St)) := by
  obtain ⟨⟨hx, hby, -⟩, -, -, s1, locs, X, -⟩ := K
  obtain ⟨hd, rfl⟩ := hd
  exact r.st fun t q => XT.ishl X.here hx rfl (hb hby hd) rfl q

theorem gIshr (K : Cx p l e R s m args below meth c B ML Z own n0 md T h ws cells slots) {x y : Int32} (hd : Dc B pc (.ishr) 1 pc') (r : Go p e below F T (mkF m pc' Ls (.int (x >>> (y &&& 31)) :: St))) : Go p e below F T (mkF m pc Ls (.int y :: .int x :: St)) := by
  obtain ⟨⟨hx, hby, -⟩, -, -, s1, locs, X, -⟩ := K
  obtain ⟨hd, rfl⟩ := hd
  exact r.st fun t q => XT.ishr X.here hx rfl (hb hby hd) rfl q

theorem gIushr (K : Cx p l e R s m args below meth c B ML Z own n0 md T h ws cells slots) {x y : Int32} (hd : Dc B pc (.iushr) 1 pc') (r : Go p e below F T (mkF m pc' Ls (.int (XT.ushr x y) :: St))) : Go p e below F T (mkF m pc Ls (.int y :: .int x :: St)) := by
  obtain ⟨⟨hx, hby, -⟩, -, -, s1, locs, X, -⟩ := K
  obtain ⟨hd, rfl⟩ := hd
  exact r.st fun t q => XT.iushr X.here hx rfl (hb hby hd) rfl q

theorem gIdiv (K : Cx p l e R s m args below meth c B ML Z own n0 md T h ws cells slots) {x y : Int32} (hd : Dc B pc (.idiv) 1 pc') (hy : y ≠ 0) (r : Go p e below F T (mkF m pc' Ls (.int (x / y) :: St))) : Go p e below F T (mkF m pc Ls (.int y :: .int x :: St)) := by
  obtain ⟨⟨hx, hby, -⟩, -, -, s1, locs, X, -⟩ := K
  obtain ⟨hd, rfl⟩ := hd
  exact r.st fun t q => XS.idiv X.here hx rfl (hb hby hd) rfl hy q

theorem gIrem (K : Cx p l e R s m args below meth c B ML Z own n0 md T h ws cells slots) {x y : Int32} (hd : Dc B pc (.irem) 1 pc') (hy : y ≠ 0) (r : Go p e below F T (mkF m pc' Ls (.int (x % y) :: St))) : Go p e below F T (mkF m pc Ls (.int y :: .int x :: St)) := by
  obtain ⟨⟨hx, hby, -⟩, -, -, s1, locs, X, -⟩ := K
  obtain ⟨hd, rfl⟩ := hd
  exact r.st fun t q => iremM X hx rfl (hb hby hd) rfl hy q

theorem gIneg (K : Cx p l e R s m args below meth c B ML Z own n0 md T h ws cells slots) {x : Int32} (hd : Dc B pc (.ineg) 1 pc') (r : Go p e below F T (mkF m pc' Ls (.int (-x) :: St))) : Go p e below F T (mkF m pc Ls (.int x :: St)) := by
  obtain ⟨⟨hx, hby, -⟩, -, -, s1, locs, X, -⟩ := K
  obtain ⟨hd, rfl⟩ := hd
  exact r.st fun t q => XS.ineg X.here hx rfl (hb hby hd) rfl q

theorem gI2b (K : Cx p l e R s m args below meth c B ML Z own n0 md T h ws cells slots) {x : Int32} (hd : Dc B pc (.i2b) 1 pc') (r : Go p e below F T (mkF m pc' Ls (.int x.toInt8.toInt32 :: St))) : Go p e below F T (mkF m pc Ls (.int x :: St)) := by
  obtain ⟨⟨hx, hby, -⟩, -, -, s1, locs, X, -⟩ := K
  obtain ⟨hd, rfl⟩ := hd
  exact r.st fun t q => XT.i2b X.here hx rfl (hb hby hd) rfl q

theorem gI2c (K : Cx p l e R s m args below meth c B ML Z own n0 md T h ws cells slots) {x : Int32} (hd : Dc B pc (.i2c) 1 pc') (r : Go p e below F T (mkF m pc' Ls (.int x.toUInt32.toUInt16.toUInt32.toInt32 :: St))) : Go p e below F T (mkF m pc Ls (.int x :: St)) := by
  obtain ⟨⟨hx, hby, -⟩, -, -, s1, locs, X, -⟩ := K
  obtain ⟨hd, rfl⟩ := hd
  exact r.st fun t q => XT.i2c X.here hx rfl (hb hby hd) rfl q

theorem gL2i (K : Cx p l e R s m args below meth c B ML Z own n0 md T h ws cells slots) {x : Int64} (hd : Dc B pc (.l2i) 1 pc') (r : Go p e below F T (mkF m pc' Ls (.int x.toInt32 :: St))) : Go p e below F T (mkF m pc Ls (.long x :: St)) := by
  obtain ⟨⟨hx, hby, -⟩, -, -, s1, locs, X, -⟩ := K
  obtain ⟨hd, rfl⟩ := hd
  exact r.st fun t q => XT.l2i X.here hx rfl (hb hby hd) rfl q

theorem gLand (K : Cx p l e R s m args below meth c B ML Z own n0 md T h ws cells slots) {x y : Int64} (hd : Dc B pc (.land) 1 pc') (r : Go p e below F T (mkF m pc' Ls (.long (x &&& y) :: St))) : Go p e below F T (mkF m pc Ls (.long y :: .long x :: St)) := by
  obtain ⟨⟨hx, hby, -⟩, -, -, s1, locs, X, -⟩ := K
  obtain ⟨hd, rfl⟩ := hd
  exact r.st fun t q => XT.land X.here hx rfl (hb hby hd) rfl q

theorem gLushr (K : Cx p l e R s m args below meth c B ML Z own n0 md T h ws cells slots) {x : Int64} {y : Int32} (hd : Dc B pc (.lushr) 1 pc') (r : Go p e below F T (mkF m pc' Ls (.long (XT.ushrL x y) :: St))) : Go p e below F T (mkF m pc Ls (.int y :: .long x :: St)) := by
  obtain ⟨⟨hx, hby, -⟩, -, -, s1, locs, X, -⟩ := K
  obtain ⟨hd, rfl⟩ := hd
  exact r.st fun t q => XT.lushr X.here hx rfl (hb hby hd) rfl q

theorem gDup (K : Cx p l e R s m args below meth c B ML Z own n0 md T h ws cells slots) {x : Value} (hd : Dc B pc (.dup) 1 pc') (hc : x.category = 1) (r : Go p e below F T (mkF m pc' Ls (x :: x :: St))) : Go p e below F T (mkF m pc Ls (x :: St)) := by
  obtain ⟨⟨hx, hby, -⟩, -, -, s1, locs, X, -⟩ := K
  obtain ⟨hd, rfl⟩ := hd
  exact r.st fun t q => XS.dup X.here hx rfl (hb hby hd) rfl hc q

theorem gPop (K : Cx p l e R s m args below meth c B ML Z own n0 md T h ws cells slots) {x : Value} (hd : Dc B pc (.pop) 1 pc') (hc : x.category = 1) (r : Go p e below F T (mkF m pc' Ls St)) : Go p e below F T (mkF m pc Ls (x :: St)) := by
  obtain ⟨⟨hx, hby, -⟩, -, -, s1, locs, X, -⟩ := K
  obtain ⟨hd, rfl⟩ := hd
  exact r.st fun t q => XT.pop X.here hx rfl (hb hby hd) rfl hc q

theorem gIstore (K : Cx p l e R s m args below meth c B ML Z own n0 md T h ws cells slots) {k : Nat} {x : Int32} (hd : Dc B pc (.istore k) 2 pc') (hl : storeLocals Ls k (.int x) = some Ls') (r : Go p e below F T (mkF m pc' Ls' St)) : Go p e below F T (mkF m pc Ls (.int x :: St)) := by
  obtain ⟨⟨hx, hby, -⟩, -, -, s1, locs, X, -⟩ := K
  obtain ⟨hd, rfl⟩ := hd
  exact r.st fun t q => XS.istore X.here hx rfl (hb hby hd) rfl hl q

theorem gIstoreN (K : Cx p l e R s m args below meth c B ML Z own n0 md T h ws cells slots) {k : Fin 4} {x : Int32} (hd : Dc B pc (.istore_n k) 1 pc') (hl : storeLocals Ls k.val (.int x) = some Ls') (r : Go p e below F T (mkF m pc' Ls' St)) : Go p e below F T (mkF m pc Ls (.int x :: St)) := by
  obtain ⟨⟨hx, hby, -⟩, -, -, s1, locs, X, -⟩ := K
  obtain ⟨hd, rfl⟩ := hd
  exact r.st fun t q => XS.istoreN X.here hx rfl (hb hby hd) rfl hl q

theorem gAstore (K : Cx p l e R s m args below meth c B ML Z own n0 md T h ws cells slots) {k : Nat} {x : Value} (hd : Dc B pc (.astore k) 2 pc') (hv : x.isRef = true) (hl : storeLocals Ls k x = some Ls') (r : Go p e below F T (mkF m pc' Ls' St)) : Go p e below F T (mkF m pc Ls (x :: St)) := by
  obtain ⟨⟨hx, hby, -⟩, -, -, s1, locs, X, -⟩ := K
  obtain ⟨hd, rfl⟩ := hd
  exact r.st fun t q => XS.astore X.here hx rfl (hb hby hd) rfl hv hl q

theorem gAstoreN (K : Cx p l e R s m args below meth c B ML Z own n0 md T h ws cells slots) {k : Fin 4} {x : Value} (hd : Dc B pc (.astore_n k) 1 pc') (hv : x.isRef = true) (hl : storeLocals Ls k.val x = some Ls') (r : Go p e below F T (mkF m pc' Ls' St)) : Go p e below F T (mkF m pc Ls (x :: St)) := by
  obtain ⟨⟨hx, hby, -⟩, -, -, s1, locs, X, -⟩ := K
  obtain ⟨hd, rfl⟩ := hd
  exact r.st fun t q => XS.astoreN X.here hx rfl (hb hby hd) rfl hv hl q

theorem gIinc (K : Cx p l e R s m args below meth c B ML Z own n0 md T h ws cells slots) {k : Nat} {cst : Int} {x : Int32} (v : Int32) (hd : Dc B pc (.iinc k cst) 3 pc') (hv : Int32.ofInt cst = v) (hl : Ls[k]? = some (.val (.int x))) (hl' : storeLocals Ls k (.int (x + v)) = some Ls') (r : Go p e below F T (mkF m pc' Ls' St)) : Go p e below F T (mkF m pc Ls St) := by
  obtain ⟨⟨hx, hby, -⟩, -, -, s1, locs, X, -⟩ := K
  obtain ⟨hd, rfl⟩ := hd
  exact r.st fun t q => XT.iincV X.here hx rfl v (hb hby hd) hv hl hl' q

theorem gIaddV (K : Cx p l e R s m args below meth c B ML Z own n0 md T h ws cells slots) {x y : Int32} (v : Int32) (hd : Dc B pc (.iadd) 1 pc') (hv : x + y = v) (r : Go p e below F T (mkF m pc' Ls (.int v :: St))) : Go p e below F T (mkF m pc Ls (.int y :: .int x :: St)) := by
  obtain ⟨⟨hx, hby, -⟩, -, -, s1, locs, X, -⟩ := K
  obtain ⟨hd, rfl⟩ := hd
  exact r.st fun t q => XS.iadd X.here hx rfl (hb hby hd) rfl (hv ▸ q)

theorem gIsubV (K : Cx p l e R s m args below meth c B ML Z own n0 md T h ws cells slots) {x y : Int32} (v : Int32) (hd : Dc B pc (.isub) 1 pc') (hv : x - y = v) (r : Go p e below F T (mkF m pc' Ls (.int v :: St))) : Go p e below F T (mkF m pc Ls (.int y :: .int x :: St)) := by
  obtain ⟨⟨hx, hby, -⟩, -, -, s1, locs, X, -⟩ := K
  obtain ⟨hd, rfl⟩ := hd
  exact r.st fun t q => XS.isub X.here hx rfl (hb hby hd) rfl (hv ▸ q)

theorem gIandV (K : Cx p l e R s m args below meth c B ML Z own n0 md T h ws cells slots) {x y : Int32} (v : Int32) (hd : Dc B pc (.iand) 1 pc') (hv : x &&& y = v) (r : Go p e below F T (mkF m pc' Ls (.int v :: St))) : Go p e below F T (mkF m pc Ls (.int y :: .int x :: St)) := by
  obtain ⟨⟨hx, hby, -⟩, -, -, s1, locs, X, -⟩ := K
  obtain ⟨hd, rfl⟩ := hd
  exact r.st fun t q => XS.iand X.here hx rfl (hb hby hd) rfl (hv ▸ q)

theorem gIshlV (K : Cx p l e R s m args below meth c B ML Z own n0 md T h ws cells slots) {x y : Int32} (v : Int32) (hd : Dc B pc (.ishl) 1 pc') (hv : x <<< (y &&& 31) = v) (r : Go p e below F T (mkF m pc' Ls (.int v :: St))) : Go p e below F T (mkF m pc Ls (.int y :: .int x :: St)) := by
  obtain ⟨⟨hx, hby, -⟩, -, -, s1, locs, X, -⟩ := K
  obtain ⟨hd, rfl⟩ := hd
  exact r.st fun t q => XT.ishl X.here hx rfl (hb hby hd) rfl (hv ▸ q)

theorem gIshrV (K : Cx p l e R s m args below meth c B ML Z own n0 md T h ws cells slots) {x y : Int32} (v : Int32) (hd : Dc B pc (.ishr) 1 pc') (hv : x >>> (y &&& 31) = v) (r : Go p e below F T (mkF m pc' Ls (.int v :: St))) : Go p e below F T (mkF m pc Ls (.int y :: .int x :: St)) := by
  obtain ⟨⟨hx, hby, -⟩, -, -, s1, locs, X, -⟩ := K
  obtain ⟨hd, rfl⟩ := hd
  exact r.st fun t q => XT.ishr X.here hx rfl (hb hby hd) rfl (hv ▸ q)

theorem gGoto (K : Cx p l e R s m args below meth c B ML Z own n0 md T h ws cells slots)  {o : Int} (hd : Db B pc (.goto o) o pc' tgt) (r : Go p e below F T (mkF m tgt Ls St)) : Go p e below F T (mkF m pc Ls St) := by
  obtain ⟨⟨hx, hby, -⟩, -, -, s1, locs, X, -⟩ := K
  obtain ⟨hd, rfl, ho, hp⟩ := hd
  exact r.st fun t q => XS.goto X.here hx rfl rfl (hb hby hd) ho hp q

theorem gIcmp_eq (K : Cx p l e R s m args below meth c B ML Z own n0 md T h ws cells slots) {x y : Int32} {o : Int} (hd : Db B pc (.if_icmp .eq o) o pc' tgt) (ry : x = y → Go p e below F T (mkF m tgt Ls St)) (rn : ¬ x = y → Go p e below F T (mkF m pc' Ls St)) : Go p e below F T (mkF m pc Ls (.int y :: .int x :: St)) := by
  obtain ⟨⟨hx, hby, -⟩, -, -, s1, locs, X, -⟩ := K
  obtain ⟨hd, rfl, ho, hp⟩ := hd
  by_cases hq : x = y
  · exact (ry hq).st fun t q => XS.icmpYes X.here hx rfl rfl (hb hby hd) rfl (teq hq).1 ho hp q
  · exact (rn hq).st fun t q => XS.icmpNo X.here hx rfl (hb hby hd) rfl (feq hq).1 q

theorem gIf_eq (K : Cx p l e R s m args below meth c B ML Z own n0 md T h ws cells slots) {x : Int32} {o : Int} (hd : Db B pc (.ifCond .eq o) o pc' tgt) (ry : x = (0 : Int32) → Go p e below F T (mkF m tgt Ls St)) (rn : ¬ x = (0 : Int32) → Go p e below F T (mkF m pc' Ls St)) : Go p e below F T (mkF m pc Ls (.int x :: St)) := by
  obtain ⟨⟨hx, hby, -⟩, -, -, s1, locs, X, -⟩ := K
  obtain ⟨hd, rfl, ho, hp⟩ := hd
  by_cases hq : x = (0 : Int32)
  · exact (ry hq).st fun t q => XS.ifYes X.here hx rfl rfl (hb hby hd) rfl ((if0 _ _).trans (teq hq).1) ho hp q
  · exact (rn hq).st fun t q => XS.ifNo X.here hx rfl (hb hby hd) rfl ((if0 _ _).trans (feq hq).1) q

theorem gIcmp_ne (K : Cx p l e R s m args below meth c B ML Z own n0 md T h ws cells slots) {x y : Int32} {o : Int} (hd : Db B pc (.if_icmp .ne o) o pc' tgt) (ry : ¬ x = y → Go p e below F T (mkF m tgt Ls St)) (rn : x = y → Go p e below F T (mkF m pc' Ls St)) : Go p e below F T (mkF m pc Ls (.int y :: .int x :: St)) := by
  obtain ⟨⟨hx, hby, -⟩, -, -, s1, locs, X, -⟩ := K
  obtain ⟨hd, rfl, ho, hp⟩ := hd
  by_cases hq : x = y
  · exact (rn hq).st fun t q => XS.icmpNo X.here hx rfl (hb hby hd) rfl (teq hq).2 q
  · exact (ry hq).st fun t q => XS.icmpYes X.here hx rfl rfl (hb hby hd) rfl (feq hq).2 ho hp q

theorem gIf_ne (K : Cx p l e R s m args below meth c B ML Z own n0 md T h ws cells slots) {x : Int32} {o : Int} (hd : Db B pc (.ifCond .ne o) o pc' tgt) (ry : ¬ x = (0 : Int32) → Go p e below F T (mkF m tgt Ls St)) (rn : x = (0 : Int32) → Go p e below F T (mkF m pc' Ls St)) : Go p e below F T (mkF m pc Ls (.int x :: St)) := by
  obtain ⟨⟨hx, hby, -⟩, -, -, s1, locs, X, -⟩ := K
  obtain ⟨hd, rfl, ho, hp⟩ := hd
  by_cases hq : x = (0 : Int32)
  · exact (rn hq).st fun t q => XS.ifNo X.here hx rfl (hb hby hd) rfl ((if0 _ _).trans (teq hq).2) q
  · exact (ry hq).st fun t q => XS.ifYes X.here hx rfl rfl (hb hby hd) rfl ((if0 _ _).trans (feq hq).2) ho hp q

theorem gIcmp_lt (K : Cx p l e R s m args below meth c B ML Z own n0 md T h ws cells slots) {x y : Int32} {o : Int} (hd : Db B pc (.if_icmp .lt o) o pc' tgt) (ry : x < y → Go p e below F T (mkF m tgt Ls St)) (rn : ¬ x < y → Go p e below F T (mkF m pc' Ls St)) : Go p e below F T (mkF m pc Ls (.int y :: .int x :: St)) := by
  obtain ⟨⟨hx, hby, -⟩, -, -, s1, locs, X, -⟩ := K
  obtain ⟨hd, rfl, ho, hp⟩ := hd
  by_cases hq : x < y
  · exact (ry hq).st fun t q => XS.icmpYes X.here hx rfl rfl (hb hby hd) rfl (tlt hq).1 ho hp q
  · exact (rn hq).st fun t q => XS.icmpNo X.here hx rfl (hb hby hd) rfl (flt hq).1 q

theorem gIf_lt (K : Cx p l e R s m args below meth c B ML Z own n0 md T h ws cells slots) {x : Int32} {o : Int} (hd : Db B pc (.ifCond .lt o) o pc' tgt) (ry : x < (0 : Int32) → Go p e below F T (mkF m tgt Ls St)) (rn : ¬ x < (0 : Int32) → Go p e below F T (mkF m pc' Ls St)) : Go p e below F T (mkF m pc Ls (.int x :: St)) := by
  obtain ⟨⟨hx, hby, -⟩, -, -, s1, locs, X, -⟩ := K
  obtain ⟨hd, rfl, ho, hp⟩ := hd
  by_cases hq : x < (0 : Int32)
  · exact (ry hq).st fun t q => XS.ifYes X.here hx rfl rfl (hb hby hd) rfl ((if0 _ _).trans (tlt hq).1) ho hp q
  · exact (rn hq).st fun t q => XS.ifNo X.here hx rfl (hb hby hd) rfl ((if0 _ _).trans (flt hq).1) q

theorem gIcmp_ge (K : Cx p l e R s m args below meth c B ML Z own n0 md T h ws cells slots) {x y : Int32} {o : Int} (hd : Db B pc (.if_icmp .ge o) o pc' tgt) (ry : ¬ x < y → Go p e below F T (mkF m tgt Ls St)) (rn : x < y → Go p e below F T (mkF m pc' Ls St)) : Go p e below F T (mkF m pc Ls (.int y :: .int x :: St)) := by
  obtain ⟨⟨hx, hby, -⟩, -, -, s1, locs, X, -⟩ := K
  obtain ⟨hd, rfl, ho, hp⟩ := hd
  by_cases hq : x < y
  · exact (rn hq).st fun t q => XS.icmpNo X.here hx rfl (hb hby hd) rfl (tlt hq).2.1 q
  · exact (ry hq).st fun t q => XS.icmpYes X.here hx rfl rfl (hb hby hd) rfl (flt hq).2.1 ho hp q

theorem gIf_ge (K : Cx p l e R s m args below meth c B ML Z own n0 md T h ws cells slots) {x : Int32} {o : Int} (hd : Db B pc (.ifCond .ge o) o pc' tgt) (ry : ¬ x < (0 : Int32) → Go p e below F T (mkF m tgt Ls St)) (rn : x < (0 : Int32) → Go p e below F T (mkF m pc' Ls St)) : Go p e below F T (mkF m pc Ls (.int x :: St)) := by
  obtain ⟨⟨hx, hby, -⟩, -, -, s1, locs, X, -⟩ := K
  obtain ⟨hd, rfl, ho, hp⟩ := hd
  by_cases hq : x < (0 : Int32)
  · exact (rn hq).st fun t q => XS.ifNo X.here hx rfl (hb hby hd) rfl ((if0 _ _).trans (tlt hq).2.1) q
  · exact (ry hq).st fun t q => XS.ifYes X.here hx rfl rfl (hb hby hd) rfl ((if0 _ _).trans (flt hq).2.1) ho hp q

theorem gIcmp_gt (K : Cx p l e R s m args below meth c B ML Z own n0 md T h ws cells slots) {x y : Int32} {o : Int} (hd : Db B pc (.if_icmp .gt o) o pc' tgt) (ry : y < x → Go p e below F T (mkF m tgt Ls St)) (rn : ¬ y < x → Go p e below F T (mkF m pc' Ls St)) : Go p e below F T (mkF m pc Ls (.int y :: .int x :: St)) := by
  obtain ⟨⟨hx, hby, -⟩, -, -, s1, locs, X, -⟩ := K
  obtain ⟨hd, rfl, ho, hp⟩ := hd
  by_cases hq : y < x
  · exact (ry hq).st fun t q => XS.icmpYes X.here hx rfl rfl (hb hby hd) rfl (tlt hq).2.2.1 ho hp q
  · exact (rn hq).st fun t q => XS.icmpNo X.here hx rfl (hb hby hd) rfl (flt hq).2.2.1 q

theorem gIf_gt (K : Cx p l e R s m args below meth c B ML Z own n0 md T h ws cells slots) {x : Int32} {o : Int} (hd : Db B pc (.ifCond .gt o) o pc' tgt) (ry : (0 : Int32) < x → Go p e below F T (mkF m tgt Ls St)) (rn : ¬ (0 : Int32) < x → Go p e below F T (mkF m pc' Ls St)) : Go p e below F T (mkF m pc Ls (.int x :: St)) := by
  obtain ⟨⟨hx, hby, -⟩, -, -, s1, locs, X, -⟩ := K
  obtain ⟨hd, rfl, ho, hp⟩ := hd
  by_cases hq : (0 : Int32) < x
  · exact (ry hq).st fun t q => XS.ifYes X.here hx rfl rfl (hb hby hd) rfl ((if0 _ _).trans (tlt hq).2.2.1) ho hp q
  · exact (rn hq).st fun t q => XS.ifNo X.here hx rfl (hb hby hd) rfl ((if0 _ _).trans (flt hq).2.2.1) q

theorem gIcmp_le (K : Cx p l e R s m args below meth c B ML Z own n0 md T h ws cells slots) {x y : Int32} {o : Int} (hd : Db B pc (.if_icmp .le o) o pc' tgt) (ry : ¬ y < x → Go p e below F T (mkF m tgt Ls St)) (rn : y < x → Go p e below F T (mkF m pc' Ls St)) : Go p e below F T (mkF m pc Ls (.int y :: .int x :: St)) := by
  obtain ⟨⟨hx, hby, -⟩, -, -, s1, locs, X, -⟩ := K
  obtain ⟨hd, rfl, ho, hp⟩ := hd
  by_cases hq : y < x
  · exact (rn hq).st fun t q => XS.icmpNo X.here hx rfl (hb hby hd) rfl (tlt hq).2.2.2 q
  · exact (ry hq).st fun t q => XS.icmpYes X.here hx rfl rfl (hb hby hd) rfl (flt hq).2.2.2 ho hp q

theorem gIf_le (K : Cx p l e R s m args below meth c B ML Z own n0 md T h ws cells slots) {x : Int32} {o : Int} (hd : Db B pc (.ifCond .le o) o pc' tgt) (ry : ¬ (0 : Int32) < x → Go p e below F T (mkF m tgt Ls St)) (rn : (0 : Int32) < x → Go p e below F T (mkF m pc' Ls St)) : Go p e below F T (mkF m pc Ls (.int x :: St)) := by
  obtain ⟨⟨hx, hby, -⟩, -, -, s1, locs, X, -⟩ := K
  obtain ⟨hd, rfl, ho, hp⟩ := hd
  by_cases hq : (0 : Int32) < x
  · exact (rn hq).st fun t q => XS.ifNo X.here hx rfl (hb hby hd) rfl ((if0 _ _).trans (tlt hq).2.2.2) q
  · exact (ry hq).st fun t q => XS.ifYes X.here hx rfl rfl (hb hby hd) rfl ((if0 _ _).trans (flt hq).2.2.2) ho hp q

theorem gIfnull_t (K : Cx p l e R s m args below meth c B ML Z own n0 md T h ws cells slots)  {o : Int} (hd : Db B pc (.ifnull o) o pc' tgt) (r : Go p e below F T (mkF m tgt Ls St)) : Go p e below F T (mkF m pc Ls (.null :: St)) := by
  obtain ⟨⟨hx, hby, -⟩, -, -, s1, locs, X, -⟩ := K
  obtain ⟨hd, rfl, ho, hp⟩ := hd
  exact r.st fun t q => XS.ifnullYes X.here hx rfl rfl (hb hby hd) rfl ho hp q

theorem gIfnull_f (K : Cx p l e R s m args below meth c B ML Z own n0 md T h ws cells slots) {b : Addr} {o : Int} (hd : Db B pc (.ifnull o) o pc' tgt) (r : Go p e below F T (mkF m pc' Ls St)) : Go p e below F T (mkF m pc Ls (.ref b :: St)) := by
  obtain ⟨⟨hx, hby, -⟩, -, -, s1, locs, X, -⟩ := K
  obtain ⟨hd, rfl, ho, hp⟩ := hd
  exact r.st fun t q => XS.ifnullNo X.here hx rfl (hb hby hd) rfl q

theorem gIfnonnull_t (K : Cx p l e R s m args below meth c B ML Z own n0 md T h ws cells slots) {b : Addr} {o : Int} (hd : Db B pc (.ifnonnull o) o pc' tgt) (r : Go p e below F T (mkF m tgt Ls St)) : Go p e below F T (mkF m pc Ls (.ref b :: St)) := by
  obtain ⟨⟨hx, hby, -⟩, -, -, s1, locs, X, -⟩ := K
  obtain ⟨hd, rfl, ho, hp⟩ := hd
  exact r.st fun t q => XT.ifnonnullYes X.here hx rfl rfl (hb hby hd) rfl ho hp q

theorem gIfnonnull_f (K : Cx p l e R s m args below meth c B ML Z own n0 md T h ws cells slots)  {o : Int} (hd : Db B pc (.ifnonnull o) o pc' tgt) (r : Go p e below F T (mkF m pc' Ls St)) : Go p e below F T (mkF m pc Ls (.null :: St)) := by
  obtain ⟨⟨hx, hby, -⟩, -, -, s1, locs, X, -⟩ := K
  obtain ⟨hd, rfl, ho, hp⟩ := hd
  exact r.st fun t q => XT.ifnonnullNo X.here hx rfl (hb hby hd) rfl q

theorem gAcmp_eq (K : Cx p l e R s m args below meth c B ML Z own n0 md T h ws cells slots) {x y : Value} {o : Int} (hd : Db B pc (.if_acmp .eq o) o pc' tgt) (h1 : x.isRef = true) (h2 : y.isRef = true) (ry : x = y → Go p e below F T (mkF m tgt Ls St)) (rn : ¬ x = y → Go p e below F T (mkF m pc' Ls St)) : Go p e below F T (mkF m pc Ls (y :: x :: St)) := by
  obtain ⟨⟨hx, hby, -⟩, -, -, s1, locs, X, -⟩ := K
  obtain ⟨hd, rfl, ho, hp⟩ := hd
  by_cases hq : x = y
  · exact (ry hq).st fun t q => XT.acmpYes X.here hx rfl rfl (hb hby hd) rfl h1 h2 (XT.aa_eq_t hq) ho hp q
  · exact (rn hq).st fun t q => XT.acmpNo X.here hx rfl (hb hby hd) rfl h1 h2 (XT.aa_eq_f hq) q

theorem gAcmp_ne (K : Cx p l e R s m args below meth c B ML Z own n0 md T h ws cells slots) {x y : Value} {o : Int} (hd : Db B pc (.if_acmp .ne o) o pc' tgt) (h1 : x.isRef = true) (h2 : y.isRef = true) (ry : ¬ x = y → Go p e below F T (mkF m tgt Ls St)) (rn : x = y → Go p e below F T (mkF m pc' Ls St)) : Go p e below F T (mkF m pc Ls (y :: x :: St)) := by
  obtain ⟨⟨hx, hby, -⟩, -, -, s1, locs, X, -⟩ := K
  obtain ⟨hd, rfl, ho, hp⟩ := hd
  by_cases hq : x = y
  · exact (rn hq).st fun t q => XT.acmpNo X.here hx rfl (hb hby hd) rfl h1 h2 (XT.aa_ne_f hq) q
  · exact (ry hq).st fun t q => XT.acmpYes X.here hx rfl rfl (hb hby hd) rfl h1 h2 (XT.aa_ne_t hq) ho hp q

/-! ## steps that touch the heap or the tables -/
theorem Cx.same {T' : State} {s1 : State} {locs : List Loc} (K : Cx p l e R s m args below meth c B ML Z own n0 md T h ws cells slots) (X' : Stand p l e R s1 m args below meth c T' locs cells slots) (e' : T'.heap = h) (hZ : Z.Warmed39 s1.vm) (hown : s1.vm.findClass own = some m.cls) (N : Fr n0 locs) (J : Jd md Z s s1 h) (Wq : ∀ x ∈ ws, n0 ≤ x ∧ x < h.size ∧ Sf md Z s1 h x) : Cx p l e R s m args below meth c B ML Z own n0 md T' h ws cells slots :=
  ⟨K.1, e', K.2.2.1, s1, locs, X', hZ, hown, N, J, Wq⟩
theorem gGet (K : Cx p l e R s m args below meth c B ML Z own n0 md T h ws cells slots) {O n d : String} {index : Nat} {a : Addr} {v : Value} (hd : Dc B pc (.getfield index) 3 pc') (w : (Cond.fieldLink own index O n d).before a0 Z = true) (Fd : Fld Z h a O n d v)
    (k : ∀ T', Cx p l e R s m args below meth c B ML Z own n0 md T' h ws cells slots → Go p e below F T' (mkF m pc' Ls (v :: St))) : Go p e below F T (mkF m pc Ls (.ref a :: St)) := by
  have K0 := K
  obtain ⟨⟨hx, hby, hml⟩, eT, hn0, s1, locs, X, hZ, hown, N, J, Wq⟩ := K
  obtain ⟨hd, rfl⟩ := hd
  obtain ⟨T', X', e', st⟩ := getF X hx hZ hown (host := "") (Or.inl w) Via.refl eT Fd (g := mkF m pc Ls (.ref a :: St)) rfl rfl (hb hby hd)
  exact (k T' (K0.same X' e' hZ hown N J Wq)).st st
theorem gGetVia (K : Cx p l e R s m args below meth c B ML Z own n0 md T h ws cells slots) {R0 O n d : String} {index : Nat} {a : Addr} {v : Value} (hd : Dc B pc (.getfield index) 3 pc') (w : (Cond.fieldLink own index R0 n d).before a0 Z = true) (via : Via Z R0 O n d) (Fd : Fld Z h a O n d v)
    (k : ∀ T', Cx p l e R s m args below meth c B ML Z own n0 md T' h ws cells slots → Go p e below F T' (mkF m pc' Ls (v :: St))) : Go p e below F T (mkF m pc Ls (.ref a :: St)) := by
  have K0 := K
  obtain ⟨⟨hx, hby, hml⟩, eT, hn0, s1, locs, X, hZ, hown, N, J, Wq⟩ := K
  obtain ⟨hd, rfl⟩ := hd
  obtain ⟨T', X', e', st⟩ := getF X hx hZ hown (host := "") (Or.inl w) via eT Fd (g := mkF m pc Ls (.ref a :: St)) rfl rfl (hb hby hd)
  exact (k T' (K0.same X' e' hZ hown N J Wq)).st st
theorem gGetS (K : Cx p l e R s m args below meth c B ML Z own n0 md T h ws cells slots) {O n d : String} {index : Nat} {v : Value} (hd : Dc B pc (.getstatic index) 3 pc') (w : (Cond.fieldLink own index O n d).before a0 Z = true) (Fd : Sta Z h O n d v)
    (k : ∀ T', Cx p l e R s m args below meth c B ML Z own n0 md T' h ws cells slots → Go p e below F T' (mkF m pc' Ls (v :: St))) : Go p e below F T (mkF m pc Ls St) := by
  have K0 := K
  obtain ⟨⟨hx, hby, hml⟩, eT, hn0, s1, locs, X, hZ, hown, N, J, Wq⟩ := K
  obtain ⟨hd, rfl⟩ := hd
  obtain ⟨T', X', e', st⟩ := getS2 X hx hZ hown (host := "") (Or.inl w) Via.refl eT Fd (g := mkF m pc Ls St) rfl (hb hby hd)
  exact (k T' (K0.same X' e' hZ hown N J Wq)).st st
theorem gCast (K : Cx p l e R s m args below meth c B ML Z own n0 md T h ws cells slots) {C : String} {index : Nat} {a : Addr} (hd : Dc B pc (.checkcast index) 3 pc') (w : (Cond.classLink own index C).before a0 Z = true) (Fd : Ins Z h a C true)
    (k : ∀ T', Cx p l e R s m args below meth c B ML Z own n0 md T' h ws cells slots → Go p e below F T' (mkF m pc' Ls (.ref a :: St))) : Go p e below F T (mkF m pc Ls (.ref a :: St)) := by
  have K0 := K
  obtain ⟨⟨hx, hby, hml⟩, eT, hn0, s1, locs, X, hZ, hown, N, J, Wq⟩ := K
  obtain ⟨hd, rfl⟩ := hd
  obtain ⟨T', X', e', st⟩ := castY X hx hZ hown w eT Fd (g := mkF m pc Ls (.ref a :: St)) rfl rfl (hb hby hd)
  exact (k T' (K0.same X' e' hZ hown N J Wq)).st st
theorem gInstY (K : Cx p l e R s m args below meth c B ML Z own n0 md T h ws cells slots) {C : String} {index : Nat} {a : Addr} (hd : Dc B pc (.instanceof index) 3 pc') (w : (Cond.classLink own index C).before a0 Z = true) (Fd : Ins Z h a C true)
    (k : ∀ T', Cx p l e R s m args below meth c B ML Z own n0 md T' h ws cells slots → Go p e below F T' (mkF m pc' Ls (.int 1 :: St))) : Go p e below F T (mkF m pc Ls (.ref a :: St)) := by
  have K0 := K
  obtain ⟨⟨hx, hby, hml⟩, eT, hn0, s1, locs, X, hZ, hown, N, J, Wq⟩ := K
  obtain ⟨hd, rfl⟩ := hd
  obtain ⟨T', X', e', st⟩ := instY X hx hZ hown w eT Fd (g := mkF m pc Ls (.ref a :: St)) rfl rfl (hb hby hd)
  exact (k T' (K0.same X' e' hZ hown N J Wq)).st st
theorem gInstNo (K : Cx p l e R s m args below meth c B ML Z own n0 md T h ws cells slots) {C D : String} {index : Nat} {a : Addr} (hd : Dc B pc (.instanceof index) 3 pc') (w : (Cond.classLink own index D).before a0 Z = true) (E : Exa Z h a C) (Fd : ∃ c t, Z.vm.findClass C = some c ∧ Z.vm.findClass D = some t ∧ Z.vm.assignable c t = false)
    (k : ∀ T', Cx p l e R s m args below meth c B ML Z own n0 md T' h ws cells slots → Go p e below F T' (mkF m pc' Ls (.int 0 :: St))) : Go p e below F T (mkF m pc Ls (.ref a :: St)) := by
  have K0 := K
  obtain ⟨⟨hx, hby, hml⟩, eT, hn0, s1, locs, X, hZ, hown, N, J, Wq⟩ := K
  obtain ⟨hd, rfl⟩ := hd
  obtain ⟨T', X', e', st⟩ := instNo X hx hZ hown w eT E Fd (g := mkF m pc Ls (.ref a :: St)) rfl rfl (hb hby hd)
  exact (k T' (K0.same X' e' hZ hown N J Wq)).st st
theorem gInitO (K : Cx p l e R s m args below meth c B ML Z own n0 md T h ws cells slots) {index : Nat} {a : Addr} (hd : Dc B pc (.invokespecial index) 3 pc') (w1 : (Cond.methodLink own index Lib.objectInit).before a0 Z = true) (w2 : (Cond.instanceMethod Lib.objectInit).before a0 Z = true) (w3 : (Cond.code Lib.objectInit ⟨#[0xb1]⟩ 1 none).before a0 Z = true)
    (hsz : Ls.size = ML) (hf : 1 ≤ R.frames) {W : Nat} (hW : (St.map fun v => v.category).sum ≤ W) (hl : W + 12 ≤ R.locals)
    (k : ∀ T', Cx p l e R s m args below meth c B ML Z own n0 md T' h ws cells slots → Go p e below F T' (mkF m pc' Ls St)) : Go p e below F T (mkF m pc Ls (.ref a :: St)) := by
  have K0 := K
  obtain ⟨⟨hx, hby, hml⟩, eT, hn0, s1, locs, X, hZ, hown, N, J, Wq⟩ := K
  obtain ⟨hd, rfl⟩ := hd
  obtain ⟨T', X', e', st⟩ := initO X hx hZ hown w1 w2 w3 eT (g := mkF m pc Ls (.ref a :: St)) rfl (by rw [hml]; exact hsz) rfl (hb hby hd) hf (W := W) (by show 2 * 0 + _ ≤ _; omega) hl
  exact (k T' (K0.same X' e' hZ hown N J Wq)).st st
theorem Cx.grow {T' : State} {h' : Heap} {c' n' : Nat} {s1 : State} {locs : List Loc} (K : Cx p l e R s m args below meth c B ML Z own n0 md T h ws cells slots) (X' : Stand p l e R s1 m args below meth c T' locs c' n') (e' : T'.heap = h') (E : Ext h h') (hlt : h.size < h'.size) (hZ : Z.Warmed39 s1.vm) (hown : s1.vm.findClass own = some m.cls) (N : Fr n0 locs) (J : Jd md Z s s1 h) (Wq : ∀ x ∈ ws, n0 ≤ x ∧ x < h.size ∧ Sf md Z s1 h x) : Cx p l e R s m args below meth c B ML Z own n0 md T' h' (h.size :: ws) c' n' :=
  ⟨K.1, e', Nat.le_trans K.2.2.1 E.1, s1, locs, X', hZ, hown, N, J.ext E, fun x hx => by
    rcases List.mem_cons.mp hx with rfl | hx
    · exact ⟨K.2.2.1, hlt, (Sf.new (Nat.le_refl _)).ext J E⟩
    · obtain ⟨q1, q2, q3⟩ := Wq x hx; exact ⟨q1, Nat.lt_of_lt_of_le q2 E.1, q3.ext J E⟩⟩
theorem gNew (K : Cx p l e R s m args below meth c B ML Z own n0 md T h ws cells slots) {C : String} {index n : Nat} (hd : Dc B pc (.new index) 3 pc') (w : (Cond.classLink own index C).before a0 Z = true) (wi : (Cond.instantiable C n).before a0 Z = true) (wz : (Cond.initialized C).before a0 Z = true) (hc : cells + 1 ≤ R.cells) (hl : slots + n ≤ R.slots)
    (k : ∀ (T' : State) (h' : Heap) (x : Addr), Cx p l e R s m args below meth c B ML Z own n0 md T' h' (x :: ws) (cells + 1) (slots + n) → Ext h h' → x = h.size → Exa Z h' x C → (∀ {O nm d : String} {ty : FieldType}, Laid Z a0 C O nm d → parseFieldDescriptor d = some ty → Fld Z h' x O nm d (defaultValue ty)) → (∀ y ∈ ws, y ≠ x) → Go p e below F T' (mkF m pc' Ls (.ref x :: St))) : Go p e below F T (mkF m pc Ls St) := by
  have K0 := K
  obtain ⟨⟨hx, hby, hml⟩, eT, hn0, s1, locs, X, hZ, hown, N, J, Wq⟩ := K
  obtain ⟨hd, rfl⟩ := hd
  obtain ⟨T', h', X', e', E, A, D, -, st⟩ := newO X hx hZ hown w wi wz eT (g := mkF m pc Ls St) rfl (hb hby hd) hc hl
  exact (k T' h' h.size (K0.grow X' e' E A.lt hZ hown N J Wq) E rfl A D (fun y hy => Nat.ne_of_lt (Wq y hy).2.1)).st st
theorem gNewarr (K : Cx p l e R s m args below meth c B ML Z own n0 md T h ws cells slots) {aty : ArrayType} {n : Int32} (hd : Dc B pc (.newarray aty) 2 pc') (w : (Cond.arrayClass (newarray.typeOf aty)).before a0 Z = true) (hn : ¬ n < 0) (cap : Nat) (hcap : n.toNatClampNeg ≤ cap) (hbb : cap * 8 ≤ 536870912) (hc : cells + 1 ≤ R.cells) (hl : slots + cap ≤ R.slots)
    (k : ∀ (T' : State) (h' : Heap) (x : Addr) (kA : ClassId), Cx p l e R s m args below meth c B ML Z own n0 md T' h' (x :: ws) (cells + 1) (slots + cap) → Ext h h' → x = h.size → Arv Z h' x kA (newarray.typeOf aty) n [] (defaultValue (newarray.typeOf aty)) → (∀ y ∈ ws, y ≠ x) → Go p e below F T' (mkF m pc' Ls (.ref x :: St))) : Go p e below F T (mkF m pc Ls (.int n :: St)) := by
  have K0 := K
  obtain ⟨⟨hx, hby, hml⟩, eT, hn0, s1, locs, X, hZ, hown, N, J, Wq⟩ := K
  obtain ⟨hd, rfl⟩ := hd
  obtain ⟨T', h', cA, X', e', E, A, st⟩ := newP X hx hZ w eT (g := mkF m pc Ls (.int n :: St)) rfl (hb hby hd) rfl hn hcap hbb hc hl
  exact (k T' h' h.size cA (K0.grow X' e' E A.lt hZ hown N J Wq) E rfl (Arv.new A hn) (fun y hy => Nat.ne_of_lt (Wq y hy).2.1)).st st
theorem Cx.wrote {T' : State} {h' : Heap} {s1 : State} {locs : List Loc} {a : Addr} {sl : Nat} {v : Value} (K : Cx p l e R s m args below meth c B ML Z own n0 md T h ws cells slots) (X' : Stand p l e R s1 m args below meth c T' (locs ++ [⟨a, sl⟩]) cells slots) (e' : T'.heap = h') (W : Wr h h' a sl v) (hm : a ∈ ws) (hZ : Z.Warmed39 s1.vm) (hown : s1.vm.findClass own = some m.cls) (N : Fr n0 locs) (J : Jd md Z s s1 h) (Wq : ∀ x ∈ ws, n0 ≤ x ∧ x < h.size ∧ Sf md Z s1 h x) : Cx p l e R s m args below meth c B ML Z own n0 md T' h' ws cells slots :=
  have hs : ∀ x ∈ [a], Sf md Z s1 h x := allS (Wq a hm).2.2 all0
  ⟨K.1, e', by rw [W.size]; exact K.2.2.1, s1, _, X', hZ, hown, Fr.snoc X' N (Wq a hm).1, J.keep (Keep.of_wr W) hs, fun x hx => by
    obtain ⟨q1, q2, q3⟩ := Wq x hx; exact ⟨q1, by rw [W.size]; exact q2, q3.keep J (Keep.of_wr W) hs⟩⟩
theorem gPut (K : Cx p l e R s m args below meth c B ML Z own n0 md T h ws cells slots) {O n d C : String} {index kk : Nat} {ty : FieldType} {a : Addr} {v old : Value} (hd : Dc B pc (.putfield index) 3 pc') (w : (Cond.fieldLink own index O n d).before a0 Z = true) (hm : a ∈ ws) (Fd : Fld Z h a O n d old) (E : Exa Z h a C)
    (L : (Cond.lays C O n d).before a0 Z = true ∨ ((Cond.laysFinal C O n d).before a0 Z = true ∧ own = O ∧ meth.name = "<init>")) (wi : (Cond.instantiable C kk).before a0 Z = true) (hty : parseFieldDescriptor d = some ty) (hn : narrow ty v = v) (hf : fits ty v = true)
    (k : ∀ (T' : State) (h' : Heap), Cx p l e R s m args below meth c B ML Z own n0 md T' h' ws cells slots → Wr h h' a (RoadKit.slotOf Z O n d) v → Fld Z h' a O n d v → Go p e below F T' (mkF m pc' Ls St)) : Go p e below F T (mkF m pc Ls (v :: .ref a :: St)) := by
  have K0 := K
  obtain ⟨⟨hx, hby, hml⟩, eT, hn0, s1, locs, X, hZ, hown, N, J, Wq⟩ := K
  obtain ⟨hd, rfl⟩ := hd
  obtain ⟨T', h', X', e', W, st⟩ := putF X hx hZ hown (host := "") (Or.inl w) Via.refl eT Fd E L wi hty hn hf (g := mkF m pc Ls (v :: .ref a :: St)) rfl rfl (hb hby hd)
  exact (k T' h' (K0.wrote X' e' W hm hZ hown N J Wq) W (Fd.same W)).st st
theorem nar_c {x : Int32} (h0 : ¬ x < 0) (h1 : ¬ (65535 : Int32) < x) : nar .char x = x := by
  have q := rng32 x
  have a0 : 0 ≤ x.toInt := by rw [Int32.lt_iff_toInt_lt] at h0; simpa using h0
  have a1 : x.toInt ≤ 65535 := by rw [Int32.lt_iff_toInt_lt] at h1; have : (65535 : Int32).toInt = 65535 := by decide
                                  omega
  apply Int32.toInt_inj.mp
  show (x.toUInt32.toUInt16.toUInt32.toInt32).toInt = x.toInt
  have := c_i2c x
  omega
theorem getD_push {vs : List Value} {v dv : Value} {i : Nat} (q : ¬ vs.length = i) : (vs ++ [v]).getD i dv = vs.getD i dv := by
  rw [List.getD_eq_getElem?_getD, List.getD_eq_getElem?_getD]
  by_cases e2 : i < vs.length
  · rw [List.getElem?_append_left e2]
  · rw [List.getElem?_eq_none (by simp; omega), List.getElem?_eq_none (by omega)]
theorem getD_last {vs : List Value} {v dv : Value} : (vs ++ [v]).getD vs.length dv = v := by
  rw [List.getD_eq_getElem?_getD]; simp
theorem arv_push {cl : Cell} {a : Addr} {kA : ClassId} {ty : FieldType} {z j : Int32} {vs : List Value} {dv v : Value} {h' : Heap} (A : Arr Z h a cl ty) (q1 : cl.cls = kA) (S : cl.slots.size = z.toNatClampNeg) (q3 : ¬ z < 0) (H : Has cl vs dv) (G : ∀ i, i < cl.slots.size → fits ty (vs.getD i dv) = true) (hv : fits ty v = true) (W : Wr h h' a j.toNatClampNeg v) (hj : j.toNatClampNeg = vs.length) : Arv Z h' a kA ty z (vs ++ [v]) dv := by
  refine ⟨cl.setSlot j.toNatClampNeg v, A.same W, q1, ?_, q3, ?_, ?_⟩
  · rw [← S]; simp [Cell.setSlot]
  · intro i hi
    have hi' : i < cl.slots.size := by simpa [Cell.setSlot] using hi
    have h9 := H i hi'
    simp only [Cell.setSlot]
    rw [hj]
    by_cases e1 : vs.length = i
    · subst e1; rw [getD_last]; simp [hi']
    · rw [Array.getElem?_setIfInBounds_ne e1, h9, getD_push e1]
  · intro i hi
    have hi' : i < cl.slots.size := by simpa [Cell.setSlot] using hi
    by_cases e1 : vs.length = i
    · subst e1; rw [getD_last]; exact hv
    · rw [getD_push e1]; exact G i hi'

/-! ## arrays -/
theorem gCastore (K : Cx p l e R s m args below meth c B ML Z own n0 md T h ws cells slots) {a : Addr} {kA : ClassId} {z j x : Int32} {vs : List Value} {dv : Value} (hd : Dc B pc .castore 1 pc') (hm : a ∈ ws) (A : Arv Z h a kA .char z vs dv) (hj : j.toNatClampNeg = vs.length) (hlt : ¬ j < 0 ∧ j < z) (hx0 : ¬ x < 0) (hx1 : ¬ (65535 : Int32) < x)
    (k : ∀ (T' : State) (h' : Heap), Cx p l e R s m args below meth c B ML Z own n0 md T' h' ws cells slots → Keep h h' [a] → Arv Z h' a kA .char z (vs ++ [.int x]) dv → Go p e below F T' (mkF m pc' Ls St)) : Go p e below F T (mkF m pc Ls (.int x :: .int j :: .ref a :: St)) := by
  have K0 := K
  obtain ⟨⟨hx, hby, hml⟩, eT, hn0, s1, locs, X, hZ, hown, N, J, Wq⟩ := K
  obtain ⟨hd, rfl⟩ := hd
  obtain ⟨cl, A1, A2, A3, A4, A5, A6⟩ := A
  obtain ⟨T', h', X', e', W, st⟩ := stC X hx hZ eT A1 (inb_of A3 hlt) (x := x) (g := mkF m pc Ls (.int x :: .int j :: .ref a :: St)) rfl rfl (hb hby hd)
  rw [nar_c hx0 hx1] at W
  have hf : fits .char (.int x) = true := by rw [← nar_c hx0 hx1]; exact fits_nar_char x
  exact (k T' h' (K0.wrote X' e' W hm hZ hown N J Wq) (Keep.of_wr W) (arv_push A1 A2 A3 A4 A5 A6 hf W hj)).st st
theorem gBastore (K : Cx p l e R s m args below meth c B ML Z own n0 md T h ws cells slots) {a : Addr} {kA : ClassId} {z j x : Int32} {vs : List Value} {dv : Value} (hd : Dc B pc .bastore 1 pc') (hm : a ∈ ws) (A : Arv Z h a kA .byte z vs dv) (hj : j.toNatClampNeg = vs.length) (hlt : ¬ j < 0 ∧ j < z)
    (k : ∀ (T' : State) (h' : Heap), Cx p l e R s m args below meth c B ML Z own n0 md T' h' ws cells slots → Keep h h' [a] → Arv Z h' a kA .byte z (vs ++ [.int (nar .byte x)]) dv → Go p e below F T' (mkF m pc' Ls St)) : Go p e below F T (mkF m pc Ls (.int x :: .int j :: .ref a :: St)) := by
  have K0 := K
  obtain ⟨⟨hx, hby, hml⟩, eT, hn0, s1, locs, X, hZ, hown, N, J, Wq⟩ := K
  obtain ⟨hd, rfl⟩ := hd
  obtain ⟨cl, A1, A2, A3, A4, A5, A6⟩ := A
  obtain ⟨T', h', X', e', W, st⟩ := stB X hx hZ eT A1 (inb_of A3 hlt) (x := x) (g := mkF m pc Ls (.int x :: .int j :: .ref a :: St)) rfl rfl (hb hby hd)
  exact (k T' h' (K0.wrote X' e' W hm hZ hown N J Wq) (Keep.of_wr W) (arv_push A1 A2 A3 A4 A5 A6 (fits_nar_byte x) W hj)).st st
/-- a store at a place below the known list's length -/
theorem gBastoreAt (K : Cx p l e R s m args below meth c B ML Z own n0 md T h ws cells slots) {a : Addr} {kA : ClassId} {z j x : Int32} {vs : List Value} {dv : Value} (hd : Dc B pc .bastore 1 pc') (hm : a ∈ ws) (A : Arv Z h a kA .byte z vs dv) (i : Nat) (hj : j.toNatClampNeg = i) (hi : i < vs.length) (hlt : ¬ j < 0 ∧ j < z)
    (k : ∀ (T' : State) (h' : Heap), Cx p l e R s m args below meth c B ML Z own n0 md T' h' ws cells slots → Keep h h' [a] → Arv Z h' a kA .byte z (vs.set i (.int (nar .byte x))) dv → Go p e below F T' (mkF m pc' Ls St)) : Go p e below F T (mkF m pc Ls (.int x :: .int j :: .ref a :: St)) := by
  have K0 := K
  obtain ⟨⟨hx, hby, hml⟩, eT, hn0, s1, locs, X, hZ, hown, N, J, Wq⟩ := K
  obtain ⟨hd, rfl⟩ := hd
  obtain ⟨cl, A1, A2, A3, A4, A5, A6⟩ := A
  obtain ⟨T', h', X', e', W, st⟩ := stB X hx hZ eT A1 (inb_of A3 hlt) (x := x) (g := mkF m pc Ls (.int x :: .int j :: .ref a :: St)) rfl rfl (hb hby hd)
  exact (k T' h' (K0.wrote X' e' W hm hZ hown N J Wq) (Keep.of_wr W) (Arv.set A1 A2 A3 A4 A5 A6 (fits_nar_byte x) W i hj hi)).st st
theorem gIastoreAt (K : Cx p l e R s m args below meth c B ML Z own n0 md T h ws cells slots) {a : Addr} {kA : ClassId} {z j x : Int32} {vs : List Value} {dv : Value} (hd : Dc B pc .iastore 1 pc') (hm : a ∈ ws) (A : Arv Z h a kA .int z vs dv) (i : Nat) (hj : j.toNatClampNeg = i) (hi : i < vs.length) (hlt : ¬ j < 0 ∧ j < z)
    (k : ∀ (T' : State) (h' : Heap), Cx p l e R s m args below meth c B ML Z own n0 md T' h' ws cells slots → Keep h h' [a] → Arv Z h' a kA .int z (vs.set i (.int x)) dv → Go p e below F T' (mkF m pc' Ls St)) : Go p e below F T (mkF m pc Ls (.int x :: .int j :: .ref a :: St)) := by
  have K0 := K
  obtain ⟨⟨hx, hby, hml⟩, eT, hn0, s1, locs, X, hZ, hown, N, J, Wq⟩ := K
  obtain ⟨hd, rfl⟩ := hd
  obtain ⟨cl, A1, A2, A3, A4, A5, A6⟩ := A
  obtain ⟨T', h', X', e', W, st⟩ := stI X hx hZ eT A1 (inb_of A3 hlt) (x := x) (g := mkF m pc Ls (.int x :: .int j :: .ref a :: St)) rfl rfl (hb hby hd)
  exact (k T' h' (K0.wrote X' e' W hm hZ hown N J Wq) (Keep.of_wr W) (Arv.set A1 A2 A3 A4 A5 A6 rfl W i hj hi)).st st
theorem gCaload (K : Cx p l e R s m args below meth c B ML Z own n0 md T h ws cells slots) {a : Addr} {kA : ClassId} {z j : Int32} {vs : List Value} {dv v : Value} (hd : Dc B pc .caload 1 pc') (A : Arv Z h a kA .char z vs dv) (hlt : ¬ j < 0 ∧ j < z) (hv : vs.getD j.toNatClampNeg dv = v) (r : Go p e below F T (mkF m pc' Ls (v :: St))) : Go p e below F T (mkF m pc Ls (.int j :: .ref a :: St)) := by
  obtain ⟨⟨hx, hby, hml⟩, eT, hn0, s1, locs, X, hZ, hown, N, J, Wq⟩ := K
  obtain ⟨hd, rfl⟩ := hd
  obtain ⟨cl, A1, A2, A3, A4, A5, A6⟩ := A
  exact r.st fun t q => X.caload hx (by rw [eT]; exact A1.1) (State.isArrayOf_alike hZ.alike A1.2.1) A1.2.2 (inb_of A3 hlt) (A5.at (inb_of A3 hlt) hv) (g := mkF m pc Ls (.int j :: .ref a :: St)) rfl rfl (hb hby hd) t q
theorem gBaload (K : Cx p l e R s m args below meth c B ML Z own n0 md T h ws cells slots) {a : Addr} {kA : ClassId} {z j : Int32} {vs : List Value} {dv v : Value} (hd : Dc B pc .baload 1 pc') (A : Arv Z h a kA .byte z vs dv) (hlt : ¬ j < 0 ∧ j < z) (hv : vs.getD j.toNatClampNeg dv = v) (r : Go p e below F T (mkF m pc' Ls (v :: St))) : Go p e below F T (mkF m pc Ls (.int j :: .ref a :: St)) := by
  obtain ⟨⟨hx, hby, hml⟩, eT, hn0, s1, locs, X, hZ, hown, N, J, Wq⟩ := K
  obtain ⟨hd, rfl⟩ := hd
  obtain ⟨cl, A1, A2, A3, A4, A5, A6⟩ := A
  exact r.st fun t q => X.baloadBytes hx (by rw [eT]; exact A1.1) (State.isArrayOf_alike hZ.alike A1.2.1) A1.2.2 (inb_of A3 hlt) (A5.at (inb_of A3 hlt) hv) (g := mkF m pc Ls (.int j :: .ref a :: St)) rfl rfl (hb hby hd) t q
theorem gIaload (K : Cx p l e R s m args below meth c B ML Z own n0 md T h ws cells slots) {a : Addr} {kA : ClassId} {z j : Int32} {vs : List Value} {dv v : Value} (hd : Dc B pc .iaload 1 pc') (A : Arv Z h a kA .int z vs dv) (hlt : ¬ j < 0 ∧ j < z) (hv : vs.getD j.toNatClampNeg dv = v) (r : Go p e below F T (mkF m pc' Ls (v :: St))) : Go p e below F T (mkF m pc Ls (.int j :: .ref a :: St)) := by
  obtain ⟨⟨hx, hby, hml⟩, eT, hn0, s1, locs, X, hZ, hown, N, J, Wq⟩ := K
  obtain ⟨hd, rfl⟩ := hd
  obtain ⟨cl, A1, A2, A3, A4, A5, A6⟩ := A
  exact r.st fun t q => X.iaload hx (by rw [eT]; exact A1.1) (State.isArrayOf_alike hZ.alike A1.2.1) A1.2.2 (inb_of A3 hlt) (A5.at (inb_of A3 hlt) hv) (g := mkF m pc Ls (.int j :: .ref a :: St)) rfl rfl (hb hby hd) t q
theorem gAaload (K : Cx p l e R s m args below meth c B ML Z own n0 md T h ws cells slots) {a : Addr} {kA : ClassId} {z j : Int32} {vs : List Value} {dv v : Value} {ty : FieldType} (hd : Dc B pc .aaload 1 pc') (A : Arv Z h a kA ty z vs dv) (hty : ty.isReference = true) (hlt : ¬ j < 0 ∧ j < z) (hv : vs.getD j.toNatClampNeg dv = v) (r : Go p e below F T (mkF m pc' Ls (v :: St))) : Go p e below F T (mkF m pc Ls (.int j :: .ref a :: St)) := by
  obtain ⟨⟨hx, hby, hml⟩, eT, hn0, s1, locs, X, hZ, hown, N, J, Wq⟩ := K
  obtain ⟨hd, rfl⟩ := hd
  obtain ⟨cl, A1, A2, A3, A4, A5, A6⟩ := A
  exact r.st fun t q => X.aaload hx (by rw [eT]; exact A1.1) (State.isArrayOf_alike hZ.alike A1.2.1) hty A1.2.2 (inb_of A3 hlt) (A5.at (inb_of A3 hlt) hv) (g := mkF m pc Ls (.int j :: .ref a :: St)) rfl rfl (hb hby hd) t q
theorem gLen (K : Cx p l e R s m args below meth c B ML Z own n0 md T h ws cells slots) {a : Addr} {kA : ClassId} {z : Int32} {vs : List Value} {dv : Value} {ty : FieldType} (hd : Dc B pc .arraylength 1 pc') (A : Arv Z h a kA ty z vs dv) (r : Go p e below F T (mkF m pc' Ls (.int z :: St))) : Go p e below F T (mkF m pc Ls (.ref a :: St)) := by
  obtain ⟨⟨hx, hby, hml⟩, eT, hn0, s1, locs, X, hZ, hown, N, J, Wq⟩ := K
  obtain ⟨hd, rfl⟩ := hd
  obtain ⟨cl, A1, A2, A3, A4, A5, A6⟩ := A
  exact r.st fun t q => X.arraylength hx (by rw [eT]; exact A1.1) (State.isArrayOf_alike hZ.alike A1.2.1) (g := mkF m pc Ls (.ref a :: St)) rfl rfl (hb hby hd) t (by rw [len_of A3 A4]; exact q)
/-! ## calls -/
abbrev PreC (R : Room) (h : Heap) (as' : Array Value) (kc ks : Nat) : Pt → Array Value → Prop := fun A a => a = as' ∧ A.U.heap = h ∧ A.cells + kc ≤ R.cells ∧ A.slots + ks ≤ R.slots
abbrev PostC (Q : Option Value → Heap → List Loc → Prop) (kc ks : Nat) : Pt → Array Value → Option Value → Pt → Prop := fun A _ v B => ∃ L, Q v B.U.heap L ∧ B.locs = A.locs ++ L ∧ B.cells = A.cells + kc ∧ B.slots = A.slots + ks
def Cal (md : Option EList) (l : Launch) (R : Room) (p : Program) (e : Env) (below : List Frame) (args : Array Value) (y : MethodName) (len W : Nat) (Z : State) (n0 : Nat) (h : Heap) (wsC : List Addr) (as' : Array Value) (kc ks : Nat) (QQ : Option Value → Heap → Prop) : Prop := match md with
  | none => ∀ s' : State, Z.Warmed39 s'.vm → Back l R p e below s' args y len W (PreC R h as' kc ks) (PostC (fun v h' L => QQ v h' ∧ Keep h h' wsC ∧ Fr n0 L) kc ks)
  | some EL => ∀ (s : State) (vm0 : Vm) (a0 : Array Value), Z.Warmed39 vm0 → EW Z a0 EL → CHv Z EL vm0 h → (∀ x ∈ wsC, x < h.size ∧ Safe Z EL vm0 h x) →
      BackS l R p e below (s.setVm vm0) args y len W (PreC R h as' kc ks) (fun A a v B => PostC (fun v h' L => QQ v h' ∧ Keep h h' wsC ∧ Fr n0 L) kc ks A a v B ∧ CHr Z EL vm0 h B.U.vm B.U.heap)
theorem Cal.ofBack {y : MethodName} {len W kc ks : Nat} {wsC : List Addr} {as' : Array Value} {Q : Option Value → Heap → List Loc → Prop} {QQ : Option Value → Heap → Prop}
    (hB : ∀ s' : State, Z.Warmed39 s'.vm → Back l R p e below s' args y len W (PreC R h as' kc ks) (PostC Q kc ks)) (hQ : ∀ v h' L, Q v h' L → QQ v h' ∧ Keep h h' wsC ∧ Fr n0 L) : Cal md l R p e below args y len W Z n0 h wsC as' kc ks QQ := by
  cases md with
  | none =>
    intro s' hZ m meth c A g ig mk a X hg hsize hdg hW hn hp
    obtain ⟨v, B, X', ⟨L, q, b⟩, st⟩ := hB s' hZ m meth c A g ig mk a X hg hsize hdg hW hn hp
    exact ⟨v, B, X', ⟨L, hQ _ _ _ q, b⟩, st⟩
  | some EL =>
    intro s vm0 a0 hZ hE H hs m meth c A g ig mk a X hg hsize hdg hW hn hp
    obtain ⟨v, B, X', ⟨L, q, b⟩, st⟩ := hB (s.setVm vm0) hZ m meth c A g ig mk a X hg hsize hdg hW hn hp
    obtain ⟨q1, q2, q3⟩ := hQ _ _ _ q
    have C1 := CHr.keep q2 (fun x hx => (hs x hx).2) H
    exact ⟨v, B, X'.retabled X'.warmed.wide, X'.warmed.since _, by rw [hp.2.1]; exact q2.1, ⟨⟨L, ⟨q1, q2, q3⟩, b⟩, C1.trans (CHv.at X' hZ hE C1.1)⟩, st⟩
/-- a contract: what a body does from the heap h0, writing at most into ws and into what it makes -/
def ConN (l : Launch) (y : MethodName) (bytes : ByteArray) (maxL : Nat) (ret : Option FieldType) (wl : List Cond) (rm : Room) (Z : State) (n0 : Nat) (h0 : Heap) (ws : List Addr) (as' : Array Value) (QQ : Option Value → Heap → Prop) : Prop :=
  MetFree l y (head1 (Cond.code y bytes maxL ret :: wl) rm) (fun a U => a = as' ∧ Z.Warmed39 U.vm ∧ U.heap = h0) (fun _ _ _ _ _ => True) (fun _ U o U' => ∃ v L, o = .returned v ∧ (QQ v U'.heap ∧ Keep h0 U'.heap ws ∧ Fr n0 L) ∧ FrameEnd U o U' L rm.cells rm.slots)
def ConW (EL : EList) (l : Launch) (y : MethodName) (bytes : ByteArray) (maxL : Nat) (ret : Option FieldType) (wl : List Cond) (rm : Room) (Z : State) (n0 : Nat) (h0 : Heap) (ws : List Addr) (as' : Array Value) (QQ : Option Value → Heap → Prop) : Prop :=
  MetFree l y (head1 (Cond.code y bytes maxL ret :: wl) rm) (fun a U => a = as' ∧ Z.Warmed39 U.vm ∧ U.heap = h0 ∧ CHv Z EL U.vm h0 ∧ ∀ x ∈ ws, Safe Z EL U.vm h0 x) (fun _ _ _ _ _ => True) (fun _ U o U' => ∃ v L, o = .returned v ∧ (QQ v U'.heap ∧ Keep h0 U'.heap ws ∧ Fr n0 L) ∧ CHr Z EL U.vm U.heap U'.vm U'.heap ∧ ReturnedEndW U o U' L rm.cells rm.slots)
def Con (md : Option EList) (l : Launch) (y : MethodName) (bytes : ByteArray) (maxL : Nat) (ret : Option FieldType) (wl : List Cond) (rm : Room) (Z : State) (n0 : Nat) (h0 : Heap) (ws : List Addr) (as' : Array Value) (QQ : Option Value → Heap → Prop) : Prop := match md with
  | none => ConN l y bytes maxL ret wl rm Z n0 h0 ws as' QQ
  | some EL => ConW EL l y bytes maxL ret wl rm Z n0 h0 ws as' QQ
theorem Con.asN {y : MethodName} {bytes : ByteArray} {maxL : Nat} {ret : Option FieldType} {wl : List Cond} {rm : Room} {as' : Array Value} {QQ : Option Value → Heap → Prop} (C : Con none l y bytes maxL ret wl rm Z n0 h ws as' QQ) :
    MetFree l y (head1 (Cond.code y bytes maxL ret :: wl) rm) (fun a U => a = as' ∧ Z.Warmed39 U.vm ∧ U.heap = h) (fun _ _ _ _ _ => True) (fun _ U o U' => ∃ v L, o = .returned v ∧ (QQ v U'.heap ∧ Keep h U'.heap ws ∧ Fr n0 L) ∧ FrameEnd U o U' L rm.cells rm.slots) := C
theorem Con.asW {EL : EList} {y : MethodName} {bytes : ByteArray} {maxL : Nat} {ret : Option FieldType} {wl : List Cond} {rm : Room} {as' : Array Value} {QQ : Option Value → Heap → Prop} (C : Con (some EL) l y bytes maxL ret wl rm Z n0 h ws as' QQ) :
    MetFree l y (head1 (Cond.code y bytes maxL ret :: wl) rm) (fun a U => a = as' ∧ Z.Warmed39 U.vm ∧ U.heap = h ∧ CHv Z EL U.vm h ∧ ∀ x ∈ ws, Safe Z EL U.vm h x) (fun _ _ _ _ _ => True) (fun _ U o U' => ∃ v L, o = .returned v ∧ (QQ v U'.heap ∧ Keep h U'.heap ws ∧ Fr n0 L) ∧ CHr Z EL U.vm U.heap U'.vm U'.heap ∧ ReturnedEndW U o U' L rm.cells rm.slots) := C
theorem Cal.ofN {y : MethodName} {bytes : ByteArray} {maxL : Nat} {ret : Option FieldType} {rm : Room} {len W : Nat} {wsC : List Addr} {as' : Array Value} {QQ : Option Value → Heap → Prop} (hM : Con none l y bytes maxL ret [] rm Z n0 h wsC as' QQ) (wc : (Cond.code y bytes maxL ret).before a0 Z = true) (wz : (Cond.initialized y.cls).before a0 Z = true) (hf : rm.frames + 1 ≤ R.frames) (hl : W + (maxL + 11) + rm.locals ≤ R.locals) :
    Cal md l R p e below args y len W Z n0 h wsC as' rm.cells rm.slots QQ :=
  Cal.ofBack (fun s' hZ => backOf (Q := fun v h' L => QQ v h' ∧ Keep h h' wsC ∧ Fr n0 L) hM.asN hZ wc wz hf hl) (fun _ _ _ q => q)
theorem Cal.ofW {EL : EList} {y : MethodName} {bytes : ByteArray} {maxL : Nat} {ret : Option FieldType} {rm : Room} {len W : Nat} {wsC : List Addr} {as' : Array Value} {QQ : Option Value → Heap → Prop} (hM : Con (some EL) l y bytes maxL ret [] rm Z n0 h wsC as' QQ) (wc : (Cond.code y bytes maxL ret).before a0 Z = true) (wz : (Cond.initialized y.cls).before a0 Z = true) (hf : rm.frames + 1 ≤ R.frames) (hl : W + (maxL + 11) + rm.locals ≤ R.locals) :
    Cal (some EL) l R p e below args y len W Z n0 h wsC as' rm.cells rm.slots QQ := fun s vm0 a1 hZ hEL H hs =>
  BackS.of_freeW (bytes := bytes) (maxL := maxL) (ret := ret) (E := fun _ first o t L k n => k = rm.cells ∧ n = rm.slots ∧ (∃ v, o = .returned v ∧ QQ v t.heap ∧ Keep h t.heap wsC ∧ Fr n0 L) ∧ CHr Z EL first.vm first.heap t.vm t.heap) hM.asW hf hl
    (fun m meth c A a Y hp => have hU : Z.Warmed39 A.U.vm := wtrans (s := s.setVm vm0) hZ Y.warmed
      ⟨by show (Cond.and _ .tt).before a A.U = true; rw [Cond.before_and, mv hU wc]; rfl, mv hU wc, mv hU wz, hp.2.2.1, hp.2.2.2⟩)
    (fun m meth c A a g mk Y hp => ⟨hp.1, wtrans (s := s.setVm vm0) hZ Y.warmed, hp.2.1, (CHv.at Y hZ hEL H).1, fun x hx => (CHv.at Y hZ hEL H).safe (hs x hx).1 (hs x hx).2⟩) (fun _ _ _ _ _ _ _ _ _ => trivial)
    (fun _ _ _ _ ⟨v, L, h1, h2, h3, h4⟩ => ⟨L, _, _, h4, rfl, rfl, ⟨v, h1, h2⟩, h3⟩)
    (fun m meth c A a g mk v t L k n Y hp _ _ ⟨e1, e2, ⟨v', e3, e4⟩, e5⟩ => by
      cases e3; subst e1 e2
      refine ⟨⟨L, e4, rfl, rfl, rfl⟩, (CHv.at Y hZ hEL H).trans ?_⟩
      rw [← hp.2.1]; exact e5)
/-- behind a call in the narrow family -/
theorem Cx.backN {s1 : State} {locs : List Loc} {Bp : Pt} {L : List Loc} {wsC : List Addr} {kc ks : Nat} (K : Cx p l e R s m args below meth c B ML Z own n0 none T h ws cells slots) (X' : Stand p l e R s1 m args below meth c Bp.U Bp.locs Bp.cells Bp.slots) (hZ : Z.Warmed39 s1.vm) (hown : s1.vm.findClass own = some m.cls) (N : Fr n0 locs) (J : Jd none Z s s1 h) (Wq : ∀ x ∈ ws, n0 ≤ x ∧ x < h.size ∧ Sf none Z s1 h x) (Kp : Keep h Bp.U.heap wsC) (NL : Fr n0 L) (b1 : Bp.locs = locs ++ L) (b2 : Bp.cells = cells + kc) (b3 : Bp.slots = slots + ks) : Cx p l e R s m args below meth c B ML Z own n0 none Bp.U Bp.U.heap ws (cells + kc) (slots + ks) := by
  obtain ⟨U, lo, ce, sl⟩ := Bp
  dsimp only [Pt.U, Pt.locs, Pt.cells, Pt.slots] at *
  subst b1 b2 b3
  exact ⟨K.1, rfl, Nat.le_trans K.2.2.1 Kp.1, s1, _, X', hZ, hown, Fr.app N NL, J, fun x hx => ⟨(Wq x hx).1, Nat.lt_of_lt_of_le (Wq x hx).2.1 Kp.1, trivial⟩⟩
/-- behind a call in the wide family -/
theorem Cx.backW {EL : EList} {vm0 : Vm} {k0 : Nat} {locs : List Loc} {Bp : Pt} {L : List Loc} {wsC : List Addr} {kc ks : Nat} {a1 : Array Value} (K : Cx p l e R s m args below meth c B ML Z own n0 (some EL) T h ws cells slots) (X' : Stand p l e R ((s.setVm vm0).setVm Bp.U.vm) m args below meth c Bp.U Bp.locs Bp.cells Bp.slots) (hZ : Z.Warmed39 vm0) (hown : vm0.findClass own = some m.cls) (N : Fr n0 locs) (hS : s.Since vm0 k0) (hk : k0 ≤ h.size) (hC : CHr Z EL s.vm s.heap vm0 h) (hE : EW Z a1 EL) (Wq : ∀ x ∈ ws, n0 ≤ x ∧ x < h.size ∧ Safe Z EL vm0 h x) (hS2 : (s.setVm vm0).Since Bp.U.vm Bp.U.heap.size) (Kp : Keep h Bp.U.heap wsC) (NL : Fr n0 L) (b1 : Bp.locs = locs ++ L) (b2 : Bp.cells = cells + kc) (b3 : Bp.slots = slots + ks) (C2 : CHr Z EL vm0 h Bp.U.vm Bp.U.heap) : Cx p l e R s m args below meth c B ML Z own n0 (some EL) Bp.U Bp.U.heap ws (cells + kc) (slots + ks) := by
  obtain ⟨U, lo, ce, sl⟩ := Bp
  dsimp only [Pt.U, Pt.locs, Pt.cells, Pt.slots] at *
  subst b1 b2 b3
  refine ⟨K.1, rfl, Nat.le_trans K.2.2.1 Kp.1, s.setVm U.vm, _, X', State.Warmed39.trans (t := s.setVm vm0) hZ hS2.1, ?_, Fr.app N NL, ⟨U.vm, U.heap.size, a1, rfl, hS.trans hS2 (Nat.le_trans hk Kp.1), Nat.le_refl _, hC.trans C2, hE⟩, fun x hx => ⟨(Wq x hx).1, Nat.lt_of_lt_of_le (Wq x hx).2.1 Kp.1, C2.safe (Wq x hx).2.1 (Wq x hx).2.2⟩⟩
  show U.vm.findClass own = _
  rw [hS2.1.alike.findClass]; exact hown
theorem gCallS (K : Cx p l e R s m args below meth c B ML Z own n0 md T h ws cells slots) {index : Nat} {y : MethodName} {bytes : ByteArray} {maxL : Nat} {ret : Option FieldType} {wsC : List Addr} {kc ks W : Nat} {QQ : Option Value → Heap → Prop} (argsL rest : List Value)
    (hd : Dc B pc (.invokestatic index) 3 pc') (w1 : (Cond.methodLink own index y).before a0 Z = true) (w2 : (Cond.static y).before a0 Z = true) (w3 : (Cond.initialized y.cls).before a0 Z = true) (w4 : (Cond.code y bytes maxL ret).before a0 Z = true)
    (hC : Cal md l R p e below args y 3 W Z n0 h wsC argsL.toArray kc ks QQ) (hws : ∀ x ∈ wsC, x ∈ ws) {ps : List FieldType} {rt : Option FieldType} (hpd : parseMethodDescriptor y.desc = some ⟨ps, rt⟩) (hpl : argsL.length = ps.length) (hst : St = argsL.reverse ++ rest) (hW : (rest.map fun v => v.category).sum ≤ W) (hsz : Ls.size = ML) (hc : cells + kc ≤ R.cells) (hs : slots + ks ≤ R.slots) (hy : y.cls ≠ "java/lang/invoke/MethodHandle" ∧ y.cls ≠ "java/lang/invoke/VarHandle")
    (k : ∀ (v : Option Value) (T' : State) (h' : Heap), Cx p l e R s m args below meth c B ML Z own n0 md T' h' ws (cells + kc) (slots + ks) → Keep h h' wsC → QQ v h' → Go p e below F T' (mkF m pc' Ls (v.toList ++ rest))) : Go p e below F T (mkF m pc Ls St) := by
  have K0 := K
  obtain ⟨⟨hx, hby, hml⟩, eT, hn0, s1, locs, X, hZ, hown, N, J, Wq⟩ := K
  obtain ⟨hd, rfl⟩ := hd
  cases md with
  | none =>
    obtain ⟨v, vm1, Bp, -, X', ⟨L, ⟨q1, q2, q3⟩, b1, b2, b3⟩, st⟩ := Jvm.LawKit.callS X hx hown (mvT hZ w1) (mvT hZ w2) (mvT hZ w3) (mvT hZ w4) hy (hC s1 hZ) (g := mkF m pc Ls St) rfl (by rw [hml]; exact hsz) (lenOf hpd hpl) hst (by show 2 * 0 + _ ≤ _; omega) (hb hby hd) (fun _ _ => ⟨rfl, eT, hc, hs⟩)
    exact (k v Bp.U Bp.U.heap (K0.backN X' hZ hown N J Wq q2 q3 b1 b2 b3) q2 q1).st st
  | some EL =>
    obtain ⟨vm0, k0, a1, rfl, j2, j3, j4, j5⟩ := J
    obtain ⟨v, vm1, Bp, -, X', S2, -, ⟨⟨L, ⟨q1, q2, q3⟩, b1, b2, b3⟩, C2⟩, st⟩ := callSS X hx hown (mvT hZ w1) (mvT hZ w2) (mvT hZ w3) (mvT hZ w4) hy (hC s vm0 a1 hZ j5 j4.1 (fun x hx => (Wq x (hws x hx)).2)) (g := mkF m pc Ls St) rfl (by rw [hml]; exact hsz) (lenOf hpd hpl) hst (by show 2 * 0 + _ ≤ _; omega) (hb hby hd) (fun _ _ => ⟨rfl, eT, hc, hs⟩)
    exact (k v Bp.U Bp.U.heap (K0.backW X' hZ hown N j2 j3 j4 j5 Wq S2 q2 q3 b1 b2 b3 C2) q2 q1).tr st
theorem gCallI (K : Cx p l e R s m args below meth c B ML Z own n0 md T h ws cells slots) {index : Nat} {y : MethodName} {bytes : ByteArray} {maxL : Nat} {wsC : List Addr} {kc ks W : Nat} {QQ : Option Value → Heap → Prop} (a : Addr) (argsL rest : List Value)
    (hd : Dc B pc (.invokespecial index) 3 pc') (hy1 : y.name = "<init>") (w1 : (Cond.methodLink own index y).before a0 Z = true) (w2 : (Cond.instanceMethod y).before a0 Z = true) (w4 : (Cond.code y bytes maxL none).before a0 Z = true)
    (hC : Cal md l R p e below args y 3 W Z n0 h wsC (.ref a :: argsL).toArray kc ks QQ) (hws : ∀ x ∈ wsC, x ∈ ws) {ps : List FieldType} {rt : Option FieldType} (hpd : parseMethodDescriptor y.desc = some ⟨ps, rt⟩) (hpl : argsL.length = ps.length) (hst : St = argsL.reverse ++ .ref a :: rest) (hW : (rest.map fun v => v.category).sum ≤ W) (hsz : Ls.size = ML) (hc : cells + kc ≤ R.cells) (hs : slots + ks ≤ R.slots) (hy : y.cls ≠ "java/lang/invoke/MethodHandle" ∧ y.cls ≠ "java/lang/invoke/VarHandle")
    (k : ∀ (v : Option Value) (T' : State) (h' : Heap), Cx p l e R s m args below meth c B ML Z own n0 md T' h' ws (cells + kc) (slots + ks) → Keep h h' wsC → QQ v h' → Go p e below F T' (mkF m pc' Ls (v.toList ++ rest))) : Go p e below F T (mkF m pc Ls St) := by
  have K0 := K
  obtain ⟨⟨hx, hby, hml⟩, eT, hn0, s1, locs, X, hZ, hown, N, J, Wq⟩ := K
  obtain ⟨hd, rfl⟩ := hd
  cases md with
  | none =>
    obtain ⟨v, vm1, Bp, -, X', ⟨L, ⟨q1, q2, q3⟩, b1, b2, b3⟩, st⟩ := X.specialBack hx hy1 hown (mvT hZ w1) (mvT hZ w2) (mvT hZ w4) hy (hC s1 hZ) (g := mkF m pc Ls St) rfl (by rw [hml]; exact hsz) (Steps.refl _) (lenOf hpd hpl) hst (by show 2 * 0 + _ ≤ _; omega) (hb hby hd) (fun _ _ => ⟨rfl, eT, hc, hs⟩)
    exact (k v Bp.U Bp.U.heap (K0.backN X' hZ hown N J Wq q2 q3 b1 b2 b3) q2 q1).tr st
  | some EL =>
    obtain ⟨vm0, k0, a1, rfl, j2, j3, j4, j5⟩ := J
    obtain ⟨v, vm1, Bp, -, X', S2, -, ⟨⟨L, ⟨q1, q2, q3⟩, b1, b2, b3⟩, C2⟩, st⟩ := X.specialBackS hx hy1 hown (mvT hZ w1) (mvT hZ w2) (mvT hZ w4) hy (hC s vm0 a1 hZ j5 j4.1 (fun x hx => (Wq x (hws x hx)).2)) (g := mkF m pc Ls St) rfl (by rw [hml]; exact hsz) (Steps.refl _) (lenOf hpd hpl) hst (by show 2 * 0 + _ ≤ _; omega) (hb hby hd) (fun _ _ => ⟨rfl, eT, hc, hs⟩)
    exact (k v Bp.U Bp.U.heap (K0.backW X' hZ hown N j2 j3 j4 j5 Wq S2 q2 q3 b1 b2 b3 C2) q2 q1).tr st
theorem gCallV (K : Cx p l e R s m args below meth c B ML Z own n0 md T h ws cells slots) {index : Nat} {C : String} {y : MethodName} {wsC : List Addr} {kc ks W : Nat} {QQ : Option Value → Heap → Prop} (a : Addr) (argsL rest : List Value)
    (hd : Dc B pc (.invokevirtual index) 3 pc') (w1 : (Cond.methodLink own index y).before a0 Z = true) (w2 : (Cond.declares y).before a0 Z = true) (w3 : (Cond.selects C y y).before a0 Z = true) (w4 : (Cond.instanceMethod y).before a0 Z = true)
    (hC : Cal md l R p e below args y 3 W Z n0 h wsC (.ref a :: argsL).toArray kc ks QQ) (E : Exa Z h a C) (hws : ∀ x ∈ wsC, x ∈ ws) {ps : List FieldType} {rt : Option FieldType} (hpd : parseMethodDescriptor y.desc = some ⟨ps, rt⟩) (hpl : argsL.length = ps.length) (hst : St = argsL.reverse ++ .ref a :: rest) (hW : (rest.map fun v => v.category).sum ≤ W) (hsz : Ls.size = ML) (hc : cells + kc ≤ R.cells) (hs : slots + ks ≤ R.slots) (hy : y.cls ≠ "java/lang/invoke/MethodHandle" ∧ y.cls ≠ "java/lang/invoke/VarHandle")
    (k : ∀ (v : Option Value) (T' : State) (h' : Heap), Cx p l e R s m args below meth c B ML Z own n0 md T' h' ws (cells + kc) (slots + ks) → Keep h h' wsC → QQ v h' → Go p e below F T' (mkF m pc' Ls (v.toList ++ rest))) : Go p e below F T (mkF m pc Ls St) := by
  have K0 := K
  obtain ⟨⟨hx, hby, hml⟩, eT, hn0, s1, locs, X, hZ, hown, N, J, Wq⟩ := K
  obtain ⟨hd, rfl⟩ := hd
  obtain ⟨cq, kq, qa, -, qc⟩ := isOf hZ eT E
  cases md with
  | none =>
    obtain ⟨v, vm1, Bp, -, X', ⟨L, ⟨q1, q2, q3⟩, b1, b2, b3⟩, st⟩ := X.virtualBack hx hown (mvT hZ w1) (mvT hZ w2) (notFace_of_selects (args := #[]) (mvT hZ w3)) (mvT hZ w3) (mvT hZ w4) hy (hC s1 hZ) qa qc (g := mkF m pc Ls St) rfl (by rw [hml]; exact hsz) (Steps.refl _) (lenOf hpd hpl) hst (by show 2 * 0 + _ ≤ _; omega) (hb hby hd) (fun _ _ => ⟨rfl, eT, hc, hs⟩)
    exact (k v Bp.U Bp.U.heap (K0.backN X' hZ hown N J Wq q2 q3 b1 b2 b3) q2 q1).tr st
  | some EL =>
    obtain ⟨vm0, k0, a1, rfl, j2, j3, j4, j5⟩ := J
    obtain ⟨v, vm1, Bp, -, X', S2, -, ⟨⟨L, ⟨q1, q2, q3⟩, b1, b2, b3⟩, C2⟩, st⟩ := X.virtualBackS hx hown (mvT hZ w1) (mvT hZ w2) (notFace_of_selects (args := #[]) (mvT hZ w3)) (mvT hZ w3) (mvT hZ w4) hy (hC s vm0 a1 hZ j5 j4.1 (fun x hx => (Wq x (hws x hx)).2)) qa qc (g := mkF m pc Ls St) rfl (by rw [hml]; exact hsz) (Steps.refl _) (lenOf hpd hpl) hst (by show 2 * 0 + _ ≤ _; omega) (hb hby hd) (fun _ _ => ⟨rfl, eT, hc, hs⟩)
    exact (k v Bp.U Bp.U.heap (K0.backW X' hZ hown N j2 j3 j4 j5 Wq S2 q2 q3 b1 b2 b3 C2) q2 q1).tr st
/-! ## the end, the entry -/
def End (md : Option EList) (s Z : State) (n0 : Nat) (h0 : Heap) (ws : List Addr) (kc ks : Nat) (QQ : Option Value → Heap → Prop) : Outcome → State → Prop := match md with
  | none => fun o t => ∃ v L, o = .returned v ∧ (QQ v t.heap ∧ Keep h0 t.heap ws ∧ Fr n0 L) ∧ FrameEnd s o t L kc ks
  | some EL => fun o t => ∃ v L, o = .returned v ∧ (QQ v t.heap ∧ Keep h0 t.heap ws ∧ Fr n0 L) ∧ CHr Z EL s.vm s.heap t.vm t.heap ∧ ReturnedEndW s o t L kc ks
theorem sbn_mono {s t : State} {L : List Loc} {k n k' n' : Nat} (h : s.sameButNew t L k n) (a : k ≤ k') (b : n ≤ n') : s.sameButNew t L k' n' := h.mono a b
theorem gEnd {g : JFrame} {h0 : Heap} {wsA : List Addr} {kc ks : Nat} {QQ : Option Value → Heap → Prop} {v : Option Value} (K : Cx p l e R s m args below meth c B ML Z own n0 md T h ws cells slots) (hlk : meth.locks = false) (hv : meth.sig.returnType = none → v = none)
    (st : ∀ {s1 : State} {locs : List Loc} {fs : List Frame}, Stand p l e R s1 m args below meth c T locs cells slots → (∀ (f : JFrame) (acts : List Action), f.method = m → f.locked = none → f.entered = [] → (doReturn e (T.setTop f) acts v).1 = T.setFrames fs) → Steps p.tables e below (T.setTop g) (T.setFrames fs))
    (Kp : Keep h0 h wsA) (hc : cells ≤ kc) (hs : slots ≤ ks) (hq : QQ v h) : Go p e below (End md s Z n0 h0 wsA kc ks QQ) T g := by
  obtain ⟨⟨hx, hby, hml⟩, eT, hn0, s1, locs, X, hZ, hown, N, J, Wq⟩ := K
  subst eT
  cases md with
  | none =>
    cases J
    obtain ⟨fs, hr, hrun, hended, hW, hsame⟩ := X.leave (v := v) hv hlk
    exact ⟨_, _, st X hr, hrun, hended, v, locs, rfl, ⟨hq, Kp, N⟩, ⟨_, rfl⟩, hW, sbn_mono hsame hc hs⟩
  | some EL =>
    obtain ⟨vm0, k0, a1, rfl, j2, j3, j4, j5⟩ := J
    obtain ⟨fs, hr, hrun, hended, hW⟩ := X.leaveW j2 j3 (v := v) hv hlk
    refine ⟨_, _, st X hr, hrun, hended, v, locs, rfl, ⟨hq, Kp, N⟩, (show CHr Z EL s.vm s.heap T.vm T.heap from j4.trans (CHv.at X hZ j5 j4.1)), ?_⟩
    obtain ⟨w1, w2, w3, w4⟩ := hW
    exact ⟨w1, w2, w3, sbn_mono w4 hc hs⟩
theorem Cal.mono {y : MethodName} {len W kc ks kc' ks' : Nat} {wsC : List Addr} {as' : Array Value} {QQ QQ' : Option Value → Heap → Prop} (C : Cal md l R p e below args y len W Z n0 h wsC as' kc ks QQ) (h1 : kc ≤ kc') (h2 : ks ≤ ks') (hq : ∀ v h', QQ v h' → QQ' v h') : Cal md l R p e below args y len W Z n0 h wsC as' kc' ks' QQ' := by
  cases md with
  | none =>
    intro s' hZ m meth c A g ig mk a X hg hsize hdg hW hn hp
    obtain ⟨v, ⟨U, lo, ce, sl⟩, X', ⟨L, ⟨q1, q2, q3⟩, b1, b2, b3⟩, st⟩ := C s' hZ m meth c A g ig mk a X hg hsize hdg hW hn ⟨hp.1, hp.2.1, by have := hp.2.2.1; omega, by have := hp.2.2.2; omega⟩
    dsimp only [Pt.U, Pt.locs, Pt.cells, Pt.slots] at *
    exact ⟨v, ⟨U, lo, A.cells + kc', A.slots + ks'⟩, X'.mono (by rw [b2]; exact Nat.add_le_add_left h1 _) (by rw [b3]; exact Nat.add_le_add_left h2 _), ⟨L, ⟨hq _ _ q1, q2, q3⟩, b1, rfl, rfl⟩, st⟩
  | some EL =>
    intro s vm0 a0 hZ hE H hs m meth c A g ig mk a X hg hsize hdg hW hn hp
    obtain ⟨v, ⟨U, lo, ce, sl⟩, X', S2, gr, ⟨⟨L, ⟨q1, q2, q3⟩, b1, b2, b3⟩, C2⟩, st⟩ := C s vm0 a0 hZ hE H hs m meth c A g ig mk a X hg hsize hdg hW hn ⟨hp.1, hp.2.1, by have := hp.2.2.1; omega, by have := hp.2.2.2; omega⟩
    dsimp only [Pt.U, Pt.locs, Pt.cells, Pt.slots] at *
    exact ⟨v, ⟨U, lo, A.cells + kc', A.slots + ks'⟩, X'.mono (by rw [b2]; exact Nat.add_le_add_left h1 _) (by rw [b3]; exact Nat.add_le_add_left h2 _), S2, gr, ⟨⟨L, ⟨hq _ _ q1, q2, q3⟩, b1, rfl, rfl⟩, C2⟩, st⟩

theorem gRetI {h0 : Heap} {wsA : List Addr} {kc ks : Nat} {QQ : Option Value → Heap → Prop} {t : FieldType} {z : Int32} (K : Cx p l e R s m args below meth c B ML Z own n0 md T h ws cells slots) (hlk : meth.locks = false) (hret : meth.sig.returnType = some t) (ht : t = .int ∨ t = .boolean ∨ t = .byte ∨ t = .char ∨ t = .short) (hd : Dc B pc .ireturn 1 pc') (hn : narrow t (.int z) = .int z) (Kp : Keep h0 h wsA) (hc : cells ≤ kc) (hs : slots ≤ ks) (hq : QQ (some (.int z)) h) : Go p e below (End md s Z n0 h0 wsA kc ks QQ) T (mkF m pc Ls (.int z :: St)) :=
  gEnd K hlk (fun q => by rw [hret] at q; cases q) (fun X hr => retOut X K.1.1 hret hn (Or.inl ⟨rfl, ht, _, rfl⟩) (hb K.1.2.1 hd.1) hr) Kp hc hs hq
theorem gRetA {h0 : Heap} {wsA : List Addr} {kc ks : Nat} {QQ : Option Value → Heap → Prop} {t : FieldType} {w : Value} (K : Cx p l e R s m args below meth c B ML Z own n0 md T h ws cells slots) (hlk : meth.locks = false) (hret : meth.sig.returnType = some t) (ht : t.isReference = true) (hw : w.isRef = true) (hd : Dc B pc .areturn 1 pc') (Kp : Keep h0 h wsA) (hc : cells ≤ kc) (hs : slots ≤ ks) (hq : QQ (some w) h) : Go p e below (End md s Z n0 h0 wsA kc ks QQ) T (mkF m pc Ls (w :: St)) :=
  gEnd K hlk (fun q => by rw [hret] at q; cases q) (fun X hr => retOut X K.1.1 hret (by cases t <;> cases w <;> simp_all [FieldType.isReference, Value.isRef, narrow]) (Or.inr (Or.inr (Or.inr (Or.inr ⟨rfl, ht, hw⟩)))) (hb K.1.2.1 hd.1) hr) Kp hc hs hq
theorem gRetV {h0 : Heap} {wsA : List Addr} {kc ks : Nat} {QQ : Option Value → Heap → Prop} (K : Cx p l e R s m args below meth c B ML Z own n0 md T h ws cells slots) (hlk : meth.locks = false) (hret : meth.sig.returnType = none) (hd : Dc B pc .return_ 1 pc') (Kp : Keep h0 h wsA) (hc : cells ≤ kc) (hs : slots ≤ ks) (hq : QQ none h) : Go p e below (End md s Z n0 h0 wsA kc ks QQ) T (mkF m pc Ls []) :=
  gEnd K hlk (fun _ => rfl) (fun X hr => X.returnOut K.1.1 hret (hb K.1.2.1 hd.1) hr) Kp hc hs hq
def Ew (md : Option EList) (Z : State) : Prop := match md with | none => True | some EL => ∃ a0, EW Z a0 EL
theorem Con.intro {y : MethodName} {bytes : ByteArray} {maxL : Nat} {ret : Option FieldType} {wl : List Cond} {rm : Room} {h0 : Heap} {as' : Array Value} {QQ : Option Value → Heap → Prop} (hpn : plainName y.cls = true) (Z0 : n0 ≤ h0.size) (hws : ∀ x ∈ ws, n0 ≤ x ∧ x < h0.size) (hE : Ew md Z) (Ls0 : Array Slot) (hef : ∀ m, entryFrame m as' maxL = mkF m 0 Ls0 [])
    (body : ∀ p e s m below meth c T, meth.locks = false → meth.sig.returnType = ret → meth.name = y.name → Cx p l e rm s m as' below meth c bytes maxL Z y.cls n0 md T h0 ws 0 0 → Go p e below (End md s Z n0 h0 ws rm.cells rm.slots QQ) T (mkF m 0 Ls0 [])) : Con md l y bytes maxL ret wl rm Z n0 h0 ws as' QQ := by
  cases md with
  | none =>
    show ConN l y bytes maxL ret wl rm Z n0 h0 ws as' QQ
    unfold ConN
    refine MetFree.of_bodySF (plainFor_of_name hpn) hisR ?_
    intro p e s m args below meth c s₁ Bd hml0 hP hK
    obtain ⟨ha, hZ, hh⟩ := hP
    subst ha
    have G := body p e s m below meth c s₁ Bd.notSynchronized Bd.returns (name_of_methodNamed Bd.named Bd.method).1 ⟨⟨Bd.exec, Bd.bytes, hml0⟩, by rw [← hh, Bd.state]; rfl, Z0, s, [], Stand.of_body Bd, hZ, findClass_of_methodNamed Bd.named, Fr.nil n0, rfl, fun x hx => ⟨(hws x hx).1, (hws x hx).2, trivial⟩⟩
    rw [← hef m] at G
    exact G
  | some EL =>
    obtain ⟨a1, hE⟩ := hE
    show ConW EL l y bytes maxL ret wl rm Z n0 h0 ws as' QQ
    unfold ConW
    refine MetFree.of_bodySF (plainFor_of_name hpn) hisR ?_
    intro p e s m args below meth c s₁ Bd hml0 hP hK
    obtain ⟨ha, hZ, hh, H, hsf⟩ := hP
    subst ha
    have G := body p e s m below meth c s₁ Bd.notSynchronized Bd.returns (name_of_methodNamed Bd.named Bd.method).1 ⟨⟨Bd.exec, Bd.bytes, hml0⟩, by rw [← hh, Bd.state]; rfl, Z0, s, [], Stand.of_body Bd, hZ, findClass_of_methodNamed Bd.named, Fr.nil n0, ⟨s.vm, s.heap.size, a1, rfl, (State.WarmedH.refl s).since _, by rw [hh]; exact Nat.le_refl _, by rw [hh]; exact CHr.refl H, hE⟩, fun x hx => ⟨(hws x hx).1, (hws x hx).2, hsf x hx⟩⟩
    rw [← hef m] at G
    exact G
theorem EW.re {a1 a2 : Array Value} {EL : EList} (E : EW Z a1 EL) : EW Z a2 EL := fun q hq => by
  obtain ⟨t, w, h⟩ := E q hq
  exact ⟨t, mvS (s := Z) (vm0 := Z.vm) (State.Warmed39.refl Z) w, h⟩
theorem gLdc {EL : EList} (K : Cx p l e R s m args below meth c B ML Z own n0 (some EL) T h ws cells slots) {index : Nat} {text : String} (hd : Dc B pc (.ldc index) 2 pc') (w : (Cond.stringLink own index text).before a0 Z = true) (wS : ∀ a ∈ Bundle.stringAtoms, a.before a0 Z = true) (hmem : (own, index) ∈ EL)
    {vs : List Value} {z : Int32} (ht : (∀ c ∈ text.toList, c.toNat < 256) ∧ text.toList.map (fun c => Value.int (Jvm.Lit.byteI c.toNat.toUInt16)) = vs) (hz : ¬ z < 0) (hl : z.toNatClampNeg = vs.length) (n : Nat) (hn : 4 * text.toList.length ≤ n) (hbig : n ≤ 536870912) (hc : cells + 2 ≤ R.cells) (hs : slots + (n + 4) ≤ R.slots)
    (k : ∀ (T' : State) (h' : Heap) (a b : Addr) (kA : ClassId), Cx p l e R s m args below meth c B ML Z own n0 (some EL) T' h' ws (cells + 2) (slots + (n + 4)) → Ext h h' → Exa Z h' a "java/lang/String" → Fld Z h' a "java/lang/String" "coder" "B" (.int 0) → Fld Z h' a "java/lang/String" "value" "[B" (.ref b) → Arv Z h' b kA .byte z vs (.int 0) → (∀ x ∈ ws, x ≠ a ∧ x ≠ b) → Go p e below F T' (mkF m pc' Ls (.ref a :: St))) : Go p e below F T (mkF m pc Ls St) := by
  have K0 := K
  obtain ⟨⟨hx, hby, hml⟩, eT, hn0, s1, locs, X, hZ, hown, N, J, Wq⟩ := K
  obtain ⟨hd, rfl⟩ := hd
  obtain ⟨vm0, k0, a1, rfl, j2, j3, j4, j5⟩ := J
  obtain ⟨a, T', h', k1, b, kA, X', e', E, S', hk', hZ', hown', f1, f2, f3, f4, -, -, C2, -, hne, st⟩ := ldcCH X hx hZ hown w wS eT j2 j3 (EW.re j5) hmem j4.1 ht hz hl (g := mkF m pc Ls St) rfl (hb hby hd) hn hbig hc hs
  exact (k T' h' a b kA ⟨K0.1, e', Nat.le_trans hn0 E.1, _, locs, X', hZ', hown', N, ⟨T'.vm, k1, a1, rfl, S', hk', j4.trans C2, j5⟩, fun x hx => ⟨(Wq x hx).1, Nat.lt_of_lt_of_le (Wq x hx).2.1 E.1, C2.safe (Wq x hx).2.1 (Wq x hx).2.2⟩⟩ E f1 f2 f3 f4 (fun x hx => hne x (C2.safe (Wq x hx).2.1 (Wq x hx).2.2))).st st
theorem gLdcO {EL : EList} (K : Cx p l e R s m args below meth c B ML Z own n0 (some EL) T h ws cells slots) {index : Nat} {text : String} (hd : Dc B pc (.ldc index) 2 pc') (w : (Cond.stringLink own index text).before a0 Z = true) (wS : ∀ a ∈ Bundle.stringAtoms, a.before a0 Z = true) (n : Nat) (hn : 4 * text.toList.length ≤ n) (hbig : n ≤ 536870912) (hc : cells + 2 ≤ R.cells) (hs : slots + (n + 4) ≤ R.slots)
    (k : ∀ (T' : State) (h' : Heap) (a : Addr), Cx p l e R s m args below meth c B ML Z own n0 (some EL) T' h' ws (cells + 2) (slots + (n + 4)) → Ext h h' → Go p e below F T' (mkF m pc' Ls (.ref a :: St))) : Go p e below F T (mkF m pc Ls St) := by
  have K0 := K
  obtain ⟨⟨hx, hby, hml⟩, eT, hn0, s1, locs, X, hZ, hown, N, J, Wq⟩ := K
  obtain ⟨hd, rfl⟩ := hd
  obtain ⟨vm0, k0, a1, rfl, j2, j3, j4, j5⟩ := J
  obtain ⟨a, T', h', k1, X', e', E, S', hk', hZ', hown', C2, -, st⟩ := ldcOH X hx hZ hown w wS eT j2 j3 (EW.re j5) j4.1 (g := mkF m pc Ls St) rfl (hb hby hd) hn hbig hc hs
  exact (k T' h' a ⟨K0.1, e', Nat.le_trans hn0 E.1, _, locs, X', hZ', hown', N, ⟨T'.vm, k1, a1, rfl, S', hk', j4.trans C2, j5⟩, fun x hx => ⟨(Wq x hx).1, Nat.lt_of_lt_of_le (Wq x hx).2.1 E.1, C2.safe (Wq x hx).2.1 (Wq x hx).2.2⟩⟩ E).st st

/-! ## from a case's words -/
theorem eqint_v {first s : State} {o : Option Outcome} {idx : List Nat} {t : Term} {i : Int32} (q : (Cond.eq t (.int i)).value args first o s idx = some true) : t.eval args first o idx s = some (.int i) := by
  simp only [Cond.value, Term.eval] at q
  cases ht : t.eval args first o idx s with
  | none => simp [ht] at q
  | some x => cases x <;> simp [ht] at q ⊢; exact q
theorem ord_of {s : State} {t : Term} {C n d : String} {x : Addr} {i : Int32} (ht : t.eval args s none [] s = some (.ref x)) (q : (Cond.eq (Term.field t C n d) (.int i)).value args s none s [] = some true) : Fld s s.heap x C n d (.int i) := by
  have e1 := eqint_v q
  rw [fld_at ht] at e1
  exact Fld.start e1
theorem Sta.kp {C n d : String} {v : Value} {h' : Heap} (Fd : Sta Z h C n d v) (K : Keep h h' ws) (hn : ∀ x ∈ ws, ∀ cell : Cell, h[x]? = some cell → cell.vm.isStatics = false) : Sta Z h' C n d v := by
  obtain ⟨cf, i, k, f, st, cell, h1, h2, h3, h4, h5, h6, h7⟩ := Fd
  exact ⟨cf, i, k, f, st, cell, h1, h2, h3, h4, K.2.1 st cell h5 (fun q => by have := hn st q cell h5; rw [h6] at this; cases this), h6, h7⟩
theorem i_ne {a b : Int32} (q : ¬ a = b) : a.toInt ≠ b.toInt := fun e => q (Int32.toInt_inj.mp e)
theorem i_lt {a b : Int32} (q : a < b) : a.toInt < b.toInt := Int32.lt_iff_toInt_lt.mp q
theorem i_nlt {a b : Int32} (q : ¬ a < b) : b.toInt ≤ a.toInt := by rw [Int32.lt_iff_toInt_lt] at q; omega
theorem i_eq {a b : Int32} (q : a.toInt = b.toInt) : a = b := Int32.toInt_inj.mp q
theorem and7 (x : Int32) : ¬ (x &&& 7) < 0 ∧ ¬ (7 : Int32) < (x &&& 7) := by
  have := c_and x 7 (by decide)
  rw [Int32.lt_iff_toInt_lt, Int32.lt_iff_toInt_lt]
  have e1 : (7 : Int32).toInt = 7 := by decide
  have e2 : (0 : Int32).toInt = 0 := by decide
  omega
theorem and255c (x : Int32) : ¬ (x &&& 255).toUInt32.toUInt16.toUInt32.toInt32 < 0 ∧ ¬ (255 : Int32) < (x &&& 255).toUInt32.toUInt16.toUInt32.toInt32 := by
  have h1 := c_and x 255 (by decide)
  have h2 := c_i2c (x &&& 255)
  rw [Int32.lt_iff_toInt_lt, Int32.lt_iff_toInt_lt]
  have e1 : (255 : Int32).toInt = 255 := by decide
  have e2 : (0 : Int32).toInt = 0 := by decide
  omega
theorem ch_up {x : Int32} (q : ¬ (255 : Int32) < x) : ¬ (65535 : Int32) < x := by
  rw [Int32.lt_iff_toInt_lt] at q ⊢
  have e1 : (255 : Int32).toInt = 255 := by decide
  have e2 : (65535 : Int32).toInt = 65535 := by decide
  omega
theorem allI0 {P : Int32 → Prop} : ∀ x ∈ ([] : List Int32), P x := fun _ q => nomatch q
theorem allI {P : Int32 → Prop} {y : Int32} {L : List Int32} (q : P y) (r : ∀ x ∈ L, P x) : ∀ x ∈ y :: L, P x := fun x z => (List.mem_cons.mp z).elim (fun u => u ▸ q) (r x)
theorem nar_ref {C : String} {v : Value} (hv : v.isRef = true) : narrow (.object C) v = v := by cases v <;> simp_all [Value.isRef, narrow]
theorem fits_refv {C : String} {v : Value} (hv : v.isRef = true) : fits (.object C) v = true := by cases v <;> simp_all [Value.isRef, fits]
theorem gInstNull (K : Cx p l e R s m args below meth c B ML Z own n0 md T h ws cells slots) {index : Nat} (hd : Dc B pc (.instanceof index) 3 pc') (r : Go p e below F T (mkF m pc' Ls (.int 0 :: St))) : Go p e below F T (mkF m pc Ls (.null :: St)) := by
  obtain ⟨⟨hx, hby, hml⟩, eT, hn0, s1, locs, X, -⟩ := K
  obtain ⟨hd, rfl⟩ := hd
  exact r.st (X.instanceofNull hx (g := mkF m pc Ls (.null :: St)) rfl rfl (hb hby hd))
/-- an object of C (whose superclass is the root) is no D, D an ordinary class -/
theorem noCast {C S D : String} {n : Nat} (w : (Cond.superclass C S).before a0 Z = true) (w0 : (Cond.noSuperclass S).before a0 Z = true) (wi : (Cond.instantiable D n).before a0 Z = true) (hCD : C ≠ D) (hSD : S ≠ D) : ∃ c t, Z.vm.findClass C = some c ∧ Z.vm.findClass D = some t ∧ Z.vm.assignable c t = false := by
  obtain ⟨c, h0⟩ := found_sup w
  obtain ⟨pp, k, kp, h1, h2, h3, h4, h5, h6, h7⟩ := Cond.superclass_spec h0 w
  obtain ⟨t, kt, g0, g2, g5, g7, -, -⟩ := Cond.instantiable_spec wi
  obtain ⟨c', k', r1, r2, r3, -, -⟩ := Cond.noSuperclass_spec w0
  cases h1.symm.trans r1
  cases h3.symm.trans r2
  have ne1 := ids_ne h0 g0 hCD
  have ne2 := ids_ne h1 g0 hSD
  have g7' : kt.isInterface = false := by cases hq : kt.isInterface <;> simp_all
  have sub : ∀ fuel, Z.vm.isSubclassAux fuel c t = false := fun fuel => by
    cases fuel with
    | zero => rfl
    | succ f =>
      cases f with
      | zero => simp [Vm.isSubclassAux, ne1, h2, h4]
      | succ f => simp [Vm.isSubclassAux, ne1, h2, h4, ne2, h3, r3]
  refine ⟨c, t, h0, g0, ?_⟩
  show Z.vm.assignableAux (255 + 1) c t = false
  simp [Vm.assignableAux, ne1, h2, g2, h5, g5, g7', Vm.isSubclass, sub]

/-! ## constants, clone, arrays of the start -/
theorem gLdcI (K : Cx p l e R s m args below meth c B ML Z own n0 md T h ws cells slots) {index : Nat} (v : Int32) (hd : Dc B pc (.ldc index) 2 pc') (w : (Cond.constant own index v).before a0 Z = true) (r : Go p e below F T (mkF m pc' Ls (.int v :: St))) : Go p e below F T (mkF m pc Ls St) := by
  obtain ⟨⟨hx, hby, hml⟩, eT, hn0, s1, locs, X, hZ, hown, -⟩ := K
  obtain ⟨hd, rfl⟩ := hd
  exact r.st fun t q => X.ldcI hx hown (mvT hZ w) (g := mkF m pc Ls St) rfl (hb hby hd) q
theorem gLdc2J (K : Cx p l e R s m args below meth c B ML Z own n0 md T h ws cells slots) {index : Nat} (v : Int64) (hd : Dc B pc (.ldc2_w index) 3 pc') (w : (Cond.constantLong own index v).before a0 Z = true) (r : Go p e below F T (mkF m pc' Ls (.long v :: St))) : Go p e below F T (mkF m pc Ls St) := by
  obtain ⟨⟨hx, hby, hml⟩, eT, hn0, s1, locs, X, hZ, hown, -⟩ := K
  obtain ⟨hd, rfl⟩ := hd
  exact r.st fun t q => X.ldc2J hx hown (mvT hZ w) (g := mkF m pc Ls St) rfl (hb hby hd) q
theorem gClone (K : Cx p l e R s m args below meth c B ML Z own n0 md T h ws cells slots) {index : Nat} {ad : String} {a : Addr} {kA : ClassId} {ty : FieldType} {z : Int32} {vs : List Value} {dv : Value} (hd : Dc B pc (.invokevirtual index) 3 pc')
    (w1 : (Cond.methodLink own index ⟨ad, "clone", "()Ljava/lang/Object;"⟩).before a0 Z = true) (w2 : (Cond.sameMethod ad "java/lang/Object" "clone" "()Ljava/lang/Object;").before a0 Z = true) (w3 : (Cond.native ⟨"java/lang/Object", "clone", "()Ljava/lang/Object;"⟩).before a0 Z = true)
    (w4 : (Cond.instanceMethod ⟨"java/lang/Object", "clone", "()Ljava/lang/Object;"⟩).before a0 Z = true) (w5 : (Cond.selects ad ⟨ad, "clone", "()Ljava/lang/Object;"⟩ ⟨"java/lang/Object", "clone", "()Ljava/lang/Object;"⟩).before a0 Z = true) (w6 : (Cond.castable ad "java/lang/Cloneable").before a0 Z = true)
    (A : Arv Z h a kA ty z vs dv) (E : Exa Z h a ad) (hsz : Ls.size = ML) (hf : 1 ≤ R.frames) {W : Nat} (hW : (St.map fun v => v.category).sum ≤ W) (hl : W + 14 ≤ R.locals) (cap : Nat) (hcap : z.toNatClampNeg ≤ cap) (hc : cells + 1 ≤ R.cells) (hs : slots + cap ≤ R.slots)
    (k : ∀ (T' : State) (h' : Heap) (x : Addr), Cx p l e R s m args below meth c B ML Z own n0 md T' h' (x :: ws) (cells + 1) (slots + cap) → Ext h h' → x = h.size → Arv Z h' x kA ty z vs dv → Exa Z h' x ad → (∀ y ∈ ws, y ≠ x) → Go p e below F T' (mkF m pc' Ls (.ref x :: St))) : Go p e below F T (mkF m pc Ls (.ref a :: St)) := by
  have K0 := K
  obtain ⟨⟨hx, hby, hml⟩, eT, hn0, s1, locs, X, hZ, hown, N, J, Wq⟩ := K
  obtain ⟨hd, rfl⟩ := hd
  obtain ⟨T', h', X', e', E', A', F', st⟩ := cloneH X hx hZ hown w1 w2 w3 w4 w5 w6 eT A.arh E (g := mkF m pc Ls (.ref a :: St)) rfl (by rw [hml]; exact hsz) rfl (hb hby hd) hf (W := W) (cap := cap) (by show 2 * 0 + _ ≤ _; omega) hl hcap hc hs
  exact (k T' h' h.size (K0.grow X' e' E' F'.lt hZ hown N J Wq) E' rfl A' F' (fun y hy => Nat.ne_of_lt (Wq y hy).2.1)).st st
theorem eqref_l {first s : State} {o : Option Outcome} {idx : List Nat} {t u : Term} {x : Addr} (q : (Cond.eq t u).value args first o s idx = some true) (hu : u.eval args first o idx s = some (.ref x)) : t.eval args first o idx s = some (.ref x) := by
  simp only [Cond.value, hu] at q
  cases ht : t.eval args first o idx s with
  | none => simp [ht] at q
  | some y => cases y <;> simp [ht] at q ⊢; exact q
theorem hasL_of {cl : Cell} {dv : Value} : ∀ (vs : List Value) (i : Nat), (∀ j, j < vs.length → cl.slots[i + j]? = some (vs.getD j dv)) → HasL cl i vs
  | [], _, _ => trivial
  | v :: r, i, H => ⟨H 0 (Nat.zero_lt_succ _), hasL_of r (i + 1) fun j hj => by have := H (j + 1) (Nat.succ_lt_succ hj); rw [Nat.add_right_comm] ; exact this⟩
theorem arv_words {s : State} {t : Term} {a : Addr} {ty : FieldType} {z : Int32} {vs : List Value} {dv : Value} (hf : Fit s) (ev : t.eval args s none [] s = some (.ref a)) (hA : (Cond.arrayOf t ty).value args s none s [] = some true) (hL : (Cond.eq (Term.length t) (.int z)).value args s none s [] = some true) (hz : ¬ z < 0) (hl : z.toNatClampNeg = vs.length)
    (hE : ∀ j, j < vs.length → (Term.elem t (.int (Int32.ofNat j))).eval args s none [] s = some (vs.getD j dv)) : ∃ k, Arv s s.heap a k ty z vs dv := by
  obtain ⟨cl, A⟩ := Arr.start ev hA
  have e1 := eqint_v hL
  have hat := A.fin (Vm.Alike.refl s.vm)
  simp [Term.eval, ev, hat] at e1
  refine ⟨_, Arv.start hf A (by omega) e1.2 hz hl (hasL_of (dv := dv) vs 0 fun j hj => ?_)⟩
  have hb2 := (back32 hz).2
  have := elem_in (hE j hj) ev rfl A.1
  have e3 : (Int32.ofNat j).toNatClampNeg = j := by
    have : (Int32.ofNat j).toInt = j := len_toInt (by omega)
    simp only [Int32.toNatClampNeg, this]; rfl
  rw [e3] at this
  rw [Nat.zero_add]; exact this.2
theorem fld_word {s : State} {t : Term} {C n d : String} {x : Addr} {v : Value} (ht : t.eval args s none [] s = some (.ref x)) (hv : (Term.field t C n d).eval args s none [] s = some v) : Fld s s.heap x C n d v := by
  rw [fld_at ht] at hv
  exact Fld.start hv
theorem narrow_c {x : Int32} (q : ¬ x < 0 ∧ ¬ (255 : Int32) < x) : narrow .char (.int x) = .int x := by
  show Value.int (nar .char x) = _
  rw [nar_c q.1 (ch_up q.2)]
theorem getD_bd {cs : List Int32} (hp : ∀ c ∈ cs, ¬ c < 0 ∧ ¬ (255 : Int32) < c) (k : Nat) : ¬ cs.getD k 0 < 0 ∧ ¬ (255 : Int32) < cs.getD k 0 := by
  rw [List.getD_eq_getElem?_getD]
  by_cases q : k < cs.length
  · rw [List.getElem?_eq_getElem q]; exact hp _ (List.getElem_mem q)
  · rw [List.getElem?_eq_none (by omega)]; decide
theorem ofNat_toInt {k : Nat} (q : k < 2147483648) : (Int32.ofNat k).toInt = k := len_toInt (by omega)
theorem land255 (x : Int64) : ¬ ((x &&& 255).toInt32).toUInt32.toUInt16.toUInt32.toInt32 < 0 ∧ ¬ (255 : Int32) < ((x &&& 255).toInt32).toUInt32.toUInt16.toUInt32.toInt32 := by
  have h1 := c_maskL x 255 8 (by decide) (by decide)
  have h2 := c_l2i (x &&& 255)
  have h3 := c_i2c ((x &&& 255).toInt32)
  have h4 := rng32 ((x &&& 255).toInt32)
  rw [Int32.lt_iff_toInt_lt, Int32.lt_iff_toInt_lt]
  have e1 : (255 : Int32).toInt = 255 := by decide
  have e2 : (0 : Int32).toInt = 0 := by decide
  have e3 : ((2 ^ 8 : Nat) : Int) = 256 := by decide
  rw [e3] at h1
  omega
theorem ofNat_lt {k n : Nat} (hk : k < 2147483648) (hn : n < 2147483648) (q : Int32.ofNat k < Int32.ofNat n) : k < n := by
  rw [Int32.lt_iff_toInt_lt, ofNat_toInt hk, ofNat_toInt hn] at q; omega
theorem gCallF (K : Cx p l e R s m args below meth c B ML Z own n0 md T h ws cells slots) {index count : Nat} {C : String} {xi y : MethodName} {wsC : List Addr} {kc ks W : Nat} {QQ : Option Value → Heap → Prop} (a : Addr) (argsL rest : List Value)
    (hd : Dc B pc (.invokeinterface index count) 5 pc') (w1 : (Cond.methodLink own index xi).before a0 Z = true) (w2 : (Cond.declares xi).before a0 Z = true) (w3 : (Cond.interfaceMethod xi.cls xi.cls xi.name xi.desc).before a0 Z = true) (w4 : (Cond.selects C xi y).before a0 Z = true) (w5 : (Cond.instanceMethod y).before a0 Z = true) (w6 : (Cond.publicMethod y).before a0 Z = true) (w7 : (Cond.unhidden C xi.name xi.desc).before a0 Z = true) (w8 : (Cond.castable C xi.cls).before a0 Z = true) (hk3 : ((Cond.interfaceMethod xi.cls xi.cls xi.name xi.desc).onTables && (Cond.interfaceMethod xi.cls xi.cls xi.name xi.desc).keepsFace) = true)
    (hC : Cal md l R p e below args y 5 W Z n0 h wsC (.ref a :: argsL).toArray kc ks QQ) (E : Exa Z h a C) (hws : ∀ x ∈ wsC, x ∈ ws) {ps : List FieldType} {rt : Option FieldType} (hpd : parseMethodDescriptor xi.desc = some ⟨ps, rt⟩) (hpl : argsL.length = ps.length) (hst : St = argsL.reverse ++ .ref a :: rest) (hW : (rest.map fun v => v.category).sum ≤ W) (hsz : Ls.size = ML) (hc : cells + kc ≤ R.cells) (hs : slots + ks ≤ R.slots) (hy : xi.cls ≠ "java/lang/invoke/MethodHandle" ∧ xi.cls ≠ "java/lang/invoke/VarHandle")
    (k : ∀ (v : Option Value) (T' : State) (h' : Heap), Cx p l e R s m args below meth c B ML Z own n0 md T' h' ws (cells + kc) (slots + ks) → Keep h h' wsC → QQ v h' → Go p e below F T' (mkF m pc' Ls (v.toList ++ rest))) : Go p e below F T (mkF m pc Ls St) := by
  have K0 := K
  obtain ⟨⟨hx, hby, hml⟩, eT, hn0, s1, locs, X, hZ, hown, N, J, Wq⟩ := K
  obtain ⟨hd, rfl⟩ := hd
  obtain ⟨cq, kq, qa, qb, qc⟩ := isOf hZ eT E
  cases md with
  | none =>
    obtain ⟨v, vm1, Bp, -, X', ⟨L, ⟨q1, q2, q3⟩, b1, b2, b3⟩, st⟩ := X.interfaceBack hx hown (mvT hZ w1) (mvT hZ w2) (mvT hZ w3 hk3) (mvT hZ w4) (mvT hZ w5) (mvT hZ w6) (mvT hZ w7) (mvT hZ w8) hy (hC s1 hZ) qa qb qc (g := mkF m pc Ls St) rfl (by rw [hml]; exact hsz) (Steps.refl _) (lenOf hpd hpl) hst (by show 2 * 0 + _ ≤ _; omega) (hb hby hd) (fun _ _ => ⟨rfl, eT, hc, hs⟩)
    exact (k v Bp.U Bp.U.heap (K0.backN X' hZ hown N J Wq q2 q3 b1 b2 b3) q2 q1).tr st
  | some EL =>
    obtain ⟨vm0, k0, a1, rfl, j2, j3, j4, j5⟩ := J
    obtain ⟨v, vm1, Bp, -, X', S2, -, ⟨⟨L, ⟨q1, q2, q3⟩, b1, b2, b3⟩, C2⟩, st⟩ := X.interfaceBackS hx hown (mvT hZ w1) (mvT hZ w2) (mvT hZ w3 hk3) (mvT hZ w4) (mvT hZ w5) (mvT hZ w6) (mvT hZ w7) (mvT hZ w8) hy (hC s vm0 a1 hZ j5 j4.1 (fun x hx => (Wq x (hws x hx)).2)) qa qb qc (g := mkF m pc Ls St) rfl (by rw [hml]; exact hsz) (Steps.refl _) (lenOf hpd hpl) hst (by show 2 * 0 + _ ≤ _; omega) (hb hby hd) (fun _ _ => ⟨rfl, eT, hc, hs⟩)
    exact (k v Bp.U Bp.U.heap (K0.backW X' hZ hown N j2 j3 j4 j5 Wq S2 q2 q3 b1 b2 b3 C2) q2 q1).tr st
theorem ofNat_nn {k : Nat} (q : k < 2147483648) : ¬ Int32.ofNat k < 0 := by
  rw [Int32.lt_iff_toInt_lt, ofNat_toInt q]
  have : (0 : Int32).toInt = 0 := by decide
  omega
theorem ofNat_ltI {k n : Nat} (hk : k < n) (hn : n < 2147483648) : Int32.ofNat k < Int32.ofNat n := by
  rw [Int32.lt_iff_toInt_lt, ofNat_toInt (by omega), ofNat_toInt hn]; omega
theorem ofNat_ne {k n : Nat} (hk : k < n) (hn : n < 2147483648) : ¬ Int32.ofNat k = Int32.ofNat n := fun q => by
  have := congrArg Int32.toInt q
  rw [ofNat_toInt (by omega), ofNat_toInt hn] at this; omega
theorem ofNat_clamp {k : Nat} (q : k < 2147483648) : (Int32.ofNat k).toNatClampNeg = k := by
  simp only [Int32.toNatClampNeg, ofNat_toInt q]; rfl
theorem ofNat_s {k : Nat} (q : k < 2147483647) : Int32.ofNat k + 1 = Int32.ofNat (k + 1) := by
  apply i_eq
  have h1 := c_iadd (Int32.ofNat k) 1
  have h2 := rng32 (Int32.ofNat k + 1)
  rw [ofNat_toInt (by omega)] at h1 ⊢
  have : (1 : Int32).toInt = 1 := by decide
  omega
theorem shl1 {k : Nat} (q : k < 1073741824) : Int32.ofNat k <<< ((1 : Int32) &&& 31) = Int32.ofNat (2 * k) := by
  apply i_eq
  have h1 := c_ishl (Int32.ofNat k) 1 1 (by decide)
  have h2 := rng32 (Int32.ofNat k <<< ((1 : Int32) &&& 31))
  rw [ofNat_toInt (by omega)] at h1 ⊢
  have : ((2 ^ 1 : Nat) : Int) = 2 := by decide
  omega
theorem shr1 {k : Nat} (q : k < 1073741824) : Int32.ofNat (2 * k) >>> ((1 : Int32) &&& 31) = Int32.ofNat k := by
  apply i_eq
  rw [c_ishr _ 1 1 (by decide), ofNat_toInt (by omega), ofNat_toInt (by omega)]
  have : ((2 ^ 1 : Nat) : Int) = 2 := by decide
  omega
theorem shr0 (x : Int32) : x >>> ((0 : Int32) &&& 31) = x := by
  apply i_eq
  rw [c_ishr _ 0 0 (by decide)]
  have : ((2 ^ 0 : Nat) : Int) = 1 := by decide
  omega
theorem nar_b2 (x : Int32) : nar .byte x.toInt8.toInt32 = x.toInt8.toInt32 := by
  apply i_eq
  show (x.toInt8.toInt32.toInt8.toInt32).toInt = _
  have h1 := c_i2b x.toInt8.toInt32
  have h2 := c_i2b x
  omega
theorem Cx.addN {b : Addr} (K : Cx p l e R s m args below meth c B ML Z own n0 none T h ws cells slots) (q1 : n0 ≤ b) (q2 : b < h.size) : Cx p l e R s m args below meth c B ML Z own n0 none T h (b :: ws) cells slots := by
  obtain ⟨k1, k2, k3, s1, locs, X, r1, r2, r3, r4, r5⟩ := K
  exact ⟨k1, k2, k3, s1, locs, X, r1, r2, r3, r4, fun x hx => by
    rcases List.mem_cons.mp hx with rfl | hx
    · exact ⟨q1, q2, trivial⟩
    · exact r5 x hx⟩
theorem narrow_c16 {x : Int32} (q : ¬ x < 0 ∧ ¬ (65535 : Int32) < x) : narrow .char (.int x) = .int x := by
  show Value.int (nar .char x) = _
  rw [nar_c q.1 q.2]
theorem getD_bd16 {cs : List Int32} (hp : ∀ c ∈ cs, ¬ c < 0 ∧ ¬ (65535 : Int32) < c) (k : Nat) : ¬ cs.getD k 0 < 0 ∧ ¬ (65535 : Int32) < cs.getD k 0 := by
  rw [List.getD_eq_getElem?_getD]
  by_cases q : k < cs.length
  · rw [List.getElem?_eq_getElem q]; exact hp _ (List.getElem_mem q)
  · rw [List.getElem?_eq_none (by omega)]; decide
theorem i2c_bd (x : Int32) : ¬ x.toUInt32.toUInt16.toUInt32.toInt32 < 0 ∧ ¬ (65535 : Int32) < x.toUInt32.toUInt16.toUInt32.toInt32 := by
  have h3 := c_i2c x
  rw [Int32.lt_iff_toInt_lt, Int32.lt_iff_toInt_lt]
  have e1 : (65535 : Int32).toInt = 65535 := by decide
  have e2 : (0 : Int32).toInt = 0 := by decide
  omega
/-- (x & 0x7fffffff) % d, d a small positive literal, as a Nat -/
theorem mod_nat (x : Int32) (d : Nat) (h0 : 0 < d) (h1 : d < 1000) : ∃ k : Nat, k < d ∧ (x &&& 2147483647) % Int32.ofNat d = Int32.ofNat k := by
  have a1 := c_and x 2147483647 (by decide)
  have a2 := c_irem (x &&& 2147483647) (Int32.ofNat d) d (ofNat_toInt (by omega))
  have a3 := a2.1 (by omega)
  refine ⟨((x &&& 2147483647).toInt % d).toNat, ?_, i_eq ?_⟩
  · have := Int.emod_lt_of_pos (x &&& 2147483647).toInt (show (0 : Int) < d by omega)
    have := Int.emod_nonneg (x &&& 2147483647).toInt (show (d : Int) ≠ 0 by omega)
    omega
  · have g1 := Int.emod_lt_of_pos (x &&& 2147483647).toInt (show (0 : Int) < d by omega)
    have g2 := Int.emod_nonneg (x &&& 2147483647).toInt (show (d : Int) ≠ 0 by omega)
    rw [a3, ofNat_toInt (by omega)]; omega
theorem ofNat_sub {a b : Nat} (h : b ≤ a) (ha : a < 2147483648) : Int32.ofNat a - Int32.ofNat b = Int32.ofNat (a - b) := by
  apply i_eq
  have h1 := c_isub (Int32.ofNat a) (Int32.ofNat b)
  have h2 := rng32 (Int32.ofNat a - Int32.ofNat b)
  rw [ofNat_toInt ha, ofNat_toInt (by omega)] at h1
  rw [ofNat_toInt (by omega)]; omega
theorem ofNat_add {a b : Nat} (ha : a + b < 2147483648) : Int32.ofNat a + Int32.ofNat b = Int32.ofNat (a + b) := by
  apply i_eq
  have h1 := c_iadd (Int32.ofNat a) (Int32.ofNat b)
  have h2 := rng32 (Int32.ofNat a + Int32.ofNat b)
  rw [ofNat_toInt (by omega), ofNat_toInt (by omega)] at h1
  rw [ofNat_toInt (by omega)]; omega
theorem ofNat_nlt {k n : Nat} (hk : n ≤ k) (hk' : k < 2147483648) : ¬ Int32.ofNat k < Int32.ofNat n := by
  rw [Int32.lt_iff_toInt_lt, ofNat_toInt hk', ofNat_toInt (by omega)]; omega
theorem getD_mapI (cs : List Int32) (k : Nat) : (cs.map Value.int).getD k (.int 0) = .int (cs.getD k 0) := by
  rw [List.getD_eq_getElem?_getD, List.getD_eq_getElem?_getD, List.getElem?_map]
  cases cs[k]? <;> rfl
theorem and15 (x : Int32) : ¬ (x &&& 15) < 0 ∧ (x &&& 15) < 16 := by
  have := c_and x 15 (by decide)
  rw [Int32.lt_iff_toInt_lt, Int32.lt_iff_toInt_lt]
  have e1 : (15 : Int32).toInt = 15 := by decide
  have e2 : (0 : Int32).toInt = 0 := by decide
  have e3 : (16 : Int32).toInt = 16 := by decide
  omega

end Kit
end Jvm.OwnKit

/- laws to paste: Road.backV, Road.chN, Road.lenW, Road.codOf (cut by pick.py; bodies as the Statement names them) -/
namespace Jvm.Pilot.@@N@@
namespace StrChars
open Jvm Sem ClassFile Op Lib Jvm.Stand Jvm.Free.XT Jvm.Free.ALB Jvm.Free.JM Jvm.Free
open Jvm.Lib.Cold (StaticIs)
/-- a char array whose places are chars -/
def Ch (a : Addr) (A : Cell) (U : State) : Prop := Arr .char a A U ∧ Typed .char A
theorem Ch.mv {a : Addr} {A : Cell} {U U' : State} (h : Ch a A U) (hal : U.vm.Alike U'.vm) (hh : U'.heap = U.heap) : Ch a A U' := ⟨h.1.mv hal hh, h.2⟩
theorem Ch.keep {a : Addr} {A : Cell} {U U' : State} (h : Ch a A U) (hal : U.vm.Alike U'.vm) (hk : U'.heap[a]? = some A) : Ch a A U' := ⟨h.1.keep hal hk, h.2⟩
/-- what place i of a char[]'s cell holds -/
def cv (A : Cell) (i : Nat) : Int32 := match A.slots[i]? with | some (.int x) => x | _ => 0
theorem Ch.get {a : Addr} {A : Cell} {U : State} (h : Ch a A U) {i : Nat} (hi : i < A.slots.size) : A.slots[i]? = some (.int (cv A i)) := by
  have e := Array.getElem?_eq_getElem hi
  have f := h.2 i _ e
  unfold cv; rw [e]
  generalize A.slots[i] = v at f
  cases v <;> simp [fits] at f ⊢
/-- the byte that i2b leaves of a char -/
def lo8 (x : Int32) : Int32 := x.toInt8.toInt32
theorem fits_lo8 (y : Int32) : fits .byte (.int (lo8 y)) = true := by
  have h1 := y.toInt8.le_toInt
  have h2 := y.toInt8.toInt_lt
  simp only [lo8, fits, Bool.and_eq_true, decide_eq_true_eq, Int32.le_iff_toInt_le, Int8.toInt_toInt32, show (-128 : Int32).toInt = -128 from by decide, show (127 : Int32).toInt = 127 from by decide]
  omega
/-- A' is A but that each place j of lo .. hi - 1 holds f j -/
def Laid (A A' : Cell) (lo hi : Nat) (f : Nat → Value) : Prop := A'.cls = A.cls ∧ A'.vm = A.vm ∧ A'.slots.size = A.slots.size ∧ ∀ i, A'.slots[i]? = if lo ≤ i ∧ i < hi then some (f i) else A.slots[i]?
theorem Laid.zero (A : Cell) (lo : Nat) (f : Nat → Value) : Laid A A lo (lo + 0) f := ⟨rfl, rfl, rfl, fun i => by rw [if_neg (by omega)]⟩
theorem Laid.step {A Ak : Cell} {lo k : Nat} {f : Nat → Value} {v : Value} (h : Laid A Ak lo k f) (hlo : lo ≤ k) (hk : k < Ak.slots.size) (hv : v = f k) : Laid A (Ak.setSlot k v) lo (k + 1) f := by
  refine ⟨h.1, h.2.1, by simpa [Cell.setSlot] using h.2.2.1, fun i => ?_⟩
  by_cases e : k = i
  · subst e; rw [Cell.slots_setSlot_self v hk, if_pos (by omega), hv]
  · rw [Cell.slots_setSlot_ne v e, h.2.2.2 i]
    by_cases q : lo ≤ i ∧ i < k
    · rw [if_pos q, if_pos (by omega)]
    · rw [if_neg q, if_neg (by omega)]
def U16 : String := "java/lang/StringUTF16"
namespace Cmp5
def yN : MethodName := ⟨"java/lang/StringUTF16", "compress", "([CI[BII)I"⟩
abbrev yB : ByteArray := jdk_52_method_21_code
theorem d0 : decode yB 0 = .ok (.iconst 0, 1) := by decide +kernel
theorem d1 : decode yB 1 = .ok (.istore 5, 2) := by decide +kernel
theorem d3 : decode yB 3 = .ok (.iload 5, 2) := by decide +kernel
theorem d5 : decode yB 5 = .ok (.iload 4, 2) := by decide +kernel
theorem d7 : decode yB 7 = .ok (.if_icmp (.ge) 37, 3) := by decide +kernel
theorem d10 : decode yB 10 = .ok (.aload_n 0, 1) := by decide +kernel
theorem d11 : decode yB 11 = .ok (.iload_n 1, 1) := by decide +kernel
theorem d12 : decode yB 12 = .ok (.caload, 1) := by decide +kernel
theorem d13 : decode yB 13 = .ok (.istore 6, 2) := by decide +kernel
theorem d15 : decode yB 15 = .ok (.iload 6, 2) := by decide +kernel
theorem d17 : decode yB 17 = .ok (.sipush 255, 3) := by decide +kernel
theorem d20 : decode yB 20 = .ok (.if_icmp (.le) 6, 3) := by decide +kernel
theorem d26 : decode yB 26 = .ok (.aload_n 2, 1) := by decide +kernel
theorem d27 : decode yB 27 = .ok (.iload_n 3, 1) := by decide +kernel
theorem d28 : decode yB 28 = .ok (.iload 6, 2) := by decide +kernel
theorem d30 : decode yB 30 = .ok (.i2b, 1) := by decide +kernel
theorem d31 : decode yB 31 = .ok (.bastore, 1) := by decide +kernel
theorem d32 : decode yB 32 = .ok (.iinc 1 1, 3) := by decide +kernel
theorem d35 : decode yB 35 = .ok (.iinc 3 1, 3) := by decide +kernel
theorem d38 : decode yB 38 = .ok (.iinc 5 1, 3) := by decide +kernel
theorem d41 : decode yB 41 = .ok (.goto (-38), 3) := by decide +kernel
theorem d44 : decode yB 44 = .ok (.iload 4, 2) := by decide +kernel
theorem d46 : decode yB 46 = .ok (.ireturn, 1) := by decide +kernel
def site : List Cond := []
def tab : Cond := tabOf yN yB 7 (some .int) site
def P (b : Addr) (A : Cell) (d : Addr) (B : Cell) (o q len : Nat) (args : Array Value) (s : State) : Prop := args = #[.ref b, .int (Int32.ofNat o), .ref d, .int (Int32.ofNat q), .int (Int32.ofNat len)] ∧ Ch b A s ∧ Arr .byte d B s ∧ b ≠ d ∧ o + len ≤ A.slots.size ∧ q + len ≤ B.slots.size ∧ ∀ i, i < len → ¬ 255 < cv A (o + i)
def E (b : Addr) (A : Cell) (d : Addr) (B : Cell) (o q len : Nat) (r : Option Value) (s u : State) : Prop := r = some (.int (Int32.ofNat len)) ∧ ∃ B', Put d B' s u ∧ Laid B B' q (q + len) (fun j => Value.int (lo8 (cv A (o + (j - q)))))
/-- no char of the range above 255: len; the places written hold each char's low byte -/
theorem law (l : Launch) (b : Addr) (A : Cell) (d : Addr) (B : Cell) (o q len : Nat) : Law l yN 5 5 0 0 yB 7 (some .int) site (P b A d B o q len) (E b A d B o q len) (copyLocs d q len) 0 0 := by
  refine Law.of_walk (plainFor_of_name (by decide +kernel)) (by decide +kernel) (by decide +kernel) (by decide) (fun _ _ h => by rw [h.1]; rfl) (fun _ U U' hal hh h => ⟨h.1, h.2.1.mv hal hh, h.2.2.1.mv hal hh, h.2.2.2⟩) (fun r U U' V V' h1 hal h2 h => ⟨h.1, h.2.elim fun B' q => ⟨B', q.1.mv h1 h2, q.2⟩⟩) ?_
  intro p e s m args below meth c s₁ X0 hexec hbytes hml hret hlk hnm hown hh0 W hP
  obtain ⟨rfl, hA, hB, hne, l1, l2, hp⟩ := hP
  have c1 : Steps p.tables e below (s₁.setTop (entryFrame m #[.ref b, .int (Int32.ofNat o), .ref d, .int (Int32.ofNat q), .int (Int32.ofNat len)] 7)) (s₁.setTop (mkF m 0 #[.val (.ref b), .val (.int (Int32.ofNat o)), .val (.ref d), .val (.int (Int32.ofNat q)), .val (.int (Int32.ofNat len)), .unset, .unset] [])) := entry rfl
  have hA0 := hA.1.mv X0.warmed.alike hh0
  have hB0 := hB.mv X0.warmed.alike hh0
  have a31 := hA.1.2.2.2
  have c2 : Steps p.tables e below (s₁.setTop (entryFrame m #[.ref b, .int (Int32.ofNat o), .ref d, .int (Int32.ofNat q), .int (Int32.ofNat len)] 7)) (s₁.setTop (mkF m 3 #[.val (.ref b), .val (.int (Int32.ofNat o)), .val (.ref d), .val (.int (Int32.ofNat q)), .val (.int (Int32.ofNat len)), .val (.int 0), .unset] [])) := c1.trans (by
    refine iconstV X0.here hexec rfl 0 (hb hbytes d0) (by decide) ?_
    refine XS.istore X0.here hexec rfl (hb hbytes d1) rfl rfl ?_
    exact Steps.refl _)
  have loop : ∀ (r i : Nat), i + r = len → ∀ (z : Slot), (z = .unset ∨ ∃ w, z = .val w ∧ w.category = 1) → ∀ (Tl : State) (Bk : Cell), Stand p l e { frames := 0, locals := 0, cells := 0, slots := 0 } s m #[.ref b, .int (Int32.ofNat o), .ref d, .int (Int32.ofNat q), .int (Int32.ofNat len)] below meth c Tl ([] ++ copyLocs d q i) 0 0 → Put d Bk s₁ Tl → Laid B Bk q (q + i) (fun j => Value.int (lo8 (cv A (o + (j - q))))) →
      Steps p.tables e below (s₁.setTop (entryFrame m #[.ref b, .int (Int32.ofNat o), .ref d, .int (Int32.ofNat q), .int (Int32.ofNat len)] 7)) (Tl.setTop (mkF m 3 #[.val (.ref b), .val (.int (Int32.ofNat (o + i))), .val (.ref d), .val (.int (Int32.ofNat (q + i))), .val (.int (Int32.ofNat len)), .val (.int (Int32.ofNat i)), z] [])) → ∃ (T' : State) (B' : Cell) (z' : Slot), Stand p l e { frames := 0, locals := 0, cells := 0, slots := 0 } s m #[.ref b, .int (Int32.ofNat o), .ref d, .int (Int32.ofNat q), .int (Int32.ofNat len)] below meth c T' ([] ++ copyLocs d q len) 0 0 ∧ Put d B' s₁ T' ∧ Laid B B' q (q + len) (fun j => Value.int (lo8 (cv A (o + (j - q))))) ∧
      Steps p.tables e below (s₁.setTop (entryFrame m #[.ref b, .int (Int32.ofNat o), .ref d, .int (Int32.ofNat q), .int (Int32.ofNat len)] 7)) (T'.setTop (mkF m 3 #[.val (.ref b), .val (.int (Int32.ofNat (o + len))), .val (.ref d), .val (.int (Int32.ofNat (q + len))), .val (.int (Int32.ofNat len)), .val (.int (Int32.ofNat len)), z'] [])) := by
    intro r
    induction r with
    | zero =>
      intro i hi z hz Tl Bk Xl pl fl cl
      have hil : i = len := by omega
      rw [hil] at Xl fl cl
      exact ⟨Tl, Bk, z, Xl, pl, fl, cl⟩
    | succ r ih =>
      intro i hi z hz Tl Bk Xl pl fl cl
      have all := X0.warmed.alike.symm.trans Xl.warmed.alike
      have hAl := hA0.keep all (pl.other hne hA0.1)
      have hBk := hB0.like all pl.1 fl.1 fl.2.1 fl.2.2.1
      have hlt : q + i < Bk.slots.size := by rw [fl.2.2.1]; omega
      have c3 : Steps p.tables e below (s₁.setTop (entryFrame m #[.ref b, .int (Int32.ofNat o), .ref d, .int (Int32.ofNat q), .int (Int32.ofNat len)] 7)) (Tl.setTop (mkF m 12 #[.val (.ref b), .val (.int (Int32.ofNat (o + i))), .val (.ref d), .val (.int (Int32.ofNat (q + i))), .val (.int (Int32.ofNat len)), .val (.int (Int32.ofNat i)), z] [.int (Int32.ofNat (o + i)), .ref b])) := cl.trans (by
        refine XS.iload Xl.here hexec rfl (hb hbytes d3) rfl ?_
        refine XS.iload Xl.here hexec rfl (hb hbytes d5) rfl ?_
        refine XS.icmpNo Xl.here hexec rfl (hb hbytes d7) rfl (ii_ge_f (lt32 (by omega) (by omega))) ?_
        refine XS.aloadN Xl.here hexec rfl (hb hbytes d10) rfl rfl ?_
        refine XS.iloadN Xl.here hexec rfl (hb hbytes d11) rfl ?_
        exact Steps.refl _)
      have c4 : Steps p.tables e below (s₁.setTop (entryFrame m #[.ref b, .int (Int32.ofNat o), .ref d, .int (Int32.ofNat q), .int (Int32.ofNat len)] 7)) (Tl.setTop (mkF m 13 #[.val (.ref b), .val (.int (Int32.ofNat (o + i))), .val (.ref d), .val (.int (Int32.ofNat (q + i))), .val (.int (Int32.ofNat len)), .val (.int (Int32.ofNat i)), z] [.int (cv A (o + i))])) := c3.trans (by
        refine Xl.aget hexec hAl rfl (hA.get (i := o + i) (by omega)) rfl rfl (hb hbytes d12) ?_
        exact Steps.refl _)
      have c5 : Steps p.tables e below (s₁.setTop (entryFrame m #[.ref b, .int (Int32.ofNat o), .ref d, .int (Int32.ofNat q), .int (Int32.ofNat len)] 7)) (Tl.setTop (mkF m 15 #[.val (.ref b), .val (.int (Int32.ofNat (o + i))), .val (.ref d), .val (.int (Int32.ofNat (q + i))), .val (.int (Int32.ofNat len)), .val (.int (Int32.ofNat i)), .val (.int (cv A (o + i)))] [])) := c4.trans (by
        refine XS.istoreS Xl.here hexec rfl (hb hbytes d13) rfl rfl hz ?_
        exact Steps.refl _)
      have c6 : Steps p.tables e below (s₁.setTop (entryFrame m #[.ref b, .int (Int32.ofNat o), .ref d, .int (Int32.ofNat q), .int (Int32.ofNat len)] 7)) (Tl.setTop (mkF m 31 #[.val (.ref b), .val (.int (Int32.ofNat (o + i))), .val (.ref d), .val (.int (Int32.ofNat (q + i))), .val (.int (Int32.ofNat len)), .val (.int (Int32.ofNat i)), .val (.int (cv A (o + i)))] [.int (lo8 (cv A (o + i))), .int (Int32.ofNat (q + i)), .ref d])) := c5.trans (by
        refine XS.iload Xl.here hexec rfl (hb hbytes d15) rfl ?_
        refine sipushV Xl.here hexec rfl 255 (hb hbytes d17) (by decide) ?_
        refine XS.icmpYes Xl.here hexec rfl (pc0 := 20) rfl (hb hbytes d20) rfl (ii_le_t (hp i (by omega))) (by decide) rfl ?_
        refine XS.aloadN Xl.here hexec rfl (hb hbytes d26) rfl rfl ?_
        refine XS.iloadN Xl.here hexec rfl (hb hbytes d27) rfl ?_
        refine XS.iload Xl.here hexec rfl (hb hbytes d28) rfl ?_
        refine i2b Xl.here hexec rfl (hb hbytes d30) rfl ?_
        exact Steps.refl _)
      obtain ⟨T7, X7, p7, st7⟩ := Xl.aput hexec hBk rfl hlt rfl (fits_lo8 (cv A (o + i))) (g := (mkF m 31 #[.val (.ref b), .val (.int (Int32.ofNat (o + i))), .val (.ref d), .val (.int (Int32.ofNat (q + i))), .val (.int (Int32.ofNat len)), .val (.int (Int32.ofNat i)), .val (.int (cv A (o + i)))] [.int (lo8 (cv A (o + i))), .int (Int32.ofNat (q + i)), .ref d])) rfl (rest := []) rfl (hb hbytes d31)
      have c8 : Steps p.tables e below (s₁.setTop (entryFrame m #[.ref b, .int (Int32.ofNat o), .ref d, .int (Int32.ofNat q), .int (Int32.ofNat len)] 7)) (T7.setTop (mkF m 32 #[.val (.ref b), .val (.int (Int32.ofNat (o + i))), .val (.ref d), .val (.int (Int32.ofNat (q + i))), .val (.int (Int32.ofNat len)), .val (.int (Int32.ofNat i)), .val (.int (cv A (o + i)))] [])) := c6.trans (st7 _ (Steps.refl _))
      have c9 : Steps p.tables e below (s₁.setTop (entryFrame m #[.ref b, .int (Int32.ofNat o), .ref d, .int (Int32.ofNat q), .int (Int32.ofNat len)] 7)) (T7.setTop (mkF m 3 #[.val (.ref b), .val (.int (Int32.ofNat (o + i) + 1)), .val (.ref d), .val (.int (Int32.ofNat (q + i) + 1)), .val (.int (Int32.ofNat len)), .val (.int (Int32.ofNat i + 1)), .val (.int (cv A (o + i)))] [])) := c8.trans (by
        refine iincV X7.here hexec rfl 1 (hb hbytes d32) (by decide) rfl rfl ?_
        refine iincV X7.here hexec rfl 1 (hb hbytes d35) (by decide) rfl rfl ?_
        refine iincV X7.here hexec rfl 1 (hb hbytes d38) (by decide) rfl rfl ?_
        refine XS.goto X7.here hexec rfl (pc0 := 41) rfl (hb hbytes d41) (by decide) rfl ?_
        exact Steps.refl _)
      have c10 : Steps p.tables e below (s₁.setTop (entryFrame m #[.ref b, .int (Int32.ofNat o), .ref d, .int (Int32.ofNat q), .int (Int32.ofNat len)] 7)) (T7.setTop (mkF m 3 #[.val (.ref b), .val (.int (Int32.ofNat (o + (i + 1)))), .val (.ref d), .val (.int (Int32.ofNat (q + (i + 1)))), .val (.int (Int32.ofNat len)), .val (.int (Int32.ofNat (i + 1))), .val (.int (cv A (o + i)))] [])) := by
        have := c9
        rw [succ32, succ32, succ32] at this
        exact this
      exact ih (i + 1) (by omega) _ (Or.inr ⟨_, rfl, rfl⟩) T7 _ (by rw [copyLocs_step, ← List.append_assoc]; exact X7) (pl.trans p7) (fl.step (by omega) hlt (by simp)) c10
  obtain ⟨T9, B9, z9, X9, p9, f9, g9⟩ := loop len 0 (by omega) .unset (Or.inl rfl) s₁ B (by simpa [copyLocs] using X0) ⟨hB0.1, fun _ _ => rfl, rfl⟩ (Laid.zero _ _ _) c2
  have c11 : Steps p.tables e below (s₁.setTop (entryFrame m #[.ref b, .int (Int32.ofNat o), .ref d, .int (Int32.ofNat q), .int (Int32.ofNat len)] 7)) (T9.setTop (mkF m 46 #[.val (.ref b), .val (.int (Int32.ofNat (o + len))), .val (.ref d), .val (.int (Int32.ofNat (q + len))), .val (.int (Int32.ofNat len)), .val (.int (Int32.ofNat len)), z9] [.int (Int32.ofNat len)])) := g9.trans (by
    refine XS.iload X9.here hexec rfl (hb hbytes d3) rfl ?_
    refine XS.iload X9.here hexec rfl (hb hbytes d5) rfl ?_
    refine XS.icmpYes X9.here hexec rfl (pc0 := 7) rfl (hb hbytes d7) rfl (ii_ge_t (nlt32 (by omega) (Nat.le_refl _))) (by decide) rfl ?_
    refine XS.iload X9.here hexec rfl (hb hbytes d44) rfl ?_
    exact Steps.refl _)
  exact ⟨T9, some (.int (Int32.ofNat len)), _, _, _, X9, by simp, rfl, rfl, (fun h => by cases h), ⟨rfl, B9, p9.from hh0, f9⟩, fun fs hl => c11.trans (X9.ireturnOut hexec hret rfl (Or.inl rfl) (hb hbytes d46) hl)⟩
end Cmp5
namespace Cmp3
def yN : MethodName := ⟨"java/lang/StringUTF16", "compress", "([CII)[B"⟩
abbrev yB : ByteArray := jdk_52_method_16_code
theorem d0 : decode yB 0 = .ok (.iload_n 2, 1) := by decide +kernel
theorem d1 : decode yB 1 = .ok (.newarray .byte, 2) := by decide +kernel
theorem d3 : decode yB 3 = .ok (.astore_n 3, 1) := by decide +kernel
theorem d4 : decode yB 4 = .ok (.aload_n 0, 1) := by decide +kernel
theorem d5 : decode yB 5 = .ok (.iload_n 1, 1) := by decide +kernel
theorem d6 : decode yB 6 = .ok (.aload_n 3, 1) := by decide +kernel
theorem d7 : decode yB 7 = .ok (.iconst 0, 1) := by decide +kernel
theorem d8 : decode yB 8 = .ok (.iload_n 2, 1) := by decide +kernel
theorem d9 : decode yB 9 = .ok (.invokestatic 115, 3) := by decide +kernel
theorem d12 : decode yB 12 = .ok (.istore 4, 2) := by decide +kernel
theorem d14 : decode yB 14 = .ok (.iload 4, 2) := by decide +kernel
theorem d16 : decode yB 16 = .ok (.iload_n 2, 1) := by decide +kernel
theorem d17 : decode yB 17 = .ok (.if_icmp (.eq) 40, 3) := by decide +kernel
theorem d57 : decode yB 57 = .ok (.aload_n 3, 1) := by decide +kernel
theorem d58 : decode yB 58 = .ok (.areturn, 1) := by decide +kernel
def site : List Cond := [.arrayClass .byte, Cmp5.tab] ++ staticW U16 115 Cmp5.yN
def tab : Cond := tabOf yN yB 6 (some (.array .byte)) site
def P (b : Addr) (A : Cell) (o len : Nat) (args : Array Value) (s : State) : Prop := args = #[.ref b, .int (Int32.ofNat o), .int (Int32.ofNat len)] ∧ Ch b A s ∧ o + len ≤ A.slots.size ∧ len ≤ 536870912 ∧ ∀ i, i < len → ¬ 255 < cv A (o + i)
def E (b : Addr) (A : Cell) (o len : Nat) (r : Option Value) (s u : State) : Prop := NewArr .byte "[B" len (fun j => .int (lo8 (cv A (o + j)))) r s u ∧ u.heap.size = s.heap.size + 1
/-- no char of the range above 255: a new byte[] of their low bytes -/
theorem law (l : Launch) (b : Addr) (A : Cell) (o len : Nat) : Law l yN 3 3 1 18 yB 6 (some (.array .byte)) site (P b A o len) (E b A o len) [] 1 len := by
  refine Law.of_walk (plainFor_of_name (by decide +kernel)) (by decide +kernel) (by decide +kernel) (by decide) (fun _ _ h => by rw [h.1]; rfl) (fun _ U U' hal hh h => ⟨h.1, h.2.1.mv hal hh, h.2.2⟩) (fun r U U' V V' h1 hal h2 h => ⟨NewArr.mv r U U' V V' h1 hal h2 h.1, by rw [h1, h2]; exact h.2⟩) ?_
  intro p e s m args below meth c s₁ X0 hexec hbytes hml hret hlk hnm hown hh0 W hP
  obtain ⟨rfl, hA, l1, l2, hp⟩ := hP
  have a31 := hA.1.2.2.2
  have c1 : Steps p.tables e below (s₁.setTop (entryFrame m #[.ref b, .int (Int32.ofNat o), .int (Int32.ofNat len)] 6)) (s₁.setTop (mkF m 0 #[.val (.ref b), .val (.int (Int32.ofNat o)), .val (.int (Int32.ofNat len)), .unset, .unset, .unset] [])) := entry rfl
  have c2 : Steps p.tables e below (s₁.setTop (entryFrame m #[.ref b, .int (Int32.ofNat o), .int (Int32.ofNat len)] 6)) (s₁.setTop (mkF m 1 #[.val (.ref b), .val (.int (Int32.ofNat o)), .val (.int (Int32.ofNat len)), .unset, .unset, .unset] [.int (Int32.ofNat len)])) := c1.trans (by
    refine XS.iloadN X0.here hexec rfl (hb hbytes d0) rfl ?_
    exact Steps.refl _)
  obtain ⟨T3, B3, X3, ba3, bs3, bv3, bh3, bf3, st3⟩ := X0.anew hexec (atype := .byte) (wk W (.arrayClass .byte)) rfl (by show len * 1 ≤ _; omega) (by omega) (g := (mkF m 1 #[.val (.ref b), .val (.int (Int32.ofNat o)), .val (.int (Int32.ofNat len)), .unset, .unset, .unset] [.int (Int32.ofNat len)])) rfl (hb hbytes d1) (rest := []) rfl (Nat.le_refl _) (by show 0 + len ≤ len; omega)
  rw [hh0] at ba3 st3
  have kp3 : XT.Kept s T3 := (XT.Kept.of_eq hh0).push bh3
  have hA3 := hA.keep X3.warmed.alike (kp3 _ _ hA.1.1)
  have hne : b ≠ s.heap.size := hA.1.ne
  have c4 : Steps p.tables e below (s₁.setTop (entryFrame m #[.ref b, .int (Int32.ofNat o), .int (Int32.ofNat len)] 6)) (T3.setTop (mkF m 3 #[.val (.ref b), .val (.int (Int32.ofNat o)), .val (.int (Int32.ofNat len)), .unset, .unset, .unset] [.ref s.heap.size])) := c2.trans (st3 _ (Steps.refl _))
  have c5 : Steps p.tables e below (s₁.setTop (entryFrame m #[.ref b, .int (Int32.ofNat o), .int (Int32.ofNat len)] 6)) (T3.setTop (mkF m 9 #[.val (.ref b), .val (.int (Int32.ofNat o)), .val (.int (Int32.ofNat len)), .val (.ref s.heap.size), .unset, .unset] [.int (Int32.ofNat len), .int 0, .ref s.heap.size, .int (Int32.ofNat o), .ref b])) := c4.trans (by
    refine XS.astoreN X3.here hexec rfl (hb hbytes d3) rfl rfl rfl ?_
    refine XS.aloadN X3.here hexec rfl (hb hbytes d4) rfl rfl ?_
    refine XS.iloadN X3.here hexec rfl (hb hbytes d5) rfl ?_
    refine XS.aloadN X3.here hexec rfl (hb hbytes d6) rfl rfl ?_
    refine iconstV X3.here hexec rfl 0 (hb hbytes d7) (by decide) ?_
    refine XS.iloadN X3.here hexec rfl (hb hbytes d8) rfl ?_
    exact Steps.refl _)
  obtain ⟨v6, T6, X6, E6, g6⟩ := X3.callS hexec (Cmp5.law l b A s.heap.size B3 o 0 len) hown (wks W (staticW U16 115 Cmp5.yN)) (wk W Cmp5.tab) (W := 0) (Nat.le_of_ble_eq_true rfl) (Nat.le_of_ble_eq_true rfl) (Nat.le_refl _) (by show 0 + len + 0 ≤ len; omega) (g := (mkF m 9 #[.val (.ref b), .val (.int (Int32.ofNat o)), .val (.int (Int32.ofNat len)), .val (.ref s.heap.size), .unset, .unset] [.int (Int32.ofNat len), .int (Int32.ofNat 0), .ref s.heap.size, .int (Int32.ofNat o), .ref b])) rfl (by rw [hml]; rfl) c5 (argsL := [.ref b, .int (Int32.ofNat o), .ref s.heap.size, .int (Int32.ofNat 0), .int (Int32.ofNat len)]) (rest := []) rfl rfl (by show 2 * 0 + 0 ≤ _; decide) (hb hbytes d9) (⟨rfl, hA3, ba3, hne, l1, by rw [bs3]; simp, hp⟩)
  obtain ⟨rfl, B6, p6, f6⟩ := E6
  have c7 : Steps p.tables e below (s₁.setTop (entryFrame m #[.ref b, .int (Int32.ofNat o), .int (Int32.ofNat len)] 6)) (T6.setTop (mkF m 12 #[.val (.ref b), .val (.int (Int32.ofNat o)), .val (.int (Int32.ofNat len)), .val (.ref s.heap.size), .unset, .unset] [.int (Int32.ofNat len)])) := g6
  have c8 : Steps p.tables e below (s₁.setTop (entryFrame m #[.ref b, .int (Int32.ofNat o), .int (Int32.ofNat len)] 6)) (T6.setTop (mkF m 58 #[.val (.ref b), .val (.int (Int32.ofNat o)), .val (.int (Int32.ofNat len)), .val (.ref s.heap.size), .val (.int (Int32.ofNat len)), .unset] [.ref s.heap.size])) := c7.trans (by
    refine XS.istore X6.here hexec rfl (hb hbytes d12) rfl rfl ?_
    refine XS.iload X6.here hexec rfl (hb hbytes d14) rfl ?_
    refine XS.iloadN X6.here hexec rfl (hb hbytes d16) rfl ?_
    refine XS.icmpYes X6.here hexec rfl (pc0 := 17) rfl (hb hbytes d17) rfl (ii_eq_t rfl) (by decide) rfl ?_
    refine XS.aloadN X6.here hexec rfl (hb hbytes d57) rfl rfl ?_
    exact Steps.refl _)
  have X8 := X6.wide (L' := []) (cells' := 1) (slots' := len) (fun x hx hlt => by
    simp only [List.nil_append, copyLocs, List.mem_map, List.mem_range] at hx
    obtain ⟨i, -, rfl⟩ := hx
    exact absurd hlt (Nat.lt_irrefl _)) (Nat.le_refl _) (by omega)
  exact ⟨T6, some (.ref s.heap.size), _, _, _, X8, rfl, rfl, rfl, (fun h => by cases h), ⟨⟨rfl, B6, ba3.like (X3.warmed.alike.symm.trans X6.warmed.alike) p6.1 f6.1 f6.2.1 f6.2.2.1, f6.2.1.trans bv3, by rw [X6.warmed.alike.findClass, f6.1]; exact bf3, by rw [f6.2.2.1, bs3]; simp, fun j hj => by rw [f6.2.2.2 j, if_pos (by omega)]; rfl, kp3.put p6 (Nat.le_refl _)⟩, by rw [p6.2.2, bh3, hh0]; simp⟩, fun fs hl => c8.trans (X8.areturnOut hexec rfl hret rfl (hb hbytes d58) hl)⟩
end Cmp3
namespace CodL
def yN : MethodName := ⟨"java/lang/StringUTF16", "coderFromArrayLen", "([BI)B"⟩
abbrev yB : ByteArray := jdk_52_method_15_code
theorem d0 : decode yB 0 = .ok (.iload_n 1, 1) := by decide +kernel
theorem d1 : decode yB 1 = .ok (.aload_n 0, 1) := by decide +kernel
theorem d2 : decode yB 2 = .ok (.arraylength, 1) := by decide +kernel
theorem d3 : decode yB 3 = .ok (.isub, 1) := by decide +kernel
theorem d4 : decode yB 4 = .ok (.bipush 31, 2) := by decide +kernel
theorem d6 : decode yB 6 = .ok (.iushr, 1) := by decide +kernel
theorem d7 : decode yB 7 = .ok (.i2b, 1) := by decide +kernel
theorem d8 : decode yB 8 = .ok (.ireturn, 1) := by decide +kernel
def site : List Cond := []
def tab : Cond := tabOf yN yB 2 (some .byte) site
def P (d : Addr) (B : Cell) (args : Array Value) (s : State) : Prop := args = #[.ref d, .int (Int32.ofNat B.slots.size)] ∧ Arr .byte d B s
def E (r : Option Value) (s u : State) : Prop := XT.PureE (some (.int 0)) r s u
/-- an array as long as the number of chars: LATIN1 -/
theorem law (l : Launch) (d : Addr) (B : Cell) : Law l yN 2 2 0 0 yB 2 (some .byte) site (P d B) E [] 0 0 := by
  refine Law.of_walk (plainFor_of_name (by decide +kernel)) (by decide +kernel) (by decide +kernel) (by decide) (fun _ _ h => by rw [h.1]; rfl) (fun _ U U' hal hh h => ⟨h.1, h.2.mv hal hh⟩) (fun r U U' V V' h1 hal h2 h => XT.PureE.mv r U U' V V' h1 hal h2 h) ?_
  intro p e s m args below meth c s₁ X0 hexec hbytes hml hret hlk hnm hown hh0 W hP
  obtain ⟨rfl, hB⟩ := hP
  have hB0 := hB.mv X0.warmed.alike hh0
  have c1 : Steps p.tables e below (s₁.setTop (entryFrame m #[.ref d, .int (Int32.ofNat B.slots.size)] 2)) (s₁.setTop (mkF m 0 #[.val (.ref d), .val (.int (Int32.ofNat B.slots.size))] [])) := entry rfl
  have c2 : Steps p.tables e below (s₁.setTop (entryFrame m #[.ref d, .int (Int32.ofNat B.slots.size)] 2)) (s₁.setTop (mkF m 2 #[.val (.ref d), .val (.int (Int32.ofNat B.slots.size))] [.ref d, .int (Int32.ofNat B.slots.size)])) := c1.trans (by
    refine XS.iloadN X0.here hexec rfl (hb hbytes d0) rfl ?_
    refine XS.aloadN X0.here hexec rfl (hb hbytes d1) rfl rfl ?_
    exact Steps.refl _)
  have c3 : Steps p.tables e below (s₁.setTop (entryFrame m #[.ref d, .int (Int32.ofNat B.slots.size)] 2)) (s₁.setTop (mkF m 8 #[.val (.ref d), .val (.int (Int32.ofNat B.slots.size))] [.int (lo8 (ushr (Int32.ofNat B.slots.size - Int32.ofNat B.slots.size) 31))])) := c2.trans (by
    refine X0.alen hexec hB0 rfl rfl (hb hbytes d2) ?_
    refine XS.isub X0.here hexec rfl (hb hbytes d3) rfl ?_
    refine bipushV X0.here hexec rfl 31 (hb hbytes d4) (by decide) ?_
    refine iushr X0.here hexec rfl (hb hbytes d6) rfl ?_
    refine i2b X0.here hexec rfl (hb hbytes d7) rfl ?_
    exact Steps.refl _)
  have e0 : lo8 (ushr (Int32.ofNat B.slots.size - Int32.ofNat B.slots.size) 31) = 0 := by rw [Int32.sub_self]; decide
  rw [e0] at c3
  exact ⟨s₁, some (.int 0), _, _, _, X0, rfl, rfl, rfl, (fun h => by cases h), ⟨rfl, hh0⟩, fun fs hl => c3.trans (X0.ireturnOut hexec hret rfl (Or.inr (Or.inr (Or.inl rfl))) (hb hbytes d8) hl)⟩
end CodL
/-- the String at a is Latin-1 over a new byte[] (the heap's one new cell): the low bytes of the len chars of A from o on; every cell but a is kept -/
def Got (a : Addr) (D : Cell) (fV fC : Field) (A : Cell) (o len : Nat) (r : Option Value) (s u : State) : Prop := r = none ∧ ∃ D' V : Cell, Blank "java/lang/String" a D' u ∧ Same D D' [fV.slot, fC.slot] ∧ D'.slots[fV.slot]? = some (.ref s.heap.size) ∧ D'.slots[fC.slot]? = some (.int 0) ∧ Arr .byte s.heap.size V u ∧ V.vm = .none ∧ u.vm.findClass "[B" = some V.cls ∧ V.slots.size = len ∧ (∀ j, j < len → V.slots[j]? = some (.int (lo8 (cv A (o + j))))) ∧ (∀ (y : Addr) (c : Cell), y ≠ a → s.heap[y]? = some c → u.heap[y]? = some c) ∧ u.heap.size = s.heap.size + 1
theorem Got.mv {a : Addr} {D A : Cell} {fV fC : Field} {o len : Nat} : ∀ r (U U' V V' : State), U'.heap = U.heap → V.vm.Alike V'.vm → V'.heap = V.heap → Got a D fV fC A o len r U V → Got a D fV fC A o len r U' V' :=
  fun r U U' V V' h1 hal h2 ⟨e0, D', X, a1, a2, a3, a4, a5, a6, a7, a8, a9, a10, a11⟩ => ⟨e0, D', X, a1.mv hal h2, a2, by rw [h1]; exact a3, a4, by rw [h1]; exact a5.mv hal h2, a6, by rw [hal.findClass]; exact a7, a8, a9, by rw [h1, h2]; exact a10, by rw [h1, h2]; exact a11⟩
namespace New4
def yN : MethodName := ⟨"java/lang/String", "<init>", "([CIILjava/lang/Void;)V"⟩
abbrev yB : ByteArray := jdk_42_method_149_code
theorem d0 : decode yB 0 = .ok (.aload_n 0, 1) := by decide +kernel
theorem d1 : decode yB 1 = .ok (.invokespecial 1, 3) := by decide +kernel
theorem d4 : decode yB 4 = .ok (.iload_n 3, 1) := by decide +kernel
theorem d5 : decode yB 5 = .ok (.ifCond (.ne) 22, 3) := by decide +kernel
theorem d27 : decode yB 27 = .ok (.getstatic 38, 3) := by decide +kernel
theorem d30 : decode yB 30 = .ok (.ifCond (.eq) 28, 3) := by decide +kernel
theorem d33 : decode yB 33 = .ok (.aload_n 1, 1) := by decide +kernel
theorem d34 : decode yB 34 = .ok (.iload_n 2, 1) := by decide +kernel
theorem d35 : decode yB 35 = .ok (.iload_n 3, 1) := by decide +kernel
theorem d36 : decode yB 36 = .ok (.invokestatic 177, 3) := by decide +kernel
theorem d39 : decode yB 39 = .ok (.astore 5, 2) := by decide +kernel
theorem d41 : decode yB 41 = .ok (.aload_n 0, 1) := by decide +kernel
theorem d42 : decode yB 42 = .ok (.aload 5, 2) := by decide +kernel
theorem d44 : decode yB 44 = .ok (.iload_n 3, 1) := by decide +kernel
theorem d45 : decode yB 45 = .ok (.invokestatic 47, 3) := by decide +kernel
theorem d48 : decode yB 48 = .ok (.putfield 15, 3) := by decide +kernel
theorem d51 : decode yB 51 = .ok (.aload_n 0, 1) := by decide +kernel
theorem d52 : decode yB 52 = .ok (.aload 5, 2) := by decide +kernel
theorem d54 : decode yB 54 = .ok (.putfield 9, 3) := by decide +kernel
theorem d57 : decode yB 57 = .ok (.return_, 1) := by decide +kernel
def site : List Cond := [.fieldLink "java/lang/String" 38 "java/lang/String" "COMPACT_STRINGS" "Z", Cmp3.tab, CodL.tab, .laysFinal "java/lang/String" "java/lang/String" "value" "[B", .fieldLink "java/lang/String" 9 "java/lang/String" "value" "[B", .laysFinal "java/lang/String" "java/lang/String" "coder" "B", .fieldLink "java/lang/String" 15 "java/lang/String" "coder" "B"] ++ objW "java/lang/String" 1 ++ staticW "java/lang/String" 177 Cmp3.yN ++ staticW "java/lang/String" 47 CodL.yN
def tab : Cond := tabOf yN yB 6 none site
def P (a : Addr) (D : Cell) (fV fC : Field) (b : Addr) (A : Cell) (z : Int32) (o len : Nat) (args : Array Value) (s : State) : Prop := args = #[.ref a, .ref b, .int (Int32.ofNat o), .int (Int32.ofNat len), .null] ∧ Blank "java/lang/String" a D s ∧ Found "java/lang/String" "value" "[B" fV s ∧ Found "java/lang/String" "coder" "B" fC s ∧ Ch b A s ∧ StaticIs s "java/lang/String" "COMPACT_STRINGS" "Z" (.int z) ∧ ¬ z = 0 ∧ 0 < len ∧ o + len ≤ A.slots.size ∧ len ≤ 536870912 ∧ ∀ i, i < len → ¬ 255 < cv A (o + i)
def E (a : Addr) (D : Cell) (fV fC : Field) (A : Cell) (o len : Nat) (r : Option Value) (s u : State) : Prop := Got a D fV fC A o len r s u
/-- len > 0, no char of the range above 255: a Latin-1 String of their low bytes -/
theorem law (l : Launch) (a : Addr) (D : Cell) (fV fC : Field) (b : Addr) (A : Cell) (z : Int32) (o len : Nat) : Law l yN 5 4 2 35 yB 6 none site (P a D fV fC b A z o len) (E a D fV fC A o len) [⟨a, fC.slot⟩, ⟨a, fV.slot⟩] 1 len := by
  refine Law.of_walk (plainFor_of_name (by decide +kernel)) (by decide +kernel) (by decide +kernel) (by decide) (fun _ _ h => by rw [h.1]; rfl) (fun _ U U' hal hh h => ⟨h.1, h.2.1.mv hal hh, h.2.2.1.al hal, h.2.2.2.1.al hal, h.2.2.2.2.1.mv hal hh, h.2.2.2.2.2.1.there hal hh, h.2.2.2.2.2.2⟩) (fun r U U' V V' h1 hal h2 h => Got.mv r U U' V V' h1 hal h2 h) ?_
  intro p e s m args below meth c s₁ X0 hexec hbytes hml hret hlk hnm hown hh0 W hP
  obtain ⟨rfl, hB, f1, f2, hA, s1, hz, l0, l1, l2, hp⟩ := hP
  have a31 := hA.1.2.2.2
  have c1 : Steps p.tables e below (s₁.setTop (entryFrame m #[.ref a, .ref b, .int (Int32.ofNat o), .int (Int32.ofNat len), .null] 6)) (s₁.setTop (mkF m 0 #[.val (.ref a), .val (.ref b), .val (.int (Int32.ofNat o)), .val (.int (Int32.ofNat len)), .val .null, .unset] [])) := entry rfl
  have c2 : Steps p.tables e below (s₁.setTop (entryFrame m #[.ref a, .ref b, .int (Int32.ofNat o), .int (Int32.ofNat len), .null] 6)) (s₁.setTop (mkF m 1 #[.val (.ref a), .val (.ref b), .val (.int (Int32.ofNat o)), .val (.int (Int32.ofNat len)), .val .null, .unset] [.ref a])) := c1.trans (by
    refine XS.aloadN X0.here hexec rfl (hb hbytes d0) rfl rfl ?_
    exact Steps.refl _)
  obtain ⟨T3, X3, q3, st3⟩ := X0.oinit hexec hown (wks W (objW "java/lang/String" 1)) (g := (mkF m 1 #[.val (.ref a), .val (.ref b), .val (.int (Int32.ofNat o)), .val (.int (Int32.ofNat len)), .val .null, .unset] [.ref a])) rfl (by rw [hml]; rfl) (rest := []) rfl (hb hbytes d1) (W := 0) (by show 2 * 0 + 0 ≤ _; decide) (Nat.le_of_ble_eq_true rfl) (Nat.le_of_ble_eq_true rfl)
  have hh3 := q3.trans hh0
  have c4 : Steps p.tables e below (s₁.setTop (entryFrame m #[.ref a, .ref b, .int (Int32.ofNat o), .int (Int32.ofNat len), .null] 6)) (T3.setTop (mkF m 27 #[.val (.ref a), .val (.ref b), .val (.int (Int32.ofNat o)), .val (.int (Int32.ofNat len)), .val .null, .unset] [])) := (c2.trans (st3 _ (Steps.refl _))).trans (by
    refine XS.iloadN X3.here hexec rfl (hb hbytes d4) rfl ?_
    refine XS.ifYes X3.here hexec rfl (pc0 := 5) rfl (hb hbytes d5) rfl (i0_ne_t (nz32 (by omega) l0)) (by decide) rfl ?_
    exact Steps.refl _)
  obtain ⟨T5, X5, q5, st5⟩ := X3.sget hexec hown (wk W (.fieldLink "java/lang/String" 38 "java/lang/String" "COMPACT_STRINGS" "Z")) s1 (fun _ _ h => by rw [hh3]; exact h) (g := (mkF m 27 #[.val (.ref a), .val (.ref b), .val (.int (Int32.ofNat o)), .val (.int (Int32.ofNat len)), .val .null, .unset] [])) rfl (hb hbytes d27)
  have hh5 := q5.trans hh3
  have c6 : Steps p.tables e below (s₁.setTop (entryFrame m #[.ref a, .ref b, .int (Int32.ofNat o), .int (Int32.ofNat len), .null] 6)) (T5.setTop (mkF m 30 #[.val (.ref a), .val (.ref b), .val (.int (Int32.ofNat o)), .val (.int (Int32.ofNat len)), .val .null, .unset] [.int z])) := c4.trans (st5 _ (Steps.refl _))
  have c7 : Steps p.tables e below (s₁.setTop (entryFrame m #[.ref a, .ref b, .int (Int32.ofNat o), .int (Int32.ofNat len), .null] 6)) (T5.setTop (mkF m 36 #[.val (.ref a), .val (.ref b), .val (.int (Int32.ofNat o)), .val (.int (Int32.ofNat len)), .val .null, .unset] [.int (Int32.ofNat len), .int (Int32.ofNat o), .ref b])) := c6.trans (by
    refine XS.ifNo X5.here hexec rfl (hb hbytes d30) rfl (i0_eq_f hz) ?_
    refine XS.aloadN X5.here hexec rfl (hb hbytes d33) rfl rfl ?_
    refine XS.iloadN X5.here hexec rfl (hb hbytes d34) rfl ?_
    refine XS.iloadN X5.here hexec rfl (hb hbytes d35) rfl ?_
    exact Steps.refl _)
  obtain ⟨v8, T8, X8, E8, g8⟩ := X5.callS hexec (Cmp3.law l b A o len) hown (wks W (staticW "java/lang/String" 177 Cmp3.yN)) (wk W Cmp3.tab) (W := 0) (Nat.le_of_ble_eq_true rfl) (Nat.le_of_ble_eq_true rfl) (Nat.le_refl _) (by show 0 + len ≤ len; omega) (g := (mkF m 36 #[.val (.ref a), .val (.ref b), .val (.int (Int32.ofNat o)), .val (.int (Int32.ofNat len)), .val .null, .unset] [.int (Int32.ofNat len), .int (Int32.ofNat o), .ref b])) rfl (by rw [hml]; rfl) c7 (argsL := [.ref b, .int (Int32.ofNat o), .int (Int32.ofNat len)]) (rest := []) rfl rfl (by show 2 * 0 + 0 ≤ _; decide) (hb hbytes d36) (⟨rfl, hA.mv X5.warmed.alike hh5, l1, l2, hp⟩)
  obtain ⟨e8, z8⟩ := E8
  obtain ⟨rfl, N, n1, n2, n3, n4, n5, n6⟩ := NewArr.mv _ T5 s _ _ hh5.symm (Vm.Alike.refl _) rfl e8
  rw [hh5] at z8
  have hB1 := hB.keep X8.warmed.alike (n6 _ _ hB.1)
  have hne : s.heap.size ≠ a := (Nat.ne_of_lt (Array.getElem?_eq_some_iff.mp hB.1).1).symm
  have c9 : Steps p.tables e below (s₁.setTop (entryFrame m #[.ref a, .ref b, .int (Int32.ofNat o), .int (Int32.ofNat len), .null] 6)) (T8.setTop (mkF m 39 #[.val (.ref a), .val (.ref b), .val (.int (Int32.ofNat o)), .val (.int (Int32.ofNat len)), .val .null, .unset] [.ref s.heap.size])) := g8
  have c10 : Steps p.tables e below (s₁.setTop (entryFrame m #[.ref a, .ref b, .int (Int32.ofNat o), .int (Int32.ofNat len), .null] 6)) (T8.setTop (mkF m 45 #[.val (.ref a), .val (.ref b), .val (.int (Int32.ofNat o)), .val (.int (Int32.ofNat len)), .val .null, .val (.ref s.heap.size)] [.int (Int32.ofNat N.slots.size), .ref s.heap.size, .ref a])) := by
    have hc : Steps p.tables e below (s₁.setTop (entryFrame m #[.ref a, .ref b, .int (Int32.ofNat o), .int (Int32.ofNat len), .null] 6)) (T8.setTop (mkF m 45 #[.val (.ref a), .val (.ref b), .val (.int (Int32.ofNat o)), .val (.int (Int32.ofNat len)), .val .null, .val (.ref s.heap.size)] [.int (Int32.ofNat len), .ref s.heap.size, .ref a])) := c9.trans (by
      refine XS.astore X8.here hexec rfl (hb hbytes d39) rfl rfl rfl ?_
      refine XS.aloadN X8.here hexec rfl (hb hbytes d41) rfl rfl ?_
      refine XS.aload X8.here hexec rfl (hb hbytes d42) rfl rfl ?_
      refine XS.iloadN X8.here hexec rfl (hb hbytes d44) rfl ?_
      exact Steps.refl _)
    rw [n4]; exact hc
  obtain ⟨v11, T11, X11, E11, g11⟩ := X8.callS hexec (CodL.law l s.heap.size N) hown (wks W (staticW "java/lang/String" 47 CodL.yN)) (wk W CodL.tab) (W := 1) (Nat.le_of_ble_eq_true rfl) (Nat.le_of_ble_eq_true rfl) (Nat.le_refl _) (by show 0 + len + 0 ≤ len; omega) (g := (mkF m 45 #[.val (.ref a), .val (.ref b), .val (.int (Int32.ofNat o)), .val (.int (Int32.ofNat len)), .val .null, .val (.ref s.heap.size)] [.int (Int32.ofNat N.slots.size), .ref s.heap.size, .ref a])) rfl (by rw [hml]; rfl) c10 (argsL := [.ref s.heap.size, .int (Int32.ofNat N.slots.size)]) (rest := [.ref a]) rfl rfl (by show 2 * 0 + (1 + 0) ≤ _; decide) (hb hbytes d45) (⟨rfl, n1⟩)
  obtain ⟨rfl, q11⟩ := E11
  have hB11 := hB1.mv (X8.warmed.alike.symm.trans X11.warmed.alike) q11
  have c12 : Steps p.tables e below (s₁.setTop (entryFrame m #[.ref a, .ref b, .int (Int32.ofNat o), .int (Int32.ofNat len), .null] 6)) (T11.setTop (mkF m 48 #[.val (.ref a), .val (.ref b), .val (.int (Int32.ofNat o)), .val (.int (Int32.ofNat len)), .val .null, .val (.ref s.heap.size)] [.int 0, .ref a])) := g11
  obtain ⟨T13, X13, p13, bl13, sl13, st13⟩ := X11.finit hexec hown (wk W (.fieldLink "java/lang/String" 15 "java/lang/String" "coder" "B")) (Or.inr ⟨_, (wk W (.laysFinal "java/lang/String" "java/lang/String" "coder" "B"))⟩) (Or.inl ⟨rfl, hnm⟩) f2 (Or.inl rfl) hB11 (t := .byte) (by decide +kernel) rfl (g := (mkF m 48 #[.val (.ref a), .val (.ref b), .val (.int (Int32.ofNat o)), .val (.int (Int32.ofNat len)), .val .null, .val (.ref s.heap.size)] [.int 0, .ref a])) rfl (rest := []) rfl (hb hbytes d48)
  have c14 : Steps p.tables e below (s₁.setTop (entryFrame m #[.ref a, .ref b, .int (Int32.ofNat o), .int (Int32.ofNat len), .null] 6)) (T13.setTop (mkF m 54 #[.val (.ref a), .val (.ref b), .val (.int (Int32.ofNat o)), .val (.int (Int32.ofNat len)), .val .null, .val (.ref s.heap.size)] [.ref s.heap.size, .ref a])) := (c12.trans (st13 _ (Steps.refl _))).trans (by
    refine XS.aloadN X13.here hexec rfl (hb hbytes d51) rfl rfl ?_
    refine XS.aload X13.here hexec rfl (hb hbytes d52) rfl rfl ?_
    exact Steps.refl _)
  obtain ⟨T15, X15, p15, bl15, sl15, st15⟩ := X13.finit hexec hown (wk W (.fieldLink "java/lang/String" 9 "java/lang/String" "value" "[B")) (Or.inr ⟨_, (wk W (.laysFinal "java/lang/String" "java/lang/String" "value" "[B"))⟩) (Or.inl ⟨rfl, hnm⟩) f1 (Or.inl rfl) bl13 (t := (.array .byte)) (by decide +kernel) rfl (g := (mkF m 54 #[.val (.ref a), .val (.ref b), .val (.int (Int32.ofNat o)), .val (.int (Int32.ofNat len)), .val .null, .val (.ref s.heap.size)] [.ref s.heap.size, .ref a])) rfl (rest := []) rfl (hb hbytes d54)
  have c16 : Steps p.tables e below (s₁.setTop (entryFrame m #[.ref a, .ref b, .int (Int32.ofNat o), .int (Int32.ofNat len), .null] 6)) (T15.setTop (mkF m 57 #[.val (.ref a), .val (.ref b), .val (.int (Int32.ofNat o)), .val (.int (Int32.ofNat len)), .val .null, .val (.ref s.heap.size)] [])) := c14.trans (st15 _ (Steps.refl _))
  have ap := apart (Or.inr ⟨_, (wk W (.laysFinal "java/lang/String" "java/lang/String" "value" "[B"))⟩) (Or.inr ⟨_, (wk W (.laysFinal "java/lang/String" "java/lang/String" "coder" "B"))⟩) f1 f2 (t₁ := .array .byte) (t₂ := .byte) (by decide +kernel) (by decide +kernel) (by decide)
  have al := X8.warmed.alike.symm.trans X15.warmed.alike
  have n7 : T11.heap[s.heap.size]? = some N := by rw [q11]; exact n1.1
  exact ⟨T15, none, _, _, _, X15, by simp, rfl, by omega, (fun _ => rfl), ⟨rfl, _, N, bl15, ((Same.refl D _).set _ (by simp)).set _ (by simp), sl15, (Cell.slots_setSlot_ne _ ap).trans sl13, n1.keep al (p15.other hne (p13.other hne n7)), n2, by rw [al.findClass]; exact n3, n4, n5, fun y c h1 h2 => p15.other h1 (p13.other h1 (by rw [q11]; exact n6 y c h2)), by rw [p15.2.2, p13.2.2, q11]; exact z8⟩, fun fs hl => c16.trans (X15.returnOut hexec hret (hb hbytes d57) hl)⟩
end New4
namespace New1
def yN : MethodName := ⟨"java/lang/String", "<init>", "([C)V"⟩
abbrev yB : ByteArray := jdk_42_method_3_code
theorem d0 : decode yB 0 = .ok (.aload_n 0, 1) := by decide +kernel
theorem d1 : decode yB 1 = .ok (.aload_n 1, 1) := by decide +kernel
theorem d2 : decode yB 2 = .ok (.iconst 0, 1) := by decide +kernel
theorem d3 : decode yB 3 = .ok (.aload_n 1, 1) := by decide +kernel
theorem d4 : decode yB 4 = .ok (.arraylength, 1) := by decide +kernel
theorem d5 : decode yB 5 = .ok (.aconst_null, 1) := by decide +kernel
theorem d6 : decode yB 6 = .ok (.invokespecial 27, 3) := by decide +kernel
theorem d9 : decode yB 9 = .ok (.return_, 1) := by decide +kernel
def site : List Cond := [New4.tab] ++ initW "java/lang/String" 27 New4.yN
def tab : Cond := tabOf yN yB 2 none site
def P (a : Addr) (D : Cell) (fV fC : Field) (b : Addr) (A : Cell) (z : Int32) (args : Array Value) (s : State) : Prop := args = #[.ref a, .ref b] ∧ Blank "java/lang/String" a D s ∧ Found "java/lang/String" "value" "[B" fV s ∧ Found "java/lang/String" "coder" "B" fC s ∧ Ch b A s ∧ StaticIs s "java/lang/String" "COMPACT_STRINGS" "Z" (.int z) ∧ ¬ z = 0 ∧ 0 < A.slots.size ∧ A.slots.size ≤ 536870912 ∧ ∀ i, i < A.slots.size → ¬ 255 < cv A i
def E (a : Addr) (D : Cell) (fV fC : Field) (A : Cell) (r : Option Value) (s u : State) : Prop := Got a D fV fC A 0 A.slots.size r s u
/-- new String(chars), not empty, no char above 255: a Latin-1 String of their low bytes -/
theorem law (l : Launch) (a : Addr) (D : Cell) (fV fC : Field) (b : Addr) (A : Cell) (z : Int32) : Law l yN 2 1 3 52 yB 2 none site (P a D fV fC b A z) (E a D fV fC A) [⟨a, fC.slot⟩, ⟨a, fV.slot⟩] 1 A.slots.size := by
  refine Law.of_walk (plainFor_of_name (by decide +kernel)) (by decide +kernel) (by decide +kernel) (by decide) (fun _ _ h => by rw [h.1]; rfl) (fun _ U U' hal hh h => ⟨h.1, h.2.1.mv hal hh, h.2.2.1.al hal, h.2.2.2.1.al hal, h.2.2.2.2.1.mv hal hh, h.2.2.2.2.2.1.there hal hh, h.2.2.2.2.2.2⟩) (fun r U U' V V' h1 hal h2 h => Got.mv r U U' V V' h1 hal h2 h) ?_
  intro p e s m args below meth c s₁ X0 hexec hbytes hml hret hlk hnm hown hh0 W hP
  obtain ⟨rfl, hB, f1, f2, hA, s1, hz, l0, l2, hp⟩ := hP
  have c1 : Steps p.tables e below (s₁.setTop (entryFrame m #[.ref a, .ref b] 2)) (s₁.setTop (mkF m 0 #[.val (.ref a), .val (.ref b)] [])) := entry rfl
  have c2 : Steps p.tables e below (s₁.setTop (entryFrame m #[.ref a, .ref b] 2)) (s₁.setTop (mkF m 6 #[.val (.ref a), .val (.ref b)] [.null, .int (Int32.ofNat A.slots.size), .int 0, .ref b, .ref a])) := c1.trans (by
    refine XS.aloadN X0.here hexec rfl (hb hbytes d0) rfl rfl ?_
    refine XS.aloadN X0.here hexec rfl (hb hbytes d1) rfl rfl ?_
    refine iconstV X0.here hexec rfl 0 (hb hbytes d2) (by decide) ?_
    refine XS.aloadN X0.here hexec rfl (hb hbytes d3) rfl rfl ?_
    refine X0.alen hexec (hA.1.mv X0.warmed.alike hh0) rfl rfl (hb hbytes d4) ?_
    refine XS.aconstNull X0.here hexec rfl (hb hbytes d5) ?_
    exact Steps.refl _)
  obtain ⟨v3, T3, X3, E3, g3⟩ := X0.callN hexec (New4.law l a D fV fC b A z 0 A.slots.size) rfl hown (wks W (initW "java/lang/String" 27 New4.yN)) (W New4.tab (by simp only [site, List.mem_cons, List.mem_append, true_or, or_true])) (W := 0) (Nat.le_of_ble_eq_true rfl) (Nat.le_of_ble_eq_true rfl) (Nat.le_refl _) (by show 0 + A.slots.size ≤ A.slots.size; omega) (g := (mkF m 6 #[.val (.ref a), .val (.ref b)] [.null, .int (Int32.ofNat A.slots.size), .int (Int32.ofNat 0), .ref b, .ref a])) rfl (by rw [hml]; rfl) c2 (argsL := [.ref b, .int (Int32.ofNat 0), .int (Int32.ofNat A.slots.size), .null]) (rest := []) rfl rfl (by show 2 * 0 + 0 ≤ _; decide) (hb hbytes d6) (⟨rfl, hB.mv X0.warmed.alike hh0, f1.al X0.warmed.alike, f2.al X0.warmed.alike, hA.mv X0.warmed.alike hh0, s1.there X0.warmed.alike hh0, hz, l0, by omega, l2, fun i hi => by rw [Nat.zero_add]; exact hp i hi⟩)
  have e0 := Got.mv _ s₁ s _ _ hh0.symm (Vm.Alike.refl _) rfl E3
  obtain rfl := e0.1
  have c4 : Steps p.tables e below (s₁.setTop (entryFrame m #[.ref a, .ref b] 2)) (T3.setTop (mkF m 9 #[.val (.ref a), .val (.ref b)] [])) := g3
  exact ⟨T3, none, _, _, _, X3, by simp, rfl, by omega, (fun _ => rfl), e0, fun fs hl => c4.trans (X3.returnOut hexec hret (hb hbytes d9) hl)⟩
theorem pays {l : Launch} {R : Room} {p : Program} {e : Env} {below : List Frame} {s : State} {sargs : Array Value} {len W : Nat} (a : Addr) (D : Cell) (fV fC : Field) (b : Addr) (A : Cell) (z : Int32) (htab : tab.before sargs s = true) (hfr : 4 ≤ R.frames) (hlo : W + 65 ≤ R.locals) :
    Back l R p e below s sargs yN len W (fun A₁ a₁ => A₁.cells + 1 ≤ R.cells ∧ A₁.slots + A.slots.size ≤ R.slots ∧ P a D fV fC b A z a₁ A₁.U) (fun A₁ _ v₁ B₁ => E a D fV fC A v₁ A₁.U B₁.U ∧ B₁.locs = A₁.locs ++ [⟨a, fC.slot⟩, ⟨a, fV.slot⟩] ∧ B₁.cells = A₁.cells + 1 ∧ B₁.slots = A₁.slots + A.slots.size) :=
  (law l a D fV fC b A z).pays htab hfr (by omega)
end New1
/-- the byte, read back as charAt reads it, is the char -/
theorem lo8_mask {x : Int32} (h0 : ¬ x < 0) (h1 : ¬ 255 < x) : lo8 x &&& 255 = x := by
  have t : ∀ k : Fin 256, lo8 (Int32.ofNat k.val) &&& 255 = Int32.ofNat k.val := by decide +kernel
  rw [Int32.lt_iff_toInt_lt] at h0 h1
  have e0 : (0 : Int32).toInt = 0 := rfl
  have e1 : (255 : Int32).toInt = 255 := rfl
  obtain ⟨k, hk⟩ : ∃ k : Nat, x.toInt = k := ⟨x.toInt.toNat, by omega⟩
  have hx : x = Int32.ofNat k := Int32.toInt_inj.mp (by rw [hk, Int32.toInt_ofNat_small (by omega)])
  rw [hx]
  exact t ⟨k, by omega⟩
end StrChars
namespace StrChars.Road
open Jvm Sem ClassFile Op Lib Jvm.Stand Jvm.Free Jvm.Free.XT
open Jvm.Lib.Cold (StaticIs)
abbrev ST : String := "java/lang/String"
/-- every table word that New1's law asks, flat -/
abbrev words : List Jvm.Cond := [.code New1.yN New1.yB 2 none, .initialized ST, .methodLink ST 27 New4.yN, .instanceMethod New4.yN,
  .code New4.yN New4.yB 6 none, .fieldLink ST 38 ST "COMPACT_STRINGS" "Z", .laysFinal ST ST "value" "[B", .fieldLink ST 9 ST "value" "[B", .laysFinal ST ST "coder" "B", .fieldLink ST 15 ST "coder" "B",
  .methodLink ST 1 Lib.objectInit, .instanceMethod Lib.objectInit, .code Lib.objectInit ⟨#[0xb1]⟩ 1 none, .methodLink ST 177 Cmp3.yN, .static Cmp3.yN, .methodLink ST 47 CodL.yN, .static CodL.yN,
  .code Cmp3.yN Cmp3.yB 6 (some (.array .byte)), .initialized U16, .arrayClass .byte, .methodLink U16 115 Cmp5.yN, .static Cmp5.yN, .code Cmp5.yN Cmp5.yB 7 (some .int), .code CodL.yN CodL.yB 2 (some .byte)]
theorem tab_of {a : Array Value} {s : State} (h : ∀ w ∈ words, w.before a s = true) : New1.tab.before a s = true := by
  have h5 : Cmp5.tab.before a s = true := unparts (wk h (.code Cmp5.yN Cmp5.yB 7 (some .int))) (wks h (.initialized Cmp5.yN.cls :: Cmp5.site))
  have hc : CodL.tab.before a s = true := unparts (wk h (.code CodL.yN CodL.yB 2 (some .byte))) (wks h (.initialized CodL.yN.cls :: CodL.site))
  have q5 : ∀ w ∈ Cmp5.tab :: words, w.before a s = true := fun w hw => (List.mem_cons.mp hw).elim (fun e => e ▸ h5) (h w)
  have h3 : Cmp3.tab.before a s = true := unparts (wk q5 (.code Cmp3.yN Cmp3.yB 6 (some (.array .byte)))) (wks q5 (.initialized Cmp3.yN.cls :: Cmp3.site))
  have q3 : ∀ w ∈ Cmp3.tab :: CodL.tab :: words, w.before a s = true := fun w hw => (List.mem_cons.mp hw).elim (fun e => e ▸ h3) fun hw => (List.mem_cons.mp hw).elim (fun e => e ▸ hc) (h w)
  have h4 : New4.tab.before a s = true := unparts (wk q3 (.code New4.yN New4.yB 6 none)) (wks q3 (.initialized New4.yN.cls :: New4.site))
  have q4 : ∀ w ∈ New4.tab :: words, w.before a s = true := fun w hw => (List.mem_cons.mp hw).elim (fun e => e ▸ h4) (h w)
  exact unparts (wk q4 (.code New1.yN New1.yB 2 none)) (wks q4 (.initialized New1.yN.cls :: New1.site))
/-- the words ride from the start Z to the walk's own state -/
theorem moved {Z s : State} {a0 args : Array Value} (hZ : Z.Warmed39 s.vm) (hw : ∀ d ∈ words, d.before a0 Z = true) : ∀ d ∈ words, d.before args s = true := fun d hd => by
  have q := hw d hd
  have t : ∀ d ∈ words, d = .arrayClass .byte ∨ (d.onTables && d.keepsFace) = true := by decide +kernel
  rcases t d hd with rfl | t
  · exact RoadKit.mvA hZ q
  · exact RoadKit.mv hZ q t
/-- WHAT COMES BACK, over the tables of the start Z: h the heap at the call, h' behind it -/
def Q (Z : State) (x : Addr) (A : Cell) (h : Heap) (v : Option Value) (h' : Heap) (L : List Loc) : Prop := v = none ∧ (∀ y ∈ L, y.base = x) ∧ RoadKit.Keep h h' [x] ∧ h'.size = h.size + 1 ∧ RoadKit.Exa Z h' x ST ∧ RoadKit.Fld Z h' x ST "value" "[B" (.ref h.size) ∧ RoadKit.Fld Z h' x ST "coder" "B" (.int 0) ∧
  (∃ V : Cell, RoadKit.Arr Z h' h.size V .byte ∧ V.vm = .none ∧ Z.vm.findClass "[B" = some V.cls ∧ V.slots.size = A.slots.size ∧ ∀ j, j < A.slots.size → V.slots[j]? = some (.int (lo8 (cv A j)))) ∧
  ∀ (O n d : String) (w : Value), RoadKit.Fld Z h x O n d w → RoadKit.slotOf Z O n d ≠ RoadKit.slotOf Z ST "value" "[B" → RoadKit.slotOf Z O n d ≠ RoadKit.slotOf Z ST "coder" "B" → RoadKit.Fld Z h' x O n d w
/-- **new String(chars) AT A CALL, IN THE ROAD'S FORM**: for specialBack behind newO: x the fresh String, b the char[] with the cell A -/
theorem back {p : Program} {l : Launch} {e : Env} {R : Room} {s : State} {args : Array Value} {below : List Frame} {len W : Nat} {Z : State} {a0 : Array Value} {h : Heap} (hZ : Z.Warmed39 s.vm) (hw : ∀ d ∈ words, d.before a0 Z = true) {kI : Nat} (wi : (Jvm.Cond.instantiable ST kI).before a0 Z = true)
    {x b : Addr} {A : Cell} {z : Int32} {v0 c0 : Value} (E : RoadKit.Exa Z h x ST) (V : RoadKit.Fld Z h x ST "value" "[B" v0) (C : RoadKit.Fld Z h x ST "coder" "B" c0) (K : RoadKit.Arr Z h b A .char) (hty : Typed .char A) (S : RoadKit.Sta Z h ST "COMPACT_STRINGS" "Z" (.int z)) (hz : ¬ z = 0)
    (l0 : 0 < A.slots.size) (l2 : A.slots.size ≤ 536870912) (hp : ∀ i, i < A.slots.size → ¬ 255 < cv A i) (hfr : 4 ≤ R.frames) (hlo : W + 65 ≤ R.locals) :
    Back l R p e below s args New1.yN len W (fun P a => a = #[.ref x, .ref b] ∧ P.U.heap = h ∧ P.cells + 1 ≤ R.cells ∧ P.slots + A.slots.size ≤ R.slots)
      (fun P _ v B => ∃ L, Q Z x A h v B.U.heap L ∧ B.locs = P.locs ++ L ∧ B.cells = P.cells + 1 ∧ B.slots = P.slots + A.slots.size) := by
  intro m meth c P g ig mk a X hg hsize hdg hW hn hp'
  obtain ⟨rfl, rfl, r1, r2⟩ := hp'
  have al : Z.vm.Alike P.U.vm := hZ.alike.trans X.warmed.alike
  obtain ⟨D, cfV, kV, iV, fV, hD, gV, stV, knV, obV, asV, slV⟩ := id V
  obtain ⟨D', cfC, kC, iC, fC, hD', gC, stC, -, -, asC, slC⟩ := id C
  cases hD.symm.trans hD'
  obtain ⟨D2, kD, e1, e2, e3, e4, e5⟩ := id E
  cases hD.symm.trans e1
  obtain ⟨c2, k2, i1, i2, i3, -⟩ := Cond.instantiable_spec wi
  cases e2.symm.trans i1
  cases e3.symm.trans i2
  obtain ⟨kU, u1, u2⟩ := al.2.2 _ _ e3
  have hB : Blank ST x D P.U := ⟨hD, ⟨knV, fun q hq => by rw [hq] at obV; cases obV⟩, by rw [al.findClass]; exact e2, kU, u1, by rw [u2]; exact i3, by rw [u2]; exact e5 i3⟩
  have F1 : Found ST "value" "[B" fV P.U := ⟨SBG.found_only al ⟨cfV, kV, iV, gV⟩, stV⟩
  have F2 : Found ST "coder" "B" fC P.U := ⟨SBG.found_only al ⟨cfC, kC, iC, gC⟩, stC⟩
  have hA : Ch b A P.U := ⟨⟨K.1, State.isArrayOf_alike al K.2.1, K.2.2, by omega⟩, hty⟩
  have hS : StaticIs P.U ST "COMPACT_STRINGS" "Z" (.int z) := by
    obtain ⟨cfS, iS, kS, fS, st, cS, t1, t2, t3, t4, t5, t6, t7⟩ := S
    exact StaticIs.there (s := { Z with heap := P.U.heap }) ⟨cfS, iS, kS, fS, st, cS, t1, t2, t3, t4, t5, (fun q => by rw [q] at t6; cases t6), t7⟩ al rfl
  obtain ⟨v, B, X', ⟨⟨hv, E', V', q1, q2, q3, q4, q5, q6, q7, q8, q9, q10, q11⟩, hl, hc, hs⟩, st⟩ := New1.pays x D fV fC b A z (tab_of (moved hZ hw)) hfr hlo m meth c P g ig mk _ X hg hsize hdg hW hn ⟨r1, r2, rfl, hB, F1, F2, hA, hS, hz, l0, l2, hp⟩
  have al' : Z.vm.Alike B.U.vm := hZ.alike.trans X'.warmed.alike
  have hsz : E'.slots.size = D.slots.size := by
    obtain ⟨-, -, -, kB, w1, w2, w3⟩ := q1
    obtain ⟨kB', y1, y2⟩ := al'.2.2 _ _ e3
    rw [q2.2.1] at w1
    cases w1.symm.trans y1
    rw [w3, e5 i3, y2]
  refine ⟨v, B, X', ⟨_, ⟨hv, ?_, ⟨by omega, fun y cy hy hn' => q10 y cy (by simpa using hn') hy, fun y cy hy => ?_⟩, q11, ⟨E', _, q1.1, by rw [q2.2.1]; exact e2, by rw [q2.2.1]; exact e3, by rw [q2.1]; exact obV, fun _ => by rw [hsz]; exact e5 i3⟩,
    ⟨E', cfV, kV, iV, fV, q1.1, gV, stV, by rw [q2.1]; exact knV, by rw [q2.1]; exact obV, by rw [q2.2.1]; exact asV, q3⟩, ⟨E', cfC, kC, iC, fC, q1.1, gC, stC, by rw [q2.1]; exact knV, by rw [q2.1]; exact obV, by rw [q2.2.1]; exact asC, q4⟩,
    ⟨V', ⟨q5.1, State.isArrayOf_alike al'.symm q5.2.1, q5.2.2.1⟩, q6, by rw [← al'.findClass]; exact q7, q8, fun j hj => by have := q9 j hj; rwa [Nat.zero_add] at this⟩, fun O n d w F n1 n2 => ?_⟩, hl, hc, hs⟩, st⟩
  · intro y hy
    simp only [List.mem_cons, List.not_mem_nil, or_false] at hy
    rcases hy with rfl | rfl <;> rfl
  · by_cases q : y = x
    · subst q
      cases hD.symm.trans hy
      exact ⟨E', q1.1, q2.2.1, q2.1, hsz⟩
    · exact ⟨cy, q10 y cy q hy, rfl, rfl, rfl⟩
  · obtain ⟨D3, cf, k, i, f, g1, g2, g3, g4, g5, g6, g7⟩ := F
    cases hD.symm.trans g1
    simp only [RoadKit.slotOf, g2, gV, gC, Option.map_some, Option.getD_some] at n1 n2
    exact ⟨E', cf, k, i, f, q1.1, g2, g3, by rw [q2.1]; exact g4, by rw [q2.1]; exact g5, by rw [q2.2.1]; exact g6, by rw [q2.2.2 f.slot (by simp [n1, n2])]; exact g7⟩
end StrChars.Road
namespace StrChars.Road
open Jvm Sem ClassFile Op Lib Jvm.Stand Jvm.Free Jvm.Free.XT
/-- WHAT COMES BACK, the byte[] as a list of values -/
def QA (Z : State) (x : Addr) (zn : Int32) (cs : List Int32) (h : Heap) (v : Option Value) (h' : Heap) (L : List Loc) : Prop := v = none ∧ (∀ y ∈ L, y.base = x) ∧ RoadKit.Keep h h' [x] ∧ h'.size = h.size + 1 ∧ RoadKit.Exa Z h' x ST ∧ RoadKit.Fld Z h' x ST "value" "[B" (.ref h.size) ∧ RoadKit.Fld Z h' x ST "coder" "B" (.int 0) ∧
  (∃ kb, Z.vm.findClass "[B" = some kb ∧ RoadKit.Arv Z h' h.size kb .byte zn (cs.map fun c => .int (lo8 c)) (.int 0)) ∧
  ∀ (O n d : String) (w : Value), RoadKit.Fld Z h x O n d w → RoadKit.slotOf Z O n d ≠ RoadKit.slotOf Z ST "value" "[B" → RoadKit.slotOf Z O n d ≠ RoadKit.slotOf Z ST "coder" "B" → RoadKit.Fld Z h' x O n d w
/-- **new String(chars) AT A CALL, THE ARRAYS AS LISTS**: the char[] at b holds cs, not empty, no char above 255 -/
theorem backArv {p : Program} {l : Launch} {e : Env} {R : Room} {s : State} {args : Array Value} {below : List Frame} {len W : Nat} {Z : State} {a0 : Array Value} {h : Heap} (hZ : Z.Warmed39 s.vm) (hw : ∀ d ∈ words, d.before a0 Z = true) {kI : Nat} (wi : (Jvm.Cond.instantiable ST kI).before a0 Z = true)
    {x b : Addr} {k : ClassId} {zn z : Int32} {cs : List Int32} {dv v0 c0 : Value} (E : RoadKit.Exa Z h x ST) (V : RoadKit.Fld Z h x ST "value" "[B" v0) (C : RoadKit.Fld Z h x ST "coder" "B" c0) (K : RoadKit.Arv Z h b k .char zn (cs.map Value.int) dv) (S : RoadKit.Sta Z h ST "COMPACT_STRINGS" "Z" (.int z)) (hz : ¬ z = 0)
    (hlen : zn.toNatClampNeg = cs.length) (h0 : 0 < cs.length) (hbig : cs.length ≤ 536870912) (hall : ∀ c ∈ cs, ¬ 255 < c) (hfr : 4 ≤ R.frames) (hlo : W + 65 ≤ R.locals) :
    Back l R p e below s args New1.yN len W (fun P a => a = #[.ref x, .ref b] ∧ P.U.heap = h ∧ P.cells + 1 ≤ R.cells ∧ P.slots + cs.length ≤ R.slots)
      (fun P _ v B => ∃ L, QA Z x zn cs h v B.U.heap L ∧ B.locs = P.locs ++ L ∧ B.cells = P.cells + 1 ∧ B.slots = P.slots + cs.length) := by
  obtain ⟨A, K1, K2, K3, K4, K5, K6⟩ := K
  have e : A.slots.size = cs.length := K3.trans hlen
  have hat : ∀ (i : Nat) (hi : i < cs.length), A.slots[i]? = some (.int cs[i]) := fun i hi => by rw [K5 i (by omega)]; simp [List.getD_eq_getElem?_getD, hi]
  have hcv : ∀ (i : Nat) (hi : i < cs.length), cv A i = cs[i] := fun i hi => by unfold cv; rw [hat i hi]
  have hty : Typed .char A := fun i v hv => by
    have hi : i < A.slots.size := (Array.getElem?_eq_some_iff.mp hv).1
    have q := K5 i hi
    rw [hv] at q
    rw [Option.some.inj q]
    exact K6 i hi
  refine Back.mono (back hZ hw wi E V C K1 hty S hz (by omega) (by omega) (fun i hi => by rw [hcv i (by omega)]; exact hall _ (List.getElem_mem _)) hfr hlo) (fun P a hp => ⟨hp.1, hp.2.1, hp.2.2.1, by rw [e]; exact hp.2.2.2⟩) (fun P a v B hp hq => ?_)
  obtain ⟨L, ⟨q1, q2, q3, q4, q5, q6, q7, ⟨V', v1, v2, v3, v4, v5⟩, q9⟩, hl, hc, hs⟩ := hq
  refine ⟨L, ⟨q1, q2, q3, q4, q5, q6, q7, ⟨V'.cls, v3, V', v1, rfl, by rw [v4, e, hlen], K4, fun i hi => ?_, fun i hi => ?_⟩, q9⟩, hl, hc, by rw [hs, e]⟩
  · have hi' : i < cs.length := by omega
    rw [v5 i (by omega), hcv i hi']; simp [List.getD_eq_getElem?_getD, hi']
  · have hi' : i < cs.length := by omega
    simp only [List.getD_eq_getElem?_getD, List.getElem?_map, List.getElem?_eq_getElem hi', Option.map_some, Option.getD_some]
    exact fits_lo8 _
end StrChars.Road
namespace StrChars.Road
open Jvm Sem ClassFile Op Lib Jvm.Stand Jvm.Free Jvm.Free.XT
/-- WHAT COMES BACK, in the writer's own shape -/
def QV (Z : State) (x : Addr) (N : Int32) (bs : List Int32) (h : Heap) (n0 : Nat) (v : Option Value) (h' : Heap) (L : List Loc) : Prop := v = none ∧ RoadKit.Fr n0 L ∧ RoadKit.Keep h h' [x] ∧ RoadKit.Exa Z h' x ST ∧ RoadKit.Fld Z h' x ST "coder" "B" (.int 0) ∧
  ∃ (t : Addr) (kb : ClassId), n0 ≤ t ∧ h.size ≤ t ∧ ¬ t = x ∧ RoadKit.Fld Z h' x ST "value" "[B" (.ref t) ∧ RoadKit.Arv Z h' t kb .byte N (bs.map Value.int) (.int 0)
/-- **new String(chars) AT A CALL, FOR THE WRITER**: a char[] of n known ints, each 0 to 255 -/
theorem backV {p : Program} {l : Launch} {e : Env} {R : Room} {s : State} {args : Array Value} {below : List Frame} {len W : Nat} {Z : State} {a0 : Array Value} {h : Heap} (hZ : Z.Warmed39 s.vm) (hw : ∀ d ∈ words, d.before a0 Z = true) {kI : Nat} (wi : (Jvm.Cond.instantiable ST kI).before a0 Z = true)
    {x b : Addr} {kC : ClassId} {cs bs : List Int32} {d v0 c0 : Value} {z N : Int32} {n n0 : Nat} (hx0 : n0 ≤ x) (hh0 : n0 ≤ h.size) (E : RoadKit.Exa Z h x ST) (V : RoadKit.Fld Z h x ST "value" "[B" v0) (C : RoadKit.Fld Z h x ST "coder" "B" c0) (K : RoadKit.Arv Z h b kC .char N (cs.map Value.int) d) (S : RoadKit.Sta Z h ST "COMPACT_STRINGS" "Z" (.int z)) (hz : ¬ z = 0)
    (hn : cs.length = n) (hN : N = Int32.ofNat n) (l0 : 0 < n) (l2 : n ≤ 4000) (hp : ∀ c ∈ cs, ¬ c < 0 ∧ ¬ (255 : Int32) < c) (hb : bs = cs.map (fun c => c.toInt8.toInt32)) (hfr : 4 ≤ R.frames) (hlo : W + 65 ≤ R.locals) :
    Back l R p e below s args (⟨"java/lang/String", "<init>", "([C)V"⟩ : MethodName) len W (fun P a => a = #[.ref x, .ref b] ∧ P.U.heap = h ∧ P.cells + 1 ≤ R.cells ∧ P.slots + n ≤ R.slots)
      (fun P _ v B => ∃ L, QV Z x N bs h n0 v B.U.heap L ∧ B.locs = P.locs ++ L ∧ B.cells = P.cells + 1 ∧ B.slots = P.slots + n) := by
  subst hn hN hb
  refine Back.mono (backArv hZ hw wi E V C K S hz (n32 (by omega)) l0 (by omega) (fun c hc => (hp c hc).2) hfr hlo) (fun P a hp => hp) (fun P a v B hp hq => ?_)
  obtain ⟨L, ⟨q1, q2, q3, q4, q5, q6, q7, ⟨kb, v1, v2⟩, q9⟩, hl, hc, hs⟩ := hq
  exact ⟨L, ⟨q1, fun y hy => by rw [q2 y hy]; exact hx0, q3, q5, q7, h.size, kb, hh0, Nat.le_refl _, Nat.ne_of_gt E.lt, q6, by rw [List.map_map]; exact v2⟩, hl, hc, hs⟩
end StrChars.Road
namespace StrChars
open Jvm Sem ClassFile Op Lib Jvm.Stand Jvm.Free.XT Jvm.Free.ALB Jvm.Free.JM Jvm.Free
open Jvm.Lib.Cold (StaticIs)
def hi8 (x : Int32) : Int32 := lo8 (x >>> ((8 : Int32) &&& 31))
/-- what StringUTF16.getChar makes of two bytes -/
def pairCh (u v : Int32) : Int32 := (((u &&& 255) <<< ((0 : Int32) &&& 31)) ||| ((v &&& 255) <<< ((8 : Int32) &&& 31))).toUInt32.toUInt16.toUInt32.toInt32
theorem shr0 (c : Int32) : c >>> ((0 : Int32) &&& 31) = c := by
  have e : ((0 : Int32) &&& 31) = 0 := by decide
  rw [e]
  apply Int32.toBitVec_inj.mp
  rw [Int32.toBitVec_shiftRight]
  have e1 : ((0 : Int32).toBitVec.smod 32) = 0#32 := by decide
  rw [e1, BitVec.sshiftRight_eq']
  exact BitVec.sshiftRight_zero
theorem lo8_and (x : Int32) : (lo8 x &&& 255).toBitVec.toNat = x.toBitVec.toNat % 256 := by
  have h : (lo8 x).toBitVec = (x.toBitVec.signExtend 8).signExtend 32 := by rw [lo8, Int8.toBitVec_toInt32, Int32.toBitVec_toInt8]
  rw [Int32.toBitVec_and, BitVec.toNat_and, h]
  have e : ((x.toBitVec.signExtend 8).signExtend 32).toNat % 256 = x.toBitVec.toNat % 256 := by
    rw [BitVec.toNat_signExtend]
    have hlt := x.toBitVec.isLt
    simp only [BitVec.toNat_setWidth, BitVec.toNat_signExtend]
    split <;> split <;> omega
  rw [← e]
  exact Nat.and_two_pow_sub_one_eq_mod _ 8
theorem pair_says {c : Int32} (h0 : ¬ c < 0) (h1 : ¬ 65535 < c) : pairCh (lo8 c) (hi8 c) = c := by
  rw [Int32.lt_iff_toInt_lt] at h0 h1
  have e0 : (0 : Int32).toInt = 0 := rfl
  have e1 : (65535 : Int32).toInt = 65535 := rfl
  have hc : c.toInt = c.toBitVec.toNat := by
    have := c.toBitVec.isLt
    have e : c.toInt = c.toBitVec.toInt := rfl
    rw [e] at h0 h1
    rw [e]
    rw [BitVec.toInt_eq_toNat_cond] at h0 h1 ⊢
    split at h0 <;> split <;> omega
  have hn : c.toBitVec.toNat < 65536 := by omega
  have a1 := lo8_and c
  have a2 : (hi8 c &&& 255).toBitVec.toNat = c.toBitVec.toNat / 256 := by
    rw [hi8, lo8_and]
    have e : ((8 : Int32) &&& 31) = 8 := by decide
    rw [e, Int32.toBitVec_shiftRight]
    have e2 : ((8 : Int32).toBitVec.smod 32) = 8#32 := by decide
    rw [e2, BitVec.sshiftRight_eq', BitVec.toNat_sshiftRight_of_msb_false (by rw [BitVec.msb_eq_false_iff_two_mul_lt]; omega)]
    show c.toBitVec.toNat >>> 8 % 256 = _
    rw [Nat.shiftRight_eq_div_pow]
    omega
  unfold pairCh
  apply Int32.toBitVec_inj.mp
  apply BitVec.eq_of_toNat_eq
  have f0 : ((0 : Int32) &&& 31) = 0 := by decide
  have f8 : ((8 : Int32) &&& 31) = 8 := by decide
  rw [f0, f8]
  have g : (((lo8 c &&& 255) <<< (0 : Int32)) ||| ((hi8 c &&& 255) <<< (8 : Int32))).toBitVec.toNat = c.toBitVec.toNat := by
    rw [Int32.toBitVec_or, Int32.toBitVec_shiftLeft, Int32.toBitVec_shiftLeft]
    have s0 : ((0 : Int32).toBitVec.smod 32) = 0#32 := by decide
    have s8 : ((8 : Int32).toBitVec.smod 32) = 8#32 := by decide
    rw [s0, s8, BitVec.toNat_or]
    simp only [BitVec.shiftLeft_eq', BitVec.toNat_shiftLeft, a1, a2]
    show (c.toBitVec.toNat % 256) <<< 0 % 2 ^ 32 ||| (c.toBitVec.toNat / 256) <<< 8 % 2 ^ 32 = _
    rw [Nat.shiftLeft_zero, Nat.mod_eq_of_lt (show c.toBitVec.toNat % 256 < 2 ^ 32 by omega), Nat.mod_eq_of_lt (show (c.toBitVec.toNat / 256) <<< 8 < 2 ^ 32 by rw [Nat.shiftLeft_eq]; omega), Nat.or_comm, ← Nat.shiftLeft_add_eq_or_of_lt (by omega), Nat.shiftLeft_eq]
    omega
  show BitVec.toNat (((((lo8 c &&& 255) <<< (0 : Int32)) ||| ((hi8 c &&& 255) <<< (8 : Int32))).toBitVec.setWidth 16).setWidth 32) = _
  rw [BitVec.toNat_setWidth, BitVec.toNat_setWidth, g]
  omega
end StrChars
namespace StrChars
open Jvm Sem ClassFile Op Lib Jvm.Stand Jvm.Free.XT Jvm.Free.ALB Jvm.Free.JM Jvm.Free
open Jvm.Lib.Cold (StaticIs)
theorem shr1 {n : Nat} (h : 2 * n < 2 ^ 31) : Int32.ofNat (2 * n) >>> ((1 : Int32) &&& 31) = Int32.ofNat n := by
  have e : ((1 : Int32) &&& 31) = 1 := by decide
  rw [e]
  apply Int32.toBitVec_inj.mp
  rw [Int32.toBitVec_shiftRight]
  have e1 : ((1 : Int32).toBitVec.smod 32) = 1#32 := by decide
  have hm : (BitVec.ofNat 32 (2 * n)).toNat = 2 * n := by rw [BitVec.toNat_ofNat, Nat.mod_eq_of_lt (by omega)]
  rw [e1, BitVec.sshiftRight_eq']
  apply BitVec.eq_of_toNat_eq
  show ((BitVec.ofNat 32 (2 * n)).sshiftRight 1).toNat = (BitVec.ofNat 32 n).toNat
  rw [BitVec.toNat_sshiftRight_of_msb_false (by rw [BitVec.msb_eq_false_iff_two_mul_lt, hm]; omega), hm, BitVec.toNat_ofNat, Nat.shiftRight_eq_div_pow]
  omega
/-- charAt's cast of a byte read back -/
def chr8 (u : Int32) : Int32 := (u &&& 255).toUInt32.toUInt16.toUInt32.toInt32
theorem chr8_lo8 {c : Int32} (h0 : ¬ c < 0) (h1 : ¬ 255 < c) : chr8 (lo8 c) = c := by
  have t : ∀ k : Fin 256, (Int32.ofNat k.val).toUInt32.toUInt16.toUInt32.toInt32 = Int32.ofNat k.val := by decide +kernel
  unfold chr8
  rw [lo8_mask h0 h1]
  rw [Int32.lt_iff_toInt_lt] at h0 h1
  have e0 : (0 : Int32).toInt = 0 := rfl
  have e1 : (255 : Int32).toInt = 255 := rfl
  obtain ⟨k, hk⟩ : ∃ k : Nat, c.toInt = k := ⟨c.toInt.toNat, by omega⟩
  have hx : c = Int32.ofNat k := Int32.toInt_inj.mp (by rw [hk, Int32.toInt_ofNat_small (by omega)])
  rw [hx]
  exact t ⟨k, by omega⟩
theorem narrow_ch {c : Int32} (h0 : ¬ c < 0) (h1 : ¬ 65535 < c) : narrow .char (.int c) = .int c := by
  have q : narrow .char (.int (pairCh (lo8 c) (hi8 c))) = .int (pairCh (lo8 c) (hi8 c)) := narrow_c _
  rwa [pair_says h0 h1] at q
/-- the array's cell V codes the n chars f 0 .. f (n - 1) by the coder cd, as the JDK does: coder 1 just where some char is above 255 -/
def Cod (cd : Int32) (n : Nat) (f : Nat → Int32) (V : Cell) : Prop := (cd = 0 ∧ V.slots.size = n ∧ ∀ j, j < n → V.slots[j]? = some (.int (lo8 (f j))) ∧ ¬ 255 < f j) ∨ (cd = 1 ∧ V.slots.size = 2 * n ∧ (∀ j, j < n → V.slots[2 * j]? = some (.int (lo8 (f j))) ∧ V.slots[2 * j + 1]? = some (.int (hi8 (f j)))) ∧ ∃ j, j < n ∧ 255 < f j)
theorem Cod.cd {cd : Int32} {n : Nat} {f : Nat → Int32} {V : Cell} (h : Cod cd n f V) : cd = 0 ∨ cd = 1 := h.imp (fun q => q.1) fun q => q.1
theorem Cod.len {cd : Int32} {n : Nat} {f : Nat → Int32} {V : Cell} (h : Cod cd n f V) (hs : V.slots.size < 2 ^ 31) : Int32.ofNat V.slots.size >>> (cd &&& 31) = Int32.ofNat n := by
  rcases h with ⟨rfl, h, -⟩ | ⟨rfl, h, -⟩
  · rw [shr0, h]
  · rw [h, shr1 (by omega)]
/-- **x is a String of the n chars f 0 .. f (n - 1)**, Latin-1 or UTF-16; its array at t has the cell V -/
def Txt (x t : Addr) (V : Cell) (cd : Int32) (n : Nat) (f : Nat → Int32) (U : State) : Prop := Exact "java/lang/String" x U ∧ Has x "java/lang/String" "value" "[B" (.ref t) U ∧ Has x "java/lang/String" "coder" "B" (.int cd) U ∧ XT.Arr .byte t V U ∧ Cod cd n f V ∧ ∀ j, j < n → ¬ f j < 0 ∧ ¬ 65535 < f j
theorem Txt.mv {x t : Addr} {V : Cell} {cd : Int32} {n : Nat} {f : Nat → Int32} {U U' : State} (h : Txt x t V cd n f U) (hal : U.vm.Alike U'.vm) (hh : U'.heap = U.heap) : Txt x t V cd n f U' := ⟨h.1.mv hal hh, h.2.1.mv hal hh, h.2.2.1.mv hal hh, h.2.2.2.1.mv hal hh, h.2.2.2.2⟩
namespace Cdr
def yN : MethodName := ⟨"java/lang/String", "coder", "()B"⟩
abbrev yB : ByteArray := jdk_42_method_152_code
theorem d0 : decode yB 0 = .ok (.getstatic 38, 3) := by decide +kernel
theorem d3 : decode yB 3 = .ok (.ifCond (.eq) 10, 3) := by decide +kernel
theorem d6 : decode yB 6 = .ok (.aload_n 0, 1) := by decide +kernel
theorem d7 : decode yB 7 = .ok (.getfield 15, 3) := by decide +kernel
theorem d10 : decode yB 10 = .ok (.goto 4, 3) := by decide +kernel
theorem d14 : decode yB 14 = .ok (.ireturn, 1) := by decide +kernel
def site : List Cond := [.fieldLink "java/lang/String" 38 "java/lang/String" "COMPACT_STRINGS" "Z", .fieldLink "java/lang/String" 15 "java/lang/String" "coder" "B"]
def tab : Cond := tabOf yN yB 1 (some .byte) site
def P (x : Addr) (cd z : Int32) (args : Array Value) (s : State) : Prop := args = #[.ref x] ∧ Has x "java/lang/String" "coder" "B" (.int cd) s ∧ (cd = 0 ∨ cd = 1) ∧ StaticIs s "java/lang/String" "COMPACT_STRINGS" "Z" (.int z) ∧ ¬ z = 0
def E (cd : Int32) (r : Option Value) (s u : State) : Prop := XT.PureE (some (.int cd)) r s u
theorem law (l : Launch) (x : Addr) (cd z : Int32) : Law l yN 1 0 0 0 yB 1 (some .byte) site (P x cd z) (E cd) [] 0 0 := by
  refine Law.of_walk (plainFor_of_name (by decide +kernel)) (by decide +kernel) (by decide +kernel) (by decide) (fun _ _ h => by rw [h.1]; rfl) (fun _ U U' hal hh h => ⟨h.1, h.2.1.mv hal hh, h.2.2.1, h.2.2.2.1.there hal hh, h.2.2.2.2⟩) (fun r U U' V V' h1 hal h2 h => XT.PureE.mv r U U' V V' h1 hal h2 h) ?_
  intro p e s m args below meth c s₁ X0 hexec hbytes hml hret hlk hnm hown hh0 W hP
  obtain ⟨rfl, hx, hc, s1, hz⟩ := hP
  have c1 : Steps p.tables e below (s₁.setTop (entryFrame m #[.ref x] 1)) (s₁.setTop (mkF m 0 #[.val (.ref x)] [])) := entry rfl
  obtain ⟨T2, X2, q2, st2⟩ := X0.sget hexec hown (wk W (.fieldLink "java/lang/String" 38 "java/lang/String" "COMPACT_STRINGS" "Z")) s1 (fun _ _ h => by rw [hh0]; exact h) (g := (mkF m 0 #[.val (.ref x)] [])) rfl (hb hbytes d0)
  have hh2 := q2.trans hh0
  have c3 : Steps p.tables e below (s₁.setTop (entryFrame m #[.ref x] 1)) (T2.setTop (mkF m 7 #[.val (.ref x)] [.ref x])) := (c1.trans (st2 _ (Steps.refl _))).trans (by
    refine XS.ifNo X2.here hexec rfl (hb hbytes d3) rfl (i0_eq_f hz) ?_
    refine XS.aloadN X2.here hexec rfl (hb hbytes d6) rfl rfl ?_
    exact Steps.refl _)
  obtain ⟨T4, X4, q4, st4⟩ := X2.hget hexec hown (wk W (.fieldLink "java/lang/String" 15 "java/lang/String" "coder" "B")) (hx.mv X2.warmed.alike hh2) (g := (mkF m 7 #[.val (.ref x)] [.ref x])) rfl (rest := []) rfl (hb hbytes d7)
  have c5 : Steps p.tables e below (s₁.setTop (entryFrame m #[.ref x] 1)) (T4.setTop (mkF m 14 #[.val (.ref x)] [.int cd])) := (c3.trans (st4 _ (Steps.refl _))).trans (by
    refine XS.goto X4.here hexec rfl (pc0 := 10) rfl (hb hbytes d10) (by decide) rfl ?_
    exact Steps.refl _)
  exact ⟨T4, some (.int cd), _, _, _, X4, rfl, rfl, rfl, (fun h => by cases h), ⟨rfl, q4.trans hh2⟩, fun fs hl => c5.trans (X4.ireturnOut hexec hret (by rcases hc with rfl | rfl <;> rfl) (Or.inr (Or.inr (Or.inl rfl))) (hb hbytes d14) hl)⟩
end Cdr
namespace Len
def yN : MethodName := ⟨"java/lang/String", "length", "()I"⟩
abbrev yB : ByteArray := jdk_42_method_54_code
theorem d0 : decode yB 0 = .ok (.aload_n 0, 1) := by decide +kernel
theorem d1 : decode yB 1 = .ok (.getfield 9, 3) := by decide +kernel
theorem d4 : decode yB 4 = .ok (.arraylength, 1) := by decide +kernel
theorem d5 : decode yB 5 = .ok (.aload_n 0, 1) := by decide +kernel
theorem d6 : decode yB 6 = .ok (.invokevirtual 335, 3) := by decide +kernel
theorem d9 : decode yB 9 = .ok (.ishr, 1) := by decide +kernel
theorem d10 : decode yB 10 = .ok (.ireturn, 1) := by decide +kernel
def site : List Cond := [.fieldLink "java/lang/String" 9 "java/lang/String" "value" "[B", Cdr.tab] ++ virtW "java/lang/String" 335 "java/lang/String" Cdr.yN Cdr.yN
def tab : Cond := tabOf yN yB 1 (some .int) site
def P (x t : Addr) (V : Cell) (cd : Int32) (n : Nat) (f : Nat → Int32) (z : Int32) (args : Array Value) (s : State) : Prop := args = #[.ref x] ∧ Txt x t V cd n f s ∧ StaticIs s "java/lang/String" "COMPACT_STRINGS" "Z" (.int z) ∧ ¬ z = 0
def E (n : Nat) (r : Option Value) (s u : State) : Prop := XT.PureE (some (.int (Int32.ofNat n))) r s u
/-- length() of a String of n chars, in either coding -/
theorem law (l : Launch) (x t : Addr) (V : Cell) (cd : Int32) (n : Nat) (f : Nat → Int32) (z : Int32) : Law l yN 1 0 1 13 yB 1 (some .int) site (P x t V cd n f z) (E n) [] 0 0 := by
  refine Law.of_walk (plainFor_of_name (by decide +kernel)) (by decide +kernel) (by decide +kernel) (by decide) (fun _ _ h => by rw [h.1]; rfl) (fun _ U U' hal hh h => ⟨h.1, h.2.1.mv hal hh, h.2.2.1.there hal hh, h.2.2.2⟩) (fun r U U' V V' h1 hal h2 h => XT.PureE.mv r U U' V V' h1 hal h2 h) ?_
  intro p e s m args below meth c s₁ X0 hexec hbytes hml hret hlk hnm hown hh0 W hP
  obtain ⟨rfl, hx, s1, hz⟩ := hP
  have v31 := hx.2.2.2.1.2.2.2
  have c1 : Steps p.tables e below (s₁.setTop (entryFrame m #[.ref x] 1)) (s₁.setTop (mkF m 1 #[.val (.ref x)] [.ref x])) := Steps.trans (entry rfl) (by
    show Steps p.tables e below (s₁.setTop (mkF m 0 #[.val (.ref x)] [])) _
    refine XS.aloadN X0.here hexec rfl (hb hbytes d0) rfl rfl ?_
    exact Steps.refl _)
  obtain ⟨T2, X2, q2, st2⟩ := X0.hget hexec hown (wk W (.fieldLink "java/lang/String" 9 "java/lang/String" "value" "[B")) (hx.mv X0.warmed.alike hh0).2.1 (g := (mkF m 1 #[.val (.ref x)] [.ref x])) rfl (rest := []) rfl (hb hbytes d1)
  have hh2 := q2.trans hh0
  have hx2 := hx.mv X2.warmed.alike hh2
  have c3 : Steps p.tables e below (s₁.setTop (entryFrame m #[.ref x] 1)) (T2.setTop (mkF m 6 #[.val (.ref x)] [.ref x, .int (Int32.ofNat V.slots.size)])) := (c1.trans (st2 _ (Steps.refl _))).trans (by
    refine X2.alen hexec hx2.2.2.2.1 rfl rfl (hb hbytes d4) ?_
    refine XS.aloadN X2.here hexec rfl (hb hbytes d5) rfl rfl ?_
    exact Steps.refl _)
  obtain ⟨v4, T4, X4, E4, g4⟩ := X2.callV hexec (Cdr.law l x cd z) hown (wks W (virtW "java/lang/String" 335 "java/lang/String" Cdr.yN Cdr.yN)) rfl (by decide) (wk W Cdr.tab) (W := 1) (Nat.le_of_ble_eq_true rfl) (Nat.le_of_ble_eq_true rfl) (Nat.le_refl _) (Nat.le_refl _) (hx2.1.fc X2.warmed.alike) hx2.1.is (g := (mkF m 6 #[.val (.ref x)] [.ref x, .int (Int32.ofNat V.slots.size)])) rfl (by rw [hml]; rfl) c3 (argsL := []) (rest := [.int (Int32.ofNat V.slots.size)]) rfl rfl (by show 2 * 0 + (1 + 0) ≤ _; decide) (hb hbytes d6) (⟨rfl, hx2.2.2.1, hx.2.2.2.2.1.cd, s1.there X2.warmed.alike hh2, hz⟩)
  obtain ⟨rfl, q4⟩ := E4
  have c5 : Steps p.tables e below (s₁.setTop (entryFrame m #[.ref x] 1)) (T4.setTop (mkF m 10 #[.val (.ref x)] [.int (Int32.ofNat V.slots.size >>> (cd &&& 31))])) := Steps.trans g4 (by
    refine ishr X4.here hexec rfl (hb hbytes d9) rfl ?_
    exact Steps.refl _)
  rw [hx.2.2.2.2.1.len v31] at c5
  exact ⟨T4, some (.int (Int32.ofNat n)), _, _, _, X4, rfl, rfl, rfl, (fun h => by cases h), ⟨rfl, q4.trans hh2⟩, fun fs hl => c5.trans (X4.ireturnOut hexec hret rfl (Or.inl rfl) (hb hbytes d10) hl)⟩
theorem pays {l : Launch} {R : Room} {p : Program} {e : Env} {below : List Frame} {s : State} {sargs : Array Value} {len W : Nat} (x t : Addr) (V : Cell) (cd : Int32) (n : Nat) (f : Nat → Int32) (z : Int32) (htab : tab.before sargs s = true) (hfr : 2 ≤ R.frames) (hlo : W + 25 ≤ R.locals) :
    Back l R p e below s sargs yN len W (fun A₁ a₁ => A₁.cells + 0 ≤ R.cells ∧ A₁.slots + 0 ≤ R.slots ∧ P x t V cd n f z a₁ A₁.U) (fun A₁ _ v₁ B₁ => E n v₁ A₁.U B₁.U ∧ B₁.locs = A₁.locs ++ [] ∧ B₁.cells = A₁.cells + 0 ∧ B₁.slots = A₁.slots + 0) :=
  (law l x t V cd n f z).pays htab hfr (by omega)
end Len
namespace IsL
def yN : MethodName := ⟨"java/lang/String", "isLatin1", "()Z"⟩
abbrev yB : ByteArray := jdk_42_method_154_code
theorem d0 : decode yB 0 = .ok (.getstatic 38, 3) := by decide +kernel
theorem d3 : decode yB 3 = .ok (.ifCond (.eq) 14, 3) := by decide +kernel
theorem d6 : decode yB 6 = .ok (.aload_n 0, 1) := by decide +kernel
theorem d7 : decode yB 7 = .ok (.getfield 15, 3) := by decide +kernel
theorem d10 : decode yB 10 = .ok (.ifCond (.ne) 7, 3) := by decide +kernel
theorem d13 : decode yB 13 = .ok (.iconst 1, 1) := by decide +kernel
theorem d14 : decode yB 14 = .ok (.goto 4, 3) := by decide +kernel
theorem d17 : decode yB 17 = .ok (.iconst 0, 1) := by decide +kernel
theorem d18 : decode yB 18 = .ok (.ireturn, 1) := by decide +kernel
def site : List Cond := [.fieldLink "java/lang/String" 38 "java/lang/String" "COMPACT_STRINGS" "Z", .fieldLink "java/lang/String" 15 "java/lang/String" "coder" "B"]
def tab : Cond := tabOf yN yB 1 (some .boolean) site
def P (x : Addr) (cd z : Int32) (args : Array Value) (s : State) : Prop := args = #[.ref x] ∧ Has x "java/lang/String" "coder" "B" (.int cd) s ∧ (cd = 0 ∨ cd = 1) ∧ StaticIs s "java/lang/String" "COMPACT_STRINGS" "Z" (.int z) ∧ ¬ z = 0
def E (cd : Int32) (r : Option Value) (s u : State) : Prop := XT.PureE (some (.int (1 - cd))) r s u
theorem law (l : Launch) (x : Addr) (cd z : Int32) : Law l yN 1 0 0 0 yB 1 (some .boolean) site (P x cd z) (E cd) [] 0 0 := by
  refine Law.of_walk (plainFor_of_name (by decide +kernel)) (by decide +kernel) (by decide +kernel) (by decide) (fun _ _ h => by rw [h.1]; rfl) (fun _ U U' hal hh h => ⟨h.1, h.2.1.mv hal hh, h.2.2.1, h.2.2.2.1.there hal hh, h.2.2.2.2⟩) (fun r U U' V V' h1 hal h2 h => XT.PureE.mv r U U' V V' h1 hal h2 h) ?_
  intro p e s m args below meth c s₁ X0 hexec hbytes hml hret hlk hnm hown hh0 W hP
  obtain ⟨rfl, hx, hc, s1, hz⟩ := hP
  have c1 : Steps p.tables e below (s₁.setTop (entryFrame m #[.ref x] 1)) (s₁.setTop (mkF m 0 #[.val (.ref x)] [])) := entry rfl
  obtain ⟨T2, X2, q2, st2⟩ := X0.sget hexec hown (wk W (.fieldLink "java/lang/String" 38 "java/lang/String" "COMPACT_STRINGS" "Z")) s1 (fun _ _ h => by rw [hh0]; exact h) (g := (mkF m 0 #[.val (.ref x)] [])) rfl (hb hbytes d0)
  have hh2 := q2.trans hh0
  have c3 : Steps p.tables e below (s₁.setTop (entryFrame m #[.ref x] 1)) (T2.setTop (mkF m 7 #[.val (.ref x)] [.ref x])) := (c1.trans (st2 _ (Steps.refl _))).trans (by
    refine XS.ifNo X2.here hexec rfl (hb hbytes d3) rfl (i0_eq_f hz) ?_
    refine XS.aloadN X2.here hexec rfl (hb hbytes d6) rfl rfl ?_
    exact Steps.refl _)
  obtain ⟨T4, X4, q4, st4⟩ := X2.hget hexec hown (wk W (.fieldLink "java/lang/String" 15 "java/lang/String" "coder" "B")) (hx.mv X2.warmed.alike hh2) (g := (mkF m 7 #[.val (.ref x)] [.ref x])) rfl (rest := []) rfl (hb hbytes d7)
  have c5 : Steps p.tables e below (s₁.setTop (entryFrame m #[.ref x] 1)) (T4.setTop (mkF m 10 #[.val (.ref x)] [.int cd])) := c3.trans (st4 _ (Steps.refl _))
  have c6 : Steps p.tables e below (s₁.setTop (entryFrame m #[.ref x] 1)) (T4.setTop (mkF m 18 #[.val (.ref x)] [.int (1 - cd)])) := by
    rcases hc with rfl | rfl
    · exact c5.trans (by
        refine XS.ifNo X4.here hexec rfl (hb hbytes d10) rfl (i0_ne_f rfl) ?_
        refine iconstV X4.here hexec rfl 1 (hb hbytes d13) (by decide) ?_
        refine XS.goto X4.here hexec rfl (pc0 := 14) rfl (hb hbytes d14) (by decide) rfl ?_
        exact Steps.refl _)
    · exact c5.trans (by
        refine XS.ifYes X4.here hexec rfl (pc0 := 10) rfl (hb hbytes d10) rfl (i0_ne_t (by decide)) (by decide) rfl ?_
        refine iconstV X4.here hexec rfl 0 (hb hbytes d17) (by decide) ?_
        exact Steps.refl _)
  exact ⟨T4, some (.int (1 - cd)), _, _, _, X4, rfl, rfl, rfl, (fun h => by cases h), ⟨rfl, q4.trans hh2⟩, fun fs hl => c6.trans (X4.ireturnOut hexec hret (by rcases hc with rfl | rfl <;> rfl) (Or.inr (Or.inl rfl)) (hb hbytes d18) hl)⟩
end IsL
namespace LChA
def yN : MethodName := ⟨"java/lang/StringLatin1", "charAt", "([BI)C"⟩
abbrev yB : ByteArray := jdk_43_method_2_code
theorem d0 : decode yB 0 = .ok (.iload_n 1, 1) := by decide +kernel
theorem d1 : decode yB 1 = .ok (.aload_n 0, 1) := by decide +kernel
theorem d2 : decode yB 2 = .ok (.arraylength, 1) := by decide +kernel
theorem d3 : decode yB 3 = .ok (.invokestatic 9, 3) := by decide +kernel
theorem d6 : decode yB 6 = .ok (.aload_n 0, 1) := by decide +kernel
theorem d7 : decode yB 7 = .ok (.iload_n 1, 1) := by decide +kernel
theorem d8 : decode yB 8 = .ok (.baload, 1) := by decide +kernel
theorem d9 : decode yB 9 = .ok (.sipush 255, 3) := by decide +kernel
theorem d12 : decode yB 12 = .ok (.iand, 1) := by decide +kernel
theorem d13 : decode yB 13 = .ok (.i2c, 1) := by decide +kernel
theorem d14 : decode yB 14 = .ok (.ireturn, 1) := by decide +kernel
def site : List Cond := [JO.Str_checkIndex.tab] ++ staticW "java/lang/StringLatin1" 9 JO.Str_checkIndex.yN
def tab : Cond := tabOf yN yB 2 (some .char) site
def P (t : Addr) (V : Cell) (i : Nat) (u : Int32) (fm : Value) (args : Array Value) (s : State) : Prop := args = #[.ref t, .int (Int32.ofNat i)] ∧ XT.Arr .byte t V s ∧ V.slots[i]? = some (.int u) ∧ (StaticIs s "jdk/internal/util/Preconditions" "SIOOBE_FORMATTER" "Ljava/util/function/BiFunction;" fm ∧ fm.isRef = true)
def E (u : Int32) (r : Option Value) (s w : State) : Prop := XT.PureE (some (.int (chr8 u))) r s w
theorem law (l : Launch) (t : Addr) (V : Cell) (i : Nat) (u : Int32) (fm : Value) : Law l yN 2 2 2 27 yB 2 (some .char) site (P t V i u fm) (E u) [] 0 0 := by
  refine Law.of_walk (plainFor_of_name (by decide +kernel)) (by decide +kernel) (by decide +kernel) (by decide) (fun _ _ h => by rw [h.1]; rfl) (fun _ U U' hal hh h => ⟨h.1, h.2.1.mv hal hh, h.2.2.1, h.2.2.2.1.there hal hh, h.2.2.2.2⟩) (fun r U U' V V' h1 hal h2 h => XT.PureE.mv r U U' V V' h1 hal h2 h) ?_
  intro p e s m args below meth c s₁ X0 hexec hbytes hml hret hlk hnm hown hh0 W hP
  obtain ⟨rfl, hV, hu, s1, rf⟩ := hP
  have v31 := hV.2.2.2
  have hi : i < V.slots.size := (Array.getElem?_eq_some_iff.mp hu).1
  have c1 : Steps p.tables e below (s₁.setTop (entryFrame m #[.ref t, .int (Int32.ofNat i)] 2)) (s₁.setTop (mkF m 0 #[.val (.ref t), .val (.int (Int32.ofNat i))] [])) := entry rfl
  have c2 : Steps p.tables e below (s₁.setTop (entryFrame m #[.ref t, .int (Int32.ofNat i)] 2)) (s₁.setTop (mkF m 3 #[.val (.ref t), .val (.int (Int32.ofNat i))] [.int (Int32.ofNat V.slots.size), .int (Int32.ofNat i)])) := c1.trans (by
    refine XS.iloadN X0.here hexec rfl (hb hbytes d0) rfl ?_
    refine XS.aloadN X0.here hexec rfl (hb hbytes d1) rfl rfl ?_
    refine X0.alen hexec (hV.mv X0.warmed.alike hh0) rfl rfl (hb hbytes d2) ?_
    exact Steps.refl _)
  obtain ⟨v3, T3, X3, E3, g3⟩ := X0.callS hexec (JO.Str_checkIndex.law l (Int32.ofNat i) (Int32.ofNat V.slots.size) fm) hown (wks W (staticW "java/lang/StringLatin1" 9 JO.Str_checkIndex.yN)) (wk W JO.Str_checkIndex.tab) (W := 0) (Nat.le_of_ble_eq_true rfl) (Nat.le_of_ble_eq_true rfl) (Nat.le_refl _) (Nat.le_refl _) (g := (mkF m 3 #[.val (.ref t), .val (.int (Int32.ofNat i))] [.int (Int32.ofNat V.slots.size), .int (Int32.ofNat i)])) rfl (by rw [hml]; rfl) c2 (argsL := [.int (Int32.ofNat i), .int (Int32.ofNat V.slots.size)]) (rest := []) rfl rfl (by show 2 * 0 + 0 ≤ _; decide) (hb hbytes d3) (⟨rfl, rf, s1.there X0.warmed.alike hh0, Int32.ofNat_not_neg (by omega), lt32 v31 hi⟩)
  obtain ⟨rfl, q3⟩ := E3
  have hh3 := q3.trans hh0
  have c4 : Steps p.tables e below (s₁.setTop (entryFrame m #[.ref t, .int (Int32.ofNat i)] 2)) (T3.setTop (mkF m 14 #[.val (.ref t), .val (.int (Int32.ofNat i))] [.int (chr8 u)])) := Steps.trans g3 (by
    refine XS.aloadN X3.here hexec rfl (hb hbytes d6) rfl rfl ?_
    refine XS.iloadN X3.here hexec rfl (hb hbytes d7) rfl ?_
    refine X3.aget hexec (hV.mv X3.warmed.alike hh3) rfl hu rfl rfl (hb hbytes d8) ?_
    refine sipushV X3.here hexec rfl 255 (hb hbytes d9) (by decide) ?_
    refine XS.iand X3.here hexec rfl (hb hbytes d12) rfl ?_
    refine i2c X3.here hexec rfl (hb hbytes d13) rfl ?_
    exact Steps.refl _)
  exact ⟨T3, some (.int (chr8 u)), _, _, _, X3, rfl, rfl, rfl, (fun h => by cases h), ⟨rfl, hh3⟩, fun fs hl => c4.trans (X3.ireturnOut hexec hret (narrow_c _) (Or.inr (Or.inr (Or.inr (Or.inl rfl)))) (hb hbytes d14) hl)⟩
end LChA
end StrChars
namespace StrChars.Road
open Jvm Sem ClassFile Op Lib Jvm.Stand Jvm.Free Jvm.Free.XT
open Jvm.Lib.Cold (StaticIs)
theorem consq {a : Array Value} {s : State} {c : Jvm.Cond} {L : List Jvm.Cond} (h0 : c.before a s = true) (h : ∀ w ∈ L, w.before a s = true) : ∀ w ∈ c :: L, w.before a s = true := fun w hw => (List.mem_cons.mp hw).elim (fun e => e ▸ h0) (h w)
/-- the words of String.length(), either coding -/
abbrev wordsLen : List Jvm.Cond := [.code Len.yN Len.yB 1 (some .int), .initialized ST, .fieldLink ST 9 ST "value" "[B", .fieldLink ST 38 ST "COMPACT_STRINGS" "Z", .fieldLink ST 15 ST "coder" "B", .code Cdr.yN Cdr.yB 1 (some .byte), .methodLink ST 335 Cdr.yN, .declares Cdr.yN, .selects ST Cdr.yN Cdr.yN, .instanceMethod Cdr.yN]
theorem tabLen_of {a : Array Value} {s : State} (h : ∀ w ∈ wordsLen, w.before a s = true) : Len.tab.before a s = true := by
  have hc : Cdr.tab.before a s = true := unparts (wk h (.code Cdr.yN Cdr.yB 1 (some .byte))) (wks h (.initialized Cdr.yN.cls :: Cdr.site))
  have q := consq hc h
  exact unparts (wk q (.code Len.yN Len.yB 1 (some .int))) (wks q (.initialized Len.yN.cls :: Len.site))
theorem movedLen {Z s : State} {a0 args : Array Value} (hZ : Z.Warmed39 s.vm) (hw : ∀ d ∈ wordsLen, d.before a0 Z = true) : ∀ d ∈ wordsLen, d.before args s = true := fun d hd => by
  have q := hw d hd
  have t : ∀ d ∈ wordsLen, d = .arrayClass .byte ∨ (d.onTables && d.keepsFace) = true := by decide +kernel
  rcases t d hd with rfl | t
  · exact RoadKit.mvA hZ q
  · exact RoadKit.mv hZ q t
/-- the bytes of the chars cs, low before high -/
def wideBytes : List Int32 → List Value
  | [] => []
  | c :: cs => .int (lo8 c) :: .int (hi8 c) :: wideBytes cs
theorem wide_lo (d : Value) : ∀ (cs : List Int32) (j : Nat), j < cs.length → (wideBytes cs).getD (2 * j) d = .int (lo8 (cs.getD j 0))
  | [], j, h => absurd h (Nat.not_lt_zero j)
  | c :: cs, 0, _ => rfl
  | c :: cs, j + 1, h => by
    have q := wide_lo d cs j (by simpa using h)
    rw [show 2 * (j + 1) = 2 * j + 1 + 1 from by omega]
    simpa [wideBytes] using q
theorem wide_hi (d : Value) : ∀ (cs : List Int32) (j : Nat), j < cs.length → (wideBytes cs).getD (2 * j + 1) d = .int (hi8 (cs.getD j 0))
  | [], j, h => absurd h (Nat.not_lt_zero j)
  | c :: cs, 0, _ => rfl
  | c :: cs, j + 1, h => by
    have q := wide_hi d cs j (by simpa using h)
    rw [show 2 * (j + 1) + 1 = 2 * j + 1 + 1 + 1 from by omega]
    simpa [wideBytes] using q
theorem low_at (d : Value) (cs : List Int32) (j : Nat) (h : j < cs.length) : (cs.map fun c => Value.int (lo8 c)).getD j d = .int (lo8 (cs.getD j 0)) := by
  simp [List.getD_eq_getElem?_getD, h]
/-- an array of N2 bytes vs codes the chars cs by the coder cd -/
def CodA (cs : List Int32) (cd N2 : Int32) (vs : List Value) : Prop := (cd = 0 ∧ N2 = Int32.ofNat cs.length ∧ vs = (cs.map fun c => Value.int (lo8 c)) ∧ ∀ c ∈ cs, ¬ 255 < c) ∨ (cd = 1 ∧ N2 = Int32.ofNat (2 * cs.length) ∧ vs = wideBytes cs ∧ ∃ c ∈ cs, 255 < c)
theorem CodA.cod {cs : List Int32} {cd N2 : Int32} {vs : List Value} {V : Cell} (h : CodA cs cd N2 vs) (hn : 2 * cs.length < 2 ^ 31) (hs : V.slots.size = N2.toNatClampNeg) (hv : RoadKit.Has V vs (.int 0)) : Cod cd cs.length (fun j => cs.getD j 0) V := by
  rcases h with ⟨rfl, rfl, rfl, h⟩ | ⟨rfl, rfl, rfl, c, hc, hw⟩
  · rw [n32 (by omega)] at hs
    exact Or.inl ⟨rfl, hs, fun j hj => ⟨by rw [hv j (by omega), low_at _ _ _ hj], by
      have e : cs.getD j 0 = cs[j] := by simp [List.getD_eq_getElem?_getD, hj]
      show ¬ 255 < cs.getD j 0
      rw [e]; exact h _ (List.getElem_mem _)⟩⟩
  · rw [n32 (by omega)] at hs
    obtain ⟨j, hj, rfl⟩ := List.getElem_of_mem hc
    exact Or.inr ⟨rfl, hs, fun j hj => ⟨by rw [hv _ (by omega), wide_lo _ _ _ hj], by rw [hv _ (by omega), wide_hi _ _ _ hj]⟩, j, hj, by
      have e : cs.getD j 0 = cs[j] := by simp [List.getD_eq_getElem?_getD, hj]
      show 255 < cs.getD j 0
      rw [e]; exact hw⟩
/-- an object of exactly java/lang/String, its two fields found: as the laws ask it -/
theorem strObj {Z U : State} {a0 : Array Value} {kI : Nat} (wi : (Jvm.Cond.instantiable ST kI).before a0 Z = true) (al : Z.vm.Alike U.vm) {x : Addr} {v0 c0 : Value} (E : RoadKit.Exa Z U.heap x ST) (V : RoadKit.Fld Z U.heap x ST "value" "[B" v0) (C : RoadKit.Fld Z U.heap x ST "coder" "B" c0) :
    ∃ (D : Cell) (fV fC : Field), Blank ST x D U ∧ Found ST "value" "[B" fV U ∧ Found ST "coder" "B" fC U ∧ D.slots[fV.slot]? = some v0 ∧ D.slots[fC.slot]? = some c0 ∧ RoadKit.slotOf Z ST "value" "[B" = fV.slot ∧ RoadKit.slotOf Z ST "coder" "B" = fC.slot := by
  obtain ⟨D, cfV, kV, iV, fV, hD, gV, stV, knV, obV, asV, slV⟩ := V
  obtain ⟨D', cfC, kC, iC, fC, hD', gC, stC, -, -, asC, slC⟩ := C
  cases hD.symm.trans hD'
  obtain ⟨D2, kD, e1, e2, e3, e4, e5⟩ := E
  cases hD.symm.trans e1
  obtain ⟨c2, k2, i1, i2, i3, -⟩ := Cond.instantiable_spec wi
  cases e2.symm.trans i1
  cases e3.symm.trans i2
  obtain ⟨kU, u1, u2⟩ := al.2.2 _ _ e3
  exact ⟨D, fV, fC, ⟨hD, ⟨knV, fun q hq => by rw [hq] at obV; cases obV⟩, by rw [al.findClass]; exact e2, kU, u1, by rw [u2]; exact i3, by rw [u2]; exact e5 i3⟩, ⟨SBG.found_only al ⟨cfV, kV, iV, gV⟩, stV⟩, ⟨SBG.found_only al ⟨cfC, kC, iC, gC⟩, stC⟩, slV, slC, by simp [RoadKit.slotOf, gV], by simp [RoadKit.slotOf, gC]⟩
theorem sta_is {Z U : State} (al : Z.vm.Alike U.vm) {C n d : String} {v : Value} (S : RoadKit.Sta Z U.heap C n d v) : StaticIs U C n d v := by
  obtain ⟨cfS, iS, kS, fS, st, cS, t1, t2, t3, t4, t5, t6, t7⟩ := S
  exact StaticIs.there (s := { Z with heap := U.heap }) ⟨cfS, iS, kS, fS, st, cS, t1, t2, t3, t4, t5, (fun q => by rw [q] at t6; cases t6), t7⟩ al rfl
/-- **length() OF SUCH A STRING** -/
theorem lenW {p : Program} {l : Launch} {e : Env} {R : Room} {s : State} {args : Array Value} {below : List Frame} {len W : Nat} {Z : State} {a0 : Array Value} {h : Heap} (hZ : Z.Warmed39 s.vm) (hw : ∀ d ∈ wordsLen, d.before a0 Z = true) {kI : Nat} (wi : (Jvm.Cond.instantiable ST kI).before a0 Z = true)
    {x t : Addr} {kb : ClassId} {cs : List Int32} {cd N2 z : Int32} {vs : List Value} (E : RoadKit.Exa Z h x ST) (V : RoadKit.Fld Z h x ST "value" "[B" (.ref t)) (C : RoadKit.Fld Z h x ST "coder" "B" (.int cd)) (K : RoadKit.Arv Z h t kb .byte N2 vs (.int 0)) (hc : CodA cs cd N2 vs) (hb : ∀ c ∈ cs, ¬ c < 0 ∧ ¬ (65535 : Int32) < c)
    (S : RoadKit.Sta Z h ST "COMPACT_STRINGS" "Z" (.int z)) (hz : ¬ z = 0) (l2 : cs.length ≤ 4000) (hfr : 2 ≤ R.frames) (hlo : W + 25 ≤ R.locals) :
    Back l R p e below s args (⟨"java/lang/String", "length", "()I"⟩ : MethodName) len W (fun P a => a = #[.ref x] ∧ P.U.heap = h ∧ P.cells + 0 ≤ R.cells ∧ P.slots + 0 ≤ R.slots)
      (fun P _ v B => ∃ L, (v = some (.int (Int32.ofNat cs.length)) ∧ L = [] ∧ B.U.heap = h) ∧ B.locs = P.locs ++ L ∧ B.cells = P.cells + 0 ∧ B.slots = P.slots + 0) := by
  obtain ⟨A, K1, K2, K3, K4, K5, K6⟩ := K
  have hcod := hc.cod (by omega) K3 K5
  intro m meth c P g ig mk a X hg hsize hdg hW hn hp'
  obtain ⟨rfl, rfl, r1, r2⟩ := hp'
  have al : Z.vm.Alike P.U.vm := hZ.alike.trans X.warmed.alike
  obtain ⟨D, fV, fC, hB, F1, F2, g1, g2, -, -⟩ := strObj wi al E V C
  have hx : Txt x t A cd cs.length (fun j => cs.getD j 0) P.U := ⟨⟨_, hB.2.2.1, D, hB.1, rfl, by cases q : D.vm <;> first | rfl | exact absurd q (hB.2.1.2 _)⟩, Has.of hB F1 g1, Has.of hB F2 g2, ⟨K1.1, State.isArrayOf_alike al K1.2.1, K1.2.2, by rcases hcod with ⟨-, q, -⟩ | ⟨-, q, -⟩ <;> omega⟩, hcod, fun j hj => by
    have e : cs.getD j 0 = cs[j] := by simp [List.getD_eq_getElem?_getD, hj]
    show ¬ cs.getD j 0 < 0 ∧ ¬ 65535 < cs.getD j 0
    rw [e]; exact hb _ (List.getElem_mem _)⟩
  obtain ⟨v, B, X', ⟨⟨hv, hh⟩, hl, hk, hs⟩, st⟩ := Len.pays x t A cd cs.length (fun j => cs.getD j 0) z (tabLen_of (movedLen hZ hw)) hfr hlo m meth c P g ig mk _ X hg hsize hdg hW hn ⟨r1, r2, rfl, hx, sta_is al S, hz⟩
  exact ⟨v, B, X', ⟨[], ⟨hv, rfl, hh⟩, hl, hk, hs⟩, st⟩
end StrChars.Road
namespace StrChars.Road
open Jvm Sem ClassFile Op Lib Jvm.Stand Jvm.Free Jvm.Free.XT
open Jvm.Lib.Cold (StaticIs)
/-- the road's facts of a String, as the laws ask it -/
theorem txt_of {Z U : State} {a0 : Array Value} {kI : Nat} (wi : (Jvm.Cond.instantiable ST kI).before a0 Z = true) (al : Z.vm.Alike U.vm) {x t : Addr} {kb : ClassId} {cs : List Int32} {cd N2 : Int32} {vs : List Value} (E : RoadKit.Exa Z U.heap x ST) (V : RoadKit.Fld Z U.heap x ST "value" "[B" (.ref t)) (C : RoadKit.Fld Z U.heap x ST "coder" "B" (.int cd)) (K : RoadKit.Arv Z U.heap t kb .byte N2 vs (.int 0)) (hc : CodA cs cd N2 vs) (hb : ∀ c ∈ cs, ¬ c < 0 ∧ ¬ (65535 : Int32) < c) (l2 : cs.length ≤ 4000) :
    ∃ A, Txt x t A cd cs.length (fun j => cs.getD j 0) U := by
  obtain ⟨A, K1, K2, K3, K4, K5, K6⟩ := K
  have hcod := hc.cod (by omega) K3 K5
  obtain ⟨D, fV, fC, hB, F1, F2, g1, g2, -, -⟩ := strObj wi al E V C
  exact ⟨A, ⟨_, hB.2.2.1, D, hB.1, rfl, by cases q : D.vm <;> first | rfl | exact absurd q (hB.2.1.2 _)⟩, Has.of hB F1 g1, Has.of hB F2 g2, ⟨K1.1, State.isArrayOf_alike al K1.2.1, K1.2.2, by rcases hcod with ⟨-, q, -⟩ | ⟨-, q, -⟩ <;> omega⟩, hcod, fun j hj => by
    have e : cs.getD j 0 = cs[j] := by simp [List.getD_eq_getElem?_getD, hj]
    show ¬ cs.getD j 0 < 0 ∧ ¬ 65535 < cs.getD j 0
    rw [e]; exact hb _ (List.getElem_mem _)⟩
end StrChars.Road
namespace StrChars
open Jvm Sem ClassFile Op Lib Jvm.Stand Jvm.Free.XT Jvm.Free.ALB Jvm.Free.JM Jvm.Free
open Jvm.Lib.Cold (StaticIs)
namespace ChN
def yN : MethodName := ⟨"java/lang/String", "charAt", "(I)C"⟩
abbrev yB : ByteArray := jdk_42_method_56_code
theorem d0 : decode yB 0 = .ok (.aload_n 0, 1) := by decide +kernel
theorem d1 : decode yB 1 = .ok (.invokevirtual 492, 3) := by decide +kernel
theorem d4 : decode yB 4 = .ok (.ifCond (.eq) 12, 3) := by decide +kernel
theorem d7 : decode yB 7 = .ok (.aload_n 0, 1) := by decide +kernel
theorem d8 : decode yB 8 = .ok (.getfield 9, 3) := by decide +kernel
theorem d11 : decode yB 11 = .ok (.iload_n 1, 1) := by decide +kernel
theorem d12 : decode yB 12 = .ok (.invokestatic 495, 3) := by decide +kernel
theorem d15 : decode yB 15 = .ok (.ireturn, 1) := by decide +kernel
def site : List Cond := [.fieldLink "java/lang/String" 9 "java/lang/String" "value" "[B", IsL.tab, LChA.tab] ++ virtW "java/lang/String" 492 "java/lang/String" IsL.yN IsL.yN ++ staticW "java/lang/String" 495 LChA.yN
def tab : Cond := tabOf yN yB 2 (some .char) site
def P (x t : Addr) (V : Cell) (n : Nat) (f : Nat → Int32) (z : Int32) (fm : Value) (i : Nat) (args : Array Value) (s : State) : Prop := args = #[.ref x, .int (Int32.ofNat i)] ∧ Txt x t V 0 n f s ∧ i < n ∧ StaticIs s "java/lang/String" "COMPACT_STRINGS" "Z" (.int z) ∧ ¬ z = 0 ∧ StaticIs s "jdk/internal/util/Preconditions" "SIOOBE_FORMATTER" "Ljava/util/function/BiFunction;" fm ∧ fm.isRef = true
def E (f : Nat → Int32) (i : Nat) (r : Option Value) (s u : State) : Prop := XT.PureE (some (.int (f i))) r s u
/-- charAt(i) of a Latin-1 String of n chars, i < n: f i -/
theorem law (l : Launch) (x t : Addr) (V : Cell) (n : Nat) (f : Nat → Int32) (z : Int32) (fm : Value) (i : Nat) : Law l yN 2 1 3 40 yB 2 (some .char) site (P x t V n f z fm i) (E f i) [] 0 0 := by
  refine Law.of_walk (plainFor_of_name (by decide +kernel)) (by decide +kernel) (by decide +kernel) (by decide) (fun _ _ h => by rw [h.1]; rfl) (fun _ U U' hal hh h => ⟨h.1, h.2.1.mv hal hh, h.2.2.1, h.2.2.2.1.there hal hh, h.2.2.2.2.1, h.2.2.2.2.2.1.there hal hh, h.2.2.2.2.2.2⟩) (fun r U U' V V' h1 hal h2 h => XT.PureE.mv r U U' V V' h1 hal h2 h) ?_
  intro p e s m args below meth c s₁ X0 hexec hbytes hml hret hlk hnm hown hh0 W hP
  obtain ⟨rfl, hx, hi, s1, hz, s3, rf⟩ := hP
  have v31 := hx.2.2.2.1.2.2.2
  have hr := hx.2.2.2.2.2 i hi
  have hx0 := hx.mv X0.warmed.alike hh0
  have c1 : Steps p.tables e below (s₁.setTop (entryFrame m #[.ref x, .int (Int32.ofNat i)] 2)) (s₁.setTop (mkF m 1 #[.val (.ref x), .val (.int (Int32.ofNat i))] [.ref x])) := Steps.trans (entry rfl) (by
    show Steps p.tables e below (s₁.setTop (mkF m 0 #[.val (.ref x), .val (.int (Int32.ofNat i))] [])) _
    refine XS.aloadN X0.here hexec rfl (hb hbytes d0) rfl rfl ?_
    exact Steps.refl _)
  obtain ⟨v2, T2, X2, E2, g2⟩ := X0.callV hexec (IsL.law l x 0 z) hown (wks W (virtW "java/lang/String" 492 "java/lang/String" IsL.yN IsL.yN)) rfl (by decide) (wk W IsL.tab) (W := 0) (Nat.le_of_ble_eq_true rfl) (Nat.le_of_ble_eq_true rfl) (Nat.le_refl _) (Nat.le_refl _) (hx0.1.fc X0.warmed.alike) hx0.1.is (g := (mkF m 1 #[.val (.ref x), .val (.int (Int32.ofNat i))] [.ref x])) rfl (by rw [hml]; rfl) c1 (argsL := []) (rest := []) rfl rfl (by show 2 * 0 + 0 ≤ _; decide) (hb hbytes d1) (⟨rfl, hx0.2.2.1, hx.2.2.2.2.1.cd, s1.there X0.warmed.alike hh0, hz⟩)
  obtain ⟨rfl, q2⟩ := E2
  have hh2 := q2.trans hh0
  have hx2 := hx.mv X2.warmed.alike hh2
  obtain ⟨-, k1, k2⟩ | ⟨k0, -⟩ := hx.2.2.2.2.1
  · have c3 : Steps p.tables e below (s₁.setTop (entryFrame m #[.ref x, .int (Int32.ofNat i)] 2)) (T2.setTop (mkF m 8 #[.val (.ref x), .val (.int (Int32.ofNat i))] [.ref x])) := Steps.trans g2 (by
      refine XS.ifNo X2.here hexec rfl (hb hbytes d4) rfl (i0_eq_f (by decide)) ?_
      refine XS.aloadN X2.here hexec rfl (hb hbytes d7) rfl rfl ?_
      exact Steps.refl _)
    obtain ⟨T4, X4, q4, st4⟩ := X2.hget hexec hown (wk W (.fieldLink "java/lang/String" 9 "java/lang/String" "value" "[B")) hx2.2.1 (g := (mkF m 8 #[.val (.ref x), .val (.int (Int32.ofNat i))] [.ref x])) rfl (rest := []) rfl (hb hbytes d8)
    have hh4 := q4.trans hh2
    have c5 : Steps p.tables e below (s₁.setTop (entryFrame m #[.ref x, .int (Int32.ofNat i)] 2)) (T4.setTop (mkF m 12 #[.val (.ref x), .val (.int (Int32.ofNat i))] [.int (Int32.ofNat i), .ref t])) := (c3.trans (st4 _ (Steps.refl _))).trans (by
      refine XS.iloadN X4.here hexec rfl (hb hbytes d11) rfl ?_
      exact Steps.refl _)
    obtain ⟨v6, T6, X6, E6, g6⟩ := X4.callS hexec (LChA.law l t V i (lo8 (f i)) fm) hown (wks W (staticW "java/lang/String" 495 LChA.yN)) (wk W LChA.tab) (W := 0) (Nat.le_of_ble_eq_true rfl) (Nat.le_of_ble_eq_true rfl) (Nat.le_refl _) (Nat.le_refl _) (g := (mkF m 12 #[.val (.ref x), .val (.int (Int32.ofNat i))] [.int (Int32.ofNat i), .ref t])) rfl (by rw [hml]; rfl) c5 (argsL := [.ref t, .int (Int32.ofNat i)]) (rest := []) rfl rfl (by show 2 * 0 + 0 ≤ _; decide) (hb hbytes d12) (⟨rfl, hx.2.2.2.1.mv X4.warmed.alike hh4, (k2 i hi).1, s3.there X4.warmed.alike hh4, rf⟩)
    obtain ⟨rfl, q6⟩ := E6
    rw [chr8_lo8 hr.1 (k2 i hi).2] at g6
    exact ⟨T6, some (.int (f i)), _, _, _, X6, rfl, rfl, rfl, (fun h => by cases h), ⟨rfl, q6.trans hh4⟩, fun fs hl => Steps.trans g6 (X6.ireturnOut hexec hret (narrow_ch hr.1 hr.2) (Or.inr (Or.inr (Or.inr (Or.inl rfl)))) (hb hbytes d15) hl)⟩
  · exact absurd k0 (by decide)
theorem pays {l : Launch} {R : Room} {p : Program} {e : Env} {below : List Frame} {s : State} {sargs : Array Value} {len W : Nat} (x t : Addr) (V : Cell) (n : Nat) (f : Nat → Int32) (z : Int32) (fm : Value) (i : Nat) (htab : tab.before sargs s = true) (hfr : 4 ≤ R.frames) (hlo : W + 53 ≤ R.locals) :
    Back l R p e below s sargs yN len W (fun A₁ a₁ => A₁.cells + 0 ≤ R.cells ∧ A₁.slots + 0 ≤ R.slots ∧ P x t V n f z fm i a₁ A₁.U) (fun A₁ _ v₁ B₁ => E f i v₁ A₁.U B₁.U ∧ B₁.locs = A₁.locs ++ [] ∧ B₁.cells = A₁.cells + 0 ∧ B₁.slots = A₁.slots + 0) :=
  (law l x t V n f z fm i).pays htab hfr (by omega)
end ChN
end StrChars
namespace StrChars.Road
open Jvm Sem ClassFile Op Lib Jvm.Stand Jvm.Free Jvm.Free.XT
open Jvm.Lib.Cold (StaticIs)
/-- the words of String.charAt(int), the Latin-1 road alone -/
abbrev wordsChN : List Jvm.Cond := [.code ChN.yN ChN.yB 2 (some .char), .initialized ST, .fieldLink ST 9 ST "value" "[B", .fieldLink ST 38 ST "COMPACT_STRINGS" "Z", .fieldLink ST 15 ST "coder" "B", .code IsL.yN IsL.yB 1 (some .boolean), .methodLink ST 492 IsL.yN, .declares IsL.yN, .selects ST IsL.yN IsL.yN, .instanceMethod IsL.yN,
  .methodLink ST 495 LChA.yN, .static LChA.yN, .code LChA.yN LChA.yB 2 (some .char), .initialized "java/lang/StringLatin1", .methodLink "java/lang/StringLatin1" 9 JO.Str_checkIndex.yN, .static JO.Str_checkIndex.yN, .code JO.Str_checkIndex.yN JO.Str_checkIndex.yB 2 none,
  .fieldLink ST 1053 "jdk/internal/util/Preconditions" "SIOOBE_FORMATTER" "Ljava/util/function/BiFunction;", .methodLink ST 1059 JC.PreCheck.yN, .static JC.PreCheck.yN, .code JC.PreCheck.yN JC.PreCheck.yB 3 (some .int), .initialized "jdk/internal/util/Preconditions"]
theorem tabChN_of {a : Array Value} {s : State} (h : ∀ w ∈ wordsChN, w.before a s = true) : ChN.tab.before a s = true := by
  have hp : JC.PreCheck.tab.before a s = true := unparts (wk h (.code JC.PreCheck.yN JC.PreCheck.yB 3 (some .int))) (wks h (.initialized JC.PreCheck.yN.cls :: JC.PreCheck.site))
  have qk := consq hp h
  have hk : JO.Str_checkIndex.tab.before a s = true := unparts (wk qk (.code JO.Str_checkIndex.yN JO.Str_checkIndex.yB 2 none)) (wks qk (.initialized JO.Str_checkIndex.yN.cls :: JO.Str_checkIndex.site))
  have ql := consq hk h
  have hl : LChA.tab.before a s = true := unparts (wk ql (.code LChA.yN LChA.yB 2 (some .char))) (wks ql (.initialized LChA.yN.cls :: LChA.site))
  have hi : IsL.tab.before a s = true := unparts (wk h (.code IsL.yN IsL.yB 1 (some .boolean))) (wks h (.initialized IsL.yN.cls :: IsL.site))
  have q := consq hi (consq hl h)
  exact unparts (wk q (.code ChN.yN ChN.yB 2 (some .char))) (wks q (.initialized ChN.yN.cls :: ChN.site))
theorem movedChN {Z s : State} {a0 args : Array Value} (hZ : Z.Warmed39 s.vm) (hw : ∀ d ∈ wordsChN, d.before a0 Z = true) : ∀ d ∈ wordsChN, d.before args s = true := fun d hd => by
  have t : ∀ d ∈ wordsChN, (d.onTables && d.keepsFace) = true := by decide +kernel
  exact RoadKit.mv hZ (hw d hd) (t d hd)
/-- **charAt(i) OF A LATIN-1 STRING**, i < n: the char -/
theorem chN {p : Program} {l : Launch} {e : Env} {R : Room} {s : State} {args : Array Value} {below : List Frame} {len W : Nat} {Z : State} {a0 : Array Value} {h : Heap} (hZ : Z.Warmed39 s.vm) (hw : ∀ d ∈ wordsChN, d.before a0 Z = true) {kI : Nat} (wi : (Jvm.Cond.instantiable ST kI).before a0 Z = true)
    {x t : Addr} {kb : ClassId} {cs : List Int32} {N2 z : Int32} {vs : List Value} {fm : Value} {i : Nat} {j : Int32} (E : RoadKit.Exa Z h x ST) (V : RoadKit.Fld Z h x ST "value" "[B" (.ref t)) (C : RoadKit.Fld Z h x ST "coder" "B" (.int 0)) (K : RoadKit.Arv Z h t kb .byte N2 vs (.int 0)) (hc : CodA cs 0 N2 vs) (hb : ∀ c ∈ cs, ¬ c < 0 ∧ ¬ (65535 : Int32) < c)
    (S : RoadKit.Sta Z h ST "COMPACT_STRINGS" "Z" (.int z)) (hz : ¬ z = 0) (F : RoadKit.Sta Z h "jdk/internal/util/Preconditions" "SIOOBE_FORMATTER" "Ljava/util/function/BiFunction;" fm) (rf : fm.isRef = true) (l2 : cs.length ≤ 4000) (hi : i < cs.length) (hj : j = Int32.ofNat i) (hfr : 4 ≤ R.frames) (hlo : W + 53 ≤ R.locals) :
    Back l R p e below s args (⟨"java/lang/String", "charAt", "(I)C"⟩ : MethodName) len W (fun P a => a = #[.ref x, .int j] ∧ P.U.heap = h ∧ P.cells + 0 ≤ R.cells ∧ P.slots + 0 ≤ R.slots)
      (fun P _ v B => ∃ L, (v = some (.int (cs.getD i 0)) ∧ L = [] ∧ B.U.heap = h) ∧ B.locs = P.locs ++ L ∧ B.cells = P.cells + 0 ∧ B.slots = P.slots + 0) := by
  subst hj
  intro m meth c P g ig mk a X hg hsize hdg hW hn hp'
  obtain ⟨rfl, rfl, r1, r2⟩ := hp'
  have al : Z.vm.Alike P.U.vm := hZ.alike.trans X.warmed.alike
  obtain ⟨A, hx⟩ := txt_of wi al E V C K hc hb l2
  obtain ⟨v, B, X', ⟨⟨hv, hh⟩, hl, hk, hs⟩, st⟩ := ChN.pays x t A cs.length (fun j => cs.getD j 0) z fm i (tabChN_of (movedChN hZ hw)) hfr hlo m meth c P g ig mk _ X hg hsize hdg hW hn ⟨r1, r2, rfl, hx, hi, sta_is al S, hz, sta_is al F, rf⟩
  exact ⟨v, B, X', ⟨[], ⟨hv, rfl, hh⟩, hl, hk, hs⟩, st⟩
/-- what backV says of its String, as the contracts of this text ask it: cs's low bytes, coder 0 -/
theorem codOf {cs : List Int32} {n : Nat} (hn : cs.length = n) (hb : ∀ c ∈ cs, ¬ 255 < c) : CodA cs 0 (Int32.ofNat n) ((cs.map lo8).map Value.int) := Or.inl ⟨rfl, by rw [hn], by simp [List.map_map, Function.comp_def], hb⟩
end StrChars.Road
end Jvm.Pilot.@@N@@

namespace Jvm.Pilot.@@N@@
open Jvm Jvm.ClassFile Sem Op Lib Jvm.Free Jvm.Stand Jvm.LawKit Jvm.RoadKit Bundle Jvm.OwnKit Jvm.Pilot.@@N@@.Jvm.D
theorem b3_0 : Dc jdk_42_method_149_code 0 (.aload_n 0) 1 1 := ⟨by decide +kernel, rfl⟩
theorem b3_1 : Dc jdk_42_method_149_code 1 (.invokespecial 1) 3 4 := ⟨by decide +kernel, rfl⟩
theorem b3_4 : Dc jdk_42_method_149_code 4 (.iload_n 3) 1 5 := ⟨by decide +kernel, rfl⟩
theorem b3_5 : Db jdk_42_method_149_code 5 (.ifCond .ne 22) (22) 8 27 := ⟨by decide +kernel, rfl, by decide, by decide⟩
theorem b3_8 : Dc jdk_42_method_149_code 8 (.aload_n 0) 1 9 := ⟨by decide +kernel, rfl⟩
theorem b3_9 : Dc jdk_42_method_149_code 9 (.ldc 7) 2 11 := ⟨by decide +kernel, rfl⟩
theorem b3_11 : Dc jdk_42_method_149_code 11 (.getfield 9) 3 14 := ⟨by decide +kernel, rfl⟩
theorem b3_14 : Dc jdk_42_method_149_code 14 (.putfield 9) 3 17 := ⟨by decide +kernel, rfl⟩
theorem b3_17 : Dc jdk_42_method_149_code 17 (.aload_n 0) 1 18 := ⟨by decide +kernel, rfl⟩
theorem b3_18 : Dc jdk_42_method_149_code 18 (.ldc 7) 2 20 := ⟨by decide +kernel, rfl⟩
theorem b3_20 : Dc jdk_42_method_149_code 20 (.getfield 15) 3 23 := ⟨by decide +kernel, rfl⟩
theorem b3_23 : Dc jdk_42_method_149_code 23 (.putfield 15) 3 26 := ⟨by decide +kernel, rfl⟩
theorem b3_26 : Dc jdk_42_method_149_code 26 (.return_) 1 27 := ⟨by decide +kernel, rfl⟩
theorem b2_0 : Dc jdk_42_method_3_code 0 (.aload_n 0) 1 1 := ⟨by decide +kernel, rfl⟩
theorem b2_1 : Dc jdk_42_method_3_code 1 (.aload_n 1) 1 2 := ⟨by decide +kernel, rfl⟩
theorem b2_2 : Dc jdk_42_method_3_code 2 (.iconst 0) 1 3 := ⟨by decide +kernel, rfl⟩
theorem b2_3 : Dc jdk_42_method_3_code 3 (.aload_n 1) 1 4 := ⟨by decide +kernel, rfl⟩
theorem b2_4 : Dc jdk_42_method_3_code 4 (.arraylength) 1 5 := ⟨by decide +kernel, rfl⟩
theorem b2_5 : Dc jdk_42_method_3_code 5 (.aconst_null) 1 6 := ⟨by decide +kernel, rfl⟩
theorem b2_6 : Dc jdk_42_method_3_code 6 (.invokespecial 27) 3 9 := ⟨by decide +kernel, rfl⟩
theorem b2_9 : Dc jdk_42_method_3_code 9 (.return_) 1 10 := ⟨by decide +kernel, rfl⟩
theorem b0_0 : Dc method_3_code 0 (.iload_n 0) 1 1 := ⟨by decide +kernel, rfl⟩
theorem b0_1 : Dc method_3_code 1 (.sipush 256) 3 4 := ⟨by decide +kernel, rfl⟩
theorem b0_4 : Dc method_3_code 4 (.iand) 1 5 := ⟨by decide +kernel, rfl⟩
theorem b0_5 : Db method_3_code 5 (.ifCond .eq 32) (32) 8 37 := ⟨by decide +kernel, rfl, by decide, by decide⟩
theorem b0_37 : Dc method_3_code 37 (.iload_n 0) 1 38 := ⟨by decide +kernel, rfl⟩
theorem b0_38 : Dc method_3_code 38 (.sipush 255) 3 41 := ⟨by decide +kernel, rfl⟩
theorem b0_41 : Dc method_3_code 41 (.iand) 1 42 := ⟨by decide +kernel, rfl⟩
theorem b0_42 : Dc method_3_code 42 (.i2c) 1 43 := ⟨by decide +kernel, rfl⟩
theorem b0_43 : Dc method_3_code 43 (.ireturn) 1 44 := ⟨by decide +kernel, rfl⟩
theorem b0_8 : Dc method_3_code 8 (.iload_n 0) 1 9 := ⟨by decide +kernel, rfl⟩
theorem b0_9 : Dc method_3_code 9 (.bipush 9) 2 11 := ⟨by decide +kernel, rfl⟩
theorem b0_11 : Dc method_3_code 11 (.iushr) 1 12 := ⟨by decide +kernel, rfl⟩
theorem b0_12 : Dc method_3_code 12 (.bipush 15) 2 14 := ⟨by decide +kernel, rfl⟩
theorem b0_14 : Dc method_3_code 14 (.iand) 1 15 := ⟨by decide +kernel, rfl⟩
theorem b0_15 : Dc method_3_code 15 (.istore_n 1) 1 16 := ⟨by decide +kernel, rfl⟩
theorem b0_16 : Dc method_3_code 16 (.iload_n 1) 1 17 := ⟨by decide +kernel, rfl⟩
theorem b0_17 : Dc method_3_code 17 (.bipush 10) 2 19 := ⟨by decide +kernel, rfl⟩
theorem b0_19 : Db method_3_code 19 (.if_icmp .ge 9) (9) 22 28 := ⟨by decide +kernel, rfl, by decide, by decide⟩
theorem b0_28 : Dc method_3_code 28 (.iload_n 1) 1 29 := ⟨by decide +kernel, rfl⟩
theorem b0_29 : Dc method_3_code 29 (.bipush 10) 2 31 := ⟨by decide +kernel, rfl⟩
theorem b0_31 : Db method_3_code 31 (.if_icmp .ne 6) (6) 34 37 := ⟨by decide +kernel, rfl, by decide, by decide⟩
theorem b0_34 : Dc method_3_code 34 (.bipush 46) 2 36 := ⟨by decide +kernel, rfl⟩
theorem b0_36 : Dc method_3_code 36 (.ireturn) 1 37 := ⟨by decide +kernel, rfl⟩
theorem b0_22 : Dc method_3_code 22 (.bipush 48) 2 24 := ⟨by decide +kernel, rfl⟩
theorem b0_24 : Dc method_3_code 24 (.iload_n 1) 1 25 := ⟨by decide +kernel, rfl⟩
theorem b0_25 : Dc method_3_code 25 (.iadd) 1 26 := ⟨by decide +kernel, rfl⟩
theorem b0_26 : Dc method_3_code 26 (.i2c) 1 27 := ⟨by decide +kernel, rfl⟩
theorem b0_27 : Dc method_3_code 27 (.ireturn) 1 28 := ⟨by decide +kernel, rfl⟩
theorem b12_0 : Dc method_5_code 0 (.iload_n 0) 1 1 := ⟨by decide +kernel, rfl⟩
theorem b12_1 : Dc method_5_code 1 (.bipush 48) 2 3 := ⟨by decide +kernel, rfl⟩
theorem b12_3 : Db method_5_code 3 (.if_icmp .lt 13) (13) 6 16 := ⟨by decide +kernel, rfl, by decide, by decide⟩
theorem b12_16 : Dc method_5_code 16 (.iconst 0) 1 17 := ⟨by decide +kernel, rfl⟩
theorem b12_17 : Dc method_5_code 17 (.ireturn) 1 18 := ⟨by decide +kernel, rfl⟩
theorem b12_6 : Dc method_5_code 6 (.iload_n 0) 1 7 := ⟨by decide +kernel, rfl⟩
theorem b12_7 : Dc method_5_code 7 (.bipush 57) 2 9 := ⟨by decide +kernel, rfl⟩
theorem b12_9 : Db method_5_code 9 (.if_icmp .gt 7) (7) 12 16 := ⟨by decide +kernel, rfl, by decide, by decide⟩
theorem b12_12 : Dc method_5_code 12 (.iconst 1) 1 13 := ⟨by decide +kernel, rfl⟩
theorem b12_13 : Db method_5_code 13 (.goto 4) (4) 16 17 := ⟨by decide +kernel, rfl, by decide, by decide⟩
theorem b18_0 : Dc method_6_code 0 (.iload_n 0) 1 1 := ⟨by decide +kernel, rfl⟩
theorem b18_1 : Dc method_6_code 1 (.invokestatic 32) 3 4 := ⟨by decide +kernel, rfl⟩
theorem b18_4 : Db method_6_code 4 (.ifCond .ne 9) (9) 7 13 := ⟨by decide +kernel, rfl, by decide, by decide⟩
theorem b18_13 : Dc method_6_code 13 (.iconst 1) 1 14 := ⟨by decide +kernel, rfl⟩
theorem b18_14 : Db method_6_code 14 (.goto 4) (4) 17 18 := ⟨by decide +kernel, rfl, by decide, by decide⟩
theorem b18_18 : Dc method_6_code 18 (.ireturn) 1 19 := ⟨by decide +kernel, rfl⟩
theorem b18_7 : Dc method_6_code 7 (.iload_n 0) 1 8 := ⟨by decide +kernel, rfl⟩
theorem b18_8 : Dc method_6_code 8 (.bipush 46) 2 10 := ⟨by decide +kernel, rfl⟩
theorem b18_10 : Db method_6_code 10 (.if_icmp .ne 7) (7) 13 17 := ⟨by decide +kernel, rfl, by decide, by decide⟩
theorem b18_17 : Dc method_6_code 17 (.iconst 0) 1 18 := ⟨by decide +kernel, rfl⟩
theorem b19_0 : Dc method_7_code 0 (.iload_n 0) 1 1 := ⟨by decide +kernel, rfl⟩
theorem b19_1 : Dc method_7_code 1 (.bipush 46) 2 3 := ⟨by decide +kernel, rfl⟩
theorem b19_3 : Db method_7_code 3 (.if_icmp .ne 13) (13) 6 16 := ⟨by decide +kernel, rfl, by decide, by decide⟩
theorem b19_16 : Dc method_7_code 16 (.iconst 0) 1 17 := ⟨by decide +kernel, rfl⟩
theorem b19_17 : Dc method_7_code 17 (.ireturn) 1 18 := ⟨by decide +kernel, rfl⟩
theorem b19_6 : Dc method_7_code 6 (.iload_n 1) 1 7 := ⟨by decide +kernel, rfl⟩
theorem b19_7 : Dc method_7_code 7 (.bipush 46) 2 9 := ⟨by decide +kernel, rfl⟩
theorem b19_9 : Db method_7_code 9 (.if_icmp .ne 7) (7) 12 16 := ⟨by decide +kernel, rfl, by decide, by decide⟩
theorem b19_12 : Dc method_7_code 12 (.iconst 1) 1 13 := ⟨by decide +kernel, rfl⟩
theorem b19_13 : Db method_7_code 13 (.goto 4) (4) 16 17 := ⟨by decide +kernel, rfl, by decide, by decide⟩
theorem b1_0 : Dc method_4_code 0 (.iload_n 0) 1 1 := ⟨by decide +kernel, rfl⟩
theorem b1_1 : Db method_4_code 1 (.ifCond .ne 14) (14) 4 15 := ⟨by decide +kernel, rfl, by decide, by decide⟩
theorem b1_4 : Dc method_4_code 4 (.new 13) 3 7 := ⟨by decide +kernel, rfl⟩
theorem b1_7 : Dc method_4_code 7 (.dup) 1 8 := ⟨by decide +kernel, rfl⟩
theorem b1_8 : Dc method_4_code 8 (.iconst 0) 1 9 := ⟨by decide +kernel, rfl⟩
theorem b1_9 : Dc method_4_code 9 (.newarray .char) 2 11 := ⟨by decide +kernel, rfl⟩
theorem b1_11 : Dc method_4_code 11 (.invokespecial 15) 3 14 := ⟨by decide +kernel, rfl⟩
theorem b1_14 : Dc method_4_code 14 (.areturn) 1 15 := ⟨by decide +kernel, rfl⟩
theorem b1_15 : Dc method_4_code 15 (.iload_n 0) 1 16 := ⟨by decide +kernel, rfl⟩
theorem b1_16 : Dc method_4_code 16 (.iconst 1) 1 17 := ⟨by decide +kernel, rfl⟩
theorem b1_17 : Db method_4_code 17 (.if_icmp .ne 18) (18) 20 35 := ⟨by decide +kernel, rfl, by decide, by decide⟩
theorem b1_20 : Dc method_4_code 20 (.new 13) 3 23 := ⟨by decide +kernel, rfl⟩
theorem b1_23 : Dc method_4_code 23 (.dup) 1 24 := ⟨by decide +kernel, rfl⟩
theorem b1_24 : Dc method_4_code 24 (.iconst 1) 1 25 := ⟨by decide +kernel, rfl⟩
theorem b1_25 : Dc method_4_code 25 (.newarray .char) 2 27 := ⟨by decide +kernel, rfl⟩
theorem b1_27 : Dc method_4_code 27 (.dup) 1 28 := ⟨by decide +kernel, rfl⟩
theorem b1_28 : Dc method_4_code 28 (.iconst 0) 1 29 := ⟨by decide +kernel, rfl⟩
theorem b1_29 : Dc method_4_code 29 (.iload_n 1) 1 30 := ⟨by decide +kernel, rfl⟩
theorem b1_30 : Dc method_4_code 30 (.castore) 1 31 := ⟨by decide +kernel, rfl⟩
theorem b1_31 : Dc method_4_code 31 (.invokespecial 15) 3 34 := ⟨by decide +kernel, rfl⟩
theorem b1_34 : Dc method_4_code 34 (.areturn) 1 35 := ⟨by decide +kernel, rfl⟩
theorem b1_35 : Dc method_4_code 35 (.iload_n 0) 1 36 := ⟨by decide +kernel, rfl⟩
theorem b1_36 : Dc method_4_code 36 (.iconst 2) 1 37 := ⟨by decide +kernel, rfl⟩
theorem b1_37 : Db method_4_code 37 (.if_icmp .ne 22) (22) 40 59 := ⟨by decide +kernel, rfl, by decide, by decide⟩
theorem b1_40 : Dc method_4_code 40 (.new 13) 3 43 := ⟨by decide +kernel, rfl⟩
theorem b1_43 : Dc method_4_code 43 (.dup) 1 44 := ⟨by decide +kernel, rfl⟩
theorem b1_44 : Dc method_4_code 44 (.iconst 2) 1 45 := ⟨by decide +kernel, rfl⟩
theorem b1_45 : Dc method_4_code 45 (.newarray .char) 2 47 := ⟨by decide +kernel, rfl⟩
theorem b1_47 : Dc method_4_code 47 (.dup) 1 48 := ⟨by decide +kernel, rfl⟩
theorem b1_48 : Dc method_4_code 48 (.iconst 0) 1 49 := ⟨by decide +kernel, rfl⟩
theorem b1_49 : Dc method_4_code 49 (.iload_n 1) 1 50 := ⟨by decide +kernel, rfl⟩
theorem b1_50 : Dc method_4_code 50 (.castore) 1 51 := ⟨by decide +kernel, rfl⟩
theorem b1_51 : Dc method_4_code 51 (.dup) 1 52 := ⟨by decide +kernel, rfl⟩
theorem b1_52 : Dc method_4_code 52 (.iconst 1) 1 53 := ⟨by decide +kernel, rfl⟩
theorem b1_53 : Dc method_4_code 53 (.iload_n 2) 1 54 := ⟨by decide +kernel, rfl⟩
theorem b1_54 : Dc method_4_code 54 (.castore) 1 55 := ⟨by decide +kernel, rfl⟩
theorem b1_55 : Dc method_4_code 55 (.invokespecial 15) 3 58 := ⟨by decide +kernel, rfl⟩
theorem b1_58 : Dc method_4_code 58 (.areturn) 1 59 := ⟨by decide +kernel, rfl⟩
theorem b1_59 : Dc method_4_code 59 (.iload_n 0) 1 60 := ⟨by decide +kernel, rfl⟩
theorem b1_60 : Dc method_4_code 60 (.iconst 3) 1 61 := ⟨by decide +kernel, rfl⟩
theorem b1_61 : Db method_4_code 61 (.if_icmp .ne 26) (26) 64 87 := ⟨by decide +kernel, rfl, by decide, by decide⟩
theorem b1_64 : Dc method_4_code 64 (.new 13) 3 67 := ⟨by decide +kernel, rfl⟩
theorem b1_67 : Dc method_4_code 67 (.dup) 1 68 := ⟨by decide +kernel, rfl⟩
theorem b1_68 : Dc method_4_code 68 (.iconst 3) 1 69 := ⟨by decide +kernel, rfl⟩
theorem b1_69 : Dc method_4_code 69 (.newarray .char) 2 71 := ⟨by decide +kernel, rfl⟩
theorem b1_71 : Dc method_4_code 71 (.dup) 1 72 := ⟨by decide +kernel, rfl⟩
theorem b1_72 : Dc method_4_code 72 (.iconst 0) 1 73 := ⟨by decide +kernel, rfl⟩
theorem b1_73 : Dc method_4_code 73 (.iload_n 1) 1 74 := ⟨by decide +kernel, rfl⟩
theorem b1_74 : Dc method_4_code 74 (.castore) 1 75 := ⟨by decide +kernel, rfl⟩
theorem b1_75 : Dc method_4_code 75 (.dup) 1 76 := ⟨by decide +kernel, rfl⟩
theorem b1_76 : Dc method_4_code 76 (.iconst 1) 1 77 := ⟨by decide +kernel, rfl⟩
theorem b1_77 : Dc method_4_code 77 (.iload_n 2) 1 78 := ⟨by decide +kernel, rfl⟩
theorem b1_78 : Dc method_4_code 78 (.castore) 1 79 := ⟨by decide +kernel, rfl⟩
theorem b1_79 : Dc method_4_code 79 (.dup) 1 80 := ⟨by decide +kernel, rfl⟩
theorem b1_80 : Dc method_4_code 80 (.iconst 2) 1 81 := ⟨by decide +kernel, rfl⟩
theorem b1_81 : Dc method_4_code 81 (.iload_n 3) 1 82 := ⟨by decide +kernel, rfl⟩
theorem b1_82 : Dc method_4_code 82 (.castore) 1 83 := ⟨by decide +kernel, rfl⟩
theorem b1_83 : Dc method_4_code 83 (.invokespecial 15) 3 86 := ⟨by decide +kernel, rfl⟩
theorem b1_86 : Dc method_4_code 86 (.areturn) 1 87 := ⟨by decide +kernel, rfl⟩
theorem b1_87 : Dc method_4_code 87 (.new 13) 3 90 := ⟨by decide +kernel, rfl⟩
theorem b1_90 : Dc method_4_code 90 (.dup) 1 91 := ⟨by decide +kernel, rfl⟩
theorem b1_91 : Dc method_4_code 91 (.iconst 4) 1 92 := ⟨by decide +kernel, rfl⟩
theorem b1_92 : Dc method_4_code 92 (.newarray .char) 2 94 := ⟨by decide +kernel, rfl⟩
theorem b1_94 : Dc method_4_code 94 (.dup) 1 95 := ⟨by decide +kernel, rfl⟩
theorem b1_95 : Dc method_4_code 95 (.iconst 0) 1 96 := ⟨by decide +kernel, rfl⟩
theorem b1_96 : Dc method_4_code 96 (.iload_n 1) 1 97 := ⟨by decide +kernel, rfl⟩
theorem b1_97 : Dc method_4_code 97 (.castore) 1 98 := ⟨by decide +kernel, rfl⟩
theorem b1_98 : Dc method_4_code 98 (.dup) 1 99 := ⟨by decide +kernel, rfl⟩
theorem b1_99 : Dc method_4_code 99 (.iconst 1) 1 100 := ⟨by decide +kernel, rfl⟩
theorem b1_100 : Dc method_4_code 100 (.iload_n 2) 1 101 := ⟨by decide +kernel, rfl⟩
theorem b1_101 : Dc method_4_code 101 (.castore) 1 102 := ⟨by decide +kernel, rfl⟩
theorem b1_102 : Dc method_4_code 102 (.dup) 1 103 := ⟨by decide +kernel, rfl⟩
theorem b1_103 : Dc method_4_code 103 (.iconst 2) 1 104 := ⟨by decide +kernel, rfl⟩
theorem b1_104 : Dc method_4_code 104 (.iload_n 3) 1 105 := ⟨by decide +kernel, rfl⟩
theorem b1_105 : Dc method_4_code 105 (.castore) 1 106 := ⟨by decide +kernel, rfl⟩
theorem b1_106 : Dc method_4_code 106 (.dup) 1 107 := ⟨by decide +kernel, rfl⟩
theorem b1_107 : Dc method_4_code 107 (.iconst 3) 1 108 := ⟨by decide +kernel, rfl⟩
theorem b1_108 : Dc method_4_code 108 (.iload 4) 2 110 := ⟨by decide +kernel, rfl⟩
theorem b1_110 : Dc method_4_code 110 (.castore) 1 111 := ⟨by decide +kernel, rfl⟩
theorem b1_111 : Dc method_4_code 111 (.invokespecial 15) 3 114 := ⟨by decide +kernel, rfl⟩
theorem b1_114 : Dc method_4_code 114 (.areturn) 1 115 := ⟨by decide +kernel, rfl⟩
theorem b5_0 : Dc method_8_code 0 (.iload_n 1) 1 1 := ⟨by decide +kernel, rfl⟩
theorem b5_1 : Db method_8_code 1 (.ifCond .ne 5) (5) 4 6 := ⟨by decide +kernel, rfl, by decide, by decide⟩
theorem b5_4 : Dc method_8_code 4 (.iload_n 0) 1 5 := ⟨by decide +kernel, rfl⟩
theorem b5_5 : Dc method_8_code 5 (.ireturn) 1 6 := ⟨by decide +kernel, rfl⟩
theorem b5_6 : Dc method_8_code 6 (.iload_n 1) 1 7 := ⟨by decide +kernel, rfl⟩
theorem b5_7 : Dc method_8_code 7 (.iconst 1) 1 8 := ⟨by decide +kernel, rfl⟩
theorem b5_8 : Db method_8_code 8 (.if_icmp .ne 7) (7) 11 15 := ⟨by decide +kernel, rfl, by decide, by decide⟩
theorem b5_11 : Dc method_8_code 11 (.iload_n 2) 1 12 := ⟨by decide +kernel, rfl⟩
theorem b5_12 : Db method_8_code 12 (.goto 24) (24) 15 36 := ⟨by decide +kernel, rfl, by decide, by decide⟩
theorem b5_36 : Dc method_8_code 36 (.istore 6) 2 38 := ⟨by decide +kernel, rfl⟩
theorem b5_38 : Dc method_8_code 38 (.iload_n 0) 1 39 := ⟨by decide +kernel, rfl⟩
theorem b5_39 : Db method_8_code 39 (.ifCond .ne 12) (12) 42 51 := ⟨by decide +kernel, rfl, by decide, by decide⟩
theorem b5_42 : Dc method_8_code 42 (.iload_n 2) 1 43 := ⟨by decide +kernel, rfl⟩
theorem b5_43 : Dc method_8_code 43 (.invokestatic 32) 3 46 := ⟨by decide +kernel, rfl⟩
theorem b5_46 : Db method_8_code 46 (.ifCond .ne 5) (5) 49 51 := ⟨by decide +kernel, rfl, by decide, by decide⟩
theorem b5_51 : Dc method_8_code 51 (.iload 6) 2 53 := ⟨by decide +kernel, rfl⟩
theorem b5_53 : Dc method_8_code 53 (.invokestatic 32) 3 56 := ⟨by decide +kernel, rfl⟩
theorem b5_56 : Db method_8_code 56 (.ifCond .ne 5) (5) 59 61 := ⟨by decide +kernel, rfl, by decide, by decide⟩
theorem b5_61 : Dc method_8_code 61 (.iload_n 2) 1 62 := ⟨by decide +kernel, rfl⟩
theorem b5_62 : Dc method_8_code 62 (.invokestatic 36) 3 65 := ⟨by decide +kernel, rfl⟩
theorem b5_65 : Db method_8_code 65 (.ifCond .ne 5) (5) 68 70 := ⟨by decide +kernel, rfl, by decide, by decide⟩
theorem b5_70 : Dc method_8_code 70 (.iload_n 1) 1 71 := ⟨by decide +kernel, rfl⟩
theorem b5_71 : Dc method_8_code 71 (.iconst 2) 1 72 := ⟨by decide +kernel, rfl⟩
theorem b5_72 : Db method_8_code 72 (.if_icmp .lt 20) (20) 75 92 := ⟨by decide +kernel, rfl, by decide, by decide⟩
theorem b5_92 : Dc method_8_code 92 (.iload_n 1) 1 93 := ⟨by decide +kernel, rfl⟩
theorem b5_93 : Dc method_8_code 93 (.iconst 3) 1 94 := ⟨by decide +kernel, rfl⟩
theorem b5_94 : Db method_8_code 94 (.if_icmp .lt 22) (22) 97 116 := ⟨by decide +kernel, rfl, by decide, by decide⟩
theorem b5_116 : Dc method_8_code 116 (.iload_n 1) 1 117 := ⟨by decide +kernel, rfl⟩
theorem b5_117 : Dc method_8_code 117 (.iconst 4) 1 118 := ⟨by decide +kernel, rfl⟩
theorem b5_118 : Db method_8_code 118 (.if_icmp .lt 23) (23) 121 141 := ⟨by decide +kernel, rfl, by decide, by decide⟩
theorem b5_141 : Dc method_8_code 141 (.iconst 1) 1 142 := ⟨by decide +kernel, rfl⟩
theorem b5_142 : Dc method_8_code 142 (.ireturn) 1 143 := ⟨by decide +kernel, rfl⟩
theorem b5_49 : Dc method_8_code 49 (.iconst 0) 1 50 := ⟨by decide +kernel, rfl⟩
theorem b5_50 : Dc method_8_code 50 (.ireturn) 1 51 := ⟨by decide +kernel, rfl⟩
theorem b5_15 : Dc method_8_code 15 (.iload_n 1) 1 16 := ⟨by decide +kernel, rfl⟩
theorem b5_16 : Dc method_8_code 16 (.iconst 2) 1 17 := ⟨by decide +kernel, rfl⟩
theorem b5_17 : Db method_8_code 17 (.if_icmp .ne 7) (7) 20 24 := ⟨by decide +kernel, rfl, by decide, by decide⟩
theorem b5_20 : Dc method_8_code 20 (.iload_n 3) 1 21 := ⟨by decide +kernel, rfl⟩
theorem b5_21 : Db method_8_code 21 (.goto 15) (15) 24 36 := ⟨by decide +kernel, rfl, by decide, by decide⟩
theorem b5_75 : Dc method_8_code 75 (.iload_n 3) 1 76 := ⟨by decide +kernel, rfl⟩
theorem b5_76 : Dc method_8_code 76 (.invokestatic 36) 3 79 := ⟨by decide +kernel, rfl⟩
theorem b5_79 : Db method_8_code 79 (.ifCond .eq 11) (11) 82 90 := ⟨by decide +kernel, rfl, by decide, by decide⟩
theorem b5_82 : Dc method_8_code 82 (.iload_n 2) 1 83 := ⟨by decide +kernel, rfl⟩
theorem b5_83 : Dc method_8_code 83 (.iload_n 3) 1 84 := ⟨by decide +kernel, rfl⟩
theorem b5_84 : Dc method_8_code 84 (.invokestatic 39) 3 87 := ⟨by decide +kernel, rfl⟩
theorem b5_87 : Db method_8_code 87 (.ifCond .eq 5) (5) 90 92 := ⟨by decide +kernel, rfl, by decide, by decide⟩
theorem b5_59 : Dc method_8_code 59 (.iconst 0) 1 60 := ⟨by decide +kernel, rfl⟩
theorem b5_60 : Dc method_8_code 60 (.ireturn) 1 61 := ⟨by decide +kernel, rfl⟩
theorem b5_24 : Dc method_8_code 24 (.iload_n 1) 1 25 := ⟨by decide +kernel, rfl⟩
theorem b5_25 : Dc method_8_code 25 (.iconst 3) 1 26 := ⟨by decide +kernel, rfl⟩
theorem b5_26 : Db method_8_code 26 (.if_icmp .ne 8) (8) 29 34 := ⟨by decide +kernel, rfl, by decide, by decide⟩
theorem b5_29 : Dc method_8_code 29 (.iload 4) 2 31 := ⟨by decide +kernel, rfl⟩
theorem b5_31 : Db method_8_code 31 (.goto 5) (5) 34 36 := ⟨by decide +kernel, rfl, by decide, by decide⟩
theorem b5_97 : Dc method_8_code 97 (.iload 4) 2 99 := ⟨by decide +kernel, rfl⟩
theorem b5_99 : Dc method_8_code 99 (.invokestatic 36) 3 102 := ⟨by decide +kernel, rfl⟩
theorem b5_102 : Db method_8_code 102 (.ifCond .eq 12) (12) 105 114 := ⟨by decide +kernel, rfl, by decide, by decide⟩
theorem b5_105 : Dc method_8_code 105 (.iload_n 3) 1 106 := ⟨by decide +kernel, rfl⟩
theorem b5_106 : Dc method_8_code 106 (.iload 4) 2 108 := ⟨by decide +kernel, rfl⟩
theorem b5_108 : Dc method_8_code 108 (.invokestatic 39) 3 111 := ⟨by decide +kernel, rfl⟩
theorem b5_111 : Db method_8_code 111 (.ifCond .eq 5) (5) 114 116 := ⟨by decide +kernel, rfl, by decide, by decide⟩
theorem b5_90 : Dc method_8_code 90 (.iconst 0) 1 91 := ⟨by decide +kernel, rfl⟩
theorem b5_91 : Dc method_8_code 91 (.ireturn) 1 92 := ⟨by decide +kernel, rfl⟩
theorem b5_34 : Dc method_8_code 34 (.iload 5) 2 36 := ⟨by decide +kernel, rfl⟩
theorem b5_121 : Dc method_8_code 121 (.iload 5) 2 123 := ⟨by decide +kernel, rfl⟩
theorem b5_123 : Dc method_8_code 123 (.invokestatic 36) 3 126 := ⟨by decide +kernel, rfl⟩
theorem b5_126 : Db method_8_code 126 (.ifCond .eq 13) (13) 129 139 := ⟨by decide +kernel, rfl, by decide, by decide⟩
theorem b5_129 : Dc method_8_code 129 (.iload 4) 2 131 := ⟨by decide +kernel, rfl⟩
theorem b5_131 : Dc method_8_code 131 (.iload 5) 2 133 := ⟨by decide +kernel, rfl⟩
theorem b5_133 : Dc method_8_code 133 (.invokestatic 39) 3 136 := ⟨by decide +kernel, rfl⟩
theorem b5_136 : Db method_8_code 136 (.ifCond .eq 5) (5) 139 141 := ⟨by decide +kernel, rfl, by decide, by decide⟩
theorem b5_114 : Dc method_8_code 114 (.iconst 0) 1 115 := ⟨by decide +kernel, rfl⟩
theorem b5_115 : Dc method_8_code 115 (.ireturn) 1 116 := ⟨by decide +kernel, rfl⟩
theorem b5_68 : Dc method_8_code 68 (.iconst 0) 1 69 := ⟨by decide +kernel, rfl⟩
theorem b5_69 : Dc method_8_code 69 (.ireturn) 1 70 := ⟨by decide +kernel, rfl⟩
theorem b6_0 : Dc prog_11_method_2_code 0 (.aload_n 0) 1 1 := ⟨by decide +kernel, rfl⟩
theorem b6_1 : Dc prog_11_method_2_code 1 (.invokevirtual 7) 3 4 := ⟨by decide +kernel, rfl⟩
theorem b6_4 : Dc prog_11_method_2_code 4 (.bipush 64) 2 6 := ⟨by decide +kernel, rfl⟩
theorem b6_6 : Db prog_11_method_2_code 6 (.if_icmp .le 5) (5) 9 11 := ⟨by decide +kernel, rfl, by decide, by decide⟩
theorem b6_11 : Dc prog_11_method_2_code 11 (.iconst 0) 1 12 := ⟨by decide +kernel, rfl⟩
theorem b6_12 : Dc prog_11_method_2_code 12 (.istore_n 1) 1 13 := ⟨by decide +kernel, rfl⟩
theorem b6_13 : Dc prog_11_method_2_code 13 (.iconst 0) 1 14 := ⟨by decide +kernel, rfl⟩
theorem b6_14 : Dc prog_11_method_2_code 14 (.istore_n 2) 1 15 := ⟨by decide +kernel, rfl⟩
theorem b6_15 : Dc prog_11_method_2_code 15 (.iload_n 2) 1 16 := ⟨by decide +kernel, rfl⟩
theorem b6_16 : Dc prog_11_method_2_code 16 (.aload_n 0) 1 17 := ⟨by decide +kernel, rfl⟩
theorem b6_17 : Dc prog_11_method_2_code 17 (.invokevirtual 7) 3 20 := ⟨by decide +kernel, rfl⟩
theorem b6_20 : Db prog_11_method_2_code 20 (.if_icmp .ge 49) (49) 23 69 := ⟨by decide +kernel, rfl, by decide, by decide⟩
theorem b6_69 : Dc prog_11_method_2_code 69 (.iload_n 1) 1 70 := ⟨by decide +kernel, rfl⟩
theorem b6_70 : Dc prog_11_method_2_code 70 (.ireturn) 1 71 := ⟨by decide +kernel, rfl⟩
theorem b6_23 : Dc prog_11_method_2_code 23 (.aload_n 0) 1 24 := ⟨by decide +kernel, rfl⟩
theorem b6_24 : Dc prog_11_method_2_code 24 (.iload_n 2) 1 25 := ⟨by decide +kernel, rfl⟩
theorem b6_25 : Dc prog_11_method_2_code 25 (.invokevirtual 15) 3 28 := ⟨by decide +kernel, rfl⟩
theorem b6_28 : Dc prog_11_method_2_code 28 (.istore_n 3) 1 29 := ⟨by decide +kernel, rfl⟩
theorem b6_29 : Dc prog_11_method_2_code 29 (.iload_n 3) 1 30 := ⟨by decide +kernel, rfl⟩
theorem b6_30 : Dc prog_11_method_2_code 30 (.bipush 48) 2 32 := ⟨by decide +kernel, rfl⟩
theorem b6_32 : Db prog_11_method_2_code 32 (.if_icmp .lt 14) (14) 35 46 := ⟨by decide +kernel, rfl, by decide, by decide⟩
theorem b6_46 : Dc prog_11_method_2_code 46 (.iload_n 3) 1 47 := ⟨by decide +kernel, rfl⟩
theorem b6_47 : Dc prog_11_method_2_code 47 (.bipush 46) 2 49 := ⟨by decide +kernel, rfl⟩
theorem b6_49 : Db prog_11_method_2_code 49 (.if_icmp .ne 12) (12) 52 61 := ⟨by decide +kernel, rfl, by decide, by decide⟩
theorem b6_61 : Dc prog_11_method_2_code 61 (.iconst 0) 1 62 := ⟨by decide +kernel, rfl⟩
theorem b6_62 : Dc prog_11_method_2_code 62 (.ireturn) 1 63 := ⟨by decide +kernel, rfl⟩
theorem b6_52 : Dc prog_11_method_2_code 52 (.iload_n 1) 1 53 := ⟨by decide +kernel, rfl⟩
theorem b6_53 : Db prog_11_method_2_code 53 (.ifCond .eq 8) (8) 56 61 := ⟨by decide +kernel, rfl, by decide, by decide⟩
theorem b6_56 : Dc prog_11_method_2_code 56 (.iconst 0) 1 57 := ⟨by decide +kernel, rfl⟩
theorem b6_57 : Dc prog_11_method_2_code 57 (.istore_n 1) 1 58 := ⟨by decide +kernel, rfl⟩
theorem b6_58 : Db prog_11_method_2_code 58 (.goto 5) (5) 61 63 := ⟨by decide +kernel, rfl, by decide, by decide⟩
theorem b6_63 : Dc prog_11_method_2_code 63 (.iinc 2 1) 3 66 := ⟨by decide +kernel, rfl⟩
theorem b6_66 : Db prog_11_method_2_code 66 (.goto (-51)) (-51) 69 15 := ⟨by decide +kernel, rfl, by decide, by decide⟩
theorem b6_35 : Dc prog_11_method_2_code 35 (.iload_n 3) 1 36 := ⟨by decide +kernel, rfl⟩
theorem b6_36 : Dc prog_11_method_2_code 36 (.bipush 57) 2 38 := ⟨by decide +kernel, rfl⟩
theorem b6_38 : Db prog_11_method_2_code 38 (.if_icmp .gt 8) (8) 41 46 := ⟨by decide +kernel, rfl, by decide, by decide⟩
theorem b6_41 : Dc prog_11_method_2_code 41 (.iconst 1) 1 42 := ⟨by decide +kernel, rfl⟩
theorem b6_42 : Dc prog_11_method_2_code 42 (.istore_n 1) 1 43 := ⟨by decide +kernel, rfl⟩
theorem b6_43 : Db prog_11_method_2_code 43 (.goto 20) (20) 46 63 := ⟨by decide +kernel, rfl, by decide, by decide⟩
theorem b6_9 : Dc prog_11_method_2_code 9 (.iconst 0) 1 10 := ⟨by decide +kernel, rfl⟩
theorem b6_10 : Dc prog_11_method_2_code 10 (.ireturn) 1 11 := ⟨by decide +kernel, rfl⟩
theorem L_0 : Dc code 0 (.iload_n 1) 1 1 := ⟨at_0, rfl⟩
theorem L_1 : Dc code 1 (.invokestatic 7) 3 4 := ⟨at_1, rfl⟩
theorem L_4 : Dc code 4 (.istore 5) 2 6 := ⟨at_4, rfl⟩
theorem L_6 : Dc code 6 (.iload_n 2) 1 7 := ⟨at_6, rfl⟩
theorem L_7 : Dc code 7 (.invokestatic 7) 3 10 := ⟨at_7, rfl⟩
theorem L_10 : Dc code 10 (.istore 6) 2 12 := ⟨at_10, rfl⟩
theorem L_12 : Dc code 12 (.iload_n 3) 1 13 := ⟨at_12, rfl⟩
theorem L_13 : Dc code 13 (.invokestatic 7) 3 16 := ⟨at_13, rfl⟩
theorem L_16 : Dc code 16 (.istore 7) 2 18 := ⟨at_16, rfl⟩
theorem L_18 : Dc code 18 (.iload 4) 2 20 := ⟨at_18, rfl⟩
theorem L_20 : Dc code 20 (.invokestatic 7) 3 23 := ⟨at_20, rfl⟩
theorem L_23 : Dc code 23 (.istore 8) 2 25 := ⟨at_23, rfl⟩
theorem L_25 : Dc code 25 (.iload_n 0) 1 26 := ⟨at_25, rfl⟩
theorem L_26 : Dc code 26 (.bipush 7) 2 28 := ⟨at_26, rfl⟩
theorem L_28 : Dc code 28 (.iand) 1 29 := ⟨at_28, rfl⟩
theorem L_29 : Dc code 29 (.istore 9) 2 31 := ⟨at_29, rfl⟩
theorem L_31 : Dc code 31 (.iload 9) 2 33 := ⟨at_31, rfl⟩
theorem L_33 : Dc code 33 (.iconst 5) 1 34 := ⟨at_33, rfl⟩
theorem L_34 : Db code 34 (.if_icmp .ne 412) (412) 37 446 := ⟨at_34, rfl, by decide, by decide⟩
theorem L_446 : Dc code 446 (.iload 9) 2 448 := ⟨at_446, rfl⟩
theorem L_448 : Dc code 448 (.bipush 6) 2 450 := ⟨at_448, rfl⟩
theorem L_450 : Db code 450 (.if_icmp .ne 406) (406) 453 856 := ⟨at_450, rfl, by decide, by decide⟩
theorem L_856 : Dc code 856 (.iload 9) 2 858 := ⟨at_856, rfl⟩
theorem L_858 : Dc code 858 (.bipush 7) 2 860 := ⟨at_858, rfl⟩
theorem L_860 : Db code 860 (.if_icmp .ne 7) (7) 863 867 := ⟨at_860, rfl, by decide, by decide⟩
theorem L_867 : Dc code 867 (.iload 9) 2 869 := ⟨at_867, rfl⟩
theorem L_869 : Dc code 869 (.istore 12) 2 871 := ⟨at_869, rfl⟩
theorem L_871 : Dc code 871 (.iload 12) 2 873 := ⟨at_871, rfl⟩
theorem L_873 : Dc code 873 (.iload 5) 2 875 := ⟨at_873, rfl⟩
theorem L_875 : Dc code 875 (.iload 6) 2 877 := ⟨at_875, rfl⟩
theorem L_877 : Dc code 877 (.iload 7) 2 879 := ⟨at_877, rfl⟩
theorem L_879 : Dc code 879 (.iload 8) 2 881 := ⟨at_879, rfl⟩
theorem L_881 : Dc code 881 (.invokestatic 22) 3 884 := ⟨at_881, rfl⟩
theorem L_884 : Dc code 884 (.astore 10) 2 886 := ⟨at_884, rfl⟩
theorem L_886 : Dc code 886 (.iconst 0) 1 887 := ⟨at_886, rfl⟩
theorem L_887 : Dc code 887 (.iload 12) 2 889 := ⟨at_887, rfl⟩
theorem L_889 : Dc code 889 (.iload 5) 2 891 := ⟨at_889, rfl⟩
theorem L_891 : Dc code 891 (.iload 6) 2 893 := ⟨at_891, rfl⟩
theorem L_893 : Dc code 893 (.iload 7) 2 895 := ⟨at_893, rfl⟩
theorem L_895 : Dc code 895 (.iload 8) 2 897 := ⟨at_895, rfl⟩
theorem L_897 : Dc code 897 (.invokestatic 18) 3 900 := ⟨at_897, rfl⟩
theorem L_900 : Dc code 900 (.istore 11) 2 902 := ⟨at_900, rfl⟩
theorem L_902 : Dc code 902 (.aload 10) 2 904 := ⟨at_902, rfl⟩
theorem L_904 : Dc code 904 (.invokestatic 26) 3 907 := ⟨at_904, rfl⟩
theorem L_907 : Dc code 907 (.iload 11) 2 909 := ⟨at_907, rfl⟩
theorem L_909 : Db code 909 (.if_icmp .ne 7) (7) 912 916 := ⟨at_909, rfl, by decide, by decide⟩
theorem L_912 : Dc code 912 (.iconst 1) 1 913 := ⟨at_912, rfl⟩
theorem L_913 : Db code 913 (.goto 4) (4) 916 917 := ⟨at_913, rfl, by decide, by decide⟩
theorem L_917 : Dc code 917 (.ireturn) 1 918 := ⟨at_917, rfl⟩
theorem L_37 : Dc code 37 (.new 13) 3 40 := ⟨at_37, rfl⟩
theorem L_40 : Dc code 40 (.dup) 1 41 := ⟨at_40, rfl⟩
theorem L_41 : Dc code 41 (.bipush 64) 2 43 := ⟨at_41, rfl⟩
theorem L_43 : Dc code 43 (.newarray .char) 2 45 := ⟨at_43, rfl⟩
theorem L_45 : Dc code 45 (.dup) 1 46 := ⟨at_45, rfl⟩
theorem L_46 : Dc code 46 (.iconst 0) 1 47 := ⟨at_46, rfl⟩
theorem L_47 : Dc code 47 (.bipush 49) 2 49 := ⟨at_47, rfl⟩
theorem L_49 : Dc code 49 (.castore) 1 50 := ⟨at_49, rfl⟩
theorem L_50 : Dc code 50 (.dup) 1 51 := ⟨at_50, rfl⟩
theorem L_51 : Dc code 51 (.iconst 1) 1 52 := ⟨at_51, rfl⟩
theorem L_52 : Dc code 52 (.bipush 46) 2 54 := ⟨at_52, rfl⟩
theorem L_54 : Dc code 54 (.castore) 1 55 := ⟨at_54, rfl⟩
theorem L_55 : Dc code 55 (.dup) 1 56 := ⟨at_55, rfl⟩
theorem L_56 : Dc code 56 (.iconst 2) 1 57 := ⟨at_56, rfl⟩
theorem L_57 : Dc code 57 (.bipush 50) 2 59 := ⟨at_57, rfl⟩
theorem L_59 : Dc code 59 (.castore) 1 60 := ⟨at_59, rfl⟩
theorem L_60 : Dc code 60 (.dup) 1 61 := ⟨at_60, rfl⟩
theorem L_61 : Dc code 61 (.iconst 3) 1 62 := ⟨at_61, rfl⟩
theorem L_62 : Dc code 62 (.bipush 51) 2 64 := ⟨at_62, rfl⟩
theorem L_64 : Dc code 64 (.castore) 1 65 := ⟨at_64, rfl⟩
theorem L_65 : Dc code 65 (.dup) 1 66 := ⟨at_65, rfl⟩
theorem L_66 : Dc code 66 (.iconst 4) 1 67 := ⟨at_66, rfl⟩
theorem L_67 : Dc code 67 (.bipush 52) 2 69 := ⟨at_67, rfl⟩
theorem L_69 : Dc code 69 (.castore) 1 70 := ⟨at_69, rfl⟩
theorem L_70 : Dc code 70 (.dup) 1 71 := ⟨at_70, rfl⟩
theorem L_71 : Dc code 71 (.iconst 5) 1 72 := ⟨at_71, rfl⟩
theorem L_72 : Dc code 72 (.bipush 53) 2 74 := ⟨at_72, rfl⟩
theorem L_74 : Dc code 74 (.castore) 1 75 := ⟨at_74, rfl⟩
theorem L_75 : Dc code 75 (.dup) 1 76 := ⟨at_75, rfl⟩
theorem L_76 : Dc code 76 (.bipush 6) 2 78 := ⟨at_76, rfl⟩
theorem L_78 : Dc code 78 (.bipush 46) 2 80 := ⟨at_78, rfl⟩
theorem L_80 : Dc code 80 (.castore) 1 81 := ⟨at_80, rfl⟩
theorem L_81 : Dc code 81 (.dup) 1 82 := ⟨at_81, rfl⟩
theorem L_82 : Dc code 82 (.bipush 7) 2 84 := ⟨at_82, rfl⟩
theorem L_84 : Dc code 84 (.bipush 54) 2 86 := ⟨at_84, rfl⟩
theorem L_86 : Dc code 86 (.castore) 1 87 := ⟨at_86, rfl⟩
theorem L_87 : Dc code 87 (.dup) 1 88 := ⟨at_87, rfl⟩
theorem L_88 : Dc code 88 (.bipush 8) 2 90 := ⟨at_88, rfl⟩
theorem L_90 : Dc code 90 (.bipush 55) 2 92 := ⟨at_90, rfl⟩
theorem L_92 : Dc code 92 (.castore) 1 93 := ⟨at_92, rfl⟩
theorem L_93 : Dc code 93 (.dup) 1 94 := ⟨at_93, rfl⟩
theorem L_94 : Dc code 94 (.bipush 9) 2 96 := ⟨at_94, rfl⟩
theorem L_96 : Dc code 96 (.bipush 56) 2 98 := ⟨at_96, rfl⟩
theorem L_98 : Dc code 98 (.castore) 1 99 := ⟨at_98, rfl⟩
theorem L_99 : Dc code 99 (.dup) 1 100 := ⟨at_99, rfl⟩
theorem L_100 : Dc code 100 (.bipush 10) 2 102 := ⟨at_100, rfl⟩
theorem L_102 : Dc code 102 (.bipush 49) 2 104 := ⟨at_102, rfl⟩
theorem L_104 : Dc code 104 (.castore) 1 105 := ⟨at_104, rfl⟩
theorem L_105 : Dc code 105 (.dup) 1 106 := ⟨at_105, rfl⟩
theorem L_106 : Dc code 106 (.bipush 11) 2 108 := ⟨at_106, rfl⟩
theorem L_108 : Dc code 108 (.bipush 46) 2 110 := ⟨at_108, rfl⟩
theorem L_110 : Dc code 110 (.castore) 1 111 := ⟨at_110, rfl⟩
theorem L_111 : Dc code 111 (.dup) 1 112 := ⟨at_111, rfl⟩
theorem L_112 : Dc code 112 (.bipush 12) 2 114 := ⟨at_112, rfl⟩
theorem L_114 : Dc code 114 (.bipush 50) 2 116 := ⟨at_114, rfl⟩
theorem L_116 : Dc code 116 (.castore) 1 117 := ⟨at_116, rfl⟩
theorem L_117 : Dc code 117 (.dup) 1 118 := ⟨at_117, rfl⟩
theorem L_118 : Dc code 118 (.bipush 13) 2 120 := ⟨at_118, rfl⟩
theorem L_120 : Dc code 120 (.bipush 51) 2 122 := ⟨at_120, rfl⟩
theorem L_122 : Dc code 122 (.castore) 1 123 := ⟨at_122, rfl⟩
theorem L_123 : Dc code 123 (.dup) 1 124 := ⟨at_123, rfl⟩
theorem L_124 : Dc code 124 (.bipush 14) 2 126 := ⟨at_124, rfl⟩
theorem L_126 : Dc code 126 (.bipush 52) 2 128 := ⟨at_126, rfl⟩
theorem L_128 : Dc code 128 (.castore) 1 129 := ⟨at_128, rfl⟩
theorem L_129 : Dc code 129 (.dup) 1 130 := ⟨at_129, rfl⟩
theorem L_130 : Dc code 130 (.bipush 15) 2 132 := ⟨at_130, rfl⟩
theorem L_132 : Dc code 132 (.bipush 53) 2 134 := ⟨at_132, rfl⟩
theorem L_134 : Dc code 134 (.castore) 1 135 := ⟨at_134, rfl⟩
theorem L_135 : Dc code 135 (.dup) 1 136 := ⟨at_135, rfl⟩
theorem L_136 : Dc code 136 (.bipush 16) 2 138 := ⟨at_136, rfl⟩
theorem L_138 : Dc code 138 (.bipush 46) 2 140 := ⟨at_138, rfl⟩
theorem L_140 : Dc code 140 (.castore) 1 141 := ⟨at_140, rfl⟩
theorem L_141 : Dc code 141 (.dup) 1 142 := ⟨at_141, rfl⟩
theorem L_142 : Dc code 142 (.bipush 17) 2 144 := ⟨at_142, rfl⟩
theorem L_144 : Dc code 144 (.bipush 54) 2 146 := ⟨at_144, rfl⟩
theorem L_146 : Dc code 146 (.castore) 1 147 := ⟨at_146, rfl⟩
theorem L_147 : Dc code 147 (.dup) 1 148 := ⟨at_147, rfl⟩
theorem L_148 : Dc code 148 (.bipush 18) 2 150 := ⟨at_148, rfl⟩
theorem L_150 : Dc code 150 (.bipush 55) 2 152 := ⟨at_150, rfl⟩
theorem L_152 : Dc code 152 (.castore) 1 153 := ⟨at_152, rfl⟩
theorem L_153 : Dc code 153 (.dup) 1 154 := ⟨at_153, rfl⟩
theorem L_154 : Dc code 154 (.bipush 19) 2 156 := ⟨at_154, rfl⟩
theorem L_156 : Dc code 156 (.bipush 56) 2 158 := ⟨at_156, rfl⟩
theorem L_158 : Dc code 158 (.castore) 1 159 := ⟨at_158, rfl⟩
theorem L_159 : Dc code 159 (.dup) 1 160 := ⟨at_159, rfl⟩
theorem L_160 : Dc code 160 (.bipush 20) 2 162 := ⟨at_160, rfl⟩
theorem L_162 : Dc code 162 (.bipush 49) 2 164 := ⟨at_162, rfl⟩
theorem L_164 : Dc code 164 (.castore) 1 165 := ⟨at_164, rfl⟩
theorem L_165 : Dc code 165 (.dup) 1 166 := ⟨at_165, rfl⟩
theorem L_166 : Dc code 166 (.bipush 21) 2 168 := ⟨at_166, rfl⟩
theorem L_168 : Dc code 168 (.bipush 46) 2 170 := ⟨at_168, rfl⟩
theorem L_170 : Dc code 170 (.castore) 1 171 := ⟨at_170, rfl⟩
theorem L_171 : Dc code 171 (.dup) 1 172 := ⟨at_171, rfl⟩
theorem L_172 : Dc code 172 (.bipush 22) 2 174 := ⟨at_172, rfl⟩
theorem L_174 : Dc code 174 (.bipush 50) 2 176 := ⟨at_174, rfl⟩
theorem L_176 : Dc code 176 (.castore) 1 177 := ⟨at_176, rfl⟩
theorem L_177 : Dc code 177 (.dup) 1 178 := ⟨at_177, rfl⟩
theorem L_178 : Dc code 178 (.bipush 23) 2 180 := ⟨at_178, rfl⟩
theorem L_180 : Dc code 180 (.bipush 51) 2 182 := ⟨at_180, rfl⟩
theorem L_182 : Dc code 182 (.castore) 1 183 := ⟨at_182, rfl⟩
theorem L_183 : Dc code 183 (.dup) 1 184 := ⟨at_183, rfl⟩
theorem L_184 : Dc code 184 (.bipush 24) 2 186 := ⟨at_184, rfl⟩
theorem L_186 : Dc code 186 (.bipush 52) 2 188 := ⟨at_186, rfl⟩
theorem L_188 : Dc code 188 (.castore) 1 189 := ⟨at_188, rfl⟩
theorem L_189 : Dc code 189 (.dup) 1 190 := ⟨at_189, rfl⟩
theorem L_190 : Dc code 190 (.bipush 25) 2 192 := ⟨at_190, rfl⟩
theorem L_192 : Dc code 192 (.bipush 53) 2 194 := ⟨at_192, rfl⟩
theorem L_194 : Dc code 194 (.castore) 1 195 := ⟨at_194, rfl⟩
theorem L_195 : Dc code 195 (.dup) 1 196 := ⟨at_195, rfl⟩
theorem L_196 : Dc code 196 (.bipush 26) 2 198 := ⟨at_196, rfl⟩
theorem L_198 : Dc code 198 (.bipush 46) 2 200 := ⟨at_198, rfl⟩
theorem L_200 : Dc code 200 (.castore) 1 201 := ⟨at_200, rfl⟩
theorem L_201 : Dc code 201 (.dup) 1 202 := ⟨at_201, rfl⟩
theorem L_202 : Dc code 202 (.bipush 27) 2 204 := ⟨at_202, rfl⟩
theorem L_204 : Dc code 204 (.bipush 54) 2 206 := ⟨at_204, rfl⟩
theorem L_206 : Dc code 206 (.castore) 1 207 := ⟨at_206, rfl⟩
theorem L_207 : Dc code 207 (.dup) 1 208 := ⟨at_207, rfl⟩
theorem L_208 : Dc code 208 (.bipush 28) 2 210 := ⟨at_208, rfl⟩
theorem L_210 : Dc code 210 (.bipush 55) 2 212 := ⟨at_210, rfl⟩
theorem L_212 : Dc code 212 (.castore) 1 213 := ⟨at_212, rfl⟩
theorem L_213 : Dc code 213 (.dup) 1 214 := ⟨at_213, rfl⟩
theorem L_214 : Dc code 214 (.bipush 29) 2 216 := ⟨at_214, rfl⟩
theorem L_216 : Dc code 216 (.bipush 56) 2 218 := ⟨at_216, rfl⟩
theorem L_218 : Dc code 218 (.castore) 1 219 := ⟨at_218, rfl⟩
theorem L_219 : Dc code 219 (.dup) 1 220 := ⟨at_219, rfl⟩
theorem L_220 : Dc code 220 (.bipush 30) 2 222 := ⟨at_220, rfl⟩
theorem L_222 : Dc code 222 (.bipush 49) 2 224 := ⟨at_222, rfl⟩
theorem L_224 : Dc code 224 (.castore) 1 225 := ⟨at_224, rfl⟩
theorem L_225 : Dc code 225 (.dup) 1 226 := ⟨at_225, rfl⟩
theorem L_226 : Dc code 226 (.bipush 31) 2 228 := ⟨at_226, rfl⟩
theorem L_228 : Dc code 228 (.bipush 46) 2 230 := ⟨at_228, rfl⟩
theorem L_230 : Dc code 230 (.castore) 1 231 := ⟨at_230, rfl⟩
theorem L_231 : Dc code 231 (.dup) 1 232 := ⟨at_231, rfl⟩
theorem L_232 : Dc code 232 (.bipush 32) 2 234 := ⟨at_232, rfl⟩
theorem L_234 : Dc code 234 (.bipush 50) 2 236 := ⟨at_234, rfl⟩
theorem L_236 : Dc code 236 (.castore) 1 237 := ⟨at_236, rfl⟩
theorem L_237 : Dc code 237 (.dup) 1 238 := ⟨at_237, rfl⟩
theorem L_238 : Dc code 238 (.bipush 33) 2 240 := ⟨at_238, rfl⟩
theorem L_240 : Dc code 240 (.bipush 51) 2 242 := ⟨at_240, rfl⟩
theorem L_242 : Dc code 242 (.castore) 1 243 := ⟨at_242, rfl⟩
theorem L_243 : Dc code 243 (.dup) 1 244 := ⟨at_243, rfl⟩
theorem L_244 : Dc code 244 (.bipush 34) 2 246 := ⟨at_244, rfl⟩
theorem L_246 : Dc code 246 (.bipush 52) 2 248 := ⟨at_246, rfl⟩
theorem L_248 : Dc code 248 (.castore) 1 249 := ⟨at_248, rfl⟩
theorem L_249 : Dc code 249 (.dup) 1 250 := ⟨at_249, rfl⟩
theorem L_250 : Dc code 250 (.bipush 35) 2 252 := ⟨at_250, rfl⟩
theorem L_252 : Dc code 252 (.bipush 53) 2 254 := ⟨at_252, rfl⟩
theorem L_254 : Dc code 254 (.castore) 1 255 := ⟨at_254, rfl⟩
theorem L_255 : Dc code 255 (.dup) 1 256 := ⟨at_255, rfl⟩
theorem L_256 : Dc code 256 (.bipush 36) 2 258 := ⟨at_256, rfl⟩
theorem L_258 : Dc code 258 (.bipush 46) 2 260 := ⟨at_258, rfl⟩
theorem L_260 : Dc code 260 (.castore) 1 261 := ⟨at_260, rfl⟩
theorem L_261 : Dc code 261 (.dup) 1 262 := ⟨at_261, rfl⟩
theorem L_262 : Dc code 262 (.bipush 37) 2 264 := ⟨at_262, rfl⟩
theorem L_264 : Dc code 264 (.bipush 54) 2 266 := ⟨at_264, rfl⟩
theorem L_266 : Dc code 266 (.castore) 1 267 := ⟨at_266, rfl⟩
theorem L_267 : Dc code 267 (.dup) 1 268 := ⟨at_267, rfl⟩
theorem L_268 : Dc code 268 (.bipush 38) 2 270 := ⟨at_268, rfl⟩
theorem L_270 : Dc code 270 (.bipush 55) 2 272 := ⟨at_270, rfl⟩
theorem L_272 : Dc code 272 (.castore) 1 273 := ⟨at_272, rfl⟩
theorem L_273 : Dc code 273 (.dup) 1 274 := ⟨at_273, rfl⟩
theorem L_274 : Dc code 274 (.bipush 39) 2 276 := ⟨at_274, rfl⟩
theorem L_276 : Dc code 276 (.bipush 56) 2 278 := ⟨at_276, rfl⟩
theorem L_278 : Dc code 278 (.castore) 1 279 := ⟨at_278, rfl⟩
theorem L_279 : Dc code 279 (.dup) 1 280 := ⟨at_279, rfl⟩
theorem L_280 : Dc code 280 (.bipush 40) 2 282 := ⟨at_280, rfl⟩
theorem L_282 : Dc code 282 (.bipush 49) 2 284 := ⟨at_282, rfl⟩
theorem L_284 : Dc code 284 (.castore) 1 285 := ⟨at_284, rfl⟩
theorem L_285 : Dc code 285 (.dup) 1 286 := ⟨at_285, rfl⟩
theorem L_286 : Dc code 286 (.bipush 41) 2 288 := ⟨at_286, rfl⟩
theorem L_288 : Dc code 288 (.bipush 46) 2 290 := ⟨at_288, rfl⟩
theorem L_290 : Dc code 290 (.castore) 1 291 := ⟨at_290, rfl⟩
theorem L_291 : Dc code 291 (.dup) 1 292 := ⟨at_291, rfl⟩
theorem L_292 : Dc code 292 (.bipush 42) 2 294 := ⟨at_292, rfl⟩
theorem L_294 : Dc code 294 (.bipush 50) 2 296 := ⟨at_294, rfl⟩
theorem L_296 : Dc code 296 (.castore) 1 297 := ⟨at_296, rfl⟩
theorem L_297 : Dc code 297 (.dup) 1 298 := ⟨at_297, rfl⟩
theorem L_298 : Dc code 298 (.bipush 43) 2 300 := ⟨at_298, rfl⟩
theorem L_300 : Dc code 300 (.bipush 51) 2 302 := ⟨at_300, rfl⟩
theorem L_302 : Dc code 302 (.castore) 1 303 := ⟨at_302, rfl⟩
theorem L_303 : Dc code 303 (.dup) 1 304 := ⟨at_303, rfl⟩
theorem L_304 : Dc code 304 (.bipush 44) 2 306 := ⟨at_304, rfl⟩
theorem L_306 : Dc code 306 (.bipush 52) 2 308 := ⟨at_306, rfl⟩
theorem L_308 : Dc code 308 (.castore) 1 309 := ⟨at_308, rfl⟩
theorem L_309 : Dc code 309 (.dup) 1 310 := ⟨at_309, rfl⟩
theorem L_310 : Dc code 310 (.bipush 45) 2 312 := ⟨at_310, rfl⟩
theorem L_312 : Dc code 312 (.bipush 53) 2 314 := ⟨at_312, rfl⟩
theorem L_314 : Dc code 314 (.castore) 1 315 := ⟨at_314, rfl⟩
theorem L_315 : Dc code 315 (.dup) 1 316 := ⟨at_315, rfl⟩
theorem L_316 : Dc code 316 (.bipush 46) 2 318 := ⟨at_316, rfl⟩
theorem L_318 : Dc code 318 (.bipush 46) 2 320 := ⟨at_318, rfl⟩
theorem L_320 : Dc code 320 (.castore) 1 321 := ⟨at_320, rfl⟩
theorem L_321 : Dc code 321 (.dup) 1 322 := ⟨at_321, rfl⟩
theorem L_322 : Dc code 322 (.bipush 47) 2 324 := ⟨at_322, rfl⟩
theorem L_324 : Dc code 324 (.bipush 54) 2 326 := ⟨at_324, rfl⟩
theorem L_326 : Dc code 326 (.castore) 1 327 := ⟨at_326, rfl⟩
theorem L_327 : Dc code 327 (.dup) 1 328 := ⟨at_327, rfl⟩
theorem L_328 : Dc code 328 (.bipush 48) 2 330 := ⟨at_328, rfl⟩
theorem L_330 : Dc code 330 (.bipush 55) 2 332 := ⟨at_330, rfl⟩
theorem L_332 : Dc code 332 (.castore) 1 333 := ⟨at_332, rfl⟩
theorem L_333 : Dc code 333 (.dup) 1 334 := ⟨at_333, rfl⟩
theorem L_334 : Dc code 334 (.bipush 49) 2 336 := ⟨at_334, rfl⟩
theorem L_336 : Dc code 336 (.bipush 56) 2 338 := ⟨at_336, rfl⟩
theorem L_338 : Dc code 338 (.castore) 1 339 := ⟨at_338, rfl⟩
theorem L_339 : Dc code 339 (.dup) 1 340 := ⟨at_339, rfl⟩
theorem L_340 : Dc code 340 (.bipush 50) 2 342 := ⟨at_340, rfl⟩
theorem L_342 : Dc code 342 (.bipush 49) 2 344 := ⟨at_342, rfl⟩
theorem L_344 : Dc code 344 (.castore) 1 345 := ⟨at_344, rfl⟩
theorem L_345 : Dc code 345 (.dup) 1 346 := ⟨at_345, rfl⟩
theorem L_346 : Dc code 346 (.bipush 51) 2 348 := ⟨at_346, rfl⟩
theorem L_348 : Dc code 348 (.bipush 46) 2 350 := ⟨at_348, rfl⟩
theorem L_350 : Dc code 350 (.castore) 1 351 := ⟨at_350, rfl⟩
theorem L_351 : Dc code 351 (.dup) 1 352 := ⟨at_351, rfl⟩
theorem L_352 : Dc code 352 (.bipush 52) 2 354 := ⟨at_352, rfl⟩
theorem L_354 : Dc code 354 (.bipush 50) 2 356 := ⟨at_354, rfl⟩
theorem L_356 : Dc code 356 (.castore) 1 357 := ⟨at_356, rfl⟩
theorem L_357 : Dc code 357 (.dup) 1 358 := ⟨at_357, rfl⟩
theorem L_358 : Dc code 358 (.bipush 53) 2 360 := ⟨at_358, rfl⟩
theorem L_360 : Dc code 360 (.bipush 51) 2 362 := ⟨at_360, rfl⟩
theorem L_362 : Dc code 362 (.castore) 1 363 := ⟨at_362, rfl⟩
theorem L_363 : Dc code 363 (.dup) 1 364 := ⟨at_363, rfl⟩
theorem L_364 : Dc code 364 (.bipush 54) 2 366 := ⟨at_364, rfl⟩
theorem L_366 : Dc code 366 (.bipush 52) 2 368 := ⟨at_366, rfl⟩
theorem L_368 : Dc code 368 (.castore) 1 369 := ⟨at_368, rfl⟩
theorem L_369 : Dc code 369 (.dup) 1 370 := ⟨at_369, rfl⟩
theorem L_370 : Dc code 370 (.bipush 55) 2 372 := ⟨at_370, rfl⟩
theorem L_372 : Dc code 372 (.bipush 53) 2 374 := ⟨at_372, rfl⟩
theorem L_374 : Dc code 374 (.castore) 1 375 := ⟨at_374, rfl⟩
theorem L_375 : Dc code 375 (.dup) 1 376 := ⟨at_375, rfl⟩
theorem L_376 : Dc code 376 (.bipush 56) 2 378 := ⟨at_376, rfl⟩
theorem L_378 : Dc code 378 (.bipush 46) 2 380 := ⟨at_378, rfl⟩
theorem L_380 : Dc code 380 (.castore) 1 381 := ⟨at_380, rfl⟩
theorem L_381 : Dc code 381 (.dup) 1 382 := ⟨at_381, rfl⟩
theorem L_382 : Dc code 382 (.bipush 57) 2 384 := ⟨at_382, rfl⟩
theorem L_384 : Dc code 384 (.bipush 54) 2 386 := ⟨at_384, rfl⟩
theorem L_386 : Dc code 386 (.castore) 1 387 := ⟨at_386, rfl⟩
theorem L_387 : Dc code 387 (.dup) 1 388 := ⟨at_387, rfl⟩
theorem L_388 : Dc code 388 (.bipush 58) 2 390 := ⟨at_388, rfl⟩
theorem L_390 : Dc code 390 (.bipush 55) 2 392 := ⟨at_390, rfl⟩
theorem L_392 : Dc code 392 (.castore) 1 393 := ⟨at_392, rfl⟩
theorem L_393 : Dc code 393 (.dup) 1 394 := ⟨at_393, rfl⟩
theorem L_394 : Dc code 394 (.bipush 59) 2 396 := ⟨at_394, rfl⟩
theorem L_396 : Dc code 396 (.bipush 56) 2 398 := ⟨at_396, rfl⟩
theorem L_398 : Dc code 398 (.castore) 1 399 := ⟨at_398, rfl⟩
theorem L_399 : Dc code 399 (.dup) 1 400 := ⟨at_399, rfl⟩
theorem L_400 : Dc code 400 (.bipush 60) 2 402 := ⟨at_400, rfl⟩
theorem L_402 : Dc code 402 (.iload 5) 2 404 := ⟨at_402, rfl⟩
theorem L_404 : Dc code 404 (.castore) 1 405 := ⟨at_404, rfl⟩
theorem L_405 : Dc code 405 (.dup) 1 406 := ⟨at_405, rfl⟩
theorem L_406 : Dc code 406 (.bipush 61) 2 408 := ⟨at_406, rfl⟩
theorem L_408 : Dc code 408 (.iload 6) 2 410 := ⟨at_408, rfl⟩
theorem L_410 : Dc code 410 (.castore) 1 411 := ⟨at_410, rfl⟩
theorem L_411 : Dc code 411 (.dup) 1 412 := ⟨at_411, rfl⟩
theorem L_412 : Dc code 412 (.bipush 62) 2 414 := ⟨at_412, rfl⟩
theorem L_414 : Dc code 414 (.iload 7) 2 416 := ⟨at_414, rfl⟩
theorem L_416 : Dc code 416 (.castore) 1 417 := ⟨at_416, rfl⟩
theorem L_417 : Dc code 417 (.dup) 1 418 := ⟨at_417, rfl⟩
theorem L_418 : Dc code 418 (.bipush 63) 2 420 := ⟨at_418, rfl⟩
theorem L_420 : Dc code 420 (.iload 8) 2 422 := ⟨at_420, rfl⟩
theorem L_422 : Dc code 422 (.castore) 1 423 := ⟨at_422, rfl⟩
theorem L_423 : Dc code 423 (.invokespecial 15) 3 426 := ⟨at_423, rfl⟩
theorem L_426 : Dc code 426 (.astore 10) 2 428 := ⟨at_426, rfl⟩
theorem L_428 : Dc code 428 (.iconst 1) 1 429 := ⟨at_428, rfl⟩
theorem L_429 : Dc code 429 (.iconst 4) 1 430 := ⟨at_429, rfl⟩
theorem L_430 : Dc code 430 (.iload 5) 2 432 := ⟨at_430, rfl⟩
theorem L_432 : Dc code 432 (.iload 6) 2 434 := ⟨at_432, rfl⟩
theorem L_434 : Dc code 434 (.iload 7) 2 436 := ⟨at_434, rfl⟩
theorem L_436 : Dc code 436 (.iload 8) 2 438 := ⟨at_436, rfl⟩
theorem L_438 : Dc code 438 (.invokestatic 18) 3 441 := ⟨at_438, rfl⟩
theorem L_441 : Dc code 441 (.istore 11) 2 443 := ⟨at_441, rfl⟩
theorem L_443 : Db code 443 (.goto 459) (459) 446 902 := ⟨at_443, rfl, by decide, by decide⟩
theorem L_453 : Dc code 453 (.new 13) 3 456 := ⟨at_453, rfl⟩
theorem L_456 : Dc code 456 (.dup) 1 457 := ⟨at_456, rfl⟩
theorem L_457 : Dc code 457 (.bipush 65) 2 459 := ⟨at_457, rfl⟩
theorem L_459 : Dc code 459 (.newarray .char) 2 461 := ⟨at_459, rfl⟩
theorem L_461 : Dc code 461 (.dup) 1 462 := ⟨at_461, rfl⟩
theorem L_462 : Dc code 462 (.iconst 0) 1 463 := ⟨at_462, rfl⟩
theorem L_463 : Dc code 463 (.bipush 49) 2 465 := ⟨at_463, rfl⟩
theorem L_465 : Dc code 465 (.castore) 1 466 := ⟨at_465, rfl⟩
theorem L_466 : Dc code 466 (.dup) 1 467 := ⟨at_466, rfl⟩
theorem L_467 : Dc code 467 (.iconst 1) 1 468 := ⟨at_467, rfl⟩
theorem L_468 : Dc code 468 (.bipush 46) 2 470 := ⟨at_468, rfl⟩
theorem L_470 : Dc code 470 (.castore) 1 471 := ⟨at_470, rfl⟩
theorem L_471 : Dc code 471 (.dup) 1 472 := ⟨at_471, rfl⟩
theorem L_472 : Dc code 472 (.iconst 2) 1 473 := ⟨at_472, rfl⟩
theorem L_473 : Dc code 473 (.bipush 50) 2 475 := ⟨at_473, rfl⟩
theorem L_475 : Dc code 475 (.castore) 1 476 := ⟨at_475, rfl⟩
theorem L_476 : Dc code 476 (.dup) 1 477 := ⟨at_476, rfl⟩
theorem L_477 : Dc code 477 (.iconst 3) 1 478 := ⟨at_477, rfl⟩
theorem L_478 : Dc code 478 (.bipush 51) 2 480 := ⟨at_478, rfl⟩
theorem L_480 : Dc code 480 (.castore) 1 481 := ⟨at_480, rfl⟩
theorem L_481 : Dc code 481 (.dup) 1 482 := ⟨at_481, rfl⟩
theorem L_482 : Dc code 482 (.iconst 4) 1 483 := ⟨at_482, rfl⟩
theorem L_483 : Dc code 483 (.bipush 52) 2 485 := ⟨at_483, rfl⟩
theorem L_485 : Dc code 485 (.castore) 1 486 := ⟨at_485, rfl⟩
theorem L_486 : Dc code 486 (.dup) 1 487 := ⟨at_486, rfl⟩
theorem L_487 : Dc code 487 (.iconst 5) 1 488 := ⟨at_487, rfl⟩
theorem L_488 : Dc code 488 (.bipush 53) 2 490 := ⟨at_488, rfl⟩
theorem L_490 : Dc code 490 (.castore) 1 491 := ⟨at_490, rfl⟩
theorem L_491 : Dc code 491 (.dup) 1 492 := ⟨at_491, rfl⟩
theorem L_492 : Dc code 492 (.bipush 6) 2 494 := ⟨at_492, rfl⟩
theorem L_494 : Dc code 494 (.bipush 46) 2 496 := ⟨at_494, rfl⟩
theorem L_496 : Dc code 496 (.castore) 1 497 := ⟨at_496, rfl⟩
theorem L_497 : Dc code 497 (.dup) 1 498 := ⟨at_497, rfl⟩
theorem L_498 : Dc code 498 (.bipush 7) 2 500 := ⟨at_498, rfl⟩
theorem L_500 : Dc code 500 (.bipush 54) 2 502 := ⟨at_500, rfl⟩
theorem L_502 : Dc code 502 (.castore) 1 503 := ⟨at_502, rfl⟩
theorem L_503 : Dc code 503 (.dup) 1 504 := ⟨at_503, rfl⟩
theorem L_504 : Dc code 504 (.bipush 8) 2 506 := ⟨at_504, rfl⟩
theorem L_506 : Dc code 506 (.bipush 55) 2 508 := ⟨at_506, rfl⟩
theorem L_508 : Dc code 508 (.castore) 1 509 := ⟨at_508, rfl⟩
theorem L_509 : Dc code 509 (.dup) 1 510 := ⟨at_509, rfl⟩
theorem L_510 : Dc code 510 (.bipush 9) 2 512 := ⟨at_510, rfl⟩
theorem L_512 : Dc code 512 (.bipush 56) 2 514 := ⟨at_512, rfl⟩
theorem L_514 : Dc code 514 (.castore) 1 515 := ⟨at_514, rfl⟩
theorem L_515 : Dc code 515 (.dup) 1 516 := ⟨at_515, rfl⟩
theorem L_516 : Dc code 516 (.bipush 10) 2 518 := ⟨at_516, rfl⟩
theorem L_518 : Dc code 518 (.bipush 49) 2 520 := ⟨at_518, rfl⟩
theorem L_520 : Dc code 520 (.castore) 1 521 := ⟨at_520, rfl⟩
theorem L_521 : Dc code 521 (.dup) 1 522 := ⟨at_521, rfl⟩
theorem L_522 : Dc code 522 (.bipush 11) 2 524 := ⟨at_522, rfl⟩
theorem L_524 : Dc code 524 (.bipush 46) 2 526 := ⟨at_524, rfl⟩
theorem L_526 : Dc code 526 (.castore) 1 527 := ⟨at_526, rfl⟩
theorem L_527 : Dc code 527 (.dup) 1 528 := ⟨at_527, rfl⟩
theorem L_528 : Dc code 528 (.bipush 12) 2 530 := ⟨at_528, rfl⟩
theorem L_530 : Dc code 530 (.bipush 50) 2 532 := ⟨at_530, rfl⟩
theorem L_532 : Dc code 532 (.castore) 1 533 := ⟨at_532, rfl⟩
theorem L_533 : Dc code 533 (.dup) 1 534 := ⟨at_533, rfl⟩
theorem L_534 : Dc code 534 (.bipush 13) 2 536 := ⟨at_534, rfl⟩
theorem L_536 : Dc code 536 (.bipush 51) 2 538 := ⟨at_536, rfl⟩
theorem L_538 : Dc code 538 (.castore) 1 539 := ⟨at_538, rfl⟩
theorem L_539 : Dc code 539 (.dup) 1 540 := ⟨at_539, rfl⟩
theorem L_540 : Dc code 540 (.bipush 14) 2 542 := ⟨at_540, rfl⟩
theorem L_542 : Dc code 542 (.bipush 52) 2 544 := ⟨at_542, rfl⟩
theorem L_544 : Dc code 544 (.castore) 1 545 := ⟨at_544, rfl⟩
theorem L_545 : Dc code 545 (.dup) 1 546 := ⟨at_545, rfl⟩
theorem L_546 : Dc code 546 (.bipush 15) 2 548 := ⟨at_546, rfl⟩
theorem L_548 : Dc code 548 (.bipush 53) 2 550 := ⟨at_548, rfl⟩
theorem L_550 : Dc code 550 (.castore) 1 551 := ⟨at_550, rfl⟩
theorem L_551 : Dc code 551 (.dup) 1 552 := ⟨at_551, rfl⟩
theorem L_552 : Dc code 552 (.bipush 16) 2 554 := ⟨at_552, rfl⟩
theorem L_554 : Dc code 554 (.bipush 46) 2 556 := ⟨at_554, rfl⟩
theorem L_556 : Dc code 556 (.castore) 1 557 := ⟨at_556, rfl⟩
theorem L_557 : Dc code 557 (.dup) 1 558 := ⟨at_557, rfl⟩
theorem L_558 : Dc code 558 (.bipush 17) 2 560 := ⟨at_558, rfl⟩
theorem L_560 : Dc code 560 (.bipush 54) 2 562 := ⟨at_560, rfl⟩
theorem L_562 : Dc code 562 (.castore) 1 563 := ⟨at_562, rfl⟩
theorem L_563 : Dc code 563 (.dup) 1 564 := ⟨at_563, rfl⟩
theorem L_564 : Dc code 564 (.bipush 18) 2 566 := ⟨at_564, rfl⟩
theorem L_566 : Dc code 566 (.bipush 55) 2 568 := ⟨at_566, rfl⟩
theorem L_568 : Dc code 568 (.castore) 1 569 := ⟨at_568, rfl⟩
theorem L_569 : Dc code 569 (.dup) 1 570 := ⟨at_569, rfl⟩
theorem L_570 : Dc code 570 (.bipush 19) 2 572 := ⟨at_570, rfl⟩
theorem L_572 : Dc code 572 (.bipush 56) 2 574 := ⟨at_572, rfl⟩
theorem L_574 : Dc code 574 (.castore) 1 575 := ⟨at_574, rfl⟩
theorem L_575 : Dc code 575 (.dup) 1 576 := ⟨at_575, rfl⟩
theorem L_576 : Dc code 576 (.bipush 20) 2 578 := ⟨at_576, rfl⟩
theorem L_578 : Dc code 578 (.bipush 49) 2 580 := ⟨at_578, rfl⟩
theorem L_580 : Dc code 580 (.castore) 1 581 := ⟨at_580, rfl⟩
theorem L_581 : Dc code 581 (.dup) 1 582 := ⟨at_581, rfl⟩
theorem L_582 : Dc code 582 (.bipush 21) 2 584 := ⟨at_582, rfl⟩
theorem L_584 : Dc code 584 (.bipush 46) 2 586 := ⟨at_584, rfl⟩
theorem L_586 : Dc code 586 (.castore) 1 587 := ⟨at_586, rfl⟩
theorem L_587 : Dc code 587 (.dup) 1 588 := ⟨at_587, rfl⟩
theorem L_588 : Dc code 588 (.bipush 22) 2 590 := ⟨at_588, rfl⟩
theorem L_590 : Dc code 590 (.bipush 50) 2 592 := ⟨at_590, rfl⟩
theorem L_592 : Dc code 592 (.castore) 1 593 := ⟨at_592, rfl⟩
theorem L_593 : Dc code 593 (.dup) 1 594 := ⟨at_593, rfl⟩
theorem L_594 : Dc code 594 (.bipush 23) 2 596 := ⟨at_594, rfl⟩
theorem L_596 : Dc code 596 (.bipush 51) 2 598 := ⟨at_596, rfl⟩
theorem L_598 : Dc code 598 (.castore) 1 599 := ⟨at_598, rfl⟩
theorem L_599 : Dc code 599 (.dup) 1 600 := ⟨at_599, rfl⟩
theorem L_600 : Dc code 600 (.bipush 24) 2 602 := ⟨at_600, rfl⟩
theorem L_602 : Dc code 602 (.bipush 52) 2 604 := ⟨at_602, rfl⟩
theorem L_604 : Dc code 604 (.castore) 1 605 := ⟨at_604, rfl⟩
theorem L_605 : Dc code 605 (.dup) 1 606 := ⟨at_605, rfl⟩
theorem L_606 : Dc code 606 (.bipush 25) 2 608 := ⟨at_606, rfl⟩
theorem L_608 : Dc code 608 (.bipush 53) 2 610 := ⟨at_608, rfl⟩
theorem L_610 : Dc code 610 (.castore) 1 611 := ⟨at_610, rfl⟩
theorem L_611 : Dc code 611 (.dup) 1 612 := ⟨at_611, rfl⟩
theorem L_612 : Dc code 612 (.bipush 26) 2 614 := ⟨at_612, rfl⟩
theorem L_614 : Dc code 614 (.bipush 46) 2 616 := ⟨at_614, rfl⟩
theorem L_616 : Dc code 616 (.castore) 1 617 := ⟨at_616, rfl⟩
theorem L_617 : Dc code 617 (.dup) 1 618 := ⟨at_617, rfl⟩
theorem L_618 : Dc code 618 (.bipush 27) 2 620 := ⟨at_618, rfl⟩
theorem L_620 : Dc code 620 (.bipush 54) 2 622 := ⟨at_620, rfl⟩
theorem L_622 : Dc code 622 (.castore) 1 623 := ⟨at_622, rfl⟩
theorem L_623 : Dc code 623 (.dup) 1 624 := ⟨at_623, rfl⟩
theorem L_624 : Dc code 624 (.bipush 28) 2 626 := ⟨at_624, rfl⟩
theorem L_626 : Dc code 626 (.bipush 55) 2 628 := ⟨at_626, rfl⟩
theorem L_628 : Dc code 628 (.castore) 1 629 := ⟨at_628, rfl⟩
theorem L_629 : Dc code 629 (.dup) 1 630 := ⟨at_629, rfl⟩
theorem L_630 : Dc code 630 (.bipush 29) 2 632 := ⟨at_630, rfl⟩
theorem L_632 : Dc code 632 (.bipush 56) 2 634 := ⟨at_632, rfl⟩
theorem L_634 : Dc code 634 (.castore) 1 635 := ⟨at_634, rfl⟩
theorem L_635 : Dc code 635 (.dup) 1 636 := ⟨at_635, rfl⟩
theorem L_636 : Dc code 636 (.bipush 30) 2 638 := ⟨at_636, rfl⟩
theorem L_638 : Dc code 638 (.bipush 49) 2 640 := ⟨at_638, rfl⟩
theorem L_640 : Dc code 640 (.castore) 1 641 := ⟨at_640, rfl⟩
theorem L_641 : Dc code 641 (.dup) 1 642 := ⟨at_641, rfl⟩
theorem L_642 : Dc code 642 (.bipush 31) 2 644 := ⟨at_642, rfl⟩
theorem L_644 : Dc code 644 (.bipush 46) 2 646 := ⟨at_644, rfl⟩
theorem L_646 : Dc code 646 (.castore) 1 647 := ⟨at_646, rfl⟩
theorem L_647 : Dc code 647 (.dup) 1 648 := ⟨at_647, rfl⟩
theorem L_648 : Dc code 648 (.bipush 32) 2 650 := ⟨at_648, rfl⟩
theorem L_650 : Dc code 650 (.bipush 50) 2 652 := ⟨at_650, rfl⟩
theorem L_652 : Dc code 652 (.castore) 1 653 := ⟨at_652, rfl⟩
theorem L_653 : Dc code 653 (.dup) 1 654 := ⟨at_653, rfl⟩
theorem L_654 : Dc code 654 (.bipush 33) 2 656 := ⟨at_654, rfl⟩
theorem L_656 : Dc code 656 (.bipush 51) 2 658 := ⟨at_656, rfl⟩
theorem L_658 : Dc code 658 (.castore) 1 659 := ⟨at_658, rfl⟩
theorem L_659 : Dc code 659 (.dup) 1 660 := ⟨at_659, rfl⟩
theorem L_660 : Dc code 660 (.bipush 34) 2 662 := ⟨at_660, rfl⟩
theorem L_662 : Dc code 662 (.bipush 52) 2 664 := ⟨at_662, rfl⟩
theorem L_664 : Dc code 664 (.castore) 1 665 := ⟨at_664, rfl⟩
theorem L_665 : Dc code 665 (.dup) 1 666 := ⟨at_665, rfl⟩
theorem L_666 : Dc code 666 (.bipush 35) 2 668 := ⟨at_666, rfl⟩
theorem L_668 : Dc code 668 (.bipush 53) 2 670 := ⟨at_668, rfl⟩
theorem L_670 : Dc code 670 (.castore) 1 671 := ⟨at_670, rfl⟩
theorem L_671 : Dc code 671 (.dup) 1 672 := ⟨at_671, rfl⟩
theorem L_672 : Dc code 672 (.bipush 36) 2 674 := ⟨at_672, rfl⟩
theorem L_674 : Dc code 674 (.bipush 46) 2 676 := ⟨at_674, rfl⟩
theorem L_676 : Dc code 676 (.castore) 1 677 := ⟨at_676, rfl⟩
theorem L_677 : Dc code 677 (.dup) 1 678 := ⟨at_677, rfl⟩
theorem L_678 : Dc code 678 (.bipush 37) 2 680 := ⟨at_678, rfl⟩
theorem L_680 : Dc code 680 (.bipush 54) 2 682 := ⟨at_680, rfl⟩
theorem L_682 : Dc code 682 (.castore) 1 683 := ⟨at_682, rfl⟩
theorem L_683 : Dc code 683 (.dup) 1 684 := ⟨at_683, rfl⟩
theorem L_684 : Dc code 684 (.bipush 38) 2 686 := ⟨at_684, rfl⟩
theorem L_686 : Dc code 686 (.bipush 55) 2 688 := ⟨at_686, rfl⟩
theorem L_688 : Dc code 688 (.castore) 1 689 := ⟨at_688, rfl⟩
theorem L_689 : Dc code 689 (.dup) 1 690 := ⟨at_689, rfl⟩
theorem L_690 : Dc code 690 (.bipush 39) 2 692 := ⟨at_690, rfl⟩
theorem L_692 : Dc code 692 (.bipush 56) 2 694 := ⟨at_692, rfl⟩
theorem L_694 : Dc code 694 (.castore) 1 695 := ⟨at_694, rfl⟩
theorem L_695 : Dc code 695 (.dup) 1 696 := ⟨at_695, rfl⟩
theorem L_696 : Dc code 696 (.bipush 40) 2 698 := ⟨at_696, rfl⟩
theorem L_698 : Dc code 698 (.bipush 49) 2 700 := ⟨at_698, rfl⟩
theorem L_700 : Dc code 700 (.castore) 1 701 := ⟨at_700, rfl⟩
theorem L_701 : Dc code 701 (.dup) 1 702 := ⟨at_701, rfl⟩
theorem L_702 : Dc code 702 (.bipush 41) 2 704 := ⟨at_702, rfl⟩
theorem L_704 : Dc code 704 (.bipush 46) 2 706 := ⟨at_704, rfl⟩
theorem L_706 : Dc code 706 (.castore) 1 707 := ⟨at_706, rfl⟩
theorem L_707 : Dc code 707 (.dup) 1 708 := ⟨at_707, rfl⟩
theorem L_708 : Dc code 708 (.bipush 42) 2 710 := ⟨at_708, rfl⟩
theorem L_710 : Dc code 710 (.bipush 50) 2 712 := ⟨at_710, rfl⟩
theorem L_712 : Dc code 712 (.castore) 1 713 := ⟨at_712, rfl⟩
theorem L_713 : Dc code 713 (.dup) 1 714 := ⟨at_713, rfl⟩
theorem L_714 : Dc code 714 (.bipush 43) 2 716 := ⟨at_714, rfl⟩
theorem L_716 : Dc code 716 (.bipush 51) 2 718 := ⟨at_716, rfl⟩
theorem L_718 : Dc code 718 (.castore) 1 719 := ⟨at_718, rfl⟩
theorem L_719 : Dc code 719 (.dup) 1 720 := ⟨at_719, rfl⟩
theorem L_720 : Dc code 720 (.bipush 44) 2 722 := ⟨at_720, rfl⟩
theorem L_722 : Dc code 722 (.bipush 52) 2 724 := ⟨at_722, rfl⟩
theorem L_724 : Dc code 724 (.castore) 1 725 := ⟨at_724, rfl⟩
theorem L_725 : Dc code 725 (.dup) 1 726 := ⟨at_725, rfl⟩
theorem L_726 : Dc code 726 (.bipush 45) 2 728 := ⟨at_726, rfl⟩
theorem L_728 : Dc code 728 (.bipush 53) 2 730 := ⟨at_728, rfl⟩
theorem L_730 : Dc code 730 (.castore) 1 731 := ⟨at_730, rfl⟩
theorem L_731 : Dc code 731 (.dup) 1 732 := ⟨at_731, rfl⟩
theorem L_732 : Dc code 732 (.bipush 46) 2 734 := ⟨at_732, rfl⟩
theorem L_734 : Dc code 734 (.bipush 46) 2 736 := ⟨at_734, rfl⟩
theorem L_736 : Dc code 736 (.castore) 1 737 := ⟨at_736, rfl⟩
theorem L_737 : Dc code 737 (.dup) 1 738 := ⟨at_737, rfl⟩
theorem L_738 : Dc code 738 (.bipush 47) 2 740 := ⟨at_738, rfl⟩
theorem L_740 : Dc code 740 (.bipush 54) 2 742 := ⟨at_740, rfl⟩
theorem L_742 : Dc code 742 (.castore) 1 743 := ⟨at_742, rfl⟩
theorem L_743 : Dc code 743 (.dup) 1 744 := ⟨at_743, rfl⟩
theorem L_744 : Dc code 744 (.bipush 48) 2 746 := ⟨at_744, rfl⟩
theorem L_746 : Dc code 746 (.bipush 55) 2 748 := ⟨at_746, rfl⟩
theorem L_748 : Dc code 748 (.castore) 1 749 := ⟨at_748, rfl⟩
theorem L_749 : Dc code 749 (.dup) 1 750 := ⟨at_749, rfl⟩
theorem L_750 : Dc code 750 (.bipush 49) 2 752 := ⟨at_750, rfl⟩
theorem L_752 : Dc code 752 (.bipush 56) 2 754 := ⟨at_752, rfl⟩
theorem L_754 : Dc code 754 (.castore) 1 755 := ⟨at_754, rfl⟩
theorem L_755 : Dc code 755 (.dup) 1 756 := ⟨at_755, rfl⟩
theorem L_756 : Dc code 756 (.bipush 50) 2 758 := ⟨at_756, rfl⟩
theorem L_758 : Dc code 758 (.bipush 49) 2 760 := ⟨at_758, rfl⟩
theorem L_760 : Dc code 760 (.castore) 1 761 := ⟨at_760, rfl⟩
theorem L_761 : Dc code 761 (.dup) 1 762 := ⟨at_761, rfl⟩
theorem L_762 : Dc code 762 (.bipush 51) 2 764 := ⟨at_762, rfl⟩
theorem L_764 : Dc code 764 (.bipush 46) 2 766 := ⟨at_764, rfl⟩
theorem L_766 : Dc code 766 (.castore) 1 767 := ⟨at_766, rfl⟩
theorem L_767 : Dc code 767 (.dup) 1 768 := ⟨at_767, rfl⟩
theorem L_768 : Dc code 768 (.bipush 52) 2 770 := ⟨at_768, rfl⟩
theorem L_770 : Dc code 770 (.bipush 50) 2 772 := ⟨at_770, rfl⟩
theorem L_772 : Dc code 772 (.castore) 1 773 := ⟨at_772, rfl⟩
theorem L_773 : Dc code 773 (.dup) 1 774 := ⟨at_773, rfl⟩
theorem L_774 : Dc code 774 (.bipush 53) 2 776 := ⟨at_774, rfl⟩
theorem L_776 : Dc code 776 (.bipush 51) 2 778 := ⟨at_776, rfl⟩
theorem L_778 : Dc code 778 (.castore) 1 779 := ⟨at_778, rfl⟩
theorem L_779 : Dc code 779 (.dup) 1 780 := ⟨at_779, rfl⟩
theorem L_780 : Dc code 780 (.bipush 54) 2 782 := ⟨at_780, rfl⟩
theorem L_782 : Dc code 782 (.bipush 52) 2 784 := ⟨at_782, rfl⟩
theorem L_784 : Dc code 784 (.castore) 1 785 := ⟨at_784, rfl⟩
theorem L_785 : Dc code 785 (.dup) 1 786 := ⟨at_785, rfl⟩
theorem L_786 : Dc code 786 (.bipush 55) 2 788 := ⟨at_786, rfl⟩
theorem L_788 : Dc code 788 (.bipush 53) 2 790 := ⟨at_788, rfl⟩
theorem L_790 : Dc code 790 (.castore) 1 791 := ⟨at_790, rfl⟩
theorem L_791 : Dc code 791 (.dup) 1 792 := ⟨at_791, rfl⟩
theorem L_792 : Dc code 792 (.bipush 56) 2 794 := ⟨at_792, rfl⟩
theorem L_794 : Dc code 794 (.bipush 46) 2 796 := ⟨at_794, rfl⟩
theorem L_796 : Dc code 796 (.castore) 1 797 := ⟨at_796, rfl⟩
theorem L_797 : Dc code 797 (.dup) 1 798 := ⟨at_797, rfl⟩
theorem L_798 : Dc code 798 (.bipush 57) 2 800 := ⟨at_798, rfl⟩
theorem L_800 : Dc code 800 (.bipush 54) 2 802 := ⟨at_800, rfl⟩
theorem L_802 : Dc code 802 (.castore) 1 803 := ⟨at_802, rfl⟩
theorem L_803 : Dc code 803 (.dup) 1 804 := ⟨at_803, rfl⟩
theorem L_804 : Dc code 804 (.bipush 58) 2 806 := ⟨at_804, rfl⟩
theorem L_806 : Dc code 806 (.bipush 55) 2 808 := ⟨at_806, rfl⟩
theorem L_808 : Dc code 808 (.castore) 1 809 := ⟨at_808, rfl⟩
theorem L_809 : Dc code 809 (.dup) 1 810 := ⟨at_809, rfl⟩
theorem L_810 : Dc code 810 (.bipush 59) 2 812 := ⟨at_810, rfl⟩
theorem L_812 : Dc code 812 (.bipush 56) 2 814 := ⟨at_812, rfl⟩
theorem L_814 : Dc code 814 (.castore) 1 815 := ⟨at_814, rfl⟩
theorem L_815 : Dc code 815 (.dup) 1 816 := ⟨at_815, rfl⟩
theorem L_816 : Dc code 816 (.bipush 60) 2 818 := ⟨at_816, rfl⟩
theorem L_818 : Dc code 818 (.bipush 57) 2 820 := ⟨at_818, rfl⟩
theorem L_820 : Dc code 820 (.castore) 1 821 := ⟨at_820, rfl⟩
theorem L_821 : Dc code 821 (.dup) 1 822 := ⟨at_821, rfl⟩
theorem L_822 : Dc code 822 (.bipush 61) 2 824 := ⟨at_822, rfl⟩
theorem L_824 : Dc code 824 (.iload 5) 2 826 := ⟨at_824, rfl⟩
theorem L_826 : Dc code 826 (.castore) 1 827 := ⟨at_826, rfl⟩
theorem L_827 : Dc code 827 (.dup) 1 828 := ⟨at_827, rfl⟩
theorem L_828 : Dc code 828 (.bipush 62) 2 830 := ⟨at_828, rfl⟩
theorem L_830 : Dc code 830 (.iload 6) 2 832 := ⟨at_830, rfl⟩
theorem L_832 : Dc code 832 (.castore) 1 833 := ⟨at_832, rfl⟩
theorem L_833 : Dc code 833 (.dup) 1 834 := ⟨at_833, rfl⟩
theorem L_834 : Dc code 834 (.bipush 63) 2 836 := ⟨at_834, rfl⟩
theorem L_836 : Dc code 836 (.iload 7) 2 838 := ⟨at_836, rfl⟩
theorem L_838 : Dc code 838 (.castore) 1 839 := ⟨at_838, rfl⟩
theorem L_839 : Dc code 839 (.dup) 1 840 := ⟨at_839, rfl⟩
theorem L_840 : Dc code 840 (.bipush 64) 2 842 := ⟨at_840, rfl⟩
theorem L_842 : Dc code 842 (.iload 8) 2 844 := ⟨at_842, rfl⟩
theorem L_844 : Dc code 844 (.castore) 1 845 := ⟨at_844, rfl⟩
theorem L_845 : Dc code 845 (.invokespecial 15) 3 848 := ⟨at_845, rfl⟩
theorem L_848 : Dc code 848 (.astore 10) 2 850 := ⟨at_848, rfl⟩
theorem L_850 : Dc code 850 (.iconst 0) 1 851 := ⟨at_850, rfl⟩
theorem L_851 : Dc code 851 (.istore 11) 2 853 := ⟨at_851, rfl⟩
theorem L_853 : Db code 853 (.goto 49) (49) 856 902 := ⟨at_853, rfl, by decide, by decide⟩
theorem L_863 : Dc code 863 (.iconst 4) 1 864 := ⟨at_863, rfl⟩
theorem L_864 : Db code 864 (.goto 5) (5) 867 869 := ⟨at_864, rfl, by decide, by decide⟩
theorem pd0 : parseMethodDescriptor "([CIILjava/lang/Void;)V" = some ⟨[(.array .char), .int, .int, (.object "java/lang/Void")], none⟩ := by decide +kernel
theorem pd1 : parseMethodDescriptor "(C)Z" = some ⟨[.char], some .boolean⟩ := by decide +kernel
theorem pd2 : parseMethodDescriptor "([C)V" = some ⟨[(.array .char)], none⟩ := by decide +kernel
theorem pd3 : parseMethodDescriptor "(CC)Z" = some ⟨[.char, .char], some .boolean⟩ := by decide +kernel
theorem pd4 : parseMethodDescriptor "()I" = some ⟨[], some .int⟩ := by decide +kernel
theorem pd5 : parseMethodDescriptor "(I)C" = some ⟨[.int], some .char⟩ := by decide +kernel
theorem pd6 : parseMethodDescriptor "(ICCCC)Ljava/lang/String;" = some ⟨[.int, .char, .char, .char, .char], some (.object "java/lang/String")⟩ := by decide +kernel
theorem pd7 : parseMethodDescriptor "(ZICCCC)Z" = some ⟨[.boolean, .int, .char, .char, .char, .char], some .boolean⟩ := by decide +kernel
theorem pd8 : parseMethodDescriptor "(Ljava/lang/String;)Z" = some ⟨[(.object "java/lang/String")], some .boolean⟩ := by decide +kernel
theorem pn0 : plainName "java/lang/String" = true := by first | (simp [plainName, overriddenIn]; done) | decide +kernel
theorem pn1 : plainName "com/example/stowage/stowage/dicom/UidIsValidPinLaw" = true := by first | (simp [plainName, overriddenIn]; done) | decide +kernel
theorem pn2 : plainName "com/example/stowage/stowage/dicom/Uid" = true := by first | (simp [plainName, overriddenIn]; done) | decide +kernel
def StrL (Z : State) (h : Heap) (x : Addr) (cs : List Int32) : Prop := ∃ (t : Addr) (kb : ClassId), Exa Z h x "java/lang/String" ∧ Fld Z h x "java/lang/String" "coder" "B" (.int 0) ∧ Fld Z h x "java/lang/String" "value" "[B" (.ref t) ∧ Arv Z h t kb .byte (Int32.ofNat cs.length) ((cs.map StrChars.lo8).map Value.int) (.int 0) ∧ (∀ c ∈ cs, ¬ c < 0 ∧ ¬ (255 : Int32) < c) ∧ cs.length ≤ 4000
theorem StrL.ext {Z : State} {h h' : Heap} {x : Addr} {cs : List Int32} (E : Ext h h') (S : StrL Z h x cs) : StrL Z h' x cs := by
  obtain ⟨t, kb, a, b, c, d, e, f⟩ := S
  exact ⟨t, kb, a.ext E, b.ext E, c.ext E, d.ext E, e, f⟩
theorem StrL.exa {Z : State} {h : Heap} {x : Addr} {cs : List Int32} (S : StrL Z h x cs) : Exa Z h x "java/lang/String" := by obtain ⟨t, kb, a, -⟩ := S; exact a
theorem StrL.up {Z : State} {h : Heap} {x : Addr} {cs : List Int32} (S : StrL Z h x cs) : ∀ c ∈ cs, ¬ c < 0 ∧ ¬ (65535 : Int32) < c := by obtain ⟨t, kb, -, -, -, -, e, -⟩ := S; exact fun c hc => ⟨(e c hc).1, ch_up (e c hc).2⟩

theorem hws_new {Z : State} {a0 : Array Value} (hw : ∀ d ∈ tables_1, d.before a0 Z = true) : ∀ d ∈ StrChars.Road.words, d.before a0 Z = true := fun d hd => hw d ((by decide +kernel : ∀ d ∈ StrChars.Road.words, d ∈ tables_1) d hd)

theorem hws_len {Z : State} {a0 : Array Value} (hw : ∀ d ∈ tables_1, d.before a0 Z = true) : ∀ d ∈ StrChars.Road.wordsLen, d.before a0 Z = true := fun d hd => hw d ((by decide +kernel : ∀ d ∈ StrChars.Road.wordsLen, d ∈ tables_1) d hd)

theorem hws_ch {Z : State} {a0 : Array Value} (hw : ∀ d ∈ tables_1, d.before a0 Z = true) : ∀ d ∈ StrChars.Road.wordsChN, d.before a0 Z = true := fun d hd => hw d ((by decide +kernel : ∀ d ∈ StrChars.Road.wordsChN, d ∈ tables_1) d hd)

theorem hsA {Z : State} {a0 : Array Value} (hw : ∀ d ∈ tables_1, d.before a0 Z = true) : ∀ d ∈ Bundle.stringAtoms, d.before a0 Z = true := fun d hd => hw d ((by decide +kernel : ∀ d ∈ Bundle.stringAtoms, d ∈ tables_1) d hd)

theorem cal_strN {md : Option EList} {p : Program} {l : Launch} {e : Env} {R : Room} {args : Array Value} {below : List Frame} {W : Nat} {Z : State} {a0 : Array Value} {h : Heap} {n0 : Nat} (hw : ∀ d ∈ tables_1, d.before a0 Z = true) {x b : Addr} {kC : ClassId} {cs : List Int32} {d v0 c0 : Value} {z : Int32} (n : Nat)
    (hx0 : n0 ≤ x) (hh0 : n0 ≤ h.size) (E : Exa Z h x "java/lang/String") (V : Fld Z h x "java/lang/String" "value" "[B" v0) (C : Fld Z h x "java/lang/String" "coder" "B" c0) (K : Arv Z h b kC .char (Int32.ofNat n) (cs.map Value.int) d) (S : Sta Z h "java/lang/String" "COMPACT_STRINGS" "Z" (.int z)) (hz : ¬ z = 0)
    (hn : cs.length = n) (l0 : 0 < n) (l2 : n ≤ 4000) (hp : ∀ c ∈ cs, ¬ c < 0 ∧ ¬ (255 : Int32) < c) (hfr : 4 ≤ R.frames) (hlo : W + 65 ≤ R.locals) :
    Cal md l R p e below args (⟨"java/lang/String", "<init>", "([C)V"⟩ : MethodName) 3 W Z n0 h [x] #[.ref x, .ref b] 1 n (fun v h' => v = none ∧ StrL Z h' x cs) :=
  Cal.ofBack (fun s' hZ => StrChars.Road.backV (W := W) hZ (hws_new hw) (kI := 4) (hw _ (List.mem_of_getElem? (i := 8) rfl)) (cs := cs) (bs := cs.map fun c => c.toInt8.toInt32) (n := n) (n0 := n0) hx0 hh0 E V C K S hz hn rfl l0 l2 hp rfl hfr hlo)
    (fun v h' L q => by
      obtain ⟨q1, q2, q3, q4, q5, t, kb, q6, q7, q8, q9, q10⟩ := q
      subst hn
      exact ⟨⟨q1, t, kb, q4, q5, q9, q10, hp, l2⟩, q3, q2⟩)

theorem cal_ch {md : Option EList} {p : Program} {l : Launch} {e : Env} {R : Room} {args : Array Value} {below : List Frame} {W : Nat} {Z : State} {a0 : Array Value} {h : Heap} {n0 : Nat} (hw : ∀ d ∈ tables_1, d.before a0 Z = true) {x : Addr} {cs : List Int32} {z : Int32} {fm : Value} {j : Int32} (i : Nat) (A : StrL Z h x cs) (S : Sta Z h "java/lang/String" "COMPACT_STRINGS" "Z" (.int z)) (hz : ¬ z = 0) (Sf : Sta Z h "jdk/internal/util/Preconditions" "SIOOBE_FORMATTER" "Ljava/util/function/BiFunction;" fm) (rf : fm.isRef = true) (hi : i < cs.length) (hj : j = Int32.ofNat i) (hfr : 4 ≤ R.frames) (hlo : W + 53 ≤ R.locals) :
    Cal md l R p e below args (⟨"java/lang/String", "charAt", "(I)C"⟩ : MethodName) 3 W Z n0 h [] #[.ref x, .int j] 0 0 (fun v h' => v = some (.int (cs.getD i 0))) := by
  have u1 := A.up
  obtain ⟨t, kb, a1, a2, a3, a4, a5, a6⟩ := A
  refine Cal.ofBack (Q := fun v h' L => v = some (.int (cs.getD i 0)) ∧ L = [] ∧ h' = h) (fun s' hZ => StrChars.Road.chN (W := W) hZ (hws_ch hw) (kI := 4) (hw _ (List.mem_of_getElem? (i := 8) rfl)) a1 a3 a2 a4 (StrChars.Road.codOf rfl fun c hc => (a5 c hc).2) u1 S hz Sf rf a6 hi hj hfr hlo) (fun v h' L q => ?_)
  obtain ⟨q1, rfl, rfl⟩ := q
  exact ⟨q1, Keep.refl _ _, Fr.nil _⟩

theorem cal_len {md : Option EList} {p : Program} {l : Launch} {e : Env} {R : Room} {args : Array Value} {below : List Frame} {W : Nat} {Z : State} {a0 : Array Value} {h : Heap} {n0 : Nat} (hw : ∀ d ∈ tables_1, d.before a0 Z = true) {x : Addr} {cs : List Int32} {z : Int32} (A : StrL Z h x cs) (S : Sta Z h "java/lang/String" "COMPACT_STRINGS" "Z" (.int z)) (hz : ¬ z = 0) (hfr : 2 ≤ R.frames) (hlo : W + 25 ≤ R.locals) :
    Cal md l R p e below args (⟨"java/lang/String", "length", "()I"⟩ : MethodName) 3 W Z n0 h [] #[.ref x] 0 0 (fun v h' => v = some (.int (Int32.ofNat cs.length))) := by
  have u1 := A.up
  obtain ⟨t, kb, a1, a2, a3, a4, a5, a6⟩ := A
  refine Cal.ofBack (Q := fun v h' L => v = some (.int (Int32.ofNat cs.length)) ∧ L = [] ∧ h' = h) (fun s' hZ => StrChars.Road.lenW (W := W) hZ (hws_len hw) (kI := 4) (hw _ (List.mem_of_getElem? (i := 8) rfl)) a1 a3 a2 a4 (StrChars.Road.codOf rfl fun c hc => (a5 c hc).2) u1 S hz a6 hfr hlo) (fun v h' L q => ?_)
  obtain ⟨q1, rfl, rfl⟩ := q
  exact ⟨q1, Keep.refl _ _, Fr.nil _⟩

set_option maxRecDepth 65536 in
set_option maxHeartbeats 40000000 in
theorem c_initE4 (l : Launch) (Z : State) (a0 : Array Value) (hw : ∀ d ∈ tables_1, d.before a0 Z = true) (h0 : Heap) (n0 : Nat) (Z0 : n0 ≤ h0.size) (x b : Addr) (v1 v2 : Value) (gx : n0 ≤ x) (Ex : Exa Z h0 x "java/lang/String") (F1 : Fld Z h0 x "java/lang/String" "value" "[B" v1) (F2 : Fld Z h0 x "java/lang/String" "coder" "B" v2) (hE : EW Z a0 [("java/lang/String", 7)]) :
    Con (some [("java/lang/String", 7)]) l (⟨"java/lang/String", "<init>", "([CIILjava/lang/Void;)V"⟩ : MethodName) jdk_42_method_149_code 6 none [] ({ frames := 1, cells := 4, slots := 8, locals := 12 } : Room) Z n0 h0 [x] #[(.ref x), (.ref b), (.int (0 : Int32)), (.int (0 : Int32)), .null] (fun v h => v = none ∧ StrL Z h x []) := by
  refine Con.intro pn0 Z0 (allS ⟨gx, Ex.lt⟩ all0) ⟨a0, hE⟩ #[.val (.ref x), .val (.ref b), .val (.int (0 : Int32)), .val (.int (0 : Int32)), .val .null, .unset] (fun m => by first | (simp [entryFrame, mkF, argsToLocals, Value.category]; done) | rfl) ?_
  intro p e s m below meth c T0 hlk hret hnm K0
  have P0 := Keep.refl h0 [x]
  refine gAloadN K0 b3_0 (v := (.ref x)) rfl rfl ?_
  refine gInitO K0 b3_1 (hw _ (List.mem_of_getElem? (i := 18) rfl)) (hw _ (List.mem_of_getElem? (i := 19) rfl)) (hw _ (List.mem_of_getElem? (i := 20) rfl)) rfl (by decide) (W := 0) (Nat.le_of_eq rfl) (by decide) (fun T101 K101 => ?_)
  refine gIloadN K101 b3_4 (v := (0 : Int32)) rfl ?_
  refine gIf_ne K101 b3_5 (fun q => absurd q (by first | decide | (intro hh; cases hh) | simp)) (fun q5 => ?_)
  refine gAloadN K101 b3_8 (v := (.ref x)) rfl rfl ?_
  refine gLdc K101 b3_9 (hw _ (List.mem_of_getElem? (i := 21) rfl)) (hsA hw) (by decide) (vs := []) (z := 0) (by decide) (by decide) (by decide) 0 (by decide) (by decide) (by decide) (by decide) (fun T102 h102 a102 b102 kA102 K102 E102 Ea102 Fc102 Fv102 Ab102 ne102 => ?_)
  have P103 := P0.ext E102
  refine gGet K102 b3_11 (hw _ (List.mem_of_getElem? (i := 27) rfl)) Fv102 (fun T104 K104 => ?_)
  refine gPut K104 b3_14 (hw _ (List.mem_of_getElem? (i := 27) rfl)) (List.mem_of_getElem? (i := 0) rfl) (F1.ext E102) (Ex.ext E102) (Or.inr ⟨(hw _ (List.mem_of_getElem? (i := 23) rfl)), rfl, hnm⟩) (hw _ (List.mem_of_getElem? (i := 8) rfl)) (ty := (.array .byte)) (by decide) rfl rfl (fun T105 h105 K105 W105 F105 => ?_)
  have P106 := P103.trans (Keep.of_wr W105) (fun z q => by cases List.mem_singleton.mp q; exact Or.inl (List.mem_of_getElem? (i := 0) rfl))
  have F107 := Fld.other W105 (F2.ext E102) (Or.inr (slot_ne (C := "java/lang/String") (a0 := a0) (Or.inr (hw _ (List.mem_of_getElem? (i := 24) rfl))) (Or.inr (hw _ (List.mem_of_getElem? (i := 23) rfl))) (by decide) (by decide : parseFieldDescriptor _ = some .byte) (by decide : parseFieldDescriptor _ = some (.array .byte))))
  have A108 := Exa.wr W105 (Ex.ext E102)
  refine gAloadN K105 b3_17 (v := (.ref x)) rfl rfl ?_
  refine gLdc K105 b3_18 (hw _ (List.mem_of_getElem? (i := 21) rfl)) (hsA hw) (by decide) (vs := []) (z := 0) (by decide) (by decide) (by decide) 0 (by decide) (by decide) (by decide) (by decide) (fun T109 h109 a109 b109 kA109 K109 E109 Ea109 Fc109 Fv109 Ab109 ne109 => ?_)
  have P110 := P106.ext E109
  refine gGet K109 b3_20 (hw _ (List.mem_of_getElem? (i := 28) rfl)) Fc109 (fun T111 K111 => ?_)
  refine gPut K111 b3_23 (hw _ (List.mem_of_getElem? (i := 28) rfl)) (List.mem_of_getElem? (i := 0) rfl) (F107.ext E109) (A108.ext E109) (Or.inr ⟨(hw _ (List.mem_of_getElem? (i := 24) rfl)), rfl, hnm⟩) (hw _ (List.mem_of_getElem? (i := 8) rfl)) (ty := .byte) (by decide) rfl rfl (fun T112 h112 K112 W112 F112 => ?_)
  have P113 := P110.trans (Keep.of_wr W112) (fun z q => by cases List.mem_singleton.mp q; exact Or.inl (List.mem_of_getElem? (i := 0) rfl))
  have F114 := Fld.other W112 (F105.ext E109) (Or.inr (slot_ne (C := "java/lang/String") (a0 := a0) (Or.inr (hw _ (List.mem_of_getElem? (i := 23) rfl))) (Or.inr (hw _ (List.mem_of_getElem? (i := 24) rfl))) (by decide) (by decide : parseFieldDescriptor _ = some (.array .byte)) (by decide : parseFieldDescriptor _ = some .byte)))
  have A115 := Exa.wr W112 (A108.ext E109)
  refine gRetV K112 hlk hret b3_26 P113 (by decide) (by decide) ?_
  exact ⟨rfl, b102, _, A115, F112, F114, (((Ab102.keep (Keep.of_wr W105) (ninS (ne102 x (List.mem_of_getElem? (i := 0) rfl)).2.symm nin0)).ext E109).keep (Keep.of_wr W112) (ninS (ne102 x (List.mem_of_getElem? (i := 0) rfl)).2.symm nin0)), (fun _ q => nomatch q), by decide⟩
set_option maxRecDepth 65536 in
set_option maxHeartbeats 40000000 in
theorem c_initE1 (l : Launch) (Z : State) (a0 : Array Value) (hw : ∀ d ∈ tables_1, d.before a0 Z = true) (h0 : Heap) (n0 : Nat) (Z0 : n0 ≤ h0.size) (x b : Addr) (kC : ClassId) (vs : List Value) (dv : Value) (v1 v2 : Value) (gx : n0 ≤ x) (Ex : Exa Z h0 x "java/lang/String") (F1 : Fld Z h0 x "java/lang/String" "value" "[B" v1) (F2 : Fld Z h0 x "java/lang/String" "coder" "B" v2) (Ab : Arv Z h0 b kC .char 0 vs dv) (hE : EW Z a0 [("java/lang/String", 7)]) :
    Con (some [("java/lang/String", 7)]) l (⟨"java/lang/String", "<init>", "([C)V"⟩ : MethodName) jdk_42_method_3_code 2 none [] ({ frames := 2, cells := 4, slots := 8, locals := 29 } : Room) Z n0 h0 [x] #[(.ref x), (.ref b)] (fun v h => v = none ∧ StrL Z h x []) := by
  refine Con.intro pn0 Z0 (allS ⟨gx, Ex.lt⟩ all0) ⟨a0, hE⟩ #[.val (.ref x), .val (.ref b)] (fun m => by first | (simp [entryFrame, mkF, argsToLocals, Value.category]; done) | rfl) ?_
  intro p e s m below meth c T0 hlk hret hnm K0
  have P0 := Keep.refl h0 [x]
  refine gAloadN K0 b2_0 (v := (.ref x)) rfl rfl ?_
  refine gAloadN K0 b2_1 (v := (.ref b)) rfl rfl ?_
  refine gIconst K0 (0 : Int32) b2_2 rfl ?_
  refine gAloadN K0 b2_3 (v := (.ref b)) rfl rfl ?_
  refine gLen K0 b2_4 Ab ?_
  refine gNull K0 b2_5 ?_
  refine gCallI K0 (W := 0) x [(.ref b), (.int (0 : Int32)), (.int (0 : Int32)), .null] [] b2_6 rfl (hw _ (List.mem_of_getElem? (i := 14) rfl)) (hw _ (List.mem_of_getElem? (i := 15) rfl)) (hw _ (List.mem_of_getElem? (i := 17) rfl)) (Cal.ofW (W := 0) (c_initE4 l Z a0 hw h0 n0 K0.n0le x b v1 v2 gx Ex F1 F2 hE) (hw _ (List.mem_of_getElem? (i := 17) rfl)) (hw _ (List.mem_of_getElem? (i := 9) rfl)) (by decide) (by decide)) (fun z q => by cases List.mem_singleton.mp q; exact (List.mem_of_getElem? (i := 0) rfl)) pd0 rfl rfl (Nat.le_of_eq rfl) rfl (by decide) (by decide) (by decide) (fun v101 T101 h101 K101 Q101 q101 => ?_)
  have P102 := P0.trans Q101 (fun z q => by cases List.mem_singleton.mp q; exact Or.inl (List.mem_of_getElem? (i := 0) rfl))
  obtain ⟨rfl, St101⟩ := q101
  refine gRetV K101 hlk hret b2_9 P102 (by decide) (by decide) ?_
  exact ⟨rfl, St101⟩
theorem cal_str {p : Program} {l : Launch} {e : Env} {R : Room} {args : Array Value} {below : List Frame} {W : Nat} {Z : State} {a0 : Array Value} {h : Heap} {n0 : Nat} (hw : ∀ d ∈ tables_1, d.before a0 Z = true) (hE : EW Z a0 [("java/lang/String", 7)]) {x b : Addr} {kC : ClassId} {cs : List Int32} {d v0 c0 : Value} {z : Int32} (n : Nat)
    (hx0 : n0 ≤ x) (hh0 : n0 ≤ h.size) (E : Exa Z h x "java/lang/String") (V : Fld Z h x "java/lang/String" "value" "[B" v0) (C : Fld Z h x "java/lang/String" "coder" "B" c0) (K : Arv Z h b kC .char (Int32.ofNat n) (cs.map Value.int) d) (S : Sta Z h "java/lang/String" "COMPACT_STRINGS" "Z" (.int z)) (hz : ¬ z = 0)
    (hn : cs.length = n) (l2 : n ≤ 4000) (hp : ∀ c ∈ cs, ¬ c < 0 ∧ ¬ (255 : Int32) < c) (hfr : 4 ≤ R.frames) (hlo : W + 65 ≤ R.locals) (ks : Nat) (hk1 : n ≤ ks) (hk2 : 8 ≤ ks) :
    Cal (some [("java/lang/String", 7)]) l R p e below args (⟨"java/lang/String", "<init>", "([C)V"⟩ : MethodName) 3 W Z n0 h [x] #[.ref x, .ref b] 4 ks (fun v h' => v = none ∧ StrL Z h' x cs) := by
  by_cases h0 : n = 0
  · subst h0
    obtain rfl : cs = [] := List.length_eq_zero_iff.mp hn
    exact Cal.mono (Cal.ofW (W := W) (c_initE1 l Z a0 hw h n0 hh0 x b kC _ d v0 c0 hx0 E V C K hE) (hw _ (List.mem_of_getElem? (i := 13) rfl)) (hw _ (List.mem_of_getElem? (i := 9) rfl)) (Nat.le_trans (by decide) hfr) (Nat.le_trans (show W + (2 + 11) + 29 ≤ W + 65 by omega) hlo)) (by decide) hk2 (fun _ _ q => q)
  · exact Cal.mono (cal_strN hw n hx0 hh0 E V C K S hz hn (Nat.pos_of_ne_zero h0) l2 hp hfr hlo) (by decide) hk1 (fun _ _ q => q)

def dg (c : Int32) : Prop := ¬ c < 48 ∧ ¬ (57 : Int32) < c
instance (c : Int32) : Decidable (dg c) := inferInstanceAs (Decidable (_ ∧ _))
def okF : List Int32 → Int32 → Int32
  | [], b => b
  | c :: cs, b => if dg c then okF cs 1 else if c = 46 ∧ ¬ b = 0 then okF cs 0 else 0
theorem okF_nil (b : Int32) : okF [] b = b := rfl
theorem okF_d {c : Int32} (h : dg c) (cs : List Int32) (b : Int32) : okF (c :: cs) b = okF cs 1 := if_pos h
theorem okF_p {c b : Int32} (h : ¬ dg c) (h1 : c = 46) (h2 : ¬ b = 0) (cs : List Int32) : okF (c :: cs) b = okF cs 0 := (if_neg h).trans (if_pos ⟨h1, h2⟩)
theorem okF_x {c b : Int32} (h : ¬ dg c) (h1 : ¬ (c = 46 ∧ ¬ b = 0)) (cs : List Int32) : okF (c :: cs) b = 0 := (if_neg h).trans (if_neg h1)
theorem okF_last {c : Int32} (h : ¬ dg c) : ∀ (cs : List Int32) (b : Int32), okF (cs ++ [c]) b = 0
  | [], b => by
    by_cases q : c = 46 ∧ ¬ b = 0
    · exact okF_p h q.1 q.2 []
    · exact okF_x h q []
  | a :: cs, b => by
    by_cases q : dg a
    · exact (okF_d q (cs ++ [c]) b).trans (okF_last h cs 1)
    · by_cases r : a = 46 ∧ ¬ b = 0
      · exact (okF_p q r.1 r.2 (cs ++ [c])).trans (okF_last h cs 0)
      · exact okF_x q r (cs ++ [c])
theorem okF_10 (cs : List Int32) (b : Int32) : okF (49 :: 46 :: 50 :: 51 :: 52 :: 53 :: 46 :: 54 :: 55 :: 56 :: cs) b = okF cs 1 := by
  rw [okF_d (by decide), okF_p (by decide) rfl (by decide), okF_d (by decide), okF_d (by decide), okF_d (by decide), okF_d (by decide), okF_p (by decide) rfl (by decide), okF_d (by decide), okF_d (by decide), okF_d (by decide)]
theorem drop_s {cs : List Int32} {k : Nat} (h : k < cs.length) : cs.drop k = cs.getD k 0 :: cs.drop (k + 1) := by
  rw [List.getD_eq_getElem?_getD, List.getElem?_eq_getElem h]; exact List.drop_eq_getElem_cons h
theorem ch15 (y : Int32) : ¬ ((48 : Int32) + (y &&& 15)).toUInt32.toUInt16.toUInt32.toInt32 < 0 ∧ ¬ (255 : Int32) < ((48 : Int32) + (y &&& 15)).toUInt32.toUInt16.toUInt32.toInt32 := by
  have h1 := c_and y 15 (by decide)
  have h2 := c_i2c ((48 : Int32) + (y &&& 15))
  have h3 : ((48 : Int32) + (y &&& 15)).toInt = (48 + (y &&& 15).toInt).bmod (2 ^ 32) := Int32.toInt_add _ _
  rw [Int32.lt_iff_toInt_lt, Int32.lt_iff_toInt_lt]
  have e0 : (15 : Int32).toInt = 15 := by decide
  have e3 : (48 : Int32).toInt = 48 := by decide
  have e1 : (255 : Int32).toInt = 255 := by decide
  have e2 : (0 : Int32).toInt = 0 := by decide
  rw [Int.bmod_eq_of_le (by omega) (by omega)] at h3
  omega
theorem sel8 (x : Int32) : x &&& 7 = 0 ∨ x &&& 7 = 1 ∨ x &&& 7 = 2 ∨ x &&& 7 = 3 ∨ x &&& 7 = 4 ∨ x &&& 7 = 5 ∨ x &&& 7 = 6 ∨ x &&& 7 = 7 := by
  have h := c_and x 7 (by decide)
  have e0 : (7 : Int32).toInt = 7 := by decide
  have f : ∀ k : Int32, (x &&& 7).toInt = k.toInt → x &&& 7 = k := fun k q => i_eq q
  have h' : (x &&& 7).toInt = (0 : Int32).toInt ∨ (x &&& 7).toInt = (1 : Int32).toInt ∨ (x &&& 7).toInt = (2 : Int32).toInt ∨ (x &&& 7).toInt = (3 : Int32).toInt ∨ (x &&& 7).toInt = (4 : Int32).toInt ∨ (x &&& 7).toInt = (5 : Int32).toInt ∨ (x &&& 7).toInt = (6 : Int32).toInt ∨ (x &&& 7).toInt = (7 : Int32).toInt := by
    rw [show (0 : Int32).toInt = 0 by decide, show (1 : Int32).toInt = 1 by decide, show (2 : Int32).toInt = 2 by decide, show (3 : Int32).toInt = 3 by decide, show (4 : Int32).toInt = 4 by decide, show (5 : Int32).toInt = 5 by decide, show (6 : Int32).toInt = 6 by decide, show (7 : Int32).toInt = 7 by decide]
    omega
  rcases h' with q | q | q | q | q | q | q | q
  · exact Or.inl (f _ q)
  · exact Or.inr (Or.inl (f _ q))
  · exact Or.inr (Or.inr (Or.inl (f _ q)))
  · exact Or.inr (Or.inr (Or.inr (Or.inl (f _ q))))
  · exact Or.inr (Or.inr (Or.inr (Or.inr (Or.inl (f _ q)))))
  · exact Or.inr (Or.inr (Or.inr (Or.inr (Or.inr (Or.inl (f _ q))))))
  · exact Or.inr (Or.inr (Or.inr (Or.inr (Or.inr (Or.inr (Or.inl (f _ q)))))))
  · exact Or.inr (Or.inr (Or.inr (Or.inr (Or.inr (Or.inr (Or.inr (f _ q)))))))

set_option maxRecDepth 65536 in
set_option maxHeartbeats 40000000 in
theorem c_ch (l : Launch) (Z : State) (a0 : Array Value) (hw : ∀ d ∈ tables_1, d.before a0 Z = true) (h0 : Heap) (n0 : Nat) (Z0 : n0 ≤ h0.size) (v0 : Int32) :
    Con none l (⟨"com/example/stowage/stowage/dicom/UidIsValidPinLaw", "ch", "(I)C"⟩ : MethodName) method_3_code 2 (some .char) [] ({ frames := 0, cells := 0, slots := 0, locals := 0 } : Room) Z n0 h0 [] #[(.int v0)] (fun v h => ∃ r : Int32, v = some (.int r) ∧ (¬ r < 0 ∧ ¬ (255 : Int32) < r)) := by
  refine Con.intro pn1 Z0 (fun _ q => nomatch q) trivial #[.val (.int v0), .unset] (fun m => by first | (simp [entryFrame, mkF, argsToLocals, Value.category]; done) | rfl) ?_
  intro p e s m below meth c T0 hlk hret hnm K0
  have P0 := Keep.refl h0 []
  refine gIloadN K0 b0_0 (v := v0) rfl ?_
  refine gSipush K0 (256 : Int32) b0_1 rfl ?_
  refine gIand K0 b0_4 ?_
  refine gIf_eq K0 b0_5 (fun q5 => ?_) (fun q5 => ?_)
  · skip
    refine gIloadN K0 b0_37 (v := v0) rfl ?_
    refine gSipush K0 (255 : Int32) b0_38 rfl ?_
    refine gIand K0 b0_41 ?_
    refine gI2c K0 b0_42 ?_
    have hr := and255c v0
    generalize ((v0 &&& (255 : Int32))).toUInt32.toUInt16.toUInt32.toInt32 = r at hr ⊢
    refine gRetI K0 hlk hret (by simp) b0_43 (narrow_c hr) P0 (by decide) (by decide) ?_
    exact ⟨_, rfl, hr⟩
  · skip
    refine gIloadN K0 b0_8 (v := v0) rfl ?_
    refine gBipush K0 (9 : Int32) b0_9 rfl ?_
    refine gIushr K0 b0_11 ?_
    refine gBipush K0 (15 : Int32) b0_12 rfl ?_
    refine gIand K0 b0_14 ?_
    refine gIstoreN K0 b0_15 (Ls' := #[.val (.int v0), .val (.int ((XT.ushr v0 (9 : Int32)) &&& (15 : Int32)))]) rfl ?_
    refine gIloadN K0 b0_16 (v := ((XT.ushr v0 (9 : Int32)) &&& (15 : Int32))) rfl ?_
    refine gBipush K0 (10 : Int32) b0_17 rfl ?_
    refine gIcmp_ge K0 b0_19 (fun q19 => ?_) (fun q19 => ?_)
    · skip
      refine gIloadN K0 b0_28 (v := ((XT.ushr v0 (9 : Int32)) &&& (15 : Int32))) rfl ?_
      refine gBipush K0 (10 : Int32) b0_29 rfl ?_
      refine gIcmp_ne K0 b0_31 (fun q31 => ?_) (fun q31 => ?_)
      · skip
        refine gIloadN K0 b0_37 (v := v0) rfl ?_
        refine gSipush K0 (255 : Int32) b0_38 rfl ?_
        refine gIand K0 b0_41 ?_
        refine gI2c K0 b0_42 ?_
        have hr := and255c v0
        generalize ((v0 &&& (255 : Int32))).toUInt32.toUInt16.toUInt32.toInt32 = r at hr ⊢
        refine gRetI K0 hlk hret (by simp) b0_43 (narrow_c hr) P0 (by decide) (by decide) ?_
        exact ⟨_, rfl, hr⟩
      · skip
        refine gBipush K0 (46 : Int32) b0_34 rfl ?_
        refine gRetI K0 hlk hret (by simp) b0_36 rfl P0 (by decide) (by decide) ?_
        exact ⟨_, rfl, by decide⟩
    · skip
      refine gBipush K0 (48 : Int32) b0_22 rfl ?_
      refine gIloadN K0 b0_24 (v := ((XT.ushr v0 (9 : Int32)) &&& (15 : Int32))) rfl ?_
      refine gIadd K0 b0_25 ?_
      refine gI2c K0 b0_26 ?_
      have hr := ch15 (XT.ushr v0 9)
      generalize (((48 : Int32) + ((XT.ushr v0 (9 : Int32)) &&& (15 : Int32)))).toUInt32.toUInt16.toUInt32.toInt32 = r at hr ⊢
      refine gRetI K0 hlk hret (by simp) b0_27 (narrow_c hr) P0 (by decide) (by decide) ?_
      exact ⟨_, rfl, hr⟩
set_option maxRecDepth 65536 in
set_option maxHeartbeats 40000000 in
theorem c_digit (l : Launch) (Z : State) (a0 : Array Value) (hw : ∀ d ∈ tables_1, d.before a0 Z = true) (h0 : Heap) (n0 : Nat) (Z0 : n0 ≤ h0.size) (cc : Int32) :
    Con none l (⟨"com/example/stowage/stowage/dicom/UidIsValidPinLaw", "digit", "(C)Z"⟩ : MethodName) method_5_code 1 (some .boolean) [] ({ frames := 0, cells := 0, slots := 0, locals := 0 } : Room) Z n0 h0 [] #[(.int cc)] (fun v h => v = some (.int (if dg cc then 1 else 0))) := by
  refine Con.intro pn1 Z0 (fun _ q => nomatch q) trivial #[.val (.int cc)] (fun m => by first | (simp [entryFrame, mkF, argsToLocals, Value.category]; done) | rfl) ?_
  intro p e s m below meth c T0 hlk hret hnm K0
  have P0 := Keep.refl h0 []
  refine gIloadN K0 b12_0 (v := cc) rfl ?_
  refine gBipush K0 (48 : Int32) b12_1 rfl ?_
  refine gIcmp_lt K0 b12_3 (fun q3 => ?_) (fun q3 => ?_)
  · skip
    refine gIconst K0 (0 : Int32) b12_16 rfl ?_
    refine gRetI K0 hlk hret (by simp) b12_17 rfl P0 (by decide) (by decide) ?_
    exact congrArg (fun z => some (Value.int z)) (if_neg (fun q => q.1 q3)).symm
  · skip
    refine gIloadN K0 b12_6 (v := cc) rfl ?_
    refine gBipush K0 (57 : Int32) b12_7 rfl ?_
    refine gIcmp_gt K0 b12_9 (fun q9 => ?_) (fun q9 => ?_)
    · skip
      refine gIconst K0 (0 : Int32) b12_16 rfl ?_
      refine gRetI K0 hlk hret (by simp) b12_17 rfl P0 (by decide) (by decide) ?_
      exact congrArg (fun z => some (Value.int z)) (if_neg (fun q => q.2 q9)).symm
    · skip
      refine gIconst K0 (1 : Int32) b12_12 rfl ?_
      refine gGoto K0 b12_13 ?_
      refine gRetI K0 hlk hret (by simp) b12_17 rfl P0 (by decide) (by decide) ?_
      exact congrArg (fun z => some (Value.int z)) (if_pos ⟨q3, q9⟩).symm
set_option maxRecDepth 65536 in
set_option maxHeartbeats 40000000 in
theorem c_dod (l : Launch) (Z : State) (a0 : Array Value) (hw : ∀ d ∈ tables_1, d.before a0 Z = true) (h0 : Heap) (n0 : Nat) (Z0 : n0 ≤ h0.size) (cc : Int32) :
    Con none l (⟨"com/example/stowage/stowage/dicom/UidIsValidPinLaw", "digitOrDot", "(C)Z"⟩ : MethodName) method_6_code 1 (some .boolean) [] ({ frames := 1, cells := 0, slots := 0, locals := 12 } : Room) Z n0 h0 [] #[(.int cc)] (fun v h => v = some (.int (if dg cc ∨ cc = 46 then 1 else 0))) := by
  refine Con.intro pn1 Z0 (fun _ q => nomatch q) trivial #[.val (.int cc)] (fun m => by first | (simp [entryFrame, mkF, argsToLocals, Value.category]; done) | rfl) ?_
  intro p e s m below meth c T0 hlk hret hnm K0
  have P0 := Keep.refl h0 []
  refine gIloadN K0 b18_0 (v := cc) rfl ?_
  refine gCallS K0 (W := 0) [(.int cc)] [] b18_1 (hw _ (List.mem_of_getElem? (i := 57) rfl)) (hw _ (List.mem_of_getElem? (i := 58) rfl)) (hw _ (List.mem_of_getElem? (i := 2) rfl)) (hw _ (List.mem_of_getElem? (i := 59) rfl)) (Cal.ofN (W := 0) (c_digit l Z a0 hw h0 n0 K0.n0le cc) (hw _ (List.mem_of_getElem? (i := 59) rfl)) (hw _ (List.mem_of_getElem? (i := 2) rfl)) (by decide) (by decide)) (fun _ q => nomatch q) pd1 rfl rfl (Nat.le_of_eq rfl) rfl (by decide) (by decide) (by decide) (fun v101 T101 h101 K101 Q101 q101 => ?_)
  have E101 := Ext.of0 Q101
  have P102 := P0.ext E101
  cases q101
  by_cases hd : dg cc
  · skip
    rw [if_pos hd]
    refine gIf_ne K101 b18_4 (fun q4 => ?_) (fun q => absurd q (by first | decide | (intro hh; cases hh) | simp))
    refine gIconst K101 (1 : Int32) b18_13 rfl ?_
    refine gGoto K101 b18_14 ?_
    refine gRetI K101 hlk hret (by simp) b18_18 rfl P102 (by decide) (by decide) ?_
    exact congrArg (fun z => some (Value.int z)) (if_pos (Or.inl hd)).symm
  · skip
    rw [if_neg hd]
    refine gIf_ne K101 b18_4 (fun q => absurd q (by first | decide | (intro hh; cases hh) | simp)) (fun q4 => ?_)
    refine gIloadN K101 b18_7 (v := cc) rfl ?_
    refine gBipush K101 (46 : Int32) b18_8 rfl ?_
    refine gIcmp_ne K101 b18_10 (fun q10 => ?_) (fun q10 => ?_)
    · skip
      refine gIconst K101 (0 : Int32) b18_17 rfl ?_
      refine gRetI K101 hlk hret (by simp) b18_18 rfl P102 (by decide) (by decide) ?_
      exact congrArg (fun z => some (Value.int z)) (if_neg (fun q => q.elim hd q10)).symm
    · skip
      refine gIconst K101 (1 : Int32) b18_13 rfl ?_
      refine gGoto K101 b18_14 ?_
      refine gRetI K101 hlk hret (by simp) b18_18 rfl P102 (by decide) (by decide) ?_
      exact congrArg (fun z => some (Value.int z)) (if_pos (Or.inr q10)).symm
set_option maxRecDepth 65536 in
set_option maxHeartbeats 40000000 in
theorem c_dots (l : Launch) (Z : State) (a0 : Array Value) (hw : ∀ d ∈ tables_1, d.before a0 Z = true) (h0 : Heap) (n0 : Nat) (Z0 : n0 ≤ h0.size) (cc cd : Int32) :
    Con none l (⟨"com/example/stowage/stowage/dicom/UidIsValidPinLaw", "dots", "(CC)Z"⟩ : MethodName) method_7_code 2 (some .boolean) [] ({ frames := 0, cells := 0, slots := 0, locals := 0 } : Room) Z n0 h0 [] #[(.int cc), (.int cd)] (fun v h => v = some (.int (if cc = 46 ∧ cd = 46 then 1 else 0))) := by
  refine Con.intro pn1 Z0 (fun _ q => nomatch q) trivial #[.val (.int cc), .val (.int cd)] (fun m => by first | (simp [entryFrame, mkF, argsToLocals, Value.category]; done) | rfl) ?_
  intro p e s m below meth c T0 hlk hret hnm K0
  have P0 := Keep.refl h0 []
  refine gIloadN K0 b19_0 (v := cc) rfl ?_
  refine gBipush K0 (46 : Int32) b19_1 rfl ?_
  refine gIcmp_ne K0 b19_3 (fun q3 => ?_) (fun q3 => ?_)
  · skip
    refine gIconst K0 (0 : Int32) b19_16 rfl ?_
    refine gRetI K0 hlk hret (by simp) b19_17 rfl P0 (by decide) (by decide) ?_
    exact congrArg (fun z => some (Value.int z)) (if_neg (fun q => q3 q.1)).symm
  · skip
    refine gIloadN K0 b19_6 (v := cd) rfl ?_
    refine gBipush K0 (46 : Int32) b19_7 rfl ?_
    refine gIcmp_ne K0 b19_9 (fun q9 => ?_) (fun q9 => ?_)
    · skip
      refine gIconst K0 (0 : Int32) b19_16 rfl ?_
      refine gRetI K0 hlk hret (by simp) b19_17 rfl P0 (by decide) (by decide) ?_
      exact congrArg (fun z => some (Value.int z)) (if_neg (fun q => q9 q.2)).symm
    · skip
      refine gIconst K0 (1 : Int32) b19_12 rfl ?_
      refine gGoto K0 b19_13 ?_
      refine gRetI K0 hlk hret (by simp) b19_17 rfl P0 (by decide) (by decide) ?_
      exact congrArg (fun z => some (Value.int z)) (if_pos ⟨q3, q9⟩).symm
set_option maxRecDepth 65536 in
set_option maxHeartbeats 40000000 in
theorem c_short0 (l : Launch) (Z : State) (a0 : Array Value) (hw : ∀ d ∈ tables_1, d.before a0 Z = true) (h0 : Heap) (n0 : Nat) (Z0 : n0 ≤ h0.size) (hE : EW Z a0 [("java/lang/String", 7)]) (c0 c1 c2 c3 : Int32) (hb_c0 : ¬ c0 < 0 ∧ ¬ (255 : Int32) < c0) (hb_c1 : ¬ c1 < 0 ∧ ¬ (255 : Int32) < c1) (hb_c2 : ¬ c2 < 0 ∧ ¬ (255 : Int32) < c2) (hb_c3 : ¬ c3 < 0 ∧ ¬ (255 : Int32) < c3) (z : Int32) (Sc : Sta Z h0 "java/lang/String" "COMPACT_STRINGS" "Z" (.int z)) (hz : ¬ z = 0) :
    Con (some [("java/lang/String", 7)]) l (⟨"com/example/stowage/stowage/dicom/UidIsValidPinLaw", "shortText", "(ICCCC)Ljava/lang/String;"⟩ : MethodName) method_4_code 5 (some (.object "java/lang/String")) [] ({ frames := 4, cells := 6, slots := 16, locals := 80 } : Room) Z n0 h0 [] #[(.int (0 : Int32)), (.int c0), (.int c1), (.int c2), (.int c3)] (fun v h => ∃ x : Addr, v = some (.ref x) ∧ StrL Z h x []) := by
  refine Con.intro pn1 Z0 (fun _ q => nomatch q) ⟨a0, hE⟩ #[.val (.int (0 : Int32)), .val (.int c0), .val (.int c1), .val (.int c2), .val (.int c3)] (fun m => by first | (simp [entryFrame, mkF, argsToLocals, Value.category]; done) | rfl) ?_
  intro p e s m below meth c T0 hlk hret hnm K0
  have P0 := Keep.refl h0 []
  refine gIloadN K0 b1_0 (v := (0 : Int32)) rfl ?_
  refine gIf_ne K0 b1_1 (fun q => absurd q (by first | decide | (intro hh; cases hh) | simp)) (fun q1 => ?_)
  refine gNew K0 b1_4 (hw _ (List.mem_of_getElem? (i := 7) rfl)) (hw _ (List.mem_of_getElem? (i := 8) rfl)) (hw _ (List.mem_of_getElem? (i := 9) rfl)) (by decide) (by decide) (fun T101 h101 x101 K101 E101 g101 A101 D101 ne101 => ?_)
  have P102 := P0.ext E101
  have ge_x101 : h0.size ≤ x101 := by rw [g101]; exact P0.1
  have F103 : Fld Z h101 x101 "java/lang/String" "value" "[B" .null := (D101 (Or.inr (hw _ (List.mem_of_getElem? (i := 23) rfl))) (ty := (.array .byte)) (by decide))
  have F104 : Fld Z h101 x101 "java/lang/String" "coder" "B" (.int (0 : Int32)) := (D101 (Or.inr (hw _ (List.mem_of_getElem? (i := 24) rfl))) (ty := .byte) (by decide))
  refine gDup K101 b1_7 rfl ?_
  refine gIconst K101 (0 : Int32) b1_8 rfl ?_
  refine gNewarr K101 b1_9 (hw _ (List.mem_of_getElem? (i := 10) rfl)) (by decide) 0 (by decide) (by decide) (by decide) (by decide) (fun T105 h105 x105 kA105 K105 E105 g105 A105 ne105 => ?_)
  have P106 := P102.ext E105
  have ge_x105 : h0.size ≤ x105 := by rw [g105]; exact P102.1
  refine gCallI K105 (W := 1) x101 [(.ref x105)] [(.ref x101)] b1_11 rfl (hw _ (List.mem_of_getElem? (i := 11) rfl)) (hw _ (List.mem_of_getElem? (i := 12) rfl)) (hw _ (List.mem_of_getElem? (i := 13) rfl)) (cal_str hw hE (W := 1) (cs := []) 0 (K105.wsge (List.mem_of_getElem? (i := 1) rfl)) K105.n0le (A101.ext E105) (F103.ext E105) (F104.ext E105) A105 (Sc.ext (Ext.tr E101 E105)) hz rfl (by decide) allI0 (by decide) (by decide) 8 (by decide) (by decide)) (fun z q => by cases List.mem_singleton.mp q; exact (List.mem_of_getElem? (i := 1) rfl)) pd2 rfl rfl (Nat.le_of_eq rfl) rfl (by decide) (by decide) (by decide) (fun v107 T107 h107 K107 Q107 q107 => ?_)
  have P108 := P106.trans Q107 (fun z q => by cases List.mem_singleton.mp q; exact Or.inr ge_x101)
  obtain ⟨rfl, St107⟩ := q107
  refine gRetA K107 hlk hret rfl rfl b1_14 P108 (by decide) (by decide) ?_
  exact ⟨_, rfl, St107⟩
set_option maxRecDepth 65536 in
set_option maxHeartbeats 40000000 in
theorem c_short1 (l : Launch) (Z : State) (a0 : Array Value) (hw : ∀ d ∈ tables_1, d.before a0 Z = true) (h0 : Heap) (n0 : Nat) (Z0 : n0 ≤ h0.size) (hE : EW Z a0 [("java/lang/String", 7)]) (c0 c1 c2 c3 : Int32) (hb_c0 : ¬ c0 < 0 ∧ ¬ (255 : Int32) < c0) (hb_c1 : ¬ c1 < 0 ∧ ¬ (255 : Int32) < c1) (hb_c2 : ¬ c2 < 0 ∧ ¬ (255 : Int32) < c2) (hb_c3 : ¬ c3 < 0 ∧ ¬ (255 : Int32) < c3) (z : Int32) (Sc : Sta Z h0 "java/lang/String" "COMPACT_STRINGS" "Z" (.int z)) (hz : ¬ z = 0) :
    Con (some [("java/lang/String", 7)]) l (⟨"com/example/stowage/stowage/dicom/UidIsValidPinLaw", "shortText", "(ICCCC)Ljava/lang/String;"⟩ : MethodName) method_4_code 5 (some (.object "java/lang/String")) [] ({ frames := 4, cells := 6, slots := 16, locals := 80 } : Room) Z n0 h0 [] #[(.int (1 : Int32)), (.int c0), (.int c1), (.int c2), (.int c3)] (fun v h => ∃ x : Addr, v = some (.ref x) ∧ StrL Z h x [c0]) := by
  refine Con.intro pn1 Z0 (fun _ q => nomatch q) ⟨a0, hE⟩ #[.val (.int (1 : Int32)), .val (.int c0), .val (.int c1), .val (.int c2), .val (.int c3)] (fun m => by first | (simp [entryFrame, mkF, argsToLocals, Value.category]; done) | rfl) ?_
  intro p e s m below meth c T0 hlk hret hnm K0
  have P0 := Keep.refl h0 []
  refine gIloadN K0 b1_0 (v := (1 : Int32)) rfl ?_
  refine gIf_ne K0 b1_1 (fun q1 => ?_) (fun q => absurd q (by first | decide | (intro hh; cases hh) | simp))
  refine gIloadN K0 b1_15 (v := (1 : Int32)) rfl ?_
  refine gIconst K0 (1 : Int32) b1_16 rfl ?_
  refine gIcmp_ne K0 b1_17 (fun q => absurd q (by first | decide | (intro hh; cases hh) | simp)) (fun q17 => ?_)
  refine gNew K0 b1_20 (hw _ (List.mem_of_getElem? (i := 7) rfl)) (hw _ (List.mem_of_getElem? (i := 8) rfl)) (hw _ (List.mem_of_getElem? (i := 9) rfl)) (by decide) (by decide) (fun T101 h101 x101 K101 E101 g101 A101 D101 ne101 => ?_)
  have P102 := P0.ext E101
  have ge_x101 : h0.size ≤ x101 := by rw [g101]; exact P0.1
  have F103 : Fld Z h101 x101 "java/lang/String" "value" "[B" .null := (D101 (Or.inr (hw _ (List.mem_of_getElem? (i := 23) rfl))) (ty := (.array .byte)) (by decide))
  have F104 : Fld Z h101 x101 "java/lang/String" "coder" "B" (.int (0 : Int32)) := (D101 (Or.inr (hw _ (List.mem_of_getElem? (i := 24) rfl))) (ty := .byte) (by decide))
  refine gDup K101 b1_23 rfl ?_
  refine gIconst K101 (1 : Int32) b1_24 rfl ?_
  refine gNewarr K101 b1_25 (hw _ (List.mem_of_getElem? (i := 10) rfl)) (by decide) 1 (by decide) (by decide) (by decide) (by decide) (fun T105 h105 x105 kA105 K105 E105 g105 A105 ne105 => ?_)
  have P106 := P102.ext E105
  have ge_x105 : h0.size ≤ x105 := by rw [g105]; exact P102.1
  refine gDup K105 b1_27 rfl ?_
  refine gIconst K105 (0 : Int32) b1_28 rfl ?_
  refine gIloadN K105 b1_29 (v := c0) rfl ?_
  refine gCastore K105 b1_30 (List.mem_of_getElem? (i := 0) rfl) A105 rfl (by decide) hb_c0.1 (ch_up hb_c0.2) (fun T107 h107 K107 Q107 A107 => ?_)
  have P108 := P106.trans Q107 (fun z q => by cases List.mem_singleton.mp q; exact Or.inr ge_x105)
  refine gCallI K107 (W := 1) x101 [(.ref x105)] [(.ref x101)] b1_31 rfl (hw _ (List.mem_of_getElem? (i := 11) rfl)) (hw _ (List.mem_of_getElem? (i := 12) rfl)) (hw _ (List.mem_of_getElem? (i := 13) rfl)) (cal_str hw hE (W := 1) (cs := [c0]) 1 (K107.wsge (List.mem_of_getElem? (i := 1) rfl)) K107.n0le (A101.ext (Ext.kp1 E105 Q107 (Nat.le_of_eq g105.symm))) (F103.ext (Ext.kp1 E105 Q107 (Nat.le_of_eq g105.symm))) (F104.ext (Ext.kp1 E105 Q107 (Nat.le_of_eq g105.symm))) A107 (Sc.ext (Ext.kp1 (Ext.tr E101 E105) Q107 (Nat.le_trans E101.1 (Nat.le_of_eq g105.symm)))) hz rfl (by decide) (allI hb_c0 allI0) (by decide) (by decide) 8 (by decide) (by decide)) (fun z q => by cases List.mem_singleton.mp q; exact (List.mem_of_getElem? (i := 1) rfl)) pd2 rfl rfl (Nat.le_of_eq rfl) rfl (by decide) (by decide) (by decide) (fun v109 T109 h109 K109 Q109 q109 => ?_)
  have P110 := P108.trans Q109 (fun z q => by cases List.mem_singleton.mp q; exact Or.inr ge_x101)
  obtain ⟨rfl, St109⟩ := q109
  refine gRetA K109 hlk hret rfl rfl b1_34 P110 (by decide) (by decide) ?_
  exact ⟨_, rfl, St109⟩
set_option maxRecDepth 65536 in
set_option maxHeartbeats 40000000 in
theorem c_short2 (l : Launch) (Z : State) (a0 : Array Value) (hw : ∀ d ∈ tables_1, d.before a0 Z = true) (h0 : Heap) (n0 : Nat) (Z0 : n0 ≤ h0.size) (hE : EW Z a0 [("java/lang/String", 7)]) (c0 c1 c2 c3 : Int32) (hb_c0 : ¬ c0 < 0 ∧ ¬ (255 : Int32) < c0) (hb_c1 : ¬ c1 < 0 ∧ ¬ (255 : Int32) < c1) (hb_c2 : ¬ c2 < 0 ∧ ¬ (255 : Int32) < c2) (hb_c3 : ¬ c3 < 0 ∧ ¬ (255 : Int32) < c3) (z : Int32) (Sc : Sta Z h0 "java/lang/String" "COMPACT_STRINGS" "Z" (.int z)) (hz : ¬ z = 0) :
    Con (some [("java/lang/String", 7)]) l (⟨"com/example/stowage/stowage/dicom/UidIsValidPinLaw", "shortText", "(ICCCC)Ljava/lang/String;"⟩ : MethodName) method_4_code 5 (some (.object "java/lang/String")) [] ({ frames := 4, cells := 6, slots := 16, locals := 80 } : Room) Z n0 h0 [] #[(.int (2 : Int32)), (.int c0), (.int c1), (.int c2), (.int c3)] (fun v h => ∃ x : Addr, v = some (.ref x) ∧ StrL Z h x [c0, c1]) := by
  refine Con.intro pn1 Z0 (fun _ q => nomatch q) ⟨a0, hE⟩ #[.val (.int (2 : Int32)), .val (.int c0), .val (.int c1), .val (.int c2), .val (.int c3)] (fun m => by first | (simp [entryFrame, mkF, argsToLocals, Value.category]; done) | rfl) ?_
  intro p e s m below meth c T0 hlk hret hnm K0
  have P0 := Keep.refl h0 []
  refine gIloadN K0 b1_0 (v := (2 : Int32)) rfl ?_
  refine gIf_ne K0 b1_1 (fun q1 => ?_) (fun q => absurd q (by first | decide | (intro hh; cases hh) | simp))
  refine gIloadN K0 b1_15 (v := (2 : Int32)) rfl ?_
  refine gIconst K0 (1 : Int32) b1_16 rfl ?_
  refine gIcmp_ne K0 b1_17 (fun q17 => ?_) (fun q => absurd q (by first | decide | (intro hh; cases hh) | simp))
  refine gIloadN K0 b1_35 (v := (2 : Int32)) rfl ?_
  refine gIconst K0 (2 : Int32) b1_36 rfl ?_
  refine gIcmp_ne K0 b1_37 (fun q => absurd q (by first | decide | (intro hh; cases hh) | simp)) (fun q37 => ?_)
  refine gNew K0 b1_40 (hw _ (List.mem_of_getElem? (i := 7) rfl)) (hw _ (List.mem_of_getElem? (i := 8) rfl)) (hw _ (List.mem_of_getElem? (i := 9) rfl)) (by decide) (by decide) (fun T101 h101 x101 K101 E101 g101 A101 D101 ne101 => ?_)
  have P102 := P0.ext E101
  have ge_x101 : h0.size ≤ x101 := by rw [g101]; exact P0.1
  have F103 : Fld Z h101 x101 "java/lang/String" "value" "[B" .null := (D101 (Or.inr (hw _ (List.mem_of_getElem? (i := 23) rfl))) (ty := (.array .byte)) (by decide))
  have F104 : Fld Z h101 x101 "java/lang/String" "coder" "B" (.int (0 : Int32)) := (D101 (Or.inr (hw _ (List.mem_of_getElem? (i := 24) rfl))) (ty := .byte) (by decide))
  refine gDup K101 b1_43 rfl ?_
  refine gIconst K101 (2 : Int32) b1_44 rfl ?_
  refine gNewarr K101 b1_45 (hw _ (List.mem_of_getElem? (i := 10) rfl)) (by decide) 2 (by decide) (by decide) (by decide) (by decide) (fun T105 h105 x105 kA105 K105 E105 g105 A105 ne105 => ?_)
  have P106 := P102.ext E105
  have ge_x105 : h0.size ≤ x105 := by rw [g105]; exact P102.1
  refine gDup K105 b1_47 rfl ?_
  refine gIconst K105 (0 : Int32) b1_48 rfl ?_
  refine gIloadN K105 b1_49 (v := c0) rfl ?_
  refine gCastore K105 b1_50 (List.mem_of_getElem? (i := 0) rfl) A105 rfl (by decide) hb_c0.1 (ch_up hb_c0.2) (fun T107 h107 K107 Q107 A107 => ?_)
  have P108 := P106.trans Q107 (fun z q => by cases List.mem_singleton.mp q; exact Or.inr ge_x105)
  refine gDup K107 b1_51 rfl ?_
  refine gIconst K107 (1 : Int32) b1_52 rfl ?_
  refine gIloadN K107 b1_53 (v := c1) rfl ?_
  refine gCastore K107 b1_54 (List.mem_of_getElem? (i := 0) rfl) A107 rfl (by decide) hb_c1.1 (ch_up hb_c1.2) (fun T109 h109 K109 Q109 A109 => ?_)
  have P110 := P108.trans Q109 (fun z q => by cases List.mem_singleton.mp q; exact Or.inr ge_x105)
  refine gCallI K109 (W := 1) x101 [(.ref x105)] [(.ref x101)] b1_55 rfl (hw _ (List.mem_of_getElem? (i := 11) rfl)) (hw _ (List.mem_of_getElem? (i := 12) rfl)) (hw _ (List.mem_of_getElem? (i := 13) rfl)) (cal_str hw hE (W := 1) (cs := [c0, c1]) 2 (K109.wsge (List.mem_of_getElem? (i := 1) rfl)) K109.n0le (A101.ext (Ext.kp1 (Ext.kp1 E105 Q107 (Nat.le_of_eq g105.symm)) Q109 (Nat.le_of_eq g105.symm))) (F103.ext (Ext.kp1 (Ext.kp1 E105 Q107 (Nat.le_of_eq g105.symm)) Q109 (Nat.le_of_eq g105.symm))) (F104.ext (Ext.kp1 (Ext.kp1 E105 Q107 (Nat.le_of_eq g105.symm)) Q109 (Nat.le_of_eq g105.symm))) A109 (Sc.ext (Ext.kp1 (Ext.kp1 (Ext.tr E101 E105) Q107 (Nat.le_trans E101.1 (Nat.le_of_eq g105.symm))) Q109 (Nat.le_trans E101.1 (Nat.le_of_eq g105.symm)))) hz rfl (by decide) (allI hb_c0 (allI hb_c1 allI0)) (by decide) (by decide) 8 (by decide) (by decide)) (fun z q => by cases List.mem_singleton.mp q; exact (List.mem_of_getElem? (i := 1) rfl)) pd2 rfl rfl (Nat.le_of_eq rfl) rfl (by decide) (by decide) (by decide) (fun v111 T111 h111 K111 Q111 q111 => ?_)
  have P112 := P110.trans Q111 (fun z q => by cases List.mem_singleton.mp q; exact Or.inr ge_x101)
  obtain ⟨rfl, St111⟩ := q111
  refine gRetA K111 hlk hret rfl rfl b1_58 P112 (by decide) (by decide) ?_
  exact ⟨_, rfl, St111⟩
set_option maxRecDepth 65536 in
set_option maxHeartbeats 40000000 in
theorem c_short3 (l : Launch) (Z : State) (a0 : Array Value) (hw : ∀ d ∈ tables_1, d.before a0 Z = true) (h0 : Heap) (n0 : Nat) (Z0 : n0 ≤ h0.size) (hE : EW Z a0 [("java/lang/String", 7)]) (c0 c1 c2 c3 : Int32) (hb_c0 : ¬ c0 < 0 ∧ ¬ (255 : Int32) < c0) (hb_c1 : ¬ c1 < 0 ∧ ¬ (255 : Int32) < c1) (hb_c2 : ¬ c2 < 0 ∧ ¬ (255 : Int32) < c2) (hb_c3 : ¬ c3 < 0 ∧ ¬ (255 : Int32) < c3) (z : Int32) (Sc : Sta Z h0 "java/lang/String" "COMPACT_STRINGS" "Z" (.int z)) (hz : ¬ z = 0) :
    Con (some [("java/lang/String", 7)]) l (⟨"com/example/stowage/stowage/dicom/UidIsValidPinLaw", "shortText", "(ICCCC)Ljava/lang/String;"⟩ : MethodName) method_4_code 5 (some (.object "java/lang/String")) [] ({ frames := 4, cells := 6, slots := 16, locals := 80 } : Room) Z n0 h0 [] #[(.int (3 : Int32)), (.int c0), (.int c1), (.int c2), (.int c3)] (fun v h => ∃ x : Addr, v = some (.ref x) ∧ StrL Z h x [c0, c1, c2]) := by
  refine Con.intro pn1 Z0 (fun _ q => nomatch q) ⟨a0, hE⟩ #[.val (.int (3 : Int32)), .val (.int c0), .val (.int c1), .val (.int c2), .val (.int c3)] (fun m => by first | (simp [entryFrame, mkF, argsToLocals, Value.category]; done) | rfl) ?_
  intro p e s m below meth c T0 hlk hret hnm K0
  have P0 := Keep.refl h0 []
  refine gIloadN K0 b1_0 (v := (3 : Int32)) rfl ?_
  refine gIf_ne K0 b1_1 (fun q1 => ?_) (fun q => absurd q (by first | decide | (intro hh; cases hh) | simp))
  refine gIloadN K0 b1_15 (v := (3 : Int32)) rfl ?_
  refine gIconst K0 (1 : Int32) b1_16 rfl ?_
  refine gIcmp_ne K0 b1_17 (fun q17 => ?_) (fun q => absurd q (by first | decide | (intro hh; cases hh) | simp))
  refine gIloadN K0 b1_35 (v := (3 : Int32)) rfl ?_
  refine gIconst K0 (2 : Int32) b1_36 rfl ?_
  refine gIcmp_ne K0 b1_37 (fun q37 => ?_) (fun q => absurd q (by first | decide | (intro hh; cases hh) | simp))
  refine gIloadN K0 b1_59 (v := (3 : Int32)) rfl ?_
  refine gIconst K0 (3 : Int32) b1_60 rfl ?_
  refine gIcmp_ne K0 b1_61 (fun q => absurd q (by first | decide | (intro hh; cases hh) | simp)) (fun q61 => ?_)
  refine gNew K0 b1_64 (hw _ (List.mem_of_getElem? (i := 7) rfl)) (hw _ (List.mem_of_getElem? (i := 8) rfl)) (hw _ (List.mem_of_getElem? (i := 9) rfl)) (by decide) (by decide) (fun T101 h101 x101 K101 E101 g101 A101 D101 ne101 => ?_)
  have P102 := P0.ext E101
  have ge_x101 : h0.size ≤ x101 := by rw [g101]; exact P0.1
  have F103 : Fld Z h101 x101 "java/lang/String" "value" "[B" .null := (D101 (Or.inr (hw _ (List.mem_of_getElem? (i := 23) rfl))) (ty := (.array .byte)) (by decide))
  have F104 : Fld Z h101 x101 "java/lang/String" "coder" "B" (.int (0 : Int32)) := (D101 (Or.inr (hw _ (List.mem_of_getElem? (i := 24) rfl))) (ty := .byte) (by decide))
  refine gDup K101 b1_67 rfl ?_
  refine gIconst K101 (3 : Int32) b1_68 rfl ?_
  refine gNewarr K101 b1_69 (hw _ (List.mem_of_getElem? (i := 10) rfl)) (by decide) 3 (by decide) (by decide) (by decide) (by decide) (fun T105 h105 x105 kA105 K105 E105 g105 A105 ne105 => ?_)
  have P106 := P102.ext E105
  have ge_x105 : h0.size ≤ x105 := by rw [g105]; exact P102.1
  refine gDup K105 b1_71 rfl ?_
  refine gIconst K105 (0 : Int32) b1_72 rfl ?_
  refine gIloadN K105 b1_73 (v := c0) rfl ?_
  refine gCastore K105 b1_74 (List.mem_of_getElem? (i := 0) rfl) A105 rfl (by decide) hb_c0.1 (ch_up hb_c0.2) (fun T107 h107 K107 Q107 A107 => ?_)
  have P108 := P106.trans Q107 (fun z q => by cases List.mem_singleton.mp q; exact Or.inr ge_x105)
  refine gDup K107 b1_75 rfl ?_
  refine gIconst K107 (1 : Int32) b1_76 rfl ?_
  refine gIloadN K107 b1_77 (v := c1) rfl ?_
  refine gCastore K107 b1_78 (List.mem_of_getElem? (i := 0) rfl) A107 rfl (by decide) hb_c1.1 (ch_up hb_c1.2) (fun T109 h109 K109 Q109 A109 => ?_)
  have P110 := P108.trans Q109 (fun z q => by cases List.mem_singleton.mp q; exact Or.inr ge_x105)
  refine gDup K109 b1_79 rfl ?_
  refine gIconst K109 (2 : Int32) b1_80 rfl ?_
  refine gIloadN K109 b1_81 (v := c2) rfl ?_
  refine gCastore K109 b1_82 (List.mem_of_getElem? (i := 0) rfl) A109 rfl (by decide) hb_c2.1 (ch_up hb_c2.2) (fun T111 h111 K111 Q111 A111 => ?_)
  have P112 := P110.trans Q111 (fun z q => by cases List.mem_singleton.mp q; exact Or.inr ge_x105)
  refine gCallI K111 (W := 1) x101 [(.ref x105)] [(.ref x101)] b1_83 rfl (hw _ (List.mem_of_getElem? (i := 11) rfl)) (hw _ (List.mem_of_getElem? (i := 12) rfl)) (hw _ (List.mem_of_getElem? (i := 13) rfl)) (cal_str hw hE (W := 1) (cs := [c0, c1, c2]) 3 (K111.wsge (List.mem_of_getElem? (i := 1) rfl)) K111.n0le (A101.ext (Ext.kp1 (Ext.kp1 (Ext.kp1 E105 Q107 (Nat.le_of_eq g105.symm)) Q109 (Nat.le_of_eq g105.symm)) Q111 (Nat.le_of_eq g105.symm))) (F103.ext (Ext.kp1 (Ext.kp1 (Ext.kp1 E105 Q107 (Nat.le_of_eq g105.symm)) Q109 (Nat.le_of_eq g105.symm)) Q111 (Nat.le_of_eq g105.symm))) (F104.ext (Ext.kp1 (Ext.kp1 (Ext.kp1 E105 Q107 (Nat.le_of_eq g105.symm)) Q109 (Nat.le_of_eq g105.symm)) Q111 (Nat.le_of_eq g105.symm))) A111 (Sc.ext (Ext.kp1 (Ext.kp1 (Ext.kp1 (Ext.tr E101 E105) Q107 (Nat.le_trans E101.1 (Nat.le_of_eq g105.symm))) Q109 (Nat.le_trans E101.1 (Nat.le_of_eq g105.symm))) Q111 (Nat.le_trans E101.1 (Nat.le_of_eq g105.symm)))) hz rfl (by decide) (allI hb_c0 (allI hb_c1 (allI hb_c2 allI0))) (by decide) (by decide) 8 (by decide) (by decide)) (fun z q => by cases List.mem_singleton.mp q; exact (List.mem_of_getElem? (i := 1) rfl)) pd2 rfl rfl (Nat.le_of_eq rfl) rfl (by decide) (by decide) (by decide) (fun v113 T113 h113 K113 Q113 q113 => ?_)
  have P114 := P112.trans Q113 (fun z q => by cases List.mem_singleton.mp q; exact Or.inr ge_x101)
  obtain ⟨rfl, St113⟩ := q113
  refine gRetA K113 hlk hret rfl rfl b1_86 P114 (by decide) (by decide) ?_
  exact ⟨_, rfl, St113⟩
set_option maxRecDepth 65536 in
set_option maxHeartbeats 40000000 in
theorem c_short4 (l : Launch) (Z : State) (a0 : Array Value) (hw : ∀ d ∈ tables_1, d.before a0 Z = true) (h0 : Heap) (n0 : Nat) (Z0 : n0 ≤ h0.size) (hE : EW Z a0 [("java/lang/String", 7)]) (c0 c1 c2 c3 : Int32) (hb_c0 : ¬ c0 < 0 ∧ ¬ (255 : Int32) < c0) (hb_c1 : ¬ c1 < 0 ∧ ¬ (255 : Int32) < c1) (hb_c2 : ¬ c2 < 0 ∧ ¬ (255 : Int32) < c2) (hb_c3 : ¬ c3 < 0 ∧ ¬ (255 : Int32) < c3) (z : Int32) (Sc : Sta Z h0 "java/lang/String" "COMPACT_STRINGS" "Z" (.int z)) (hz : ¬ z = 0) :
    Con (some [("java/lang/String", 7)]) l (⟨"com/example/stowage/stowage/dicom/UidIsValidPinLaw", "shortText", "(ICCCC)Ljava/lang/String;"⟩ : MethodName) method_4_code 5 (some (.object "java/lang/String")) [] ({ frames := 4, cells := 6, slots := 16, locals := 80 } : Room) Z n0 h0 [] #[(.int (4 : Int32)), (.int c0), (.int c1), (.int c2), (.int c3)] (fun v h => ∃ x : Addr, v = some (.ref x) ∧ StrL Z h x [c0, c1, c2, c3]) := by
  refine Con.intro pn1 Z0 (fun _ q => nomatch q) ⟨a0, hE⟩ #[.val (.int (4 : Int32)), .val (.int c0), .val (.int c1), .val (.int c2), .val (.int c3)] (fun m => by first | (simp [entryFrame, mkF, argsToLocals, Value.category]; done) | rfl) ?_
  intro p e s m below meth c T0 hlk hret hnm K0
  have P0 := Keep.refl h0 []
  refine gIloadN K0 b1_0 (v := (4 : Int32)) rfl ?_
  refine gIf_ne K0 b1_1 (fun q1 => ?_) (fun q => absurd q (by first | decide | (intro hh; cases hh) | simp))
  refine gIloadN K0 b1_15 (v := (4 : Int32)) rfl ?_
  refine gIconst K0 (1 : Int32) b1_16 rfl ?_
  refine gIcmp_ne K0 b1_17 (fun q17 => ?_) (fun q => absurd q (by first | decide | (intro hh; cases hh) | simp))
  refine gIloadN K0 b1_35 (v := (4 : Int32)) rfl ?_
  refine gIconst K0 (2 : Int32) b1_36 rfl ?_
  refine gIcmp_ne K0 b1_37 (fun q37 => ?_) (fun q => absurd q (by first | decide | (intro hh; cases hh) | simp))
  refine gIloadN K0 b1_59 (v := (4 : Int32)) rfl ?_
  refine gIconst K0 (3 : Int32) b1_60 rfl ?_
  refine gIcmp_ne K0 b1_61 (fun q61 => ?_) (fun q => absurd q (by first | decide | (intro hh; cases hh) | simp))
  refine gNew K0 b1_87 (hw _ (List.mem_of_getElem? (i := 7) rfl)) (hw _ (List.mem_of_getElem? (i := 8) rfl)) (hw _ (List.mem_of_getElem? (i := 9) rfl)) (by decide) (by decide) (fun T101 h101 x101 K101 E101 g101 A101 D101 ne101 => ?_)
  have P102 := P0.ext E101
  have ge_x101 : h0.size ≤ x101 := by rw [g101]; exact P0.1
  have F103 : Fld Z h101 x101 "java/lang/String" "value" "[B" .null := (D101 (Or.inr (hw _ (List.mem_of_getElem? (i := 23) rfl))) (ty := (.array .byte)) (by decide))
  have F104 : Fld Z h101 x101 "java/lang/String" "coder" "B" (.int (0 : Int32)) := (D101 (Or.inr (hw _ (List.mem_of_getElem? (i := 24) rfl))) (ty := .byte) (by decide))
  refine gDup K101 b1_90 rfl ?_
  refine gIconst K101 (4 : Int32) b1_91 rfl ?_
  refine gNewarr K101 b1_92 (hw _ (List.mem_of_getElem? (i := 10) rfl)) (by decide) 4 (by decide) (by decide) (by decide) (by decide) (fun T105 h105 x105 kA105 K105 E105 g105 A105 ne105 => ?_)
  have P106 := P102.ext E105
  have ge_x105 : h0.size ≤ x105 := by rw [g105]; exact P102.1
  refine gDup K105 b1_94 rfl ?_
  refine gIconst K105 (0 : Int32) b1_95 rfl ?_
  refine gIloadN K105 b1_96 (v := c0) rfl ?_
  refine gCastore K105 b1_97 (List.mem_of_getElem? (i := 0) rfl) A105 rfl (by decide) hb_c0.1 (ch_up hb_c0.2) (fun T107 h107 K107 Q107 A107 => ?_)
  have P108 := P106.trans Q107 (fun z q => by cases List.mem_singleton.mp q; exact Or.inr ge_x105)
  refine gDup K107 b1_98 rfl ?_
  refine gIconst K107 (1 : Int32) b1_99 rfl ?_
  refine gIloadN K107 b1_100 (v := c1) rfl ?_
  refine gCastore K107 b1_101 (List.mem_of_getElem? (i := 0) rfl) A107 rfl (by decide) hb_c1.1 (ch_up hb_c1.2) (fun T109 h109 K109 Q109 A109 => ?_)
  have P110 := P108.trans Q109 (fun z q => by cases List.mem_singleton.mp q; exact Or.inr ge_x105)
  refine gDup K109 b1_102 rfl ?_
  refine gIconst K109 (2 : Int32) b1_103 rfl ?_
  refine gIloadN K109 b1_104 (v := c2) rfl ?_
  refine gCastore K109 b1_105 (List.mem_of_getElem? (i := 0) rfl) A109 rfl (by decide) hb_c2.1 (ch_up hb_c2.2) (fun T111 h111 K111 Q111 A111 => ?_)
  have P112 := P110.trans Q111 (fun z q => by cases List.mem_singleton.mp q; exact Or.inr ge_x105)
  refine gDup K111 b1_106 rfl ?_
  refine gIconst K111 (3 : Int32) b1_107 rfl ?_
  refine gIload K111 b1_108 (v := c3) rfl ?_
  refine gCastore K111 b1_110 (List.mem_of_getElem? (i := 0) rfl) A111 rfl (by decide) hb_c3.1 (ch_up hb_c3.2) (fun T113 h113 K113 Q113 A113 => ?_)
  have P114 := P112.trans Q113 (fun z q => by cases List.mem_singleton.mp q; exact Or.inr ge_x105)
  refine gCallI K113 (W := 1) x101 [(.ref x105)] [(.ref x101)] b1_111 rfl (hw _ (List.mem_of_getElem? (i := 11) rfl)) (hw _ (List.mem_of_getElem? (i := 12) rfl)) (hw _ (List.mem_of_getElem? (i := 13) rfl)) (cal_str hw hE (W := 1) (cs := [c0, c1, c2, c3]) 4 (K113.wsge (List.mem_of_getElem? (i := 1) rfl)) K113.n0le (A101.ext (Ext.kp1 (Ext.kp1 (Ext.kp1 (Ext.kp1 E105 Q107 (Nat.le_of_eq g105.symm)) Q109 (Nat.le_of_eq g105.symm)) Q111 (Nat.le_of_eq g105.symm)) Q113 (Nat.le_of_eq g105.symm))) (F103.ext (Ext.kp1 (Ext.kp1 (Ext.kp1 (Ext.kp1 E105 Q107 (Nat.le_of_eq g105.symm)) Q109 (Nat.le_of_eq g105.symm)) Q111 (Nat.le_of_eq g105.symm)) Q113 (Nat.le_of_eq g105.symm))) (F104.ext (Ext.kp1 (Ext.kp1 (Ext.kp1 (Ext.kp1 E105 Q107 (Nat.le_of_eq g105.symm)) Q109 (Nat.le_of_eq g105.symm)) Q111 (Nat.le_of_eq g105.symm)) Q113 (Nat.le_of_eq g105.symm))) A113 (Sc.ext (Ext.kp1 (Ext.kp1 (Ext.kp1 (Ext.kp1 (Ext.tr E101 E105) Q107 (Nat.le_trans E101.1 (Nat.le_of_eq g105.symm))) Q109 (Nat.le_trans E101.1 (Nat.le_of_eq g105.symm))) Q111 (Nat.le_trans E101.1 (Nat.le_of_eq g105.symm))) Q113 (Nat.le_trans E101.1 (Nat.le_of_eq g105.symm)))) hz rfl (by decide) (allI hb_c0 (allI hb_c1 (allI hb_c2 (allI hb_c3 allI0)))) (by decide) (by decide) 8 (by decide) (by decide)) (fun z q => by cases List.mem_singleton.mp q; exact (List.mem_of_getElem? (i := 1) rfl)) pd2 rfl rfl (Nat.le_of_eq rfl) rfl (by decide) (by decide) (by decide) (fun v115 T115 h115 K115 Q115 q115 => ?_)
  have P116 := P114.trans Q115 (fun z q => by cases List.mem_singleton.mp q; exact Or.inr ge_x101)
  obtain ⟨rfl, St115⟩ := q115
  refine gRetA K115 hlk hret rfl rfl b1_114 P116 (by decide) (by decide) ?_
  exact ⟨_, rfl, St115⟩
set_option maxRecDepth 65536 in
set_option maxHeartbeats 40000000 in
theorem c_tail00 (l : Launch) (Z : State) (a0 : Array Value) (hw : ∀ d ∈ tables_1, d.before a0 Z = true) (h0 : Heap) (n0 : Nat) (Z0 : n0 ≤ h0.size) (c0 c1 c2 c3 : Int32) :
    Con none l (⟨"com/example/stowage/stowage/dicom/UidIsValidPinLaw", "tailOk", "(ZICCCC)Z"⟩ : MethodName) method_8_code 7 (some .boolean) [] ({ frames := 2, cells := 0, slots := 0, locals := 32 } : Room) Z n0 h0 [] #[(.int (0 : Int32)), (.int (0 : Int32)), (.int c0), (.int c1), (.int c2), (.int c3)] (fun v h => v = some (.int (okF [] (0 : Int32)))) := by
  refine Con.intro pn1 Z0 (fun _ q => nomatch q) trivial #[.val (.int (0 : Int32)), .val (.int (0 : Int32)), .val (.int c0), .val (.int c1), .val (.int c2), .val (.int c3), .unset] (fun m => by first | (simp [entryFrame, mkF, argsToLocals, Value.category]; done) | rfl) ?_
  intro p e s m below meth c T0 hlk hret hnm K0
  have P0 := Keep.refl h0 []
  refine gIloadN K0 b5_0 (v := (0 : Int32)) rfl ?_
  refine gIf_ne K0 b5_1 (fun q => absurd q (by first | decide | (intro hh; cases hh) | simp)) (fun q1 => ?_)
  refine gIloadN K0 b5_4 (v := (0 : Int32)) rfl ?_
  refine gRetI K0 hlk hret (by simp) b5_5 rfl P0 (by decide) (by decide) ?_
  exact rfl
set_option maxRecDepth 65536 in
set_option maxHeartbeats 40000000 in
theorem c_tail01 (l : Launch) (Z : State) (a0 : Array Value) (hw : ∀ d ∈ tables_1, d.before a0 Z = true) (h0 : Heap) (n0 : Nat) (Z0 : n0 ≤ h0.size) (c0 c1 c2 c3 : Int32) :
    Con none l (⟨"com/example/stowage/stowage/dicom/UidIsValidPinLaw", "tailOk", "(ZICCCC)Z"⟩ : MethodName) method_8_code 7 (some .boolean) [] ({ frames := 2, cells := 0, slots := 0, locals := 32 } : Room) Z n0 h0 [] #[(.int (0 : Int32)), (.int (1 : Int32)), (.int c0), (.int c1), (.int c2), (.int c3)] (fun v h => v = some (.int (okF [c0] (0 : Int32)))) := by
  refine Con.intro pn1 Z0 (fun _ q => nomatch q) trivial #[.val (.int (0 : Int32)), .val (.int (1 : Int32)), .val (.int c0), .val (.int c1), .val (.int c2), .val (.int c3), .unset] (fun m => by first | (simp [entryFrame, mkF, argsToLocals, Value.category]; done) | rfl) ?_
  intro p e s m below meth c T0 hlk hret hnm K0
  have P0 := Keep.refl h0 []
  refine gIloadN K0 b5_0 (v := (1 : Int32)) rfl ?_
  refine gIf_ne K0 b5_1 (fun q1 => ?_) (fun q => absurd q (by first | decide | (intro hh; cases hh) | simp))
  refine gIloadN K0 b5_6 (v := (1 : Int32)) rfl ?_
  refine gIconst K0 (1 : Int32) b5_7 rfl ?_
  refine gIcmp_ne K0 b5_8 (fun q => absurd q (by first | decide | (intro hh; cases hh) | simp)) (fun q8 => ?_)
  refine gIloadN K0 b5_11 (v := c0) rfl ?_
  refine gGoto K0 b5_12 ?_
  refine gIstore K0 b5_36 (Ls' := #[.val (.int (0 : Int32)), .val (.int (1 : Int32)), .val (.int c0), .val (.int c1), .val (.int c2), .val (.int c3), .val (.int c0)]) rfl ?_
  refine gIloadN K0 b5_38 (v := (0 : Int32)) rfl ?_
  refine gIf_ne K0 b5_39 (fun q => absurd q (by first | decide | (intro hh; cases hh) | simp)) (fun q39 => ?_)
  refine gIloadN K0 b5_42 (v := c0) rfl ?_
  refine gCallS K0 (W := 0) [(.int c0)] [] b5_43 (hw _ (List.mem_of_getElem? (i := 57) rfl)) (hw _ (List.mem_of_getElem? (i := 58) rfl)) (hw _ (List.mem_of_getElem? (i := 2) rfl)) (hw _ (List.mem_of_getElem? (i := 59) rfl)) (Cal.ofN (W := 0) (c_digit l Z a0 hw h0 n0 K0.n0le c0) (hw _ (List.mem_of_getElem? (i := 59) rfl)) (hw _ (List.mem_of_getElem? (i := 2) rfl)) (by decide) (by decide)) (fun _ q => nomatch q) pd1 rfl rfl (Nat.le_of_eq rfl) rfl (by decide) (by decide) (by decide) (fun v101 T101 h101 K101 Q101 q101 => ?_)
  have E101 := Ext.of0 Q101
  have P102 := P0.ext E101
  cases q101
  by_cases hd_c0 : dg c0
  · skip
    rw [if_pos hd_c0]
    refine gIf_ne K101 b5_46 (fun q46 => ?_) (fun q => absurd q (by first | decide | (intro hh; cases hh) | simp))
    refine gIload K101 b5_51 (v := c0) rfl ?_
    refine gCallS K101 (W := 0) [(.int c0)] [] b5_53 (hw _ (List.mem_of_getElem? (i := 57) rfl)) (hw _ (List.mem_of_getElem? (i := 58) rfl)) (hw _ (List.mem_of_getElem? (i := 2) rfl)) (hw _ (List.mem_of_getElem? (i := 59) rfl)) (Cal.ofN (W := 0) (c_digit l Z a0 hw h101 n0 K101.n0le c0) (hw _ (List.mem_of_getElem? (i := 59) rfl)) (hw _ (List.mem_of_getElem? (i := 2) rfl)) (by decide) (by decide)) (fun _ q => nomatch q) pd1 rfl rfl (Nat.le_of_eq rfl) rfl (by decide) (by decide) (by decide) (fun v103 T103 h103 K103 Q103 q103 => ?_)
    have E103 := Ext.of0 Q103
    have P104 := P102.ext E103
    cases q103
    rw [if_pos hd_c0]
    refine gIf_ne K103 b5_56 (fun q56 => ?_) (fun q => absurd q (by first | decide | (intro hh; cases hh) | simp))
    refine gIloadN K103 b5_61 (v := c0) rfl ?_
    refine gCallS K103 (W := 0) [(.int c0)] [] b5_62 (hw _ (List.mem_of_getElem? (i := 82) rfl)) (hw _ (List.mem_of_getElem? (i := 83) rfl)) (hw _ (List.mem_of_getElem? (i := 2) rfl)) (hw _ (List.mem_of_getElem? (i := 84) rfl)) (Cal.ofN (W := 0) (c_dod l Z a0 hw h103 n0 K103.n0le c0) (hw _ (List.mem_of_getElem? (i := 84) rfl)) (hw _ (List.mem_of_getElem? (i := 2) rfl)) (by decide) (by decide)) (fun _ q => nomatch q) pd1 rfl rfl (Nat.le_of_eq rfl) rfl (by decide) (by decide) (by decide) (fun v105 T105 h105 K105 Q105 q105 => ?_)
    have E105 := Ext.of0 Q105
    have P106 := P104.ext E105
    cases q105
    rw [if_pos (Or.inl hd_c0)]
    refine gIf_ne K105 b5_65 (fun q65 => ?_) (fun q => absurd q (by first | decide | (intro hh; cases hh) | simp))
    refine gIloadN K105 b5_70 (v := (1 : Int32)) rfl ?_
    refine gIconst K105 (2 : Int32) b5_71 rfl ?_
    refine gIcmp_lt K105 b5_72 (fun q72 => ?_) (fun q => absurd q (by first | decide | (intro hh; cases hh) | simp))
    refine gIloadN K105 b5_92 (v := (1 : Int32)) rfl ?_
    refine gIconst K105 (3 : Int32) b5_93 rfl ?_
    refine gIcmp_lt K105 b5_94 (fun q94 => ?_) (fun q => absurd q (by first | decide | (intro hh; cases hh) | simp))
    refine gIloadN K105 b5_116 (v := (1 : Int32)) rfl ?_
    refine gIconst K105 (4 : Int32) b5_117 rfl ?_
    refine gIcmp_lt K105 b5_118 (fun q118 => ?_) (fun q => absurd q (by first | decide | (intro hh; cases hh) | simp))
    refine gIconst K105 (1 : Int32) b5_141 rfl ?_
    refine gRetI K105 hlk hret (by simp) b5_142 rfl P106 (by decide) (by decide) ?_
    rw [okF_d hd_c0, okF_nil]
  · skip
    rw [if_neg hd_c0]
    refine gIf_ne K101 b5_46 (fun q => absurd q (by first | decide | (intro hh; cases hh) | simp)) (fun q46 => ?_)
    refine gIconst K101 (0 : Int32) b5_49 rfl ?_
    refine gRetI K101 hlk hret (by simp) b5_50 rfl P102 (by decide) (by decide) ?_
    exact congrArg (fun z => some (Value.int z)) (okF_last hd_c0 [] (0 : Int32)).symm
set_option maxRecDepth 65536 in
set_option maxHeartbeats 40000000 in
theorem c_tail02 (l : Launch) (Z : State) (a0 : Array Value) (hw : ∀ d ∈ tables_1, d.before a0 Z = true) (h0 : Heap) (n0 : Nat) (Z0 : n0 ≤ h0.size) (c0 c1 c2 c3 : Int32) :
    Con none l (⟨"com/example/stowage/stowage/dicom/UidIsValidPinLaw", "tailOk", "(ZICCCC)Z"⟩ : MethodName) method_8_code 7 (some .boolean) [] ({ frames := 2, cells := 0, slots := 0, locals := 32 } : Room) Z n0 h0 [] #[(.int (0 : Int32)), (.int (2 : Int32)), (.int c0), (.int c1), (.int c2), (.int c3)] (fun v h => v = some (.int (okF [c0, c1] (0 : Int32)))) := by
  refine Con.intro pn1 Z0 (fun _ q => nomatch q) trivial #[.val (.int (0 : Int32)), .val (.int (2 : Int32)), .val (.int c0), .val (.int c1), .val (.int c2), .val (.int c3), .unset] (fun m => by first | (simp [entryFrame, mkF, argsToLocals, Value.category]; done) | rfl) ?_
  intro p e s m below meth c T0 hlk hret hnm K0
  have P0 := Keep.refl h0 []
  refine gIloadN K0 b5_0 (v := (2 : Int32)) rfl ?_
  refine gIf_ne K0 b5_1 (fun q1 => ?_) (fun q => absurd q (by first | decide | (intro hh; cases hh) | simp))
  refine gIloadN K0 b5_6 (v := (2 : Int32)) rfl ?_
  refine gIconst K0 (1 : Int32) b5_7 rfl ?_
  refine gIcmp_ne K0 b5_8 (fun q8 => ?_) (fun q => absurd q (by first | decide | (intro hh; cases hh) | simp))
  refine gIloadN K0 b5_15 (v := (2 : Int32)) rfl ?_
  refine gIconst K0 (2 : Int32) b5_16 rfl ?_
  refine gIcmp_ne K0 b5_17 (fun q => absurd q (by first | decide | (intro hh; cases hh) | simp)) (fun q17 => ?_)
  refine gIloadN K0 b5_20 (v := c1) rfl ?_
  refine gGoto K0 b5_21 ?_
  refine gIstore K0 b5_36 (Ls' := #[.val (.int (0 : Int32)), .val (.int (2 : Int32)), .val (.int c0), .val (.int c1), .val (.int c2), .val (.int c3), .val (.int c1)]) rfl ?_
  refine gIloadN K0 b5_38 (v := (0 : Int32)) rfl ?_
  refine gIf_ne K0 b5_39 (fun q => absurd q (by first | decide | (intro hh; cases hh) | simp)) (fun q39 => ?_)
  refine gIloadN K0 b5_42 (v := c0) rfl ?_
  refine gCallS K0 (W := 0) [(.int c0)] [] b5_43 (hw _ (List.mem_of_getElem? (i := 57) rfl)) (hw _ (List.mem_of_getElem? (i := 58) rfl)) (hw _ (List.mem_of_getElem? (i := 2) rfl)) (hw _ (List.mem_of_getElem? (i := 59) rfl)) (Cal.ofN (W := 0) (c_digit l Z a0 hw h0 n0 K0.n0le c0) (hw _ (List.mem_of_getElem? (i := 59) rfl)) (hw _ (List.mem_of_getElem? (i := 2) rfl)) (by decide) (by decide)) (fun _ q => nomatch q) pd1 rfl rfl (Nat.le_of_eq rfl) rfl (by decide) (by decide) (by decide) (fun v101 T101 h101 K101 Q101 q101 => ?_)
  have E101 := Ext.of0 Q101
  have P102 := P0.ext E101
  cases q101
  by_cases hd_c0 : dg c0
  · skip
    rw [if_pos hd_c0]
    refine gIf_ne K101 b5_46 (fun q46 => ?_) (fun q => absurd q (by first | decide | (intro hh; cases hh) | simp))
    refine gIload K101 b5_51 (v := c1) rfl ?_
    refine gCallS K101 (W := 0) [(.int c1)] [] b5_53 (hw _ (List.mem_of_getElem? (i := 57) rfl)) (hw _ (List.mem_of_getElem? (i := 58) rfl)) (hw _ (List.mem_of_getElem? (i := 2) rfl)) (hw _ (List.mem_of_getElem? (i := 59) rfl)) (Cal.ofN (W := 0) (c_digit l Z a0 hw h101 n0 K101.n0le c1) (hw _ (List.mem_of_getElem? (i := 59) rfl)) (hw _ (List.mem_of_getElem? (i := 2) rfl)) (by decide) (by decide)) (fun _ q => nomatch q) pd1 rfl rfl (Nat.le_of_eq rfl) rfl (by decide) (by decide) (by decide) (fun v103 T103 h103 K103 Q103 q103 => ?_)
    have E103 := Ext.of0 Q103
    have P104 := P102.ext E103
    cases q103
    by_cases hd_c1 : dg c1
    · skip
      rw [if_pos hd_c1]
      refine gIf_ne K103 b5_56 (fun q56 => ?_) (fun q => absurd q (by first | decide | (intro hh; cases hh) | simp))
      refine gIloadN K103 b5_61 (v := c0) rfl ?_
      refine gCallS K103 (W := 0) [(.int c0)] [] b5_62 (hw _ (List.mem_of_getElem? (i := 82) rfl)) (hw _ (List.mem_of_getElem? (i := 83) rfl)) (hw _ (List.mem_of_getElem? (i := 2) rfl)) (hw _ (List.mem_of_getElem? (i := 84) rfl)) (Cal.ofN (W := 0) (c_dod l Z a0 hw h103 n0 K103.n0le c0) (hw _ (List.mem_of_getElem? (i := 84) rfl)) (hw _ (List.mem_of_getElem? (i := 2) rfl)) (by decide) (by decide)) (fun _ q => nomatch q) pd1 rfl rfl (Nat.le_of_eq rfl) rfl (by decide) (by decide) (by decide) (fun v105 T105 h105 K105 Q105 q105 => ?_)
      have E105 := Ext.of0 Q105
      have P106 := P104.ext E105
      cases q105
      rw [if_pos (Or.inl hd_c0)]
      refine gIf_ne K105 b5_65 (fun q65 => ?_) (fun q => absurd q (by first | decide | (intro hh; cases hh) | simp))
      refine gIloadN K105 b5_70 (v := (2 : Int32)) rfl ?_
      refine gIconst K105 (2 : Int32) b5_71 rfl ?_
      refine gIcmp_lt K105 b5_72 (fun q => absurd q (by first | decide | (intro hh; cases hh) | simp)) (fun q72 => ?_)
      refine gIloadN K105 b5_75 (v := c1) rfl ?_
      refine gCallS K105 (W := 0) [(.int c1)] [] b5_76 (hw _ (List.mem_of_getElem? (i := 82) rfl)) (hw _ (List.mem_of_getElem? (i := 83) rfl)) (hw _ (List.mem_of_getElem? (i := 2) rfl)) (hw _ (List.mem_of_getElem? (i := 84) rfl)) (Cal.ofN (W := 0) (c_dod l Z a0 hw h105 n0 K105.n0le c1) (hw _ (List.mem_of_getElem? (i := 84) rfl)) (hw _ (List.mem_of_getElem? (i := 2) rfl)) (by decide) (by decide)) (fun _ q => nomatch q) pd1 rfl rfl (Nat.le_of_eq rfl) rfl (by decide) (by decide) (by decide) (fun v107 T107 h107 K107 Q107 q107 => ?_)
      have E107 := Ext.of0 Q107
      have P108 := P106.ext E107
      cases q107
      rw [if_pos (Or.inl hd_c1)]
      refine gIf_eq K107 b5_79 (fun q => absurd q (by first | decide | (intro hh; cases hh) | simp)) (fun q79 => ?_)
      refine gIloadN K107 b5_82 (v := c0) rfl ?_
      refine gIloadN K107 b5_83 (v := c1) rfl ?_
      refine gCallS K107 (W := 0) [(.int c0), (.int c1)] [] b5_84 (hw _ (List.mem_of_getElem? (i := 85) rfl)) (hw _ (List.mem_of_getElem? (i := 86) rfl)) (hw _ (List.mem_of_getElem? (i := 2) rfl)) (hw _ (List.mem_of_getElem? (i := 87) rfl)) (Cal.ofN (W := 0) (c_dots l Z a0 hw h107 n0 K107.n0le c0 c1) (hw _ (List.mem_of_getElem? (i := 87) rfl)) (hw _ (List.mem_of_getElem? (i := 2) rfl)) (by decide) (by decide)) (fun _ q => nomatch q) pd3 rfl rfl (Nat.le_of_eq rfl) rfl (by decide) (by decide) (by decide) (fun v109 T109 h109 K109 Q109 q109 => ?_)
      have E109 := Ext.of0 Q109
      have P110 := P108.ext E109
      cases q109
      rw [if_neg (fun q => (fun e => absurd hd_c0 (by rw [e]; decide)) q.1)]
      refine gIf_eq K109 b5_87 (fun q87 => ?_) (fun q => absurd q (by first | decide | (intro hh; cases hh) | simp))
      refine gIloadN K109 b5_92 (v := (2 : Int32)) rfl ?_
      refine gIconst K109 (3 : Int32) b5_93 rfl ?_
      refine gIcmp_lt K109 b5_94 (fun q94 => ?_) (fun q => absurd q (by first | decide | (intro hh; cases hh) | simp))
      refine gIloadN K109 b5_116 (v := (2 : Int32)) rfl ?_
      refine gIconst K109 (4 : Int32) b5_117 rfl ?_
      refine gIcmp_lt K109 b5_118 (fun q118 => ?_) (fun q => absurd q (by first | decide | (intro hh; cases hh) | simp))
      refine gIconst K109 (1 : Int32) b5_141 rfl ?_
      refine gRetI K109 hlk hret (by simp) b5_142 rfl P110 (by decide) (by decide) ?_
      rw [okF_d hd_c0, okF_d hd_c1, okF_nil]
    · skip
      rw [if_neg hd_c1]
      refine gIf_ne K103 b5_56 (fun q => absurd q (by first | decide | (intro hh; cases hh) | simp)) (fun q56 => ?_)
      refine gIconst K103 (0 : Int32) b5_59 rfl ?_
      refine gRetI K103 hlk hret (by simp) b5_60 rfl P104 (by decide) (by decide) ?_
      exact congrArg (fun z => some (Value.int z)) (okF_last hd_c1 [c0] (0 : Int32)).symm
  · skip
    rw [if_neg hd_c0]
    refine gIf_ne K101 b5_46 (fun q => absurd q (by first | decide | (intro hh; cases hh) | simp)) (fun q46 => ?_)
    refine gIconst K101 (0 : Int32) b5_49 rfl ?_
    refine gRetI K101 hlk hret (by simp) b5_50 rfl P102 (by decide) (by decide) ?_
    rw [okF_x hd_c0 (fun q => q.2 rfl)]
set_option maxRecDepth 65536 in
set_option maxHeartbeats 40000000 in
theorem c_tail03 (l : Launch) (Z : State) (a0 : Array Value) (hw : ∀ d ∈ tables_1, d.before a0 Z = true) (h0 : Heap) (n0 : Nat) (Z0 : n0 ≤ h0.size) (c0 c1 c2 c3 : Int32) :
    Con none l (⟨"com/example/stowage/stowage/dicom/UidIsValidPinLaw", "tailOk", "(ZICCCC)Z"⟩ : MethodName) method_8_code 7 (some .boolean) [] ({ frames := 2, cells := 0, slots := 0, locals := 32 } : Room) Z n0 h0 [] #[(.int (0 : Int32)), (.int (3 : Int32)), (.int c0), (.int c1), (.int c2), (.int c3)] (fun v h => v = some (.int (okF [c0, c1, c2] (0 : Int32)))) := by
  refine Con.intro pn1 Z0 (fun _ q => nomatch q) trivial #[.val (.int (0 : Int32)), .val (.int (3 : Int32)), .val (.int c0), .val (.int c1), .val (.int c2), .val (.int c3), .unset] (fun m => by first | (simp [entryFrame, mkF, argsToLocals, Value.category]; done) | rfl) ?_
  intro p e s m below meth c T0 hlk hret hnm K0
  have P0 := Keep.refl h0 []
  refine gIloadN K0 b5_0 (v := (3 : Int32)) rfl ?_
  refine gIf_ne K0 b5_1 (fun q1 => ?_) (fun q => absurd q (by first | decide | (intro hh; cases hh) | simp))
  refine gIloadN K0 b5_6 (v := (3 : Int32)) rfl ?_
  refine gIconst K0 (1 : Int32) b5_7 rfl ?_
  refine gIcmp_ne K0 b5_8 (fun q8 => ?_) (fun q => absurd q (by first | decide | (intro hh; cases hh) | simp))
  refine gIloadN K0 b5_15 (v := (3 : Int32)) rfl ?_
  refine gIconst K0 (2 : Int32) b5_16 rfl ?_
  refine gIcmp_ne K0 b5_17 (fun q17 => ?_) (fun q => absurd q (by first | decide | (intro hh; cases hh) | simp))
  refine gIloadN K0 b5_24 (v := (3 : Int32)) rfl ?_
  refine gIconst K0 (3 : Int32) b5_25 rfl ?_
  refine gIcmp_ne K0 b5_26 (fun q => absurd q (by first | decide | (intro hh; cases hh) | simp)) (fun q26 => ?_)
  refine gIload K0 b5_29 (v := c2) rfl ?_
  refine gGoto K0 b5_31 ?_
  refine gIstore K0 b5_36 (Ls' := #[.val (.int (0 : Int32)), .val (.int (3 : Int32)), .val (.int c0), .val (.int c1), .val (.int c2), .val (.int c3), .val (.int c2)]) rfl ?_
  refine gIloadN K0 b5_38 (v := (0 : Int32)) rfl ?_
  refine gIf_ne K0 b5_39 (fun q => absurd q (by first | decide | (intro hh; cases hh) | simp)) (fun q39 => ?_)
  refine gIloadN K0 b5_42 (v := c0) rfl ?_
  refine gCallS K0 (W := 0) [(.int c0)] [] b5_43 (hw _ (List.mem_of_getElem? (i := 57) rfl)) (hw _ (List.mem_of_getElem? (i := 58) rfl)) (hw _ (List.mem_of_getElem? (i := 2) rfl)) (hw _ (List.mem_of_getElem? (i := 59) rfl)) (Cal.ofN (W := 0) (c_digit l Z a0 hw h0 n0 K0.n0le c0) (hw _ (List.mem_of_getElem? (i := 59) rfl)) (hw _ (List.mem_of_getElem? (i := 2) rfl)) (by decide) (by decide)) (fun _ q => nomatch q) pd1 rfl rfl (Nat.le_of_eq rfl) rfl (by decide) (by decide) (by decide) (fun v101 T101 h101 K101 Q101 q101 => ?_)
  have E101 := Ext.of0 Q101
  have P102 := P0.ext E101
  cases q101
  by_cases hd_c0 : dg c0
  · skip
    rw [if_pos hd_c0]
    refine gIf_ne K101 b5_46 (fun q46 => ?_) (fun q => absurd q (by first | decide | (intro hh; cases hh) | simp))
    refine gIload K101 b5_51 (v := c2) rfl ?_
    refine gCallS K101 (W := 0) [(.int c2)] [] b5_53 (hw _ (List.mem_of_getElem? (i := 57) rfl)) (hw _ (List.mem_of_getElem? (i := 58) rfl)) (hw _ (List.mem_of_getElem? (i := 2) rfl)) (hw _ (List.mem_of_getElem? (i := 59) rfl)) (Cal.ofN (W := 0) (c_digit l Z a0 hw h101 n0 K101.n0le c2) (hw _ (List.mem_of_getElem? (i := 59) rfl)) (hw _ (List.mem_of_getElem? (i := 2) rfl)) (by decide) (by decide)) (fun _ q => nomatch q) pd1 rfl rfl (Nat.le_of_eq rfl) rfl (by decide) (by decide) (by decide) (fun v103 T103 h103 K103 Q103 q103 => ?_)
    have E103 := Ext.of0 Q103
    have P104 := P102.ext E103
    cases q103
    by_cases hd_c2 : dg c2
    · skip
      rw [if_pos hd_c2]
      refine gIf_ne K103 b5_56 (fun q56 => ?_) (fun q => absurd q (by first | decide | (intro hh; cases hh) | simp))
      refine gIloadN K103 b5_61 (v := c0) rfl ?_
      refine gCallS K103 (W := 0) [(.int c0)] [] b5_62 (hw _ (List.mem_of_getElem? (i := 82) rfl)) (hw _ (List.mem_of_getElem? (i := 83) rfl)) (hw _ (List.mem_of_getElem? (i := 2) rfl)) (hw _ (List.mem_of_getElem? (i := 84) rfl)) (Cal.ofN (W := 0) (c_dod l Z a0 hw h103 n0 K103.n0le c0) (hw _ (List.mem_of_getElem? (i := 84) rfl)) (hw _ (List.mem_of_getElem? (i := 2) rfl)) (by decide) (by decide)) (fun _ q => nomatch q) pd1 rfl rfl (Nat.le_of_eq rfl) rfl (by decide) (by decide) (by decide) (fun v105 T105 h105 K105 Q105 q105 => ?_)
      have E105 := Ext.of0 Q105
      have P106 := P104.ext E105
      cases q105
      rw [if_pos (Or.inl hd_c0)]
      refine gIf_ne K105 b5_65 (fun q65 => ?_) (fun q => absurd q (by first | decide | (intro hh; cases hh) | simp))
      refine gIloadN K105 b5_70 (v := (3 : Int32)) rfl ?_
      refine gIconst K105 (2 : Int32) b5_71 rfl ?_
      refine gIcmp_lt K105 b5_72 (fun q => absurd q (by first | decide | (intro hh; cases hh) | simp)) (fun q72 => ?_)
      refine gIloadN K105 b5_75 (v := c1) rfl ?_
      refine gCallS K105 (W := 0) [(.int c1)] [] b5_76 (hw _ (List.mem_of_getElem? (i := 82) rfl)) (hw _ (List.mem_of_getElem? (i := 83) rfl)) (hw _ (List.mem_of_getElem? (i := 2) rfl)) (hw _ (List.mem_of_getElem? (i := 84) rfl)) (Cal.ofN (W := 0) (c_dod l Z a0 hw h105 n0 K105.n0le c1) (hw _ (List.mem_of_getElem? (i := 84) rfl)) (hw _ (List.mem_of_getElem? (i := 2) rfl)) (by decide) (by decide)) (fun _ q => nomatch q) pd1 rfl rfl (Nat.le_of_eq rfl) rfl (by decide) (by decide) (by decide) (fun v107 T107 h107 K107 Q107 q107 => ?_)
      have E107 := Ext.of0 Q107
      have P108 := P106.ext E107
      cases q107
      by_cases hd_c1 : dg c1
      · skip
        rw [if_pos (Or.inl hd_c1)]
        refine gIf_eq K107 b5_79 (fun q => absurd q (by first | decide | (intro hh; cases hh) | simp)) (fun q79 => ?_)
        refine gIloadN K107 b5_82 (v := c0) rfl ?_
        refine gIloadN K107 b5_83 (v := c1) rfl ?_
        refine gCallS K107 (W := 0) [(.int c0), (.int c1)] [] b5_84 (hw _ (List.mem_of_getElem? (i := 85) rfl)) (hw _ (List.mem_of_getElem? (i := 86) rfl)) (hw _ (List.mem_of_getElem? (i := 2) rfl)) (hw _ (List.mem_of_getElem? (i := 87) rfl)) (Cal.ofN (W := 0) (c_dots l Z a0 hw h107 n0 K107.n0le c0 c1) (hw _ (List.mem_of_getElem? (i := 87) rfl)) (hw _ (List.mem_of_getElem? (i := 2) rfl)) (by decide) (by decide)) (fun _ q => nomatch q) pd3 rfl rfl (Nat.le_of_eq rfl) rfl (by decide) (by decide) (by decide) (fun v109 T109 h109 K109 Q109 q109 => ?_)
        have E109 := Ext.of0 Q109
        have P110 := P108.ext E109
        cases q109
        rw [if_neg (fun q => (fun e => absurd hd_c0 (by rw [e]; decide)) q.1)]
        refine gIf_eq K109 b5_87 (fun q87 => ?_) (fun q => absurd q (by first | decide | (intro hh; cases hh) | simp))
        refine gIloadN K109 b5_92 (v := (3 : Int32)) rfl ?_
        refine gIconst K109 (3 : Int32) b5_93 rfl ?_
        refine gIcmp_lt K109 b5_94 (fun q => absurd q (by first | decide | (intro hh; cases hh) | simp)) (fun q94 => ?_)
        refine gIload K109 b5_97 (v := c2) rfl ?_
        refine gCallS K109 (W := 0) [(.int c2)] [] b5_99 (hw _ (List.mem_of_getElem? (i := 82) rfl)) (hw _ (List.mem_of_getElem? (i := 83) rfl)) (hw _ (List.mem_of_getElem? (i := 2) rfl)) (hw _ (List.mem_of_getElem? (i := 84) rfl)) (Cal.ofN (W := 0) (c_dod l Z a0 hw h109 n0 K109.n0le c2) (hw _ (List.mem_of_getElem? (i := 84) rfl)) (hw _ (List.mem_of_getElem? (i := 2) rfl)) (by decide) (by decide)) (fun _ q => nomatch q) pd1 rfl rfl (Nat.le_of_eq rfl) rfl (by decide) (by decide) (by decide) (fun v111 T111 h111 K111 Q111 q111 => ?_)
        have E111 := Ext.of0 Q111
        have P112 := P110.ext E111
        cases q111
        rw [if_pos (Or.inl hd_c2)]
        refine gIf_eq K111 b5_102 (fun q => absurd q (by first | decide | (intro hh; cases hh) | simp)) (fun q102 => ?_)
        refine gIloadN K111 b5_105 (v := c1) rfl ?_
        refine gIload K111 b5_106 (v := c2) rfl ?_
        refine gCallS K111 (W := 0) [(.int c1), (.int c2)] [] b5_108 (hw _ (List.mem_of_getElem? (i := 85) rfl)) (hw _ (List.mem_of_getElem? (i := 86) rfl)) (hw _ (List.mem_of_getElem? (i := 2) rfl)) (hw _ (List.mem_of_getElem? (i := 87) rfl)) (Cal.ofN (W := 0) (c_dots l Z a0 hw h111 n0 K111.n0le c1 c2) (hw _ (List.mem_of_getElem? (i := 87) rfl)) (hw _ (List.mem_of_getElem? (i := 2) rfl)) (by decide) (by decide)) (fun _ q => nomatch q) pd3 rfl rfl (Nat.le_of_eq rfl) rfl (by decide) (by decide) (by decide) (fun v113 T113 h113 K113 Q113 q113 => ?_)
        have E113 := Ext.of0 Q113
        have P114 := P112.ext E113
        cases q113
        rw [if_neg (fun q => (fun e => absurd hd_c1 (by rw [e]; decide)) q.1)]
        refine gIf_eq K113 b5_111 (fun q111 => ?_) (fun q => absurd q (by first | decide | (intro hh; cases hh) | simp))
        refine gIloadN K113 b5_116 (v := (3 : Int32)) rfl ?_
        refine gIconst K113 (4 : Int32) b5_117 rfl ?_
        refine gIcmp_lt K113 b5_118 (fun q118 => ?_) (fun q => absurd q (by first | decide | (intro hh; cases hh) | simp))
        refine gIconst K113 (1 : Int32) b5_141 rfl ?_
        refine gRetI K113 hlk hret (by simp) b5_142 rfl P114 (by decide) (by decide) ?_
        rw [okF_d hd_c0, okF_d hd_c1, okF_d hd_c2, okF_nil]
      · skip
        by_cases hp_c1 : c1 = 46
        · skip
          rw [if_pos (Or.inr hp_c1)]
          refine gIf_eq K107 b5_79 (fun q => absurd q (by first | decide | (intro hh; cases hh) | simp)) (fun q79 => ?_)
          refine gIloadN K107 b5_82 (v := c0) rfl ?_
          refine gIloadN K107 b5_83 (v := c1) rfl ?_
          refine gCallS K107 (W := 0) [(.int c0), (.int c1)] [] b5_84 (hw _ (List.mem_of_getElem? (i := 85) rfl)) (hw _ (List.mem_of_getElem? (i := 86) rfl)) (hw _ (List.mem_of_getElem? (i := 2) rfl)) (hw _ (List.mem_of_getElem? (i := 87) rfl)) (Cal.ofN (W := 0) (c_dots l Z a0 hw h107 n0 K107.n0le c0 c1) (hw _ (List.mem_of_getElem? (i := 87) rfl)) (hw _ (List.mem_of_getElem? (i := 2) rfl)) (by decide) (by decide)) (fun _ q => nomatch q) pd3 rfl rfl (Nat.le_of_eq rfl) rfl (by decide) (by decide) (by decide) (fun v115 T115 h115 K115 Q115 q115 => ?_)
          have E115 := Ext.of0 Q115
          have P116 := P108.ext E115
          cases q115
          rw [if_neg (fun q => (fun e => absurd hd_c0 (by rw [e]; decide)) q.1)]
          refine gIf_eq K115 b5_87 (fun q87 => ?_) (fun q => absurd q (by first | decide | (intro hh; cases hh) | simp))
          refine gIloadN K115 b5_92 (v := (3 : Int32)) rfl ?_
          refine gIconst K115 (3 : Int32) b5_93 rfl ?_
          refine gIcmp_lt K115 b5_94 (fun q => absurd q (by first | decide | (intro hh; cases hh) | simp)) (fun q94 => ?_)
          refine gIload K115 b5_97 (v := c2) rfl ?_
          refine gCallS K115 (W := 0) [(.int c2)] [] b5_99 (hw _ (List.mem_of_getElem? (i := 82) rfl)) (hw _ (List.mem_of_getElem? (i := 83) rfl)) (hw _ (List.mem_of_getElem? (i := 2) rfl)) (hw _ (List.mem_of_getElem? (i := 84) rfl)) (Cal.ofN (W := 0) (c_dod l Z a0 hw h115 n0 K115.n0le c2) (hw _ (List.mem_of_getElem? (i := 84) rfl)) (hw _ (List.mem_of_getElem? (i := 2) rfl)) (by decide) (by decide)) (fun _ q => nomatch q) pd1 rfl rfl (Nat.le_of_eq rfl) rfl (by decide) (by decide) (by decide) (fun v117 T117 h117 K117 Q117 q117 => ?_)
          have E117 := Ext.of0 Q117
          have P118 := P116.ext E117
          cases q117
          rw [if_pos (Or.inl hd_c2)]
          refine gIf_eq K117 b5_102 (fun q => absurd q (by first | decide | (intro hh; cases hh) | simp)) (fun q102 => ?_)
          refine gIloadN K117 b5_105 (v := c1) rfl ?_
          refine gIload K117 b5_106 (v := c2) rfl ?_
          refine gCallS K117 (W := 0) [(.int c1), (.int c2)] [] b5_108 (hw _ (List.mem_of_getElem? (i := 85) rfl)) (hw _ (List.mem_of_getElem? (i := 86) rfl)) (hw _ (List.mem_of_getElem? (i := 2) rfl)) (hw _ (List.mem_of_getElem? (i := 87) rfl)) (Cal.ofN (W := 0) (c_dots l Z a0 hw h117 n0 K117.n0le c1 c2) (hw _ (List.mem_of_getElem? (i := 87) rfl)) (hw _ (List.mem_of_getElem? (i := 2) rfl)) (by decide) (by decide)) (fun _ q => nomatch q) pd3 rfl rfl (Nat.le_of_eq rfl) rfl (by decide) (by decide) (by decide) (fun v119 T119 h119 K119 Q119 q119 => ?_)
          have E119 := Ext.of0 Q119
          have P120 := P118.ext E119
          cases q119
          rw [if_neg (fun q => (fun e => absurd hd_c2 (by rw [e]; decide)) q.2)]
          refine gIf_eq K119 b5_111 (fun q111 => ?_) (fun q => absurd q (by first | decide | (intro hh; cases hh) | simp))
          refine gIloadN K119 b5_116 (v := (3 : Int32)) rfl ?_
          refine gIconst K119 (4 : Int32) b5_117 rfl ?_
          refine gIcmp_lt K119 b5_118 (fun q118 => ?_) (fun q => absurd q (by first | decide | (intro hh; cases hh) | simp))
          refine gIconst K119 (1 : Int32) b5_141 rfl ?_
          refine gRetI K119 hlk hret (by simp) b5_142 rfl P120 (by decide) (by decide) ?_
          rw [okF_d hd_c0, okF_p hd_c1 hp_c1 (by decide), okF_d hd_c2, okF_nil]
        · skip
          rw [if_neg (fun q => q.elim hd_c1 hp_c1)]
          refine gIf_eq K107 b5_79 (fun q79 => ?_) (fun q => absurd q (by first | decide | (intro hh; cases hh) | simp))
          refine gIconst K107 (0 : Int32) b5_90 rfl ?_
          refine gRetI K107 hlk hret (by simp) b5_91 rfl P108 (by decide) (by decide) ?_
          rw [okF_d hd_c0, okF_x hd_c1 (fun q => hp_c1 q.1)]
    · skip
      rw [if_neg hd_c2]
      refine gIf_ne K103 b5_56 (fun q => absurd q (by first | decide | (intro hh; cases hh) | simp)) (fun q56 => ?_)
      refine gIconst K103 (0 : Int32) b5_59 rfl ?_
      refine gRetI K103 hlk hret (by simp) b5_60 rfl P104 (by decide) (by decide) ?_
      exact congrArg (fun z => some (Value.int z)) (okF_last hd_c2 [c0, c1] (0 : Int32)).symm
  · skip
    rw [if_neg hd_c0]
    refine gIf_ne K101 b5_46 (fun q => absurd q (by first | decide | (intro hh; cases hh) | simp)) (fun q46 => ?_)
    refine gIconst K101 (0 : Int32) b5_49 rfl ?_
    refine gRetI K101 hlk hret (by simp) b5_50 rfl P102 (by decide) (by decide) ?_
    rw [okF_x hd_c0 (fun q => q.2 rfl)]
set_option maxRecDepth 65536 in
set_option maxHeartbeats 40000000 in
theorem c_tail04 (l : Launch) (Z : State) (a0 : Array Value) (hw : ∀ d ∈ tables_1, d.before a0 Z = true) (h0 : Heap) (n0 : Nat) (Z0 : n0 ≤ h0.size) (c0 c1 c2 c3 : Int32) :
    Con none l (⟨"com/example/stowage/stowage/dicom/UidIsValidPinLaw", "tailOk", "(ZICCCC)Z"⟩ : MethodName) method_8_code 7 (some .boolean) [] ({ frames := 2, cells := 0, slots := 0, locals := 32 } : Room) Z n0 h0 [] #[(.int (0 : Int32)), (.int (4 : Int32)), (.int c0), (.int c1), (.int c2), (.int c3)] (fun v h => v = some (.int (okF [c0, c1, c2, c3] (0 : Int32)))) := by
  refine Con.intro pn1 Z0 (fun _ q => nomatch q) trivial #[.val (.int (0 : Int32)), .val (.int (4 : Int32)), .val (.int c0), .val (.int c1), .val (.int c2), .val (.int c3), .unset] (fun m => by first | (simp [entryFrame, mkF, argsToLocals, Value.category]; done) | rfl) ?_
  intro p e s m below meth c T0 hlk hret hnm K0
  have P0 := Keep.refl h0 []
  refine gIloadN K0 b5_0 (v := (4 : Int32)) rfl ?_
  refine gIf_ne K0 b5_1 (fun q1 => ?_) (fun q => absurd q (by first | decide | (intro hh; cases hh) | simp))
  refine gIloadN K0 b5_6 (v := (4 : Int32)) rfl ?_
  refine gIconst K0 (1 : Int32) b5_7 rfl ?_
  refine gIcmp_ne K0 b5_8 (fun q8 => ?_) (fun q => absurd q (by first | decide | (intro hh; cases hh) | simp))
  refine gIloadN K0 b5_15 (v := (4 : Int32)) rfl ?_
  refine gIconst K0 (2 : Int32) b5_16 rfl ?_
  refine gIcmp_ne K0 b5_17 (fun q17 => ?_) (fun q => absurd q (by first | decide | (intro hh; cases hh) | simp))
  refine gIloadN K0 b5_24 (v := (4 : Int32)) rfl ?_
  refine gIconst K0 (3 : Int32) b5_25 rfl ?_
  refine gIcmp_ne K0 b5_26 (fun q26 => ?_) (fun q => absurd q (by first | decide | (intro hh; cases hh) | simp))
  refine gIload K0 b5_34 (v := c3) rfl ?_
  refine gIstore K0 b5_36 (Ls' := #[.val (.int (0 : Int32)), .val (.int (4 : Int32)), .val (.int c0), .val (.int c1), .val (.int c2), .val (.int c3), .val (.int c3)]) rfl ?_
  refine gIloadN K0 b5_38 (v := (0 : Int32)) rfl ?_
  refine gIf_ne K0 b5_39 (fun q => absurd q (by first | decide | (intro hh; cases hh) | simp)) (fun q39 => ?_)
  refine gIloadN K0 b5_42 (v := c0) rfl ?_
  refine gCallS K0 (W := 0) [(.int c0)] [] b5_43 (hw _ (List.mem_of_getElem? (i := 57) rfl)) (hw _ (List.mem_of_getElem? (i := 58) rfl)) (hw _ (List.mem_of_getElem? (i := 2) rfl)) (hw _ (List.mem_of_getElem? (i := 59) rfl)) (Cal.ofN (W := 0) (c_digit l Z a0 hw h0 n0 K0.n0le c0) (hw _ (List.mem_of_getElem? (i := 59) rfl)) (hw _ (List.mem_of_getElem? (i := 2) rfl)) (by decide) (by decide)) (fun _ q => nomatch q) pd1 rfl rfl (Nat.le_of_eq rfl) rfl (by decide) (by decide) (by decide) (fun v101 T101 h101 K101 Q101 q101 => ?_)
  have E101 := Ext.of0 Q101
  have P102 := P0.ext E101
  cases q101
  by_cases hd_c0 : dg c0
  · skip
    rw [if_pos hd_c0]
    refine gIf_ne K101 b5_46 (fun q46 => ?_) (fun q => absurd q (by first | decide | (intro hh; cases hh) | simp))
    refine gIload K101 b5_51 (v := c3) rfl ?_
    refine gCallS K101 (W := 0) [(.int c3)] [] b5_53 (hw _ (List.mem_of_getElem? (i := 57) rfl)) (hw _ (List.mem_of_getElem? (i := 58) rfl)) (hw _ (List.mem_of_getElem? (i := 2) rfl)) (hw _ (List.mem_of_getElem? (i := 59) rfl)) (Cal.ofN (W := 0) (c_digit l Z a0 hw h101 n0 K101.n0le c3) (hw _ (List.mem_of_getElem? (i := 59) rfl)) (hw _ (List.mem_of_getElem? (i := 2) rfl)) (by decide) (by decide)) (fun _ q => nomatch q) pd1 rfl rfl (Nat.le_of_eq rfl) rfl (by decide) (by decide) (by decide) (fun v103 T103 h103 K103 Q103 q103 => ?_)
    have E103 := Ext.of0 Q103
    have P104 := P102.ext E103
    cases q103
    by_cases hd_c3 : dg c3
    · skip
      rw [if_pos hd_c3]
      refine gIf_ne K103 b5_56 (fun q56 => ?_) (fun q => absurd q (by first | decide | (intro hh; cases hh) | simp))
      refine gIloadN K103 b5_61 (v := c0) rfl ?_
      refine gCallS K103 (W := 0) [(.int c0)] [] b5_62 (hw _ (List.mem_of_getElem? (i := 82) rfl)) (hw _ (List.mem_of_getElem? (i := 83) rfl)) (hw _ (List.mem_of_getElem? (i := 2) rfl)) (hw _ (List.mem_of_getElem? (i := 84) rfl)) (Cal.ofN (W := 0) (c_dod l Z a0 hw h103 n0 K103.n0le c0) (hw _ (List.mem_of_getElem? (i := 84) rfl)) (hw _ (List.mem_of_getElem? (i := 2) rfl)) (by decide) (by decide)) (fun _ q => nomatch q) pd1 rfl rfl (Nat.le_of_eq rfl) rfl (by decide) (by decide) (by decide) (fun v105 T105 h105 K105 Q105 q105 => ?_)
      have E105 := Ext.of0 Q105
      have P106 := P104.ext E105
      cases q105
      rw [if_pos (Or.inl hd_c0)]
      refine gIf_ne K105 b5_65 (fun q65 => ?_) (fun q => absurd q (by first | decide | (intro hh; cases hh) | simp))
      refine gIloadN K105 b5_70 (v := (4 : Int32)) rfl ?_
      refine gIconst K105 (2 : Int32) b5_71 rfl ?_
      refine gIcmp_lt K105 b5_72 (fun q => absurd q (by first | decide | (intro hh; cases hh) | simp)) (fun q72 => ?_)
      refine gIloadN K105 b5_75 (v := c1) rfl ?_
      refine gCallS K105 (W := 0) [(.int c1)] [] b5_76 (hw _ (List.mem_of_getElem? (i := 82) rfl)) (hw _ (List.mem_of_getElem? (i := 83) rfl)) (hw _ (List.mem_of_getElem? (i := 2) rfl)) (hw _ (List.mem_of_getElem? (i := 84) rfl)) (Cal.ofN (W := 0) (c_dod l Z a0 hw h105 n0 K105.n0le c1) (hw _ (List.mem_of_getElem? (i := 84) rfl)) (hw _ (List.mem_of_getElem? (i := 2) rfl)) (by decide) (by decide)) (fun _ q => nomatch q) pd1 rfl rfl (Nat.le_of_eq rfl) rfl (by decide) (by decide) (by decide) (fun v107 T107 h107 K107 Q107 q107 => ?_)
      have E107 := Ext.of0 Q107
      have P108 := P106.ext E107
      cases q107
      by_cases hd_c1 : dg c1
      · skip
        rw [if_pos (Or.inl hd_c1)]
        refine gIf_eq K107 b5_79 (fun q => absurd q (by first | decide | (intro hh; cases hh) | simp)) (fun q79 => ?_)
        refine gIloadN K107 b5_82 (v := c0) rfl ?_
        refine gIloadN K107 b5_83 (v := c1) rfl ?_
        refine gCallS K107 (W := 0) [(.int c0), (.int c1)] [] b5_84 (hw _ (List.mem_of_getElem? (i := 85) rfl)) (hw _ (List.mem_of_getElem? (i := 86) rfl)) (hw _ (List.mem_of_getElem? (i := 2) rfl)) (hw _ (List.mem_of_getElem? (i := 87) rfl)) (Cal.ofN (W := 0) (c_dots l Z a0 hw h107 n0 K107.n0le c0 c1) (hw _ (List.mem_of_getElem? (i := 87) rfl)) (hw _ (List.mem_of_getElem? (i := 2) rfl)) (by decide) (by decide)) (fun _ q => nomatch q) pd3 rfl rfl (Nat.le_of_eq rfl) rfl (by decide) (by decide) (by decide) (fun v109 T109 h109 K109 Q109 q109 => ?_)
        have E109 := Ext.of0 Q109
        have P110 := P108.ext E109
        cases q109
        rw [if_neg (fun q => (fun e => absurd hd_c0 (by rw [e]; decide)) q.1)]
        refine gIf_eq K109 b5_87 (fun q87 => ?_) (fun q => absurd q (by first | decide | (intro hh; cases hh) | simp))
        refine gIloadN K109 b5_92 (v := (4 : Int32)) rfl ?_
        refine gIconst K109 (3 : Int32) b5_93 rfl ?_
        refine gIcmp_lt K109 b5_94 (fun q => absurd q (by first | decide | (intro hh; cases hh) | simp)) (fun q94 => ?_)
        refine gIload K109 b5_97 (v := c2) rfl ?_
        refine gCallS K109 (W := 0) [(.int c2)] [] b5_99 (hw _ (List.mem_of_getElem? (i := 82) rfl)) (hw _ (List.mem_of_getElem? (i := 83) rfl)) (hw _ (List.mem_of_getElem? (i := 2) rfl)) (hw _ (List.mem_of_getElem? (i := 84) rfl)) (Cal.ofN (W := 0) (c_dod l Z a0 hw h109 n0 K109.n0le c2) (hw _ (List.mem_of_getElem? (i := 84) rfl)) (hw _ (List.mem_of_getElem? (i := 2) rfl)) (by decide) (by decide)) (fun _ q => nomatch q) pd1 rfl rfl (Nat.le_of_eq rfl) rfl (by decide) (by decide) (by decide) (fun v111 T111 h111 K111 Q111 q111 => ?_)
        have E111 := Ext.of0 Q111
        have P112 := P110.ext E111
        cases q111
        by_cases hd_c2 : dg c2
        · skip
          rw [if_pos (Or.inl hd_c2)]
          refine gIf_eq K111 b5_102 (fun q => absurd q (by first | decide | (intro hh; cases hh) | simp)) (fun q102 => ?_)
          refine gIloadN K111 b5_105 (v := c1) rfl ?_
          refine gIload K111 b5_106 (v := c2) rfl ?_
          refine gCallS K111 (W := 0) [(.int c1), (.int c2)] [] b5_108 (hw _ (List.mem_of_getElem? (i := 85) rfl)) (hw _ (List.mem_of_getElem? (i := 86) rfl)) (hw _ (List.mem_of_getElem? (i := 2) rfl)) (hw _ (List.mem_of_getElem? (i := 87) rfl)) (Cal.ofN (W := 0) (c_dots l Z a0 hw h111 n0 K111.n0le c1 c2) (hw _ (List.mem_of_getElem? (i := 87) rfl)) (hw _ (List.mem_of_getElem? (i := 2) rfl)) (by decide) (by decide)) (fun _ q => nomatch q) pd3 rfl rfl (Nat.le_of_eq rfl) rfl (by decide) (by decide) (by decide) (fun v113 T113 h113 K113 Q113 q113 => ?_)
          have E113 := Ext.of0 Q113
          have P114 := P112.ext E113
          cases q113
          rw [if_neg (fun q => (fun e => absurd hd_c1 (by rw [e]; decide)) q.1)]
          refine gIf_eq K113 b5_111 (fun q111 => ?_) (fun q => absurd q (by first | decide | (intro hh; cases hh) | simp))
          refine gIloadN K113 b5_116 (v := (4 : Int32)) rfl ?_
          refine gIconst K113 (4 : Int32) b5_117 rfl ?_
          refine gIcmp_lt K113 b5_118 (fun q => absurd q (by first | decide | (intro hh; cases hh) | simp)) (fun q118 => ?_)
          refine gIload K113 b5_121 (v := c3) rfl ?_
          refine gCallS K113 (W := 0) [(.int c3)] [] b5_123 (hw _ (List.mem_of_getElem? (i := 82) rfl)) (hw _ (List.mem_of_getElem? (i := 83) rfl)) (hw _ (List.mem_of_getElem? (i := 2) rfl)) (hw _ (List.mem_of_getElem? (i := 84) rfl)) (Cal.ofN (W := 0) (c_dod l Z a0 hw h113 n0 K113.n0le c3) (hw _ (List.mem_of_getElem? (i := 84) rfl)) (hw _ (List.mem_of_getElem? (i := 2) rfl)) (by decide) (by decide)) (fun _ q => nomatch q) pd1 rfl rfl (Nat.le_of_eq rfl) rfl (by decide) (by decide) (by decide) (fun v115 T115 h115 K115 Q115 q115 => ?_)
          have E115 := Ext.of0 Q115
          have P116 := P114.ext E115
          cases q115
          rw [if_pos (Or.inl hd_c3)]
          refine gIf_eq K115 b5_126 (fun q => absurd q (by first | decide | (intro hh; cases hh) | simp)) (fun q126 => ?_)
          refine gIload K115 b5_129 (v := c2) rfl ?_
          refine gIload K115 b5_131 (v := c3) rfl ?_
          refine gCallS K115 (W := 0) [(.int c2), (.int c3)] [] b5_133 (hw _ (List.mem_of_getElem? (i := 85) rfl)) (hw _ (List.mem_of_getElem? (i := 86) rfl)) (hw _ (List.mem_of_getElem? (i := 2) rfl)) (hw _ (List.mem_of_getElem? (i := 87) rfl)) (Cal.ofN (W := 0) (c_dots l Z a0 hw h115 n0 K115.n0le c2 c3) (hw _ (List.mem_of_getElem? (i := 87) rfl)) (hw _ (List.mem_of_getElem? (i := 2) rfl)) (by decide) (by decide)) (fun _ q => nomatch q) pd3 rfl rfl (Nat.le_of_eq rfl) rfl (by decide) (by decide) (by decide) (fun v117 T117 h117 K117 Q117 q117 => ?_)
          have E117 := Ext.of0 Q117
          have P118 := P116.ext E117
          cases q117
          rw [if_neg (fun q => (fun e => absurd hd_c2 (by rw [e]; decide)) q.1)]
          refine gIf_eq K117 b5_136 (fun q136 => ?_) (fun q => absurd q (by first | decide | (intro hh; cases hh) | simp))
          refine gIconst K117 (1 : Int32) b5_141 rfl ?_
          refine gRetI K117 hlk hret (by simp) b5_142 rfl P118 (by decide) (by decide) ?_
          rw [okF_d hd_c0, okF_d hd_c1, okF_d hd_c2, okF_d hd_c3, okF_nil]
        · skip
          by_cases hp_c2 : c2 = 46
          · skip
            rw [if_pos (Or.inr hp_c2)]
            refine gIf_eq K111 b5_102 (fun q => absurd q (by first | decide | (intro hh; cases hh) | simp)) (fun q102 => ?_)
            refine gIloadN K111 b5_105 (v := c1) rfl ?_
            refine gIload K111 b5_106 (v := c2) rfl ?_
            refine gCallS K111 (W := 0) [(.int c1), (.int c2)] [] b5_108 (hw _ (List.mem_of_getElem? (i := 85) rfl)) (hw _ (List.mem_of_getElem? (i := 86) rfl)) (hw _ (List.mem_of_getElem? (i := 2) rfl)) (hw _ (List.mem_of_getElem? (i := 87) rfl)) (Cal.ofN (W := 0) (c_dots l Z a0 hw h111 n0 K111.n0le c1 c2) (hw _ (List.mem_of_getElem? (i := 87) rfl)) (hw _ (List.mem_of_getElem? (i := 2) rfl)) (by decide) (by decide)) (fun _ q => nomatch q) pd3 rfl rfl (Nat.le_of_eq rfl) rfl (by decide) (by decide) (by decide) (fun v119 T119 h119 K119 Q119 q119 => ?_)
            have E119 := Ext.of0 Q119
            have P120 := P112.ext E119
            cases q119
            rw [if_neg (fun q => (fun e => absurd hd_c1 (by rw [e]; decide)) q.1)]
            refine gIf_eq K119 b5_111 (fun q111 => ?_) (fun q => absurd q (by first | decide | (intro hh; cases hh) | simp))
            refine gIloadN K119 b5_116 (v := (4 : Int32)) rfl ?_
            refine gIconst K119 (4 : Int32) b5_117 rfl ?_
            refine gIcmp_lt K119 b5_118 (fun q => absurd q (by first | decide | (intro hh; cases hh) | simp)) (fun q118 => ?_)
            refine gIload K119 b5_121 (v := c3) rfl ?_
            refine gCallS K119 (W := 0) [(.int c3)] [] b5_123 (hw _ (List.mem_of_getElem? (i := 82) rfl)) (hw _ (List.mem_of_getElem? (i := 83) rfl)) (hw _ (List.mem_of_getElem? (i := 2) rfl)) (hw _ (List.mem_of_getElem? (i := 84) rfl)) (Cal.ofN (W := 0) (c_dod l Z a0 hw h119 n0 K119.n0le c3) (hw _ (List.mem_of_getElem? (i := 84) rfl)) (hw _ (List.mem_of_getElem? (i := 2) rfl)) (by decide) (by decide)) (fun _ q => nomatch q) pd1 rfl rfl (Nat.le_of_eq rfl) rfl (by decide) (by decide) (by decide) (fun v121 T121 h121 K121 Q121 q121 => ?_)
            have E121 := Ext.of0 Q121
            have P122 := P120.ext E121
            cases q121
            rw [if_pos (Or.inl hd_c3)]
            refine gIf_eq K121 b5_126 (fun q => absurd q (by first | decide | (intro hh; cases hh) | simp)) (fun q126 => ?_)
            refine gIload K121 b5_129 (v := c2) rfl ?_
            refine gIload K121 b5_131 (v := c3) rfl ?_
            refine gCallS K121 (W := 0) [(.int c2), (.int c3)] [] b5_133 (hw _ (List.mem_of_getElem? (i := 85) rfl)) (hw _ (List.mem_of_getElem? (i := 86) rfl)) (hw _ (List.mem_of_getElem? (i := 2) rfl)) (hw _ (List.mem_of_getElem? (i := 87) rfl)) (Cal.ofN (W := 0) (c_dots l Z a0 hw h121 n0 K121.n0le c2 c3) (hw _ (List.mem_of_getElem? (i := 87) rfl)) (hw _ (List.mem_of_getElem? (i := 2) rfl)) (by decide) (by decide)) (fun _ q => nomatch q) pd3 rfl rfl (Nat.le_of_eq rfl) rfl (by decide) (by decide) (by decide) (fun v123 T123 h123 K123 Q123 q123 => ?_)
            have E123 := Ext.of0 Q123
            have P124 := P122.ext E123
            cases q123
            rw [if_neg (fun q => (fun e => absurd hd_c3 (by rw [e]; decide)) q.2)]
            refine gIf_eq K123 b5_136 (fun q136 => ?_) (fun q => absurd q (by first | decide | (intro hh; cases hh) | simp))
            refine gIconst K123 (1 : Int32) b5_141 rfl ?_
            refine gRetI K123 hlk hret (by simp) b5_142 rfl P124 (by decide) (by decide) ?_
            rw [okF_d hd_c0, okF_d hd_c1, okF_p hd_c2 hp_c2 (by decide), okF_d hd_c3, okF_nil]
          · skip
            rw [if_neg (fun q => q.elim hd_c2 hp_c2)]
            refine gIf_eq K111 b5_102 (fun q102 => ?_) (fun q => absurd q (by first | decide | (intro hh; cases hh) | simp))
            refine gIconst K111 (0 : Int32) b5_114 rfl ?_
            refine gRetI K111 hlk hret (by simp) b5_115 rfl P112 (by decide) (by decide) ?_
            rw [okF_d hd_c0, okF_d hd_c1, okF_x hd_c2 (fun q => hp_c2 q.1)]
      · skip
        by_cases hp_c1 : c1 = 46
        · skip
          rw [if_pos (Or.inr hp_c1)]
          refine gIf_eq K107 b5_79 (fun q => absurd q (by first | decide | (intro hh; cases hh) | simp)) (fun q79 => ?_)
          refine gIloadN K107 b5_82 (v := c0) rfl ?_
          refine gIloadN K107 b5_83 (v := c1) rfl ?_
          refine gCallS K107 (W := 0) [(.int c0), (.int c1)] [] b5_84 (hw _ (List.mem_of_getElem? (i := 85) rfl)) (hw _ (List.mem_of_getElem? (i := 86) rfl)) (hw _ (List.mem_of_getElem? (i := 2) rfl)) (hw _ (List.mem_of_getElem? (i := 87) rfl)) (Cal.ofN (W := 0) (c_dots l Z a0 hw h107 n0 K107.n0le c0 c1) (hw _ (List.mem_of_getElem? (i := 87) rfl)) (hw _ (List.mem_of_getElem? (i := 2) rfl)) (by decide) (by decide)) (fun _ q => nomatch q) pd3 rfl rfl (Nat.le_of_eq rfl) rfl (by decide) (by decide) (by decide) (fun v125 T125 h125 K125 Q125 q125 => ?_)
          have E125 := Ext.of0 Q125
          have P126 := P108.ext E125
          cases q125
          rw [if_neg (fun q => (fun e => absurd hd_c0 (by rw [e]; decide)) q.1)]
          refine gIf_eq K125 b5_87 (fun q87 => ?_) (fun q => absurd q (by first | decide | (intro hh; cases hh) | simp))
          refine gIloadN K125 b5_92 (v := (4 : Int32)) rfl ?_
          refine gIconst K125 (3 : Int32) b5_93 rfl ?_
          refine gIcmp_lt K125 b5_94 (fun q => absurd q (by first | decide | (intro hh; cases hh) | simp)) (fun q94 => ?_)
          refine gIload K125 b5_97 (v := c2) rfl ?_
          refine gCallS K125 (W := 0) [(.int c2)] [] b5_99 (hw _ (List.mem_of_getElem? (i := 82) rfl)) (hw _ (List.mem_of_getElem? (i := 83) rfl)) (hw _ (List.mem_of_getElem? (i := 2) rfl)) (hw _ (List.mem_of_getElem? (i := 84) rfl)) (Cal.ofN (W := 0) (c_dod l Z a0 hw h125 n0 K125.n0le c2) (hw _ (List.mem_of_getElem? (i := 84) rfl)) (hw _ (List.mem_of_getElem? (i := 2) rfl)) (by decide) (by decide)) (fun _ q => nomatch q) pd1 rfl rfl (Nat.le_of_eq rfl) rfl (by decide) (by decide) (by decide) (fun v127 T127 h127 K127 Q127 q127 => ?_)
          have E127 := Ext.of0 Q127
          have P128 := P126.ext E127
          cases q127
          by_cases hd_c2 : dg c2
          · skip
            rw [if_pos (Or.inl hd_c2)]
            refine gIf_eq K127 b5_102 (fun q => absurd q (by first | decide | (intro hh; cases hh) | simp)) (fun q102 => ?_)
            refine gIloadN K127 b5_105 (v := c1) rfl ?_
            refine gIload K127 b5_106 (v := c2) rfl ?_
            refine gCallS K127 (W := 0) [(.int c1), (.int c2)] [] b5_108 (hw _ (List.mem_of_getElem? (i := 85) rfl)) (hw _ (List.mem_of_getElem? (i := 86) rfl)) (hw _ (List.mem_of_getElem? (i := 2) rfl)) (hw _ (List.mem_of_getElem? (i := 87) rfl)) (Cal.ofN (W := 0) (c_dots l Z a0 hw h127 n0 K127.n0le c1 c2) (hw _ (List.mem_of_getElem? (i := 87) rfl)) (hw _ (List.mem_of_getElem? (i := 2) rfl)) (by decide) (by decide)) (fun _ q => nomatch q) pd3 rfl rfl (Nat.le_of_eq rfl) rfl (by decide) (by decide) (by decide) (fun v129 T129 h129 K129 Q129 q129 => ?_)
            have E129 := Ext.of0 Q129
            have P130 := P128.ext E129
            cases q129
            rw [if_neg (fun q => (fun e => absurd hd_c2 (by rw [e]; decide)) q.2)]
            refine gIf_eq K129 b5_111 (fun q111 => ?_) (fun q => absurd q (by first | decide | (intro hh; cases hh) | simp))
            refine gIloadN K129 b5_116 (v := (4 : Int32)) rfl ?_
            refine gIconst K129 (4 : Int32) b5_117 rfl ?_
            refine gIcmp_lt K129 b5_118 (fun q => absurd q (by first | decide | (intro hh; cases hh) | simp)) (fun q118 => ?_)
            refine gIload K129 b5_121 (v := c3) rfl ?_
            refine gCallS K129 (W := 0) [(.int c3)] [] b5_123 (hw _ (List.mem_of_getElem? (i := 82) rfl)) (hw _ (List.mem_of_getElem? (i := 83) rfl)) (hw _ (List.mem_of_getElem? (i := 2) rfl)) (hw _ (List.mem_of_getElem? (i := 84) rfl)) (Cal.ofN (W := 0) (c_dod l Z a0 hw h129 n0 K129.n0le c3) (hw _ (List.mem_of_getElem? (i := 84) rfl)) (hw _ (List.mem_of_getElem? (i := 2) rfl)) (by decide) (by decide)) (fun _ q => nomatch q) pd1 rfl rfl (Nat.le_of_eq rfl) rfl (by decide) (by decide) (by decide) (fun v131 T131 h131 K131 Q131 q131 => ?_)
            have E131 := Ext.of0 Q131
            have P132 := P130.ext E131
            cases q131
            rw [if_pos (Or.inl hd_c3)]
            refine gIf_eq K131 b5_126 (fun q => absurd q (by first | decide | (intro hh; cases hh) | simp)) (fun q126 => ?_)
            refine gIload K131 b5_129 (v := c2) rfl ?_
            refine gIload K131 b5_131 (v := c3) rfl ?_
            refine gCallS K131 (W := 0) [(.int c2), (.int c3)] [] b5_133 (hw _ (List.mem_of_getElem? (i := 85) rfl)) (hw _ (List.mem_of_getElem? (i := 86) rfl)) (hw _ (List.mem_of_getElem? (i := 2) rfl)) (hw _ (List.mem_of_getElem? (i := 87) rfl)) (Cal.ofN (W := 0) (c_dots l Z a0 hw h131 n0 K131.n0le c2 c3) (hw _ (List.mem_of_getElem? (i := 87) rfl)) (hw _ (List.mem_of_getElem? (i := 2) rfl)) (by decide) (by decide)) (fun _ q => nomatch q) pd3 rfl rfl (Nat.le_of_eq rfl) rfl (by decide) (by decide) (by decide) (fun v133 T133 h133 K133 Q133 q133 => ?_)
            have E133 := Ext.of0 Q133
            have P134 := P132.ext E133
            cases q133
            rw [if_neg (fun q => (fun e => absurd hd_c2 (by rw [e]; decide)) q.1)]
            refine gIf_eq K133 b5_136 (fun q136 => ?_) (fun q => absurd q (by first | decide | (intro hh; cases hh) | simp))
            refine gIconst K133 (1 : Int32) b5_141 rfl ?_
            refine gRetI K133 hlk hret (by simp) b5_142 rfl P134 (by decide) (by decide) ?_
            rw [okF_d hd_c0, okF_p hd_c1 hp_c1 (by decide), okF_d hd_c2, okF_d hd_c3, okF_nil]
          · skip
            by_cases hp_c2 : c2 = 46
            · skip
              rw [if_pos (Or.inr hp_c2)]
              refine gIf_eq K127 b5_102 (fun q => absurd q (by first | decide | (intro hh; cases hh) | simp)) (fun q102 => ?_)
              refine gIloadN K127 b5_105 (v := c1) rfl ?_
              refine gIload K127 b5_106 (v := c2) rfl ?_
              refine gCallS K127 (W := 0) [(.int c1), (.int c2)] [] b5_108 (hw _ (List.mem_of_getElem? (i := 85) rfl)) (hw _ (List.mem_of_getElem? (i := 86) rfl)) (hw _ (List.mem_of_getElem? (i := 2) rfl)) (hw _ (List.mem_of_getElem? (i := 87) rfl)) (Cal.ofN (W := 0) (c_dots l Z a0 hw h127 n0 K127.n0le c1 c2) (hw _ (List.mem_of_getElem? (i := 87) rfl)) (hw _ (List.mem_of_getElem? (i := 2) rfl)) (by decide) (by decide)) (fun _ q => nomatch q) pd3 rfl rfl (Nat.le_of_eq rfl) rfl (by decide) (by decide) (by decide) (fun v135 T135 h135 K135 Q135 q135 => ?_)
              have E135 := Ext.of0 Q135
              have P136 := P128.ext E135
              cases q135
              rw [if_pos ⟨hp_c1, hp_c2⟩]
              refine gIf_eq K135 b5_111 (fun q => absurd q (by first | decide | (intro hh; cases hh) | simp)) (fun q111 => ?_)
              refine gIconst K135 (0 : Int32) b5_114 rfl ?_
              refine gRetI K135 hlk hret (by simp) b5_115 rfl P136 (by decide) (by decide) ?_
              rw [okF_d hd_c0, okF_p hd_c1 hp_c1 (by decide), okF_x hd_c2 (fun q => q.2 rfl)]
            · skip
              rw [if_neg (fun q => q.elim hd_c2 hp_c2)]
              refine gIf_eq K127 b5_102 (fun q102 => ?_) (fun q => absurd q (by first | decide | (intro hh; cases hh) | simp))
              refine gIconst K127 (0 : Int32) b5_114 rfl ?_
              refine gRetI K127 hlk hret (by simp) b5_115 rfl P128 (by decide) (by decide) ?_
              rw [okF_d hd_c0, okF_p hd_c1 hp_c1 (by decide), okF_x hd_c2 (fun q => hp_c2 q.1)]
        · skip
          rw [if_neg (fun q => q.elim hd_c1 hp_c1)]
          refine gIf_eq K107 b5_79 (fun q79 => ?_) (fun q => absurd q (by first | decide | (intro hh; cases hh) | simp))
          refine gIconst K107 (0 : Int32) b5_90 rfl ?_
          refine gRetI K107 hlk hret (by simp) b5_91 rfl P108 (by decide) (by decide) ?_
          rw [okF_d hd_c0, okF_x hd_c1 (fun q => hp_c1 q.1)]
    · skip
      rw [if_neg hd_c3]
      refine gIf_ne K103 b5_56 (fun q => absurd q (by first | decide | (intro hh; cases hh) | simp)) (fun q56 => ?_)
      refine gIconst K103 (0 : Int32) b5_59 rfl ?_
      refine gRetI K103 hlk hret (by simp) b5_60 rfl P104 (by decide) (by decide) ?_
      exact congrArg (fun z => some (Value.int z)) (okF_last hd_c3 [c0, c1, c2] (0 : Int32)).symm
  · skip
    rw [if_neg hd_c0]
    refine gIf_ne K101 b5_46 (fun q => absurd q (by first | decide | (intro hh; cases hh) | simp)) (fun q46 => ?_)
    refine gIconst K101 (0 : Int32) b5_49 rfl ?_
    refine gRetI K101 hlk hret (by simp) b5_50 rfl P102 (by decide) (by decide) ?_
    rw [okF_x hd_c0 (fun q => q.2 rfl)]
set_option maxRecDepth 65536 in
set_option maxHeartbeats 40000000 in
theorem c_tail14 (l : Launch) (Z : State) (a0 : Array Value) (hw : ∀ d ∈ tables_1, d.before a0 Z = true) (h0 : Heap) (n0 : Nat) (Z0 : n0 ≤ h0.size) (c0 c1 c2 c3 : Int32) :
    Con none l (⟨"com/example/stowage/stowage/dicom/UidIsValidPinLaw", "tailOk", "(ZICCCC)Z"⟩ : MethodName) method_8_code 7 (some .boolean) [] ({ frames := 2, cells := 0, slots := 0, locals := 32 } : Room) Z n0 h0 [] #[(.int (1 : Int32)), (.int (4 : Int32)), (.int c0), (.int c1), (.int c2), (.int c3)] (fun v h => v = some (.int (okF [c0, c1, c2, c3] (1 : Int32)))) := by
  refine Con.intro pn1 Z0 (fun _ q => nomatch q) trivial #[.val (.int (1 : Int32)), .val (.int (4 : Int32)), .val (.int c0), .val (.int c1), .val (.int c2), .val (.int c3), .unset] (fun m => by first | (simp [entryFrame, mkF, argsToLocals, Value.category]; done) | rfl) ?_
  intro p e s m below meth c T0 hlk hret hnm K0
  have P0 := Keep.refl h0 []
  refine gIloadN K0 b5_0 (v := (4 : Int32)) rfl ?_
  refine gIf_ne K0 b5_1 (fun q1 => ?_) (fun q => absurd q (by first | decide | (intro hh; cases hh) | simp))
  refine gIloadN K0 b5_6 (v := (4 : Int32)) rfl ?_
  refine gIconst K0 (1 : Int32) b5_7 rfl ?_
  refine gIcmp_ne K0 b5_8 (fun q8 => ?_) (fun q => absurd q (by first | decide | (intro hh; cases hh) | simp))
  refine gIloadN K0 b5_15 (v := (4 : Int32)) rfl ?_
  refine gIconst K0 (2 : Int32) b5_16 rfl ?_
  refine gIcmp_ne K0 b5_17 (fun q17 => ?_) (fun q => absurd q (by first | decide | (intro hh; cases hh) | simp))
  refine gIloadN K0 b5_24 (v := (4 : Int32)) rfl ?_
  refine gIconst K0 (3 : Int32) b5_25 rfl ?_
  refine gIcmp_ne K0 b5_26 (fun q26 => ?_) (fun q => absurd q (by first | decide | (intro hh; cases hh) | simp))
  refine gIload K0 b5_34 (v := c3) rfl ?_
  refine gIstore K0 b5_36 (Ls' := #[.val (.int (1 : Int32)), .val (.int (4 : Int32)), .val (.int c0), .val (.int c1), .val (.int c2), .val (.int c3), .val (.int c3)]) rfl ?_
  refine gIloadN K0 b5_38 (v := (1 : Int32)) rfl ?_
  refine gIf_ne K0 b5_39 (fun q39 => ?_) (fun q => absurd q (by first | decide | (intro hh; cases hh) | simp))
  refine gIload K0 b5_51 (v := c3) rfl ?_
  refine gCallS K0 (W := 0) [(.int c3)] [] b5_53 (hw _ (List.mem_of_getElem? (i := 57) rfl)) (hw _ (List.mem_of_getElem? (i := 58) rfl)) (hw _ (List.mem_of_getElem? (i := 2) rfl)) (hw _ (List.mem_of_getElem? (i := 59) rfl)) (Cal.ofN (W := 0) (c_digit l Z a0 hw h0 n0 K0.n0le c3) (hw _ (List.mem_of_getElem? (i := 59) rfl)) (hw _ (List.mem_of_getElem? (i := 2) rfl)) (by decide) (by decide)) (fun _ q => nomatch q) pd1 rfl rfl (Nat.le_of_eq rfl) rfl (by decide) (by decide) (by decide) (fun v101 T101 h101 K101 Q101 q101 => ?_)
  have E101 := Ext.of0 Q101
  have P102 := P0.ext E101
  cases q101
  by_cases hd_c3 : dg c3
  · skip
    rw [if_pos hd_c3]
    refine gIf_ne K101 b5_56 (fun q56 => ?_) (fun q => absurd q (by first | decide | (intro hh; cases hh) | simp))
    refine gIloadN K101 b5_61 (v := c0) rfl ?_
    refine gCallS K101 (W := 0) [(.int c0)] [] b5_62 (hw _ (List.mem_of_getElem? (i := 82) rfl)) (hw _ (List.mem_of_getElem? (i := 83) rfl)) (hw _ (List.mem_of_getElem? (i := 2) rfl)) (hw _ (List.mem_of_getElem? (i := 84) rfl)) (Cal.ofN (W := 0) (c_dod l Z a0 hw h101 n0 K101.n0le c0) (hw _ (List.mem_of_getElem? (i := 84) rfl)) (hw _ (List.mem_of_getElem? (i := 2) rfl)) (by decide) (by decide)) (fun _ q => nomatch q) pd1 rfl rfl (Nat.le_of_eq rfl) rfl (by decide) (by decide) (by decide) (fun v103 T103 h103 K103 Q103 q103 => ?_)
    have E103 := Ext.of0 Q103
    have P104 := P102.ext E103
    cases q103
    by_cases hd_c0 : dg c0
    · skip
      rw [if_pos (Or.inl hd_c0)]
      refine gIf_ne K103 b5_65 (fun q65 => ?_) (fun q => absurd q (by first | decide | (intro hh; cases hh) | simp))
      refine gIloadN K103 b5_70 (v := (4 : Int32)) rfl ?_
      refine gIconst K103 (2 : Int32) b5_71 rfl ?_
      refine gIcmp_lt K103 b5_72 (fun q => absurd q (by first | decide | (intro hh; cases hh) | simp)) (fun q72 => ?_)
      refine gIloadN K103 b5_75 (v := c1) rfl ?_
      refine gCallS K103 (W := 0) [(.int c1)] [] b5_76 (hw _ (List.mem_of_getElem? (i := 82) rfl)) (hw _ (List.mem_of_getElem? (i := 83) rfl)) (hw _ (List.mem_of_getElem? (i := 2) rfl)) (hw _ (List.mem_of_getElem? (i := 84) rfl)) (Cal.ofN (W := 0) (c_dod l Z a0 hw h103 n0 K103.n0le c1) (hw _ (List.mem_of_getElem? (i := 84) rfl)) (hw _ (List.mem_of_getElem? (i := 2) rfl)) (by decide) (by decide)) (fun _ q => nomatch q) pd1 rfl rfl (Nat.le_of_eq rfl) rfl (by decide) (by decide) (by decide) (fun v105 T105 h105 K105 Q105 q105 => ?_)
      have E105 := Ext.of0 Q105
      have P106 := P104.ext E105
      cases q105
      by_cases hd_c1 : dg c1
      · skip
        rw [if_pos (Or.inl hd_c1)]
        refine gIf_eq K105 b5_79 (fun q => absurd q (by first | decide | (intro hh; cases hh) | simp)) (fun q79 => ?_)
        refine gIloadN K105 b5_82 (v := c0) rfl ?_
        refine gIloadN K105 b5_83 (v := c1) rfl ?_
        refine gCallS K105 (W := 0) [(.int c0), (.int c1)] [] b5_84 (hw _ (List.mem_of_getElem? (i := 85) rfl)) (hw _ (List.mem_of_getElem? (i := 86) rfl)) (hw _ (List.mem_of_getElem? (i := 2) rfl)) (hw _ (List.mem_of_getElem? (i := 87) rfl)) (Cal.ofN (W := 0) (c_dots l Z a0 hw h105 n0 K105.n0le c0 c1) (hw _ (List.mem_of_getElem? (i := 87) rfl)) (hw _ (List.mem_of_getElem? (i := 2) rfl)) (by decide) (by decide)) (fun _ q => nomatch q) pd3 rfl rfl (Nat.le_of_eq rfl) rfl (by decide) (by decide) (by decide) (fun v107 T107 h107 K107 Q107 q107 => ?_)
        have E107 := Ext.of0 Q107
        have P108 := P106.ext E107
        cases q107
        rw [if_neg (fun q => (fun e => absurd hd_c0 (by rw [e]; decide)) q.1)]
        refine gIf_eq K107 b5_87 (fun q87 => ?_) (fun q => absurd q (by first | decide | (intro hh; cases hh) | simp))
        refine gIloadN K107 b5_92 (v := (4 : Int32)) rfl ?_
        refine gIconst K107 (3 : Int32) b5_93 rfl ?_
        refine gIcmp_lt K107 b5_94 (fun q => absurd q (by first | decide | (intro hh; cases hh) | simp)) (fun q94 => ?_)
        refine gIload K107 b5_97 (v := c2) rfl ?_
        refine gCallS K107 (W := 0) [(.int c2)] [] b5_99 (hw _ (List.mem_of_getElem? (i := 82) rfl)) (hw _ (List.mem_of_getElem? (i := 83) rfl)) (hw _ (List.mem_of_getElem? (i := 2) rfl)) (hw _ (List.mem_of_getElem? (i := 84) rfl)) (Cal.ofN (W := 0) (c_dod l Z a0 hw h107 n0 K107.n0le c2) (hw _ (List.mem_of_getElem? (i := 84) rfl)) (hw _ (List.mem_of_getElem? (i := 2) rfl)) (by decide) (by decide)) (fun _ q => nomatch q) pd1 rfl rfl (Nat.le_of_eq rfl) rfl (by decide) (by decide) (by decide) (fun v109 T109 h109 K109 Q109 q109 => ?_)
        have E109 := Ext.of0 Q109
        have P110 := P108.ext E109
        cases q109
        by_cases hd_c2 : dg c2
        · skip
          rw [if_pos (Or.inl hd_c2)]
          refine gIf_eq K109 b5_102 (fun q => absurd q (by first | decide | (intro hh; cases hh) | simp)) (fun q102 => ?_)
          refine gIloadN K109 b5_105 (v := c1) rfl ?_
          refine gIload K109 b5_106 (v := c2) rfl ?_
          refine gCallS K109 (W := 0) [(.int c1), (.int c2)] [] b5_108 (hw _ (List.mem_of_getElem? (i := 85) rfl)) (hw _ (List.mem_of_getElem? (i := 86) rfl)) (hw _ (List.mem_of_getElem? (i := 2) rfl)) (hw _ (List.mem_of_getElem? (i := 87) rfl)) (Cal.ofN (W := 0) (c_dots l Z a0 hw h109 n0 K109.n0le c1 c2) (hw _ (List.mem_of_getElem? (i := 87) rfl)) (hw _ (List.mem_of_getElem? (i := 2) rfl)) (by decide) (by decide)) (fun _ q => nomatch q) pd3 rfl rfl (Nat.le_of_eq rfl) rfl (by decide) (by decide) (by decide) (fun v111 T111 h111 K111 Q111 q111 => ?_)
          have E111 := Ext.of0 Q111
          have P112 := P110.ext E111
          cases q111
          rw [if_neg (fun q => (fun e => absurd hd_c1 (by rw [e]; decide)) q.1)]
          refine gIf_eq K111 b5_111 (fun q111 => ?_) (fun q => absurd q (by first | decide | (intro hh; cases hh) | simp))
          refine gIloadN K111 b5_116 (v := (4 : Int32)) rfl ?_
          refine gIconst K111 (4 : Int32) b5_117 rfl ?_
          refine gIcmp_lt K111 b5_118 (fun q => absurd q (by first | decide | (intro hh; cases hh) | simp)) (fun q118 => ?_)
          refine gIload K111 b5_121 (v := c3) rfl ?_
          refine gCallS K111 (W := 0) [(.int c3)] [] b5_123 (hw _ (List.mem_of_getElem? (i := 82) rfl)) (hw _ (List.mem_of_getElem? (i := 83) rfl)) (hw _ (List.mem_of_getElem? (i := 2) rfl)) (hw _ (List.mem_of_getElem? (i := 84) rfl)) (Cal.ofN (W := 0) (c_dod l Z a0 hw h111 n0 K111.n0le c3) (hw _ (List.mem_of_getElem? (i := 84) rfl)) (hw _ (List.mem_of_getElem? (i := 2) rfl)) (by decide) (by decide)) (fun _ q => nomatch q) pd1 rfl rfl (Nat.le_of_eq rfl) rfl (by decide) (by decide) (by decide) (fun v113 T113 h113 K113 Q113 q113 => ?_)
          have E113 := Ext.of0 Q113
          have P114 := P112.ext E113
          cases q113
          rw [if_pos (Or.inl hd_c3)]
          refine gIf_eq K113 b5_126 (fun q => absurd q (by first | decide | (intro hh; cases hh) | simp)) (fun q126 => ?_)
          refine gIload K113 b5_129 (v := c2) rfl ?_
          refine gIload K113 b5_131 (v := c3) rfl ?_
          refine gCallS K113 (W := 0) [(.int c2), (.int c3)] [] b5_133 (hw _ (List.mem_of_getElem? (i := 85) rfl)) (hw _ (List.mem_of_getElem? (i := 86) rfl)) (hw _ (List.mem_of_getElem? (i := 2) rfl)) (hw _ (List.mem_of_getElem? (i := 87) rfl)) (Cal.ofN (W := 0) (c_dots l Z a0 hw h113 n0 K113.n0le c2 c3) (hw _ (List.mem_of_getElem? (i := 87) rfl)) (hw _ (List.mem_of_getElem? (i := 2) rfl)) (by decide) (by decide)) (fun _ q => nomatch q) pd3 rfl rfl (Nat.le_of_eq rfl) rfl (by decide) (by decide) (by decide) (fun v115 T115 h115 K115 Q115 q115 => ?_)
          have E115 := Ext.of0 Q115
          have P116 := P114.ext E115
          cases q115
          rw [if_neg (fun q => (fun e => absurd hd_c2 (by rw [e]; decide)) q.1)]
          refine gIf_eq K115 b5_136 (fun q136 => ?_) (fun q => absurd q (by first | decide | (intro hh; cases hh) | simp))
          refine gIconst K115 (1 : Int32) b5_141 rfl ?_
          refine gRetI K115 hlk hret (by simp) b5_142 rfl P116 (by decide) (by decide) ?_
          rw [okF_d hd_c0, okF_d hd_c1, okF_d hd_c2, okF_d hd_c3, okF_nil]
        · skip
          by_cases hp_c2 : c2 = 46
          · skip
            rw [if_pos (Or.inr hp_c2)]
            refine gIf_eq K109 b5_102 (fun q => absurd q (by first | decide | (intro hh; cases hh) | simp)) (fun q102 => ?_)
            refine gIloadN K109 b5_105 (v := c1) rfl ?_
            refine gIload K109 b5_106 (v := c2) rfl ?_
            refine gCallS K109 (W := 0) [(.int c1), (.int c2)] [] b5_108 (hw _ (List.mem_of_getElem? (i := 85) rfl)) (hw _ (List.mem_of_getElem? (i := 86) rfl)) (hw _ (List.mem_of_getElem? (i := 2) rfl)) (hw _ (List.mem_of_getElem? (i := 87) rfl)) (Cal.ofN (W := 0) (c_dots l Z a0 hw h109 n0 K109.n0le c1 c2) (hw _ (List.mem_of_getElem? (i := 87) rfl)) (hw _ (List.mem_of_getElem? (i := 2) rfl)) (by decide) (by decide)) (fun _ q => nomatch q) pd3 rfl rfl (Nat.le_of_eq rfl) rfl (by decide) (by decide) (by decide) (fun v117 T117 h117 K117 Q117 q117 => ?_)
            have E117 := Ext.of0 Q117
            have P118 := P110.ext E117
            cases q117
            rw [if_neg (fun q => (fun e => absurd hd_c1 (by rw [e]; decide)) q.1)]
            refine gIf_eq K117 b5_111 (fun q111 => ?_) (fun q => absurd q (by first | decide | (intro hh; cases hh) | simp))
            refine gIloadN K117 b5_116 (v := (4 : Int32)) rfl ?_
            refine gIconst K117 (4 : Int32) b5_117 rfl ?_
            refine gIcmp_lt K117 b5_118 (fun q => absurd q (by first | decide | (intro hh; cases hh) | simp)) (fun q118 => ?_)
            refine gIload K117 b5_121 (v := c3) rfl ?_
            refine gCallS K117 (W := 0) [(.int c3)] [] b5_123 (hw _ (List.mem_of_getElem? (i := 82) rfl)) (hw _ (List.mem_of_getElem? (i := 83) rfl)) (hw _ (List.mem_of_getElem? (i := 2) rfl)) (hw _ (List.mem_of_getElem? (i := 84) rfl)) (Cal.ofN (W := 0) (c_dod l Z a0 hw h117 n0 K117.n0le c3) (hw _ (List.mem_of_getElem? (i := 84) rfl)) (hw _ (List.mem_of_getElem? (i := 2) rfl)) (by decide) (by decide)) (fun _ q => nomatch q) pd1 rfl rfl (Nat.le_of_eq rfl) rfl (by decide) (by decide) (by decide) (fun v119 T119 h119 K119 Q119 q119 => ?_)
            have E119 := Ext.of0 Q119
            have P120 := P118.ext E119
            cases q119
            rw [if_pos (Or.inl hd_c3)]
            refine gIf_eq K119 b5_126 (fun q => absurd q (by first | decide | (intro hh; cases hh) | simp)) (fun q126 => ?_)
            refine gIload K119 b5_129 (v := c2) rfl ?_
            refine gIload K119 b5_131 (v := c3) rfl ?_
            refine gCallS K119 (W := 0) [(.int c2), (.int c3)] [] b5_133 (hw _ (List.mem_of_getElem? (i := 85) rfl)) (hw _ (List.mem_of_getElem? (i := 86) rfl)) (hw _ (List.mem_of_getElem? (i := 2) rfl)) (hw _ (List.mem_of_getElem? (i := 87) rfl)) (Cal.ofN (W := 0) (c_dots l Z a0 hw h119 n0 K119.n0le c2 c3) (hw _ (List.mem_of_getElem? (i := 87) rfl)) (hw _ (List.mem_of_getElem? (i := 2) rfl)) (by decide) (by decide)) (fun _ q => nomatch q) pd3 rfl rfl (Nat.le_of_eq rfl) rfl (by decide) (by decide) (by decide) (fun v121 T121 h121 K121 Q121 q121 => ?_)
            have E121 := Ext.of0 Q121
            have P122 := P120.ext E121
            cases q121
            rw [if_neg (fun q => (fun e => absurd hd_c3 (by rw [e]; decide)) q.2)]
            refine gIf_eq K121 b5_136 (fun q136 => ?_) (fun q => absurd q (by first | decide | (intro hh; cases hh) | simp))
            refine gIconst K121 (1 : Int32) b5_141 rfl ?_
            refine gRetI K121 hlk hret (by simp) b5_142 rfl P122 (by decide) (by decide) ?_
            rw [okF_d hd_c0, okF_d hd_c1, okF_p hd_c2 hp_c2 (by decide), okF_d hd_c3, okF_nil]
          · skip
            rw [if_neg (fun q => q.elim hd_c2 hp_c2)]
            refine gIf_eq K109 b5_102 (fun q102 => ?_) (fun q => absurd q (by first | decide | (intro hh; cases hh) | simp))
            refine gIconst K109 (0 : Int32) b5_114 rfl ?_
            refine gRetI K109 hlk hret (by simp) b5_115 rfl P110 (by decide) (by decide) ?_
            rw [okF_d hd_c0, okF_d hd_c1, okF_x hd_c2 (fun q => hp_c2 q.1)]
      · skip
        by_cases hp_c1 : c1 = 46
        · skip
          rw [if_pos (Or.inr hp_c1)]
          refine gIf_eq K105 b5_79 (fun q => absurd q (by first | decide | (intro hh; cases hh) | simp)) (fun q79 => ?_)
          refine gIloadN K105 b5_82 (v := c0) rfl ?_
          refine gIloadN K105 b5_83 (v := c1) rfl ?_
          refine gCallS K105 (W := 0) [(.int c0), (.int c1)] [] b5_84 (hw _ (List.mem_of_getElem? (i := 85) rfl)) (hw _ (List.mem_of_getElem? (i := 86) rfl)) (hw _ (List.mem_of_getElem? (i := 2) rfl)) (hw _ (List.mem_of_getElem? (i := 87) rfl)) (Cal.ofN (W := 0) (c_dots l Z a0 hw h105 n0 K105.n0le c0 c1) (hw _ (List.mem_of_getElem? (i := 87) rfl)) (hw _ (List.mem_of_getElem? (i := 2) rfl)) (by decide) (by decide)) (fun _ q => nomatch q) pd3 rfl rfl (Nat.le_of_eq rfl) rfl (by decide) (by decide) (by decide) (fun v123 T123 h123 K123 Q123 q123 => ?_)
          have E123 := Ext.of0 Q123
          have P124 := P106.ext E123
          cases q123
          rw [if_neg (fun q => (fun e => absurd hd_c0 (by rw [e]; decide)) q.1)]
          refine gIf_eq K123 b5_87 (fun q87 => ?_) (fun q => absurd q (by first | decide | (intro hh; cases hh) | simp))
          refine gIloadN K123 b5_92 (v := (4 : Int32)) rfl ?_
          refine gIconst K123 (3 : Int32) b5_93 rfl ?_
          refine gIcmp_lt K123 b5_94 (fun q => absurd q (by first | decide | (intro hh; cases hh) | simp)) (fun q94 => ?_)
          refine gIload K123 b5_97 (v := c2) rfl ?_
          refine gCallS K123 (W := 0) [(.int c2)] [] b5_99 (hw _ (List.mem_of_getElem? (i := 82) rfl)) (hw _ (List.mem_of_getElem? (i := 83) rfl)) (hw _ (List.mem_of_getElem? (i := 2) rfl)) (hw _ (List.mem_of_getElem? (i := 84) rfl)) (Cal.ofN (W := 0) (c_dod l Z a0 hw h123 n0 K123.n0le c2) (hw _ (List.mem_of_getElem? (i := 84) rfl)) (hw _ (List.mem_of_getElem? (i := 2) rfl)) (by decide) (by decide)) (fun _ q => nomatch q) pd1 rfl rfl (Nat.le_of_eq rfl) rfl (by decide) (by decide) (by decide) (fun v125 T125 h125 K125 Q125 q125 => ?_)
          have E125 := Ext.of0 Q125
          have P126 := P124.ext E125
          cases q125
          by_cases hd_c2 : dg c2
          · skip
            rw [if_pos (Or.inl hd_c2)]
            refine gIf_eq K125 b5_102 (fun q => absurd q (by first | decide | (intro hh; cases hh) | simp)) (fun q102 => ?_)
            refine gIloadN K125 b5_105 (v := c1) rfl ?_
            refine gIload K125 b5_106 (v := c2) rfl ?_
            refine gCallS K125 (W := 0) [(.int c1), (.int c2)] [] b5_108 (hw _ (List.mem_of_getElem? (i := 85) rfl)) (hw _ (List.mem_of_getElem? (i := 86) rfl)) (hw _ (List.mem_of_getElem? (i := 2) rfl)) (hw _ (List.mem_of_getElem? (i := 87) rfl)) (Cal.ofN (W := 0) (c_dots l Z a0 hw h125 n0 K125.n0le c1 c2) (hw _ (List.mem_of_getElem? (i := 87) rfl)) (hw _ (List.mem_of_getElem? (i := 2) rfl)) (by decide) (by decide)) (fun _ q => nomatch q) pd3 rfl rfl (Nat.le_of_eq rfl) rfl (by decide) (by decide) (by decide) (fun v127 T127 h127 K127 Q127 q127 => ?_)
            have E127 := Ext.of0 Q127
            have P128 := P126.ext E127
            cases q127
            rw [if_neg (fun q => (fun e => absurd hd_c2 (by rw [e]; decide)) q.2)]
            refine gIf_eq K127 b5_111 (fun q111 => ?_) (fun q => absurd q (by first | decide | (intro hh; cases hh) | simp))
            refine gIloadN K127 b5_116 (v := (4 : Int32)) rfl ?_
            refine gIconst K127 (4 : Int32) b5_117 rfl ?_
            refine gIcmp_lt K127 b5_118 (fun q => absurd q (by first | decide | (intro hh; cases hh) | simp)) (fun q118 => ?_)
            refine gIload K127 b5_121 (v := c3) rfl ?_
            refine gCallS K127 (W := 0) [(.int c3)] [] b5_123 (hw _ (List.mem_of_getElem? (i := 82) rfl)) (hw _ (List.mem_of_getElem? (i := 83) rfl)) (hw _ (List.mem_of_getElem? (i := 2) rfl)) (hw _ (List.mem_of_getElem? (i := 84) rfl)) (Cal.ofN (W := 0) (c_dod l Z a0 hw h127 n0 K127.n0le c3) (hw _ (List.mem_of_getElem? (i := 84) rfl)) (hw _ (List.mem_of_getElem? (i := 2) rfl)) (by decide) (by decide)) (fun _ q => nomatch q) pd1 rfl rfl (Nat.le_of_eq rfl) rfl (by decide) (by decide) (by decide) (fun v129 T129 h129 K129 Q129 q129 => ?_)
            have E129 := Ext.of0 Q129
            have P130 := P128.ext E129
            cases q129
            rw [if_pos (Or.inl hd_c3)]
            refine gIf_eq K129 b5_126 (fun q => absurd q (by first | decide | (intro hh; cases hh) | simp)) (fun q126 => ?_)
            refine gIload K129 b5_129 (v := c2) rfl ?_
            refine gIload K129 b5_131 (v := c3) rfl ?_
            refine gCallS K129 (W := 0) [(.int c2), (.int c3)] [] b5_133 (hw _ (List.mem_of_getElem? (i := 85) rfl)) (hw _ (List.mem_of_getElem? (i := 86) rfl)) (hw _ (List.mem_of_getElem? (i := 2) rfl)) (hw _ (List.mem_of_getElem? (i := 87) rfl)) (Cal.ofN (W := 0) (c_dots l Z a0 hw h129 n0 K129.n0le c2 c3) (hw _ (List.mem_of_getElem? (i := 87) rfl)) (hw _ (List.mem_of_getElem? (i := 2) rfl)) (by decide) (by decide)) (fun _ q => nomatch q) pd3 rfl rfl (Nat.le_of_eq rfl) rfl (by decide) (by decide) (by decide) (fun v131 T131 h131 K131 Q131 q131 => ?_)
            have E131 := Ext.of0 Q131
            have P132 := P130.ext E131
            cases q131
            rw [if_neg (fun q => (fun e => absurd hd_c2 (by rw [e]; decide)) q.1)]
            refine gIf_eq K131 b5_136 (fun q136 => ?_) (fun q => absurd q (by first | decide | (intro hh; cases hh) | simp))
            refine gIconst K131 (1 : Int32) b5_141 rfl ?_
            refine gRetI K131 hlk hret (by simp) b5_142 rfl P132 (by decide) (by decide) ?_
            rw [okF_d hd_c0, okF_p hd_c1 hp_c1 (by decide), okF_d hd_c2, okF_d hd_c3, okF_nil]
          · skip
            by_cases hp_c2 : c2 = 46
            · skip
              rw [if_pos (Or.inr hp_c2)]
              refine gIf_eq K125 b5_102 (fun q => absurd q (by first | decide | (intro hh; cases hh) | simp)) (fun q102 => ?_)
              refine gIloadN K125 b5_105 (v := c1) rfl ?_
              refine gIload K125 b5_106 (v := c2) rfl ?_
              refine gCallS K125 (W := 0) [(.int c1), (.int c2)] [] b5_108 (hw _ (List.mem_of_getElem? (i := 85) rfl)) (hw _ (List.mem_of_getElem? (i := 86) rfl)) (hw _ (List.mem_of_getElem? (i := 2) rfl)) (hw _ (List.mem_of_getElem? (i := 87) rfl)) (Cal.ofN (W := 0) (c_dots l Z a0 hw h125 n0 K125.n0le c1 c2) (hw _ (List.mem_of_getElem? (i := 87) rfl)) (hw _ (List.mem_of_getElem? (i := 2) rfl)) (by decide) (by decide)) (fun _ q => nomatch q) pd3 rfl rfl (Nat.le_of_eq rfl) rfl (by decide) (by decide) (by decide) (fun v133 T133 h133 K133 Q133 q133 => ?_)
              have E133 := Ext.of0 Q133
              have P134 := P126.ext E133
              cases q133
              rw [if_pos ⟨hp_c1, hp_c2⟩]
              refine gIf_eq K133 b5_111 (fun q => absurd q (by first | decide | (intro hh; cases hh) | simp)) (fun q111 => ?_)
              refine gIconst K133 (0 : Int32) b5_114 rfl ?_
              refine gRetI K133 hlk hret (by simp) b5_115 rfl P134 (by decide) (by decide) ?_
              rw [okF_d hd_c0, okF_p hd_c1 hp_c1 (by decide), okF_x hd_c2 (fun q => q.2 rfl)]
            · skip
              rw [if_neg (fun q => q.elim hd_c2 hp_c2)]
              refine gIf_eq K125 b5_102 (fun q102 => ?_) (fun q => absurd q (by first | decide | (intro hh; cases hh) | simp))
              refine gIconst K125 (0 : Int32) b5_114 rfl ?_
              refine gRetI K125 hlk hret (by simp) b5_115 rfl P126 (by decide) (by decide) ?_
              rw [okF_d hd_c0, okF_p hd_c1 hp_c1 (by decide), okF_x hd_c2 (fun q => hp_c2 q.1)]
        · skip
          rw [if_neg (fun q => q.elim hd_c1 hp_c1)]
          refine gIf_eq K105 b5_79 (fun q79 => ?_) (fun q => absurd q (by first | decide | (intro hh; cases hh) | simp))
          refine gIconst K105 (0 : Int32) b5_90 rfl ?_
          refine gRetI K105 hlk hret (by simp) b5_91 rfl P106 (by decide) (by decide) ?_
          rw [okF_d hd_c0, okF_x hd_c1 (fun q => hp_c1 q.1)]
    · skip
      by_cases hp_c0 : c0 = 46
      · skip
        rw [if_pos (Or.inr hp_c0)]
        refine gIf_ne K103 b5_65 (fun q65 => ?_) (fun q => absurd q (by first | decide | (intro hh; cases hh) | simp))
        refine gIloadN K103 b5_70 (v := (4 : Int32)) rfl ?_
        refine gIconst K103 (2 : Int32) b5_71 rfl ?_
        refine gIcmp_lt K103 b5_72 (fun q => absurd q (by first | decide | (intro hh; cases hh) | simp)) (fun q72 => ?_)
        refine gIloadN K103 b5_75 (v := c1) rfl ?_
        refine gCallS K103 (W := 0) [(.int c1)] [] b5_76 (hw _ (List.mem_of_getElem? (i := 82) rfl)) (hw _ (List.mem_of_getElem? (i := 83) rfl)) (hw _ (List.mem_of_getElem? (i := 2) rfl)) (hw _ (List.mem_of_getElem? (i := 84) rfl)) (Cal.ofN (W := 0) (c_dod l Z a0 hw h103 n0 K103.n0le c1) (hw _ (List.mem_of_getElem? (i := 84) rfl)) (hw _ (List.mem_of_getElem? (i := 2) rfl)) (by decide) (by decide)) (fun _ q => nomatch q) pd1 rfl rfl (Nat.le_of_eq rfl) rfl (by decide) (by decide) (by decide) (fun v135 T135 h135 K135 Q135 q135 => ?_)
        have E135 := Ext.of0 Q135
        have P136 := P104.ext E135
        cases q135
        by_cases hd_c1 : dg c1
        · skip
          rw [if_pos (Or.inl hd_c1)]
          refine gIf_eq K135 b5_79 (fun q => absurd q (by first | decide | (intro hh; cases hh) | simp)) (fun q79 => ?_)
          refine gIloadN K135 b5_82 (v := c0) rfl ?_
          refine gIloadN K135 b5_83 (v := c1) rfl ?_
          refine gCallS K135 (W := 0) [(.int c0), (.int c1)] [] b5_84 (hw _ (List.mem_of_getElem? (i := 85) rfl)) (hw _ (List.mem_of_getElem? (i := 86) rfl)) (hw _ (List.mem_of_getElem? (i := 2) rfl)) (hw _ (List.mem_of_getElem? (i := 87) rfl)) (Cal.ofN (W := 0) (c_dots l Z a0 hw h135 n0 K135.n0le c0 c1) (hw _ (List.mem_of_getElem? (i := 87) rfl)) (hw _ (List.mem_of_getElem? (i := 2) rfl)) (by decide) (by decide)) (fun _ q => nomatch q) pd3 rfl rfl (Nat.le_of_eq rfl) rfl (by decide) (by decide) (by decide) (fun v137 T137 h137 K137 Q137 q137 => ?_)
          have E137 := Ext.of0 Q137
          have P138 := P136.ext E137
          cases q137
          rw [if_neg (fun q => (fun e => absurd hd_c1 (by rw [e]; decide)) q.2)]
          refine gIf_eq K137 b5_87 (fun q87 => ?_) (fun q => absurd q (by first | decide | (intro hh; cases hh) | simp))
          refine gIloadN K137 b5_92 (v := (4 : Int32)) rfl ?_
          refine gIconst K137 (3 : Int32) b5_93 rfl ?_
          refine gIcmp_lt K137 b5_94 (fun q => absurd q (by first | decide | (intro hh; cases hh) | simp)) (fun q94 => ?_)
          refine gIload K137 b5_97 (v := c2) rfl ?_
          refine gCallS K137 (W := 0) [(.int c2)] [] b5_99 (hw _ (List.mem_of_getElem? (i := 82) rfl)) (hw _ (List.mem_of_getElem? (i := 83) rfl)) (hw _ (List.mem_of_getElem? (i := 2) rfl)) (hw _ (List.mem_of_getElem? (i := 84) rfl)) (Cal.ofN (W := 0) (c_dod l Z a0 hw h137 n0 K137.n0le c2) (hw _ (List.mem_of_getElem? (i := 84) rfl)) (hw _ (List.mem_of_getElem? (i := 2) rfl)) (by decide) (by decide)) (fun _ q => nomatch q) pd1 rfl rfl (Nat.le_of_eq rfl) rfl (by decide) (by decide) (by decide) (fun v139 T139 h139 K139 Q139 q139 => ?_)
          have E139 := Ext.of0 Q139
          have P140 := P138.ext E139
          cases q139
          by_cases hd_c2 : dg c2
          · skip
            rw [if_pos (Or.inl hd_c2)]
            refine gIf_eq K139 b5_102 (fun q => absurd q (by first | decide | (intro hh; cases hh) | simp)) (fun q102 => ?_)
            refine gIloadN K139 b5_105 (v := c1) rfl ?_
            refine gIload K139 b5_106 (v := c2) rfl ?_
            refine gCallS K139 (W := 0) [(.int c1), (.int c2)] [] b5_108 (hw _ (List.mem_of_getElem? (i := 85) rfl)) (hw _ (List.mem_of_getElem? (i := 86) rfl)) (hw _ (List.mem_of_getElem? (i := 2) rfl)) (hw _ (List.mem_of_getElem? (i := 87) rfl)) (Cal.ofN (W := 0) (c_dots l Z a0 hw h139 n0 K139.n0le c1 c2) (hw _ (List.mem_of_getElem? (i := 87) rfl)) (hw _ (List.mem_of_getElem? (i := 2) rfl)) (by decide) (by decide)) (fun _ q => nomatch q) pd3 rfl rfl (Nat.le_of_eq rfl) rfl (by decide) (by decide) (by decide) (fun v141 T141 h141 K141 Q141 q141 => ?_)
            have E141 := Ext.of0 Q141
            have P142 := P140.ext E141
            cases q141
            rw [if_neg (fun q => (fun e => absurd hd_c1 (by rw [e]; decide)) q.1)]
            refine gIf_eq K141 b5_111 (fun q111 => ?_) (fun q => absurd q (by first | decide | (intro hh; cases hh) | simp))
            refine gIloadN K141 b5_116 (v := (4 : Int32)) rfl ?_
            refine gIconst K141 (4 : Int32) b5_117 rfl ?_
            refine gIcmp_lt K141 b5_118 (fun q => absurd q (by first | decide | (intro hh; cases hh) | simp)) (fun q118 => ?_)
            refine gIload K141 b5_121 (v := c3) rfl ?_
            refine gCallS K141 (W := 0) [(.int c3)] [] b5_123 (hw _ (List.mem_of_getElem? (i := 82) rfl)) (hw _ (List.mem_of_getElem? (i := 83) rfl)) (hw _ (List.mem_of_getElem? (i := 2) rfl)) (hw _ (List.mem_of_getElem? (i := 84) rfl)) (Cal.ofN (W := 0) (c_dod l Z a0 hw h141 n0 K141.n0le c3) (hw _ (List.mem_of_getElem? (i := 84) rfl)) (hw _ (List.mem_of_getElem? (i := 2) rfl)) (by decide) (by decide)) (fun _ q => nomatch q) pd1 rfl rfl (Nat.le_of_eq rfl) rfl (by decide) (by decide) (by decide) (fun v143 T143 h143 K143 Q143 q143 => ?_)
            have E143 := Ext.of0 Q143
            have P144 := P142.ext E143
            cases q143
            rw [if_pos (Or.inl hd_c3)]
            refine gIf_eq K143 b5_126 (fun q => absurd q (by first | decide | (intro hh; cases hh) | simp)) (fun q126 => ?_)
            refine gIload K143 b5_129 (v := c2) rfl ?_
            refine gIload K143 b5_131 (v := c3) rfl ?_
            refine gCallS K143 (W := 0) [(.int c2), (.int c3)] [] b5_133 (hw _ (List.mem_of_getElem? (i := 85) rfl)) (hw _ (List.mem_of_getElem? (i := 86) rfl)) (hw _ (List.mem_of_getElem? (i := 2) rfl)) (hw _ (List.mem_of_getElem? (i := 87) rfl)) (Cal.ofN (W := 0) (c_dots l Z a0 hw h143 n0 K143.n0le c2 c3) (hw _ (List.mem_of_getElem? (i := 87) rfl)) (hw _ (List.mem_of_getElem? (i := 2) rfl)) (by decide) (by decide)) (fun _ q => nomatch q) pd3 rfl rfl (Nat.le_of_eq rfl) rfl (by decide) (by decide) (by decide) (fun v145 T145 h145 K145 Q145 q145 => ?_)
            have E145 := Ext.of0 Q145
            have P146 := P144.ext E145
            cases q145
            rw [if_neg (fun q => (fun e => absurd hd_c2 (by rw [e]; decide)) q.1)]
            refine gIf_eq K145 b5_136 (fun q136 => ?_) (fun q => absurd q (by first | decide | (intro hh; cases hh) | simp))
            refine gIconst K145 (1 : Int32) b5_141 rfl ?_
            refine gRetI K145 hlk hret (by simp) b5_142 rfl P146 (by decide) (by decide) ?_
            rw [okF_p hd_c0 hp_c0 (by decide), okF_d hd_c1, okF_d hd_c2, okF_d hd_c3, okF_nil]
          · skip
            by_cases hp_c2 : c2 = 46
            · skip
              rw [if_pos (Or.inr hp_c2)]
              refine gIf_eq K139 b5_102 (fun q => absurd q (by first | decide | (intro hh; cases hh) | simp)) (fun q102 => ?_)
              refine gIloadN K139 b5_105 (v := c1) rfl ?_
              refine gIload K139 b5_106 (v := c2) rfl ?_
              refine gCallS K139 (W := 0) [(.int c1), (.int c2)] [] b5_108 (hw _ (List.mem_of_getElem? (i := 85) rfl)) (hw _ (List.mem_of_getElem? (i := 86) rfl)) (hw _ (List.mem_of_getElem? (i := 2) rfl)) (hw _ (List.mem_of_getElem? (i := 87) rfl)) (Cal.ofN (W := 0) (c_dots l Z a0 hw h139 n0 K139.n0le c1 c2) (hw _ (List.mem_of_getElem? (i := 87) rfl)) (hw _ (List.mem_of_getElem? (i := 2) rfl)) (by decide) (by decide)) (fun _ q => nomatch q) pd3 rfl rfl (Nat.le_of_eq rfl) rfl (by decide) (by decide) (by decide) (fun v147 T147 h147 K147 Q147 q147 => ?_)
              have E147 := Ext.of0 Q147
              have P148 := P140.ext E147
              cases q147
              rw [if_neg (fun q => (fun e => absurd hd_c1 (by rw [e]; decide)) q.1)]
              refine gIf_eq K147 b5_111 (fun q111 => ?_) (fun q => absurd q (by first | decide | (intro hh; cases hh) | simp))
              refine gIloadN K147 b5_116 (v := (4 : Int32)) rfl ?_
              refine gIconst K147 (4 : Int32) b5_117 rfl ?_
              refine gIcmp_lt K147 b5_118 (fun q => absurd q (by first | decide | (intro hh; cases hh) | simp)) (fun q118 => ?_)
              refine gIload K147 b5_121 (v := c3) rfl ?_
              refine gCallS K147 (W := 0) [(.int c3)] [] b5_123 (hw _ (List.mem_of_getElem? (i := 82) rfl)) (hw _ (List.mem_of_getElem? (i := 83) rfl)) (hw _ (List.mem_of_getElem? (i := 2) rfl)) (hw _ (List.mem_of_getElem? (i := 84) rfl)) (Cal.ofN (W := 0) (c_dod l Z a0 hw h147 n0 K147.n0le c3) (hw _ (List.mem_of_getElem? (i := 84) rfl)) (hw _ (List.mem_of_getElem? (i := 2) rfl)) (by decide) (by decide)) (fun _ q => nomatch q) pd1 rfl rfl (Nat.le_of_eq rfl) rfl (by decide) (by decide) (by decide) (fun v149 T149 h149 K149 Q149 q149 => ?_)
              have E149 := Ext.of0 Q149
              have P150 := P148.ext E149
              cases q149
              rw [if_pos (Or.inl hd_c3)]
              refine gIf_eq K149 b5_126 (fun q => absurd q (by first | decide | (intro hh; cases hh) | simp)) (fun q126 => ?_)
              refine gIload K149 b5_129 (v := c2) rfl ?_
              refine gIload K149 b5_131 (v := c3) rfl ?_
              refine gCallS K149 (W := 0) [(.int c2), (.int c3)] [] b5_133 (hw _ (List.mem_of_getElem? (i := 85) rfl)) (hw _ (List.mem_of_getElem? (i := 86) rfl)) (hw _ (List.mem_of_getElem? (i := 2) rfl)) (hw _ (List.mem_of_getElem? (i := 87) rfl)) (Cal.ofN (W := 0) (c_dots l Z a0 hw h149 n0 K149.n0le c2 c3) (hw _ (List.mem_of_getElem? (i := 87) rfl)) (hw _ (List.mem_of_getElem? (i := 2) rfl)) (by decide) (by decide)) (fun _ q => nomatch q) pd3 rfl rfl (Nat.le_of_eq rfl) rfl (by decide) (by decide) (by decide) (fun v151 T151 h151 K151 Q151 q151 => ?_)
              have E151 := Ext.of0 Q151
              have P152 := P150.ext E151
              cases q151
              rw [if_neg (fun q => (fun e => absurd hd_c3 (by rw [e]; decide)) q.2)]
              refine gIf_eq K151 b5_136 (fun q136 => ?_) (fun q => absurd q (by first | decide | (intro hh; cases hh) | simp))
              refine gIconst K151 (1 : Int32) b5_141 rfl ?_
              refine gRetI K151 hlk hret (by simp) b5_142 rfl P152 (by decide) (by decide) ?_
              rw [okF_p hd_c0 hp_c0 (by decide), okF_d hd_c1, okF_p hd_c2 hp_c2 (by decide), okF_d hd_c3, okF_nil]
            · skip
              rw [if_neg (fun q => q.elim hd_c2 hp_c2)]
              refine gIf_eq K139 b5_102 (fun q102 => ?_) (fun q => absurd q (by first | decide | (intro hh; cases hh) | simp))
              refine gIconst K139 (0 : Int32) b5_114 rfl ?_
              refine gRetI K139 hlk hret (by simp) b5_115 rfl P140 (by decide) (by decide) ?_
              rw [okF_p hd_c0 hp_c0 (by decide), okF_d hd_c1, okF_x hd_c2 (fun q => hp_c2 q.1)]
        · skip
          by_cases hp_c1 : c1 = 46
          · skip
            rw [if_pos (Or.inr hp_c1)]
            refine gIf_eq K135 b5_79 (fun q => absurd q (by first | decide | (intro hh; cases hh) | simp)) (fun q79 => ?_)
            refine gIloadN K135 b5_82 (v := c0) rfl ?_
            refine gIloadN K135 b5_83 (v := c1) rfl ?_
            refine gCallS K135 (W := 0) [(.int c0), (.int c1)] [] b5_84 (hw _ (List.mem_of_getElem? (i := 85) rfl)) (hw _ (List.mem_of_getElem? (i := 86) rfl)) (hw _ (List.mem_of_getElem? (i := 2) rfl)) (hw _ (List.mem_of_getElem? (i := 87) rfl)) (Cal.ofN (W := 0) (c_dots l Z a0 hw h135 n0 K135.n0le c0 c1) (hw _ (List.mem_of_getElem? (i := 87) rfl)) (hw _ (List.mem_of_getElem? (i := 2) rfl)) (by decide) (by decide)) (fun _ q => nomatch q) pd3 rfl rfl (Nat.le_of_eq rfl) rfl (by decide) (by decide) (by decide) (fun v153 T153 h153 K153 Q153 q153 => ?_)
            have E153 := Ext.of0 Q153
            have P154 := P136.ext E153
            cases q153
            rw [if_pos ⟨hp_c0, hp_c1⟩]
            refine gIf_eq K153 b5_87 (fun q => absurd q (by first | decide | (intro hh; cases hh) | simp)) (fun q87 => ?_)
            refine gIconst K153 (0 : Int32) b5_90 rfl ?_
            refine gRetI K153 hlk hret (by simp) b5_91 rfl P154 (by decide) (by decide) ?_
            rw [okF_p hd_c0 hp_c0 (by decide), okF_x hd_c1 (fun q => q.2 rfl)]
          · skip
            rw [if_neg (fun q => q.elim hd_c1 hp_c1)]
            refine gIf_eq K135 b5_79 (fun q79 => ?_) (fun q => absurd q (by first | decide | (intro hh; cases hh) | simp))
            refine gIconst K135 (0 : Int32) b5_90 rfl ?_
            refine gRetI K135 hlk hret (by simp) b5_91 rfl P136 (by decide) (by decide) ?_
            rw [okF_p hd_c0 hp_c0 (by decide), okF_x hd_c1 (fun q => hp_c1 q.1)]
      · skip
        rw [if_neg (fun q => q.elim hd_c0 hp_c0)]
        refine gIf_ne K103 b5_65 (fun q => absurd q (by first | decide | (intro hh; cases hh) | simp)) (fun q65 => ?_)
        refine gIconst K103 (0 : Int32) b5_68 rfl ?_
        refine gRetI K103 hlk hret (by simp) b5_69 rfl P104 (by decide) (by decide) ?_
        rw [okF_x hd_c0 (fun q => hp_c0 q.1)]
  · skip
    rw [if_neg hd_c3]
    refine gIf_ne K101 b5_56 (fun q => absurd q (by first | decide | (intro hh; cases hh) | simp)) (fun q56 => ?_)
    refine gIconst K101 (0 : Int32) b5_59 rfl ?_
    refine gRetI K101 hlk hret (by simp) b5_60 rfl P102 (by decide) (by decide) ?_
    exact congrArg (fun z => some (Value.int z)) (okF_last hd_c3 [c0, c1, c2] (1 : Int32)).symm
set_option maxRecDepth 65536 in
set_option maxHeartbeats 40000000 in
theorem c_valid (l : Launch) (Z : State) (a0 : Array Value) (hw : ∀ d ∈ tables_1, d.before a0 Z = true) (h0 : Heap) (n0 : Nat) (Z0 : n0 ≤ h0.size) (x : Addr) (cs : List Int32) (A : StrL Z h0 x cs) (z : Int32) (Sc : Sta Z h0 "java/lang/String" "COMPACT_STRINGS" "Z" (.int z)) (hz : ¬ z = 0) (fm : Value) (Sf : Sta Z h0 "jdk/internal/util/Preconditions" "SIOOBE_FORMATTER" "Ljava/util/function/BiFunction;" fm) (rf : fm.isRef = true) (hL : cs.length ≤ 64) :
    Con none l (⟨"com/example/stowage/stowage/dicom/Uid", "isValid", "(Ljava/lang/String;)Z"⟩ : MethodName) prog_11_method_2_code 4 (some .boolean) [] ({ frames := 5, cells := 0, slots := 0, locals := 70 } : Room) Z n0 h0 [] #[(.ref x)] (fun v h => v = some (.int (okF cs 0))) := by
  refine Con.intro pn2 Z0 (fun _ q => nomatch q) trivial #[.val (.ref x), .unset, .unset, .unset] (fun m => by first | (simp [entryFrame, mkF, argsToLocals, Value.category]; done) | rfl) ?_
  intro p e s m below meth c T0 hlk hret hnm K0
  have P0 := Keep.refl h0 []
  refine gAloadN K0 b6_0 (v := (.ref x)) rfl rfl ?_
  refine gCallV K0 (W := 0) (C := "java/lang/String") x [] [] b6_1 (hw _ (List.mem_of_getElem? (i := 36) rfl)) (hw _ (List.mem_of_getElem? (i := 37) rfl)) (hw _ (List.mem_of_getElem? (i := 39) rfl)) (hw _ (List.mem_of_getElem? (i := 38) rfl)) (cal_len hw (W := 0) A Sc hz (by decide) (by decide)) (A).exa (fun _ q => nomatch q) pd4 rfl rfl (Nat.le_of_eq rfl) rfl (by decide) (by decide) (by decide) (fun v101 T101 h101 K101 Q101 q101 => ?_)
  have E101 := Ext.of0 Q101
  have P102 := P0.ext E101
  cases q101
  refine gBipush K101 (64 : Int32) b6_4 rfl ?_
  refine gIcmp_le K101 b6_6 (fun q6 => ?_) (fun q => absurd q (ofNat_nlt (k := 64) hL (by decide)))
  refine gIconst K101 (0 : Int32) b6_11 rfl ?_
  refine gIstoreN K101 b6_12 (Ls' := #[.val (.ref x), .val (.int (0 : Int32)), .unset, .unset]) rfl ?_
  refine gIconst K101 (0 : Int32) b6_13 rfl ?_
  refine gIstoreN K101 b6_14 (Ls' := #[.val (.ref x), .val (.int (0 : Int32)), .val (.int (0 : Int32)), .unset]) rfl ?_
  have loop15 : ∀ (d k : Nat), ∀ (bb : Int32) (sl3 : Slot), (sl3 = .unset ∨ ∃ w, sl3 = .val w ∧ w.category = 1) → k + d = cs.length → okF (cs.drop k) bb = okF cs 0 → narrow .boolean (.int bb) = .int bb → ∀ (Tl : State) (hl : Heap) (Kl : Cx p l e ({ frames := 5, cells := 0, slots := 0, locals := 70 } : Room) s m #[(.ref x)] below meth c prog_11_method_2_code 4 Z "com/example/stowage/stowage/dicom/Uid" n0 none Tl hl [] 0 0) (Pl : Keep h0 hl []) (Al : StrL Z hl x cs) (Scl : Sta Z hl "java/lang/String" "COMPACT_STRINGS" "Z" (.int z)) (Sfl : Sta Z hl "jdk/internal/util/Preconditions" "SIOOBE_FORMATTER" "Ljava/util/function/BiFunction;" fm), Go p e below (End none s Z n0 h0 [] ({ frames := 5, cells := 0, slots := 0, locals := 70 } : Room).cells ({ frames := 5, cells := 0, slots := 0, locals := 70 } : Room).slots (fun v h => v = some (.int (okF cs 0)))) Tl (mkF m 15 #[.val (.ref x), .val (.int bb), .val (.int (Int32.ofNat k)), sl3] []) := by
    intro d
    induction d with
    | zero =>
      intro k bb sl3 hsl3 hk hr hbn Tl hl Kl Pl Al Scl Sfl
      refine gIloadN Kl b6_15 (v := (Int32.ofNat k)) rfl ?_
      refine gAloadN Kl b6_16 (v := (.ref x)) rfl rfl ?_
      refine gCallV Kl (W := 1) (C := "java/lang/String") x [] [(.int (Int32.ofNat k))] b6_17 (hw _ (List.mem_of_getElem? (i := 36) rfl)) (hw _ (List.mem_of_getElem? (i := 37) rfl)) (hw _ (List.mem_of_getElem? (i := 39) rfl)) (hw _ (List.mem_of_getElem? (i := 38) rfl)) (cal_len hw (W := 1) Al Scl hz (by decide) (by decide)) (Al).exa (fun _ q => nomatch q) pd4 rfl rfl (Nat.le_of_eq rfl) rfl (by decide) (by decide) (by decide) (fun v103 T103 h103 K103 Q103 q103 => ?_)
      have E103 := Ext.of0 Q103
      have P104 := Pl.ext E103
      cases q103
      refine gIcmp_ge K103 b6_20 (fun q20 => ?_) (fun q => absurd q (ofNat_nlt (by omega) (by omega)))
      refine gIloadN K103 b6_69 (v := bb) rfl ?_
      refine gRetI K103 hlk hret (by simp) b6_70 hbn P104 (by decide) (by decide) ?_
      rw [List.drop_eq_nil_of_le (by omega)] at hr
      exact congrArg (fun q => some (Value.int q)) hr
    | succ d ih =>
      intro k bb sl3 hsl3 hk hr hbn Tl hl Kl Pl Al Scl Sfl
      refine gIloadN Kl b6_15 (v := (Int32.ofNat k)) rfl ?_
      refine gAloadN Kl b6_16 (v := (.ref x)) rfl rfl ?_
      refine gCallV Kl (W := 1) (C := "java/lang/String") x [] [(.int (Int32.ofNat k))] b6_17 (hw _ (List.mem_of_getElem? (i := 36) rfl)) (hw _ (List.mem_of_getElem? (i := 37) rfl)) (hw _ (List.mem_of_getElem? (i := 39) rfl)) (hw _ (List.mem_of_getElem? (i := 38) rfl)) (cal_len hw (W := 1) Al Scl hz (by decide) (by decide)) (Al).exa (fun _ q => nomatch q) pd4 rfl rfl (Nat.le_of_eq rfl) rfl (by decide) (by decide) (by decide) (fun v105 T105 h105 K105 Q105 q105 => ?_)
      have E105 := Ext.of0 Q105
      have P106 := Pl.ext E105
      cases q105
      refine gIcmp_ge K105 b6_20 (fun q => absurd q (not_not_intro (ofNat_ltI (by omega) (by omega)))) (fun q20 => ?_)
      refine gAloadN K105 b6_23 (v := (.ref x)) rfl rfl ?_
      refine gIloadN K105 b6_24 (v := (Int32.ofNat k)) rfl ?_
      refine gCallV K105 (W := 0) (C := "java/lang/String") x [(.int (Int32.ofNat k))] [] b6_25 (hw _ (List.mem_of_getElem? (i := 60) rfl)) (hw _ (List.mem_of_getElem? (i := 61) rfl)) (hw _ (List.mem_of_getElem? (i := 63) rfl)) (hw _ (List.mem_of_getElem? (i := 62) rfl)) (cal_ch hw (W := 0) k (Al.ext E105) (Scl.ext E105) hz (Sfl.ext E105) rf (by omega) rfl (by decide) (by decide)) ((Al.ext E105)).exa (fun _ q => nomatch q) pd5 rfl rfl (Nat.le_of_eq rfl) rfl (by decide) (by decide) (by decide) (fun v107 T107 h107 K107 Q107 q107 => ?_)
      have E107 := Ext.of0 Q107
      have P108 := P106.ext E107
      cases q107
      rw [drop_s (by omega)] at hr
      generalize cs.getD k 0 = cc at hr ⊢
      refine gIstoreN K107 b6_28 (Ls' := #[.val (.ref x), .val (.int bb), .val (.int (Int32.ofNat k)), .val (.int cc)]) ((XS.store1 (o := sl3) rfl hsl3 rfl).trans rfl) ?_
      refine gIloadN K107 b6_29 (v := cc) rfl ?_
      refine gBipush K107 (48 : Int32) b6_30 rfl ?_
      refine gIcmp_lt K107 b6_32 (fun q32 => ?_) (fun q32 => ?_)
      · skip
        refine gIloadN K107 b6_46 (v := cc) rfl ?_
        refine gBipush K107 (46 : Int32) b6_47 rfl ?_
        refine gIcmp_ne K107 b6_49 (fun q49 => ?_) (fun q49 => ?_)
        · skip
          refine gIconst K107 (0 : Int32) b6_61 rfl ?_
          refine gRetI K107 hlk hret (by simp) b6_62 rfl P108 (by decide) (by decide) ?_
          rw [okF_x (fun q => q.1 q32) (fun q => q49 q.1)] at hr
          exact congrArg (fun q => some (Value.int q)) hr
        · skip
          refine gIloadN K107 b6_52 (v := bb) rfl ?_
          refine gIf_eq K107 b6_53 (fun q53 => ?_) (fun q53 => ?_)
          · skip
            refine gIconst K107 (0 : Int32) b6_61 rfl ?_
            refine gRetI K107 hlk hret (by simp) b6_62 rfl P108 (by decide) (by decide) ?_
            rw [okF_x (fun q => q.1 q32) (fun q => q.2 q53)] at hr
            exact congrArg (fun q => some (Value.int q)) hr
          · skip
            refine gIconst K107 (0 : Int32) b6_56 rfl ?_
            refine gIstoreN K107 b6_57 (Ls' := #[.val (.ref x), .val (.int (0 : Int32)), .val (.int (Int32.ofNat k)), .val (.int cc)]) rfl ?_
            refine gGoto K107 b6_58 ?_
            refine gIinc K107 (1 : Int32) b6_63 rfl (x := (Int32.ofNat k)) rfl (Ls' := #[.val (.ref x), .val (.int (0 : Int32)), .val (.int ((Int32.ofNat k) + (1 : Int32))), .val (.int cc)]) rfl ?_
            rw [show ((Int32.ofNat k) + (1 : Int32)) = Int32.ofNat (k + 1) from ofNat_s (by omega)]
            refine gGoto K107 b6_66 ?_
            exact ih (k + 1) 0 _ (Or.inr ⟨_, rfl, rfl⟩) (by omega) (by rw [okF_p (fun q => q.1 q32) q49 q53] at hr; exact hr) rfl _ _ K107 P108 (Al.ext (Ext.tr E105 E107)) (Scl.ext (Ext.tr E105 E107)) (Sfl.ext (Ext.tr E105 E107))
      · skip
        refine gIloadN K107 b6_35 (v := cc) rfl ?_
        refine gBipush K107 (57 : Int32) b6_36 rfl ?_
        refine gIcmp_gt K107 b6_38 (fun q38 => ?_) (fun q38 => ?_)
        · skip
          refine gIloadN K107 b6_46 (v := cc) rfl ?_
          refine gBipush K107 (46 : Int32) b6_47 rfl ?_
          refine gIcmp_ne K107 b6_49 (fun q49 => ?_) (fun q49 => ?_)
          · skip
            refine gIconst K107 (0 : Int32) b6_61 rfl ?_
            refine gRetI K107 hlk hret (by simp) b6_62 rfl P108 (by decide) (by decide) ?_
            rw [okF_x (fun q => q.2 q38) (fun q => q49 q.1)] at hr
            exact congrArg (fun q => some (Value.int q)) hr
          · skip
            refine gIloadN K107 b6_52 (v := bb) rfl ?_
            refine gIf_eq K107 b6_53 (fun q53 => ?_) (fun q53 => ?_)
            · skip
              refine gIconst K107 (0 : Int32) b6_61 rfl ?_
              refine gRetI K107 hlk hret (by simp) b6_62 rfl P108 (by decide) (by decide) ?_
              rw [okF_x (fun q => q.2 q38) (fun q => q.2 q53)] at hr
              exact congrArg (fun q => some (Value.int q)) hr
            · skip
              refine gIconst K107 (0 : Int32) b6_56 rfl ?_
              refine gIstoreN K107 b6_57 (Ls' := #[.val (.ref x), .val (.int (0 : Int32)), .val (.int (Int32.ofNat k)), .val (.int cc)]) rfl ?_
              refine gGoto K107 b6_58 ?_
              refine gIinc K107 (1 : Int32) b6_63 rfl (x := (Int32.ofNat k)) rfl (Ls' := #[.val (.ref x), .val (.int (0 : Int32)), .val (.int ((Int32.ofNat k) + (1 : Int32))), .val (.int cc)]) rfl ?_
              rw [show ((Int32.ofNat k) + (1 : Int32)) = Int32.ofNat (k + 1) from ofNat_s (by omega)]
              refine gGoto K107 b6_66 ?_
              exact ih (k + 1) 0 _ (Or.inr ⟨_, rfl, rfl⟩) (by omega) (by rw [okF_p (fun q => q.2 q38) q49 q53] at hr; exact hr) rfl _ _ K107 P108 (Al.ext (Ext.tr E105 E107)) (Scl.ext (Ext.tr E105 E107)) (Sfl.ext (Ext.tr E105 E107))
        · skip
          refine gIconst K107 (1 : Int32) b6_41 rfl ?_
          refine gIstoreN K107 b6_42 (Ls' := #[.val (.ref x), .val (.int (1 : Int32)), .val (.int (Int32.ofNat k)), .val (.int cc)]) rfl ?_
          refine gGoto K107 b6_43 ?_
          refine gIinc K107 (1 : Int32) b6_63 rfl (x := (Int32.ofNat k)) rfl (Ls' := #[.val (.ref x), .val (.int (1 : Int32)), .val (.int ((Int32.ofNat k) + (1 : Int32))), .val (.int cc)]) rfl ?_
          rw [show ((Int32.ofNat k) + (1 : Int32)) = Int32.ofNat (k + 1) from ofNat_s (by omega)]
          refine gGoto K107 b6_66 ?_
          exact ih (k + 1) 1 _ (Or.inr ⟨_, rfl, rfl⟩) (by omega) (by rw [okF_d ⟨q32, q38⟩] at hr; exact hr) rfl _ _ K107 P108 (Al.ext (Ext.tr E105 E107)) (Scl.ext (Ext.tr E105 E107)) (Sfl.ext (Ext.tr E105 E107))
  exact loop15 cs.length 0 0 .unset (Or.inl rfl) (by omega) rfl rfl _ _ K101 P102 (A.ext E101) (Sc.ext E101) (Sf.ext E101)
set_option maxRecDepth 65536 in
set_option maxHeartbeats 40000000 in
theorem c_valid65 (l : Launch) (Z : State) (a0 : Array Value) (hw : ∀ d ∈ tables_1, d.before a0 Z = true) (h0 : Heap) (n0 : Nat) (Z0 : n0 ≤ h0.size) (x : Addr) (cs : List Int32) (A : StrL Z h0 x cs) (z : Int32) (Sc : Sta Z h0 "java/lang/String" "COMPACT_STRINGS" "Z" (.int z)) (hz : ¬ z = 0) (fm : Value) (Sf : Sta Z h0 "jdk/internal/util/Preconditions" "SIOOBE_FORMATTER" "Ljava/util/function/BiFunction;" fm) (rf : fm.isRef = true) (hL : 64 < cs.length) (hL2 : cs.length ≤ 4000) :
    Con none l (⟨"com/example/stowage/stowage/dicom/Uid", "isValid", "(Ljava/lang/String;)Z"⟩ : MethodName) prog_11_method_2_code 4 (some .boolean) [] ({ frames := 5, cells := 0, slots := 0, locals := 70 } : Room) Z n0 h0 [] #[(.ref x)] (fun v h => v = some (.int 0)) := by
  refine Con.intro pn2 Z0 (fun _ q => nomatch q) trivial #[.val (.ref x), .unset, .unset, .unset] (fun m => by first | (simp [entryFrame, mkF, argsToLocals, Value.category]; done) | rfl) ?_
  intro p e s m below meth c T0 hlk hret hnm K0
  have P0 := Keep.refl h0 []
  refine gAloadN K0 b6_0 (v := (.ref x)) rfl rfl ?_
  refine gCallV K0 (W := 0) (C := "java/lang/String") x [] [] b6_1 (hw _ (List.mem_of_getElem? (i := 36) rfl)) (hw _ (List.mem_of_getElem? (i := 37) rfl)) (hw _ (List.mem_of_getElem? (i := 39) rfl)) (hw _ (List.mem_of_getElem? (i := 38) rfl)) (cal_len hw (W := 0) A Sc hz (by decide) (by decide)) (A).exa (fun _ q => nomatch q) pd4 rfl rfl (Nat.le_of_eq rfl) rfl (by decide) (by decide) (by decide) (fun v101 T101 h101 K101 Q101 q101 => ?_)
  have E101 := Ext.of0 Q101
  have P102 := P0.ext E101
  cases q101
  refine gBipush K101 (64 : Int32) b6_4 rfl ?_
  refine gIcmp_le K101 b6_6 (fun q => absurd q (not_not_intro (ofNat_ltI (k := 64) hL (by omega)))) (fun q6 => ?_)
  refine gIconst K101 (0 : Int32) b6_9 rfl ?_
  refine gRetI K101 hlk hret (by simp) b6_10 rfl P102 (by decide) (by decide) ?_
  exact rfl
set_option maxRecDepth 65536 in
set_option maxHeartbeats 40000000 in
theorem c_law (l : Launch) (Z : State) (a0 : Array Value) (hw : ∀ d ∈ tables_1, d.before a0 Z = true) (h0 : Heap) (n0 : Nat) (Z0 : n0 ≤ h0.size) (hE : EW Z a0 [("java/lang/String", 7)]) (sel x0 x1 x2 x3 : Int32) (z : Int32) (Sc : Sta Z h0 "java/lang/String" "COMPACT_STRINGS" "Z" (.int z)) (hz : ¬ z = 0) (fm : Value) (Sf : Sta Z h0 "jdk/internal/util/Preconditions" "SIOOBE_FORMATTER" "Ljava/util/function/BiFunction;" fm) (rf : fm.isRef = true) :
    Con (some [("java/lang/String", 7)]) l (⟨"com/example/stowage/stowage/dicom/UidIsValidPinLaw", "law", "(IIIII)Z"⟩ : MethodName) code maxLocals ret tables_1 room_1 Z n0 h0 [] #[(.int sel), (.int x0), (.int x1), (.int x2), (.int x3)] (fun v h => v = some (.int 1)) := by
  refine Con.intro pn1 Z0 (fun _ q => nomatch q) ⟨a0, hE⟩ #[.val (.int sel), .val (.int x0), .val (.int x1), .val (.int x2), .val (.int x3), .unset, .unset, .unset, .unset, .unset, .unset, .unset, .unset] (fun m => by first | (simp [entryFrame, mkF, argsToLocals, Value.category, maxLocals]; done) | rfl) ?_
  intro p e s m below meth c T0 hlk hret hnm K0
  have P0 := Keep.refl h0 []
  refine gIloadN K0 L_0 (v := x0) rfl ?_
  refine gCallS K0 (W := 0) [(.int x0)] [] L_1 (hw _ (List.mem_of_getElem? (i := 0) rfl)) (hw _ (List.mem_of_getElem? (i := 1) rfl)) (hw _ (List.mem_of_getElem? (i := 2) rfl)) (hw _ (List.mem_of_getElem? (i := 3) rfl)) (Cal.ofN (W := 0) (c_ch l Z a0 hw h0 n0 K0.n0le x0) (hw _ (List.mem_of_getElem? (i := 3) rfl)) (hw _ (List.mem_of_getElem? (i := 2) rfl)) (by decide) (by decide)) (fun _ q => nomatch q) pd5 rfl rfl (Nat.le_of_eq rfl) rfl (by decide) (by decide) (by decide) (fun v101 T101 h101 K101 Q101 q101 => ?_)
  have E101 := Ext.of0 Q101
  have P102 := P0.ext E101
  obtain ⟨r0, rfl, hb0⟩ := q101
  refine gIstore K101 L_4 (Ls' := #[.val (.int sel), .val (.int x0), .val (.int x1), .val (.int x2), .val (.int x3), .val (.int r0), .unset, .unset, .unset, .unset, .unset, .unset, .unset]) rfl ?_
  refine gIloadN K101 L_6 (v := x1) rfl ?_
  refine gCallS K101 (W := 0) [(.int x1)] [] L_7 (hw _ (List.mem_of_getElem? (i := 0) rfl)) (hw _ (List.mem_of_getElem? (i := 1) rfl)) (hw _ (List.mem_of_getElem? (i := 2) rfl)) (hw _ (List.mem_of_getElem? (i := 3) rfl)) (Cal.ofN (W := 0) (c_ch l Z a0 hw h101 n0 K101.n0le x1) (hw _ (List.mem_of_getElem? (i := 3) rfl)) (hw _ (List.mem_of_getElem? (i := 2) rfl)) (by decide) (by decide)) (fun _ q => nomatch q) pd5 rfl rfl (Nat.le_of_eq rfl) rfl (by decide) (by decide) (by decide) (fun v103 T103 h103 K103 Q103 q103 => ?_)
  have E103 := Ext.of0 Q103
  have P104 := P102.ext E103
  obtain ⟨r1, rfl, hb1⟩ := q103
  refine gIstore K103 L_10 (Ls' := #[.val (.int sel), .val (.int x0), .val (.int x1), .val (.int x2), .val (.int x3), .val (.int r0), .val (.int r1), .unset, .unset, .unset, .unset, .unset, .unset]) rfl ?_
  refine gIloadN K103 L_12 (v := x2) rfl ?_
  refine gCallS K103 (W := 0) [(.int x2)] [] L_13 (hw _ (List.mem_of_getElem? (i := 0) rfl)) (hw _ (List.mem_of_getElem? (i := 1) rfl)) (hw _ (List.mem_of_getElem? (i := 2) rfl)) (hw _ (List.mem_of_getElem? (i := 3) rfl)) (Cal.ofN (W := 0) (c_ch l Z a0 hw h103 n0 K103.n0le x2) (hw _ (List.mem_of_getElem? (i := 3) rfl)) (hw _ (List.mem_of_getElem? (i := 2) rfl)) (by decide) (by decide)) (fun _ q => nomatch q) pd5 rfl rfl (Nat.le_of_eq rfl) rfl (by decide) (by decide) (by decide) (fun v105 T105 h105 K105 Q105 q105 => ?_)
  have E105 := Ext.of0 Q105
  have P106 := P104.ext E105
  obtain ⟨r2, rfl, hb2⟩ := q105
  refine gIstore K105 L_16 (Ls' := #[.val (.int sel), .val (.int x0), .val (.int x1), .val (.int x2), .val (.int x3), .val (.int r0), .val (.int r1), .val (.int r2), .unset, .unset, .unset, .unset, .unset]) rfl ?_
  refine gIload K105 L_18 (v := x3) rfl ?_
  refine gCallS K105 (W := 0) [(.int x3)] [] L_20 (hw _ (List.mem_of_getElem? (i := 0) rfl)) (hw _ (List.mem_of_getElem? (i := 1) rfl)) (hw _ (List.mem_of_getElem? (i := 2) rfl)) (hw _ (List.mem_of_getElem? (i := 3) rfl)) (Cal.ofN (W := 0) (c_ch l Z a0 hw h105 n0 K105.n0le x3) (hw _ (List.mem_of_getElem? (i := 3) rfl)) (hw _ (List.mem_of_getElem? (i := 2) rfl)) (by decide) (by decide)) (fun _ q => nomatch q) pd5 rfl rfl (Nat.le_of_eq rfl) rfl (by decide) (by decide) (by decide) (fun v107 T107 h107 K107 Q107 q107 => ?_)
  have E107 := Ext.of0 Q107
  have P108 := P106.ext E107
  obtain ⟨r3, rfl, hb3⟩ := q107
  refine gIstore K107 L_23 (Ls' := #[.val (.int sel), .val (.int x0), .val (.int x1), .val (.int x2), .val (.int x3), .val (.int r0), .val (.int r1), .val (.int r2), .val (.int r3), .unset, .unset, .unset, .unset]) rfl ?_
  refine gIloadN K107 L_25 (v := sel) rfl ?_
  refine gBipush K107 (7 : Int32) L_26 rfl ?_
  refine gIand K107 L_28 ?_
  refine gIstore K107 L_29 (Ls' := #[.val (.int sel), .val (.int x0), .val (.int x1), .val (.int x2), .val (.int x3), .val (.int r0), .val (.int r1), .val (.int r2), .val (.int r3), .val (.int (sel &&& (7 : Int32))), .unset, .unset, .unset]) rfl ?_
  rcases sel8 sel with hs | hs | hs | hs | hs | hs | hs | hs
  · rw [hs]
    refine gIload K107 L_31 (v := (0 : Int32)) rfl ?_
    refine gIconst K107 (5 : Int32) L_33 rfl ?_
    refine gIcmp_ne K107 L_34 (fun q34 => ?_) (fun q => absurd q (by first | decide | (intro hh; cases hh) | simp))
    refine gIload K107 L_446 (v := (0 : Int32)) rfl ?_
    refine gBipush K107 (6 : Int32) L_448 rfl ?_
    refine gIcmp_ne K107 L_450 (fun q450 => ?_) (fun q => absurd q (by first | decide | (intro hh; cases hh) | simp))
    refine gIload K107 L_856 (v := (0 : Int32)) rfl ?_
    refine gBipush K107 (7 : Int32) L_858 rfl ?_
    refine gIcmp_ne K107 L_860 (fun q860 => ?_) (fun q => absurd q (by first | decide | (intro hh; cases hh) | simp))
    refine gIload K107 L_867 (v := (0 : Int32)) rfl ?_
    refine gIstore K107 L_869 (Ls' := #[.val (.int sel), .val (.int x0), .val (.int x1), .val (.int x2), .val (.int x3), .val (.int r0), .val (.int r1), .val (.int r2), .val (.int r3), .val (.int (0 : Int32)), .unset, .unset, .val (.int (0 : Int32))]) rfl ?_
    refine gIload K107 L_871 (v := (0 : Int32)) rfl ?_
    refine gIload K107 L_873 (v := r0) rfl ?_
    refine gIload K107 L_875 (v := r1) rfl ?_
    refine gIload K107 L_877 (v := r2) rfl ?_
    refine gIload K107 L_879 (v := r3) rfl ?_
    refine gCallS K107 (W := 0) [(.int (0 : Int32)), (.int r0), (.int r1), (.int r2), (.int r3)] [] L_881 (hw _ (List.mem_of_getElem? (i := 4) rfl)) (hw _ (List.mem_of_getElem? (i := 5) rfl)) (hw _ (List.mem_of_getElem? (i := 2) rfl)) (hw _ (List.mem_of_getElem? (i := 6) rfl)) (Cal.ofW (W := 0) (c_short0 l Z a0 hw h107 n0 K107.n0le hE r0 r1 r2 r3 hb0 hb1 hb2 hb3 z (Sc.ext (Ext.tr (Ext.tr (Ext.tr E101 E103) E105) E107)) hz) (hw _ (List.mem_of_getElem? (i := 6) rfl)) (hw _ (List.mem_of_getElem? (i := 2) rfl)) (by decide) (by decide)) (fun _ q => nomatch q) pd6 rfl rfl (Nat.le_of_eq rfl) rfl (by decide) (by decide) (by decide) (fun v109 T109 h109 K109 Q109 q109 => ?_)
    have E109 := Ext.of0 Q109
    have P110 := P108.ext E109
    obtain ⟨xs, rfl, Ss⟩ := q109
    refine gAstore K109 L_884 rfl (Ls' := #[.val (.int sel), .val (.int x0), .val (.int x1), .val (.int x2), .val (.int x3), .val (.int r0), .val (.int r1), .val (.int r2), .val (.int r3), .val (.int (0 : Int32)), .val (.ref xs), .unset, .val (.int (0 : Int32))]) rfl ?_
    refine gIconst K109 (0 : Int32) L_886 rfl ?_
    refine gIload K109 L_887 (v := (0 : Int32)) rfl ?_
    refine gIload K109 L_889 (v := r0) rfl ?_
    refine gIload K109 L_891 (v := r1) rfl ?_
    refine gIload K109 L_893 (v := r2) rfl ?_
    refine gIload K109 L_895 (v := r3) rfl ?_
    refine gCallS K109 (W := 0) [(.int (0 : Int32)), (.int (0 : Int32)), (.int r0), (.int r1), (.int r2), (.int r3)] [] L_897 (hw _ (List.mem_of_getElem? (i := 29) rfl)) (hw _ (List.mem_of_getElem? (i := 30) rfl)) (hw _ (List.mem_of_getElem? (i := 2) rfl)) (hw _ (List.mem_of_getElem? (i := 31) rfl)) (Cal.ofN (W := 0) (c_tail00 l Z a0 hw h109 n0 K109.n0le r0 r1 r2 r3) (hw _ (List.mem_of_getElem? (i := 31) rfl)) (hw _ (List.mem_of_getElem? (i := 2) rfl)) (by decide) (by decide)) (fun _ q => nomatch q) pd7 rfl rfl (Nat.le_of_eq rfl) rfl (by decide) (by decide) (by decide) (fun v111 T111 h111 K111 Q111 q111 => ?_)
    have E111 := Ext.of0 Q111
    have P112 := P110.ext E111
    cases q111
    refine gIstore K111 L_900 (Ls' := #[.val (.int sel), .val (.int x0), .val (.int x1), .val (.int x2), .val (.int x3), .val (.int r0), .val (.int r1), .val (.int r2), .val (.int r3), .val (.int (0 : Int32)), .val (.ref xs), .val (.int (okF [] (0 : Int32))), .val (.int (0 : Int32))]) rfl ?_
    refine gAload K111 L_902 (v := (.ref xs)) rfl rfl ?_
    refine gCallS K111 (W := 0) [(.ref xs)] [] L_904 (hw _ (List.mem_of_getElem? (i := 32) rfl)) (hw _ (List.mem_of_getElem? (i := 33) rfl)) (hw _ (List.mem_of_getElem? (i := 34) rfl)) (hw _ (List.mem_of_getElem? (i := 35) rfl)) (Cal.ofN (W := 0) (c_valid l Z a0 hw h111 n0 K111.n0le xs [] (Ss.ext E111) z (Sc.ext (Ext.tr (Ext.tr (Ext.tr (Ext.tr (Ext.tr E101 E103) E105) E107) E109) E111)) hz fm (Sf.ext (Ext.tr (Ext.tr (Ext.tr (Ext.tr (Ext.tr E101 E103) E105) E107) E109) E111)) rf (Nat.le_of_ble_eq_true rfl)) (hw _ (List.mem_of_getElem? (i := 35) rfl)) (hw _ (List.mem_of_getElem? (i := 34) rfl)) (by decide) (by decide)) (fun _ q => nomatch q) pd8 rfl rfl (Nat.le_of_eq rfl) rfl (by decide) (by decide) (by decide) (fun v113 T113 h113 K113 Q113 q113 => ?_)
    have E113 := Ext.of0 Q113
    have P114 := P112.ext E113
    cases q113
    refine gIload K113 L_907 (v := (okF [] (0 : Int32))) rfl ?_
    refine gIcmp_ne K113 L_909 (fun q => absurd q (not_not_intro rfl)) (fun q909 => ?_)
    refine gIconst K113 (1 : Int32) L_912 rfl ?_
    refine gGoto K113 L_913 ?_
    refine gRetI K113 hlk hret (by simp) L_917 rfl P114 (by decide) (by decide) ?_
    exact rfl
  · rw [hs]
    refine gIload K107 L_31 (v := (1 : Int32)) rfl ?_
    refine gIconst K107 (5 : Int32) L_33 rfl ?_
    refine gIcmp_ne K107 L_34 (fun q34 => ?_) (fun q => absurd q (by first | decide | (intro hh; cases hh) | simp))
    refine gIload K107 L_446 (v := (1 : Int32)) rfl ?_
    refine gBipush K107 (6 : Int32) L_448 rfl ?_
    refine gIcmp_ne K107 L_450 (fun q450 => ?_) (fun q => absurd q (by first | decide | (intro hh; cases hh) | simp))
    refine gIload K107 L_856 (v := (1 : Int32)) rfl ?_
    refine gBipush K107 (7 : Int32) L_858 rfl ?_
    refine gIcmp_ne K107 L_860 (fun q860 => ?_) (fun q => absurd q (by first | decide | (intro hh; cases hh) | simp))
    refine gIload K107 L_867 (v := (1 : Int32)) rfl ?_
    refine gIstore K107 L_869 (Ls' := #[.val (.int sel), .val (.int x0), .val (.int x1), .val (.int x2), .val (.int x3), .val (.int r0), .val (.int r1), .val (.int r2), .val (.int r3), .val (.int (1 : Int32)), .unset, .unset, .val (.int (1 : Int32))]) rfl ?_
    refine gIload K107 L_871 (v := (1 : Int32)) rfl ?_
    refine gIload K107 L_873 (v := r0) rfl ?_
    refine gIload K107 L_875 (v := r1) rfl ?_
    refine gIload K107 L_877 (v := r2) rfl ?_
    refine gIload K107 L_879 (v := r3) rfl ?_
    refine gCallS K107 (W := 0) [(.int (1 : Int32)), (.int r0), (.int r1), (.int r2), (.int r3)] [] L_881 (hw _ (List.mem_of_getElem? (i := 4) rfl)) (hw _ (List.mem_of_getElem? (i := 5) rfl)) (hw _ (List.mem_of_getElem? (i := 2) rfl)) (hw _ (List.mem_of_getElem? (i := 6) rfl)) (Cal.ofW (W := 0) (c_short1 l Z a0 hw h107 n0 K107.n0le hE r0 r1 r2 r3 hb0 hb1 hb2 hb3 z (Sc.ext (Ext.tr (Ext.tr (Ext.tr E101 E103) E105) E107)) hz) (hw _ (List.mem_of_getElem? (i := 6) rfl)) (hw _ (List.mem_of_getElem? (i := 2) rfl)) (by decide) (by decide)) (fun _ q => nomatch q) pd6 rfl rfl (Nat.le_of_eq rfl) rfl (by decide) (by decide) (by decide) (fun v115 T115 h115 K115 Q115 q115 => ?_)
    have E115 := Ext.of0 Q115
    have P116 := P108.ext E115
    obtain ⟨xs, rfl, Ss⟩ := q115
    refine gAstore K115 L_884 rfl (Ls' := #[.val (.int sel), .val (.int x0), .val (.int x1), .val (.int x2), .val (.int x3), .val (.int r0), .val (.int r1), .val (.int r2), .val (.int r3), .val (.int (1 : Int32)), .val (.ref xs), .unset, .val (.int (1 : Int32))]) rfl ?_
    refine gIconst K115 (0 : Int32) L_886 rfl ?_
    refine gIload K115 L_887 (v := (1 : Int32)) rfl ?_
    refine gIload K115 L_889 (v := r0) rfl ?_
    refine gIload K115 L_891 (v := r1) rfl ?_
    refine gIload K115 L_893 (v := r2) rfl ?_
    refine gIload K115 L_895 (v := r3) rfl ?_
    refine gCallS K115 (W := 0) [(.int (0 : Int32)), (.int (1 : Int32)), (.int r0), (.int r1), (.int r2), (.int r3)] [] L_897 (hw _ (List.mem_of_getElem? (i := 29) rfl)) (hw _ (List.mem_of_getElem? (i := 30) rfl)) (hw _ (List.mem_of_getElem? (i := 2) rfl)) (hw _ (List.mem_of_getElem? (i := 31) rfl)) (Cal.ofN (W := 0) (c_tail01 l Z a0 hw h115 n0 K115.n0le r0 r1 r2 r3) (hw _ (List.mem_of_getElem? (i := 31) rfl)) (hw _ (List.mem_of_getElem? (i := 2) rfl)) (by decide) (by decide)) (fun _ q => nomatch q) pd7 rfl rfl (Nat.le_of_eq rfl) rfl (by decide) (by decide) (by decide) (fun v117 T117 h117 K117 Q117 q117 => ?_)
    have E117 := Ext.of0 Q117
    have P118 := P116.ext E117
    cases q117
    refine gIstore K117 L_900 (Ls' := #[.val (.int sel), .val (.int x0), .val (.int x1), .val (.int x2), .val (.int x3), .val (.int r0), .val (.int r1), .val (.int r2), .val (.int r3), .val (.int (1 : Int32)), .val (.ref xs), .val (.int (okF [r0] (0 : Int32))), .val (.int (1 : Int32))]) rfl ?_
    refine gAload K117 L_902 (v := (.ref xs)) rfl rfl ?_
    refine gCallS K117 (W := 0) [(.ref xs)] [] L_904 (hw _ (List.mem_of_getElem? (i := 32) rfl)) (hw _ (List.mem_of_getElem? (i := 33) rfl)) (hw _ (List.mem_of_getElem? (i := 34) rfl)) (hw _ (List.mem_of_getElem? (i := 35) rfl)) (Cal.ofN (W := 0) (c_valid l Z a0 hw h117 n0 K117.n0le xs [r0] (Ss.ext E117) z (Sc.ext (Ext.tr (Ext.tr (Ext.tr (Ext.tr (Ext.tr E101 E103) E105) E107) E115) E117)) hz fm (Sf.ext (Ext.tr (Ext.tr (Ext.tr (Ext.tr (Ext.tr E101 E103) E105) E107) E115) E117)) rf (Nat.le_of_ble_eq_true rfl)) (hw _ (List.mem_of_getElem? (i := 35) rfl)) (hw _ (List.mem_of_getElem? (i := 34) rfl)) (by decide) (by decide)) (fun _ q => nomatch q) pd8 rfl rfl (Nat.le_of_eq rfl) rfl (by decide) (by decide) (by decide) (fun v119 T119 h119 K119 Q119 q119 => ?_)
    have E119 := Ext.of0 Q119
    have P120 := P118.ext E119
    cases q119
    refine gIload K119 L_907 (v := (okF [r0] (0 : Int32))) rfl ?_
    refine gIcmp_ne K119 L_909 (fun q => absurd q (not_not_intro rfl)) (fun q909 => ?_)
    refine gIconst K119 (1 : Int32) L_912 rfl ?_
    refine gGoto K119 L_913 ?_
    refine gRetI K119 hlk hret (by simp) L_917 rfl P120 (by decide) (by decide) ?_
    exact rfl
  · rw [hs]
    refine gIload K107 L_31 (v := (2 : Int32)) rfl ?_
    refine gIconst K107 (5 : Int32) L_33 rfl ?_
    refine gIcmp_ne K107 L_34 (fun q34 => ?_) (fun q => absurd q (by first | decide | (intro hh; cases hh) | simp))
    refine gIload K107 L_446 (v := (2 : Int32)) rfl ?_
    refine gBipush K107 (6 : Int32) L_448 rfl ?_
    refine gIcmp_ne K107 L_450 (fun q450 => ?_) (fun q => absurd q (by first | decide | (intro hh; cases hh) | simp))
    refine gIload K107 L_856 (v := (2 : Int32)) rfl ?_
    refine gBipush K107 (7 : Int32) L_858 rfl ?_
    refine gIcmp_ne K107 L_860 (fun q860 => ?_) (fun q => absurd q (by first | decide | (intro hh; cases hh) | simp))
    refine gIload K107 L_867 (v := (2 : Int32)) rfl ?_
    refine gIstore K107 L_869 (Ls' := #[.val (.int sel), .val (.int x0), .val (.int x1), .val (.int x2), .val (.int x3), .val (.int r0), .val (.int r1), .val (.int r2), .val (.int r3), .val (.int (2 : Int32)), .unset, .unset, .val (.int (2 : Int32))]) rfl ?_
    refine gIload K107 L_871 (v := (2 : Int32)) rfl ?_
    refine gIload K107 L_873 (v := r0) rfl ?_
    refine gIload K107 L_875 (v := r1) rfl ?_
    refine gIload K107 L_877 (v := r2) rfl ?_
    refine gIload K107 L_879 (v := r3) rfl ?_
    refine gCallS K107 (W := 0) [(.int (2 : Int32)), (.int r0), (.int r1), (.int r2), (.int r3)] [] L_881 (hw _ (List.mem_of_getElem? (i := 4) rfl)) (hw _ (List.mem_of_getElem? (i := 5) rfl)) (hw _ (List.mem_of_getElem? (i := 2) rfl)) (hw _ (List.mem_of_getElem? (i := 6) rfl)) (Cal.ofW (W := 0) (c_short2 l Z a0 hw h107 n0 K107.n0le hE r0 r1 r2 r3 hb0 hb1 hb2 hb3 z (Sc.ext (Ext.tr (Ext.tr (Ext.tr E101 E103) E105) E107)) hz) (hw _ (List.mem_of_getElem? (i := 6) rfl)) (hw _ (List.mem_of_getElem? (i := 2) rfl)) (by decide) (by decide)) (fun _ q => nomatch q) pd6 rfl rfl (Nat.le_of_eq rfl) rfl (by decide) (by decide) (by decide) (fun v121 T121 h121 K121 Q121 q121 => ?_)
    have E121 := Ext.of0 Q121
    have P122 := P108.ext E121
    obtain ⟨xs, rfl, Ss⟩ := q121
    refine gAstore K121 L_884 rfl (Ls' := #[.val (.int sel), .val (.int x0), .val (.int x1), .val (.int x2), .val (.int x3), .val (.int r0), .val (.int r1), .val (.int r2), .val (.int r3), .val (.int (2 : Int32)), .val (.ref xs), .unset, .val (.int (2 : Int32))]) rfl ?_
    refine gIconst K121 (0 : Int32) L_886 rfl ?_
    refine gIload K121 L_887 (v := (2 : Int32)) rfl ?_
    refine gIload K121 L_889 (v := r0) rfl ?_
    refine gIload K121 L_891 (v := r1) rfl ?_
    refine gIload K121 L_893 (v := r2) rfl ?_
    refine gIload K121 L_895 (v := r3) rfl ?_
    refine gCallS K121 (W := 0) [(.int (0 : Int32)), (.int (2 : Int32)), (.int r0), (.int r1), (.int r2), (.int r3)] [] L_897 (hw _ (List.mem_of_getElem? (i := 29) rfl)) (hw _ (List.mem_of_getElem? (i := 30) rfl)) (hw _ (List.mem_of_getElem? (i := 2) rfl)) (hw _ (List.mem_of_getElem? (i := 31) rfl)) (Cal.ofN (W := 0) (c_tail02 l Z a0 hw h121 n0 K121.n0le r0 r1 r2 r3) (hw _ (List.mem_of_getElem? (i := 31) rfl)) (hw _ (List.mem_of_getElem? (i := 2) rfl)) (by decide) (by decide)) (fun _ q => nomatch q) pd7 rfl rfl (Nat.le_of_eq rfl) rfl (by decide) (by decide) (by decide) (fun v123 T123 h123 K123 Q123 q123 => ?_)
    have E123 := Ext.of0 Q123
    have P124 := P122.ext E123
    cases q123
    refine gIstore K123 L_900 (Ls' := #[.val (.int sel), .val (.int x0), .val (.int x1), .val (.int x2), .val (.int x3), .val (.int r0), .val (.int r1), .val (.int r2), .val (.int r3), .val (.int (2 : Int32)), .val (.ref xs), .val (.int (okF [r0, r1] (0 : Int32))), .val (.int (2 : Int32))]) rfl ?_
    refine gAload K123 L_902 (v := (.ref xs)) rfl rfl ?_
    refine gCallS K123 (W := 0) [(.ref xs)] [] L_904 (hw _ (List.mem_of_getElem? (i := 32) rfl)) (hw _ (List.mem_of_getElem? (i := 33) rfl)) (hw _ (List.mem_of_getElem? (i := 34) rfl)) (hw _ (List.mem_of_getElem? (i := 35) rfl)) (Cal.ofN (W := 0) (c_valid l Z a0 hw h123 n0 K123.n0le xs [r0, r1] (Ss.ext E123) z (Sc.ext (Ext.tr (Ext.tr (Ext.tr (Ext.tr (Ext.tr E101 E103) E105) E107) E121) E123)) hz fm (Sf.ext (Ext.tr (Ext.tr (Ext.tr (Ext.tr (Ext.tr E101 E103) E105) E107) E121) E123)) rf (Nat.le_of_ble_eq_true rfl)) (hw _ (List.mem_of_getElem? (i := 35) rfl)) (hw _ (List.mem_of_getElem? (i := 34) rfl)) (by decide) (by decide)) (fun _ q => nomatch q) pd8 rfl rfl (Nat.le_of_eq rfl) rfl (by decide) (by decide) (by decide) (fun v125 T125 h125 K125 Q125 q125 => ?_)
    have E125 := Ext.of0 Q125
    have P126 := P124.ext E125
    cases q125
    refine gIload K125 L_907 (v := (okF [r0, r1] (0 : Int32))) rfl ?_
    refine gIcmp_ne K125 L_909 (fun q => absurd q (not_not_intro rfl)) (fun q909 => ?_)
    refine gIconst K125 (1 : Int32) L_912 rfl ?_
    refine gGoto K125 L_913 ?_
    refine gRetI K125 hlk hret (by simp) L_917 rfl P126 (by decide) (by decide) ?_
    exact rfl
  · rw [hs]
    refine gIload K107 L_31 (v := (3 : Int32)) rfl ?_
    refine gIconst K107 (5 : Int32) L_33 rfl ?_
    refine gIcmp_ne K107 L_34 (fun q34 => ?_) (fun q => absurd q (by first | decide | (intro hh; cases hh) | simp))
    refine gIload K107 L_446 (v := (3 : Int32)) rfl ?_
    refine gBipush K107 (6 : Int32) L_448 rfl ?_
    refine gIcmp_ne K107 L_450 (fun q450 => ?_) (fun q => absurd q (by first | decide | (intro hh; cases hh) | simp))
    refine gIload K107 L_856 (v := (3 : Int32)) rfl ?_
    refine gBipush K107 (7 : Int32) L_858 rfl ?_
    refine gIcmp_ne K107 L_860 (fun q860 => ?_) (fun q => absurd q (by first | decide | (intro hh; cases hh) | simp))
    refine gIload K107 L_867 (v := (3 : Int32)) rfl ?_
    refine gIstore K107 L_869 (Ls' := #[.val (.int sel), .val (.int x0), .val (.int x1), .val (.int x2), .val (.int x3), .val (.int r0), .val (.int r1), .val (.int r2), .val (.int r3), .val (.int (3 : Int32)), .unset, .unset, .val (.int (3 : Int32))]) rfl ?_
    refine gIload K107 L_871 (v := (3 : Int32)) rfl ?_
    refine gIload K107 L_873 (v := r0) rfl ?_
    refine gIload K107 L_875 (v := r1) rfl ?_
    refine gIload K107 L_877 (v := r2) rfl ?_
    refine gIload K107 L_879 (v := r3) rfl ?_
    refine gCallS K107 (W := 0) [(.int (3 : Int32)), (.int r0), (.int r1), (.int r2), (.int r3)] [] L_881 (hw _ (List.mem_of_getElem? (i := 4) rfl)) (hw _ (List.mem_of_getElem? (i := 5) rfl)) (hw _ (List.mem_of_getElem? (i := 2) rfl)) (hw _ (List.mem_of_getElem? (i := 6) rfl)) (Cal.ofW (W := 0) (c_short3 l Z a0 hw h107 n0 K107.n0le hE r0 r1 r2 r3 hb0 hb1 hb2 hb3 z (Sc.ext (Ext.tr (Ext.tr (Ext.tr E101 E103) E105) E107)) hz) (hw _ (List.mem_of_getElem? (i := 6) rfl)) (hw _ (List.mem_of_getElem? (i := 2) rfl)) (by decide) (by decide)) (fun _ q => nomatch q) pd6 rfl rfl (Nat.le_of_eq rfl) rfl (by decide) (by decide) (by decide) (fun v127 T127 h127 K127 Q127 q127 => ?_)
    have E127 := Ext.of0 Q127
    have P128 := P108.ext E127
    obtain ⟨xs, rfl, Ss⟩ := q127
    refine gAstore K127 L_884 rfl (Ls' := #[.val (.int sel), .val (.int x0), .val (.int x1), .val (.int x2), .val (.int x3), .val (.int r0), .val (.int r1), .val (.int r2), .val (.int r3), .val (.int (3 : Int32)), .val (.ref xs), .unset, .val (.int (3 : Int32))]) rfl ?_
    refine gIconst K127 (0 : Int32) L_886 rfl ?_
    refine gIload K127 L_887 (v := (3 : Int32)) rfl ?_
    refine gIload K127 L_889 (v := r0) rfl ?_
    refine gIload K127 L_891 (v := r1) rfl ?_
    refine gIload K127 L_893 (v := r2) rfl ?_
    refine gIload K127 L_895 (v := r3) rfl ?_
    refine gCallS K127 (W := 0) [(.int (0 : Int32)), (.int (3 : Int32)), (.int r0), (.int r1), (.int r2), (.int r3)] [] L_897 (hw _ (List.mem_of_getElem? (i := 29) rfl)) (hw _ (List.mem_of_getElem? (i := 30) rfl)) (hw _ (List.mem_of_getElem? (i := 2) rfl)) (hw _ (List.mem_of_getElem? (i := 31) rfl)) (Cal.ofN (W := 0) (c_tail03 l Z a0 hw h127 n0 K127.n0le r0 r1 r2 r3) (hw _ (List.mem_of_getElem? (i := 31) rfl)) (hw _ (List.mem_of_getElem? (i := 2) rfl)) (by decide) (by decide)) (fun _ q => nomatch q) pd7 rfl rfl (Nat.le_of_eq rfl) rfl (by decide) (by decide) (by decide) (fun v129 T129 h129 K129 Q129 q129 => ?_)
    have E129 := Ext.of0 Q129
    have P130 := P128.ext E129
    cases q129
    refine gIstore K129 L_900 (Ls' := #[.val (.int sel), .val (.int x0), .val (.int x1), .val (.int x2), .val (.int x3), .val (.int r0), .val (.int r1), .val (.int r2), .val (.int r3), .val (.int (3 : Int32)), .val (.ref xs), .val (.int (okF [r0, r1, r2] (0 : Int32))), .val (.int (3 : Int32))]) rfl ?_
    refine gAload K129 L_902 (v := (.ref xs)) rfl rfl ?_
    refine gCallS K129 (W := 0) [(.ref xs)] [] L_904 (hw _ (List.mem_of_getElem? (i := 32) rfl)) (hw _ (List.mem_of_getElem? (i := 33) rfl)) (hw _ (List.mem_of_getElem? (i := 34) rfl)) (hw _ (List.mem_of_getElem? (i := 35) rfl)) (Cal.ofN (W := 0) (c_valid l Z a0 hw h129 n0 K129.n0le xs [r0, r1, r2] (Ss.ext E129) z (Sc.ext (Ext.tr (Ext.tr (Ext.tr (Ext.tr (Ext.tr E101 E103) E105) E107) E127) E129)) hz fm (Sf.ext (Ext.tr (Ext.tr (Ext.tr (Ext.tr (Ext.tr E101 E103) E105) E107) E127) E129)) rf (Nat.le_of_ble_eq_true rfl)) (hw _ (List.mem_of_getElem? (i := 35) rfl)) (hw _ (List.mem_of_getElem? (i := 34) rfl)) (by decide) (by decide)) (fun _ q => nomatch q) pd8 rfl rfl (Nat.le_of_eq rfl) rfl (by decide) (by decide) (by decide) (fun v131 T131 h131 K131 Q131 q131 => ?_)
    have E131 := Ext.of0 Q131
    have P132 := P130.ext E131
    cases q131
    refine gIload K131 L_907 (v := (okF [r0, r1, r2] (0 : Int32))) rfl ?_
    refine gIcmp_ne K131 L_909 (fun q => absurd q (not_not_intro rfl)) (fun q909 => ?_)
    refine gIconst K131 (1 : Int32) L_912 rfl ?_
    refine gGoto K131 L_913 ?_
    refine gRetI K131 hlk hret (by simp) L_917 rfl P132 (by decide) (by decide) ?_
    exact rfl
  · rw [hs]
    refine gIload K107 L_31 (v := (4 : Int32)) rfl ?_
    refine gIconst K107 (5 : Int32) L_33 rfl ?_
    refine gIcmp_ne K107 L_34 (fun q34 => ?_) (fun q => absurd q (by first | decide | (intro hh; cases hh) | simp))
    refine gIload K107 L_446 (v := (4 : Int32)) rfl ?_
    refine gBipush K107 (6 : Int32) L_448 rfl ?_
    refine gIcmp_ne K107 L_450 (fun q450 => ?_) (fun q => absurd q (by first | decide | (intro hh; cases hh) | simp))
    refine gIload K107 L_856 (v := (4 : Int32)) rfl ?_
    refine gBipush K107 (7 : Int32) L_858 rfl ?_
    refine gIcmp_ne K107 L_860 (fun q860 => ?_) (fun q => absurd q (by first | decide | (intro hh; cases hh) | simp))
    refine gIload K107 L_867 (v := (4 : Int32)) rfl ?_
    refine gIstore K107 L_869 (Ls' := #[.val (.int sel), .val (.int x0), .val (.int x1), .val (.int x2), .val (.int x3), .val (.int r0), .val (.int r1), .val (.int r2), .val (.int r3), .val (.int (4 : Int32)), .unset, .unset, .val (.int (4 : Int32))]) rfl ?_
    refine gIload K107 L_871 (v := (4 : Int32)) rfl ?_
    refine gIload K107 L_873 (v := r0) rfl ?_
    refine gIload K107 L_875 (v := r1) rfl ?_
    refine gIload K107 L_877 (v := r2) rfl ?_
    refine gIload K107 L_879 (v := r3) rfl ?_
    refine gCallS K107 (W := 0) [(.int (4 : Int32)), (.int r0), (.int r1), (.int r2), (.int r3)] [] L_881 (hw _ (List.mem_of_getElem? (i := 4) rfl)) (hw _ (List.mem_of_getElem? (i := 5) rfl)) (hw _ (List.mem_of_getElem? (i := 2) rfl)) (hw _ (List.mem_of_getElem? (i := 6) rfl)) (Cal.ofW (W := 0) (c_short4 l Z a0 hw h107 n0 K107.n0le hE r0 r1 r2 r3 hb0 hb1 hb2 hb3 z (Sc.ext (Ext.tr (Ext.tr (Ext.tr E101 E103) E105) E107)) hz) (hw _ (List.mem_of_getElem? (i := 6) rfl)) (hw _ (List.mem_of_getElem? (i := 2) rfl)) (by decide) (by decide)) (fun _ q => nomatch q) pd6 rfl rfl (Nat.le_of_eq rfl) rfl (by decide) (by decide) (by decide) (fun v133 T133 h133 K133 Q133 q133 => ?_)
    have E133 := Ext.of0 Q133
    have P134 := P108.ext E133
    obtain ⟨xs, rfl, Ss⟩ := q133
    refine gAstore K133 L_884 rfl (Ls' := #[.val (.int sel), .val (.int x0), .val (.int x1), .val (.int x2), .val (.int x3), .val (.int r0), .val (.int r1), .val (.int r2), .val (.int r3), .val (.int (4 : Int32)), .val (.ref xs), .unset, .val (.int (4 : Int32))]) rfl ?_
    refine gIconst K133 (0 : Int32) L_886 rfl ?_
    refine gIload K133 L_887 (v := (4 : Int32)) rfl ?_
    refine gIload K133 L_889 (v := r0) rfl ?_
    refine gIload K133 L_891 (v := r1) rfl ?_
    refine gIload K133 L_893 (v := r2) rfl ?_
    refine gIload K133 L_895 (v := r3) rfl ?_
    refine gCallS K133 (W := 0) [(.int (0 : Int32)), (.int (4 : Int32)), (.int r0), (.int r1), (.int r2), (.int r3)] [] L_897 (hw _ (List.mem_of_getElem? (i := 29) rfl)) (hw _ (List.mem_of_getElem? (i := 30) rfl)) (hw _ (List.mem_of_getElem? (i := 2) rfl)) (hw _ (List.mem_of_getElem? (i := 31) rfl)) (Cal.ofN (W := 0) (c_tail04 l Z a0 hw h133 n0 K133.n0le r0 r1 r2 r3) (hw _ (List.mem_of_getElem? (i := 31) rfl)) (hw _ (List.mem_of_getElem? (i := 2) rfl)) (by decide) (by decide)) (fun _ q => nomatch q) pd7 rfl rfl (Nat.le_of_eq rfl) rfl (by decide) (by decide) (by decide) (fun v135 T135 h135 K135 Q135 q135 => ?_)
    have E135 := Ext.of0 Q135
    have P136 := P134.ext E135
    cases q135
    refine gIstore K135 L_900 (Ls' := #[.val (.int sel), .val (.int x0), .val (.int x1), .val (.int x2), .val (.int x3), .val (.int r0), .val (.int r1), .val (.int r2), .val (.int r3), .val (.int (4 : Int32)), .val (.ref xs), .val (.int (okF [r0, r1, r2, r3] (0 : Int32))), .val (.int (4 : Int32))]) rfl ?_
    refine gAload K135 L_902 (v := (.ref xs)) rfl rfl ?_
    refine gCallS K135 (W := 0) [(.ref xs)] [] L_904 (hw _ (List.mem_of_getElem? (i := 32) rfl)) (hw _ (List.mem_of_getElem? (i := 33) rfl)) (hw _ (List.mem_of_getElem? (i := 34) rfl)) (hw _ (List.mem_of_getElem? (i := 35) rfl)) (Cal.ofN (W := 0) (c_valid l Z a0 hw h135 n0 K135.n0le xs [r0, r1, r2, r3] (Ss.ext E135) z (Sc.ext (Ext.tr (Ext.tr (Ext.tr (Ext.tr (Ext.tr E101 E103) E105) E107) E133) E135)) hz fm (Sf.ext (Ext.tr (Ext.tr (Ext.tr (Ext.tr (Ext.tr E101 E103) E105) E107) E133) E135)) rf (Nat.le_of_ble_eq_true rfl)) (hw _ (List.mem_of_getElem? (i := 35) rfl)) (hw _ (List.mem_of_getElem? (i := 34) rfl)) (by decide) (by decide)) (fun _ q => nomatch q) pd8 rfl rfl (Nat.le_of_eq rfl) rfl (by decide) (by decide) (by decide) (fun v137 T137 h137 K137 Q137 q137 => ?_)
    have E137 := Ext.of0 Q137
    have P138 := P136.ext E137
    cases q137
    refine gIload K137 L_907 (v := (okF [r0, r1, r2, r3] (0 : Int32))) rfl ?_
    refine gIcmp_ne K137 L_909 (fun q => absurd q (not_not_intro rfl)) (fun q909 => ?_)
    refine gIconst K137 (1 : Int32) L_912 rfl ?_
    refine gGoto K137 L_913 ?_
    refine gRetI K137 hlk hret (by simp) L_917 rfl P138 (by decide) (by decide) ?_
    exact rfl
  · rw [hs]
    refine gIload K107 L_31 (v := (5 : Int32)) rfl ?_
    refine gIconst K107 (5 : Int32) L_33 rfl ?_
    refine gIcmp_ne K107 L_34 (fun q => absurd q (by first | decide | (intro hh; cases hh) | simp)) (fun q34 => ?_)
    refine gNew K107 L_37 (hw _ (List.mem_of_getElem? (i := 7) rfl)) (hw _ (List.mem_of_getElem? (i := 8) rfl)) (hw _ (List.mem_of_getElem? (i := 9) rfl)) (by decide) (by decide) (fun T139 h139 x139 K139 E139 g139 A139 D139 ne139 => ?_)
    have P140 := P108.ext E139
    have ge_x139 : h0.size ≤ x139 := by rw [g139]; exact P108.1
    have F141 : Fld Z h139 x139 "java/lang/String" "value" "[B" .null := (D139 (Or.inr (hw _ (List.mem_of_getElem? (i := 23) rfl))) (ty := (.array .byte)) (by decide))
    have F142 : Fld Z h139 x139 "java/lang/String" "coder" "B" (.int (0 : Int32)) := (D139 (Or.inr (hw _ (List.mem_of_getElem? (i := 24) rfl))) (ty := .byte) (by decide))
    refine gDup K139 L_40 rfl ?_
    refine gBipush K139 (64 : Int32) L_41 rfl ?_
    refine gNewarr K139 L_43 (hw _ (List.mem_of_getElem? (i := 10) rfl)) (by decide) 64 (by decide) (by decide) (by decide) (by decide) (fun T143 h143 x143 kA143 K143 E143 g143 A143 ne143 => ?_)
    have P144 := P140.ext E143
    have ge_x143 : h0.size ≤ x143 := by rw [g143]; exact P140.1
    refine gDup K143 L_45 rfl ?_
    refine gIconst K143 (0 : Int32) L_46 rfl ?_
    refine gBipush K143 (49 : Int32) L_47 rfl ?_
    refine gCastore K143 L_49 (List.mem_of_getElem? (i := 0) rfl) A143 rfl (by decide) (by decide) (by decide) (fun T145 h145 K145 Q145 A145 => ?_)
    have P146 := P144.trans Q145 (fun z q => by cases List.mem_singleton.mp q; exact Or.inr ge_x143)
    refine gDup K145 L_50 rfl ?_
    refine gIconst K145 (1 : Int32) L_51 rfl ?_
    refine gBipush K145 (46 : Int32) L_52 rfl ?_
    refine gCastore K145 L_54 (List.mem_of_getElem? (i := 0) rfl) A145 rfl (by decide) (by decide) (by decide) (fun T147 h147 K147 Q147 A147 => ?_)
    have P148 := P146.trans Q147 (fun z q => by cases List.mem_singleton.mp q; exact Or.inr ge_x143)
    refine gDup K147 L_55 rfl ?_
    refine gIconst K147 (2 : Int32) L_56 rfl ?_
    refine gBipush K147 (50 : Int32) L_57 rfl ?_
    refine gCastore K147 L_59 (List.mem_of_getElem? (i := 0) rfl) A147 rfl (by decide) (by decide) (by decide) (fun T149 h149 K149 Q149 A149 => ?_)
    have P150 := P148.trans Q149 (fun z q => by cases List.mem_singleton.mp q; exact Or.inr ge_x143)
    refine gDup K149 L_60 rfl ?_
    refine gIconst K149 (3 : Int32) L_61 rfl ?_
    refine gBipush K149 (51 : Int32) L_62 rfl ?_
    refine gCastore K149 L_64 (List.mem_of_getElem? (i := 0) rfl) A149 rfl (by decide) (by decide) (by decide) (fun T151 h151 K151 Q151 A151 => ?_)
    have P152 := P150.trans Q151 (fun z q => by cases List.mem_singleton.mp q; exact Or.inr ge_x143)
    refine gDup K151 L_65 rfl ?_
    refine gIconst K151 (4 : Int32) L_66 rfl ?_
    refine gBipush K151 (52 : Int32) L_67 rfl ?_
    refine gCastore K151 L_69 (List.mem_of_getElem? (i := 0) rfl) A151 rfl (by decide) (by decide) (by decide) (fun T153 h153 K153 Q153 A153 => ?_)
    have P154 := P152.trans Q153 (fun z q => by cases List.mem_singleton.mp q; exact Or.inr ge_x143)
    refine gDup K153 L_70 rfl ?_
    refine gIconst K153 (5 : Int32) L_71 rfl ?_
    refine gBipush K153 (53 : Int32) L_72 rfl ?_
    refine gCastore K153 L_74 (List.mem_of_getElem? (i := 0) rfl) A153 rfl (by decide) (by decide) (by decide) (fun T155 h155 K155 Q155 A155 => ?_)
    have P156 := P154.trans Q155 (fun z q => by cases List.mem_singleton.mp q; exact Or.inr ge_x143)
    refine gDup K155 L_75 rfl ?_
    refine gBipush K155 (6 : Int32) L_76 rfl ?_
    refine gBipush K155 (46 : Int32) L_78 rfl ?_
    refine gCastore K155 L_80 (List.mem_of_getElem? (i := 0) rfl) A155 rfl (by decide) (by decide) (by decide) (fun T157 h157 K157 Q157 A157 => ?_)
    have P158 := P156.trans Q157 (fun z q => by cases List.mem_singleton.mp q; exact Or.inr ge_x143)
    refine gDup K157 L_81 rfl ?_
    refine gBipush K157 (7 : Int32) L_82 rfl ?_
    refine gBipush K157 (54 : Int32) L_84 rfl ?_
    refine gCastore K157 L_86 (List.mem_of_getElem? (i := 0) rfl) A157 rfl (by decide) (by decide) (by decide) (fun T159 h159 K159 Q159 A159 => ?_)
    have P160 := P158.trans Q159 (fun z q => by cases List.mem_singleton.mp q; exact Or.inr ge_x143)
    refine gDup K159 L_87 rfl ?_
    refine gBipush K159 (8 : Int32) L_88 rfl ?_
    refine gBipush K159 (55 : Int32) L_90 rfl ?_
    refine gCastore K159 L_92 (List.mem_of_getElem? (i := 0) rfl) A159 rfl (by decide) (by decide) (by decide) (fun T161 h161 K161 Q161 A161 => ?_)
    have P162 := P160.trans Q161 (fun z q => by cases List.mem_singleton.mp q; exact Or.inr ge_x143)
    refine gDup K161 L_93 rfl ?_
    refine gBipush K161 (9 : Int32) L_94 rfl ?_
    refine gBipush K161 (56 : Int32) L_96 rfl ?_
    refine gCastore K161 L_98 (List.mem_of_getElem? (i := 0) rfl) A161 rfl (by decide) (by decide) (by decide) (fun T163 h163 K163 Q163 A163 => ?_)
    have P164 := P162.trans Q163 (fun z q => by cases List.mem_singleton.mp q; exact Or.inr ge_x143)
    refine gDup K163 L_99 rfl ?_
    refine gBipush K163 (10 : Int32) L_100 rfl ?_
    refine gBipush K163 (49 : Int32) L_102 rfl ?_
    refine gCastore K163 L_104 (List.mem_of_getElem? (i := 0) rfl) A163 rfl (by decide) (by decide) (by decide) (fun T165 h165 K165 Q165 A165 => ?_)
    have P166 := P164.trans Q165 (fun z q => by cases List.mem_singleton.mp q; exact Or.inr ge_x143)
    refine gDup K165 L_105 rfl ?_
    refine gBipush K165 (11 : Int32) L_106 rfl ?_
    refine gBipush K165 (46 : Int32) L_108 rfl ?_
    refine gCastore K165 L_110 (List.mem_of_getElem? (i := 0) rfl) A165 rfl (by decide) (by decide) (by decide) (fun T167 h167 K167 Q167 A167 => ?_)
    have P168 := P166.trans Q167 (fun z q => by cases List.mem_singleton.mp q; exact Or.inr ge_x143)
    refine gDup K167 L_111 rfl ?_
    refine gBipush K167 (12 : Int32) L_112 rfl ?_
    refine gBipush K167 (50 : Int32) L_114 rfl ?_
    refine gCastore K167 L_116 (List.mem_of_getElem? (i := 0) rfl) A167 rfl (by decide) (by decide) (by decide) (fun T169 h169 K169 Q169 A169 => ?_)
    have P170 := P168.trans Q169 (fun z q => by cases List.mem_singleton.mp q; exact Or.inr ge_x143)
    refine gDup K169 L_117 rfl ?_
    refine gBipush K169 (13 : Int32) L_118 rfl ?_
    refine gBipush K169 (51 : Int32) L_120 rfl ?_
    refine gCastore K169 L_122 (List.mem_of_getElem? (i := 0) rfl) A169 rfl (by decide) (by decide) (by decide) (fun T171 h171 K171 Q171 A171 => ?_)
    have P172 := P170.trans Q171 (fun z q => by cases List.mem_singleton.mp q; exact Or.inr ge_x143)
    refine gDup K171 L_123 rfl ?_
    refine gBipush K171 (14 : Int32) L_124 rfl ?_
    refine gBipush K171 (52 : Int32) L_126 rfl ?_
    refine gCastore K171 L_128 (List.mem_of_getElem? (i := 0) rfl) A171 rfl (by decide) (by decide) (by decide) (fun T173 h173 K173 Q173 A173 => ?_)
    have P174 := P172.trans Q173 (fun z q => by cases List.mem_singleton.mp q; exact Or.inr ge_x143)
    refine gDup K173 L_129 rfl ?_
    refine gBipush K173 (15 : Int32) L_130 rfl ?_
    refine gBipush K173 (53 : Int32) L_132 rfl ?_
    refine gCastore K173 L_134 (List.mem_of_getElem? (i := 0) rfl) A173 rfl (by decide) (by decide) (by decide) (fun T175 h175 K175 Q175 A175 => ?_)
    have P176 := P174.trans Q175 (fun z q => by cases List.mem_singleton.mp q; exact Or.inr ge_x143)
    refine gDup K175 L_135 rfl ?_
    refine gBipush K175 (16 : Int32) L_136 rfl ?_
    refine gBipush K175 (46 : Int32) L_138 rfl ?_
    refine gCastore K175 L_140 (List.mem_of_getElem? (i := 0) rfl) A175 rfl (by decide) (by decide) (by decide) (fun T177 h177 K177 Q177 A177 => ?_)
    have P178 := P176.trans Q177 (fun z q => by cases List.mem_singleton.mp q; exact Or.inr ge_x143)
    refine gDup K177 L_141 rfl ?_
    refine gBipush K177 (17 : Int32) L_142 rfl ?_
    refine gBipush K177 (54 : Int32) L_144 rfl ?_
    refine gCastore K177 L_146 (List.mem_of_getElem? (i := 0) rfl) A177 rfl (by decide) (by decide) (by decide) (fun T179 h179 K179 Q179 A179 => ?_)
    have P180 := P178.trans Q179 (fun z q => by cases List.mem_singleton.mp q; exact Or.inr ge_x143)
    refine gDup K179 L_147 rfl ?_
    refine gBipush K179 (18 : Int32) L_148 rfl ?_
    refine gBipush K179 (55 : Int32) L_150 rfl ?_
    refine gCastore K179 L_152 (List.mem_of_getElem? (i := 0) rfl) A179 rfl (by decide) (by decide) (by decide) (fun T181 h181 K181 Q181 A181 => ?_)
    have P182 := P180.trans Q181 (fun z q => by cases List.mem_singleton.mp q; exact Or.inr ge_x143)
    refine gDup K181 L_153 rfl ?_
    refine gBipush K181 (19 : Int32) L_154 rfl ?_
    refine gBipush K181 (56 : Int32) L_156 rfl ?_
    refine gCastore K181 L_158 (List.mem_of_getElem? (i := 0) rfl) A181 rfl (by decide) (by decide) (by decide) (fun T183 h183 K183 Q183 A183 => ?_)
    have P184 := P182.trans Q183 (fun z q => by cases List.mem_singleton.mp q; exact Or.inr ge_x143)
    refine gDup K183 L_159 rfl ?_
    refine gBipush K183 (20 : Int32) L_160 rfl ?_
    refine gBipush K183 (49 : Int32) L_162 rfl ?_
    refine gCastore K183 L_164 (List.mem_of_getElem? (i := 0) rfl) A183 rfl (by decide) (by decide) (by decide) (fun T185 h185 K185 Q185 A185 => ?_)
    have P186 := P184.trans Q185 (fun z q => by cases List.mem_singleton.mp q; exact Or.inr ge_x143)
    refine gDup K185 L_165 rfl ?_
    refine gBipush K185 (21 : Int32) L_166 rfl ?_
    refine gBipush K185 (46 : Int32) L_168 rfl ?_
    refine gCastore K185 L_170 (List.mem_of_getElem? (i := 0) rfl) A185 rfl (by decide) (by decide) (by decide) (fun T187 h187 K187 Q187 A187 => ?_)
    have P188 := P186.trans Q187 (fun z q => by cases List.mem_singleton.mp q; exact Or.inr ge_x143)
    refine gDup K187 L_171 rfl ?_
    refine gBipush K187 (22 : Int32) L_172 rfl ?_
    refine gBipush K187 (50 : Int32) L_174 rfl ?_
    refine gCastore K187 L_176 (List.mem_of_getElem? (i := 0) rfl) A187 rfl (by decide) (by decide) (by decide) (fun T189 h189 K189 Q189 A189 => ?_)
    have P190 := P188.trans Q189 (fun z q => by cases List.mem_singleton.mp q; exact Or.inr ge_x143)
    refine gDup K189 L_177 rfl ?_
    refine gBipush K189 (23 : Int32) L_178 rfl ?_
    refine gBipush K189 (51 : Int32) L_180 rfl ?_
    refine gCastore K189 L_182 (List.mem_of_getElem? (i := 0) rfl) A189 rfl (by decide) (by decide) (by decide) (fun T191 h191 K191 Q191 A191 => ?_)
    have P192 := P190.trans Q191 (fun z q => by cases List.mem_singleton.mp q; exact Or.inr ge_x143)
    refine gDup K191 L_183 rfl ?_
    refine gBipush K191 (24 : Int32) L_184 rfl ?_
    refine gBipush K191 (52 : Int32) L_186 rfl ?_
    refine gCastore K191 L_188 (List.mem_of_getElem? (i := 0) rfl) A191 rfl (by decide) (by decide) (by decide) (fun T193 h193 K193 Q193 A193 => ?_)
    have P194 := P192.trans Q193 (fun z q => by cases List.mem_singleton.mp q; exact Or.inr ge_x143)
    refine gDup K193 L_189 rfl ?_
    refine gBipush K193 (25 : Int32) L_190 rfl ?_
    refine gBipush K193 (53 : Int32) L_192 rfl ?_
    refine gCastore K193 L_194 (List.mem_of_getElem? (i := 0) rfl) A193 rfl (by decide) (by decide) (by decide) (fun T195 h195 K195 Q195 A195 => ?_)
    have P196 := P194.trans Q195 (fun z q => by cases List.mem_singleton.mp q; exact Or.inr ge_x143)
    refine gDup K195 L_195 rfl ?_
    refine gBipush K195 (26 : Int32) L_196 rfl ?_
    refine gBipush K195 (46 : Int32) L_198 rfl ?_
    refine gCastore K195 L_200 (List.mem_of_getElem? (i := 0) rfl) A195 rfl (by decide) (by decide) (by decide) (fun T197 h197 K197 Q197 A197 => ?_)
    have P198 := P196.trans Q197 (fun z q => by cases List.mem_singleton.mp q; exact Or.inr ge_x143)
    refine gDup K197 L_201 rfl ?_
    refine gBipush K197 (27 : Int32) L_202 rfl ?_
    refine gBipush K197 (54 : Int32) L_204 rfl ?_
    refine gCastore K197 L_206 (List.mem_of_getElem? (i := 0) rfl) A197 rfl (by decide) (by decide) (by decide) (fun T199 h199 K199 Q199 A199 => ?_)
    have P200 := P198.trans Q199 (fun z q => by cases List.mem_singleton.mp q; exact Or.inr ge_x143)
    refine gDup K199 L_207 rfl ?_
    refine gBipush K199 (28 : Int32) L_208 rfl ?_
    refine gBipush K199 (55 : Int32) L_210 rfl ?_
    refine gCastore K199 L_212 (List.mem_of_getElem? (i := 0) rfl) A199 rfl (by decide) (by decide) (by decide) (fun T201 h201 K201 Q201 A201 => ?_)
    have P202 := P200.trans Q201 (fun z q => by cases List.mem_singleton.mp q; exact Or.inr ge_x143)
    refine gDup K201 L_213 rfl ?_
    refine gBipush K201 (29 : Int32) L_214 rfl ?_
    refine gBipush K201 (56 : Int32) L_216 rfl ?_
    refine gCastore K201 L_218 (List.mem_of_getElem? (i := 0) rfl) A201 rfl (by decide) (by decide) (by decide) (fun T203 h203 K203 Q203 A203 => ?_)
    have P204 := P202.trans Q203 (fun z q => by cases List.mem_singleton.mp q; exact Or.inr ge_x143)
    refine gDup K203 L_219 rfl ?_
    refine gBipush K203 (30 : Int32) L_220 rfl ?_
    refine gBipush K203 (49 : Int32) L_222 rfl ?_
    refine gCastore K203 L_224 (List.mem_of_getElem? (i := 0) rfl) A203 rfl (by decide) (by decide) (by decide) (fun T205 h205 K205 Q205 A205 => ?_)
    have P206 := P204.trans Q205 (fun z q => by cases List.mem_singleton.mp q; exact Or.inr ge_x143)
    refine gDup K205 L_225 rfl ?_
    refine gBipush K205 (31 : Int32) L_226 rfl ?_
    refine gBipush K205 (46 : Int32) L_228 rfl ?_
    refine gCastore K205 L_230 (List.mem_of_getElem? (i := 0) rfl) A205 rfl (by decide) (by decide) (by decide) (fun T207 h207 K207 Q207 A207 => ?_)
    have P208 := P206.trans Q207 (fun z q => by cases List.mem_singleton.mp q; exact Or.inr ge_x143)
    refine gDup K207 L_231 rfl ?_
    refine gBipush K207 (32 : Int32) L_232 rfl ?_
    refine gBipush K207 (50 : Int32) L_234 rfl ?_
    refine gCastore K207 L_236 (List.mem_of_getElem? (i := 0) rfl) A207 rfl (by decide) (by decide) (by decide) (fun T209 h209 K209 Q209 A209 => ?_)
    have P210 := P208.trans Q209 (fun z q => by cases List.mem_singleton.mp q; exact Or.inr ge_x143)
    refine gDup K209 L_237 rfl ?_
    refine gBipush K209 (33 : Int32) L_238 rfl ?_
    refine gBipush K209 (51 : Int32) L_240 rfl ?_
    refine gCastore K209 L_242 (List.mem_of_getElem? (i := 0) rfl) A209 rfl (by decide) (by decide) (by decide) (fun T211 h211 K211 Q211 A211 => ?_)
    have P212 := P210.trans Q211 (fun z q => by cases List.mem_singleton.mp q; exact Or.inr ge_x143)
    refine gDup K211 L_243 rfl ?_
    refine gBipush K211 (34 : Int32) L_244 rfl ?_
    refine gBipush K211 (52 : Int32) L_246 rfl ?_
    refine gCastore K211 L_248 (List.mem_of_getElem? (i := 0) rfl) A211 rfl (by decide) (by decide) (by decide) (fun T213 h213 K213 Q213 A213 => ?_)
    have P214 := P212.trans Q213 (fun z q => by cases List.mem_singleton.mp q; exact Or.inr ge_x143)
    refine gDup K213 L_249 rfl ?_
    refine gBipush K213 (35 : Int32) L_250 rfl ?_
    refine gBipush K213 (53 : Int32) L_252 rfl ?_
    refine gCastore K213 L_254 (List.mem_of_getElem? (i := 0) rfl) A213 rfl (by decide) (by decide) (by decide) (fun T215 h215 K215 Q215 A215 => ?_)
    have P216 := P214.trans Q215 (fun z q => by cases List.mem_singleton.mp q; exact Or.inr ge_x143)
    refine gDup K215 L_255 rfl ?_
    refine gBipush K215 (36 : Int32) L_256 rfl ?_
    refine gBipush K215 (46 : Int32) L_258 rfl ?_
    refine gCastore K215 L_260 (List.mem_of_getElem? (i := 0) rfl) A215 rfl (by decide) (by decide) (by decide) (fun T217 h217 K217 Q217 A217 => ?_)
    have P218 := P216.trans Q217 (fun z q => by cases List.mem_singleton.mp q; exact Or.inr ge_x143)
    refine gDup K217 L_261 rfl ?_
    refine gBipush K217 (37 : Int32) L_262 rfl ?_
    refine gBipush K217 (54 : Int32) L_264 rfl ?_
    refine gCastore K217 L_266 (List.mem_of_getElem? (i := 0) rfl) A217 rfl (by decide) (by decide) (by decide) (fun T219 h219 K219 Q219 A219 => ?_)
    have P220 := P218.trans Q219 (fun z q => by cases List.mem_singleton.mp q; exact Or.inr ge_x143)
    refine gDup K219 L_267 rfl ?_
    refine gBipush K219 (38 : Int32) L_268 rfl ?_
    refine gBipush K219 (55 : Int32) L_270 rfl ?_
    refine gCastore K219 L_272 (List.mem_of_getElem? (i := 0) rfl) A219 rfl (by decide) (by decide) (by decide) (fun T221 h221 K221 Q221 A221 => ?_)
    have P222 := P220.trans Q221 (fun z q => by cases List.mem_singleton.mp q; exact Or.inr ge_x143)
    refine gDup K221 L_273 rfl ?_
    refine gBipush K221 (39 : Int32) L_274 rfl ?_
    refine gBipush K221 (56 : Int32) L_276 rfl ?_
    refine gCastore K221 L_278 (List.mem_of_getElem? (i := 0) rfl) A221 rfl (by decide) (by decide) (by decide) (fun T223 h223 K223 Q223 A223 => ?_)
    have P224 := P222.trans Q223 (fun z q => by cases List.mem_singleton.mp q; exact Or.inr ge_x143)
    refine gDup K223 L_279 rfl ?_
    refine gBipush K223 (40 : Int32) L_280 rfl ?_
    refine gBipush K223 (49 : Int32) L_282 rfl ?_
    refine gCastore K223 L_284 (List.mem_of_getElem? (i := 0) rfl) A223 rfl (by decide) (by decide) (by decide) (fun T225 h225 K225 Q225 A225 => ?_)
    have P226 := P224.trans Q225 (fun z q => by cases List.mem_singleton.mp q; exact Or.inr ge_x143)
    refine gDup K225 L_285 rfl ?_
    refine gBipush K225 (41 : Int32) L_286 rfl ?_
    refine gBipush K225 (46 : Int32) L_288 rfl ?_
    refine gCastore K225 L_290 (List.mem_of_getElem? (i := 0) rfl) A225 rfl (by decide) (by decide) (by decide) (fun T227 h227 K227 Q227 A227 => ?_)
    have P228 := P226.trans Q227 (fun z q => by cases List.mem_singleton.mp q; exact Or.inr ge_x143)
    refine gDup K227 L_291 rfl ?_
    refine gBipush K227 (42 : Int32) L_292 rfl ?_
    refine gBipush K227 (50 : Int32) L_294 rfl ?_
    refine gCastore K227 L_296 (List.mem_of_getElem? (i := 0) rfl) A227 rfl (by decide) (by decide) (by decide) (fun T229 h229 K229 Q229 A229 => ?_)
    have P230 := P228.trans Q229 (fun z q => by cases List.mem_singleton.mp q; exact Or.inr ge_x143)
    refine gDup K229 L_297 rfl ?_
    refine gBipush K229 (43 : Int32) L_298 rfl ?_
    refine gBipush K229 (51 : Int32) L_300 rfl ?_
    refine gCastore K229 L_302 (List.mem_of_getElem? (i := 0) rfl) A229 rfl (by decide) (by decide) (by decide) (fun T231 h231 K231 Q231 A231 => ?_)
    have P232 := P230.trans Q231 (fun z q => by cases List.mem_singleton.mp q; exact Or.inr ge_x143)
    refine gDup K231 L_303 rfl ?_
    refine gBipush K231 (44 : Int32) L_304 rfl ?_
    refine gBipush K231 (52 : Int32) L_306 rfl ?_
    refine gCastore K231 L_308 (List.mem_of_getElem? (i := 0) rfl) A231 rfl (by decide) (by decide) (by decide) (fun T233 h233 K233 Q233 A233 => ?_)
    have P234 := P232.trans Q233 (fun z q => by cases List.mem_singleton.mp q; exact Or.inr ge_x143)
    refine gDup K233 L_309 rfl ?_
    refine gBipush K233 (45 : Int32) L_310 rfl ?_
    refine gBipush K233 (53 : Int32) L_312 rfl ?_
    refine gCastore K233 L_314 (List.mem_of_getElem? (i := 0) rfl) A233 rfl (by decide) (by decide) (by decide) (fun T235 h235 K235 Q235 A235 => ?_)
    have P236 := P234.trans Q235 (fun z q => by cases List.mem_singleton.mp q; exact Or.inr ge_x143)
    refine gDup K235 L_315 rfl ?_
    refine gBipush K235 (46 : Int32) L_316 rfl ?_
    refine gBipush K235 (46 : Int32) L_318 rfl ?_
    refine gCastore K235 L_320 (List.mem_of_getElem? (i := 0) rfl) A235 rfl (by decide) (by decide) (by decide) (fun T237 h237 K237 Q237 A237 => ?_)
    have P238 := P236.trans Q237 (fun z q => by cases List.mem_singleton.mp q; exact Or.inr ge_x143)
    refine gDup K237 L_321 rfl ?_
    refine gBipush K237 (47 : Int32) L_322 rfl ?_
    refine gBipush K237 (54 : Int32) L_324 rfl ?_
    refine gCastore K237 L_326 (List.mem_of_getElem? (i := 0) rfl) A237 rfl (by decide) (by decide) (by decide) (fun T239 h239 K239 Q239 A239 => ?_)
    have P240 := P238.trans Q239 (fun z q => by cases List.mem_singleton.mp q; exact Or.inr ge_x143)
    refine gDup K239 L_327 rfl ?_
    refine gBipush K239 (48 : Int32) L_328 rfl ?_
    refine gBipush K239 (55 : Int32) L_330 rfl ?_
    refine gCastore K239 L_332 (List.mem_of_getElem? (i := 0) rfl) A239 rfl (by decide) (by decide) (by decide) (fun T241 h241 K241 Q241 A241 => ?_)
    have P242 := P240.trans Q241 (fun z q => by cases List.mem_singleton.mp q; exact Or.inr ge_x143)
    refine gDup K241 L_333 rfl ?_
    refine gBipush K241 (49 : Int32) L_334 rfl ?_
    refine gBipush K241 (56 : Int32) L_336 rfl ?_
    refine gCastore K241 L_338 (List.mem_of_getElem? (i := 0) rfl) A241 rfl (by decide) (by decide) (by decide) (fun T243 h243 K243 Q243 A243 => ?_)
    have P244 := P242.trans Q243 (fun z q => by cases List.mem_singleton.mp q; exact Or.inr ge_x143)
    refine gDup K243 L_339 rfl ?_
    refine gBipush K243 (50 : Int32) L_340 rfl ?_
    refine gBipush K243 (49 : Int32) L_342 rfl ?_
    refine gCastore K243 L_344 (List.mem_of_getElem? (i := 0) rfl) A243 rfl (by decide) (by decide) (by decide) (fun T245 h245 K245 Q245 A245 => ?_)
    have P246 := P244.trans Q245 (fun z q => by cases List.mem_singleton.mp q; exact Or.inr ge_x143)
    refine gDup K245 L_345 rfl ?_
    refine gBipush K245 (51 : Int32) L_346 rfl ?_
    refine gBipush K245 (46 : Int32) L_348 rfl ?_
    refine gCastore K245 L_350 (List.mem_of_getElem? (i := 0) rfl) A245 rfl (by decide) (by decide) (by decide) (fun T247 h247 K247 Q247 A247 => ?_)
    have P248 := P246.trans Q247 (fun z q => by cases List.mem_singleton.mp q; exact Or.inr ge_x143)
    refine gDup K247 L_351 rfl ?_
    refine gBipush K247 (52 : Int32) L_352 rfl ?_
    refine gBipush K247 (50 : Int32) L_354 rfl ?_
    refine gCastore K247 L_356 (List.mem_of_getElem? (i := 0) rfl) A247 rfl (by decide) (by decide) (by decide) (fun T249 h249 K249 Q249 A249 => ?_)
    have P250 := P248.trans Q249 (fun z q => by cases List.mem_singleton.mp q; exact Or.inr ge_x143)
    refine gDup K249 L_357 rfl ?_
    refine gBipush K249 (53 : Int32) L_358 rfl ?_
    refine gBipush K249 (51 : Int32) L_360 rfl ?_
    refine gCastore K249 L_362 (List.mem_of_getElem? (i := 0) rfl) A249 rfl (by decide) (by decide) (by decide) (fun T251 h251 K251 Q251 A251 => ?_)
    have P252 := P250.trans Q251 (fun z q => by cases List.mem_singleton.mp q; exact Or.inr ge_x143)
    refine gDup K251 L_363 rfl ?_
    refine gBipush K251 (54 : Int32) L_364 rfl ?_
    refine gBipush K251 (52 : Int32) L_366 rfl ?_
    refine gCastore K251 L_368 (List.mem_of_getElem? (i := 0) rfl) A251 rfl (by decide) (by decide) (by decide) (fun T253 h253 K253 Q253 A253 => ?_)
    have P254 := P252.trans Q253 (fun z q => by cases List.mem_singleton.mp q; exact Or.inr ge_x143)
    refine gDup K253 L_369 rfl ?_
    refine gBipush K253 (55 : Int32) L_370 rfl ?_
    refine gBipush K253 (53 : Int32) L_372 rfl ?_
    refine gCastore K253 L_374 (List.mem_of_getElem? (i := 0) rfl) A253 rfl (by decide) (by decide) (by decide) (fun T255 h255 K255 Q255 A255 => ?_)
    have P256 := P254.trans Q255 (fun z q => by cases List.mem_singleton.mp q; exact Or.inr ge_x143)
    refine gDup K255 L_375 rfl ?_
    refine gBipush K255 (56 : Int32) L_376 rfl ?_
    refine gBipush K255 (46 : Int32) L_378 rfl ?_
    refine gCastore K255 L_380 (List.mem_of_getElem? (i := 0) rfl) A255 rfl (by decide) (by decide) (by decide) (fun T257 h257 K257 Q257 A257 => ?_)
    have P258 := P256.trans Q257 (fun z q => by cases List.mem_singleton.mp q; exact Or.inr ge_x143)
    refine gDup K257 L_381 rfl ?_
    refine gBipush K257 (57 : Int32) L_382 rfl ?_
    refine gBipush K257 (54 : Int32) L_384 rfl ?_
    refine gCastore K257 L_386 (List.mem_of_getElem? (i := 0) rfl) A257 rfl (by decide) (by decide) (by decide) (fun T259 h259 K259 Q259 A259 => ?_)
    have P260 := P258.trans Q259 (fun z q => by cases List.mem_singleton.mp q; exact Or.inr ge_x143)
    refine gDup K259 L_387 rfl ?_
    refine gBipush K259 (58 : Int32) L_388 rfl ?_
    refine gBipush K259 (55 : Int32) L_390 rfl ?_
    refine gCastore K259 L_392 (List.mem_of_getElem? (i := 0) rfl) A259 rfl (by decide) (by decide) (by decide) (fun T261 h261 K261 Q261 A261 => ?_)
    have P262 := P260.trans Q261 (fun z q => by cases List.mem_singleton.mp q; exact Or.inr ge_x143)
    refine gDup K261 L_393 rfl ?_
    refine gBipush K261 (59 : Int32) L_394 rfl ?_
    refine gBipush K261 (56 : Int32) L_396 rfl ?_
    refine gCastore K261 L_398 (List.mem_of_getElem? (i := 0) rfl) A261 rfl (by decide) (by decide) (by decide) (fun T263 h263 K263 Q263 A263 => ?_)
    have P264 := P262.trans Q263 (fun z q => by cases List.mem_singleton.mp q; exact Or.inr ge_x143)
    refine gDup K263 L_399 rfl ?_
    refine gBipush K263 (60 : Int32) L_400 rfl ?_
    refine gIload K263 L_402 (v := r0) rfl ?_
    refine gCastore K263 L_404 (List.mem_of_getElem? (i := 0) rfl) A263 rfl (by decide) hb0.1 (ch_up hb0.2) (fun T265 h265 K265 Q265 A265 => ?_)
    have P266 := P264.trans Q265 (fun z q => by cases List.mem_singleton.mp q; exact Or.inr ge_x143)
    refine gDup K265 L_405 rfl ?_
    refine gBipush K265 (61 : Int32) L_406 rfl ?_
    refine gIload K265 L_408 (v := r1) rfl ?_
    refine gCastore K265 L_410 (List.mem_of_getElem? (i := 0) rfl) A265 rfl (by decide) hb1.1 (ch_up hb1.2) (fun T267 h267 K267 Q267 A267 => ?_)
    have P268 := P266.trans Q267 (fun z q => by cases List.mem_singleton.mp q; exact Or.inr ge_x143)
    refine gDup K267 L_411 rfl ?_
    refine gBipush K267 (62 : Int32) L_412 rfl ?_
    refine gIload K267 L_414 (v := r2) rfl ?_
    refine gCastore K267 L_416 (List.mem_of_getElem? (i := 0) rfl) A267 rfl (by decide) hb2.1 (ch_up hb2.2) (fun T269 h269 K269 Q269 A269 => ?_)
    have P270 := P268.trans Q269 (fun z q => by cases List.mem_singleton.mp q; exact Or.inr ge_x143)
    refine gDup K269 L_417 rfl ?_
    refine gBipush K269 (63 : Int32) L_418 rfl ?_
    refine gIload K269 L_420 (v := r3) rfl ?_
    refine gCastore K269 L_422 (List.mem_of_getElem? (i := 0) rfl) A269 rfl (by decide) hb3.1 (ch_up hb3.2) (fun T271 h271 K271 Q271 A271 => ?_)
    have P272 := P270.trans Q271 (fun z q => by cases List.mem_singleton.mp q; exact Or.inr ge_x143)
    have hpp : ∀ c ∈ ([(49 : Int32), (46 : Int32), (50 : Int32), (51 : Int32), (52 : Int32), (53 : Int32), (46 : Int32), (54 : Int32), (55 : Int32), (56 : Int32), (49 : Int32), (46 : Int32), (50 : Int32), (51 : Int32), (52 : Int32), (53 : Int32), (46 : Int32), (54 : Int32), (55 : Int32), (56 : Int32), (49 : Int32), (46 : Int32), (50 : Int32), (51 : Int32), (52 : Int32), (53 : Int32), (46 : Int32), (54 : Int32), (55 : Int32), (56 : Int32), (49 : Int32), (46 : Int32), (50 : Int32), (51 : Int32), (52 : Int32), (53 : Int32), (46 : Int32), (54 : Int32), (55 : Int32), (56 : Int32), (49 : Int32), (46 : Int32), (50 : Int32), (51 : Int32), (52 : Int32), (53 : Int32), (46 : Int32), (54 : Int32), (55 : Int32), (56 : Int32), (49 : Int32), (46 : Int32), (50 : Int32), (51 : Int32), (52 : Int32), (53 : Int32), (46 : Int32), (54 : Int32), (55 : Int32), (56 : Int32), r0, r1, r2, r3] : List Int32), ¬ c < 0 ∧ ¬ (255 : Int32) < c := (allI ⟨by decide, by decide⟩ (allI ⟨by decide, by decide⟩ (allI ⟨by decide, by decide⟩ (allI ⟨by decide, by decide⟩ (allI ⟨by decide, by decide⟩ (allI ⟨by decide, by decide⟩ (allI ⟨by decide, by decide⟩ (allI ⟨by decide, by decide⟩ (allI ⟨by decide, by decide⟩ (allI ⟨by decide, by decide⟩ (allI ⟨by decide, by decide⟩ (allI ⟨by decide, by decide⟩ (allI ⟨by decide, by decide⟩ (allI ⟨by decide, by decide⟩ (allI ⟨by decide, by decide⟩ (allI ⟨by decide, by decide⟩ (allI ⟨by decide, by decide⟩ (allI ⟨by decide, by decide⟩ (allI ⟨by decide, by decide⟩ (allI ⟨by decide, by decide⟩ (allI ⟨by decide, by decide⟩ (allI ⟨by decide, by decide⟩ (allI ⟨by decide, by decide⟩ (allI ⟨by decide, by decide⟩ (allI ⟨by decide, by decide⟩ (allI ⟨by decide, by decide⟩ (allI ⟨by decide, by decide⟩ (allI ⟨by decide, by decide⟩ (allI ⟨by decide, by decide⟩ (allI ⟨by decide, by decide⟩ (allI ⟨by decide, by decide⟩ (allI ⟨by decide, by decide⟩ (allI ⟨by decide, by decide⟩ (allI ⟨by decide, by decide⟩ (allI ⟨by decide, by decide⟩ (allI ⟨by decide, by decide⟩ (allI ⟨by decide, by decide⟩ (allI ⟨by decide, by decide⟩ (allI ⟨by decide, by decide⟩ (allI ⟨by decide, by decide⟩ (allI ⟨by decide, by decide⟩ (allI ⟨by decide, by decide⟩ (allI ⟨by decide, by decide⟩ (allI ⟨by decide, by decide⟩ (allI ⟨by decide, by decide⟩ (allI ⟨by decide, by decide⟩ (allI ⟨by decide, by decide⟩ (allI ⟨by decide, by decide⟩ (allI ⟨by decide, by decide⟩ (allI ⟨by decide, by decide⟩ (allI ⟨by decide, by decide⟩ (allI ⟨by decide, by decide⟩ (allI ⟨by decide, by decide⟩ (allI ⟨by decide, by decide⟩ (allI ⟨by decide, by decide⟩ (allI ⟨by decide, by decide⟩ (allI ⟨by decide, by decide⟩ (allI ⟨by decide, by decide⟩ (allI ⟨by decide, by decide⟩ (allI ⟨by decide, by decide⟩ (allI hb0 (allI hb1 (allI hb2 (allI hb3 allI0))))))))))))))))))))))))))))))))))))))))))))))))))))))))))))))))
    refine gCallI K271 (W := 1) x139 [(.ref x143)] [(.ref x139)] L_423 rfl (hw _ (List.mem_of_getElem? (i := 11) rfl)) (hw _ (List.mem_of_getElem? (i := 12) rfl)) (hw _ (List.mem_of_getElem? (i := 13) rfl)) (cal_strN hw (W := 1) (cs := [(49 : Int32), (46 : Int32), (50 : Int32), (51 : Int32), (52 : Int32), (53 : Int32), (46 : Int32), (54 : Int32), (55 : Int32), (56 : Int32), (49 : Int32), (46 : Int32), (50 : Int32), (51 : Int32), (52 : Int32), (53 : Int32), (46 : Int32), (54 : Int32), (55 : Int32), (56 : Int32), (49 : Int32), (46 : Int32), (50 : Int32), (51 : Int32), (52 : Int32), (53 : Int32), (46 : Int32), (54 : Int32), (55 : Int32), (56 : Int32), (49 : Int32), (46 : Int32), (50 : Int32), (51 : Int32), (52 : Int32), (53 : Int32), (46 : Int32), (54 : Int32), (55 : Int32), (56 : Int32), (49 : Int32), (46 : Int32), (50 : Int32), (51 : Int32), (52 : Int32), (53 : Int32), (46 : Int32), (54 : Int32), (55 : Int32), (56 : Int32), (49 : Int32), (46 : Int32), (50 : Int32), (51 : Int32), (52 : Int32), (53 : Int32), (46 : Int32), (54 : Int32), (55 : Int32), (56 : Int32), r0, r1, r2, r3]) 64 (K271.wsge (List.mem_of_getElem? (i := 1) rfl)) K271.n0le (A139.ext (Ext.kp1 (Ext.kp1 (Ext.kp1 (Ext.kp1 (Ext.kp1 (Ext.kp1 (Ext.kp1 (Ext.kp1 (Ext.kp1 (Ext.kp1 (Ext.kp1 (Ext.kp1 (Ext.kp1 (Ext.kp1 (Ext.kp1 (Ext.kp1 (Ext.kp1 (Ext.kp1 (Ext.kp1 (Ext.kp1 (Ext.kp1 (Ext.kp1 (Ext.kp1 (Ext.kp1 (Ext.kp1 (Ext.kp1 (Ext.kp1 (Ext.kp1 (Ext.kp1 (Ext.kp1 (Ext.kp1 (Ext.kp1 (Ext.kp1 (Ext.kp1 (Ext.kp1 (Ext.kp1 (Ext.kp1 (Ext.kp1 (Ext.kp1 (Ext.kp1 (Ext.kp1 (Ext.kp1 (Ext.kp1 (Ext.kp1 (Ext.kp1 (Ext.kp1 (Ext.kp1 (Ext.kp1 (Ext.kp1 (Ext.kp1 (Ext.kp1 (Ext.kp1 (Ext.kp1 (Ext.kp1 (Ext.kp1 (Ext.kp1 (Ext.kp1 (Ext.kp1 (Ext.kp1 (Ext.kp1 (Ext.kp1 (Ext.kp1 (Ext.kp1 (Ext.kp1 E143 Q145 (Nat.le_of_eq g143.symm)) Q147 (Nat.le_of_eq g143.symm)) Q149 (Nat.le_of_eq g143.symm)) Q151 (Nat.le_of_eq g143.symm)) Q153 (Nat.le_of_eq g143.symm)) Q155 (Nat.le_of_eq g143.symm)) Q157 (Nat.le_of_eq g143.symm)) Q159 (Nat.le_of_eq g143.symm)) Q161 (Nat.le_of_eq g143.symm)) Q163 (Nat.le_of_eq g143.symm)) Q165 (Nat.le_of_eq g143.symm)) Q167 (Nat.le_of_eq g143.symm)) Q169 (Nat.le_of_eq g143.symm)) Q171 (Nat.le_of_eq g143.symm)) Q173 (Nat.le_of_eq g143.symm)) Q175 (Nat.le_of_eq g143.symm)) Q177 (Nat.le_of_eq g143.symm)) Q179 (Nat.le_of_eq g143.symm)) Q181 (Nat.le_of_eq g143.symm)) Q183 (Nat.le_of_eq g143.symm)) Q185 (Nat.le_of_eq g143.symm)) Q187 (Nat.le_of_eq g143.symm)) Q189 (Nat.le_of_eq g143.symm)) Q191 (Nat.le_of_eq g143.symm)) Q193 (Nat.le_of_eq g143.symm)) Q195 (Nat.le_of_eq g143.symm)) Q197 (Nat.le_of_eq g143.symm)) Q199 (Nat.le_of_eq g143.symm)) Q201 (Nat.le_of_eq g143.symm)) Q203 (Nat.le_of_eq g143.symm)) Q205 (Nat.le_of_eq g143.symm)) Q207 (Nat.le_of_eq g143.symm)) Q209 (Nat.le_of_eq g143.symm)) Q211 (Nat.le_of_eq g143.symm)) Q213 (Nat.le_of_eq g143.symm)) Q215 (Nat.le_of_eq g143.symm)) Q217 (Nat.le_of_eq g143.symm)) Q219 (Nat.le_of_eq g143.symm)) Q221 (Nat.le_of_eq g143.symm)) Q223 (Nat.le_of_eq g143.symm)) Q225 (Nat.le_of_eq g143.symm)) Q227 (Nat.le_of_eq g143.symm)) Q229 (Nat.le_of_eq g143.symm)) Q231 (Nat.le_of_eq g143.symm)) Q233 (Nat.le_of_eq g143.symm)) Q235 (Nat.le_of_eq g143.symm)) Q237 (Nat.le_of_eq g143.symm)) Q239 (Nat.le_of_eq g143.symm)) Q241 (Nat.le_of_eq g143.symm)) Q243 (Nat.le_of_eq g143.symm)) Q245 (Nat.le_of_eq g143.symm)) Q247 (Nat.le_of_eq g143.symm)) Q249 (Nat.le_of_eq g143.symm)) Q251 (Nat.le_of_eq g143.symm)) Q253 (Nat.le_of_eq g143.symm)) Q255 (Nat.le_of_eq g143.symm)) Q257 (Nat.le_of_eq g143.symm)) Q259 (Nat.le_of_eq g143.symm)) Q261 (Nat.le_of_eq g143.symm)) Q263 (Nat.le_of_eq g143.symm)) Q265 (Nat.le_of_eq g143.symm)) Q267 (Nat.le_of_eq g143.symm)) Q269 (Nat.le_of_eq g143.symm)) Q271 (Nat.le_of_eq g143.symm))) (F141.ext (Ext.kp1 (Ext.kp1 (Ext.kp1 (Ext.kp1 (Ext.kp1 (Ext.kp1 (Ext.kp1 (Ext.kp1 (Ext.kp1 (Ext.kp1 (Ext.kp1 (Ext.kp1 (Ext.kp1 (Ext.kp1 (Ext.kp1 (Ext.kp1 (Ext.kp1 (Ext.kp1 (Ext.kp1 (Ext.kp1 (Ext.kp1 (Ext.kp1 (Ext.kp1 (Ext.kp1 (Ext.kp1 (Ext.kp1 (Ext.kp1 (Ext.kp1 (Ext.kp1 (Ext.kp1 (Ext.kp1 (Ext.kp1 (Ext.kp1 (Ext.kp1 (Ext.kp1 (Ext.kp1 (Ext.kp1 (Ext.kp1 (Ext.kp1 (Ext.kp1 (Ext.kp1 (Ext.kp1 (Ext.kp1 (Ext.kp1 (Ext.kp1 (Ext.kp1 (Ext.kp1 (Ext.kp1 (Ext.kp1 (Ext.kp1 (Ext.kp1 (Ext.kp1 (Ext.kp1 (Ext.kp1 (Ext.kp1 (Ext.kp1 (Ext.kp1 (Ext.kp1 (Ext.kp1 (Ext.kp1 (Ext.kp1 (Ext.kp1 (Ext.kp1 (Ext.kp1 E143 Q145 (Nat.le_of_eq g143.symm)) Q147 (Nat.le_of_eq g143.symm)) Q149 (Nat.le_of_eq g143.symm)) Q151 (Nat.le_of_eq g143.symm)) Q153 (Nat.le_of_eq g143.symm)) Q155 (Nat.le_of_eq g143.symm)) Q157 (Nat.le_of_eq g143.symm)) Q159 (Nat.le_of_eq g143.symm)) Q161 (Nat.le_of_eq g143.symm)) Q163 (Nat.le_of_eq g143.symm)) Q165 (Nat.le_of_eq g143.symm)) Q167 (Nat.le_of_eq g143.symm)) Q169 (Nat.le_of_eq g143.symm)) Q171 (Nat.le_of_eq g143.symm)) Q173 (Nat.le_of_eq g143.symm)) Q175 (Nat.le_of_eq g143.symm)) Q177 (Nat.le_of_eq g143.symm)) Q179 (Nat.le_of_eq g143.symm)) Q181 (Nat.le_of_eq g143.symm)) Q183 (Nat.le_of_eq g143.symm)) Q185 (Nat.le_of_eq g143.symm)) Q187 (Nat.le_of_eq g143.symm)) Q189 (Nat.le_of_eq g143.symm)) Q191 (Nat.le_of_eq g143.symm)) Q193 (Nat.le_of_eq g143.symm)) Q195 (Nat.le_of_eq g143.symm)) Q197 (Nat.le_of_eq g143.symm)) Q199 (Nat.le_of_eq g143.symm)) Q201 (Nat.le_of_eq g143.symm)) Q203 (Nat.le_of_eq g143.symm)) Q205 (Nat.le_of_eq g143.symm)) Q207 (Nat.le_of_eq g143.symm)) Q209 (Nat.le_of_eq g143.symm)) Q211 (Nat.le_of_eq g143.symm)) Q213 (Nat.le_of_eq g143.symm)) Q215 (Nat.le_of_eq g143.symm)) Q217 (Nat.le_of_eq g143.symm)) Q219 (Nat.le_of_eq g143.symm)) Q221 (Nat.le_of_eq g143.symm)) Q223 (Nat.le_of_eq g143.symm)) Q225 (Nat.le_of_eq g143.symm)) Q227 (Nat.le_of_eq g143.symm)) Q229 (Nat.le_of_eq g143.symm)) Q231 (Nat.le_of_eq g143.symm)) Q233 (Nat.le_of_eq g143.symm)) Q235 (Nat.le_of_eq g143.symm)) Q237 (Nat.le_of_eq g143.symm)) Q239 (Nat.le_of_eq g143.symm)) Q241 (Nat.le_of_eq g143.symm)) Q243 (Nat.le_of_eq g143.symm)) Q245 (Nat.le_of_eq g143.symm)) Q247 (Nat.le_of_eq g143.symm)) Q249 (Nat.le_of_eq g143.symm)) Q251 (Nat.le_of_eq g143.symm)) Q253 (Nat.le_of_eq g143.symm)) Q255 (Nat.le_of_eq g143.symm)) Q257 (Nat.le_of_eq g143.symm)) Q259 (Nat.le_of_eq g143.symm)) Q261 (Nat.le_of_eq g143.symm)) Q263 (Nat.le_of_eq g143.symm)) Q265 (Nat.le_of_eq g143.symm)) Q267 (Nat.le_of_eq g143.symm)) Q269 (Nat.le_of_eq g143.symm)) Q271 (Nat.le_of_eq g143.symm))) (F142.ext (Ext.kp1 (Ext.kp1 (Ext.kp1 (Ext.kp1 (Ext.kp1 (Ext.kp1 (Ext.kp1 (Ext.kp1 (Ext.kp1 (Ext.kp1 (Ext.kp1 (Ext.kp1 (Ext.kp1 (Ext.kp1 (Ext.kp1 (Ext.kp1 (Ext.kp1 (Ext.kp1 (Ext.kp1 (Ext.kp1 (Ext.kp1 (Ext.kp1 (Ext.kp1 (Ext.kp1 (Ext.kp1 (Ext.kp1 (Ext.kp1 (Ext.kp1 (Ext.kp1 (Ext.kp1 (Ext.kp1 (Ext.kp1 (Ext.kp1 (Ext.kp1 (Ext.kp1 (Ext.kp1 (Ext.kp1 (Ext.kp1 (Ext.kp1 (Ext.kp1 (Ext.kp1 (Ext.kp1 (Ext.kp1 (Ext.kp1 (Ext.kp1 (Ext.kp1 (Ext.kp1 (Ext.kp1 (Ext.kp1 (Ext.kp1 (Ext.kp1 (Ext.kp1 (Ext.kp1 (Ext.kp1 (Ext.kp1 (Ext.kp1 (Ext.kp1 (Ext.kp1 (Ext.kp1 (Ext.kp1 (Ext.kp1 (Ext.kp1 (Ext.kp1 (Ext.kp1 E143 Q145 (Nat.le_of_eq g143.symm)) Q147 (Nat.le_of_eq g143.symm)) Q149 (Nat.le_of_eq g143.symm)) Q151 (Nat.le_of_eq g143.symm)) Q153 (Nat.le_of_eq g143.symm)) Q155 (Nat.le_of_eq g143.symm)) Q157 (Nat.le_of_eq g143.symm)) Q159 (Nat.le_of_eq g143.symm)) Q161 (Nat.le_of_eq g143.symm)) Q163 (Nat.le_of_eq g143.symm)) Q165 (Nat.le_of_eq g143.symm)) Q167 (Nat.le_of_eq g143.symm)) Q169 (Nat.le_of_eq g143.symm)) Q171 (Nat.le_of_eq g143.symm)) Q173 (Nat.le_of_eq g143.symm)) Q175 (Nat.le_of_eq g143.symm)) Q177 (Nat.le_of_eq g143.symm)) Q179 (Nat.le_of_eq g143.symm)) Q181 (Nat.le_of_eq g143.symm)) Q183 (Nat.le_of_eq g143.symm)) Q185 (Nat.le_of_eq g143.symm)) Q187 (Nat.le_of_eq g143.symm)) Q189 (Nat.le_of_eq g143.symm)) Q191 (Nat.le_of_eq g143.symm)) Q193 (Nat.le_of_eq g143.symm)) Q195 (Nat.le_of_eq g143.symm)) Q197 (Nat.le_of_eq g143.symm)) Q199 (Nat.le_of_eq g143.symm)) Q201 (Nat.le_of_eq g143.symm)) Q203 (Nat.le_of_eq g143.symm)) Q205 (Nat.le_of_eq g143.symm)) Q207 (Nat.le_of_eq g143.symm)) Q209 (Nat.le_of_eq g143.symm)) Q211 (Nat.le_of_eq g143.symm)) Q213 (Nat.le_of_eq g143.symm)) Q215 (Nat.le_of_eq g143.symm)) Q217 (Nat.le_of_eq g143.symm)) Q219 (Nat.le_of_eq g143.symm)) Q221 (Nat.le_of_eq g143.symm)) Q223 (Nat.le_of_eq g143.symm)) Q225 (Nat.le_of_eq g143.symm)) Q227 (Nat.le_of_eq g143.symm)) Q229 (Nat.le_of_eq g143.symm)) Q231 (Nat.le_of_eq g143.symm)) Q233 (Nat.le_of_eq g143.symm)) Q235 (Nat.le_of_eq g143.symm)) Q237 (Nat.le_of_eq g143.symm)) Q239 (Nat.le_of_eq g143.symm)) Q241 (Nat.le_of_eq g143.symm)) Q243 (Nat.le_of_eq g143.symm)) Q245 (Nat.le_of_eq g143.symm)) Q247 (Nat.le_of_eq g143.symm)) Q249 (Nat.le_of_eq g143.symm)) Q251 (Nat.le_of_eq g143.symm)) Q253 (Nat.le_of_eq g143.symm)) Q255 (Nat.le_of_eq g143.symm)) Q257 (Nat.le_of_eq g143.symm)) Q259 (Nat.le_of_eq g143.symm)) Q261 (Nat.le_of_eq g143.symm)) Q263 (Nat.le_of_eq g143.symm)) Q265 (Nat.le_of_eq g143.symm)) Q267 (Nat.le_of_eq g143.symm)) Q269 (Nat.le_of_eq g143.symm)) Q271 (Nat.le_of_eq g143.symm))) A271 (Sc.ext (Ext.kp1 (Ext.kp1 (Ext.kp1 (Ext.kp1 (Ext.kp1 (Ext.kp1 (Ext.kp1 (Ext.kp1 (Ext.kp1 (Ext.kp1 (Ext.kp1 (Ext.kp1 (Ext.kp1 (Ext.kp1 (Ext.kp1 (Ext.kp1 (Ext.kp1 (Ext.kp1 (Ext.kp1 (Ext.kp1 (Ext.kp1 (Ext.kp1 (Ext.kp1 (Ext.kp1 (Ext.kp1 (Ext.kp1 (Ext.kp1 (Ext.kp1 (Ext.kp1 (Ext.kp1 (Ext.kp1 (Ext.kp1 (Ext.kp1 (Ext.kp1 (Ext.kp1 (Ext.kp1 (Ext.kp1 (Ext.kp1 (Ext.kp1 (Ext.kp1 (Ext.kp1 (Ext.kp1 (Ext.kp1 (Ext.kp1 (Ext.kp1 (Ext.kp1 (Ext.kp1 (Ext.kp1 (Ext.kp1 (Ext.kp1 (Ext.kp1 (Ext.kp1 (Ext.kp1 (Ext.kp1 (Ext.kp1 (Ext.kp1 (Ext.kp1 (Ext.kp1 (Ext.kp1 (Ext.kp1 (Ext.kp1 (Ext.kp1 (Ext.kp1 (Ext.kp1 (Ext.tr (Ext.tr (Ext.tr (Ext.tr (Ext.tr E101 E103) E105) E107) E139) E143) Q145 (Nat.le_trans (Ext.tr (Ext.tr (Ext.tr (Ext.tr E101 E103) E105) E107) E139).1 (Nat.le_of_eq g143.symm))) Q147 (Nat.le_trans (Ext.tr (Ext.tr (Ext.tr (Ext.tr E101 E103) E105) E107) E139).1 (Nat.le_of_eq g143.symm))) Q149 (Nat.le_trans (Ext.tr (Ext.tr (Ext.tr (Ext.tr E101 E103) E105) E107) E139).1 (Nat.le_of_eq g143.symm))) Q151 (Nat.le_trans (Ext.tr (Ext.tr (Ext.tr (Ext.tr E101 E103) E105) E107) E139).1 (Nat.le_of_eq g143.symm))) Q153 (Nat.le_trans (Ext.tr (Ext.tr (Ext.tr (Ext.tr E101 E103) E105) E107) E139).1 (Nat.le_of_eq g143.symm))) Q155 (Nat.le_trans (Ext.tr (Ext.tr (Ext.tr (Ext.tr E101 E103) E105) E107) E139).1 (Nat.le_of_eq g143.symm))) Q157 (Nat.le_trans (Ext.tr (Ext.tr (Ext.tr (Ext.tr E101 E103) E105) E107) E139).1 (Nat.le_of_eq g143.symm))) Q159 (Nat.le_trans (Ext.tr (Ext.tr (Ext.tr (Ext.tr E101 E103) E105) E107) E139).1 (Nat.le_of_eq g143.symm))) Q161 (Nat.le_trans (Ext.tr (Ext.tr (Ext.tr (Ext.tr E101 E103) E105) E107) E139).1 (Nat.le_of_eq g143.symm))) Q163 (Nat.le_trans (Ext.tr (Ext.tr (Ext.tr (Ext.tr E101 E103) E105) E107) E139).1 (Nat.le_of_eq g143.symm))) Q165 (Nat.le_trans (Ext.tr (Ext.tr (Ext.tr (Ext.tr E101 E103) E105) E107) E139).1 (Nat.le_of_eq g143.symm))) Q167 (Nat.le_trans (Ext.tr (Ext.tr (Ext.tr (Ext.tr E101 E103) E105) E107) E139).1 (Nat.le_of_eq g143.symm))) Q169 (Nat.le_trans (Ext.tr (Ext.tr (Ext.tr (Ext.tr E101 E103) E105) E107) E139).1 (Nat.le_of_eq g143.symm))) Q171 (Nat.le_trans (Ext.tr (Ext.tr (Ext.tr (Ext.tr E101 E103) E105) E107) E139).1 (Nat.le_of_eq g143.symm))) Q173 (Nat.le_trans (Ext.tr (Ext.tr (Ext.tr (Ext.tr E101 E103) E105) E107) E139).1 (Nat.le_of_eq g143.symm))) Q175 (Nat.le_trans (Ext.tr (Ext.tr (Ext.tr (Ext.tr E101 E103) E105) E107) E139).1 (Nat.le_of_eq g143.symm))) Q177 (Nat.le_trans (Ext.tr (Ext.tr (Ext.tr (Ext.tr E101 E103) E105) E107) E139).1 (Nat.le_of_eq g143.symm))) Q179 (Nat.le_trans (Ext.tr (Ext.tr (Ext.tr (Ext.tr E101 E103) E105) E107) E139).1 (Nat.le_of_eq g143.symm))) Q181 (Nat.le_trans (Ext.tr (Ext.tr (Ext.tr (Ext.tr E101 E103) E105) E107) E139).1 (Nat.le_of_eq g143.symm))) Q183 (Nat.le_trans (Ext.tr (Ext.tr (Ext.tr (Ext.tr E101 E103) E105) E107) E139).1 (Nat.le_of_eq g143.symm))) Q185 (Nat.le_trans (Ext.tr (Ext.tr (Ext.tr (Ext.tr E101 E103) E105) E107) E139).1 (Nat.le_of_eq g143.symm))) Q187 (Nat.le_trans (Ext.tr (Ext.tr (Ext.tr (Ext.tr E101 E103) E105) E107) E139).1 (Nat.le_of_eq g143.symm))) Q189 (Nat.le_trans (Ext.tr (Ext.tr (Ext.tr (Ext.tr E101 E103) E105) E107) E139).1 (Nat.le_of_eq g143.symm))) Q191 (Nat.le_trans (Ext.tr (Ext.tr (Ext.tr (Ext.tr E101 E103) E105) E107) E139).1 (Nat.le_of_eq g143.symm))) Q193 (Nat.le_trans (Ext.tr (Ext.tr (Ext.tr (Ext.tr E101 E103) E105) E107) E139).1 (Nat.le_of_eq g143.symm))) Q195 (Nat.le_trans (Ext.tr (Ext.tr (Ext.tr (Ext.tr E101 E103) E105) E107) E139).1 (Nat.le_of_eq g143.symm))) Q197 (Nat.le_trans (Ext.tr (Ext.tr (Ext.tr (Ext.tr E101 E103) E105) E107) E139).1 (Nat.le_of_eq g143.symm))) Q199 (Nat.le_trans (Ext.tr (Ext.tr (Ext.tr (Ext.tr E101 E103) E105) E107) E139).1 (Nat.le_of_eq g143.symm))) Q201 (Nat.le_trans (Ext.tr (Ext.tr (Ext.tr (Ext.tr E101 E103) E105) E107) E139).1 (Nat.le_of_eq g143.symm))) Q203 (Nat.le_trans (Ext.tr (Ext.tr (Ext.tr (Ext.tr E101 E103) E105) E107) E139).1 (Nat.le_of_eq g143.symm))) Q205 (Nat.le_trans (Ext.tr (Ext.tr (Ext.tr (Ext.tr E101 E103) E105) E107) E139).1 (Nat.le_of_eq g143.symm))) Q207 (Nat.le_trans (Ext.tr (Ext.tr (Ext.tr (Ext.tr E101 E103) E105) E107) E139).1 (Nat.le_of_eq g143.symm))) Q209 (Nat.le_trans (Ext.tr (Ext.tr (Ext.tr (Ext.tr E101 E103) E105) E107) E139).1 (Nat.le_of_eq g143.symm))) Q211 (Nat.le_trans (Ext.tr (Ext.tr (Ext.tr (Ext.tr E101 E103) E105) E107) E139).1 (Nat.le_of_eq g143.symm))) Q213 (Nat.le_trans (Ext.tr (Ext.tr (Ext.tr (Ext.tr E101 E103) E105) E107) E139).1 (Nat.le_of_eq g143.symm))) Q215 (Nat.le_trans (Ext.tr (Ext.tr (Ext.tr (Ext.tr E101 E103) E105) E107) E139).1 (Nat.le_of_eq g143.symm))) Q217 (Nat.le_trans (Ext.tr (Ext.tr (Ext.tr (Ext.tr E101 E103) E105) E107) E139).1 (Nat.le_of_eq g143.symm))) Q219 (Nat.le_trans (Ext.tr (Ext.tr (Ext.tr (Ext.tr E101 E103) E105) E107) E139).1 (Nat.le_of_eq g143.symm))) Q221 (Nat.le_trans (Ext.tr (Ext.tr (Ext.tr (Ext.tr E101 E103) E105) E107) E139).1 (Nat.le_of_eq g143.symm))) Q223 (Nat.le_trans (Ext.tr (Ext.tr (Ext.tr (Ext.tr E101 E103) E105) E107) E139).1 (Nat.le_of_eq g143.symm))) Q225 (Nat.le_trans (Ext.tr (Ext.tr (Ext.tr (Ext.tr E101 E103) E105) E107) E139).1 (Nat.le_of_eq g143.symm))) Q227 (Nat.le_trans (Ext.tr (Ext.tr (Ext.tr (Ext.tr E101 E103) E105) E107) E139).1 (Nat.le_of_eq g143.symm))) Q229 (Nat.le_trans (Ext.tr (Ext.tr (Ext.tr (Ext.tr E101 E103) E105) E107) E139).1 (Nat.le_of_eq g143.symm))) Q231 (Nat.le_trans (Ext.tr (Ext.tr (Ext.tr (Ext.tr E101 E103) E105) E107) E139).1 (Nat.le_of_eq g143.symm))) Q233 (Nat.le_trans (Ext.tr (Ext.tr (Ext.tr (Ext.tr E101 E103) E105) E107) E139).1 (Nat.le_of_eq g143.symm))) Q235 (Nat.le_trans (Ext.tr (Ext.tr (Ext.tr (Ext.tr E101 E103) E105) E107) E139).1 (Nat.le_of_eq g143.symm))) Q237 (Nat.le_trans (Ext.tr (Ext.tr (Ext.tr (Ext.tr E101 E103) E105) E107) E139).1 (Nat.le_of_eq g143.symm))) Q239 (Nat.le_trans (Ext.tr (Ext.tr (Ext.tr (Ext.tr E101 E103) E105) E107) E139).1 (Nat.le_of_eq g143.symm))) Q241 (Nat.le_trans (Ext.tr (Ext.tr (Ext.tr (Ext.tr E101 E103) E105) E107) E139).1 (Nat.le_of_eq g143.symm))) Q243 (Nat.le_trans (Ext.tr (Ext.tr (Ext.tr (Ext.tr E101 E103) E105) E107) E139).1 (Nat.le_of_eq g143.symm))) Q245 (Nat.le_trans (Ext.tr (Ext.tr (Ext.tr (Ext.tr E101 E103) E105) E107) E139).1 (Nat.le_of_eq g143.symm))) Q247 (Nat.le_trans (Ext.tr (Ext.tr (Ext.tr (Ext.tr E101 E103) E105) E107) E139).1 (Nat.le_of_eq g143.symm))) Q249 (Nat.le_trans (Ext.tr (Ext.tr (Ext.tr (Ext.tr E101 E103) E105) E107) E139).1 (Nat.le_of_eq g143.symm))) Q251 (Nat.le_trans (Ext.tr (Ext.tr (Ext.tr (Ext.tr E101 E103) E105) E107) E139).1 (Nat.le_of_eq g143.symm))) Q253 (Nat.le_trans (Ext.tr (Ext.tr (Ext.tr (Ext.tr E101 E103) E105) E107) E139).1 (Nat.le_of_eq g143.symm))) Q255 (Nat.le_trans (Ext.tr (Ext.tr (Ext.tr (Ext.tr E101 E103) E105) E107) E139).1 (Nat.le_of_eq g143.symm))) Q257 (Nat.le_trans (Ext.tr (Ext.tr (Ext.tr (Ext.tr E101 E103) E105) E107) E139).1 (Nat.le_of_eq g143.symm))) Q259 (Nat.le_trans (Ext.tr (Ext.tr (Ext.tr (Ext.tr E101 E103) E105) E107) E139).1 (Nat.le_of_eq g143.symm))) Q261 (Nat.le_trans (Ext.tr (Ext.tr (Ext.tr (Ext.tr E101 E103) E105) E107) E139).1 (Nat.le_of_eq g143.symm))) Q263 (Nat.le_trans (Ext.tr (Ext.tr (Ext.tr (Ext.tr E101 E103) E105) E107) E139).1 (Nat.le_of_eq g143.symm))) Q265 (Nat.le_trans (Ext.tr (Ext.tr (Ext.tr (Ext.tr E101 E103) E105) E107) E139).1 (Nat.le_of_eq g143.symm))) Q267 (Nat.le_trans (Ext.tr (Ext.tr (Ext.tr (Ext.tr E101 E103) E105) E107) E139).1 (Nat.le_of_eq g143.symm))) Q269 (Nat.le_trans (Ext.tr (Ext.tr (Ext.tr (Ext.tr E101 E103) E105) E107) E139).1 (Nat.le_of_eq g143.symm))) Q271 (Nat.le_trans (Ext.tr (Ext.tr (Ext.tr (Ext.tr E101 E103) E105) E107) E139).1 (Nat.le_of_eq g143.symm)))) hz rfl (by decide) (by decide) hpp (by decide) (by decide)) (fun z q => by cases List.mem_singleton.mp q; exact (List.mem_of_getElem? (i := 1) rfl)) pd2 rfl rfl (Nat.le_of_eq rfl) rfl (by decide) (by decide) (by decide) (fun v273 T273 h273 K273 Q273 q273 => ?_)
    have P274 := P272.trans Q273 (fun z q => by cases List.mem_singleton.mp q; exact Or.inr ge_x139)
    obtain ⟨rfl, St273⟩ := q273
    refine gAstore K273 L_426 rfl (Ls' := #[.val (.int sel), .val (.int x0), .val (.int x1), .val (.int x2), .val (.int x3), .val (.int r0), .val (.int r1), .val (.int r2), .val (.int r3), .val (.int (5 : Int32)), .val (.ref x139), .unset, .unset]) rfl ?_
    refine gIconst K273 (1 : Int32) L_428 rfl ?_
    refine gIconst K273 (4 : Int32) L_429 rfl ?_
    refine gIload K273 L_430 (v := r0) rfl ?_
    refine gIload K273 L_432 (v := r1) rfl ?_
    refine gIload K273 L_434 (v := r2) rfl ?_
    refine gIload K273 L_436 (v := r3) rfl ?_
    refine gCallS K273 (W := 0) [(.int (1 : Int32)), (.int (4 : Int32)), (.int r0), (.int r1), (.int r2), (.int r3)] [] L_438 (hw _ (List.mem_of_getElem? (i := 29) rfl)) (hw _ (List.mem_of_getElem? (i := 30) rfl)) (hw _ (List.mem_of_getElem? (i := 2) rfl)) (hw _ (List.mem_of_getElem? (i := 31) rfl)) (Cal.ofN (W := 0) (c_tail14 l Z a0 hw h273 n0 K273.n0le r0 r1 r2 r3) (hw _ (List.mem_of_getElem? (i := 31) rfl)) (hw _ (List.mem_of_getElem? (i := 2) rfl)) (by decide) (by decide)) (fun _ q => nomatch q) pd7 rfl rfl (Nat.le_of_eq rfl) rfl (by decide) (by decide) (by decide) (fun v275 T275 h275 K275 Q275 q275 => ?_)
    have E275 := Ext.of0 Q275
    have P276 := P274.ext E275
    cases q275
    refine gIstore K275 L_441 (Ls' := #[.val (.int sel), .val (.int x0), .val (.int x1), .val (.int x2), .val (.int x3), .val (.int r0), .val (.int r1), .val (.int r2), .val (.int r3), .val (.int (5 : Int32)), .val (.ref x139), .val (.int (okF [r0, r1, r2, r3] (1 : Int32))), .unset]) rfl ?_
    refine gGoto K275 L_443 ?_
    refine gAload K275 L_902 (v := (.ref x139)) rfl rfl ?_
    refine gCallS K275 (W := 0) [(.ref x139)] [] L_904 (hw _ (List.mem_of_getElem? (i := 32) rfl)) (hw _ (List.mem_of_getElem? (i := 33) rfl)) (hw _ (List.mem_of_getElem? (i := 34) rfl)) (hw _ (List.mem_of_getElem? (i := 35) rfl)) (Cal.ofN (W := 0) (c_valid l Z a0 hw h275 n0 K275.n0le x139 [(49 : Int32), (46 : Int32), (50 : Int32), (51 : Int32), (52 : Int32), (53 : Int32), (46 : Int32), (54 : Int32), (55 : Int32), (56 : Int32), (49 : Int32), (46 : Int32), (50 : Int32), (51 : Int32), (52 : Int32), (53 : Int32), (46 : Int32), (54 : Int32), (55 : Int32), (56 : Int32), (49 : Int32), (46 : Int32), (50 : Int32), (51 : Int32), (52 : Int32), (53 : Int32), (46 : Int32), (54 : Int32), (55 : Int32), (56 : Int32), (49 : Int32), (46 : Int32), (50 : Int32), (51 : Int32), (52 : Int32), (53 : Int32), (46 : Int32), (54 : Int32), (55 : Int32), (56 : Int32), (49 : Int32), (46 : Int32), (50 : Int32), (51 : Int32), (52 : Int32), (53 : Int32), (46 : Int32), (54 : Int32), (55 : Int32), (56 : Int32), (49 : Int32), (46 : Int32), (50 : Int32), (51 : Int32), (52 : Int32), (53 : Int32), (46 : Int32), (54 : Int32), (55 : Int32), (56 : Int32), r0, r1, r2, r3] (St273.ext E275) z (Sc.ext (Ext.tr (Ext.kp1 (Ext.kp1 (Ext.kp1 (Ext.kp1 (Ext.kp1 (Ext.kp1 (Ext.kp1 (Ext.kp1 (Ext.kp1 (Ext.kp1 (Ext.kp1 (Ext.kp1 (Ext.kp1 (Ext.kp1 (Ext.kp1 (Ext.kp1 (Ext.kp1 (Ext.kp1 (Ext.kp1 (Ext.kp1 (Ext.kp1 (Ext.kp1 (Ext.kp1 (Ext.kp1 (Ext.kp1 (Ext.kp1 (Ext.kp1 (Ext.kp1 (Ext.kp1 (Ext.kp1 (Ext.kp1 (Ext.kp1 (Ext.kp1 (Ext.kp1 (Ext.kp1 (Ext.kp1 (Ext.kp1 (Ext.kp1 (Ext.kp1 (Ext.kp1 (Ext.kp1 (Ext.kp1 (Ext.kp1 (Ext.kp1 (Ext.kp1 (Ext.kp1 (Ext.kp1 (Ext.kp1 (Ext.kp1 (Ext.kp1 (Ext.kp1 (Ext.kp1 (Ext.kp1 (Ext.kp1 (Ext.kp1 (Ext.kp1 (Ext.kp1 (Ext.kp1 (Ext.kp1 (Ext.kp1 (Ext.kp1 (Ext.kp1 (Ext.kp1 (Ext.kp1 (Ext.kp1 (Ext.tr (Ext.tr (Ext.tr (Ext.tr (Ext.tr E101 E103) E105) E107) E139) E143) Q145 (Nat.le_trans (Ext.tr (Ext.tr (Ext.tr (Ext.tr E101 E103) E105) E107) E139).1 (Nat.le_of_eq g143.symm))) Q147 (Nat.le_trans (Ext.tr (Ext.tr (Ext.tr (Ext.tr E101 E103) E105) E107) E139).1 (Nat.le_of_eq g143.symm))) Q149 (Nat.le_trans (Ext.tr (Ext.tr (Ext.tr (Ext.tr E101 E103) E105) E107) E139).1 (Nat.le_of_eq g143.symm))) Q151 (Nat.le_trans (Ext.tr (Ext.tr (Ext.tr (Ext.tr E101 E103) E105) E107) E139).1 (Nat.le_of_eq g143.symm))) Q153 (Nat.le_trans (Ext.tr (Ext.tr (Ext.tr (Ext.tr E101 E103) E105) E107) E139).1 (Nat.le_of_eq g143.symm))) Q155 (Nat.le_trans (Ext.tr (Ext.tr (Ext.tr (Ext.tr E101 E103) E105) E107) E139).1 (Nat.le_of_eq g143.symm))) Q157 (Nat.le_trans (Ext.tr (Ext.tr (Ext.tr (Ext.tr E101 E103) E105) E107) E139).1 (Nat.le_of_eq g143.symm))) Q159 (Nat.le_trans (Ext.tr (Ext.tr (Ext.tr (Ext.tr E101 E103) E105) E107) E139).1 (Nat.le_of_eq g143.symm))) Q161 (Nat.le_trans (Ext.tr (Ext.tr (Ext.tr (Ext.tr E101 E103) E105) E107) E139).1 (Nat.le_of_eq g143.symm))) Q163 (Nat.le_trans (Ext.tr (Ext.tr (Ext.tr (Ext.tr E101 E103) E105) E107) E139).1 (Nat.le_of_eq g143.symm))) Q165 (Nat.le_trans (Ext.tr (Ext.tr (Ext.tr (Ext.tr E101 E103) E105) E107) E139).1 (Nat.le_of_eq g143.symm))) Q167 (Nat.le_trans (Ext.tr (Ext.tr (Ext.tr (Ext.tr E101 E103) E105) E107) E139).1 (Nat.le_of_eq g143.symm))) Q169 (Nat.le_trans (Ext.tr (Ext.tr (Ext.tr (Ext.tr E101 E103) E105) E107) E139).1 (Nat.le_of_eq g143.symm))) Q171 (Nat.le_trans (Ext.tr (Ext.tr (Ext.tr (Ext.tr E101 E103) E105) E107) E139).1 (Nat.le_of_eq g143.symm))) Q173 (Nat.le_trans (Ext.tr (Ext.tr (Ext.tr (Ext.tr E101 E103) E105) E107) E139).1 (Nat.le_of_eq g143.symm))) Q175 (Nat.le_trans (Ext.tr (Ext.tr (Ext.tr (Ext.tr E101 E103) E105) E107) E139).1 (Nat.le_of_eq g143.symm))) Q177 (Nat.le_trans (Ext.tr (Ext.tr (Ext.tr (Ext.tr E101 E103) E105) E107) E139).1 (Nat.le_of_eq g143.symm))) Q179 (Nat.le_trans (Ext.tr (Ext.tr (Ext.tr (Ext.tr E101 E103) E105) E107) E139).1 (Nat.le_of_eq g143.symm))) Q181 (Nat.le_trans (Ext.tr (Ext.tr (Ext.tr (Ext.tr E101 E103) E105) E107) E139).1 (Nat.le_of_eq g143.symm))) Q183 (Nat.le_trans (Ext.tr (Ext.tr (Ext.tr (Ext.tr E101 E103) E105) E107) E139).1 (Nat.le_of_eq g143.symm))) Q185 (Nat.le_trans (Ext.tr (Ext.tr (Ext.tr (Ext.tr E101 E103) E105) E107) E139).1 (Nat.le_of_eq g143.symm))) Q187 (Nat.le_trans (Ext.tr (Ext.tr (Ext.tr (Ext.tr E101 E103) E105) E107) E139).1 (Nat.le_of_eq g143.symm))) Q189 (Nat.le_trans (Ext.tr (Ext.tr (Ext.tr (Ext.tr E101 E103) E105) E107) E139).1 (Nat.le_of_eq g143.symm))) Q191 (Nat.le_trans (Ext.tr (Ext.tr (Ext.tr (Ext.tr E101 E103) E105) E107) E139).1 (Nat.le_of_eq g143.symm))) Q193 (Nat.le_trans (Ext.tr (Ext.tr (Ext.tr (Ext.tr E101 E103) E105) E107) E139).1 (Nat.le_of_eq g143.symm))) Q195 (Nat.le_trans (Ext.tr (Ext.tr (Ext.tr (Ext.tr E101 E103) E105) E107) E139).1 (Nat.le_of_eq g143.symm))) Q197 (Nat.le_trans (Ext.tr (Ext.tr (Ext.tr (Ext.tr E101 E103) E105) E107) E139).1 (Nat.le_of_eq g143.symm))) Q199 (Nat.le_trans (Ext.tr (Ext.tr (Ext.tr (Ext.tr E101 E103) E105) E107) E139).1 (Nat.le_of_eq g143.symm))) Q201 (Nat.le_trans (Ext.tr (Ext.tr (Ext.tr (Ext.tr E101 E103) E105) E107) E139).1 (Nat.le_of_eq g143.symm))) Q203 (Nat.le_trans (Ext.tr (Ext.tr (Ext.tr (Ext.tr E101 E103) E105) E107) E139).1 (Nat.le_of_eq g143.symm))) Q205 (Nat.le_trans (Ext.tr (Ext.tr (Ext.tr (Ext.tr E101 E103) E105) E107) E139).1 (Nat.le_of_eq g143.symm))) Q207 (Nat.le_trans (Ext.tr (Ext.tr (Ext.tr (Ext.tr E101 E103) E105) E107) E139).1 (Nat.le_of_eq g143.symm))) Q209 (Nat.le_trans (Ext.tr (Ext.tr (Ext.tr (Ext.tr E101 E103) E105) E107) E139).1 (Nat.le_of_eq g143.symm))) Q211 (Nat.le_trans (Ext.tr (Ext.tr (Ext.tr (Ext.tr E101 E103) E105) E107) E139).1 (Nat.le_of_eq g143.symm))) Q213 (Nat.le_trans (Ext.tr (Ext.tr (Ext.tr (Ext.tr E101 E103) E105) E107) E139).1 (Nat.le_of_eq g143.symm))) Q215 (Nat.le_trans (Ext.tr (Ext.tr (Ext.tr (Ext.tr E101 E103) E105) E107) E139).1 (Nat.le_of_eq g143.symm))) Q217 (Nat.le_trans (Ext.tr (Ext.tr (Ext.tr (Ext.tr E101 E103) E105) E107) E139).1 (Nat.le_of_eq g143.symm))) Q219 (Nat.le_trans (Ext.tr (Ext.tr (Ext.tr (Ext.tr E101 E103) E105) E107) E139).1 (Nat.le_of_eq g143.symm))) Q221 (Nat.le_trans (Ext.tr (Ext.tr (Ext.tr (Ext.tr E101 E103) E105) E107) E139).1 (Nat.le_of_eq g143.symm))) Q223 (Nat.le_trans (Ext.tr (Ext.tr (Ext.tr (Ext.tr E101 E103) E105) E107) E139).1 (Nat.le_of_eq g143.symm))) Q225 (Nat.le_trans (Ext.tr (Ext.tr (Ext.tr (Ext.tr E101 E103) E105) E107) E139).1 (Nat.le_of_eq g143.symm))) Q227 (Nat.le_trans (Ext.tr (Ext.tr (Ext.tr (Ext.tr E101 E103) E105) E107) E139).1 (Nat.le_of_eq g143.symm))) Q229 (Nat.le_trans (Ext.tr (Ext.tr (Ext.tr (Ext.tr E101 E103) E105) E107) E139).1 (Nat.le_of_eq g143.symm))) Q231 (Nat.le_trans (Ext.tr (Ext.tr (Ext.tr (Ext.tr E101 E103) E105) E107) E139).1 (Nat.le_of_eq g143.symm))) Q233 (Nat.le_trans (Ext.tr (Ext.tr (Ext.tr (Ext.tr E101 E103) E105) E107) E139).1 (Nat.le_of_eq g143.symm))) Q235 (Nat.le_trans (Ext.tr (Ext.tr (Ext.tr (Ext.tr E101 E103) E105) E107) E139).1 (Nat.le_of_eq g143.symm))) Q237 (Nat.le_trans (Ext.tr (Ext.tr (Ext.tr (Ext.tr E101 E103) E105) E107) E139).1 (Nat.le_of_eq g143.symm))) Q239 (Nat.le_trans (Ext.tr (Ext.tr (Ext.tr (Ext.tr E101 E103) E105) E107) E139).1 (Nat.le_of_eq g143.symm))) Q241 (Nat.le_trans (Ext.tr (Ext.tr (Ext.tr (Ext.tr E101 E103) E105) E107) E139).1 (Nat.le_of_eq g143.symm))) Q243 (Nat.le_trans (Ext.tr (Ext.tr (Ext.tr (Ext.tr E101 E103) E105) E107) E139).1 (Nat.le_of_eq g143.symm))) Q245 (Nat.le_trans (Ext.tr (Ext.tr (Ext.tr (Ext.tr E101 E103) E105) E107) E139).1 (Nat.le_of_eq g143.symm))) Q247 (Nat.le_trans (Ext.tr (Ext.tr (Ext.tr (Ext.tr E101 E103) E105) E107) E139).1 (Nat.le_of_eq g143.symm))) Q249 (Nat.le_trans (Ext.tr (Ext.tr (Ext.tr (Ext.tr E101 E103) E105) E107) E139).1 (Nat.le_of_eq g143.symm))) Q251 (Nat.le_trans (Ext.tr (Ext.tr (Ext.tr (Ext.tr E101 E103) E105) E107) E139).1 (Nat.le_of_eq g143.symm))) Q253 (Nat.le_trans (Ext.tr (Ext.tr (Ext.tr (Ext.tr E101 E103) E105) E107) E139).1 (Nat.le_of_eq g143.symm))) Q255 (Nat.le_trans (Ext.tr (Ext.tr (Ext.tr (Ext.tr E101 E103) E105) E107) E139).1 (Nat.le_of_eq g143.symm))) Q257 (Nat.le_trans (Ext.tr (Ext.tr (Ext.tr (Ext.tr E101 E103) E105) E107) E139).1 (Nat.le_of_eq g143.symm))) Q259 (Nat.le_trans (Ext.tr (Ext.tr (Ext.tr (Ext.tr E101 E103) E105) E107) E139).1 (Nat.le_of_eq g143.symm))) Q261 (Nat.le_trans (Ext.tr (Ext.tr (Ext.tr (Ext.tr E101 E103) E105) E107) E139).1 (Nat.le_of_eq g143.symm))) Q263 (Nat.le_trans (Ext.tr (Ext.tr (Ext.tr (Ext.tr E101 E103) E105) E107) E139).1 (Nat.le_of_eq g143.symm))) Q265 (Nat.le_trans (Ext.tr (Ext.tr (Ext.tr (Ext.tr E101 E103) E105) E107) E139).1 (Nat.le_of_eq g143.symm))) Q267 (Nat.le_trans (Ext.tr (Ext.tr (Ext.tr (Ext.tr E101 E103) E105) E107) E139).1 (Nat.le_of_eq g143.symm))) Q269 (Nat.le_trans (Ext.tr (Ext.tr (Ext.tr (Ext.tr E101 E103) E105) E107) E139).1 (Nat.le_of_eq g143.symm))) Q271 (Nat.le_trans (Ext.tr (Ext.tr (Ext.tr (Ext.tr E101 E103) E105) E107) E139).1 (Nat.le_of_eq g143.symm))) Q273 (Nat.le_trans (Ext.tr (Ext.tr (Ext.tr E101 E103) E105) E107).1 (Nat.le_of_eq g139.symm))) E275)) hz fm (Sf.ext (Ext.tr (Ext.kp1 (Ext.kp1 (Ext.kp1 (Ext.kp1 (Ext.kp1 (Ext.kp1 (Ext.kp1 (Ext.kp1 (Ext.kp1 (Ext.kp1 (Ext.kp1 (Ext.kp1 (Ext.kp1 (Ext.kp1 (Ext.kp1 (Ext.kp1 (Ext.kp1 (Ext.kp1 (Ext.kp1 (Ext.kp1 (Ext.kp1 (Ext.kp1 (Ext.kp1 (Ext.kp1 (Ext.kp1 (Ext.kp1 (Ext.kp1 (Ext.kp1 (Ext.kp1 (Ext.kp1 (Ext.kp1 (Ext.kp1 (Ext.kp1 (Ext.kp1 (Ext.kp1 (Ext.kp1 (Ext.kp1 (Ext.kp1 (Ext.kp1 (Ext.kp1 (Ext.kp1 (Ext.kp1 (Ext.kp1 (Ext.kp1 (Ext.kp1 (Ext.kp1 (Ext.kp1 (Ext.kp1 (Ext.kp1 (Ext.kp1 (Ext.kp1 (Ext.kp1 (Ext.kp1 (Ext.kp1 (Ext.kp1 (Ext.kp1 (Ext.kp1 (Ext.kp1 (Ext.kp1 (Ext.kp1 (Ext.kp1 (Ext.kp1 (Ext.kp1 (Ext.kp1 (Ext.kp1 (Ext.tr (Ext.tr (Ext.tr (Ext.tr (Ext.tr E101 E103) E105) E107) E139) E143) Q145 (Nat.le_trans (Ext.tr (Ext.tr (Ext.tr (Ext.tr E101 E103) E105) E107) E139).1 (Nat.le_of_eq g143.symm))) Q147 (Nat.le_trans (Ext.tr (Ext.tr (Ext.tr (Ext.tr E101 E103) E105) E107) E139).1 (Nat.le_of_eq g143.symm))) Q149 (Nat.le_trans (Ext.tr (Ext.tr (Ext.tr (Ext.tr E101 E103) E105) E107) E139).1 (Nat.le_of_eq g143.symm))) Q151 (Nat.le_trans (Ext.tr (Ext.tr (Ext.tr (Ext.tr E101 E103) E105) E107) E139).1 (Nat.le_of_eq g143.symm))) Q153 (Nat.le_trans (Ext.tr (Ext.tr (Ext.tr (Ext.tr E101 E103) E105) E107) E139).1 (Nat.le_of_eq g143.symm))) Q155 (Nat.le_trans (Ext.tr (Ext.tr (Ext.tr (Ext.tr E101 E103) E105) E107) E139).1 (Nat.le_of_eq g143.symm))) Q157 (Nat.le_trans (Ext.tr (Ext.tr (Ext.tr (Ext.tr E101 E103) E105) E107) E139).1 (Nat.le_of_eq g143.symm))) Q159 (Nat.le_trans (Ext.tr (Ext.tr (Ext.tr (Ext.tr E101 E103) E105) E107) E139).1 (Nat.le_of_eq g143.symm))) Q161 (Nat.le_trans (Ext.tr (Ext.tr (Ext.tr (Ext.tr E101 E103) E105) E107) E139).1 (Nat.le_of_eq g143.symm))) Q163 (Nat.le_trans (Ext.tr (Ext.tr (Ext.tr (Ext.tr E101 E103) E105) E107) E139).1 (Nat.le_of_eq g143.symm))) Q165 (Nat.le_trans (Ext.tr (Ext.tr (Ext.tr (Ext.tr E101 E103) E105) E107) E139).1 (Nat.le_of_eq g143.symm))) Q167 (Nat.le_trans (Ext.tr (Ext.tr (Ext.tr (Ext.tr E101 E103) E105) E107) E139).1 (Nat.le_of_eq g143.symm))) Q169 (Nat.le_trans (Ext.tr (Ext.tr (Ext.tr (Ext.tr E101 E103) E105) E107) E139).1 (Nat.le_of_eq g143.symm))) Q171 (Nat.le_trans (Ext.tr (Ext.tr (Ext.tr (Ext.tr E101 E103) E105) E107) E139).1 (Nat.le_of_eq g143.symm))) Q173 (Nat.le_trans (Ext.tr (Ext.tr (Ext.tr (Ext.tr E101 E103) E105) E107) E139).1 (Nat.le_of_eq g143.symm))) Q175 (Nat.le_trans (Ext.tr (Ext.tr (Ext.tr (Ext.tr E101 E103) E105) E107) E139).1 (Nat.le_of_eq g143.symm))) Q177 (Nat.le_trans (Ext.tr (Ext.tr (Ext.tr (Ext.tr E101 E103) E105) E107) E139).1 (Nat.le_of_eq g143.symm))) Q179 (Nat.le_trans (Ext.tr (Ext.tr (Ext.tr (Ext.tr E101 E103) E105) E107) E139).1 (Nat.le_of_eq g143.symm))) Q181 (Nat.le_trans (Ext.tr (Ext.tr (Ext.tr (Ext.tr E101 E103) E105) E107) E139).1 (Nat.le_of_eq g143.symm))) Q183 (Nat.le_trans (Ext.tr (Ext.tr (Ext.tr (Ext.tr E101 E103) E105) E107) E139).1 (Nat.le_of_eq g143.symm))) Q185 (Nat.le_trans (Ext.tr (Ext.tr (Ext.tr (Ext.tr E101 E103) E105) E107) E139).1 (Nat.le_of_eq g143.symm))) Q187 (Nat.le_trans (Ext.tr (Ext.tr (Ext.tr (Ext.tr E101 E103) E105) E107) E139).1 (Nat.le_of_eq g143.symm))) Q189 (Nat.le_trans (Ext.tr (Ext.tr (Ext.tr (Ext.tr E101 E103) E105) E107) E139).1 (Nat.le_of_eq g143.symm))) Q191 (Nat.le_trans (Ext.tr (Ext.tr (Ext.tr (Ext.tr E101 E103) E105) E107) E139).1 (Nat.le_of_eq g143.symm))) Q193 (Nat.le_trans (Ext.tr (Ext.tr (Ext.tr (Ext.tr E101 E103) E105) E107) E139).1 (Nat.le_of_eq g143.symm))) Q195 (Nat.le_trans (Ext.tr (Ext.tr (Ext.tr (Ext.tr E101 E103) E105) E107) E139).1 (Nat.le_of_eq g143.symm))) Q197 (Nat.le_trans (Ext.tr (Ext.tr (Ext.tr (Ext.tr E101 E103) E105) E107) E139).1 (Nat.le_of_eq g143.symm))) Q199 (Nat.le_trans (Ext.tr (Ext.tr (Ext.tr (Ext.tr E101 E103) E105) E107) E139).1 (Nat.le_of_eq g143.symm))) Q201 (Nat.le_trans (Ext.tr (Ext.tr (Ext.tr (Ext.tr E101 E103) E105) E107) E139).1 (Nat.le_of_eq g143.symm))) Q203 (Nat.le_trans (Ext.tr (Ext.tr (Ext.tr (Ext.tr E101 E103) E105) E107) E139).1 (Nat.le_of_eq g143.symm))) Q205 (Nat.le_trans (Ext.tr (Ext.tr (Ext.tr (Ext.tr E101 E103) E105) E107) E139).1 (Nat.le_of_eq g143.symm))) Q207 (Nat.le_trans (Ext.tr (Ext.tr (Ext.tr (Ext.tr E101 E103) E105) E107) E139).1 (Nat.le_of_eq g143.symm))) Q209 (Nat.le_trans (Ext.tr (Ext.tr (Ext.tr (Ext.tr E101 E103) E105) E107) E139).1 (Nat.le_of_eq g143.symm))) Q211 (Nat.le_trans (Ext.tr (Ext.tr (Ext.tr (Ext.tr E101 E103) E105) E107) E139).1 (Nat.le_of_eq g143.symm))) Q213 (Nat.le_trans (Ext.tr (Ext.tr (Ext.tr (Ext.tr E101 E103) E105) E107) E139).1 (Nat.le_of_eq g143.symm))) Q215 (Nat.le_trans (Ext.tr (Ext.tr (Ext.tr (Ext.tr E101 E103) E105) E107) E139).1 (Nat.le_of_eq g143.symm))) Q217 (Nat.le_trans (Ext.tr (Ext.tr (Ext.tr (Ext.tr E101 E103) E105) E107) E139).1 (Nat.le_of_eq g143.symm))) Q219 (Nat.le_trans (Ext.tr (Ext.tr (Ext.tr (Ext.tr E101 E103) E105) E107) E139).1 (Nat.le_of_eq g143.symm))) Q221 (Nat.le_trans (Ext.tr (Ext.tr (Ext.tr (Ext.tr E101 E103) E105) E107) E139).1 (Nat.le_of_eq g143.symm))) Q223 (Nat.le_trans (Ext.tr (Ext.tr (Ext.tr (Ext.tr E101 E103) E105) E107) E139).1 (Nat.le_of_eq g143.symm))) Q225 (Nat.le_trans (Ext.tr (Ext.tr (Ext.tr (Ext.tr E101 E103) E105) E107) E139).1 (Nat.le_of_eq g143.symm))) Q227 (Nat.le_trans (Ext.tr (Ext.tr (Ext.tr (Ext.tr E101 E103) E105) E107) E139).1 (Nat.le_of_eq g143.symm))) Q229 (Nat.le_trans (Ext.tr (Ext.tr (Ext.tr (Ext.tr E101 E103) E105) E107) E139).1 (Nat.le_of_eq g143.symm))) Q231 (Nat.le_trans (Ext.tr (Ext.tr (Ext.tr (Ext.tr E101 E103) E105) E107) E139).1 (Nat.le_of_eq g143.symm))) Q233 (Nat.le_trans (Ext.tr (Ext.tr (Ext.tr (Ext.tr E101 E103) E105) E107) E139).1 (Nat.le_of_eq g143.symm))) Q235 (Nat.le_trans (Ext.tr (Ext.tr (Ext.tr (Ext.tr E101 E103) E105) E107) E139).1 (Nat.le_of_eq g143.symm))) Q237 (Nat.le_trans (Ext.tr (Ext.tr (Ext.tr (Ext.tr E101 E103) E105) E107) E139).1 (Nat.le_of_eq g143.symm))) Q239 (Nat.le_trans (Ext.tr (Ext.tr (Ext.tr (Ext.tr E101 E103) E105) E107) E139).1 (Nat.le_of_eq g143.symm))) Q241 (Nat.le_trans (Ext.tr (Ext.tr (Ext.tr (Ext.tr E101 E103) E105) E107) E139).1 (Nat.le_of_eq g143.symm))) Q243 (Nat.le_trans (Ext.tr (Ext.tr (Ext.tr (Ext.tr E101 E103) E105) E107) E139).1 (Nat.le_of_eq g143.symm))) Q245 (Nat.le_trans (Ext.tr (Ext.tr (Ext.tr (Ext.tr E101 E103) E105) E107) E139).1 (Nat.le_of_eq g143.symm))) Q247 (Nat.le_trans (Ext.tr (Ext.tr (Ext.tr (Ext.tr E101 E103) E105) E107) E139).1 (Nat.le_of_eq g143.symm))) Q249 (Nat.le_trans (Ext.tr (Ext.tr (Ext.tr (Ext.tr E101 E103) E105) E107) E139).1 (Nat.le_of_eq g143.symm))) Q251 (Nat.le_trans (Ext.tr (Ext.tr (Ext.tr (Ext.tr E101 E103) E105) E107) E139).1 (Nat.le_of_eq g143.symm))) Q253 (Nat.le_trans (Ext.tr (Ext.tr (Ext.tr (Ext.tr E101 E103) E105) E107) E139).1 (Nat.le_of_eq g143.symm))) Q255 (Nat.le_trans (Ext.tr (Ext.tr (Ext.tr (Ext.tr E101 E103) E105) E107) E139).1 (Nat.le_of_eq g143.symm))) Q257 (Nat.le_trans (Ext.tr (Ext.tr (Ext.tr (Ext.tr E101 E103) E105) E107) E139).1 (Nat.le_of_eq g143.symm))) Q259 (Nat.le_trans (Ext.tr (Ext.tr (Ext.tr (Ext.tr E101 E103) E105) E107) E139).1 (Nat.le_of_eq g143.symm))) Q261 (Nat.le_trans (Ext.tr (Ext.tr (Ext.tr (Ext.tr E101 E103) E105) E107) E139).1 (Nat.le_of_eq g143.symm))) Q263 (Nat.le_trans (Ext.tr (Ext.tr (Ext.tr (Ext.tr E101 E103) E105) E107) E139).1 (Nat.le_of_eq g143.symm))) Q265 (Nat.le_trans (Ext.tr (Ext.tr (Ext.tr (Ext.tr E101 E103) E105) E107) E139).1 (Nat.le_of_eq g143.symm))) Q267 (Nat.le_trans (Ext.tr (Ext.tr (Ext.tr (Ext.tr E101 E103) E105) E107) E139).1 (Nat.le_of_eq g143.symm))) Q269 (Nat.le_trans (Ext.tr (Ext.tr (Ext.tr (Ext.tr E101 E103) E105) E107) E139).1 (Nat.le_of_eq g143.symm))) Q271 (Nat.le_trans (Ext.tr (Ext.tr (Ext.tr (Ext.tr E101 E103) E105) E107) E139).1 (Nat.le_of_eq g143.symm))) Q273 (Nat.le_trans (Ext.tr (Ext.tr (Ext.tr E101 E103) E105) E107).1 (Nat.le_of_eq g139.symm))) E275)) rf (Nat.le_of_ble_eq_true rfl)) (hw _ (List.mem_of_getElem? (i := 35) rfl)) (hw _ (List.mem_of_getElem? (i := 34) rfl)) (by decide) (by decide)) (fun _ q => nomatch q) pd8 rfl rfl (Nat.le_of_eq rfl) rfl (by decide) (by decide) (by decide) (fun v277 T277 h277 K277 Q277 q277 => ?_)
    have E277 := Ext.of0 Q277
    have P278 := P276.ext E277
    cases q277
    rw [okF_10, okF_10, okF_10, okF_10, okF_10, okF_10]
    refine gIload K277 L_907 (v := (okF [r0, r1, r2, r3] (1 : Int32))) rfl ?_
    refine gIcmp_ne K277 L_909 (fun q => absurd q (not_not_intro rfl)) (fun q909 => ?_)
    refine gIconst K277 (1 : Int32) L_912 rfl ?_
    refine gGoto K277 L_913 ?_
    refine gRetI K277 hlk hret (by simp) L_917 rfl P278 (by decide) (by decide) ?_
    exact rfl
  · rw [hs]
    refine gIload K107 L_31 (v := (6 : Int32)) rfl ?_
    refine gIconst K107 (5 : Int32) L_33 rfl ?_
    refine gIcmp_ne K107 L_34 (fun q34 => ?_) (fun q => absurd q (by first | decide | (intro hh; cases hh) | simp))
    refine gIload K107 L_446 (v := (6 : Int32)) rfl ?_
    refine gBipush K107 (6 : Int32) L_448 rfl ?_
    refine gIcmp_ne K107 L_450 (fun q => absurd q (by first | decide | (intro hh; cases hh) | simp)) (fun q450 => ?_)
    refine gNew K107 L_453 (hw _ (List.mem_of_getElem? (i := 7) rfl)) (hw _ (List.mem_of_getElem? (i := 8) rfl)) (hw _ (List.mem_of_getElem? (i := 9) rfl)) (by decide) (by decide) (fun T279 h279 x279 K279 E279 g279 A279 D279 ne279 => ?_)
    have P280 := P108.ext E279
    have ge_x279 : h0.size ≤ x279 := by rw [g279]; exact P108.1
    have F281 : Fld Z h279 x279 "java/lang/String" "value" "[B" .null := (D279 (Or.inr (hw _ (List.mem_of_getElem? (i := 23) rfl))) (ty := (.array .byte)) (by decide))
    have F282 : Fld Z h279 x279 "java/lang/String" "coder" "B" (.int (0 : Int32)) := (D279 (Or.inr (hw _ (List.mem_of_getElem? (i := 24) rfl))) (ty := .byte) (by decide))
    refine gDup K279 L_456 rfl ?_
    refine gBipush K279 (65 : Int32) L_457 rfl ?_
    refine gNewarr K279 L_459 (hw _ (List.mem_of_getElem? (i := 10) rfl)) (by decide) 65 (by decide) (by decide) (by decide) (by decide) (fun T283 h283 x283 kA283 K283 E283 g283 A283 ne283 => ?_)
    have P284 := P280.ext E283
    have ge_x283 : h0.size ≤ x283 := by rw [g283]; exact P280.1
    refine gDup K283 L_461 rfl ?_
    refine gIconst K283 (0 : Int32) L_462 rfl ?_
    refine gBipush K283 (49 : Int32) L_463 rfl ?_
    refine gCastore K283 L_465 (List.mem_of_getElem? (i := 0) rfl) A283 rfl (by decide) (by decide) (by decide) (fun T285 h285 K285 Q285 A285 => ?_)
    have P286 := P284.trans Q285 (fun z q => by cases List.mem_singleton.mp q; exact Or.inr ge_x283)
    refine gDup K285 L_466 rfl ?_
    refine gIconst K285 (1 : Int32) L_467 rfl ?_
    refine gBipush K285 (46 : Int32) L_468 rfl ?_
    refine gCastore K285 L_470 (List.mem_of_getElem? (i := 0) rfl) A285 rfl (by decide) (by decide) (by decide) (fun T287 h287 K287 Q287 A287 => ?_)
    have P288 := P286.trans Q287 (fun z q => by cases List.mem_singleton.mp q; exact Or.inr ge_x283)
    refine gDup K287 L_471 rfl ?_
    refine gIconst K287 (2 : Int32) L_472 rfl ?_
    refine gBipush K287 (50 : Int32) L_473 rfl ?_
    refine gCastore K287 L_475 (List.mem_of_getElem? (i := 0) rfl) A287 rfl (by decide) (by decide) (by decide) (fun T289 h289 K289 Q289 A289 => ?_)
    have P290 := P288.trans Q289 (fun z q => by cases List.mem_singleton.mp q; exact Or.inr ge_x283)
    refine gDup K289 L_476 rfl ?_
    refine gIconst K289 (3 : Int32) L_477 rfl ?_
    refine gBipush K289 (51 : Int32) L_478 rfl ?_
    refine gCastore K289 L_480 (List.mem_of_getElem? (i := 0) rfl) A289 rfl (by decide) (by decide) (by decide) (fun T291 h291 K291 Q291 A291 => ?_)
    have P292 := P290.trans Q291 (fun z q => by cases List.mem_singleton.mp q; exact Or.inr ge_x283)
    refine gDup K291 L_481 rfl ?_
    refine gIconst K291 (4 : Int32) L_482 rfl ?_
    refine gBipush K291 (52 : Int32) L_483 rfl ?_
    refine gCastore K291 L_485 (List.mem_of_getElem? (i := 0) rfl) A291 rfl (by decide) (by decide) (by decide) (fun T293 h293 K293 Q293 A293 => ?_)
    have P294 := P292.trans Q293 (fun z q => by cases List.mem_singleton.mp q; exact Or.inr ge_x283)
    refine gDup K293 L_486 rfl ?_
    refine gIconst K293 (5 : Int32) L_487 rfl ?_
    refine gBipush K293 (53 : Int32) L_488 rfl ?_
    refine gCastore K293 L_490 (List.mem_of_getElem? (i := 0) rfl) A293 rfl (by decide) (by decide) (by decide) (fun T295 h295 K295 Q295 A295 => ?_)
    have P296 := P294.trans Q295 (fun z q => by cases List.mem_singleton.mp q; exact Or.inr ge_x283)
    refine gDup K295 L_491 rfl ?_
    refine gBipush K295 (6 : Int32) L_492 rfl ?_
    refine gBipush K295 (46 : Int32) L_494 rfl ?_
    refine gCastore K295 L_496 (List.mem_of_getElem? (i := 0) rfl) A295 rfl (by decide) (by decide) (by decide) (fun T297 h297 K297 Q297 A297 => ?_)
    have P298 := P296.trans Q297 (fun z q => by cases List.mem_singleton.mp q; exact Or.inr ge_x283)
    refine gDup K297 L_497 rfl ?_
    refine gBipush K297 (7 : Int32) L_498 rfl ?_
    refine gBipush K297 (54 : Int32) L_500 rfl ?_
    refine gCastore K297 L_502 (List.mem_of_getElem? (i := 0) rfl) A297 rfl (by decide) (by decide) (by decide) (fun T299 h299 K299 Q299 A299 => ?_)
    have P300 := P298.trans Q299 (fun z q => by cases List.mem_singleton.mp q; exact Or.inr ge_x283)
    refine gDup K299 L_503 rfl ?_
    refine gBipush K299 (8 : Int32) L_504 rfl ?_
    refine gBipush K299 (55 : Int32) L_506 rfl ?_
    refine gCastore K299 L_508 (List.mem_of_getElem? (i := 0) rfl) A299 rfl (by decide) (by decide) (by decide) (fun T301 h301 K301 Q301 A301 => ?_)
    have P302 := P300.trans Q301 (fun z q => by cases List.mem_singleton.mp q; exact Or.inr ge_x283)
    refine gDup K301 L_509 rfl ?_
    refine gBipush K301 (9 : Int32) L_510 rfl ?_
    refine gBipush K301 (56 : Int32) L_512 rfl ?_
    refine gCastore K301 L_514 (List.mem_of_getElem? (i := 0) rfl) A301 rfl (by decide) (by decide) (by decide) (fun T303 h303 K303 Q303 A303 => ?_)
    have P304 := P302.trans Q303 (fun z q => by cases List.mem_singleton.mp q; exact Or.inr ge_x283)
    refine gDup K303 L_515 rfl ?_
    refine gBipush K303 (10 : Int32) L_516 rfl ?_
    refine gBipush K303 (49 : Int32) L_518 rfl ?_
    refine gCastore K303 L_520 (List.mem_of_getElem? (i := 0) rfl) A303 rfl (by decide) (by decide) (by decide) (fun T305 h305 K305 Q305 A305 => ?_)
    have P306 := P304.trans Q305 (fun z q => by cases List.mem_singleton.mp q; exact Or.inr ge_x283)
    refine gDup K305 L_521 rfl ?_
    refine gBipush K305 (11 : Int32) L_522 rfl ?_
    refine gBipush K305 (46 : Int32) L_524 rfl ?_
    refine gCastore K305 L_526 (List.mem_of_getElem? (i := 0) rfl) A305 rfl (by decide) (by decide) (by decide) (fun T307 h307 K307 Q307 A307 => ?_)
    have P308 := P306.trans Q307 (fun z q => by cases List.mem_singleton.mp q; exact Or.inr ge_x283)
    refine gDup K307 L_527 rfl ?_
    refine gBipush K307 (12 : Int32) L_528 rfl ?_
    refine gBipush K307 (50 : Int32) L_530 rfl ?_
    refine gCastore K307 L_532 (List.mem_of_getElem? (i := 0) rfl) A307 rfl (by decide) (by decide) (by decide) (fun T309 h309 K309 Q309 A309 => ?_)
    have P310 := P308.trans Q309 (fun z q => by cases List.mem_singleton.mp q; exact Or.inr ge_x283)
    refine gDup K309 L_533 rfl ?_
    refine gBipush K309 (13 : Int32) L_534 rfl ?_
    refine gBipush K309 (51 : Int32) L_536 rfl ?_
    refine gCastore K309 L_538 (List.mem_of_getElem? (i := 0) rfl) A309 rfl (by decide) (by decide) (by decide) (fun T311 h311 K311 Q311 A311 => ?_)
    have P312 := P310.trans Q311 (fun z q => by cases List.mem_singleton.mp q; exact Or.inr ge_x283)
    refine gDup K311 L_539 rfl ?_
    refine gBipush K311 (14 : Int32) L_540 rfl ?_
    refine gBipush K311 (52 : Int32) L_542 rfl ?_
    refine gCastore K311 L_544 (List.mem_of_getElem? (i := 0) rfl) A311 rfl (by decide) (by decide) (by decide) (fun T313 h313 K313 Q313 A313 => ?_)
    have P314 := P312.trans Q313 (fun z q => by cases List.mem_singleton.mp q; exact Or.inr ge_x283)
    refine gDup K313 L_545 rfl ?_
    refine gBipush K313 (15 : Int32) L_546 rfl ?_
    refine gBipush K313 (53 : Int32) L_548 rfl ?_
    refine gCastore K313 L_550 (List.mem_of_getElem? (i := 0) rfl) A313 rfl (by decide) (by decide) (by decide) (fun T315 h315 K315 Q315 A315 => ?_)
    have P316 := P314.trans Q315 (fun z q => by cases List.mem_singleton.mp q; exact Or.inr ge_x283)
    refine gDup K315 L_551 rfl ?_
    refine gBipush K315 (16 : Int32) L_552 rfl ?_
    refine gBipush K315 (46 : Int32) L_554 rfl ?_
    refine gCastore K315 L_556 (List.mem_of_getElem? (i := 0) rfl) A315 rfl (by decide) (by decide) (by decide) (fun T317 h317 K317 Q317 A317 => ?_)
    have P318 := P316.trans Q317 (fun z q => by cases List.mem_singleton.mp q; exact Or.inr ge_x283)
    refine gDup K317 L_557 rfl ?_
    refine gBipush K317 (17 : Int32) L_558 rfl ?_
    refine gBipush K317 (54 : Int32) L_560 rfl ?_
    refine gCastore K317 L_562 (List.mem_of_getElem? (i := 0) rfl) A317 rfl (by decide) (by decide) (by decide) (fun T319 h319 K319 Q319 A319 => ?_)
    have P320 := P318.trans Q319 (fun z q => by cases List.mem_singleton.mp q; exact Or.inr ge_x283)
    refine gDup K319 L_563 rfl ?_
    refine gBipush K319 (18 : Int32) L_564 rfl ?_
    refine gBipush K319 (55 : Int32) L_566 rfl ?_
    refine gCastore K319 L_568 (List.mem_of_getElem? (i := 0) rfl) A319 rfl (by decide) (by decide) (by decide) (fun T321 h321 K321 Q321 A321 => ?_)
    have P322 := P320.trans Q321 (fun z q => by cases List.mem_singleton.mp q; exact Or.inr ge_x283)
    refine gDup K321 L_569 rfl ?_
    refine gBipush K321 (19 : Int32) L_570 rfl ?_
    refine gBipush K321 (56 : Int32) L_572 rfl ?_
    refine gCastore K321 L_574 (List.mem_of_getElem? (i := 0) rfl) A321 rfl (by decide) (by decide) (by decide) (fun T323 h323 K323 Q323 A323 => ?_)
    have P324 := P322.trans Q323 (fun z q => by cases List.mem_singleton.mp q; exact Or.inr ge_x283)
    refine gDup K323 L_575 rfl ?_
    refine gBipush K323 (20 : Int32) L_576 rfl ?_
    refine gBipush K323 (49 : Int32) L_578 rfl ?_
    refine gCastore K323 L_580 (List.mem_of_getElem? (i := 0) rfl) A323 rfl (by decide) (by decide) (by decide) (fun T325 h325 K325 Q325 A325 => ?_)
    have P326 := P324.trans Q325 (fun z q => by cases List.mem_singleton.mp q; exact Or.inr ge_x283)
    refine gDup K325 L_581 rfl ?_
    refine gBipush K325 (21 : Int32) L_582 rfl ?_
    refine gBipush K325 (46 : Int32) L_584 rfl ?_
    refine gCastore K325 L_586 (List.mem_of_getElem? (i := 0) rfl) A325 rfl (by decide) (by decide) (by decide) (fun T327 h327 K327 Q327 A327 => ?_)
    have P328 := P326.trans Q327 (fun z q => by cases List.mem_singleton.mp q; exact Or.inr ge_x283)
    refine gDup K327 L_587 rfl ?_
    refine gBipush K327 (22 : Int32) L_588 rfl ?_
    refine gBipush K327 (50 : Int32) L_590 rfl ?_
    refine gCastore K327 L_592 (List.mem_of_getElem? (i := 0) rfl) A327 rfl (by decide) (by decide) (by decide) (fun T329 h329 K329 Q329 A329 => ?_)
    have P330 := P328.trans Q329 (fun z q => by cases List.mem_singleton.mp q; exact Or.inr ge_x283)
    refine gDup K329 L_593 rfl ?_
    refine gBipush K329 (23 : Int32) L_594 rfl ?_
    refine gBipush K329 (51 : Int32) L_596 rfl ?_
    refine gCastore K329 L_598 (List.mem_of_getElem? (i := 0) rfl) A329 rfl (by decide) (by decide) (by decide) (fun T331 h331 K331 Q331 A331 => ?_)
    have P332 := P330.trans Q331 (fun z q => by cases List.mem_singleton.mp q; exact Or.inr ge_x283)
    refine gDup K331 L_599 rfl ?_
    refine gBipush K331 (24 : Int32) L_600 rfl ?_
    refine gBipush K331 (52 : Int32) L_602 rfl ?_
    refine gCastore K331 L_604 (List.mem_of_getElem? (i := 0) rfl) A331 rfl (by decide) (by decide) (by decide) (fun T333 h333 K333 Q333 A333 => ?_)
    have P334 := P332.trans Q333 (fun z q => by cases List.mem_singleton.mp q; exact Or.inr ge_x283)
    refine gDup K333 L_605 rfl ?_
    refine gBipush K333 (25 : Int32) L_606 rfl ?_
    refine gBipush K333 (53 : Int32) L_608 rfl ?_
    refine gCastore K333 L_610 (List.mem_of_getElem? (i := 0) rfl) A333 rfl (by decide) (by decide) (by decide) (fun T335 h335 K335 Q335 A335 => ?_)
    have P336 := P334.trans Q335 (fun z q => by cases List.mem_singleton.mp q; exact Or.inr ge_x283)
    refine gDup K335 L_611 rfl ?_
    refine gBipush K335 (26 : Int32) L_612 rfl ?_
    refine gBipush K335 (46 : Int32) L_614 rfl ?_
    refine gCastore K335 L_616 (List.mem_of_getElem? (i := 0) rfl) A335 rfl (by decide) (by decide) (by decide) (fun T337 h337 K337 Q337 A337 => ?_)
    have P338 := P336.trans Q337 (fun z q => by cases List.mem_singleton.mp q; exact Or.inr ge_x283)
    refine gDup K337 L_617 rfl ?_
    refine gBipush K337 (27 : Int32) L_618 rfl ?_
    refine gBipush K337 (54 : Int32) L_620 rfl ?_
    refine gCastore K337 L_622 (List.mem_of_getElem? (i := 0) rfl) A337 rfl (by decide) (by decide) (by decide) (fun T339 h339 K339 Q339 A339 => ?_)
    have P340 := P338.trans Q339 (fun z q => by cases List.mem_singleton.mp q; exact Or.inr ge_x283)
    refine gDup K339 L_623 rfl ?_
    refine gBipush K339 (28 : Int32) L_624 rfl ?_
    refine gBipush K339 (55 : Int32) L_626 rfl ?_
    refine gCastore K339 L_628 (List.mem_of_getElem? (i := 0) rfl) A339 rfl (by decide) (by decide) (by decide) (fun T341 h341 K341 Q341 A341 => ?_)
    have P342 := P340.trans Q341 (fun z q => by cases List.mem_singleton.mp q; exact Or.inr ge_x283)
    refine gDup K341 L_629 rfl ?_
    refine gBipush K341 (29 : Int32) L_630 rfl ?_
    refine gBipush K341 (56 : Int32) L_632 rfl ?_
    refine gCastore K341 L_634 (List.mem_of_getElem? (i := 0) rfl) A341 rfl (by decide) (by decide) (by decide) (fun T343 h343 K343 Q343 A343 => ?_)
    have P344 := P342.trans Q343 (fun z q => by cases List.mem_singleton.mp q; exact Or.inr ge_x283)
    refine gDup K343 L_635 rfl ?_
    refine gBipush K343 (30 : Int32) L_636 rfl ?_
    refine gBipush K343 (49 : Int32) L_638 rfl ?_
    refine gCastore K343 L_640 (List.mem_of_getElem? (i := 0) rfl) A343 rfl (by decide) (by decide) (by decide) (fun T345 h345 K345 Q345 A345 => ?_)
    have P346 := P344.trans Q345 (fun z q => by cases List.mem_singleton.mp q; exact Or.inr ge_x283)
    refine gDup K345 L_641 rfl ?_
    refine gBipush K345 (31 : Int32) L_642 rfl ?_
    refine gBipush K345 (46 : Int32) L_644 rfl ?_
    refine gCastore K345 L_646 (List.mem_of_getElem? (i := 0) rfl) A345 rfl (by decide) (by decide) (by decide) (fun T347 h347 K347 Q347 A347 => ?_)
    have P348 := P346.trans Q347 (fun z q => by cases List.mem_singleton.mp q; exact Or.inr ge_x283)
    refine gDup K347 L_647 rfl ?_
    refine gBipush K347 (32 : Int32) L_648 rfl ?_
    refine gBipush K347 (50 : Int32) L_650 rfl ?_
    refine gCastore K347 L_652 (List.mem_of_getElem? (i := 0) rfl) A347 rfl (by decide) (by decide) (by decide) (fun T349 h349 K349 Q349 A349 => ?_)
    have P350 := P348.trans Q349 (fun z q => by cases List.mem_singleton.mp q; exact Or.inr ge_x283)
    refine gDup K349 L_653 rfl ?_
    refine gBipush K349 (33 : Int32) L_654 rfl ?_
    refine gBipush K349 (51 : Int32) L_656 rfl ?_
    refine gCastore K349 L_658 (List.mem_of_getElem? (i := 0) rfl) A349 rfl (by decide) (by decide) (by decide) (fun T351 h351 K351 Q351 A351 => ?_)
    have P352 := P350.trans Q351 (fun z q => by cases List.mem_singleton.mp q; exact Or.inr ge_x283)
    refine gDup K351 L_659 rfl ?_
    refine gBipush K351 (34 : Int32) L_660 rfl ?_
    refine gBipush K351 (52 : Int32) L_662 rfl ?_
    refine gCastore K351 L_664 (List.mem_of_getElem? (i := 0) rfl) A351 rfl (by decide) (by decide) (by decide) (fun T353 h353 K353 Q353 A353 => ?_)
    have P354 := P352.trans Q353 (fun z q => by cases List.mem_singleton.mp q; exact Or.inr ge_x283)
    refine gDup K353 L_665 rfl ?_
    refine gBipush K353 (35 : Int32) L_666 rfl ?_
    refine gBipush K353 (53 : Int32) L_668 rfl ?_
    refine gCastore K353 L_670 (List.mem_of_getElem? (i := 0) rfl) A353 rfl (by decide) (by decide) (by decide) (fun T355 h355 K355 Q355 A355 => ?_)
    have P356 := P354.trans Q355 (fun z q => by cases List.mem_singleton.mp q; exact Or.inr ge_x283)
    refine gDup K355 L_671 rfl ?_
    refine gBipush K355 (36 : Int32) L_672 rfl ?_
    refine gBipush K355 (46 : Int32) L_674 rfl ?_
    refine gCastore K355 L_676 (List.mem_of_getElem? (i := 0) rfl) A355 rfl (by decide) (by decide) (by decide) (fun T357 h357 K357 Q357 A357 => ?_)
    have P358 := P356.trans Q357 (fun z q => by cases List.mem_singleton.mp q; exact Or.inr ge_x283)
    refine gDup K357 L_677 rfl ?_
    refine gBipush K357 (37 : Int32) L_678 rfl ?_
    refine gBipush K357 (54 : Int32) L_680 rfl ?_
    refine gCastore K357 L_682 (List.mem_of_getElem? (i := 0) rfl) A357 rfl (by decide) (by decide) (by decide) (fun T359 h359 K359 Q359 A359 => ?_)
    have P360 := P358.trans Q359 (fun z q => by cases List.mem_singleton.mp q; exact Or.inr ge_x283)
    refine gDup K359 L_683 rfl ?_
    refine gBipush K359 (38 : Int32) L_684 rfl ?_
    refine gBipush K359 (55 : Int32) L_686 rfl ?_
    refine gCastore K359 L_688 (List.mem_of_getElem? (i := 0) rfl) A359 rfl (by decide) (by decide) (by decide) (fun T361 h361 K361 Q361 A361 => ?_)
    have P362 := P360.trans Q361 (fun z q => by cases List.mem_singleton.mp q; exact Or.inr ge_x283)
    refine gDup K361 L_689 rfl ?_
    refine gBipush K361 (39 : Int32) L_690 rfl ?_
    refine gBipush K361 (56 : Int32) L_692 rfl ?_
    refine gCastore K361 L_694 (List.mem_of_getElem? (i := 0) rfl) A361 rfl (by decide) (by decide) (by decide) (fun T363 h363 K363 Q363 A363 => ?_)
    have P364 := P362.trans Q363 (fun z q => by cases List.mem_singleton.mp q; exact Or.inr ge_x283)
    refine gDup K363 L_695 rfl ?_
    refine gBipush K363 (40 : Int32) L_696 rfl ?_
    refine gBipush K363 (49 : Int32) L_698 rfl ?_
    refine gCastore K363 L_700 (List.mem_of_getElem? (i := 0) rfl) A363 rfl (by decide) (by decide) (by decide) (fun T365 h365 K365 Q365 A365 => ?_)
    have P366 := P364.trans Q365 (fun z q => by cases List.mem_singleton.mp q; exact Or.inr ge_x283)
    refine gDup K365 L_701 rfl ?_
    refine gBipush K365 (41 : Int32) L_702 rfl ?_
    refine gBipush K365 (46 : Int32) L_704 rfl ?_
    refine gCastore K365 L_706 (List.mem_of_getElem? (i := 0) rfl) A365 rfl (by decide) (by decide) (by decide) (fun T367 h367 K367 Q367 A367 => ?_)
    have P368 := P366.trans Q367 (fun z q => by cases List.mem_singleton.mp q; exact Or.inr ge_x283)
    refine gDup K367 L_707 rfl ?_
    refine gBipush K367 (42 : Int32) L_708 rfl ?_
    refine gBipush K367 (50 : Int32) L_710 rfl ?_
    refine gCastore K367 L_712 (List.mem_of_getElem? (i := 0) rfl) A367 rfl (by decide) (by decide) (by decide) (fun T369 h369 K369 Q369 A369 => ?_)
    have P370 := P368.trans Q369 (fun z q => by cases List.mem_singleton.mp q; exact Or.inr ge_x283)
    refine gDup K369 L_713 rfl ?_
    refine gBipush K369 (43 : Int32) L_714 rfl ?_
    refine gBipush K369 (51 : Int32) L_716 rfl ?_
    refine gCastore K369 L_718 (List.mem_of_getElem? (i := 0) rfl) A369 rfl (by decide) (by decide) (by decide) (fun T371 h371 K371 Q371 A371 => ?_)
    have P372 := P370.trans Q371 (fun z q => by cases List.mem_singleton.mp q; exact Or.inr ge_x283)
    refine gDup K371 L_719 rfl ?_
    refine gBipush K371 (44 : Int32) L_720 rfl ?_
    refine gBipush K371 (52 : Int32) L_722 rfl ?_
    refine gCastore K371 L_724 (List.mem_of_getElem? (i := 0) rfl) A371 rfl (by decide) (by decide) (by decide) (fun T373 h373 K373 Q373 A373 => ?_)
    have P374 := P372.trans Q373 (fun z q => by cases List.mem_singleton.mp q; exact Or.inr ge_x283)
    refine gDup K373 L_725 rfl ?_
    refine gBipush K373 (45 : Int32) L_726 rfl ?_
    refine gBipush K373 (53 : Int32) L_728 rfl ?_
    refine gCastore K373 L_730 (List.mem_of_getElem? (i := 0) rfl) A373 rfl (by decide) (by decide) (by decide) (fun T375 h375 K375 Q375 A375 => ?_)
    have P376 := P374.trans Q375 (fun z q => by cases List.mem_singleton.mp q; exact Or.inr ge_x283)
    refine gDup K375 L_731 rfl ?_
    refine gBipush K375 (46 : Int32) L_732 rfl ?_
    refine gBipush K375 (46 : Int32) L_734 rfl ?_
    refine gCastore K375 L_736 (List.mem_of_getElem? (i := 0) rfl) A375 rfl (by decide) (by decide) (by decide) (fun T377 h377 K377 Q377 A377 => ?_)
    have P378 := P376.trans Q377 (fun z q => by cases List.mem_singleton.mp q; exact Or.inr ge_x283)
    refine gDup K377 L_737 rfl ?_
    refine gBipush K377 (47 : Int32) L_738 rfl ?_
    refine gBipush K377 (54 : Int32) L_740 rfl ?_
    refine gCastore K377 L_742 (List.mem_of_getElem? (i := 0) rfl) A377 rfl (by decide) (by decide) (by decide) (fun T379 h379 K379 Q379 A379 => ?_)
    have P380 := P378.trans Q379 (fun z q => by cases List.mem_singleton.mp q; exact Or.inr ge_x283)
    refine gDup K379 L_743 rfl ?_
    refine gBipush K379 (48 : Int32) L_744 rfl ?_
    refine gBipush K379 (55 : Int32) L_746 rfl ?_
    refine gCastore K379 L_748 (List.mem_of_getElem? (i := 0) rfl) A379 rfl (by decide) (by decide) (by decide) (fun T381 h381 K381 Q381 A381 => ?_)
    have P382 := P380.trans Q381 (fun z q => by cases List.mem_singleton.mp q; exact Or.inr ge_x283)
    refine gDup K381 L_749 rfl ?_
    refine gBipush K381 (49 : Int32) L_750 rfl ?_
    refine gBipush K381 (56 : Int32) L_752 rfl ?_
    refine gCastore K381 L_754 (List.mem_of_getElem? (i := 0) rfl) A381 rfl (by decide) (by decide) (by decide) (fun T383 h383 K383 Q383 A383 => ?_)
    have P384 := P382.trans Q383 (fun z q => by cases List.mem_singleton.mp q; exact Or.inr ge_x283)
    refine gDup K383 L_755 rfl ?_
    refine gBipush K383 (50 : Int32) L_756 rfl ?_
    refine gBipush K383 (49 : Int32) L_758 rfl ?_
    refine gCastore K383 L_760 (List.mem_of_getElem? (i := 0) rfl) A383 rfl (by decide) (by decide) (by decide) (fun T385 h385 K385 Q385 A385 => ?_)
    have P386 := P384.trans Q385 (fun z q => by cases List.mem_singleton.mp q; exact Or.inr ge_x283)
    refine gDup K385 L_761 rfl ?_
    refine gBipush K385 (51 : Int32) L_762 rfl ?_
    refine gBipush K385 (46 : Int32) L_764 rfl ?_
    refine gCastore K385 L_766 (List.mem_of_getElem? (i := 0) rfl) A385 rfl (by decide) (by decide) (by decide) (fun T387 h387 K387 Q387 A387 => ?_)
    have P388 := P386.trans Q387 (fun z q => by cases List.mem_singleton.mp q; exact Or.inr ge_x283)
    refine gDup K387 L_767 rfl ?_
    refine gBipush K387 (52 : Int32) L_768 rfl ?_
    refine gBipush K387 (50 : Int32) L_770 rfl ?_
    refine gCastore K387 L_772 (List.mem_of_getElem? (i := 0) rfl) A387 rfl (by decide) (by decide) (by decide) (fun T389 h389 K389 Q389 A389 => ?_)
    have P390 := P388.trans Q389 (fun z q => by cases List.mem_singleton.mp q; exact Or.inr ge_x283)
    refine gDup K389 L_773 rfl ?_
    refine gBipush K389 (53 : Int32) L_774 rfl ?_
    refine gBipush K389 (51 : Int32) L_776 rfl ?_
    refine gCastore K389 L_778 (List.mem_of_getElem? (i := 0) rfl) A389 rfl (by decide) (by decide) (by decide) (fun T391 h391 K391 Q391 A391 => ?_)
    have P392 := P390.trans Q391 (fun z q => by cases List.mem_singleton.mp q; exact Or.inr ge_x283)
    refine gDup K391 L_779 rfl ?_
    refine gBipush K391 (54 : Int32) L_780 rfl ?_
    refine gBipush K391 (52 : Int32) L_782 rfl ?_
    refine gCastore K391 L_784 (List.mem_of_getElem? (i := 0) rfl) A391 rfl (by decide) (by decide) (by decide) (fun T393 h393 K393 Q393 A393 => ?_)
    have P394 := P392.trans Q393 (fun z q => by cases List.mem_singleton.mp q; exact Or.inr ge_x283)
    refine gDup K393 L_785 rfl ?_
    refine gBipush K393 (55 : Int32) L_786 rfl ?_
    refine gBipush K393 (53 : Int32) L_788 rfl ?_
    refine gCastore K393 L_790 (List.mem_of_getElem? (i := 0) rfl) A393 rfl (by decide) (by decide) (by decide) (fun T395 h395 K395 Q395 A395 => ?_)
    have P396 := P394.trans Q395 (fun z q => by cases List.mem_singleton.mp q; exact Or.inr ge_x283)
    refine gDup K395 L_791 rfl ?_
    refine gBipush K395 (56 : Int32) L_792 rfl ?_
    refine gBipush K395 (46 : Int32) L_794 rfl ?_
    refine gCastore K395 L_796 (List.mem_of_getElem? (i := 0) rfl) A395 rfl (by decide) (by decide) (by decide) (fun T397 h397 K397 Q397 A397 => ?_)
    have P398 := P396.trans Q397 (fun z q => by cases List.mem_singleton.mp q; exact Or.inr ge_x283)
    refine gDup K397 L_797 rfl ?_
    refine gBipush K397 (57 : Int32) L_798 rfl ?_
    refine gBipush K397 (54 : Int32) L_800 rfl ?_
    refine gCastore K397 L_802 (List.mem_of_getElem? (i := 0) rfl) A397 rfl (by decide) (by decide) (by decide) (fun T399 h399 K399 Q399 A399 => ?_)
    have P400 := P398.trans Q399 (fun z q => by cases List.mem_singleton.mp q; exact Or.inr ge_x283)
    refine gDup K399 L_803 rfl ?_
    refine gBipush K399 (58 : Int32) L_804 rfl ?_
    refine gBipush K399 (55 : Int32) L_806 rfl ?_
    refine gCastore K399 L_808 (List.mem_of_getElem? (i := 0) rfl) A399 rfl (by decide) (by decide) (by decide) (fun T401 h401 K401 Q401 A401 => ?_)
    have P402 := P400.trans Q401 (fun z q => by cases List.mem_singleton.mp q; exact Or.inr ge_x283)
    refine gDup K401 L_809 rfl ?_
    refine gBipush K401 (59 : Int32) L_810 rfl ?_
    refine gBipush K401 (56 : Int32) L_812 rfl ?_
    refine gCastore K401 L_814 (List.mem_of_getElem? (i := 0) rfl) A401 rfl (by decide) (by decide) (by decide) (fun T403 h403 K403 Q403 A403 => ?_)
    have P404 := P402.trans Q403 (fun z q => by cases List.mem_singleton.mp q; exact Or.inr ge_x283)
    refine gDup K403 L_815 rfl ?_
    refine gBipush K403 (60 : Int32) L_816 rfl ?_
    refine gBipush K403 (57 : Int32) L_818 rfl ?_
    refine gCastore K403 L_820 (List.mem_of_getElem? (i := 0) rfl) A403 rfl (by decide) (by decide) (by decide) (fun T405 h405 K405 Q405 A405 => ?_)
    have P406 := P404.trans Q405 (fun z q => by cases List.mem_singleton.mp q; exact Or.inr ge_x283)
    refine gDup K405 L_821 rfl ?_
    refine gBipush K405 (61 : Int32) L_822 rfl ?_
    refine gIload K405 L_824 (v := r0) rfl ?_
    refine gCastore K405 L_826 (List.mem_of_getElem? (i := 0) rfl) A405 rfl (by decide) hb0.1 (ch_up hb0.2) (fun T407 h407 K407 Q407 A407 => ?_)
    have P408 := P406.trans Q407 (fun z q => by cases List.mem_singleton.mp q; exact Or.inr ge_x283)
    refine gDup K407 L_827 rfl ?_
    refine gBipush K407 (62 : Int32) L_828 rfl ?_
    refine gIload K407 L_830 (v := r1) rfl ?_
    refine gCastore K407 L_832 (List.mem_of_getElem? (i := 0) rfl) A407 rfl (by decide) hb1.1 (ch_up hb1.2) (fun T409 h409 K409 Q409 A409 => ?_)
    have P410 := P408.trans Q409 (fun z q => by cases List.mem_singleton.mp q; exact Or.inr ge_x283)
    refine gDup K409 L_833 rfl ?_
    refine gBipush K409 (63 : Int32) L_834 rfl ?_
    refine gIload K409 L_836 (v := r2) rfl ?_
    refine gCastore K409 L_838 (List.mem_of_getElem? (i := 0) rfl) A409 rfl (by decide) hb2.1 (ch_up hb2.2) (fun T411 h411 K411 Q411 A411 => ?_)
    have P412 := P410.trans Q411 (fun z q => by cases List.mem_singleton.mp q; exact Or.inr ge_x283)
    refine gDup K411 L_839 rfl ?_
    refine gBipush K411 (64 : Int32) L_840 rfl ?_
    refine gIload K411 L_842 (v := r3) rfl ?_
    refine gCastore K411 L_844 (List.mem_of_getElem? (i := 0) rfl) A411 rfl (by decide) hb3.1 (ch_up hb3.2) (fun T413 h413 K413 Q413 A413 => ?_)
    have P414 := P412.trans Q413 (fun z q => by cases List.mem_singleton.mp q; exact Or.inr ge_x283)
    have hpp : ∀ c ∈ ([(49 : Int32), (46 : Int32), (50 : Int32), (51 : Int32), (52 : Int32), (53 : Int32), (46 : Int32), (54 : Int32), (55 : Int32), (56 : Int32), (49 : Int32), (46 : Int32), (50 : Int32), (51 : Int32), (52 : Int32), (53 : Int32), (46 : Int32), (54 : Int32), (55 : Int32), (56 : Int32), (49 : Int32), (46 : Int32), (50 : Int32), (51 : Int32), (52 : Int32), (53 : Int32), (46 : Int32), (54 : Int32), (55 : Int32), (56 : Int32), (49 : Int32), (46 : Int32), (50 : Int32), (51 : Int32), (52 : Int32), (53 : Int32), (46 : Int32), (54 : Int32), (55 : Int32), (56 : Int32), (49 : Int32), (46 : Int32), (50 : Int32), (51 : Int32), (52 : Int32), (53 : Int32), (46 : Int32), (54 : Int32), (55 : Int32), (56 : Int32), (49 : Int32), (46 : Int32), (50 : Int32), (51 : Int32), (52 : Int32), (53 : Int32), (46 : Int32), (54 : Int32), (55 : Int32), (56 : Int32), (57 : Int32), r0, r1, r2, r3] : List Int32), ¬ c < 0 ∧ ¬ (255 : Int32) < c := (allI ⟨by decide, by decide⟩ (allI ⟨by decide, by decide⟩ (allI ⟨by decide, by decide⟩ (allI ⟨by decide, by decide⟩ (allI ⟨by decide, by decide⟩ (allI ⟨by decide, by decide⟩ (allI ⟨by decide, by decide⟩ (allI ⟨by decide, by decide⟩ (allI ⟨by decide, by decide⟩ (allI ⟨by decide, by decide⟩ (allI ⟨by decide, by decide⟩ (allI ⟨by decide, by decide⟩ (allI ⟨by decide, by decide⟩ (allI ⟨by decide, by decide⟩ (allI ⟨by decide, by decide⟩ (allI ⟨by decide, by decide⟩ (allI ⟨by decide, by decide⟩ (allI ⟨by decide, by decide⟩ (allI ⟨by decide, by decide⟩ (allI ⟨by decide, by decide⟩ (allI ⟨by decide, by decide⟩ (allI ⟨by decide, by decide⟩ (allI ⟨by decide, by decide⟩ (allI ⟨by decide, by decide⟩ (allI ⟨by decide, by decide⟩ (allI ⟨by decide, by decide⟩ (allI ⟨by decide, by decide⟩ (allI ⟨by decide, by decide⟩ (allI ⟨by decide, by decide⟩ (allI ⟨by decide, by decide⟩ (allI ⟨by decide, by decide⟩ (allI ⟨by decide, by decide⟩ (allI ⟨by decide, by decide⟩ (allI ⟨by decide, by decide⟩ (allI ⟨by decide, by decide⟩ (allI ⟨by decide, by decide⟩ (allI ⟨by decide, by decide⟩ (allI ⟨by decide, by decide⟩ (allI ⟨by decide, by decide⟩ (allI ⟨by decide, by decide⟩ (allI ⟨by decide, by decide⟩ (allI ⟨by decide, by decide⟩ (allI ⟨by decide, by decide⟩ (allI ⟨by decide, by decide⟩ (allI ⟨by decide, by decide⟩ (allI ⟨by decide, by decide⟩ (allI ⟨by decide, by decide⟩ (allI ⟨by decide, by decide⟩ (allI ⟨by decide, by decide⟩ (allI ⟨by decide, by decide⟩ (allI ⟨by decide, by decide⟩ (allI ⟨by decide, by decide⟩ (allI ⟨by decide, by decide⟩ (allI ⟨by decide, by decide⟩ (allI ⟨by decide, by decide⟩ (allI ⟨by decide, by decide⟩ (allI ⟨by decide, by decide⟩ (allI ⟨by decide, by decide⟩ (allI ⟨by decide, by decide⟩ (allI ⟨by decide, by decide⟩ (allI ⟨by decide, by decide⟩ (allI hb0 (allI hb1 (allI hb2 (allI hb3 allI0)))))))))))))))))))))))))))))))))))))))))))))))))))))))))))))))))
    refine gCallI K413 (W := 1) x279 [(.ref x283)] [(.ref x279)] L_845 rfl (hw _ (List.mem_of_getElem? (i := 11) rfl)) (hw _ (List.mem_of_getElem? (i := 12) rfl)) (hw _ (List.mem_of_getElem? (i := 13) rfl)) (cal_strN hw (W := 1) (cs := [(49 : Int32), (46 : Int32), (50 : Int32), (51 : Int32), (52 : Int32), (53 : Int32), (46 : Int32), (54 : Int32), (55 : Int32), (56 : Int32), (49 : Int32), (46 : Int32), (50 : Int32), (51 : Int32), (52 : Int32), (53 : Int32), (46 : Int32), (54 : Int32), (55 : Int32), (56 : Int32), (49 : Int32), (46 : Int32), (50 : Int32), (51 : Int32), (52 : Int32), (53 : Int32), (46 : Int32), (54 : Int32), (55 : Int32), (56 : Int32), (49 : Int32), (46 : Int32), (50 : Int32), (51 : Int32), (52 : Int32), (53 : Int32), (46 : Int32), (54 : Int32), (55 : Int32), (56 : Int32), (49 : Int32), (46 : Int32), (50 : Int32), (51 : Int32), (52 : Int32), (53 : Int32), (46 : Int32), (54 : Int32), (55 : Int32), (56 : Int32), (49 : Int32), (46 : Int32), (50 : Int32), (51 : Int32), (52 : Int32), (53 : Int32), (46 : Int32), (54 : Int32), (55 : Int32), (56 : Int32), (57 : Int32), r0, r1, r2, r3]) 65 (K413.wsge (List.mem_of_getElem? (i := 1) rfl)) K413.n0le (A279.ext (Ext.kp1 (Ext.kp1 (Ext.kp1 (Ext.kp1 (Ext.kp1 (Ext.kp1 (Ext.kp1 (Ext.kp1 (Ext.kp1 (Ext.kp1 (Ext.kp1 (Ext.kp1 (Ext.kp1 (Ext.kp1 (Ext.kp1 (Ext.kp1 (Ext.kp1 (Ext.kp1 (Ext.kp1 (Ext.kp1 (Ext.kp1 (Ext.kp1 (Ext.kp1 (Ext.kp1 (Ext.kp1 (Ext.kp1 (Ext.kp1 (Ext.kp1 (Ext.kp1 (Ext.kp1 (Ext.kp1 (Ext.kp1 (Ext.kp1 (Ext.kp1 (Ext.kp1 (Ext.kp1 (Ext.kp1 (Ext.kp1 (Ext.kp1 (Ext.kp1 (Ext.kp1 (Ext.kp1 (Ext.kp1 (Ext.kp1 (Ext.kp1 (Ext.kp1 (Ext.kp1 (Ext.kp1 (Ext.kp1 (Ext.kp1 (Ext.kp1 (Ext.kp1 (Ext.kp1 (Ext.kp1 (Ext.kp1 (Ext.kp1 (Ext.kp1 (Ext.kp1 (Ext.kp1 (Ext.kp1 (Ext.kp1 (Ext.kp1 (Ext.kp1 (Ext.kp1 (Ext.kp1 E283 Q285 (Nat.le_of_eq g283.symm)) Q287 (Nat.le_of_eq g283.symm)) Q289 (Nat.le_of_eq g283.symm)) Q291 (Nat.le_of_eq g283.symm)) Q293 (Nat.le_of_eq g283.symm)) Q295 (Nat.le_of_eq g283.symm)) Q297 (Nat.le_of_eq g283.symm)) Q299 (Nat.le_of_eq g283.symm)) Q301 (Nat.le_of_eq g283.symm)) Q303 (Nat.le_of_eq g283.symm)) Q305 (Nat.le_of_eq g283.symm)) Q307 (Nat.le_of_eq g283.symm)) Q309 (Nat.le_of_eq g283.symm)) Q311 (Nat.le_of_eq g283.symm)) Q313 (Nat.le_of_eq g283.symm)) Q315 (Nat.le_of_eq g283.symm)) Q317 (Nat.le_of_eq g283.symm)) Q319 (Nat.le_of_eq g283.symm)) Q321 (Nat.le_of_eq g283.symm)) Q323 (Nat.le_of_eq g283.symm)) Q325 (Nat.le_of_eq g283.symm)) Q327 (Nat.le_of_eq g283.symm)) Q329 (Nat.le_of_eq g283.symm)) Q331 (Nat.le_of_eq g283.symm)) Q333 (Nat.le_of_eq g283.symm)) Q335 (Nat.le_of_eq g283.symm)) Q337 (Nat.le_of_eq g283.symm)) Q339 (Nat.le_of_eq g283.symm)) Q341 (Nat.le_of_eq g283.symm)) Q343 (Nat.le_of_eq g283.symm)) Q345 (Nat.le_of_eq g283.symm)) Q347 (Nat.le_of_eq g283.symm)) Q349 (Nat.le_of_eq g283.symm)) Q351 (Nat.le_of_eq g283.symm)) Q353 (Nat.le_of_eq g283.symm)) Q355 (Nat.le_of_eq g283.symm)) Q357 (Nat.le_of_eq g283.symm)) Q359 (Nat.le_of_eq g283.symm)) Q361 (Nat.le_of_eq g283.symm)) Q363 (Nat.le_of_eq g283.symm)) Q365 (Nat.le_of_eq g283.symm)) Q367 (Nat.le_of_eq g283.symm)) Q369 (Nat.le_of_eq g283.symm)) Q371 (Nat.le_of_eq g283.symm)) Q373 (Nat.le_of_eq g283.symm)) Q375 (Nat.le_of_eq g283.symm)) Q377 (Nat.le_of_eq g283.symm)) Q379 (Nat.le_of_eq g283.symm)) Q381 (Nat.le_of_eq g283.symm)) Q383 (Nat.le_of_eq g283.symm)) Q385 (Nat.le_of_eq g283.symm)) Q387 (Nat.le_of_eq g283.symm)) Q389 (Nat.le_of_eq g283.symm)) Q391 (Nat.le_of_eq g283.symm)) Q393 (Nat.le_of_eq g283.symm)) Q395 (Nat.le_of_eq g283.symm)) Q397 (Nat.le_of_eq g283.symm)) Q399 (Nat.le_of_eq g283.symm)) Q401 (Nat.le_of_eq g283.symm)) Q403 (Nat.le_of_eq g283.symm)) Q405 (Nat.le_of_eq g283.symm)) Q407 (Nat.le_of_eq g283.symm)) Q409 (Nat.le_of_eq g283.symm)) Q411 (Nat.le_of_eq g283.symm)) Q413 (Nat.le_of_eq g283.symm))) (F281.ext (Ext.kp1 (Ext.kp1 (Ext.kp1 (Ext.kp1 (Ext.kp1 (Ext.kp1 (Ext.kp1 (Ext.kp1 (Ext.kp1 (Ext.kp1 (Ext.kp1 (Ext.kp1 (Ext.kp1 (Ext.kp1 (Ext.kp1 (Ext.kp1 (Ext.kp1 (Ext.kp1 (Ext.kp1 (Ext.kp1 (Ext.kp1 (Ext.kp1 (Ext.kp1 (Ext.kp1 (Ext.kp1 (Ext.kp1 (Ext.kp1 (Ext.kp1 (Ext.kp1 (Ext.kp1 (Ext.kp1 (Ext.kp1 (Ext.kp1 (Ext.kp1 (Ext.kp1 (Ext.kp1 (Ext.kp1 (Ext.kp1 (Ext.kp1 (Ext.kp1 (Ext.kp1 (Ext.kp1 (Ext.kp1 (Ext.kp1 (Ext.kp1 (Ext.kp1 (Ext.kp1 (Ext.kp1 (Ext.kp1 (Ext.kp1 (Ext.kp1 (Ext.kp1 (Ext.kp1 (Ext.kp1 (Ext.kp1 (Ext.kp1 (Ext.kp1 (Ext.kp1 (Ext.kp1 (Ext.kp1 (Ext.kp1 (Ext.kp1 (Ext.kp1 (Ext.kp1 (Ext.kp1 E283 Q285 (Nat.le_of_eq g283.symm)) Q287 (Nat.le_of_eq g283.symm)) Q289 (Nat.le_of_eq g283.symm)) Q291 (Nat.le_of_eq g283.symm)) Q293 (Nat.le_of_eq g283.symm)) Q295 (Nat.le_of_eq g283.symm)) Q297 (Nat.le_of_eq g283.symm)) Q299 (Nat.le_of_eq g283.symm)) Q301 (Nat.le_of_eq g283.symm)) Q303 (Nat.le_of_eq g283.symm)) Q305 (Nat.le_of_eq g283.symm)) Q307 (Nat.le_of_eq g283.symm)) Q309 (Nat.le_of_eq g283.symm)) Q311 (Nat.le_of_eq g283.symm)) Q313 (Nat.le_of_eq g283.symm)) Q315 (Nat.le_of_eq g283.symm)) Q317 (Nat.le_of_eq g283.symm)) Q319 (Nat.le_of_eq g283.symm)) Q321 (Nat.le_of_eq g283.symm)) Q323 (Nat.le_of_eq g283.symm)) Q325 (Nat.le_of_eq g283.symm)) Q327 (Nat.le_of_eq g283.symm)) Q329 (Nat.le_of_eq g283.symm)) Q331 (Nat.le_of_eq g283.symm)) Q333 (Nat.le_of_eq g283.symm)) Q335 (Nat.le_of_eq g283.symm)) Q337 (Nat.le_of_eq g283.symm)) Q339 (Nat.le_of_eq g283.symm)) Q341 (Nat.le_of_eq g283.symm)) Q343 (Nat.le_of_eq g283.symm)) Q345 (Nat.le_of_eq g283.symm)) Q347 (Nat.le_of_eq g283.symm)) Q349 (Nat.le_of_eq g283.symm)) Q351 (Nat.le_of_eq g283.symm)) Q353 (Nat.le_of_eq g283.symm)) Q355 (Nat.le_of_eq g283.symm)) Q357 (Nat.le_of_eq g283.symm)) Q359 (Nat.le_of_eq g283.symm)) Q361 (Nat.le_of_eq g283.symm)) Q363 (Nat.le_of_eq g283.symm)) Q365 (Nat.le_of_eq g283.symm)) Q367 (Nat.le_of_eq g283.symm)) Q369 (Nat.le_of_eq g283.symm)) Q371 (Nat.le_of_eq g283.symm)) Q373 (Nat.le_of_eq g283.symm)) Q375 (Nat.le_of_eq g283.symm)) Q377 (Nat.le_of_eq g283.symm)) Q379 (Nat.le_of_eq g283.symm)) Q381 (Nat.le_of_eq g283.symm)) Q383 (Nat.le_of_eq g283.symm)) Q385 (Nat.le_of_eq g283.symm)) Q387 (Nat.le_of_eq g283.symm)) Q389 (Nat.le_of_eq g283.symm)) Q391 (Nat.le_of_eq g283.symm)) Q393 (Nat.le_of_eq g283.symm)) Q395 (Nat.le_of_eq g283.symm)) Q397 (Nat.le_of_eq g283.symm)) Q399 (Nat.le_of_eq g283.symm)) Q401 (Nat.le_of_eq g283.symm)) Q403 (Nat.le_of_eq g283.symm)) Q405 (Nat.le_of_eq g283.symm)) Q407 (Nat.le_of_eq g283.symm)) Q409 (Nat.le_of_eq g283.symm)) Q411 (Nat.le_of_eq g283.symm)) Q413 (Nat.le_of_eq g283.symm))) (F282.ext (Ext.kp1 (Ext.kp1 (Ext.kp1 (Ext.kp1 (Ext.kp1 (Ext.kp1 (Ext.kp1 (Ext.kp1 (Ext.kp1 (Ext.kp1 (Ext.kp1 (Ext.kp1 (Ext.kp1 (Ext.kp1 (Ext.kp1 (Ext.kp1 (Ext.kp1 (Ext.kp1 (Ext.kp1 (Ext.kp1 (Ext.kp1 (Ext.kp1 (Ext.kp1 (Ext.kp1 (Ext.kp1 (Ext.kp1 (Ext.kp1 (Ext.kp1 (Ext.kp1 (Ext.kp1 (Ext.kp1 (Ext.kp1 (Ext.kp1 (Ext.kp1 (Ext.kp1 (Ext.kp1 (Ext.kp1 (Ext.kp1 (Ext.kp1 (Ext.kp1 (Ext.kp1 (Ext.kp1 (Ext.kp1 (Ext.kp1 (Ext.kp1 (Ext.kp1 (Ext.kp1 (Ext.kp1 (Ext.kp1 (Ext.kp1 (Ext.kp1 (Ext.kp1 (Ext.kp1 (Ext.kp1 (Ext.kp1 (Ext.kp1 (Ext.kp1 (Ext.kp1 (Ext.kp1 (Ext.kp1 (Ext.kp1 (Ext.kp1 (Ext.kp1 (Ext.kp1 (Ext.kp1 E283 Q285 (Nat.le_of_eq g283.symm)) Q287 (Nat.le_of_eq g283.symm)) Q289 (Nat.le_of_eq g283.symm)) Q291 (Nat.le_of_eq g283.symm)) Q293 (Nat.le_of_eq g283.symm)) Q295 (Nat.le_of_eq g283.symm)) Q297 (Nat.le_of_eq g283.symm)) Q299 (Nat.le_of_eq g283.symm)) Q301 (Nat.le_of_eq g283.symm)) Q303 (Nat.le_of_eq g283.symm)) Q305 (Nat.le_of_eq g283.symm)) Q307 (Nat.le_of_eq g283.symm)) Q309 (Nat.le_of_eq g283.symm)) Q311 (Nat.le_of_eq g283.symm)) Q313 (Nat.le_of_eq g283.symm)) Q315 (Nat.le_of_eq g283.symm)) Q317 (Nat.le_of_eq g283.symm)) Q319 (Nat.le_of_eq g283.symm)) Q321 (Nat.le_of_eq g283.symm)) Q323 (Nat.le_of_eq g283.symm)) Q325 (Nat.le_of_eq g283.symm)) Q327 (Nat.le_of_eq g283.symm)) Q329 (Nat.le_of_eq g283.symm)) Q331 (Nat.le_of_eq g283.symm)) Q333 (Nat.le_of_eq g283.symm)) Q335 (Nat.le_of_eq g283.symm)) Q337 (Nat.le_of_eq g283.symm)) Q339 (Nat.le_of_eq g283.symm)) Q341 (Nat.le_of_eq g283.symm)) Q343 (Nat.le_of_eq g283.symm)) Q345 (Nat.le_of_eq g283.symm)) Q347 (Nat.le_of_eq g283.symm)) Q349 (Nat.le_of_eq g283.symm)) Q351 (Nat.le_of_eq g283.symm)) Q353 (Nat.le_of_eq g283.symm)) Q355 (Nat.le_of_eq g283.symm)) Q357 (Nat.le_of_eq g283.symm)) Q359 (Nat.le_of_eq g283.symm)) Q361 (Nat.le_of_eq g283.symm)) Q363 (Nat.le_of_eq g283.symm)) Q365 (Nat.le_of_eq g283.symm)) Q367 (Nat.le_of_eq g283.symm)) Q369 (Nat.le_of_eq g283.symm)) Q371 (Nat.le_of_eq g283.symm)) Q373 (Nat.le_of_eq g283.symm)) Q375 (Nat.le_of_eq g283.symm)) Q377 (Nat.le_of_eq g283.symm)) Q379 (Nat.le_of_eq g283.symm)) Q381 (Nat.le_of_eq g283.symm)) Q383 (Nat.le_of_eq g283.symm)) Q385 (Nat.le_of_eq g283.symm)) Q387 (Nat.le_of_eq g283.symm)) Q389 (Nat.le_of_eq g283.symm)) Q391 (Nat.le_of_eq g283.symm)) Q393 (Nat.le_of_eq g283.symm)) Q395 (Nat.le_of_eq g283.symm)) Q397 (Nat.le_of_eq g283.symm)) Q399 (Nat.le_of_eq g283.symm)) Q401 (Nat.le_of_eq g283.symm)) Q403 (Nat.le_of_eq g283.symm)) Q405 (Nat.le_of_eq g283.symm)) Q407 (Nat.le_of_eq g283.symm)) Q409 (Nat.le_of_eq g283.symm)) Q411 (Nat.le_of_eq g283.symm)) Q413 (Nat.le_of_eq g283.symm))) A413 (Sc.ext (Ext.kp1 (Ext.kp1 (Ext.kp1 (Ext.kp1 (Ext.kp1 (Ext.kp1 (Ext.kp1 (Ext.kp1 (Ext.kp1 (Ext.kp1 (Ext.kp1 (Ext.kp1 (Ext.kp1 (Ext.kp1 (Ext.kp1 (Ext.kp1 (Ext.kp1 (Ext.kp1 (Ext.kp1 (Ext.kp1 (Ext.kp1 (Ext.kp1 (Ext.kp1 (Ext.kp1 (Ext.kp1 (Ext.kp1 (Ext.kp1 (Ext.kp1 (Ext.kp1 (Ext.kp1 (Ext.kp1 (Ext.kp1 (Ext.kp1 (Ext.kp1 (Ext.kp1 (Ext.kp1 (Ext.kp1 (Ext.kp1 (Ext.kp1 (Ext.kp1 (Ext.kp1 (Ext.kp1 (Ext.kp1 (Ext.kp1 (Ext.kp1 (Ext.kp1 (Ext.kp1 (Ext.kp1 (Ext.kp1 (Ext.kp1 (Ext.kp1 (Ext.kp1 (Ext.kp1 (Ext.kp1 (Ext.kp1 (Ext.kp1 (Ext.kp1 (Ext.kp1 (Ext.kp1 (Ext.kp1 (Ext.kp1 (Ext.kp1 (Ext.kp1 (Ext.kp1 (Ext.kp1 (Ext.tr (Ext.tr (Ext.tr (Ext.tr (Ext.tr E101 E103) E105) E107) E279) E283) Q285 (Nat.le_trans (Ext.tr (Ext.tr (Ext.tr (Ext.tr E101 E103) E105) E107) E279).1 (Nat.le_of_eq g283.symm))) Q287 (Nat.le_trans (Ext.tr (Ext.tr (Ext.tr (Ext.tr E101 E103) E105) E107) E279).1 (Nat.le_of_eq g283.symm))) Q289 (Nat.le_trans (Ext.tr (Ext.tr (Ext.tr (Ext.tr E101 E103) E105) E107) E279).1 (Nat.le_of_eq g283.symm))) Q291 (Nat.le_trans (Ext.tr (Ext.tr (Ext.tr (Ext.tr E101 E103) E105) E107) E279).1 (Nat.le_of_eq g283.symm))) Q293 (Nat.le_trans (Ext.tr (Ext.tr (Ext.tr (Ext.tr E101 E103) E105) E107) E279).1 (Nat.le_of_eq g283.symm))) Q295 (Nat.le_trans (Ext.tr (Ext.tr (Ext.tr (Ext.tr E101 E103) E105) E107) E279).1 (Nat.le_of_eq g283.symm))) Q297 (Nat.le_trans (Ext.tr (Ext.tr (Ext.tr (Ext.tr E101 E103) E105) E107) E279).1 (Nat.le_of_eq g283.symm))) Q299 (Nat.le_trans (Ext.tr (Ext.tr (Ext.tr (Ext.tr E101 E103) E105) E107) E279).1 (Nat.le_of_eq g283.symm))) Q301 (Nat.le_trans (Ext.tr (Ext.tr (Ext.tr (Ext.tr E101 E103) E105) E107) E279).1 (Nat.le_of_eq g283.symm))) Q303 (Nat.le_trans (Ext.tr (Ext.tr (Ext.tr (Ext.tr E101 E103) E105) E107) E279).1 (Nat.le_of_eq g283.symm))) Q305 (Nat.le_trans (Ext.tr (Ext.tr (Ext.tr (Ext.tr E101 E103) E105) E107) E279).1 (Nat.le_of_eq g283.symm))) Q307 (Nat.le_trans (Ext.tr (Ext.tr (Ext.tr (Ext.tr E101 E103) E105) E107) E279).1 (Nat.le_of_eq g283.symm))) Q309 (Nat.le_trans (Ext.tr (Ext.tr (Ext.tr (Ext.tr E101 E103) E105) E107) E279).1 (Nat.le_of_eq g283.symm))) Q311 (Nat.le_trans (Ext.tr (Ext.tr (Ext.tr (Ext.tr E101 E103) E105) E107) E279).1 (Nat.le_of_eq g283.symm))) Q313 (Nat.le_trans (Ext.tr (Ext.tr (Ext.tr (Ext.tr E101 E103) E105) E107) E279).1 (Nat.le_of_eq g283.symm))) Q315 (Nat.le_trans (Ext.tr (Ext.tr (Ext.tr (Ext.tr E101 E103) E105) E107) E279).1 (Nat.le_of_eq g283.symm))) Q317 (Nat.le_trans (Ext.tr (Ext.tr (Ext.tr (Ext.tr E101 E103) E105) E107) E279).1 (Nat.le_of_eq g283.symm))) Q319 (Nat.le_trans (Ext.tr (Ext.tr (Ext.tr (Ext.tr E101 E103) E105) E107) E279).1 (Nat.le_of_eq g283.symm))) Q321 (Nat.le_trans (Ext.tr (Ext.tr (Ext.tr (Ext.tr E101 E103) E105) E107) E279).1 (Nat.le_of_eq g283.symm))) Q323 (Nat.le_trans (Ext.tr (Ext.tr (Ext.tr (Ext.tr E101 E103) E105) E107) E279).1 (Nat.le_of_eq g283.symm))) Q325 (Nat.le_trans (Ext.tr (Ext.tr (Ext.tr (Ext.tr E101 E103) E105) E107) E279).1 (Nat.le_of_eq g283.symm))) Q327 (Nat.le_trans (Ext.tr (Ext.tr (Ext.tr (Ext.tr E101 E103) E105) E107) E279).1 (Nat.le_of_eq g283.symm))) Q329 (Nat.le_trans (Ext.tr (Ext.tr (Ext.tr (Ext.tr E101 E103) E105) E107) E279).1 (Nat.le_of_eq g283.symm))) Q331 (Nat.le_trans (Ext.tr (Ext.tr (Ext.tr (Ext.tr E101 E103) E105) E107) E279).1 (Nat.le_of_eq g283.symm))) Q333 (Nat.le_trans (Ext.tr (Ext.tr (Ext.tr (Ext.tr E101 E103) E105) E107) E279).1 (Nat.le_of_eq g283.symm))) Q335 (Nat.le_trans (Ext.tr (Ext.tr (Ext.tr (Ext.tr E101 E103) E105) E107) E279).1 (Nat.le_of_eq g283.symm))) Q337 (Nat.le_trans (Ext.tr (Ext.tr (Ext.tr (Ext.tr E101 E103) E105) E107) E279).1 (Nat.le_of_eq g283.symm))) Q339 (Nat.le_trans (Ext.tr (Ext.tr (Ext.tr (Ext.tr E101 E103) E105) E107) E279).1 (Nat.le_of_eq g283.symm))) Q341 (Nat.le_trans (Ext.tr (Ext.tr (Ext.tr (Ext.tr E101 E103) E105) E107) E279).1 (Nat.le_of_eq g283.symm))) Q343 (Nat.le_trans (Ext.tr (Ext.tr (Ext.tr (Ext.tr E101 E103) E105) E107) E279).1 (Nat.le_of_eq g283.symm))) Q345 (Nat.le_trans (Ext.tr (Ext.tr (Ext.tr (Ext.tr E101 E103) E105) E107) E279).1 (Nat.le_of_eq g283.symm))) Q347 (Nat.le_trans (Ext.tr (Ext.tr (Ext.tr (Ext.tr E101 E103) E105) E107) E279).1 (Nat.le_of_eq g283.symm))) Q349 (Nat.le_trans (Ext.tr (Ext.tr (Ext.tr (Ext.tr E101 E103) E105) E107) E279).1 (Nat.le_of_eq g283.symm))) Q351 (Nat.le_trans (Ext.tr (Ext.tr (Ext.tr (Ext.tr E101 E103) E105) E107) E279).1 (Nat.le_of_eq g283.symm))) Q353 (Nat.le_trans (Ext.tr (Ext.tr (Ext.tr (Ext.tr E101 E103) E105) E107) E279).1 (Nat.le_of_eq g283.symm))) Q355 (Nat.le_trans (Ext.tr (Ext.tr (Ext.tr (Ext.tr E101 E103) E105) E107) E279).1 (Nat.le_of_eq g283.symm))) Q357 (Nat.le_trans (Ext.tr (Ext.tr (Ext.tr (Ext.tr E101 E103) E105) E107) E279).1 (Nat.le_of_eq g283.symm))) Q359 (Nat.le_trans (Ext.tr (Ext.tr (Ext.tr (Ext.tr E101 E103) E105) E107) E279).1 (Nat.le_of_eq g283.symm))) Q361 (Nat.le_trans (Ext.tr (Ext.tr (Ext.tr (Ext.tr E101 E103) E105) E107) E279).1 (Nat.le_of_eq g283.symm))) Q363 (Nat.le_trans (Ext.tr (Ext.tr (Ext.tr (Ext.tr E101 E103) E105) E107) E279).1 (Nat.le_of_eq g283.symm))) Q365 (Nat.le_trans (Ext.tr (Ext.tr (Ext.tr (Ext.tr E101 E103) E105) E107) E279).1 (Nat.le_of_eq g283.symm))) Q367 (Nat.le_trans (Ext.tr (Ext.tr (Ext.tr (Ext.tr E101 E103) E105) E107) E279).1 (Nat.le_of_eq g283.symm))) Q369 (Nat.le_trans (Ext.tr (Ext.tr (Ext.tr (Ext.tr E101 E103) E105) E107) E279).1 (Nat.le_of_eq g283.symm))) Q371 (Nat.le_trans (Ext.tr (Ext.tr (Ext.tr (Ext.tr E101 E103) E105) E107) E279).1 (Nat.le_of_eq g283.symm))) Q373 (Nat.le_trans (Ext.tr (Ext.tr (Ext.tr (Ext.tr E101 E103) E105) E107) E279).1 (Nat.le_of_eq g283.symm))) Q375 (Nat.le_trans (Ext.tr (Ext.tr (Ext.tr (Ext.tr E101 E103) E105) E107) E279).1 (Nat.le_of_eq g283.symm))) Q377 (Nat.le_trans (Ext.tr (Ext.tr (Ext.tr (Ext.tr E101 E103) E105) E107) E279).1 (Nat.le_of_eq g283.symm))) Q379 (Nat.le_trans (Ext.tr (Ext.tr (Ext.tr (Ext.tr E101 E103) E105) E107) E279).1 (Nat.le_of_eq g283.symm))) Q381 (Nat.le_trans (Ext.tr (Ext.tr (Ext.tr (Ext.tr E101 E103) E105) E107) E279).1 (Nat.le_of_eq g283.symm))) Q383 (Nat.le_trans (Ext.tr (Ext.tr (Ext.tr (Ext.tr E101 E103) E105) E107) E279).1 (Nat.le_of_eq g283.symm))) Q385 (Nat.le_trans (Ext.tr (Ext.tr (Ext.tr (Ext.tr E101 E103) E105) E107) E279).1 (Nat.le_of_eq g283.symm))) Q387 (Nat.le_trans (Ext.tr (Ext.tr (Ext.tr (Ext.tr E101 E103) E105) E107) E279).1 (Nat.le_of_eq g283.symm))) Q389 (Nat.le_trans (Ext.tr (Ext.tr (Ext.tr (Ext.tr E101 E103) E105) E107) E279).1 (Nat.le_of_eq g283.symm))) Q391 (Nat.le_trans (Ext.tr (Ext.tr (Ext.tr (Ext.tr E101 E103) E105) E107) E279).1 (Nat.le_of_eq g283.symm))) Q393 (Nat.le_trans (Ext.tr (Ext.tr (Ext.tr (Ext.tr E101 E103) E105) E107) E279).1 (Nat.le_of_eq g283.symm))) Q395 (Nat.le_trans (Ext.tr (Ext.tr (Ext.tr (Ext.tr E101 E103) E105) E107) E279).1 (Nat.le_of_eq g283.symm))) Q397 (Nat.le_trans (Ext.tr (Ext.tr (Ext.tr (Ext.tr E101 E103) E105) E107) E279).1 (Nat.le_of_eq g283.symm))) Q399 (Nat.le_trans (Ext.tr (Ext.tr (Ext.tr (Ext.tr E101 E103) E105) E107) E279).1 (Nat.le_of_eq g283.symm))) Q401 (Nat.le_trans (Ext.tr (Ext.tr (Ext.tr (Ext.tr E101 E103) E105) E107) E279).1 (Nat.le_of_eq g283.symm))) Q403 (Nat.le_trans (Ext.tr (Ext.tr (Ext.tr (Ext.tr E101 E103) E105) E107) E279).1 (Nat.le_of_eq g283.symm))) Q405 (Nat.le_trans (Ext.tr (Ext.tr (Ext.tr (Ext.tr E101 E103) E105) E107) E279).1 (Nat.le_of_eq g283.symm))) Q407 (Nat.le_trans (Ext.tr (Ext.tr (Ext.tr (Ext.tr E101 E103) E105) E107) E279).1 (Nat.le_of_eq g283.symm))) Q409 (Nat.le_trans (Ext.tr (Ext.tr (Ext.tr (Ext.tr E101 E103) E105) E107) E279).1 (Nat.le_of_eq g283.symm))) Q411 (Nat.le_trans (Ext.tr (Ext.tr (Ext.tr (Ext.tr E101 E103) E105) E107) E279).1 (Nat.le_of_eq g283.symm))) Q413 (Nat.le_trans (Ext.tr (Ext.tr (Ext.tr (Ext.tr E101 E103) E105) E107) E279).1 (Nat.le_of_eq g283.symm)))) hz rfl (by decide) (by decide) hpp (by decide) (by decide)) (fun z q => by cases List.mem_singleton.mp q; exact (List.mem_of_getElem? (i := 1) rfl)) pd2 rfl rfl (Nat.le_of_eq rfl) rfl (by decide) (by decide) (by decide) (fun v415 T415 h415 K415 Q415 q415 => ?_)
    have P416 := P414.trans Q415 (fun z q => by cases List.mem_singleton.mp q; exact Or.inr ge_x279)
    obtain ⟨rfl, St415⟩ := q415
    refine gAstore K415 L_848 rfl (Ls' := #[.val (.int sel), .val (.int x0), .val (.int x1), .val (.int x2), .val (.int x3), .val (.int r0), .val (.int r1), .val (.int r2), .val (.int r3), .val (.int (6 : Int32)), .val (.ref x279), .unset, .unset]) rfl ?_
    refine gIconst K415 (0 : Int32) L_850 rfl ?_
    refine gIstore K415 L_851 (Ls' := #[.val (.int sel), .val (.int x0), .val (.int x1), .val (.int x2), .val (.int x3), .val (.int r0), .val (.int r1), .val (.int r2), .val (.int r3), .val (.int (6 : Int32)), .val (.ref x279), .val (.int (0 : Int32)), .unset]) rfl ?_
    refine gGoto K415 L_853 ?_
    refine gAload K415 L_902 (v := (.ref x279)) rfl rfl ?_
    refine gCallS K415 (W := 0) [(.ref x279)] [] L_904 (hw _ (List.mem_of_getElem? (i := 32) rfl)) (hw _ (List.mem_of_getElem? (i := 33) rfl)) (hw _ (List.mem_of_getElem? (i := 34) rfl)) (hw _ (List.mem_of_getElem? (i := 35) rfl)) (Cal.ofN (W := 0) (c_valid65 l Z a0 hw h415 n0 K415.n0le x279 [(49 : Int32), (46 : Int32), (50 : Int32), (51 : Int32), (52 : Int32), (53 : Int32), (46 : Int32), (54 : Int32), (55 : Int32), (56 : Int32), (49 : Int32), (46 : Int32), (50 : Int32), (51 : Int32), (52 : Int32), (53 : Int32), (46 : Int32), (54 : Int32), (55 : Int32), (56 : Int32), (49 : Int32), (46 : Int32), (50 : Int32), (51 : Int32), (52 : Int32), (53 : Int32), (46 : Int32), (54 : Int32), (55 : Int32), (56 : Int32), (49 : Int32), (46 : Int32), (50 : Int32), (51 : Int32), (52 : Int32), (53 : Int32), (46 : Int32), (54 : Int32), (55 : Int32), (56 : Int32), (49 : Int32), (46 : Int32), (50 : Int32), (51 : Int32), (52 : Int32), (53 : Int32), (46 : Int32), (54 : Int32), (55 : Int32), (56 : Int32), (49 : Int32), (46 : Int32), (50 : Int32), (51 : Int32), (52 : Int32), (53 : Int32), (46 : Int32), (54 : Int32), (55 : Int32), (56 : Int32), (57 : Int32), r0, r1, r2, r3] St415 z (Sc.ext (Ext.kp1 (Ext.kp1 (Ext.kp1 (Ext.kp1 (Ext.kp1 (Ext.kp1 (Ext.kp1 (Ext.kp1 (Ext.kp1 (Ext.kp1 (Ext.kp1 (Ext.kp1 (Ext.kp1 (Ext.kp1 (Ext.kp1 (Ext.kp1 (Ext.kp1 (Ext.kp1 (Ext.kp1 (Ext.kp1 (Ext.kp1 (Ext.kp1 (Ext.kp1 (Ext.kp1 (Ext.kp1 (Ext.kp1 (Ext.kp1 (Ext.kp1 (Ext.kp1 (Ext.kp1 (Ext.kp1 (Ext.kp1 (Ext.kp1 (Ext.kp1 (Ext.kp1 (Ext.kp1 (Ext.kp1 (Ext.kp1 (Ext.kp1 (Ext.kp1 (Ext.kp1 (Ext.kp1 (Ext.kp1 (Ext.kp1 (Ext.kp1 (Ext.kp1 (Ext.kp1 (Ext.kp1 (Ext.kp1 (Ext.kp1 (Ext.kp1 (Ext.kp1 (Ext.kp1 (Ext.kp1 (Ext.kp1 (Ext.kp1 (Ext.kp1 (Ext.kp1 (Ext.kp1 (Ext.kp1 (Ext.kp1 (Ext.kp1 (Ext.kp1 (Ext.kp1 (Ext.kp1 (Ext.kp1 (Ext.tr (Ext.tr (Ext.tr (Ext.tr (Ext.tr E101 E103) E105) E107) E279) E283) Q285 (Nat.le_trans (Ext.tr (Ext.tr (Ext.tr (Ext.tr E101 E103) E105) E107) E279).1 (Nat.le_of_eq g283.symm))) Q287 (Nat.le_trans (Ext.tr (Ext.tr (Ext.tr (Ext.tr E101 E103) E105) E107) E279).1 (Nat.le_of_eq g283.symm))) Q289 (Nat.le_trans (Ext.tr (Ext.tr (Ext.tr (Ext.tr E101 E103) E105) E107) E279).1 (Nat.le_of_eq g283.symm))) Q291 (Nat.le_trans (Ext.tr (Ext.tr (Ext.tr (Ext.tr E101 E103) E105) E107) E279).1 (Nat.le_of_eq g283.symm))) Q293 (Nat.le_trans (Ext.tr (Ext.tr (Ext.tr (Ext.tr E101 E103) E105) E107) E279).1 (Nat.le_of_eq g283.symm))) Q295 (Nat.le_trans (Ext.tr (Ext.tr (Ext.tr (Ext.tr E101 E103) E105) E107) E279).1 (Nat.le_of_eq g283.symm))) Q297 (Nat.le_trans (Ext.tr (Ext.tr (Ext.tr (Ext.tr E101 E103) E105) E107) E279).1 (Nat.le_of_eq g283.symm))) Q299 (Nat.le_trans (Ext.tr (Ext.tr (Ext.tr (Ext.tr E101 E103) E105) E107) E279).1 (Nat.le_of_eq g283.symm))) Q301 (Nat.le_trans (Ext.tr (Ext.tr (Ext.tr (Ext.tr E101 E103) E105) E107) E279).1 (Nat.le_of_eq g283.symm))) Q303 (Nat.le_trans (Ext.tr (Ext.tr (Ext.tr (Ext.tr E101 E103) E105) E107) E279).1 (Nat.le_of_eq g283.symm))) Q305 (Nat.le_trans (Ext.tr (Ext.tr (Ext.tr (Ext.tr E101 E103) E105) E107) E279).1 (Nat.le_of_eq g283.symm))) Q307 (Nat.le_trans (Ext.tr (Ext.tr (Ext.tr (Ext.tr E101 E103) E105) E107) E279).1 (Nat.le_of_eq g283.symm))) Q309 (Nat.le_trans (Ext.tr (Ext.tr (Ext.tr (Ext.tr E101 E103) E105) E107) E279).1 (Nat.le_of_eq g283.symm))) Q311 (Nat.le_trans (Ext.tr (Ext.tr (Ext.tr (Ext.tr E101 E103) E105) E107) E279).1 (Nat.le_of_eq g283.symm))) Q313 (Nat.le_trans (Ext.tr (Ext.tr (Ext.tr (Ext.tr E101 E103) E105) E107) E279).1 (Nat.le_of_eq g283.symm))) Q315 (Nat.le_trans (Ext.tr (Ext.tr (Ext.tr (Ext.tr E101 E103) E105) E107) E279).1 (Nat.le_of_eq g283.symm))) Q317 (Nat.le_trans (Ext.tr (Ext.tr (Ext.tr (Ext.tr E101 E103) E105) E107) E279).1 (Nat.le_of_eq g283.symm))) Q319 (Nat.le_trans (Ext.tr (Ext.tr (Ext.tr (Ext.tr E101 E103) E105) E107) E279).1 (Nat.le_of_eq g283.symm))) Q321 (Nat.le_trans (Ext.tr (Ext.tr (Ext.tr (Ext.tr E101 E103) E105) E107) E279).1 (Nat.le_of_eq g283.symm))) Q323 (Nat.le_trans (Ext.tr (Ext.tr (Ext.tr (Ext.tr E101 E103) E105) E107) E279).1 (Nat.le_of_eq g283.symm))) Q325 (Nat.le_trans (Ext.tr (Ext.tr (Ext.tr (Ext.tr E101 E103) E105) E107) E279).1 (Nat.le_of_eq g283.symm))) Q327 (Nat.le_trans (Ext.tr (Ext.tr (Ext.tr (Ext.tr E101 E103) E105) E107) E279).1 (Nat.le_of_eq g283.symm))) Q329 (Nat.le_trans (Ext.tr (Ext.tr (Ext.tr (Ext.tr E101 E103) E105) E107) E279).1 (Nat.le_of_eq g283.symm))) Q331 (Nat.le_trans (Ext.tr (Ext.tr (Ext.tr (Ext.tr E101 E103) E105) E107) E279).1 (Nat.le_of_eq g283.symm))) Q333 (Nat.le_trans (Ext.tr (Ext.tr (Ext.tr (Ext.tr E101 E103) E105) E107) E279).1 (Nat.le_of_eq g283.symm))) Q335 (Nat.le_trans (Ext.tr (Ext.tr (Ext.tr (Ext.tr E101 E103) E105) E107) E279).1 (Nat.le_of_eq g283.symm))) Q337 (Nat.le_trans (Ext.tr (Ext.tr (Ext.tr (Ext.tr E101 E103) E105) E107) E279).1 (Nat.le_of_eq g283.symm))) Q339 (Nat.le_trans (Ext.tr (Ext.tr (Ext.tr (Ext.tr E101 E103) E105) E107) E279).1 (Nat.le_of_eq g283.symm))) Q341 (Nat.le_trans (Ext.tr (Ext.tr (Ext.tr (Ext.tr E101 E103) E105) E107) E279).1 (Nat.le_of_eq g283.symm))) Q343 (Nat.le_trans (Ext.tr (Ext.tr (Ext.tr (Ext.tr E101 E103) E105) E107) E279).1 (Nat.le_of_eq g283.symm))) Q345 (Nat.le_trans (Ext.tr (Ext.tr (Ext.tr (Ext.tr E101 E103) E105) E107) E279).1 (Nat.le_of_eq g283.symm))) Q347 (Nat.le_trans (Ext.tr (Ext.tr (Ext.tr (Ext.tr E101 E103) E105) E107) E279).1 (Nat.le_of_eq g283.symm))) Q349 (Nat.le_trans (Ext.tr (Ext.tr (Ext.tr (Ext.tr E101 E103) E105) E107) E279).1 (Nat.le_of_eq g283.symm))) Q351 (Nat.le_trans (Ext.tr (Ext.tr (Ext.tr (Ext.tr E101 E103) E105) E107) E279).1 (Nat.le_of_eq g283.symm))) Q353 (Nat.le_trans (Ext.tr (Ext.tr (Ext.tr (Ext.tr E101 E103) E105) E107) E279).1 (Nat.le_of_eq g283.symm))) Q355 (Nat.le_trans (Ext.tr (Ext.tr (Ext.tr (Ext.tr E101 E103) E105) E107) E279).1 (Nat.le_of_eq g283.symm))) Q357 (Nat.le_trans (Ext.tr (Ext.tr (Ext.tr (Ext.tr E101 E103) E105) E107) E279).1 (Nat.le_of_eq g283.symm))) Q359 (Nat.le_trans (Ext.tr (Ext.tr (Ext.tr (Ext.tr E101 E103) E105) E107) E279).1 (Nat.le_of_eq g283.symm))) Q361 (Nat.le_trans (Ext.tr (Ext.tr (Ext.tr (Ext.tr E101 E103) E105) E107) E279).1 (Nat.le_of_eq g283.symm))) Q363 (Nat.le_trans (Ext.tr (Ext.tr (Ext.tr (Ext.tr E101 E103) E105) E107) E279).1 (Nat.le_of_eq g283.symm))) Q365 (Nat.le_trans (Ext.tr (Ext.tr (Ext.tr (Ext.tr E101 E103) E105) E107) E279).1 (Nat.le_of_eq g283.symm))) Q367 (Nat.le_trans (Ext.tr (Ext.tr (Ext.tr (Ext.tr E101 E103) E105) E107) E279).1 (Nat.le_of_eq g283.symm))) Q369 (Nat.le_trans (Ext.tr (Ext.tr (Ext.tr (Ext.tr E101 E103) E105) E107) E279).1 (Nat.le_of_eq g283.symm))) Q371 (Nat.le_trans (Ext.tr (Ext.tr (Ext.tr (Ext.tr E101 E103) E105) E107) E279).1 (Nat.le_of_eq g283.symm))) Q373 (Nat.le_trans (Ext.tr (Ext.tr (Ext.tr (Ext.tr E101 E103) E105) E107) E279).1 (Nat.le_of_eq g283.symm))) Q375 (Nat.le_trans (Ext.tr (Ext.tr (Ext.tr (Ext.tr E101 E103) E105) E107) E279).1 (Nat.le_of_eq g283.symm))) Q377 (Nat.le_trans (Ext.tr (Ext.tr (Ext.tr (Ext.tr E101 E103) E105) E107) E279).1 (Nat.le_of_eq g283.symm))) Q379 (Nat.le_trans (Ext.tr (Ext.tr (Ext.tr (Ext.tr E101 E103) E105) E107) E279).1 (Nat.le_of_eq g283.symm))) Q381 (Nat.le_trans (Ext.tr (Ext.tr (Ext.tr (Ext.tr E101 E103) E105) E107) E279).1 (Nat.le_of_eq g283.symm))) Q383 (Nat.le_trans (Ext.tr (Ext.tr (Ext.tr (Ext.tr E101 E103) E105) E107) E279).1 (Nat.le_of_eq g283.symm))) Q385 (Nat.le_trans (Ext.tr (Ext.tr (Ext.tr (Ext.tr E101 E103) E105) E107) E279).1 (Nat.le_of_eq g283.symm))) Q387 (Nat.le_trans (Ext.tr (Ext.tr (Ext.tr (Ext.tr E101 E103) E105) E107) E279).1 (Nat.le_of_eq g283.symm))) Q389 (Nat.le_trans (Ext.tr (Ext.tr (Ext.tr (Ext.tr E101 E103) E105) E107) E279).1 (Nat.le_of_eq g283.symm))) Q391 (Nat.le_trans (Ext.tr (Ext.tr (Ext.tr (Ext.tr E101 E103) E105) E107) E279).1 (Nat.le_of_eq g283.symm))) Q393 (Nat.le_trans (Ext.tr (Ext.tr (Ext.tr (Ext.tr E101 E103) E105) E107) E279).1 (Nat.le_of_eq g283.symm))) Q395 (Nat.le_trans (Ext.tr (Ext.tr (Ext.tr (Ext.tr E101 E103) E105) E107) E279).1 (Nat.le_of_eq g283.symm))) Q397 (Nat.le_trans (Ext.tr (Ext.tr (Ext.tr (Ext.tr E101 E103) E105) E107) E279).1 (Nat.le_of_eq g283.symm))) Q399 (Nat.le_trans (Ext.tr (Ext.tr (Ext.tr (Ext.tr E101 E103) E105) E107) E279).1 (Nat.le_of_eq g283.symm))) Q401 (Nat.le_trans (Ext.tr (Ext.tr (Ext.tr (Ext.tr E101 E103) E105) E107) E279).1 (Nat.le_of_eq g283.symm))) Q403 (Nat.le_trans (Ext.tr (Ext.tr (Ext.tr (Ext.tr E101 E103) E105) E107) E279).1 (Nat.le_of_eq g283.symm))) Q405 (Nat.le_trans (Ext.tr (Ext.tr (Ext.tr (Ext.tr E101 E103) E105) E107) E279).1 (Nat.le_of_eq g283.symm))) Q407 (Nat.le_trans (Ext.tr (Ext.tr (Ext.tr (Ext.tr E101 E103) E105) E107) E279).1 (Nat.le_of_eq g283.symm))) Q409 (Nat.le_trans (Ext.tr (Ext.tr (Ext.tr (Ext.tr E101 E103) E105) E107) E279).1 (Nat.le_of_eq g283.symm))) Q411 (Nat.le_trans (Ext.tr (Ext.tr (Ext.tr (Ext.tr E101 E103) E105) E107) E279).1 (Nat.le_of_eq g283.symm))) Q413 (Nat.le_trans (Ext.tr (Ext.tr (Ext.tr (Ext.tr E101 E103) E105) E107) E279).1 (Nat.le_of_eq g283.symm))) Q415 (Nat.le_trans (Ext.tr (Ext.tr (Ext.tr E101 E103) E105) E107).1 (Nat.le_of_eq g279.symm)))) hz fm (Sf.ext (Ext.kp1 (Ext.kp1 (Ext.kp1 (Ext.kp1 (Ext.kp1 (Ext.kp1 (Ext.kp1 (Ext.kp1 (Ext.kp1 (Ext.kp1 (Ext.kp1 (Ext.kp1 (Ext.kp1 (Ext.kp1 (Ext.kp1 (Ext.kp1 (Ext.kp1 (Ext.kp1 (Ext.kp1 (Ext.kp1 (Ext.kp1 (Ext.kp1 (Ext.kp1 (Ext.kp1 (Ext.kp1 (Ext.kp1 (Ext.kp1 (Ext.kp1 (Ext.kp1 (Ext.kp1 (Ext.kp1 (Ext.kp1 (Ext.kp1 (Ext.kp1 (Ext.kp1 (Ext.kp1 (Ext.kp1 (Ext.kp1 (Ext.kp1 (Ext.kp1 (Ext.kp1 (Ext.kp1 (Ext.kp1 (Ext.kp1 (Ext.kp1 (Ext.kp1 (Ext.kp1 (Ext.kp1 (Ext.kp1 (Ext.kp1 (Ext.kp1 (Ext.kp1 (Ext.kp1 (Ext.kp1 (Ext.kp1 (Ext.kp1 (Ext.kp1 (Ext.kp1 (Ext.kp1 (Ext.kp1 (Ext.kp1 (Ext.kp1 (Ext.kp1 (Ext.kp1 (Ext.kp1 (Ext.kp1 (Ext.tr (Ext.tr (Ext.tr (Ext.tr (Ext.tr E101 E103) E105) E107) E279) E283) Q285 (Nat.le_trans (Ext.tr (Ext.tr (Ext.tr (Ext.tr E101 E103) E105) E107) E279).1 (Nat.le_of_eq g283.symm))) Q287 (Nat.le_trans (Ext.tr (Ext.tr (Ext.tr (Ext.tr E101 E103) E105) E107) E279).1 (Nat.le_of_eq g283.symm))) Q289 (Nat.le_trans (Ext.tr (Ext.tr (Ext.tr (Ext.tr E101 E103) E105) E107) E279).1 (Nat.le_of_eq g283.symm))) Q291 (Nat.le_trans (Ext.tr (Ext.tr (Ext.tr (Ext.tr E101 E103) E105) E107) E279).1 (Nat.le_of_eq g283.symm))) Q293 (Nat.le_trans (Ext.tr (Ext.tr (Ext.tr (Ext.tr E101 E103) E105) E107) E279).1 (Nat.le_of_eq g283.symm))) Q295 (Nat.le_trans (Ext.tr (Ext.tr (Ext.tr (Ext.tr E101 E103) E105) E107) E279).1 (Nat.le_of_eq g283.symm))) Q297 (Nat.le_trans (Ext.tr (Ext.tr (Ext.tr (Ext.tr E101 E103) E105) E107) E279).1 (Nat.le_of_eq g283.symm))) Q299 (Nat.le_trans (Ext.tr (Ext.tr (Ext.tr (Ext.tr E101 E103) E105) E107) E279).1 (Nat.le_of_eq g283.symm))) Q301 (Nat.le_trans (Ext.tr (Ext.tr (Ext.tr (Ext.tr E101 E103) E105) E107) E279).1 (Nat.le_of_eq g283.symm))) Q303 (Nat.le_trans (Ext.tr (Ext.tr (Ext.tr (Ext.tr E101 E103) E105) E107) E279).1 (Nat.le_of_eq g283.symm))) Q305 (Nat.le_trans (Ext.tr (Ext.tr (Ext.tr (Ext.tr E101 E103) E105) E107) E279).1 (Nat.le_of_eq g283.symm))) Q307 (Nat.le_trans (Ext.tr (Ext.tr (Ext.tr (Ext.tr E101 E103) E105) E107) E279).1 (Nat.le_of_eq g283.symm))) Q309 (Nat.le_trans (Ext.tr (Ext.tr (Ext.tr (Ext.tr E101 E103) E105) E107) E279).1 (Nat.le_of_eq g283.symm))) Q311 (Nat.le_trans (Ext.tr (Ext.tr (Ext.tr (Ext.tr E101 E103) E105) E107) E279).1 (Nat.le_of_eq g283.symm))) Q313 (Nat.le_trans (Ext.tr (Ext.tr (Ext.tr (Ext.tr E101 E103) E105) E107) E279).1 (Nat.le_of_eq g283.symm))) Q315 (Nat.le_trans (Ext.tr (Ext.tr (Ext.tr (Ext.tr E101 E103) E105) E107) E279).1 (Nat.le_of_eq g283.symm))) Q317 (Nat.le_trans (Ext.tr (Ext.tr (Ext.tr (Ext.tr E101 E103) E105) E107) E279).1 (Nat.le_of_eq g283.symm))) Q319 (Nat.le_trans (Ext.tr (Ext.tr (Ext.tr (Ext.tr E101 E103) E105) E107) E279).1 (Nat.le_of_eq g283.symm))) Q321 (Nat.le_trans (Ext.tr (Ext.tr (Ext.tr (Ext.tr E101 E103) E105) E107) E279).1 (Nat.le_of_eq g283.symm))) Q323 (Nat.le_trans (Ext.tr (Ext.tr (Ext.tr (Ext.tr E101 E103) E105) E107) E279).1 (Nat.le_of_eq g283.symm))) Q325 (Nat.le_trans (Ext.tr (Ext.tr (Ext.tr (Ext.tr E101 E103) E105) E107) E279).1 (Nat.le_of_eq g283.symm))) Q327 (Nat.le_trans (Ext.tr (Ext.tr (Ext.tr (Ext.tr E101 E103) E105) E107) E279).1 (Nat.le_of_eq g283.symm))) Q329 (Nat.le_trans (Ext.tr (Ext.tr (Ext.tr (Ext.tr E101 E103) E105) E107) E279).1 (Nat.le_of_eq g283.symm))) Q331 (Nat.le_trans (Ext.tr (Ext.tr (Ext.tr (Ext.tr E101 E103) E105) E107) E279).1 (Nat.le_of_eq g283.symm))) Q333 (Nat.le_trans (Ext.tr (Ext.tr (Ext.tr (Ext.tr E101 E103) E105) E107) E279).1 (Nat.le_of_eq g283.symm))) Q335 (Nat.le_trans (Ext.tr (Ext.tr (Ext.tr (Ext.tr E101 E103) E105) E107) E279).1 (Nat.le_of_eq g283.symm))) Q337 (Nat.le_trans (Ext.tr (Ext.tr (Ext.tr (Ext.tr E101 E103) E105) E107) E279).1 (Nat.le_of_eq g283.symm))) Q339 (Nat.le_trans (Ext.tr (Ext.tr (Ext.tr (Ext.tr E101 E103) E105) E107) E279).1 (Nat.le_of_eq g283.symm))) Q341 (Nat.le_trans (Ext.tr (Ext.tr (Ext.tr (Ext.tr E101 E103) E105) E107) E279).1 (Nat.le_of_eq g283.symm))) Q343 (Nat.le_trans (Ext.tr (Ext.tr (Ext.tr (Ext.tr E101 E103) E105) E107) E279).1 (Nat.le_of_eq g283.symm))) Q345 (Nat.le_trans (Ext.tr (Ext.tr (Ext.tr (Ext.tr E101 E103) E105) E107) E279).1 (Nat.le_of_eq g283.symm))) Q347 (Nat.le_trans (Ext.tr (Ext.tr (Ext.tr (Ext.tr E101 E103) E105) E107) E279).1 (Nat.le_of_eq g283.symm))) Q349 (Nat.le_trans (Ext.tr (Ext.tr (Ext.tr (Ext.tr E101 E103) E105) E107) E279).1 (Nat.le_of_eq g283.symm))) Q351 (Nat.le_trans (Ext.tr (Ext.tr (Ext.tr (Ext.tr E101 E103) E105) E107) E279).1 (Nat.le_of_eq g283.symm))) Q353 (Nat.le_trans (Ext.tr (Ext.tr (Ext.tr (Ext.tr E101 E103) E105) E107) E279).1 (Nat.le_of_eq g283.symm))) Q355 (Nat.le_trans (Ext.tr (Ext.tr (Ext.tr (Ext.tr E101 E103) E105) E107) E279).1 (Nat.le_of_eq g283.symm))) Q357 (Nat.le_trans (Ext.tr (Ext.tr (Ext.tr (Ext.tr E101 E103) E105) E107) E279).1 (Nat.le_of_eq g283.symm))) Q359 (Nat.le_trans (Ext.tr (Ext.tr (Ext.tr (Ext.tr E101 E103) E105) E107) E279).1 (Nat.le_of_eq g283.symm))) Q361 (Nat.le_trans (Ext.tr (Ext.tr (Ext.tr (Ext.tr E101 E103) E105) E107) E279).1 (Nat.le_of_eq g283.symm))) Q363 (Nat.le_trans (Ext.tr (Ext.tr (Ext.tr (Ext.tr E101 E103) E105) E107) E279).1 (Nat.le_of_eq g283.symm))) Q365 (Nat.le_trans (Ext.tr (Ext.tr (Ext.tr (Ext.tr E101 E103) E105) E107) E279).1 (Nat.le_of_eq g283.symm))) Q367 (Nat.le_trans (Ext.tr (Ext.tr (Ext.tr (Ext.tr E101 E103) E105) E107) E279).1 (Nat.le_of_eq g283.symm))) Q369 (Nat.le_trans (Ext.tr (Ext.tr (Ext.tr (Ext.tr E101 E103) E105) E107) E279).1 (Nat.le_of_eq g283.symm))) Q371 (Nat.le_trans (Ext.tr (Ext.tr (Ext.tr (Ext.tr E101 E103) E105) E107) E279).1 (Nat.le_of_eq g283.symm))) Q373 (Nat.le_trans (Ext.tr (Ext.tr (Ext.tr (Ext.tr E101 E103) E105) E107) E279).1 (Nat.le_of_eq g283.symm))) Q375 (Nat.le_trans (Ext.tr (Ext.tr (Ext.tr (Ext.tr E101 E103) E105) E107) E279).1 (Nat.le_of_eq g283.symm))) Q377 (Nat.le_trans (Ext.tr (Ext.tr (Ext.tr (Ext.tr E101 E103) E105) E107) E279).1 (Nat.le_of_eq g283.symm))) Q379 (Nat.le_trans (Ext.tr (Ext.tr (Ext.tr (Ext.tr E101 E103) E105) E107) E279).1 (Nat.le_of_eq g283.symm))) Q381 (Nat.le_trans (Ext.tr (Ext.tr (Ext.tr (Ext.tr E101 E103) E105) E107) E279).1 (Nat.le_of_eq g283.symm))) Q383 (Nat.le_trans (Ext.tr (Ext.tr (Ext.tr (Ext.tr E101 E103) E105) E107) E279).1 (Nat.le_of_eq g283.symm))) Q385 (Nat.le_trans (Ext.tr (Ext.tr (Ext.tr (Ext.tr E101 E103) E105) E107) E279).1 (Nat.le_of_eq g283.symm))) Q387 (Nat.le_trans (Ext.tr (Ext.tr (Ext.tr (Ext.tr E101 E103) E105) E107) E279).1 (Nat.le_of_eq g283.symm))) Q389 (Nat.le_trans (Ext.tr (Ext.tr (Ext.tr (Ext.tr E101 E103) E105) E107) E279).1 (Nat.le_of_eq g283.symm))) Q391 (Nat.le_trans (Ext.tr (Ext.tr (Ext.tr (Ext.tr E101 E103) E105) E107) E279).1 (Nat.le_of_eq g283.symm))) Q393 (Nat.le_trans (Ext.tr (Ext.tr (Ext.tr (Ext.tr E101 E103) E105) E107) E279).1 (Nat.le_of_eq g283.symm))) Q395 (Nat.le_trans (Ext.tr (Ext.tr (Ext.tr (Ext.tr E101 E103) E105) E107) E279).1 (Nat.le_of_eq g283.symm))) Q397 (Nat.le_trans (Ext.tr (Ext.tr (Ext.tr (Ext.tr E101 E103) E105) E107) E279).1 (Nat.le_of_eq g283.symm))) Q399 (Nat.le_trans (Ext.tr (Ext.tr (Ext.tr (Ext.tr E101 E103) E105) E107) E279).1 (Nat.le_of_eq g283.symm))) Q401 (Nat.le_trans (Ext.tr (Ext.tr (Ext.tr (Ext.tr E101 E103) E105) E107) E279).1 (Nat.le_of_eq g283.symm))) Q403 (Nat.le_trans (Ext.tr (Ext.tr (Ext.tr (Ext.tr E101 E103) E105) E107) E279).1 (Nat.le_of_eq g283.symm))) Q405 (Nat.le_trans (Ext.tr (Ext.tr (Ext.tr (Ext.tr E101 E103) E105) E107) E279).1 (Nat.le_of_eq g283.symm))) Q407 (Nat.le_trans (Ext.tr (Ext.tr (Ext.tr (Ext.tr E101 E103) E105) E107) E279).1 (Nat.le_of_eq g283.symm))) Q409 (Nat.le_trans (Ext.tr (Ext.tr (Ext.tr (Ext.tr E101 E103) E105) E107) E279).1 (Nat.le_of_eq g283.symm))) Q411 (Nat.le_trans (Ext.tr (Ext.tr (Ext.tr (Ext.tr E101 E103) E105) E107) E279).1 (Nat.le_of_eq g283.symm))) Q413 (Nat.le_trans (Ext.tr (Ext.tr (Ext.tr (Ext.tr E101 E103) E105) E107) E279).1 (Nat.le_of_eq g283.symm))) Q415 (Nat.le_trans (Ext.tr (Ext.tr (Ext.tr E101 E103) E105) E107).1 (Nat.le_of_eq g279.symm)))) rf (Nat.le_of_ble_eq_true rfl) (Nat.le_of_ble_eq_true rfl)) (hw _ (List.mem_of_getElem? (i := 35) rfl)) (hw _ (List.mem_of_getElem? (i := 34) rfl)) (by decide) (by decide)) (fun _ q => nomatch q) pd8 rfl rfl (Nat.le_of_eq rfl) rfl (by decide) (by decide) (by decide) (fun v417 T417 h417 K417 Q417 q417 => ?_)
    have E417 := Ext.of0 Q417
    have P418 := P416.ext E417
    cases q417
    refine gIload K417 L_907 (v := (0 : Int32)) rfl ?_
    refine gIcmp_ne K417 L_909 (fun q => absurd q (not_not_intro rfl)) (fun q909 => ?_)
    refine gIconst K417 (1 : Int32) L_912 rfl ?_
    refine gGoto K417 L_913 ?_
    refine gRetI K417 hlk hret (by simp) L_917 rfl P418 (by decide) (by decide) ?_
    exact rfl
  · rw [hs]
    refine gIload K107 L_31 (v := (7 : Int32)) rfl ?_
    refine gIconst K107 (5 : Int32) L_33 rfl ?_
    refine gIcmp_ne K107 L_34 (fun q34 => ?_) (fun q => absurd q (by first | decide | (intro hh; cases hh) | simp))
    refine gIload K107 L_446 (v := (7 : Int32)) rfl ?_
    refine gBipush K107 (6 : Int32) L_448 rfl ?_
    refine gIcmp_ne K107 L_450 (fun q450 => ?_) (fun q => absurd q (by first | decide | (intro hh; cases hh) | simp))
    refine gIload K107 L_856 (v := (7 : Int32)) rfl ?_
    refine gBipush K107 (7 : Int32) L_858 rfl ?_
    refine gIcmp_ne K107 L_860 (fun q => absurd q (by first | decide | (intro hh; cases hh) | simp)) (fun q860 => ?_)
    refine gIconst K107 (4 : Int32) L_863 rfl ?_
    refine gGoto K107 L_864 ?_
    refine gIstore K107 L_869 (Ls' := #[.val (.int sel), .val (.int x0), .val (.int x1), .val (.int x2), .val (.int x3), .val (.int r0), .val (.int r1), .val (.int r2), .val (.int r3), .val (.int (7 : Int32)), .unset, .unset, .val (.int (4 : Int32))]) rfl ?_
    refine gIload K107 L_871 (v := (4 : Int32)) rfl ?_
    refine gIload K107 L_873 (v := r0) rfl ?_
    refine gIload K107 L_875 (v := r1) rfl ?_
    refine gIload K107 L_877 (v := r2) rfl ?_
    refine gIload K107 L_879 (v := r3) rfl ?_
    refine gCallS K107 (W := 0) [(.int (4 : Int32)), (.int r0), (.int r1), (.int r2), (.int r3)] [] L_881 (hw _ (List.mem_of_getElem? (i := 4) rfl)) (hw _ (List.mem_of_getElem? (i := 5) rfl)) (hw _ (List.mem_of_getElem? (i := 2) rfl)) (hw _ (List.mem_of_getElem? (i := 6) rfl)) (Cal.ofW (W := 0) (c_short4 l Z a0 hw h107 n0 K107.n0le hE r0 r1 r2 r3 hb0 hb1 hb2 hb3 z (Sc.ext (Ext.tr (Ext.tr (Ext.tr E101 E103) E105) E107)) hz) (hw _ (List.mem_of_getElem? (i := 6) rfl)) (hw _ (List.mem_of_getElem? (i := 2) rfl)) (by decide) (by decide)) (fun _ q => nomatch q) pd6 rfl rfl (Nat.le_of_eq rfl) rfl (by decide) (by decide) (by decide) (fun v419 T419 h419 K419 Q419 q419 => ?_)
    have E419 := Ext.of0 Q419
    have P420 := P108.ext E419
    obtain ⟨xs, rfl, Ss⟩ := q419
    refine gAstore K419 L_884 rfl (Ls' := #[.val (.int sel), .val (.int x0), .val (.int x1), .val (.int x2), .val (.int x3), .val (.int r0), .val (.int r1), .val (.int r2), .val (.int r3), .val (.int (7 : Int32)), .val (.ref xs), .unset, .val (.int (4 : Int32))]) rfl ?_
    refine gIconst K419 (0 : Int32) L_886 rfl ?_
    refine gIload K419 L_887 (v := (4 : Int32)) rfl ?_
    refine gIload K419 L_889 (v := r0) rfl ?_
    refine gIload K419 L_891 (v := r1) rfl ?_
    refine gIload K419 L_893 (v := r2) rfl ?_
    refine gIload K419 L_895 (v := r3) rfl ?_
    refine gCallS K419 (W := 0) [(.int (0 : Int32)), (.int (4 : Int32)), (.int r0), (.int r1), (.int r2), (.int r3)] [] L_897 (hw _ (List.mem_of_getElem? (i := 29) rfl)) (hw _ (List.mem_of_getElem? (i := 30) rfl)) (hw _ (List.mem_of_getElem? (i := 2) rfl)) (hw _ (List.mem_of_getElem? (i := 31) rfl)) (Cal.ofN (W := 0) (c_tail04 l Z a0 hw h419 n0 K419.n0le r0 r1 r2 r3) (hw _ (List.mem_of_getElem? (i := 31) rfl)) (hw _ (List.mem_of_getElem? (i := 2) rfl)) (by decide) (by decide)) (fun _ q => nomatch q) pd7 rfl rfl (Nat.le_of_eq rfl) rfl (by decide) (by decide) (by decide) (fun v421 T421 h421 K421 Q421 q421 => ?_)
    have E421 := Ext.of0 Q421
    have P422 := P420.ext E421
    cases q421
    refine gIstore K421 L_900 (Ls' := #[.val (.int sel), .val (.int x0), .val (.int x1), .val (.int x2), .val (.int x3), .val (.int r0), .val (.int r1), .val (.int r2), .val (.int r3), .val (.int (7 : Int32)), .val (.ref xs), .val (.int (okF [r0, r1, r2, r3] (0 : Int32))), .val (.int (4 : Int32))]) rfl ?_
    refine gAload K421 L_902 (v := (.ref xs)) rfl rfl ?_
    refine gCallS K421 (W := 0) [(.ref xs)] [] L_904 (hw _ (List.mem_of_getElem? (i := 32) rfl)) (hw _ (List.mem_of_getElem? (i := 33) rfl)) (hw _ (List.mem_of_getElem? (i := 34) rfl)) (hw _ (List.mem_of_getElem? (i := 35) rfl)) (Cal.ofN (W := 0) (c_valid l Z a0 hw h421 n0 K421.n0le xs [r0, r1, r2, r3] (Ss.ext E421) z (Sc.ext (Ext.tr (Ext.tr (Ext.tr (Ext.tr (Ext.tr E101 E103) E105) E107) E419) E421)) hz fm (Sf.ext (Ext.tr (Ext.tr (Ext.tr (Ext.tr (Ext.tr E101 E103) E105) E107) E419) E421)) rf (Nat.le_of_ble_eq_true rfl)) (hw _ (List.mem_of_getElem? (i := 35) rfl)) (hw _ (List.mem_of_getElem? (i := 34) rfl)) (by decide) (by decide)) (fun _ q => nomatch q) pd8 rfl rfl (Nat.le_of_eq rfl) rfl (by decide) (by decide) (by decide) (fun v423 T423 h423 K423 Q423 q423 => ?_)
    have E423 := Ext.of0 Q423
    have P424 := P422.ext E423
    cases q423
    refine gIload K423 L_907 (v := (okF [r0, r1, r2, r3] (0 : Int32))) rfl ?_
    refine gIcmp_ne K423 L_909 (fun q => absurd q (not_not_intro rfl)) (fun q909 => ?_)
    refine gIconst K423 (1 : Int32) L_912 rfl ?_
    refine gGoto K423 L_913 ?_
    refine gRetI K423 hlk hret (by simp) L_917 rfl P424 (by decide) (by decide) ?_
    exact rfl
set_option maxRecDepth 65536 in
set_option maxHeartbeats 40000000 in
theorem comes_1 {Post : Tables → Env → Array Value → State → Outcome → State → Prop} (hpost : ∀ tb e args s v u, (limb_1_1.after args s (.returned v) u = true ∧ limb_1_2.after args s (.returned v) u = true ∧ True) → ReturnedEndW s (.returned v) u (Jvm.fieldLocs frame_1_writes args s ++ Jvm.arrayLocs frame_1_arrays args s ++ Jvm.staticLocs frame_1_statics s) 16 1408 → Post tb e args s (.returned v) u) :
    ArmFor flags0 classFile x code maxLocals ret World_1 tables_1 room_1 Calls_1 rest_1 Pre_1 Post := by
  intro l hfl _ _ p e ha hc hk s m args below hf hA hF happ hP
  obtain ⟨hcalls, hrest, hpre⟩ := hP
  obtain ⟨-, -, -, hnamed, -, -, -, hat⟩ := (Spec.applies_iff hf).mp happ
  obtain ⟨hg, hn⟩ := and_e (Cond.before_iff.mp (show (Jvm.Cond.and given_1 narrow_1).before args s = true from hpre))
  obtain ⟨hcount, hg0⟩ := and_e hg
  obtain ⟨ha0, hg1⟩ := and_e hg0
  obtain ⟨ha1, hg2⟩ := and_e hg1
  obtain ⟨ha2, hg3⟩ := and_e hg2
  obtain ⟨ha3, hg4⟩ := and_e hg3
  have ha4 := hg4
  obtain ⟨w0, w1, w2, w3, w4, rfl⟩ : ∃ w0 w1 w2 w3 w4 : Value, args = #[w0, w1, w2, w3, w4] := by
    have hs : args.size = 5 := by simpa [Cond.value, given_1] using hcount
    obtain ⟨L⟩ := args
    match L, hs with
    | [w0, w1, w2, w3, w4], _ => exact ⟨w0, w1, w2, w3, w4, rfl⟩
  have hw := fun d (hd : d ∈ tables_1) => atoms_spec (ws := Jvm.Cond.code x code maxLocals ret :: tables_1) hat d (List.mem_cons_of_mem _ hd)
  obtain ⟨hsets, hown0⟩ := atoms_of _ (rest_1_c_eq ▸ (show rest_1_c.before _ s = true from hrest))
  have hfit : Fit s := fun {y c} hc i hi => by
    obtain ⟨ha, rfl⟩ := Array.getElem?_eq_some_iff.mp hc
    have q := List.all_eq_true.mp ((Array.all_eq_true_iff_forall_mem.mp hF) _ (Array.getElem_mem ha)) i (List.mem_range.mpr hi)
    simpa [Array.getElem?_eq_getElem hi] using q
  obtain ⟨i0, e0⟩ := is_v ha0
  obtain rfl : w0 = (.int i0) := Option.some.inj e0
  obtain ⟨i1, e1⟩ := is_v ha1
  obtain rfl : w1 = (.int i1) := Option.some.inj e1
  obtain ⟨i2, e2⟩ := is_v ha2
  obtain rfl : w2 = (.int i2) := Option.some.inj e2
  obtain ⟨i3, e3⟩ := is_v ha3
  obtain rfl : w3 = (.int i3) := Option.some.inj e3
  obtain ⟨i4, e4⟩ := is_v ha4
  obtain rfl : w4 = (.int i4) := Option.some.inj e4
  obtain ⟨z_COMPACT_STRINGS, ez_COMPACT_STRINGS⟩ := is_v (Cond.before_iff.mp (hsets _ (List.mem_of_getElem? (i := 1) rfl)))
  have S_COMPACT_STRINGS : Sta s s.heap "java/lang/String" "COMPACT_STRINGS" "Z" (.int z_COMPACT_STRINGS) := Sta.start ez_COMPACT_STRINGS (Or.inl (hsets _ (List.mem_of_getElem? (i := 0) rfl)))
  have nz_COMPACT_STRINGS : ¬ (z_COMPACT_STRINGS = (0 : Int32)) := gotF (Cond.eq_ints ez_COMPACT_STRINGS (Term.int_eval (0))) (not_v (Cond.before_iff.mp (hsets _ (List.mem_of_getElem? (i := 2) rfl))))
  obtain ⟨v_SIOOBE_FORMATTER, ez_SIOOBE_FORMATTER, r_SIOOBE_FORMATTER⟩ := isR_v (Cond.before_iff.mp (hsets _ (List.mem_of_getElem? (i := 8) rfl)))
  have S_SIOOBE_FORMATTER : Sta s s.heap "jdk/internal/util/Preconditions" "SIOOBE_FORMATTER" "Ljava/util/function/BiFunction;" v_SIOOBE_FORMATTER := Sta.start ez_SIOOBE_FORMATTER (Or.inl (hsets _ (List.mem_of_getElem? (i := 7) rfl)))
  have hE := (EW.cons (text := "") (hw _ (List.mem_of_getElem? (i := 21) rfl)) (by decide) EW.nil)
  have hCH := CHv.start hE (fun q hq => hcalls.1 q hq) (hsets _ (List.mem_of_getElem? (i := 2) rfl)) (hw _ (List.mem_of_getElem? (i := 22) rfl)) (hw _ (List.mem_of_getElem? (i := 8) rfl))
  obtain ⟨n, o, h1, h2, h3, v, L, rfl, ⟨hv, Kp, N⟩, hq⟩ := (c_law l s _ hw s.heap s.heap.size (Nat.le_refl _) hE i0 i1 i2 i3 i4 z_COMPACT_STRINGS S_COMPACT_STRINGS nz_COMPACT_STRINGS v_SIOOBE_FORMATTER S_SIOOBE_FORMATTER r_SIOOBE_FORMATTER).asW p e ha hc hk s m _ below hf ((Spec.applies_iff_loose hf).mp happ).1 ⟨rfl, State.Warmed39.refl s, rfl, hCH, (fun _ q => nomatch q)⟩ trivial
  subst hv
  refine ⟨n, _, h1, h2, h3, hpost _ _ _ _ _ _ ⟨Cond.after_iff.mpr rfl, Cond.after_iff.mpr (eq_i res_at (Term.int_eval (1)) rfl), trivial⟩ ⟨hq.2.1, hq.2.2.1, hq.2.2.2.1, (hq.2.2.2.2.sift fun y hy => Or.inr (N y hy)).mono (by decide) (by decide)⟩⟩
theorem main_1_1 : Claimed_1_1 := comes_1 fun _ _ _ _ _ _ h hF => ⟨h.1, hF⟩
theorem main_1_2 : Claimed_1_2 := comes_1 fun _ _ _ _ _ _ h hF => ⟨h.2.1, hF⟩

end Jvm.Pilot.@@N@@
namespace Jvm.Pilot.@@N@@
open Jvm Jvm.ClassFile Sem Op Lib Jvm.Free Jvm.Stand Jvm.Pilot.@@N@@.Jvm.D
/-! MADE BY PROGRAM (witnessworld.py) out of the Statement's table words and the real class files: 20 classes; the members and pool entries that the words name. The judged class is class 1, her method 1. -/
namespace start1
open Jvm.ClassFile
def u (s : String) : CpInfo := .utf8 (stringToUtf16 s)
/-- a pool by its gaps: so many unusable entries, then the entry; so many at the end -/
def gap : Nat → List CpInfo → List CpInfo
  | 0, r => r
  | n + 1, r => .unusable :: gap n r
def poolList (es : List (Nat × CpInfo)) (last : Nat) : List CpInfo := es.foldr (fun e r => gap e.1 (e.2 :: r)) (gap last [])
def pool (es : List (Nat × CpInfo)) (last : Nat) : Array CpInfo := ⟨poolList es last⟩
def fileOf (pool : Array CpInfo) (this : Nat) (attrs : Array Attribute := #[]) (ms : Array MethodInfo := #[]) (fl : Nat := 33) (sup : Nat := 0) (ifs : Array Nat := #[]) (fds : Array FieldInfo := #[]) : ClassFile where
  minorVersion := 0
  majorVersion := 65
  constantPool := pool
  accessFlags := fl
  thisClass := this
  superClass := sup
  interfaces := ifs
  fields := fds
  methods := ms
  attributes := attrs
def plain (name : String) (sup : Option ClassId) : Class where
  name := name
  kind := .ordinary
  loader := none
  accessFlags := 33
  super := sup
  interfaces := #[]
  cf := none
  fields := #[]
  methods := #[]
  instanceTypes := #[]
  staticTypes := #[]
  resolved := #[]
  callSites := []
  init := .initialized
  statics := none
  mirror := none

def pool0 : Array CpInfo := pool [(5, u "<init>"), (0, u "()V"), (1, .class_ 10), (1, u "java/lang/Object")] 113

def k0c0 : Code := { maxStack := 0, maxLocals := 1, code := object_method_1_code, exceptionTable := #[], attributes := #[] }
def k0m0 : Method := { name := "<init>", desc := "()V", sig := { parameters := [], returnType := none }, accessFlags := 1, code := some k0c0 }
/-- java/lang/Object -/
def k0 : Class := { plain "java/lang/Object" none with
  accessFlags := 33
  interfaces := #[]
  cf := some (fileOf pool0 8 #[] #[{ accessFlags := 1, nameIndex := 5, descriptorIndex := 6, attributes := #[] }] 33 0 #[] #[])
  fields := #[]
  methods := #[k0m0]
  instanceTypes := #[]
  staticTypes := #[]
  resolved := Array.replicate 124 none
  statics := none }

def pool1 : Array CpInfo := pool [(2, .class_ 4), (1, u "java/lang/Object"), (0, u "<init>"), (0, u "()V"), (0, .methodref 8 9), (0, .class_ 10), (0, .nameAndType 11 12), (0, u "com/example/stowage/stowage/dicom/UidIsValidPinLaw"), (0, u "ch"), (0, u "(I)C"), (0, .class_ 14), (0, u "java/lang/String"), (0, .methodref 13 16), (0, .nameAndType 5 17), (0, u "([C)V"), (0, .methodref 8 19), (0, .nameAndType 20 21), (0, u "tailOk"), (0, u "(ZICCCC)Z"), (0, .methodref 8 23), (0, .nameAndType 24 25), (0, u "shortText"), (0, u "(ICCCC)Ljava/lang/String;"), (0, .methodref 27 28), (0, .class_ 29), (0, .nameAndType 30 31), (0, u "com/example/stowage/stowage/dicom/Uid"), (0, u "isValid"), (0, u "(Ljava/lang/String;)Z"), (0, .methodref 8 33), (0, .nameAndType 34 35), (0, u "digit"), (0, u "(C)Z"), (0, .methodref 8 37), (0, .nameAndType 38 35), (0, u "digitOrDot"), (0, .methodref 8 40), (0, .nameAndType 41 42), (0, u "dots"), (0, u "(CC)Z"), (2, u "law"), (0, u "(IIIII)Z")] 3

def k1m0 : Method := { name := "<init>", desc := "()V", sig := { parameters := [], returnType := none }, accessFlags := 2, code := none }
def k1c1 : Code := { maxStack := 6, maxLocals := 13, code := code, exceptionTable := #[], attributes := #[] }
def k1m1 : Method := { name := "law", desc := "(IIIII)Z", sig := { parameters := [.int, .int, .int, .int, .int], returnType := some .boolean }, accessFlags := 9, code := some k1c1 }
def k1c2 : Code := { maxStack := 2, maxLocals := 2, code := method_3_code, exceptionTable := #[], attributes := #[] }
def k1m2 : Method := { name := "ch", desc := "(I)C", sig := { parameters := [.int], returnType := some .char }, accessFlags := 10, code := some k1c2 }
def k1c3 : Code := { maxStack := 6, maxLocals := 5, code := method_4_code, exceptionTable := #[], attributes := #[] }
def k1m3 : Method := { name := "shortText", desc := "(ICCCC)Ljava/lang/String;", sig := { parameters := [.int, .char, .char, .char, .char], returnType := some (.object "java/lang/String") }, accessFlags := 10, code := some k1c3 }
def k1c4 : Code := { maxStack := 2, maxLocals := 1, code := method_5_code, exceptionTable := #[], attributes := #[] }
def k1m4 : Method := { name := "digit", desc := "(C)Z", sig := { parameters := [.char], returnType := some .boolean }, accessFlags := 10, code := some k1c4 }
def k1c5 : Code := { maxStack := 2, maxLocals := 1, code := method_6_code, exceptionTable := #[], attributes := #[] }
def k1m5 : Method := { name := "digitOrDot", desc := "(C)Z", sig := { parameters := [.char], returnType := some .boolean }, accessFlags := 10, code := some k1c5 }
def k1c6 : Code := { maxStack := 2, maxLocals := 2, code := method_7_code, exceptionTable := #[], attributes := #[] }
def k1m6 : Method := { name := "dots", desc := "(CC)Z", sig := { parameters := [.char, .char], returnType := some .boolean }, accessFlags := 10, code := some k1c6 }
def k1c7 : Code := { maxStack := 2, maxLocals := 7, code := method_8_code, exceptionTable := #[], attributes := #[] }
def k1m7 : Method := { name := "tailOk", desc := "(ZICCCC)Z", sig := { parameters := [.boolean, .int, .char, .char, .char, .char], returnType := some .boolean }, accessFlags := 10, code := some k1c7 }
/-- com/example/stowage/stowage/dicom/UidIsValidPinLaw -/
def k1 : Class := { plain "com/example/stowage/stowage/dicom/UidIsValidPinLaw" (some 0) with
  accessFlags := 49
  interfaces := #[]
  cf := some (fileOf pool1 8 #[] #[{ accessFlags := 2, nameIndex := 5, descriptorIndex := 6, attributes := #[] }, { accessFlags := 9, nameIndex := 45, descriptorIndex := 46, attributes := #[] }, { accessFlags := 10, nameIndex := 11, descriptorIndex := 12, attributes := #[] }, { accessFlags := 10, nameIndex := 24, descriptorIndex := 25, attributes := #[] }, { accessFlags := 10, nameIndex := 34, descriptorIndex := 35, attributes := #[] }, { accessFlags := 10, nameIndex := 38, descriptorIndex := 35, attributes := #[] }, { accessFlags := 10, nameIndex := 41, descriptorIndex := 42, attributes := #[] }, { accessFlags := 10, nameIndex := 20, descriptorIndex := 21, attributes := #[] }] 49 2 #[] #[])
  fields := #[]
  methods := #[k1m0, k1m1, k1m2, k1m3, k1m4, k1m5, k1m6, k1m7]
  instanceTypes := #[]
  staticTypes := #[]
  resolved := Array.replicate 50 none
  statics := none }

def pool2 : Array CpInfo := pool [(1, .class_ 2), (0, u "java/io/Serializable"), (0, .class_ 4), (0, u "java/lang/Object")] 2

/-- java/io/Serializable -/
def k2 : Class := { plain "java/io/Serializable" (some 0) with
  accessFlags := 1537
  interfaces := #[]
  cf := some (fileOf pool2 1 #[] #[] 1537 3 #[] #[])
  fields := #[]
  methods := #[]
  instanceTypes := #[]
  staticTypes := #[]
  resolved := Array.replicate 7 none
  statics := none }

def pool3 : Array CpInfo := pool [(1, .class_ 2), (0, u "java/lang/Comparable"), (0, .class_ 4), (0, u "java/lang/Object")] 7

/-- java/lang/Comparable -/
def k3 : Class := { plain "java/lang/Comparable" (some 0) with
  accessFlags := 1537
  interfaces := #[]
  cf := some (fileOf pool3 1 #[] #[] 1537 3 #[] #[])
  fields := #[]
  methods := #[]
  instanceTypes := #[]
  staticTypes := #[]
  resolved := Array.replicate 12 none
  statics := none }

def pool4 : Array CpInfo := pool [(2, .class_ 4), (1, u "java/lang/CharSequence"), (42, .class_ 48), (0, u "java/lang/CharSequence$1CodePointIterator"), (10, .class_ 60), (0, u "java/lang/CharSequence$1CharIterator"), (5, .class_ 67), (0, u "java/lang/Object")] 63

/-- java/lang/CharSequence -/
def k4 : Class := { plain "java/lang/CharSequence" (some 0) with
  accessFlags := 1537
  interfaces := #[]
  cf := some (fileOf pool4 2 #[.nestMembers #[47, 59]] #[] 1537 66 #[] #[])
  fields := #[]
  methods := #[]
  instanceTypes := #[]
  staticTypes := #[]
  resolved := Array.replicate 131 none
  statics := none }

def pool5 : Array CpInfo := pool [(1, .class_ 2), (0, u "java/lang/constant/Constable"), (0, .class_ 4), (0, u "java/lang/Object")] 6

/-- java/lang/constant/Constable -/
def k5 : Class := { plain "java/lang/constant/Constable" (some 0) with
  accessFlags := 1537
  interfaces := #[]
  cf := some (fileOf pool5 1 #[] #[] 1537 3 #[] #[])
  fields := #[]
  methods := #[]
  instanceTypes := #[]
  staticTypes := #[]
  resolved := Array.replicate 11 none
  statics := none }

def pool6 : Array CpInfo := pool [(1, .class_ 2), (0, u "java/lang/constant/ConstantDesc"), (0, .class_ 4), (0, u "java/lang/Object")] 32

/-- java/lang/constant/ConstantDesc -/
def k6 : Class := { plain "java/lang/constant/ConstantDesc" (some 0) with
  accessFlags := 1537
  interfaces := #[]
  cf := some (fileOf pool6 1 #[] #[] 1537 3 #[] #[])
  fields := #[]
  methods := #[]
  instanceTypes := #[]
  staticTypes := #[]
  resolved := Array.replicate 37 none
  statics := none }

def pool7 : Array CpInfo := pool [(1, .methodref 2 3), (0, .class_ 4), (0, .nameAndType 5 6), (0, u "java/lang/Object"), (0, u "<init>"), (0, u "()V"), (0, .string 8), (0, u ""), (0, .fieldref 10 11), (0, .class_ 12), (0, .nameAndType 13 14), (0, u "java/lang/String"), (0, u "value"), (0, u "[B"), (0, .fieldref 10 16), (0, .nameAndType 17 18), (0, u "coder"), (0, u "B"), (2, u "hash"), (0, u "I"), (2, u "hashIsZero"), (0, u "Z"), (0, .methodref 10 28), (0, .nameAndType 5 29), (0, u "([CIILjava/lang/Void;)V"), (8, .fieldref 10 39), (0, .nameAndType 40 26), (0, u "COMPACT_STRINGS"), (1, .class_ 44), (1, u "java/lang/StringUTF16"), (0, u "compress"), (1, .methodref 42 48), (0, .nameAndType 49 50), (0, u "coderFromArrayLen"), (0, u "([BI)B"), (56, .class_ 109), (1, u "java/lang/StringLatin1"), (32, u "()Z"), (34, .methodref 42 178), (0, .nameAndType 45 179), (0, u "([CII)[B"), (154, u "()I"), (0, .methodref 10 336), (0, .nameAndType 17 337), (0, u "()B"), (25, u "([BI)C"), (27, u "(II)V"), (35, u "(I)C"), (64, .methodref 10 493), (0, .nameAndType 494 142), (0, u "isLatin1"), (0, .methodref 107 496), (0, .nameAndType 497 363), (0, u "charAt"), (3, u "checkIndex"), (5, u "length"), (67, .class_ 576), (0, u "java/lang/CharSequence"), (22, u "CASE_INSENSITIVE_ORDER"), (0, u "Ljava/util/Comparator;"), (409, u "([C)V"), (42, .fieldref 1054 1055), (0, .class_ 1056), (0, .nameAndType 1057 1058), (0, u "jdk/internal/util/Preconditions"), (0, u "SIOOBE_FORMATTER"), (0, u "Ljava/util/function/BiFunction;"), (0, .methodref 1054 1060), (0, .nameAndType 501 1061), (0, u "(IILjava/util/function/BiFunction;)I"), (39, u "serialPersistentFields"), (0, u "[Ljava/io/ObjectStreamField;"), (0, .class_ 1104), (0, u "java/lang/String$CaseInsensitiveComparator"), (1, .class_ 1107), (0, u "java/io/Serializable"), (0, .class_ 1109), (0, u "java/lang/Comparable"), (0, .class_ 1111), (0, u "java/lang/constant/Constable"), (0, .class_ 1113), (0, u "java/lang/constant/ConstantDesc"), (2, u "serialVersionUID"), (0, u "J"), (3, u "REPL"), (0, u "C"), (2, u "LATIN1"), (1, u "UTF16")] 323

def k7m0 : Method := { name := "<init>", desc := "()V", sig := { parameters := [], returnType := none }, accessFlags := 1, code := none }
def k7c1 : Code := { maxStack := 5, maxLocals := 2, code := jdk_42_method_3_code, exceptionTable := #[], attributes := #[] }
def k7m1 : Method := { name := "<init>", desc := "([C)V", sig := { parameters := [(.array .char)], returnType := none }, accessFlags := 1, code := some k7c1 }
def k7c2 : Code := { maxStack := 2, maxLocals := 1, code := jdk_42_method_54_code, exceptionTable := #[], attributes := #[] }
def k7m2 : Method := { name := "length", desc := "()I", sig := { parameters := [], returnType := some .int }, accessFlags := 1, code := some k7c2 }
def k7c3 : Code := { maxStack := 2, maxLocals := 2, code := jdk_42_method_56_code, exceptionTable := #[], attributes := #[] }
def k7m3 : Method := { name := "charAt", desc := "(I)C", sig := { parameters := [.int], returnType := some .char }, accessFlags := 1, code := some k7c3 }
def k7c4 : Code := { maxStack := 4, maxLocals := 6, code := jdk_42_method_149_code, exceptionTable := #[], attributes := #[] }
def k7m4 : Method := { name := "<init>", desc := "([CIILjava/lang/Void;)V", sig := { parameters := [(.array .char), .int, .int, (.object "java/lang/Void")], returnType := none }, accessFlags := 2, code := some k7c4 }
def k7c5 : Code := { maxStack := 1, maxLocals := 1, code := jdk_42_method_152_code, exceptionTable := #[], attributes := #[] }
def k7m5 : Method := { name := "coder", desc := "()B", sig := { parameters := [], returnType := some .byte }, accessFlags := 0, code := some k7c5 }
def k7c6 : Code := { maxStack := 1, maxLocals := 1, code := jdk_42_method_154_code, exceptionTable := #[], attributes := #[] }
def k7m6 : Method := { name := "isLatin1", desc := "()Z", sig := { parameters := [], returnType := some .boolean }, accessFlags := 0, code := some k7c6 }
def k7c7 : Code := { maxStack := 3, maxLocals := 2, code := jdk_42_method_155_code, exceptionTable := #[], attributes := #[] }
def k7m7 : Method := { name := "checkIndex", desc := "(II)V", sig := { parameters := [.int, .int], returnType := none }, accessFlags := 8, code := some k7c7 }
/-- java/lang/String -/
def k7 : Class := { plain "java/lang/String" (some 0) with
  accessFlags := 49
  interfaces := #[2, 3, 4, 5, 6]
  cf := some (fileOf pool7 10 #[.nestMembers #[1103]] #[{ accessFlags := 1, nameIndex := 5, descriptorIndex := 6, attributes := #[] }, { accessFlags := 1, nameIndex := 5, descriptorIndex := 1010, attributes := #[] }, { accessFlags := 1, nameIndex := 507, descriptorIndex := 334, attributes := #[] }, { accessFlags := 1, nameIndex := 497, descriptorIndex := 427, attributes := #[] }, { accessFlags := 2, nameIndex := 5, descriptorIndex := 29, attributes := #[] }, { accessFlags := 0, nameIndex := 17, descriptorIndex := 337, attributes := #[] }, { accessFlags := 0, nameIndex := 494, descriptorIndex := 142, attributes := #[] }, { accessFlags := 8, nameIndex := 501, descriptorIndex := 391, attributes := #[] }] 49 2 #[1106, 1108, 575, 1110, 1112] #[{ accessFlags := 18, nameIndex := 13, descriptorIndex := 14, attributes := #[] }, { accessFlags := 18, nameIndex := 17, descriptorIndex := 18, attributes := #[] }, { accessFlags := 2, nameIndex := 21, descriptorIndex := 22, attributes := #[] }, { accessFlags := 2, nameIndex := 25, descriptorIndex := 26, attributes := #[] }, { accessFlags := 26, nameIndex := 1116, descriptorIndex := 1117, attributes := #[] }, { accessFlags := 24, nameIndex := 40, descriptorIndex := 26, attributes := #[] }, { accessFlags := 26, nameIndex := 1101, descriptorIndex := 1102, attributes := #[] }, { accessFlags := 26, nameIndex := 1121, descriptorIndex := 1122, attributes := #[] }, { accessFlags := 25, nameIndex := 599, descriptorIndex := 600, attributes := #[] }, { accessFlags := 24, nameIndex := 1125, descriptorIndex := 18, attributes := #[] }, { accessFlags := 24, nameIndex := 1127, descriptorIndex := 18, attributes := #[] }])
  fields := #[{ name := "value", type := (.array .byte), accessFlags := 18, slot := 0, constantValue := 0 }, { name := "coder", type := .byte, accessFlags := 18, slot := 1, constantValue := 0 }, { name := "hash", type := .int, accessFlags := 2, slot := 2, constantValue := 0 }, { name := "hashIsZero", type := .boolean, accessFlags := 2, slot := 3, constantValue := 0 }, { name := "serialVersionUID", type := .long, accessFlags := 26, slot := 0, constantValue := 0 }, { name := "COMPACT_STRINGS", type := .boolean, accessFlags := 24, slot := 1, constantValue := 0 }, { name := "serialPersistentFields", type := (.array (.object "java/io/ObjectStreamField")), accessFlags := 26, slot := 2, constantValue := 0 }, { name := "REPL", type := .char, accessFlags := 26, slot := 3, constantValue := 0 }, { name := "CASE_INSENSITIVE_ORDER", type := (.object "java/util/Comparator"), accessFlags := 25, slot := 4, constantValue := 0 }, { name := "LATIN1", type := .byte, accessFlags := 24, slot := 5, constantValue := 0 }, { name := "UTF16", type := .byte, accessFlags := 24, slot := 6, constantValue := 0 }]
  methods := #[k7m0, k7m1, k7m2, k7m3, k7m4, k7m5, k7m6, k7m7]
  instanceTypes := #[(.array .byte), .byte, .int, .boolean]
  staticTypes := #[.long, .boolean, (.array (.object "java/io/ObjectStreamField")), .char, (.object "java/util/Comparator"), .byte, .byte]
  resolved := Array.replicate 1451 none
  statics := some 0 }

def pool8 : Array CpInfo := pool [(2, .class_ 4), (1, u "java/lang/Object"), (0, u "<init>"), (0, u "()V"), (0, .methodref 8 9), (0, .class_ 10), (0, .nameAndType 11 12), (0, u "java/lang/String"), (0, u "length"), (0, u "()I"), (0, .class_ 14), (0, u "com/example/stowage/stowage/dicom/Uid"), (0, .methodref 8 16), (0, .nameAndType 17 18), (0, u "charAt"), (0, u "(I)C"), (34, u "MAX_LENGTH"), (0, u "I"), (4, u "isValid"), (0, u "(Ljava/lang/String;)Z")] 36

def k8m0 : Method := { name := "<init>", desc := "()V", sig := { parameters := [], returnType := none }, accessFlags := 2, code := none }
def k8c1 : Code := { maxStack := 2, maxLocals := 4, code := prog_11_method_2_code, exceptionTable := #[], attributes := #[] }
def k8m1 : Method := { name := "isValid", desc := "(Ljava/lang/String;)Z", sig := { parameters := [(.object "java/lang/String")], returnType := some .boolean }, accessFlags := 9, code := some k8c1 }
/-- com/example/stowage/stowage/dicom/Uid -/
def k8 : Class := { plain "com/example/stowage/stowage/dicom/Uid" (some 0) with
  accessFlags := 49
  interfaces := #[]
  cf := some (fileOf pool8 13 #[] #[{ accessFlags := 2, nameIndex := 5, descriptorIndex := 6, attributes := #[] }, { accessFlags := 9, nameIndex := 59, descriptorIndex := 60, attributes := #[] }] 49 2 #[] #[{ accessFlags := 25, nameIndex := 53, descriptorIndex := 54, attributes := #[] }])
  fields := #[{ name := "MAX_LENGTH", type := .int, accessFlags := 25, slot := 0, constantValue := 0 }]
  methods := #[k8m0, k8m1]
  instanceTypes := #[]
  staticTypes := #[.int]
  resolved := Array.replicate 97 none
  statics := none }

def pool9 : Array CpInfo := pool [(6, .class_ 8), (1, u "java/lang/Object"), (0, u "<init>"), (0, u "()V"), (1, .class_ 14), (1, u "java/lang/StringUTF16"), (31, u "$assertionsDisabled"), (0, u "Z"), (13, u "HI_BYTE_SHIFT"), (0, u "I"), (2, u "LO_BYTE_SHIFT"), (49, .methodref 12 116), (0, .nameAndType 117 118), (0, u "compress"), (0, u "([CI[BII)I"), (3, u "([CII)[B"), (138, u "coderFromArrayLen"), (0, u "([BI)B"), (106, .class_ 371), (1, u "java/lang/StringUTF16$LinesSpliterator"), (58, u "MAX_LENGTH"), (196, .class_ 628), (0, u "java/lang/StringUTF16$CodePointsSpliterator"), (0, .class_ 630), (0, u "java/lang/StringUTF16$CharsSpliterator")] 4

def k9m0 : Method := { name := "<init>", desc := "()V", sig := { parameters := [], returnType := none }, accessFlags := 0, code := none }
def k9c1 : Code := { maxStack := 2, maxLocals := 2, code := jdk_52_method_15_code, exceptionTable := #[], attributes := #[] }
def k9m1 : Method := { name := "coderFromArrayLen", desc := "([BI)B", sig := { parameters := [(.array .byte), .int], returnType := some .byte }, accessFlags := 8, code := some k9c1 }
def k9c2 : Code := { maxStack := 5, maxLocals := 6, code := jdk_52_method_16_code, exceptionTable := #[], attributes := #[] }
def k9m2 : Method := { name := "compress", desc := "([CII)[B", sig := { parameters := [(.array .char), .int, .int], returnType := some (.array .byte) }, accessFlags := 9, code := some k9c2 }
def k9c3 : Code := { maxStack := 3, maxLocals := 7, code := jdk_52_method_21_code, exceptionTable := #[], attributes := #[] }
def k9m3 : Method := { name := "compress", desc := "([CI[BII)I", sig := { parameters := [(.array .char), .int, (.array .byte), .int, .int], returnType := some .int }, accessFlags := 9, code := some k9c3 }
/-- java/lang/StringUTF16 -/
def k9 : Class := { plain "java/lang/StringUTF16" (some 0) with
  accessFlags := 48
  interfaces := #[]
  cf := some (fileOf pool9 12 #[.nestMembers #[627, 629, 369]] #[{ accessFlags := 0, nameIndex := 9, descriptorIndex := 10, attributes := #[] }, { accessFlags := 8, nameIndex := 261, descriptorIndex := 262, attributes := #[] }, { accessFlags := 9, nameIndex := 117, descriptorIndex := 122, attributes := #[] }, { accessFlags := 9, nameIndex := 117, descriptorIndex := 118, attributes := #[] }] 48 6 #[] #[{ accessFlags := 26, nameIndex := 61, descriptorIndex := 62, attributes := #[] }, { accessFlags := 26, nameIndex := 65, descriptorIndex := 62, attributes := #[] }, { accessFlags := 24, nameIndex := 430, descriptorIndex := 62, attributes := #[] }, { accessFlags := 4120, nameIndex := 46, descriptorIndex := 47, attributes := #[] }])
  fields := #[{ name := "HI_BYTE_SHIFT", type := .int, accessFlags := 26, slot := 0, constantValue := 0 }, { name := "LO_BYTE_SHIFT", type := .int, accessFlags := 26, slot := 1, constantValue := 0 }, { name := "MAX_LENGTH", type := .int, accessFlags := 24, slot := 2, constantValue := 0 }, { name := "$assertionsDisabled", type := .boolean, accessFlags := 4120, slot := 3, constantValue := 0 }]
  methods := #[k9m0, k9m1, k9m2, k9m3]
  instanceTypes := #[]
  staticTypes := #[.int, .int, .int, .boolean]
  resolved := Array.replicate 635 none
  statics := none }

def pool10 : Array CpInfo := pool [(1, .class_ 2), (0, u "java/lang/String"), (1, .class_ 6), (1, u "java/lang/Object"), (0, u "<init>"), (0, u "()V"), (0, .methodref 1 10), (0, .nameAndType 11 12), (0, u "checkIndex"), (0, u "(II)V"), (1, .class_ 16), (1, u "java/lang/StringLatin1"), (36, u "([BI)C"), (67, u "$assertionsDisabled"), (0, u "Z"), (98, .class_ 223), (1, u "java/lang/StringLatin1$LinesSpliterator"), (28, u "charAt"), (137, .class_ 391), (0, u "java/lang/StringLatin1$CharsSpliterator")] 3

def k10m0 : Method := { name := "<init>", desc := "()V", sig := { parameters := [], returnType := none }, accessFlags := 0, code := none }
def k10c1 : Code := { maxStack := 2, maxLocals := 2, code := jdk_43_method_2_code, exceptionTable := #[], attributes := #[] }
def k10m1 : Method := { name := "charAt", desc := "([BI)C", sig := { parameters := [(.array .byte), .int], returnType := some .char }, accessFlags := 9, code := some k10c1 }
/-- java/lang/StringLatin1 -/
def k10 : Class := { plain "java/lang/StringLatin1" (some 0) with
  accessFlags := 48
  interfaces := #[]
  cf := some (fileOf pool10 14 #[.nestMembers #[390, 221]] #[{ accessFlags := 0, nameIndex := 7, descriptorIndex := 8, attributes := #[] }, { accessFlags := 9, nameIndex := 252, descriptorIndex := 53, attributes := #[] }] 48 4 #[] #[{ accessFlags := 4120, nameIndex := 121, descriptorIndex := 122, attributes := #[] }])
  fields := #[{ name := "$assertionsDisabled", type := .boolean, accessFlags := 4120, slot := 0, constantValue := 0 }]
  methods := #[k10m0, k10m1]
  instanceTypes := #[]
  staticTypes := #[.boolean]
  resolved := Array.replicate 395 none
  statics := none }

def pool11 : Array CpInfo := pool [(2, .class_ 4), (1, u "java/lang/Object"), (0, u "<init>"), (0, u "()V"), (17, .class_ 26), (1, u "jdk/internal/util/Preconditions"), (6, u "checkIndex"), (21, .class_ 56), (0, u "jdk/internal/util/Preconditions$4"), (57, .class_ 115), (0, u "jdk/internal/util/Preconditions$1"), (7, u "SIOOBE_FORMATTER"), (0, u "Ljava/util/function/BiFunction;"), (0, .class_ 126), (0, u "jdk/internal/util/Preconditions$2"), (3, u "AIOOBE_FORMATTER"), (0, .class_ 132), (0, u "jdk/internal/util/Preconditions$3"), (3, u "IOOBE_FORMATTER"), (41, u "(IILjava/util/function/BiFunction;)I")] 15

def k11m0 : Method := { name := "<init>", desc := "()V", sig := { parameters := [], returnType := none }, accessFlags := 1, code := none }
def k11c1 : Code := { maxStack := 3, maxLocals := 3, code := jdk_41_method_11_code, exceptionTable := #[], attributes := #[] }
def k11m1 : Method := { name := "checkIndex", desc := "(IILjava/util/function/BiFunction;)I", sig := { parameters := [.int, .int, (.object "java/util/function/BiFunction")], returnType := some .int }, accessFlags := 9, code := some k11c1 }
/-- jdk/internal/util/Preconditions -/
def k11 : Class := { plain "jdk/internal/util/Preconditions" (some 0) with
  accessFlags := 33
  interfaces := #[]
  cf := some (fileOf pool11 24 #[.nestMembers #[55, 131, 125, 114]] #[{ accessFlags := 1, nameIndex := 5, descriptorIndex := 6, attributes := #[] }, { accessFlags := 9, nameIndex := 33, descriptorIndex := 178, attributes := #[] }] 33 2 #[] #[{ accessFlags := 25, nameIndex := 123, descriptorIndex := 124, attributes := #[] }, { accessFlags := 25, nameIndex := 130, descriptorIndex := 124, attributes := #[] }, { accessFlags := 25, nameIndex := 136, descriptorIndex := 124, attributes := #[] }])
  fields := #[{ name := "SIOOBE_FORMATTER", type := (.object "java/util/function/BiFunction"), accessFlags := 25, slot := 0, constantValue := 0 }, { name := "AIOOBE_FORMATTER", type := (.object "java/util/function/BiFunction"), accessFlags := 25, slot := 1, constantValue := 0 }, { name := "IOOBE_FORMATTER", type := (.object "java/util/function/BiFunction"), accessFlags := 25, slot := 2, constantValue := 0 }]
  methods := #[k11m0, k11m1]
  instanceTypes := #[]
  staticTypes := #[(.object "java/util/function/BiFunction"), (.object "java/util/function/BiFunction"), (.object "java/util/function/BiFunction")]
  resolved := Array.replicate 194 none
  statics := some 1 }

def pool12 : Array CpInfo := pool [(9, u "<init>"), (6, .class_ 18), (1, u "java/lang/Object"), (0, u "()V"), (1, .class_ 23), (1, u "jdk/internal/util/ArraysSupport"), (0, u "LOG2_ARRAY_LONG_INDEX_SCALE"), (0, u "I"), (2, u "U"), (0, u "Ljdk/internal/misc/Unsafe;"), (8, u "BIG_ENDIAN"), (0, u "Z"), (8, u "LOG2_BYTE_BIT_SIZE"), (4, u "LOG2_ARRAY_INT_INDEX_SCALE"), (54, u "JLA"), (0, u "Ljdk/internal/access/JavaLangAccess;"), (11, u "LOG2_ARRAY_BOOLEAN_INDEX_SCALE"), (9, u "LOG2_ARRAY_BYTE_INDEX_SCALE"), (5, u "LOG2_ARRAY_CHAR_INDEX_SCALE"), (5, u "LOG2_ARRAY_SHORT_INDEX_SCALE"), (18, u "LOG2_ARRAY_FLOAT_INDEX_SCALE"), (24, u "LOG2_ARRAY_DOUBLE_INDEX_SCALE"), (89, u "T_BOOLEAN"), (2, u "T_CHAR"), (1, u "T_FLOAT"), (1, u "T_DOUBLE"), (1, u "T_BYTE"), (1, u "T_SHORT"), (1, u "T_INT"), (1, u "T_LONG"), (1, u "SOFT_MAX_ARRAY_LENGTH")] 83

def k12m0 : Method := { name := "<init>", desc := "()V", sig := { parameters := [], returnType := none }, accessFlags := 2, code := none }
/-- jdk/internal/util/ArraysSupport -/
def k12 : Class := { plain "jdk/internal/util/ArraysSupport" (some 0) with
  accessFlags := 33
  interfaces := #[]
  cf := some (fileOf pool12 21 #[] #[{ accessFlags := 2, nameIndex := 9, descriptorIndex := 19, attributes := #[] }] 33 16 #[] #[{ accessFlags := 24, nameIndex := 28, descriptorIndex := 29, attributes := #[] }, { accessFlags := 26, nameIndex := 38, descriptorIndex := 39, attributes := #[] }, { accessFlags := 25, nameIndex := 121, descriptorIndex := 25, attributes := #[] }, { accessFlags := 25, nameIndex := 131, descriptorIndex := 25, attributes := #[] }, { accessFlags := 25, nameIndex := 137, descriptorIndex := 25, attributes := #[] }, { accessFlags := 25, nameIndex := 143, descriptorIndex := 25, attributes := #[] }, { accessFlags := 25, nameIndex := 53, descriptorIndex := 25, attributes := #[] }, { accessFlags := 25, nameIndex := 24, descriptorIndex := 25, attributes := #[] }, { accessFlags := 25, nameIndex := 162, descriptorIndex := 25, attributes := #[] }, { accessFlags := 25, nameIndex := 187, descriptorIndex := 25, attributes := #[] }, { accessFlags := 26, nameIndex := 48, descriptorIndex := 25, attributes := #[] }, { accessFlags := 25, nameIndex := 277, descriptorIndex := 25, attributes := #[] }, { accessFlags := 25, nameIndex := 280, descriptorIndex := 25, attributes := #[] }, { accessFlags := 25, nameIndex := 282, descriptorIndex := 25, attributes := #[] }, { accessFlags := 25, nameIndex := 284, descriptorIndex := 25, attributes := #[] }, { accessFlags := 25, nameIndex := 286, descriptorIndex := 25, attributes := #[] }, { accessFlags := 25, nameIndex := 288, descriptorIndex := 25, attributes := #[] }, { accessFlags := 25, nameIndex := 290, descriptorIndex := 25, attributes := #[] }, { accessFlags := 25, nameIndex := 292, descriptorIndex := 25, attributes := #[] }, { accessFlags := 26, nameIndex := 108, descriptorIndex := 109, attributes := #[] }, { accessFlags := 25, nameIndex := 294, descriptorIndex := 25, attributes := #[] }])
  fields := #[{ name := "U", type := (.object "jdk/internal/misc/Unsafe"), accessFlags := 24, slot := 0, constantValue := 0 }, { name := "BIG_ENDIAN", type := .boolean, accessFlags := 26, slot := 1, constantValue := 0 }, { name := "LOG2_ARRAY_BOOLEAN_INDEX_SCALE", type := .int, accessFlags := 25, slot := 2, constantValue := 0 }, { name := "LOG2_ARRAY_BYTE_INDEX_SCALE", type := .int, accessFlags := 25, slot := 3, constantValue := 0 }, { name := "LOG2_ARRAY_CHAR_INDEX_SCALE", type := .int, accessFlags := 25, slot := 4, constantValue := 0 }, { name := "LOG2_ARRAY_SHORT_INDEX_SCALE", type := .int, accessFlags := 25, slot := 5, constantValue := 0 }, { name := "LOG2_ARRAY_INT_INDEX_SCALE", type := .int, accessFlags := 25, slot := 6, constantValue := 0 }, { name := "LOG2_ARRAY_LONG_INDEX_SCALE", type := .int, accessFlags := 25, slot := 7, constantValue := 0 }, { name := "LOG2_ARRAY_FLOAT_INDEX_SCALE", type := .int, accessFlags := 25, slot := 8, constantValue := 0 }, { name := "LOG2_ARRAY_DOUBLE_INDEX_SCALE", type := .int, accessFlags := 25, slot := 9, constantValue := 0 }, { name := "LOG2_BYTE_BIT_SIZE", type := .int, accessFlags := 26, slot := 10, constantValue := 0 }, { name := "T_BOOLEAN", type := .int, accessFlags := 25, slot := 11, constantValue := 0 }, { name := "T_CHAR", type := .int, accessFlags := 25, slot := 12, constantValue := 0 }, { name := "T_FLOAT", type := .int, accessFlags := 25, slot := 13, constantValue := 0 }, { name := "T_DOUBLE", type := .int, accessFlags := 25, slot := 14, constantValue := 0 }, { name := "T_BYTE", type := .int, accessFlags := 25, slot := 15, constantValue := 0 }, { name := "T_SHORT", type := .int, accessFlags := 25, slot := 16, constantValue := 0 }, { name := "T_INT", type := .int, accessFlags := 25, slot := 17, constantValue := 0 }, { name := "T_LONG", type := .int, accessFlags := 25, slot := 18, constantValue := 0 }, { name := "JLA", type := (.object "jdk/internal/access/JavaLangAccess"), accessFlags := 26, slot := 19, constantValue := 0 }, { name := "SOFT_MAX_ARRAY_LENGTH", type := .int, accessFlags := 25, slot := 20, constantValue := 0 }]
  methods := #[k12m0]
  instanceTypes := #[]
  staticTypes := #[(.object "jdk/internal/misc/Unsafe"), .boolean, .int, .int, .int, .int, .int, .int, .int, .int, .int, .int, .int, .int, .int, .int, .int, .int, .int, (.object "jdk/internal/access/JavaLangAccess"), .int]
  resolved := Array.replicate 378 none
  statics := none }

def pool13 : Array CpInfo := pool [(1, u "java/lang/Cloneable"), (0, .class_ 1), (0, u "java/lang/Object"), (0, .class_ 3)] 3

/-- java/lang/Cloneable -/
def k13 : Class := { plain "java/lang/Cloneable" (some 0) with
  accessFlags := 1537
  interfaces := #[]
  cf := some (fileOf pool13 2 #[] #[] 1537 4 #[] #[])
  fields := #[]
  methods := #[]
  instanceTypes := #[]
  staticTypes := #[]
  resolved := Array.replicate 8 none
  statics := none }

/-- the primitive byte -/
def k14 : Class := { plain "byte" none with kind := .primitive 'B', accessFlags := 0x411 }
/-- [B -/
def k15 : Class := { plain "[B" (some 0) with kind := .array 14 .byte, interfaces := #[13, 2], accessFlags := 1041 }

/-- the primitive char -/
def k16 : Class := { plain "char" none with kind := .primitive 'C', accessFlags := 0x411 }
/-- [C -/
def k17 : Class := { plain "[C" (some 0) with kind := .array 16 .char, interfaces := #[13, 2], accessFlags := 1041 }

/-- the primitive int -/
def k18 : Class := { plain "int" none with kind := .primitive 'I', accessFlags := 0x411 }
/-- [I -/
def k19 : Class := { plain "[I" (some 0) with kind := .array 18 .int, interfaces := #[13, 2], accessFlags := 1041 }

def heap : Heap := #[{ cls := 7, slots := #[.long 0, .int 1, .null, .int 0, .null, .int 0, .int 0], vm := .statics 7 },
  { cls := 11, slots := #[.null, .null, .null], vm := .statics 11 }]
def classes : Array Class := #[k0, k1, k2, k3, k4, k5, k6, k7, k8, k9, k10, k11, k12, k13, k14, k15, k16, k17, k18, k19]
def interned : List (Array UInt16 × Addr) := []
def slotsUsed : Nat := 10
def theMethod : MethodId := ⟨1, 1⟩
def args0 : Array Value := #[.int 0, .int 0, .int 0, .int 0, .int 0]
def aboutOver (below : List Frame) : State where
  vm := { classes := classes, interned := interned.toArray }
  heap := heap
  slotsUsed := slotsUsed
  threads := #[{ frames := .invoking theMethod args0 :: below }]
def below0 : List Frame := [.native { method := ⟨0, 0⟩, args := #[] }]
def about1 : State := aboutOver below0
def p0 : Program := .bare "" "" ""
def e0 : Env := launch0.env 0 0 0
theorem w_frames : about1.frames = Frame.invoking theMethod args0 :: below0 := rfl
set_option maxRecDepth 65536 in
theorem w_args : argsFit about1.vm theMethod args0 = true := by decide +kernel
set_option maxRecDepth 65536 in
theorem w_heap : heapFits about1 = true := by decide +kernel
set_option maxRecDepth 65536 in
theorem w_runnable : about1.curStatus? = some .runnable := by decide +kernel
set_option maxRecDepth 65536 in
theorem w_alone : about1.alone = true := by decide +kernel
set_option maxRecDepth 65536 in
theorem w_named : about1.methodNamed? x = some theMethod := by decide +kernel
set_option maxRecDepth 65536 in
theorem w_hears : about1.hears theMethod below0 = true := by decide +kernel
set_option maxRecDepth 65536 in
theorem w_ripe : about1.ripe theMethod args0 below0 = true := by decide +kernel
theorem w_running : about1.status = .running := rfl
set_option maxRecDepth 65536 in
theorem w_room : about1.hasRoom e0.platform room_1 = true :=
  launch0.hasRoom_least _ room_1 (by decide +kernel) (by decide +kernel) (by decide +kernel) (by decide +kernel) (by decide +kernel) (by decide +kernel)
theorem allAtoms_all (ts : List Jvm.Cond) (a : Array Jvm.Value) (st : Jvm.State) : (allAtoms ts).before a st = ts.all (fun c => c.before a st) := by
  induction ts with
  | nil => rfl
  | cons c t ih =>
    show (Jvm.Cond.and c (allAtoms t)).before a st = _
    rw [Jvm.Cond.before_and, ih, List.all_cons]
def words1 : List Jvm.Cond := Jvm.Cond.code x code maxLocals ret :: tables_1
/-- a 'code' word, met by the world's own term for the bytes: nothing is compared byte by byte -/
theorem code_word {y : MethodName} {bytes : ByteArray} {mx : Nat} {rt : Option FieldType} {a : Array Value} {s : State} {m : MethodId} {meth : Method} {c : Code} (h1 : s.methodNamed? y = some m) (h2 : s.vm.method? m = some meth) (h3 : meth.code = some c) (h4 : c.code = bytes)
    (h5 : (c.maxLocals == mx && c.exceptionTable.isEmpty && decide (c.maxStack ≤ mostOperands) && decide (meth.sig.returnType = rt) && !meth.locks && decide (parseMethodDescriptor y.desc = some meth.sig)) = true) : (Jvm.Cond.code y bytes mx rt).before a s = true := by
  simp only [Bool.and_eq_true, beq_iff_eq, Bool.not_eq_true', decide_eq_true_eq] at h5
  obtain ⟨⟨⟨⟨⟨g1, g2⟩, g3⟩, g4⟩, g5⟩, g6⟩ := h5
  simp [Cond.before, Cond.holds, Cond.value, h1, h2, h3, h4, g1, g2, g3, g4, g5, g6]
def isCode : Jvm.Cond → Bool
  | .code _ _ _ _ => true
  | _ => false
theorem all_split {L : List Jvm.Cond} {P : Jvm.Cond → Bool} (h1 : L.all (fun c => isCode c || P c) = true) (h2 : ∀ c ∈ L.filter isCode, P c = true) : L.all P = true := by
  refine List.all_eq_true.mpr fun c hc => ?_
  have h := List.all_eq_true.mp h1 c hc
  rcases Bool.eq_false_or_eq_true (isCode c) with hi | hi
  · exact h2 c (List.mem_filter.mpr ⟨hc, hi⟩)
  · simpa [hi] using h
set_option maxRecDepth 65536 in
theorem w_c0 : (Jvm.Cond.code x code maxLocals ret).before args0 about1 = true := code_word (m := ⟨1, 1⟩) (meth := k1m1) (c := k1c1) (by decide +kernel) rfl rfl rfl (by decide +kernel)
set_option maxRecDepth 65536 in
theorem w_c1 : (Jvm.Cond.code ({ cls := "com/example/stowage/stowage/dicom/UidIsValidPinLaw", name := "ch", desc := "(I)C" } : Jvm.MethodName) method_3_code (2 : Nat) (Option.some Jvm.ClassFile.FieldType.char)).before args0 about1 = true := code_word (m := ⟨1, 2⟩) (meth := k1m2) (c := k1c2) (by decide +kernel) rfl rfl rfl (by decide +kernel)
set_option maxRecDepth 65536 in
theorem w_c2 : (Jvm.Cond.code ({ cls := "com/example/stowage/stowage/dicom/UidIsValidPinLaw", name := "shortText", desc := "(ICCCC)Ljava/lang/String;" } : Jvm.MethodName) method_4_code (5 : Nat) (Option.some (Jvm.ClassFile.FieldType.object "java/lang/String"))).before args0 about1 = true := code_word (m := ⟨1, 3⟩) (meth := k1m3) (c := k1c3) (by decide +kernel) rfl rfl rfl (by decide +kernel)
set_option maxRecDepth 65536 in
theorem w_c3 : (Jvm.Cond.code ({ cls := "java/lang/String", name := "<init>", desc := "([C)V" } : Jvm.MethodName) jdk_42_method_3_code (2 : Nat) (Option.none : Option Jvm.ClassFile.FieldType)).before args0 about1 = true := code_word (m := ⟨7, 1⟩) (meth := k7m1) (c := k7c1) (by decide +kernel) rfl rfl rfl (by decide +kernel)
set_option maxRecDepth 65536 in
theorem w_c4 : (Jvm.Cond.code ({ cls := "java/lang/String", name := "<init>", desc := "([CIILjava/lang/Void;)V" } : Jvm.MethodName) jdk_42_method_149_code (6 : Nat) (Option.none : Option Jvm.ClassFile.FieldType)).before args0 about1 = true := code_word (m := ⟨7, 4⟩) (meth := k7m4) (c := k7c4) (by decide +kernel) rfl rfl rfl (by decide +kernel)
set_option maxRecDepth 65536 in
theorem w_c5 : (Jvm.Cond.code ({ cls := "java/lang/Object", name := "<init>", desc := "()V" } : Jvm.MethodName) object_method_1_code (1 : Nat) (Option.none : Option Jvm.ClassFile.FieldType)).before args0 about1 = true := code_word (m := ⟨0, 0⟩) (meth := k0m0) (c := k0c0) (by decide +kernel) rfl rfl rfl (by decide +kernel)
set_option maxRecDepth 65536 in
theorem w_c6 : (Jvm.Cond.code ({ cls := "com/example/stowage/stowage/dicom/UidIsValidPinLaw", name := "tailOk", desc := "(ZICCCC)Z" } : Jvm.MethodName) method_8_code (7 : Nat) (Option.some Jvm.ClassFile.FieldType.boolean)).before args0 about1 = true := code_word (m := ⟨1, 7⟩) (meth := k1m7) (c := k1c7) (by decide +kernel) rfl rfl rfl (by decide +kernel)
set_option maxRecDepth 65536 in
theorem w_c7 : (Jvm.Cond.code ({ cls := "com/example/stowage/stowage/dicom/Uid", name := "isValid", desc := "(Ljava/lang/String;)Z" } : Jvm.MethodName) prog_11_method_2_code (4 : Nat) (Option.some Jvm.ClassFile.FieldType.boolean)).before args0 about1 = true := code_word (m := ⟨8, 1⟩) (meth := k8m1) (c := k8c1) (by decide +kernel) rfl rfl rfl (by decide +kernel)
set_option maxRecDepth 65536 in
theorem w_c8 : (Jvm.Cond.code ({ cls := "java/lang/String", name := "length", desc := "()I" } : Jvm.MethodName) jdk_42_method_54_code (1 : Nat) (Option.some Jvm.ClassFile.FieldType.int)).before args0 about1 = true := code_word (m := ⟨7, 2⟩) (meth := k7m2) (c := k7c2) (by decide +kernel) rfl rfl rfl (by decide +kernel)
set_option maxRecDepth 65536 in
theorem w_c9 : (Jvm.Cond.code ({ cls := "java/lang/String", name := "coder", desc := "()B" } : Jvm.MethodName) jdk_42_method_152_code (1 : Nat) (Option.some Jvm.ClassFile.FieldType.byte)).before args0 about1 = true := code_word (m := ⟨7, 5⟩) (meth := k7m5) (c := k7c5) (by decide +kernel) rfl rfl rfl (by decide +kernel)
set_option maxRecDepth 65536 in
theorem w_c10 : (Jvm.Cond.code ({ cls := "java/lang/StringUTF16", name := "compress", desc := "([CII)[B" } : Jvm.MethodName) jdk_52_method_16_code (6 : Nat) (Option.some (Jvm.ClassFile.FieldType.array Jvm.ClassFile.FieldType.byte))).before args0 about1 = true := code_word (m := ⟨9, 2⟩) (meth := k9m2) (c := k9c2) (by decide +kernel) rfl rfl rfl (by decide +kernel)
set_option maxRecDepth 65536 in
theorem w_c11 : (Jvm.Cond.code ({ cls := "java/lang/StringUTF16", name := "compress", desc := "([CI[BII)I" } : Jvm.MethodName) jdk_52_method_21_code (7 : Nat) (Option.some Jvm.ClassFile.FieldType.int)).before args0 about1 = true := code_word (m := ⟨9, 3⟩) (meth := k9m3) (c := k9c3) (by decide +kernel) rfl rfl rfl (by decide +kernel)
set_option maxRecDepth 65536 in
theorem w_c12 : (Jvm.Cond.code ({ cls := "java/lang/StringUTF16", name := "coderFromArrayLen", desc := "([BI)B" } : Jvm.MethodName) jdk_52_method_15_code (2 : Nat) (Option.some Jvm.ClassFile.FieldType.byte)).before args0 about1 = true := code_word (m := ⟨9, 1⟩) (meth := k9m1) (c := k9c1) (by decide +kernel) rfl rfl rfl (by decide +kernel)
set_option maxRecDepth 65536 in
theorem w_c13 : (Jvm.Cond.code ({ cls := "com/example/stowage/stowage/dicom/UidIsValidPinLaw", name := "digit", desc := "(C)Z" } : Jvm.MethodName) method_5_code (1 : Nat) (Option.some Jvm.ClassFile.FieldType.boolean)).before args0 about1 = true := code_word (m := ⟨1, 4⟩) (meth := k1m4) (c := k1c4) (by decide +kernel) rfl rfl rfl (by decide +kernel)
set_option maxRecDepth 65536 in
theorem w_c14 : (Jvm.Cond.code ({ cls := "java/lang/String", name := "charAt", desc := "(I)C" } : Jvm.MethodName) jdk_42_method_56_code (2 : Nat) (Option.some Jvm.ClassFile.FieldType.char)).before args0 about1 = true := code_word (m := ⟨7, 3⟩) (meth := k7m3) (c := k7c3) (by decide +kernel) rfl rfl rfl (by decide +kernel)
set_option maxRecDepth 65536 in
theorem w_c15 : (Jvm.Cond.code ({ cls := "java/lang/String", name := "isLatin1", desc := "()Z" } : Jvm.MethodName) jdk_42_method_154_code (1 : Nat) (Option.some Jvm.ClassFile.FieldType.boolean)).before args0 about1 = true := code_word (m := ⟨7, 6⟩) (meth := k7m6) (c := k7c6) (by decide +kernel) rfl rfl rfl (by decide +kernel)
set_option maxRecDepth 65536 in
theorem w_c16 : (Jvm.Cond.code ({ cls := "java/lang/StringLatin1", name := "charAt", desc := "([BI)C" } : Jvm.MethodName) jdk_43_method_2_code (2 : Nat) (Option.some Jvm.ClassFile.FieldType.char)).before args0 about1 = true := code_word (m := ⟨10, 1⟩) (meth := k10m1) (c := k10c1) (by decide +kernel) rfl rfl rfl (by decide +kernel)
set_option maxRecDepth 65536 in
theorem w_c17 : (Jvm.Cond.code ({ cls := "java/lang/String", name := "checkIndex", desc := "(II)V" } : Jvm.MethodName) jdk_42_method_155_code (2 : Nat) (Option.none : Option Jvm.ClassFile.FieldType)).before args0 about1 = true := code_word (m := ⟨7, 7⟩) (meth := k7m7) (c := k7c7) (by decide +kernel) rfl rfl rfl (by decide +kernel)
set_option maxRecDepth 65536 in
theorem w_c18 : (Jvm.Cond.code ({ cls := "jdk/internal/util/Preconditions", name := "checkIndex", desc := "(IILjava/util/function/BiFunction;)I" } : Jvm.MethodName) jdk_41_method_11_code (3 : Nat) (Option.some Jvm.ClassFile.FieldType.int)).before args0 about1 = true := code_word (m := ⟨11, 1⟩) (meth := k11m1) (c := k11c1) (by decide +kernel) rfl rfl rfl (by decide +kernel)
set_option maxRecDepth 65536 in
theorem w_c19 : (Jvm.Cond.code ({ cls := "com/example/stowage/stowage/dicom/UidIsValidPinLaw", name := "digitOrDot", desc := "(C)Z" } : Jvm.MethodName) method_6_code (1 : Nat) (Option.some Jvm.ClassFile.FieldType.boolean)).before args0 about1 = true := code_word (m := ⟨1, 5⟩) (meth := k1m5) (c := k1c5) (by decide +kernel) rfl rfl rfl (by decide +kernel)
set_option maxRecDepth 65536 in
theorem w_c20 : (Jvm.Cond.code ({ cls := "com/example/stowage/stowage/dicom/UidIsValidPinLaw", name := "dots", desc := "(CC)Z" } : Jvm.MethodName) method_7_code (2 : Nat) (Option.some Jvm.ClassFile.FieldType.boolean)).before args0 about1 = true := code_word (m := ⟨1, 6⟩) (meth := k1m6) (c := k1c6) (by decide +kernel) rfl rfl rfl (by decide +kernel)
def codes1 : List Jvm.Cond := [Jvm.Cond.code x code maxLocals ret, Jvm.Cond.code ({ cls := "com/example/stowage/stowage/dicom/UidIsValidPinLaw", name := "ch", desc := "(I)C" } : Jvm.MethodName) method_3_code (2 : Nat) (Option.some Jvm.ClassFile.FieldType.char), Jvm.Cond.code ({ cls := "com/example/stowage/stowage/dicom/UidIsValidPinLaw", name := "shortText", desc := "(ICCCC)Ljava/lang/String;" } : Jvm.MethodName) method_4_code (5 : Nat) (Option.some (Jvm.ClassFile.FieldType.object "java/lang/String")), Jvm.Cond.code ({ cls := "java/lang/String", name := "<init>", desc := "([C)V" } : Jvm.MethodName) jdk_42_method_3_code (2 : Nat) (Option.none : Option Jvm.ClassFile.FieldType), Jvm.Cond.code ({ cls := "java/lang/String", name := "<init>", desc := "([CIILjava/lang/Void;)V" } : Jvm.MethodName) jdk_42_method_149_code (6 : Nat) (Option.none : Option Jvm.ClassFile.FieldType), Jvm.Cond.code ({ cls := "java/lang/Object", name := "<init>", desc := "()V" } : Jvm.MethodName) object_method_1_code (1 : Nat) (Option.none : Option Jvm.ClassFile.FieldType), Jvm.Cond.code ({ cls := "com/example/stowage/stowage/dicom/UidIsValidPinLaw", name := "tailOk", desc := "(ZICCCC)Z" } : Jvm.MethodName) method_8_code (7 : Nat) (Option.some Jvm.ClassFile.FieldType.boolean), Jvm.Cond.code ({ cls := "com/example/stowage/stowage/dicom/Uid", name := "isValid", desc := "(Ljava/lang/String;)Z" } : Jvm.MethodName) prog_11_method_2_code (4 : Nat) (Option.some Jvm.ClassFile.FieldType.boolean), Jvm.Cond.code ({ cls := "java/lang/String", name := "length", desc := "()I" } : Jvm.MethodName) jdk_42_method_54_code (1 : Nat) (Option.some Jvm.ClassFile.FieldType.int), Jvm.Cond.code ({ cls := "java/lang/String", name := "coder", desc := "()B" } : Jvm.MethodName) jdk_42_method_152_code (1 : Nat) (Option.some Jvm.ClassFile.FieldType.byte), Jvm.Cond.code ({ cls := "java/lang/StringUTF16", name := "compress", desc := "([CII)[B" } : Jvm.MethodName) jdk_52_method_16_code (6 : Nat) (Option.some (Jvm.ClassFile.FieldType.array Jvm.ClassFile.FieldType.byte)), Jvm.Cond.code ({ cls := "java/lang/StringUTF16", name := "compress", desc := "([CI[BII)I" } : Jvm.MethodName) jdk_52_method_21_code (7 : Nat) (Option.some Jvm.ClassFile.FieldType.int), Jvm.Cond.code ({ cls := "java/lang/StringUTF16", name := "coderFromArrayLen", desc := "([BI)B" } : Jvm.MethodName) jdk_52_method_15_code (2 : Nat) (Option.some Jvm.ClassFile.FieldType.byte), Jvm.Cond.code ({ cls := "com/example/stowage/stowage/dicom/UidIsValidPinLaw", name := "digit", desc := "(C)Z" } : Jvm.MethodName) method_5_code (1 : Nat) (Option.some Jvm.ClassFile.FieldType.boolean), Jvm.Cond.code ({ cls := "java/lang/String", name := "charAt", desc := "(I)C" } : Jvm.MethodName) jdk_42_method_56_code (2 : Nat) (Option.some Jvm.ClassFile.FieldType.char), Jvm.Cond.code ({ cls := "java/lang/String", name := "isLatin1", desc := "()Z" } : Jvm.MethodName) jdk_42_method_154_code (1 : Nat) (Option.some Jvm.ClassFile.FieldType.boolean), Jvm.Cond.code ({ cls := "java/lang/StringLatin1", name := "charAt", desc := "([BI)C" } : Jvm.MethodName) jdk_43_method_2_code (2 : Nat) (Option.some Jvm.ClassFile.FieldType.char), Jvm.Cond.code ({ cls := "java/lang/String", name := "checkIndex", desc := "(II)V" } : Jvm.MethodName) jdk_42_method_155_code (2 : Nat) (Option.none : Option Jvm.ClassFile.FieldType), Jvm.Cond.code ({ cls := "jdk/internal/util/Preconditions", name := "checkIndex", desc := "(IILjava/util/function/BiFunction;)I" } : Jvm.MethodName) jdk_41_method_11_code (3 : Nat) (Option.some Jvm.ClassFile.FieldType.int), Jvm.Cond.code ({ cls := "com/example/stowage/stowage/dicom/UidIsValidPinLaw", name := "digitOrDot", desc := "(C)Z" } : Jvm.MethodName) method_6_code (1 : Nat) (Option.some Jvm.ClassFile.FieldType.boolean), Jvm.Cond.code ({ cls := "com/example/stowage/stowage/dicom/UidIsValidPinLaw", name := "dots", desc := "(CC)Z" } : Jvm.MethodName) method_7_code (2 : Nat) (Option.some Jvm.ClassFile.FieldType.boolean)]
set_option maxRecDepth 65536 in
theorem codes_eq : words1.filter isCode = codes1 := rfl
theorem w_codes : ∀ c ∈ words1.filter isCode, c.before args0 about1 = true := by
  rw [codes_eq]
  intro c hc
  simp only [codes1, List.mem_cons, List.not_mem_nil, or_false] at hc
  rcases hc with rfl | rfl | rfl | rfl | rfl | rfl | rfl | rfl | rfl | rfl | rfl | rfl | rfl | rfl | rfl | rfl | rfl | rfl | rfl | rfl | rfl
  · exact w_c0
  · exact w_c1
  · exact w_c2
  · exact w_c3
  · exact w_c4
  · exact w_c5
  · exact w_c6
  · exact w_c7
  · exact w_c8
  · exact w_c9
  · exact w_c10
  · exact w_c11
  · exact w_c12
  · exact w_c13
  · exact w_c14
  · exact w_c15
  · exact w_c16
  · exact w_c17
  · exact w_c18
  · exact w_c19
  · exact w_c20
set_option maxRecDepth 65536 in
theorem w_t1 : (words1.take 24).all (fun c => isCode c || c.before args0 about1) = true := by decide +kernel
set_option maxRecDepth 65536 in
theorem w_t2 : ((words1.drop 24).take 24).all (fun c => isCode c || c.before args0 about1) = true := by decide +kernel
set_option maxRecDepth 65536 in
theorem w_t3 : (((words1.drop 24).drop 24).take 24).all (fun c => isCode c || c.before args0 about1) = true := by decide +kernel
set_option maxRecDepth 65536 in
theorem w_t4 : (((words1.drop 24).drop 24).drop 24).all (fun c => isCode c || c.before args0 about1) = true := by decide +kernel
theorem w_tables : (allAtoms (Jvm.Cond.code x code maxLocals ret :: tables_1)).before args0 about1 = true := by
  rw [allAtoms_all]
  show words1.all (fun c => c.before args0 about1) = true
  refine all_split ?_ w_codes
  rw [← List.take_append_drop 24 words1, List.all_append, w_t1, ← List.take_append_drop 24 (words1.drop 24), List.all_append, w_t2, ← List.take_append_drop 24 ((words1.drop 24).drop 24), List.all_append, w_t3, w_t4]
  rfl
set_option maxRecDepth 65536 in
theorem w_rest : rest_1_c.before args0 about1 = true := by decide +kernel
set_option maxRecDepth 65536 in
theorem w_case : (Jvm.Cond.and given_1 narrow_1).before args0 about1 = true := by decide +kernel
set_option maxRecDepth 65536 in
theorem w_consts : constsHeld consts_1 about1 := Jvm.Lit.constsHeldB_iff.mp (by decide +kernel)
theorem w_applies : (headSpec (Jvm.Cond.code x code maxLocals ret :: tables_1) room_1).applies x e0.platform about1 = true :=
  (Spec.applies_iff w_frames).mpr ⟨w_running, w_runnable, w_alone, w_named, w_hears, w_ripe, w_room, w_tables⟩
theorem atStart : AtStart classFile x code maxLocals ret World_1 tables_1 room_1 Calls_1 rest_1 Pre_1 launch0 p0 e0 about1 theMethod args0 below0 :=
  ⟨lists_1, trivial, launch0.admits_env _ _ _, launch0.least_env, fairChoices_fair.cas, fairChoices_fair.clock, w_frames, w_args, w_heap, w_applies, ⟨w_consts, trivial⟩, w_rest, w_case⟩
end start1
theorem witness_1 : WitnessClaimed_1 := ⟨start1.p0, start1.e0, start1.about1, start1.theMethod, start1.args0, start1.below0, start1.atStart⟩
end Jvm.Pilot.@@N@@
