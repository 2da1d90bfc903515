import JvmDerived
import JvmDerived.Pilot.@@N@@Statement
import JvmDerived.Pilot.@@N@@Code
set_option linter.unusedVariables false
set_option linter.unusedSimpArgs false
namespace Jvm.OwnKit
open Jvm Jvm.ClassFile Sem Op Lib Jvm.Free Jvm.Stand Jvm.LawKit Jvm.RoadKit Bundle
abbrev EList := List (String × Nat)
def Dc (B : ByteArray) (pc : Nat) (i : Instr) (n pc' : Nat) : Prop := decode B pc = .ok (i, n) ∧ pc + n = pc'
def Db (B : ByteArray) (pc : Nat) (i : Instr) (o : Int) (pc' tgt : Nat) : Prop := decode B pc = .ok (i, 3) ∧ pc + 3 = pc' ∧ 0 ≤ (pc : Int) + o ∧ ((pc : Int) + o).toNat = tgt
def Go (p : Program) (e : Env) (below : List Frame) (F : Outcome → State → Prop) (T : State) (g : JFrame) : Prop :=
  ∃ s₂ o, Steps p.tables e below (T.setTop g) s₂ ∧ s₂.status = .running ∧ Ended s₂ below o ∧ F o s₂
def Sf (md : Option EList) (Z s' : State) (h : Heap) (x : Addr) : Prop := match md with | none => True | some EL => Safe Z EL s'.vm h x
def Jd (md : Option EList) (Z s s' : State) (h : Heap) : Prop := match md with
  | none => s' = s
  | some EL => ∃ (vm0 : Vm) (k0 : Nat) (a0 : Array Value), s' = s.setVm vm0 ∧ s.Since vm0 k0 ∧ k0 ≤ h.size ∧ CHr Z EL s.vm s.heap vm0 h ∧ EW Z a0 EL
theorem Jd.ext {md : Option EList} {Z s s' : State} {h h' : Heap} (J : Jd md Z s s' h) (E : Ext h h') : Jd md Z s s' h' := by
  cases md with
  | none => exact J
  | some EL => obtain ⟨vm0, k0, a0, rfl, j2, j3, j4, j5⟩ := J; exact ⟨vm0, k0, a0, rfl, j2, Nat.le_trans j3 E.1, j4.trans (CHr.ext E j4.1), j5⟩
theorem Jd.keep {md : Option EList} {Z s s' : State} {h h' : Heap} {ws : List Addr} (J : Jd md Z s s' h) (K : Keep h h' ws) (hs : ∀ x ∈ ws, Sf md Z s' h x) : Jd md Z s s' h' := by
  cases md with
  | none => exact J
  | some EL => obtain ⟨vm0, k0, a0, rfl, j2, j3, j4, j5⟩ := J; exact ⟨vm0, k0, a0, rfl, j2, Nat.le_trans j3 K.1, j4.trans (CHr.keep K hs j4.1), j5⟩
theorem Sf.ext {md : Option EList} {Z s s' : State} {h h' : Heap} {x : Addr} (S : Sf md Z s' h x) (J : Jd md Z s s' h) (E : Ext h h') : Sf md Z s' h' x := by
  cases md with
  | none => trivial
  | some EL => obtain ⟨vm0, k0, a0, rfl, j2, j3, j4, j5⟩ := J; exact Safe.ext E j4.1 S
theorem Sf.keep {md : Option EList} {Z s s' : State} {h h' : Heap} {x : Addr} {ws : List Addr} (S : Sf md Z s' h x) (J : Jd md Z s s' h) (K : Keep h h' ws) (hs : ∀ x ∈ ws, Sf md Z s' h x) : Sf md Z s' h' x := by
  cases md with
  | none => trivial
  | some EL => obtain ⟨vm0, k0, a0, rfl, j2, j3, j4, j5⟩ := J; exact Safe.keep K hs j4.1 S
theorem Sf.new {md : Option EList} {Z s' : State} {h : Heap} {x : Addr} (q : h.size ≤ x) : Sf md Z s' h x := by
  cases md with
  | none => trivial
  | some EL => exact Safe.new q
theorem Ext.rfl' (h : Heap) : Ext h h := ⟨Nat.le_refl _, fun _ _ q => q⟩
theorem Ext.tr {h h' h2 : Heap} (A : Ext h h') (B : Ext h' h2) : Ext h h2 := ⟨Nat.le_trans A.1 B.1, fun a c q => B.2 a c (A.2 a c q)⟩
/-- a keep whose written cells were made since -/
theorem Ext.kp {h h' h2 : Heap} {ws : List Addr} (A : Ext h h') (B : Keep h' h2 ws) (q : ∀ x ∈ ws, h.size ≤ x) : Ext h h2 := ⟨Nat.le_trans A.1 B.1, fun a c r => B.2.1 a c (A.2 a c r) fun z => absurd (Array.getElem?_eq_some_iff.mp r).1 (Nat.not_lt.mpr (q a z))⟩
theorem Ext.kp1 {h h' h2 : Heap} {x : Addr} (A : Ext h h') (B : Keep h' h2 [x]) (q : h.size ≤ x) : Ext h h2 := Ext.kp A B (allS q all0)
theorem Ext.of0 {h h' : Heap} (B : Keep h h' []) : Ext h h' := ⟨B.1, fun a c r => B.2.1 a c r nin0⟩
theorem Ext.keep {h h' : Heap} (E : Ext h h') (ws : List Addr) : Keep h h' ws := (Keep.refl h ws).ext E
def Cx (p : Program) (l : Launch) (e : Env) (R : Room) (s : State) (m : MethodId) (args : Array Value) (below : List Frame) (meth : Method) (c : Code) (B : ByteArray) (ML : Nat) (Z : State) (own : String) (n0 : Nat) (md : Option EList) (T : State) (h : Heap) (ws : List Addr) (cells slots : Nat) : Prop :=
  (p.tables.exec = Jvm.exec ∧ c.code = B ∧ c.maxLocals = ML) ∧ T.heap = h ∧ n0 ≤ h.size ∧ ∃ (s' : State) (locs : List Loc), Stand p l e R s' m args below meth c T locs cells slots ∧ Z.Warmed39 s'.vm ∧ s'.vm.findClass own = some m.cls ∧ Fr n0 locs ∧ Jd md Z s s' h ∧ ∀ x ∈ ws, n0 ≤ x ∧ x < h.size ∧ Sf md Z s' h x
section Kit
variable {p : Program} {l : Launch} {e : Env} {R : Room} {s : State} {m : MethodId} {args : Array Value} {below : List Frame} {meth : Method} {c : Code} {B : ByteArray} {ML : Nat} {Z : State} {own : String} {n0 : Nat} {md : Option EList} {T : State} {h : Heap} {ws : List Addr} {cells slots : Nat} {F : Outcome → State → Prop} {pc pc' tgt : Nat} {Ls Ls' : Array Slot} {St : List Value} {a0 : Array Value}
theorem Go.st {T T' : State} {g g' : JFrame} (k : Go p e below F T' g') (q : ∀ t, Steps p.tables e below (T'.setTop g') t → Steps p.tables e below (T.setTop g) t) : Go p e below F T g := by
  obtain ⟨s2, o, h1, h2⟩ := k; exact ⟨s2, o, q _ h1, h2⟩
theorem Go.tr {T T' : State} {g g' : JFrame} (k : Go p e below F T' g') (q : Steps p.tables e below (T.setTop g) (T'.setTop g')) : Go p e below F T g := by
  obtain ⟨s2, o, h1, h2⟩ := k; exact ⟨s2, o, q.trans h1, h2⟩
theorem Cx.mono {c' s' : Nat} (K : Cx p l e R s m args below meth c B ML Z own n0 md T h ws cells slots) (q1 : cells ≤ c') (q2 : slots ≤ s') : Cx p l e R s m args below meth c B ML Z own n0 md T h ws c' s' := by
  obtain ⟨k1, k2, k3, s1, locs, X, r⟩ := K
  exact ⟨k1, k2, k3, s1, locs, X.mono q1 q2, r⟩
theorem Cx.sub {ws' : List Addr} (K : Cx p l e R s m args below meth c B ML Z own n0 md T h ws cells slots) (q : ∀ x ∈ ws', x ∈ ws) : Cx p l e R s m args below meth c B ML Z own n0 md T h ws' cells slots := by
  obtain ⟨k1, k2, k3, s1, locs, X, r1, r2, r3, r4, r5⟩ := K
  exact ⟨k1, k2, k3, s1, locs, X, r1, r2, r3, r4, fun x hx => r5 x (q x hx)⟩
theorem Cx.n0le (K : Cx p l e R s m args below meth c B ML Z own n0 md T h ws cells slots) : n0 ≤ h.size := K.2.2.1
theorem Cx.wsge (K : Cx p l e R s m args below meth c B ML Z own n0 md T h ws cells slots) {x : Addr} (q : x ∈ ws) : n0 ≤ x := by obtain ⟨-, -, -, s1, locs, X, r1, r2, r3, r4, r5⟩ := K; exact (r5 x q).1
theorem Cx.wslt (K : Cx p l e R s m args below meth c B ML Z own n0 md T h ws cells slots) {x : Addr} (q : x ∈ ws) : x < h.size := by obtain ⟨-, -, -, s1, locs, X, r1, r2, r3, r4, r5⟩ := K; exact (r5 x q).2.1

theorem gAload (K : Cx p l e R s m args below meth c B ML Z own n0 md T h ws cells slots) {k : Nat} {v : Value} (hd : Dc B pc (.aload k) 2 pc') (hl : Ls[k]? = some (.val v)) (hv : v.isRef = true) (r : Go p e below F T (mkF m pc' Ls (v :: St))) : Go p e below F T (mkF m pc Ls St) := by
  obtain ⟨⟨hx, hby, -⟩, -, -, s1, locs, X, -⟩ := K
  obtain ⟨hd, rfl⟩ := hd
  exact r.st fun t q => XS.aload X.here hx rfl (hb hby hd) hl hv q

theorem gAloadN (K : Cx p l e R s m args below meth c B ML Z own n0 md T h ws cells slots) {k : Fin 4} {v : Value} (hd : Dc B pc (.aload_n k) 1 pc') (hl : Ls[k.val]? = some (.val v)) (hv : v.isRef = true) (r : Go p e below F T (mkF m pc' Ls (v :: St))) : Go p e below F T (mkF m pc Ls St) := by
  obtain ⟨⟨hx, hby, -⟩, -, -, s1, locs, X, -⟩ := K
  obtain ⟨hd, rfl⟩ := hd
  exact r.st fun t q => XS.aloadN X.here hx rfl (hb hby hd) hl hv q

theorem gIload (K : Cx p l e R s m args below meth c B ML Z own n0 md T h ws cells slots) {k : Nat} {v : Int32} (hd : Dc B pc (.iload k) 2 pc') (hl : Ls[k]? = some (.val (.int v))) (r : Go p e below F T (mkF m pc' Ls (.int v :: St))) : Go p e below F T (mkF m pc Ls St) := by
  obtain ⟨⟨hx, hby, -⟩, -, -, s1, locs, X, -⟩ := K
  obtain ⟨hd, rfl⟩ := hd
  exact r.st fun t q => XS.iload X.here hx rfl (hb hby hd) hl q

theorem gIloadN (K : Cx p l e R s m args below meth c B ML Z own n0 md T h ws cells slots) {k : Fin 4} {v : Int32} (hd : Dc B pc (.iload_n k) 1 pc') (hl : Ls[k.val]? = some (.val (.int v))) (r : Go p e below F T (mkF m pc' Ls (.int v :: St))) : Go p e below F T (mkF m pc Ls St) := by
  obtain ⟨⟨hx, hby, -⟩, -, -, s1, locs, X, -⟩ := K
  obtain ⟨hd, rfl⟩ := hd
  exact r.st fun t q => XS.iloadN X.here hx rfl (hb hby hd) hl q

theorem gLload (K : Cx p l e R s m args below meth c B ML Z own n0 md T h ws cells slots) {k : Nat} {v : Int64} (hd : Dc B pc (.lload k) 2 pc') (hl : Ls[k]? = some (.val (.long v))) (r : Go p e below F T (mkF m pc' Ls (.long v :: St))) : Go p e below F T (mkF m pc Ls St) := by
  obtain ⟨⟨hx, hby, -⟩, -, -, s1, locs, X, -⟩ := K
  obtain ⟨hd, rfl⟩ := hd
  exact r.st fun t q => XT.lload X.here hx rfl (hb hby hd) hl q

theorem gLloadN (K : Cx p l e R s m args below meth c B ML Z own n0 md T h ws cells slots) {k : Fin 4} {v : Int64} (hd : Dc B pc (.lload_n k) 1 pc') (hl : Ls[k.val]? = some (.val (.long v))) (r : Go p e below F T (mkF m pc' Ls (.long v :: St))) : Go p e below F T (mkF m pc Ls St) := by
  obtain ⟨⟨hx, hby, -⟩, -, -, s1, locs, X, -⟩ := K
  obtain ⟨hd, rfl⟩ := hd
  exact r.st fun t q => XT.lloadN X.here hx rfl (hb hby hd) hl q

theorem gIconst (K : Cx p l e R s m args below meth c B ML Z own n0 md T h ws cells slots) {i : Int} (v : Int32) (hd : Dc B pc (.iconst i) 1 pc') (hv : Int32.ofInt i = v) (r : Go p e below F T (mkF m pc' Ls (.int v :: St))) : Go p e below F T (mkF m pc Ls St) := by
  obtain ⟨⟨hx, hby, -⟩, -, -, s1, locs, X, -⟩ := K
  obtain ⟨hd, rfl⟩ := hd
  exact r.st fun t q => XT.iconstV X.here hx rfl v (hb hby hd) hv q

theorem gBipush (K : Cx p l e R s m args below meth c B ML Z own n0 md T h ws cells slots) {i : Int} (v : Int32) (hd : Dc B pc (.bipush i) 2 pc') (hv : (Int8.ofInt i).toInt32 = v) (r : Go p e below F T (mkF m pc' Ls (.int v :: St))) : Go p e below F T (mkF m pc Ls St) := by
  obtain ⟨⟨hx, hby, -⟩, -, -, s1, locs, X, -⟩ := K
  obtain ⟨hd, rfl⟩ := hd
  exact r.st fun t q => XT.bipushV X.here hx rfl v (hb hby hd) hv q

theorem gSipush (K : Cx p l e R s m args below meth c B ML Z own n0 md T h ws cells slots) {i : Int} (v : Int32) (hd : Dc B pc (.sipush i) 3 pc') (hv : (Int16.ofInt i).toInt32 = v) (r : Go p e below F T (mkF m pc' Ls (.int v :: St))) : Go p e below F T (mkF m pc Ls St) := by
  obtain ⟨⟨hx, hby, -⟩, -, -, s1, locs, X, -⟩ := K
  obtain ⟨hd, rfl⟩ := hd
  exact r.st fun t q => XT.sipushV X.here hx rfl v (hb hby hd) hv q

theorem gNull (K : Cx p l e R s m args below meth c B ML Z own n0 md T h ws cells slots)  (hd : Dc B pc (.aconst_null) 1 pc') (r : Go p e below F T (mkF m pc' Ls (.null :: St))) : Go p e below F T (mkF m pc Ls St) := by
  obtain ⟨⟨hx, hby, -⟩, -, -, s1, locs, X, -⟩ := K
  obtain ⟨hd, rfl⟩ := hd
  exact r.st fun t q => XS.aconstNull X.here hx rfl (hb hby hd) q

theorem gIadd (K : Cx p l e R s m args below meth c B ML Z own n0 md T h ws cells slots) {x y : Int32} (hd : Dc B pc (.iadd) 1 pc') (r : Go p e below F T (mkF m pc' Ls (.int (x + y) :: St))) : Go p e below F T (mkF m pc Ls (.int y :: .int x :: St)) := by
  obtain ⟨⟨hx, hby, -⟩, -, -, s1, locs, X, -⟩ := K
  obtain ⟨hd, rfl⟩ := hd
  exact r.st fun t q => XS.iadd X.here hx rfl (hb hby hd) rfl q

theorem gIsub (K : Cx p l e R s m args below meth c B ML Z own n0 md T h ws cells slots) {x y : Int32} (hd : Dc B pc (.isub) 1 pc') (r : Go p e below F T (mkF m pc' Ls (.int (x - y) :: St))) : Go p e below F T (mkF m pc Ls (.int y :: .int x :: St)) := by
  obtain ⟨⟨hx, hby, -⟩, -, -, s1, locs, X, -⟩ := K
  obtain ⟨hd, rfl⟩ := hd
  exact r.st fun t q => XS.isub X.here hx rfl (hb hby hd) rfl q

theorem gIand (K : Cx p l e R s m args below meth c B ML Z own n0 md T h ws cells slots) {x y : Int32} (hd : Dc B pc (.iand) 1 pc') (r : Go p e below F T (mkF m pc' Ls (.int (x &&& y) :: St))) : Go p e below F T (mkF m pc Ls (.int y :: .int x :: St)) := by
  obtain ⟨⟨hx, hby, -⟩, -, -, s1, locs, X, -⟩ := K
  obtain ⟨hd, rfl⟩ := hd
  exact r.st fun t q => XS.iand X.here hx rfl (hb hby hd) rfl q

theorem gImul (K : Cx p l e R s m args below meth c B ML Z own n0 md T h ws cells slots) {x y : Int32} (hd : Dc B pc (.imul) 1 pc') (r : Go p e below F T (mkF m pc' Ls (.int (x * y) :: St))) : Go p e below F T (mkF m pc Ls (.int y :: .int x :: St)) := by
  obtain ⟨⟨hx, hby, -⟩, -, -, s1, locs, X, -⟩ := K
  obtain ⟨hd, rfl⟩ := hd
  exact r.st fun t q => XS.imul X.here hx rfl (hb hby hd) rfl q

theorem gIor (K : Cx p l e R s m args below meth c B ML Z own n0 md T h ws cells slots) {x y : Int32} (hd : Dc B pc (.ior) 1 pc') (r : Go p e below F T (mkF m pc' Ls (.int (x ||| y) :: St))) : Go p e below F T (mkF m pc Ls (.int y :: .int x :: St)) := by
  obtain ⟨⟨hx, hby, -⟩, -, -, s1, locs, X, -⟩ := K
  obtain ⟨hd, rfl⟩ := hd
  exact r.st fun t q => XT.ior X.here hx rfl (hb hby hd) rfl q

theorem gIxor (K : Cx p l e R s m args below meth c B ML Z own n0 md T h ws cells slots) {x y : Int32} (hd : Dc B pc (.ixor) 1 pc') (r : Go p e below F T (mkF m pc' Ls (.int (x ^^^ y) :: St))) : Go p e below F T (mkF m pc Ls (.int y :: .int x :: St)) := by
  obtain ⟨⟨hx, hby, -⟩, -, -, s1, locs, X, -⟩ := K
  obtain ⟨hd, rfl⟩ := hd
  exact r.st fun t q => XT.ixor X.here hx rfl (hb hby hd) rfl q

theorem gIshl (K : Cx p l e R s m args below meth c B ML Z own n0 md T h ws cells slots) {x y : Int32} (hd : Dc B pc (.ishl) 1 pc') (r : Go p e below F T (mkF m pc' Ls (.int (x <<< (y &&& 31)) :: St))) : Go p e below F T (mkF m pc Ls (.int y :: .int x :: St)) := by
  obtain ⟨⟨hx, hby, -⟩, -, -, s1, locs, X, -⟩ := K
  obtain ⟨hd, rfl⟩ := hd
  exact r.st fun t q => XT.ishl X.here hx rfl (hb hby hd) rfl q

theorem gIshr (K : Cx p l e R s m args below meth c B ML Z own n0 md T h ws cells slots) {x y : Int32} (hd : Dc B pc (.ishr) 1 pc') (r : Go p e below F T (mkF m pc' Ls (.int (x >>> (y &&& 31)) :: St))) : Go p e below F T (mkF m pc Ls (.int y :: .int x :: St)) := by
  obtain ⟨⟨hx, hby, -⟩, -, -, s1, locs, X, -⟩ := K
  obtain ⟨hd, rfl⟩ := hd
  exact r.st fun t q => XT.ishr X.here hx rfl (hb hby hd) rfl q

theorem gIushr (K : Cx p l e R s m args below meth c B ML Z own n0 md T h ws cells slots) {x y : Int32} (hd : Dc B pc (.iushr) 1 pc') (r : Go p e below F T (mkF m pc' Ls (.int (XT.ushr x y) :: St))) : Go p e below F T (mkF m pc Ls (.int y :: .int x :: St)) := by
  obtain ⟨⟨hx, hby, -⟩, -, -, s1, locs, X, -⟩ := K
  obtain ⟨hd, rfl⟩ := hd
  exact r.st fun t q => XT.iushr X.here hx rfl (hb hby hd) rfl q

theorem gIdiv (K : Cx p l e R s m args below meth c B ML Z own n0 md T h ws cells slots) {x y : Int32} (hd : Dc B pc (.idiv) 1 pc') (hy : y ≠ 0) (r : Go p e below F T (mkF m pc' Ls (.int (x / y) :: St))) : Go p e below F T (mkF m pc Ls (.int y :: .int x :: St)) := by
  obtain ⟨⟨hx, hby, -⟩, -, -, s1, locs, X, -⟩ := K
  obtain ⟨hd, rfl⟩ := hd
  exact r.st fun t q => XS.idiv X.here hx rfl (hb hby hd) rfl hy q

theorem gIrem (K : Cx p l e R s m args below meth c B ML Z own n0 md T h ws cells slots) {x y : Int32} (hd : Dc B pc (.irem) 1 pc') (hy : y ≠ 0) (r : Go p e below F T (mkF m pc' Ls (.int (x % y) :: St))) : Go p e below F T (mkF m pc Ls (.int y :: .int x :: St)) := by
  obtain ⟨⟨hx, hby, -⟩, -, -, s1, locs, X, -⟩ := K
  obtain ⟨hd, rfl⟩ := hd
  exact r.st fun t q => iremM X hx rfl (hb hby hd) rfl hy q

theorem gIneg (K : Cx p l e R s m args below meth c B ML Z own n0 md T h ws cells slots) {x : Int32} (hd : Dc B pc (.ineg) 1 pc') (r : Go p e below F T (mkF m pc' Ls (.int (-x) :: St))) : Go p e below F T (mkF m pc Ls (.int x :: St)) := by
  obtain ⟨⟨hx, hby, -⟩, -, -, s1, locs, X, -⟩ := K
  obtain ⟨hd, rfl⟩ := hd
  exact r.st fun t q => XS.ineg X.here hx rfl (hb hby hd) rfl q

theorem gI2b (K : Cx p l e R s m args below meth c B ML Z own n0 md T h ws cells slots) {x : Int32} (hd : Dc B pc (.i2b) 1 pc') (r : Go p e below F T (mkF m pc' Ls (.int x.toInt8.toInt32 :: St))) : Go p e below F T (mkF m pc Ls (.int x :: St)) := by
  obtain ⟨⟨hx, hby, -⟩, -, -, s1, locs, X, -⟩ := K
  obtain ⟨hd, rfl⟩ := hd
  exact r.st fun t q => XT.i2b X.here hx rfl (hb hby hd) rfl q

theorem gI2c (K : Cx p l e R s m args below meth c B ML Z own n0 md T h ws cells slots) {x : Int32} (hd : Dc B pc (.i2c) 1 pc') (r : Go p e below F T (mkF m pc' Ls (.int x.toUInt32.toUInt16.toUInt32.toInt32 :: St))) : Go p e below F T (mkF m pc Ls (.int x :: St)) := by
  obtain ⟨⟨hx, hby, -⟩, -, -, s1, locs, X, -⟩ := K
  obtain ⟨hd, rfl⟩ := hd
  exact r.st fun t q => XT.i2c X.here hx rfl (hb hby hd) rfl q

theorem gL2i (K : Cx p l e R s m args below meth c B ML Z own n0 md T h ws cells slots) {x : Int64} (hd : Dc B pc (.l2i) 1 pc') (r : Go p e below F T (mkF m pc' Ls (.int x.toInt32 :: St))) : Go p e below F T (mkF m pc Ls (.long x :: St)) := by
  obtain ⟨⟨hx, hby, -⟩, -, -, s1, locs, X, -⟩ := K
  obtain ⟨hd, rfl⟩ := hd
  exact r.st fun t q => XT.l2i X.here hx rfl (hb hby hd) rfl q

theorem gLand (K : Cx p l e R s m args below meth c B ML Z own n0 md T h ws cells slots) {x y : Int64} (hd : Dc B pc (.land) 1 pc') (r : Go p e below F T (mkF m pc' Ls (.long (x &&& y) :: St))) : Go p e below F T (mkF m pc Ls (.long y :: .long x :: St)) := by
  obtain ⟨⟨hx, hby, -⟩, -, -, s1, locs, X, -⟩ := K
  obtain ⟨hd, rfl⟩ := hd
  exact r.st fun t q => XT.land X.here hx rfl (hb hby hd) rfl q

theorem gLushr (K : Cx p l e R s m args below meth c B ML Z own n0 md T h ws cells slots) {x : Int64} {y : Int32} (hd : Dc B pc (.lushr) 1 pc') (r : Go p e below F T (mkF m pc' Ls (.long (XT.ushrL x y) :: St))) : Go p e below F T (mkF m pc Ls (.int y :: .long x :: St)) := by
  obtain ⟨⟨hx, hby, -⟩, -, -, s1, locs, X, -⟩ := K
  obtain ⟨hd, rfl⟩ := hd
  exact r.st fun t q => XT.lushr X.here hx rfl (hb hby hd) rfl q

theorem gDup (K : Cx p l e R s m args below meth c B ML Z own n0 md T h ws cells slots) {x : Value} (hd : Dc B pc (.dup) 1 pc') (hc : x.category = 1) (r : Go p e below F T (mkF m pc' Ls (x :: x :: St))) : Go p e below F T (mkF m pc Ls (x :: St)) := by
  obtain ⟨⟨hx, hby, -⟩, -, -, s1, locs, X, -⟩ := K
  obtain ⟨hd, rfl⟩ := hd
  exact r.st fun t q => XS.dup X.here hx rfl (hb hby hd) rfl hc q

theorem gPop (K : Cx p l e R s m args below meth c B ML Z own n0 md T h ws cells slots) {x : Value} (hd : Dc B pc (.pop) 1 pc') (hc : x.category = 1) (r : Go p e below F T (mkF m pc' Ls St)) : Go p e below F T (mkF m pc Ls (x :: St)) := by
  obtain ⟨⟨hx, hby, -⟩, -, -, s1, locs, X, -⟩ := K
  obtain ⟨hd, rfl⟩ := hd
  exact r.st fun t q => XT.pop X.here hx rfl (hb hby hd) rfl hc q

theorem gIstore (K : Cx p l e R s m args below meth c B ML Z own n0 md T h ws cells slots) {k : Nat} {x : Int32} (hd : Dc B pc (.istore k) 2 pc') (hl : storeLocals Ls k (.int x) = some Ls') (r : Go p e below F T (mkF m pc' Ls' St)) : Go p e below F T (mkF m pc Ls (.int x :: St)) := by
  obtain ⟨⟨hx, hby, -⟩, -, -, s1, locs, X, -⟩ := K
  obtain ⟨hd, rfl⟩ := hd
  exact r.st fun t q => XS.istore X.here hx rfl (hb hby hd) rfl hl q

theorem gIstoreN (K : Cx p l e R s m args below meth c B ML Z own n0 md T h ws cells slots) {k : Fin 4} {x : Int32} (hd : Dc B pc (.istore_n k) 1 pc') (hl : storeLocals Ls k.val (.int x) = some Ls') (r : Go p e below F T (mkF m pc' Ls' St)) : Go p e below F T (mkF m pc Ls (.int x :: St)) := by
  obtain ⟨⟨hx, hby, -⟩, -, -, s1, locs, X, -⟩ := K
  obtain ⟨hd, rfl⟩ := hd
  exact r.st fun t q => XS.istoreN X.here hx rfl (hb hby hd) rfl hl q

theorem gAstore (K : Cx p l e R s m args below meth c B ML Z own n0 md T h ws cells slots) {k : Nat} {x : Value} (hd : Dc B pc (.astore k) 2 pc') (hv : x.isRef = true) (hl : storeLocals Ls k x = some Ls') (r : Go p e below F T (mkF m pc' Ls' St)) : Go p e below F T (mkF m pc Ls (x :: St)) := by
  obtain ⟨⟨hx, hby, -⟩, -, -, s1, locs, X, -⟩ := K
  obtain ⟨hd, rfl⟩ := hd
  exact r.st fun t q => XS.astore X.here hx rfl (hb hby hd) rfl hv hl q

theorem gAstoreN (K : Cx p l e R s m args below meth c B ML Z own n0 md T h ws cells slots) {k : Fin 4} {x : Value} (hd : Dc B pc (.astore_n k) 1 pc') (hv : x.isRef = true) (hl : storeLocals Ls k.val x = some Ls') (r : Go p e below F T (mkF m pc' Ls' St)) : Go p e below F T (mkF m pc Ls (x :: St)) := by
  obtain ⟨⟨hx, hby, -⟩, -, -, s1, locs, X, -⟩ := K
  obtain ⟨hd, rfl⟩ := hd
  exact r.st fun t q => XS.astoreN X.here hx rfl (hb hby hd) rfl hv hl q

theorem gIinc (K : Cx p l e R s m args below meth c B ML Z own n0 md T h ws cells slots) {k : Nat} {cst : Int} {x : Int32} (v : Int32) (hd : Dc B pc (.iinc k cst) 3 pc') (hv : Int32.ofInt cst = v) (hl : Ls[k]? = some (.val (.int x))) (hl' : storeLocals Ls k (.int (x + v)) = some Ls') (r : Go p e below F T (mkF m pc' Ls' St)) : Go p e below F T (mkF m pc Ls St) := by
  obtain ⟨⟨hx, hby, -⟩, -, -, s1, locs, X, -⟩ := K
  obtain ⟨hd, rfl⟩ := hd
  exact r.st fun t q => XT.iincV X.here hx rfl v (hb hby hd) hv hl hl' q

theorem gGoto (K : Cx p l e R s m args below meth c B ML Z own n0 md T h ws cells slots)  {o : Int} (hd : Db B pc (.goto o) o pc' tgt) (r : Go p e below F T (mkF m tgt Ls St)) : Go p e below F T (mkF m pc Ls St) := by
  obtain ⟨⟨hx, hby, -⟩, -, -, s1, locs, X, -⟩ := K
  obtain ⟨hd, rfl, ho, hp⟩ := hd
  exact r.st fun t q => XS.goto X.here hx rfl rfl (hb hby hd) ho hp q

theorem gIcmp_eq (K : Cx p l e R s m args below meth c B ML Z own n0 md T h ws cells slots) {x y : Int32} {o : Int} (hd : Db B pc (.if_icmp .eq o) o pc' tgt) (ry : x = y → Go p e below F T (mkF m tgt Ls St)) (rn : ¬ x = y → Go p e below F T (mkF m pc' Ls St)) : Go p e below F T (mkF m pc Ls (.int y :: .int x :: St)) := by
  obtain ⟨⟨hx, hby, -⟩, -, -, s1, locs, X, -⟩ := K
  obtain ⟨hd, rfl, ho, hp⟩ := hd
  by_cases hq : x = y
  · exact (ry hq).st fun t q => XS.icmpYes X.here hx rfl rfl (hb hby hd) rfl (teq hq).1 ho hp q
  · exact (rn hq).st fun t q => XS.icmpNo X.here hx rfl (hb hby hd) rfl (feq hq).1 q

theorem gIf_eq (K : Cx p l e R s m args below meth c B ML Z own n0 md T h ws cells slots) {x : Int32} {o : Int} (hd : Db B pc (.ifCond .eq o) o pc' tgt) (ry : x = (0 : Int32) → Go p e below F T (mkF m tgt Ls St)) (rn : ¬ x = (0 : Int32) → Go p e below F T (mkF m pc' Ls St)) : Go p e below F T (mkF m pc Ls (.int x :: St)) := by
  obtain ⟨⟨hx, hby, -⟩, -, -, s1, locs, X, -⟩ := K
  obtain ⟨hd, rfl, ho, hp⟩ := hd
  by_cases hq : x = (0 : Int32)
  · exact (ry hq).st fun t q => XS.ifYes X.here hx rfl rfl (hb hby hd) rfl ((if0 _ _).trans (teq hq).1) ho hp q
  · exact (rn hq).st fun t q => XS.ifNo X.here hx rfl (hb hby hd) rfl ((if0 _ _).trans (feq hq).1) q

theorem gIcmp_ne (K : Cx p l e R s m args below meth c B ML Z own n0 md T h ws cells slots) {x y : Int32} {o : Int} (hd : Db B pc (.if_icmp .ne o) o pc' tgt) (ry : ¬ x = y → Go p e below F T (mkF m tgt Ls St)) (rn : x = y → Go p e below F T (mkF m pc' Ls St)) : Go p e below F T (mkF m pc Ls (.int y :: .int x :: St)) := by
  obtain ⟨⟨hx, hby, -⟩, -, -, s1, locs, X, -⟩ := K
  obtain ⟨hd, rfl, ho, hp⟩ := hd
  by_cases hq : x = y
  · exact (rn hq).st fun t q => XS.icmpNo X.here hx rfl (hb hby hd) rfl (teq hq).2 q
  · exact (ry hq).st fun t q => XS.icmpYes X.here hx rfl rfl (hb hby hd) rfl (feq hq).2 ho hp q

theorem gIf_ne (K : Cx p l e R s m args below meth c B ML Z own n0 md T h ws cells slots) {x : Int32} {o : Int} (hd : Db B pc (.ifCond .ne o) o pc' tgt) (ry : ¬ x = (0 : Int32) → Go p e below F T (mkF m tgt Ls St)) (rn : x = (0 : Int32) → Go p e below F T (mkF m pc' Ls St)) : Go p e below F T (mkF m pc Ls (.int x :: St)) := by
  obtain ⟨⟨hx, hby, -⟩, -, -, s1, locs, X, -⟩ := K
  obtain ⟨hd, rfl, ho, hp⟩ := hd
  by_cases hq : x = (0 : Int32)
  · exact (rn hq).st fun t q => XS.ifNo X.here hx rfl (hb hby hd) rfl ((if0 _ _).trans (teq hq).2) q
  · exact (ry hq).st fun t q => XS.ifYes X.here hx rfl rfl (hb hby hd) rfl ((if0 _ _).trans (feq hq).2) ho hp q

theorem gIcmp_lt (K : Cx p l e R s m args below meth c B ML Z own n0 md T h ws cells slots) {x y : Int32} {o : Int} (hd : Db B pc (.if_icmp .lt o) o pc' tgt) (ry : x < y → Go p e below F T (mkF m tgt Ls St)) (rn : ¬ x < y → Go p e below F T (mkF m pc' Ls St)) : Go p e below F T (mkF m pc Ls (.int y :: .int x :: St)) := by
  obtain ⟨⟨hx, hby, -⟩, -, -, s1, locs, X, -⟩ := K
  obtain ⟨hd, rfl, ho, hp⟩ := hd
  by_cases hq : x < y
  · exact (ry hq).st fun t q => XS.icmpYes X.here hx rfl rfl (hb hby hd) rfl (tlt hq).1 ho hp q
  · exact (rn hq).st fun t q => XS.icmpNo X.here hx rfl (hb hby hd) rfl (flt hq).1 q

theorem gIf_lt (K : Cx p l e R s m args below meth c B ML Z own n0 md T h ws cells slots) {x : Int32} {o : Int} (hd : Db B pc (.ifCond .lt o) o pc' tgt) (ry : x < (0 : Int32) → Go p e below F T (mkF m tgt Ls St)) (rn : ¬ x < (0 : Int32) → Go p e below F T (mkF m pc' Ls St)) : Go p e below F T (mkF m pc Ls (.int x :: St)) := by
  obtain ⟨⟨hx, hby, -⟩, -, -, s1, locs, X, -⟩ := K
  obtain ⟨hd, rfl, ho, hp⟩ := hd
  by_cases hq : x < (0 : Int32)
  · exact (ry hq).st fun t q => XS.ifYes X.here hx rfl rfl (hb hby hd) rfl ((if0 _ _).trans (tlt hq).1) ho hp q
  · exact (rn hq).st fun t q => XS.ifNo X.here hx rfl (hb hby hd) rfl ((if0 _ _).trans (flt hq).1) q

theorem gIcmp_ge (K : Cx p l e R s m args below meth c B ML Z own n0 md T h ws cells slots) {x y : Int32} {o : Int} (hd : Db B pc (.if_icmp .ge o) o pc' tgt) (ry : ¬ x < y → Go p e below F T (mkF m tgt Ls St)) (rn : x < y → Go p e below F T (mkF m pc' Ls St)) : Go p e below F T (mkF m pc Ls (.int y :: .int x :: St)) := by
  obtain ⟨⟨hx, hby, -⟩, -, -, s1, locs, X, -⟩ := K
  obtain ⟨hd, rfl, ho, hp⟩ := hd
  by_cases hq : x < y
  · exact (rn hq).st fun t q => XS.icmpNo X.here hx rfl (hb hby hd) rfl (tlt hq).2.1 q
  · exact (ry hq).st fun t q => XS.icmpYes X.here hx rfl rfl (hb hby hd) rfl (flt hq).2.1 ho hp q

theorem gIf_ge (K : Cx p l e R s m args below meth c B ML Z own n0 md T h ws cells slots) {x : Int32} {o : Int} (hd : Db B pc (.ifCond .ge o) o pc' tgt) (ry : ¬ x < (0 : Int32) → Go p e below F T (mkF m tgt Ls St)) (rn : x < (0 : Int32) → Go p e below F T (mkF m pc' Ls St)) : Go p e below F T (mkF m pc Ls (.int x :: St)) := by
  obtain ⟨⟨hx, hby, -⟩, -, -, s1, locs, X, -⟩ := K
  obtain ⟨hd, rfl, ho, hp⟩ := hd
  by_cases hq : x < (0 : Int32)
  · exact (rn hq).st fun t q => XS.ifNo X.here hx rfl (hb hby hd) rfl ((if0 _ _).trans (tlt hq).2.1) q
  · exact (ry hq).st fun t q => XS.ifYes X.here hx rfl rfl (hb hby hd) rfl ((if0 _ _).trans (flt hq).2.1) ho hp q

theorem gIcmp_gt (K : Cx p l e R s m args below meth c B ML Z own n0 md T h ws cells slots) {x y : Int32} {o : Int} (hd : Db B pc (.if_icmp .gt o) o pc' tgt) (ry : y < x → Go p e below F T (mkF m tgt Ls St)) (rn : ¬ y < x → Go p e below F T (mkF m pc' Ls St)) : Go p e below F T (mkF m pc Ls (.int y :: .int x :: St)) := by
  obtain ⟨⟨hx, hby, -⟩, -, -, s1, locs, X, -⟩ := K
  obtain ⟨hd, rfl, ho, hp⟩ := hd
  by_cases hq : y < x
  · exact (ry hq).st fun t q => XS.icmpYes X.here hx rfl rfl (hb hby hd) rfl (tlt hq).2.2.1 ho hp q
  · exact (rn hq).st fun t q => XS.icmpNo X.here hx rfl (hb hby hd) rfl (flt hq).2.2.1 q

theorem gIf_gt (K : Cx p l e R s m args below meth c B ML Z own n0 md T h ws cells slots) {x : Int32} {o : Int} (hd : Db B pc (.ifCond .gt o) o pc' tgt) (ry : (0 : Int32) < x → Go p e below F T (mkF m tgt Ls St)) (rn : ¬ (0 : Int32) < x → Go p e below F T (mkF m pc' Ls St)) : Go p e below F T (mkF m pc Ls (.int x :: St)) := by
  obtain ⟨⟨hx, hby, -⟩, -, -, s1, locs, X, -⟩ := K
  obtain ⟨hd, rfl, ho, hp⟩ := hd
  by_cases hq : (0 : Int32) < x
  · exact (ry hq).st fun t q => XS.ifYes X.here hx rfl rfl (hb hby hd) rfl ((if0 _ _).trans (tlt hq).2.2.1) ho hp q
  · exact (rn hq).st fun t q => XS.ifNo X.here hx rfl (hb hby hd) rfl ((if0 _ _).trans (flt hq).2.2.1) q

theorem gIcmp_le (K : Cx p l e R s m args below meth c B ML Z own n0 md T h ws cells slots) {x y : Int32} {o : Int} (hd : Db B pc (.if_icmp .le o) o pc' tgt) (ry : ¬ y < x → Go p e below F T (mkF m tgt Ls St)) (rn : y < x → Go p e below F T (mkF m pc' Ls St)) : Go p e below F T (mkF m pc Ls (.int y :: .int x :: St)) := by
  obtain ⟨⟨hx, hby, -⟩, -, -, s1, locs, X, -⟩ := K
  obtain ⟨hd, rfl, ho, hp⟩ := hd
  by_cases hq : y < x
  · exact (rn hq).st fun t q => XS.icmpNo X.here hx rfl (hb hby hd) rfl (tlt hq).2.2.2 q
  · exact (ry hq).st fun t q => XS.icmpYes X.here hx rfl rfl (hb hby hd) rfl (flt hq).2.2.2 ho hp q

theorem gIf_le (K : Cx p l e R s m args below meth c B ML Z own n0 md T h ws cells slots) {x : Int32} {o : Int} (hd : Db B pc (.ifCond .le o) o pc' tgt) (ry : ¬ (0 : Int32) < x → Go p e below F T (mkF m tgt Ls St)) (rn : (0 : Int32) < x → Go p e below F T (mkF m pc' Ls St)) : Go p e below F T (mkF m pc Ls (.int x :: St)) := by
  obtain ⟨⟨hx, hby, -⟩, -, -, s1, locs, X, -⟩ := K
  obtain ⟨hd, rfl, ho, hp⟩ := hd
  by_cases hq : (0 : Int32) < x
  · exact (rn hq).st fun t q => XS.ifNo X.here hx rfl (hb hby hd) rfl ((if0 _ _).trans (tlt hq).2.2.2) q
  · exact (ry hq).st fun t q => XS.ifYes X.here hx rfl rfl (hb hby hd) rfl ((if0 _ _).trans (flt hq).2.2.2) ho hp q

theorem gIfnull_t (K : Cx p l e R s m args below meth c B ML Z own n0 md T h ws cells slots)  {o : Int} (hd : Db B pc (.ifnull o) o pc' tgt) (r : Go p e below F T (mkF m tgt Ls St)) : Go p e below F T (mkF m pc Ls (.null :: St)) := by
  obtain ⟨⟨hx, hby, -⟩, -, -, s1, locs, X, -⟩ := K
  obtain ⟨hd, rfl, ho, hp⟩ := hd
  exact r.st fun t q => XS.ifnullYes X.here hx rfl rfl (hb hby hd) rfl ho hp q

theorem gIfnull_f (K : Cx p l e R s m args below meth c B ML Z own n0 md T h ws cells slots) {b : Addr} {o : Int} (hd : Db B pc (.ifnull o) o pc' tgt) (r : Go p e below F T (mkF m pc' Ls St)) : Go p e below F T (mkF m pc Ls (.ref b :: St)) := by
  obtain ⟨⟨hx, hby, -⟩, -, -, s1, locs, X, -⟩ := K
  obtain ⟨hd, rfl, ho, hp⟩ := hd
  exact r.st fun t q => XS.ifnullNo X.here hx rfl (hb hby hd) rfl q

theorem gIfnonnull_t (K : Cx p l e R s m args below meth c B ML Z own n0 md T h ws cells slots) {b : Addr} {o : Int} (hd : Db B pc (.ifnonnull o) o pc' tgt) (r : Go p e below F T (mkF m tgt Ls St)) : Go p e below F T (mkF m pc Ls (.ref b :: St)) := by
  obtain ⟨⟨hx, hby, -⟩, -, -, s1, locs, X, -⟩ := K
  obtain ⟨hd, rfl, ho, hp⟩ := hd
  exact r.st fun t q => XT.ifnonnullYes X.here hx rfl rfl (hb hby hd) rfl ho hp q

theorem gIfnonnull_f (K : Cx p l e R s m args below meth c B ML Z own n0 md T h ws cells slots)  {o : Int} (hd : Db B pc (.ifnonnull o) o pc' tgt) (r : Go p e below F T (mkF m pc' Ls St)) : Go p e below F T (mkF m pc Ls (.null :: St)) := by
  obtain ⟨⟨hx, hby, -⟩, -, -, s1, locs, X, -⟩ := K
  obtain ⟨hd, rfl, ho, hp⟩ := hd
  exact r.st fun t q => XT.ifnonnullNo X.here hx rfl (hb hby hd) rfl q

theorem gAcmp_eq (K : Cx p l e R s m args below meth c B ML Z own n0 md T h ws cells slots) {x y : Value} {o : Int} (hd : Db B pc (.if_acmp .eq o) o pc' tgt) (h1 : x.isRef = true) (h2 : y.isRef = true) (ry : x = y → Go p e below F T (mkF m tgt Ls St)) (rn : ¬ x = y → Go p e below F T (mkF m pc' Ls St)) : Go p e below F T (mkF m pc Ls (y :: x :: St)) := by
  obtain ⟨⟨hx, hby, -⟩, -, -, s1, locs, X, -⟩ := K
  obtain ⟨hd, rfl, ho, hp⟩ := hd
  by_cases hq : x = y
  · exact (ry hq).st fun t q => XT.acmpYes X.here hx rfl rfl (hb hby hd) rfl h1 h2 (XT.aa_eq_t hq) ho hp q
  · exact (rn hq).st fun t q => XT.acmpNo X.here hx rfl (hb hby hd) rfl h1 h2 (XT.aa_eq_f hq) q

theorem gAcmp_ne (K : Cx p l e R s m args below meth c B ML Z own n0 md T h ws cells slots) {x y : Value} {o : Int} (hd : Db B pc (.if_acmp .ne o) o pc' tgt) (h1 : x.isRef = true) (h2 : y.isRef = true) (ry : ¬ x = y → Go p e below F T (mkF m tgt Ls St)) (rn : x = y → Go p e below F T (mkF m pc' Ls St)) : Go p e below F T (mkF m pc Ls (y :: x :: St)) := by
  obtain ⟨⟨hx, hby, -⟩, -, -, s1, locs, X, -⟩ := K
  obtain ⟨hd, rfl, ho, hp⟩ := hd
  by_cases hq : x = y
  · exact (rn hq).st fun t q => XT.acmpNo X.here hx rfl (hb hby hd) rfl h1 h2 (XT.aa_ne_f hq) q
  · exact (ry hq).st fun t q => XT.acmpYes X.here hx rfl rfl (hb hby hd) rfl h1 h2 (XT.aa_ne_t hq) ho hp q

/-! ## steps that touch the heap or the tables -/
theorem Cx.same {T' : State} {s1 : State} {locs : List Loc} (K : Cx p l e R s m args below meth c B ML Z own n0 md T h ws cells slots) (X' : Stand p l e R s1 m args below meth c T' locs cells slots) (e' : T'.heap = h) (hZ : Z.Warmed39 s1.vm) (hown : s1.vm.findClass own = some m.cls) (N : Fr n0 locs) (J : Jd md Z s s1 h) (Wq : ∀ x ∈ ws, n0 ≤ x ∧ x < h.size ∧ Sf md Z s1 h x) : Cx p l e R s m args below meth c B ML Z own n0 md T' h ws cells slots :=
  ⟨K.1, e', K.2.2.1, s1, locs, X', hZ, hown, N, J, Wq⟩
theorem gGet (K : Cx p l e R s m args below meth c B ML Z own n0 md T h ws cells slots) {O n d : String} {index : Nat} {a : Addr} {v : Value} (hd : Dc B pc (.getfield index) 3 pc') (w : (Cond.fieldLink own index O n d).before a0 Z = true) (Fd : Fld Z h a O n d v)
    (k : ∀ T', Cx p l e R s m args below meth c B ML Z own n0 md T' h ws cells slots → Go p e below F T' (mkF m pc' Ls (v :: St))) : Go p e below F T (mkF m pc Ls (.ref a :: St)) := by
  have K0 := K
  obtain ⟨⟨hx, hby, hml⟩, eT, hn0, s1, locs, X, hZ, hown, N, J, Wq⟩ := K
  obtain ⟨hd, rfl⟩ := hd
  obtain ⟨T', X', e', st⟩ := getF X hx hZ hown (host := "") (Or.inl w) Via.refl eT Fd (g := mkF m pc Ls (.ref a :: St)) rfl rfl (hb hby hd)
  exact (k T' (K0.same X' e' hZ hown N J Wq)).st st
theorem gGetVia (K : Cx p l e R s m args below meth c B ML Z own n0 md T h ws cells slots) {R0 O n d : String} {index : Nat} {a : Addr} {v : Value} (hd : Dc B pc (.getfield index) 3 pc') (w : (Cond.fieldLink own index R0 n d).before a0 Z = true) (via : Via Z R0 O n d) (Fd : Fld Z h a O n d v)
    (k : ∀ T', Cx p l e R s m args below meth c B ML Z own n0 md T' h ws cells slots → Go p e below F T' (mkF m pc' Ls (v :: St))) : Go p e below F T (mkF m pc Ls (.ref a :: St)) := by
  have K0 := K
  obtain ⟨⟨hx, hby, hml⟩, eT, hn0, s1, locs, X, hZ, hown, N, J, Wq⟩ := K
  obtain ⟨hd, rfl⟩ := hd
  obtain ⟨T', X', e', st⟩ := getF X hx hZ hown (host := "") (Or.inl w) via eT Fd (g := mkF m pc Ls (.ref a :: St)) rfl rfl (hb hby hd)
  exact (k T' (K0.same X' e' hZ hown N J Wq)).st st
theorem gGetS (K : Cx p l e R s m args below meth c B ML Z own n0 md T h ws cells slots) {O n d : String} {index : Nat} {v : Value} (hd : Dc B pc (.getstatic index) 3 pc') (w : (Cond.fieldLink own index O n d).before a0 Z = true) (Fd : Sta Z h O n d v)
    (k : ∀ T', Cx p l e R s m args below meth c B ML Z own n0 md T' h ws cells slots → Go p e below F T' (mkF m pc' Ls (v :: St))) : Go p e below F T (mkF m pc Ls St) := by
  have K0 := K
  obtain ⟨⟨hx, hby, hml⟩, eT, hn0, s1, locs, X, hZ, hown, N, J, Wq⟩ := K
  obtain ⟨hd, rfl⟩ := hd
  obtain ⟨T', X', e', st⟩ := getS2 X hx hZ hown (host := "") (Or.inl w) Via.refl eT Fd (g := mkF m pc Ls St) rfl (hb hby hd)
  exact (k T' (K0.same X' e' hZ hown N J Wq)).st st
theorem gCast (K : Cx p l e R s m args below meth c B ML Z own n0 md T h ws cells slots) {C : String} {index : Nat} {a : Addr} (hd : Dc B pc (.checkcast index) 3 pc') (w : (Cond.classLink own index C).before a0 Z = true) (Fd : Ins Z h a C true)
    (k : ∀ T', Cx p l e R s m args below meth c B ML Z own n0 md T' h ws cells slots → Go p e below F T' (mkF m pc' Ls (.ref a :: St))) : Go p e below F T (mkF m pc Ls (.ref a :: St)) := by
  have K0 := K
  obtain ⟨⟨hx, hby, hml⟩, eT, hn0, s1, locs, X, hZ, hown, N, J, Wq⟩ := K
  obtain ⟨hd, rfl⟩ := hd
  obtain ⟨T', X', e', st⟩ := castY X hx hZ hown w eT Fd (g := mkF m pc Ls (.ref a :: St)) rfl rfl (hb hby hd)
  exact (k T' (K0.same X' e' hZ hown N J Wq)).st st
theorem gInstY (K : Cx p l e R s m args below meth c B ML Z own n0 md T h ws cells slots) {C : String} {index : Nat} {a : Addr} (hd : Dc B pc (.instanceof index) 3 pc') (w : (Cond.classLink own index C).before a0 Z = true) (Fd : Ins Z h a C true)
    (k : ∀ T', Cx p l e R s m args below meth c B ML Z own n0 md T' h ws cells slots → Go p e below F T' (mkF m pc' Ls (.int 1 :: St))) : Go p e below F T (mkF m pc Ls (.ref a :: St)) := by
  have K0 := K
  obtain ⟨⟨hx, hby, hml⟩, eT, hn0, s1, locs, X, hZ, hown, N, J, Wq⟩ := K
  obtain ⟨hd, rfl⟩ := hd
  obtain ⟨T', X', e', st⟩ := instY X hx hZ hown w eT Fd (g := mkF m pc Ls (.ref a :: St)) rfl rfl (hb hby hd)
  exact (k T' (K0.same X' e' hZ hown N J Wq)).st st
theorem gInstNo (K : Cx p l e R s m args below meth c B ML Z own n0 md T h ws cells slots) {C D : String} {index : Nat} {a : Addr} (hd : Dc B pc (.instanceof index) 3 pc') (w : (Cond.classLink own index D).before a0 Z = true) (E : Exa Z h a C) (Fd : ∃ c t, Z.vm.findClass C = some c ∧ Z.vm.findClass D = some t ∧ Z.vm.assignable c t = false)
    (k : ∀ T', Cx p l e R s m args below meth c B ML Z own n0 md T' h ws cells slots → Go p e below F T' (mkF m pc' Ls (.int 0 :: St))) : Go p e below F T (mkF m pc Ls (.ref a :: St)) := by
  have K0 := K
  obtain ⟨⟨hx, hby, hml⟩, eT, hn0, s1, locs, X, hZ, hown, N, J, Wq⟩ := K
  obtain ⟨hd, rfl⟩ := hd
  obtain ⟨T', X', e', st⟩ := instNo X hx hZ hown w eT E Fd (g := mkF m pc Ls (.ref a :: St)) rfl rfl (hb hby hd)
  exact (k T' (K0.same X' e' hZ hown N J Wq)).st st
theorem gInitO (K : Cx p l e R s m args below meth c B ML Z own n0 md T h ws cells slots) {index : Nat} {a : Addr} (hd : Dc B pc (.invokespecial index) 3 pc') (w1 : (Cond.methodLink own index Lib.objectInit).before a0 Z = true) (w2 : (Cond.instanceMethod Lib.objectInit).before a0 Z = true) (w3 : (Cond.code Lib.objectInit ⟨#[0xb1]⟩ 1 none).before a0 Z = true)
    (hsz : Ls.size = ML) (hf : 1 ≤ R.frames) {W : Nat} (hW : (St.map fun v => v.category).sum ≤ W) (hl : W + 12 ≤ R.locals)
    (k : ∀ T', Cx p l e R s m args below meth c B ML Z own n0 md T' h ws cells slots → Go p e below F T' (mkF m pc' Ls St)) : Go p e below F T (mkF m pc Ls (.ref a :: St)) := by
  have K0 := K
  obtain ⟨⟨hx, hby, hml⟩, eT, hn0, s1, locs, X, hZ, hown, N, J, Wq⟩ := K
  obtain ⟨hd, rfl⟩ := hd
  obtain ⟨T', X', e', st⟩ := initO X hx hZ hown w1 w2 w3 eT (g := mkF m pc Ls (.ref a :: St)) rfl (by rw [hml]; exact hsz) rfl (hb hby hd) hf (W := W) (by show 2 * 0 + _ ≤ _; omega) hl
  exact (k T' (K0.same X' e' hZ hown N J Wq)).st st
theorem Cx.grow {T' : State} {h' : Heap} {c' n' : Nat} {s1 : State} {locs : List Loc} (K : Cx p l e R s m args below meth c B ML Z own n0 md T h ws cells slots) (X' : Stand p l e R s1 m args below meth c T' locs c' n') (e' : T'.heap = h') (E : Ext h h') (hlt : h.size < h'.size) (hZ : Z.Warmed39 s1.vm) (hown : s1.vm.findClass own = some m.cls) (N : Fr n0 locs) (J : Jd md Z s s1 h) (Wq : ∀ x ∈ ws, n0 ≤ x ∧ x < h.size ∧ Sf md Z s1 h x) : Cx p l e R s m args below meth c B ML Z own n0 md T' h' (h.size :: ws) c' n' :=
  ⟨K.1, e', Nat.le_trans K.2.2.1 E.1, s1, locs, X', hZ, hown, N, J.ext E, fun x hx => by
    rcases List.mem_cons.mp hx with rfl | hx
    · exact ⟨K.2.2.1, hlt, (Sf.new (Nat.le_refl _)).ext J E⟩
    · obtain ⟨q1, q2, q3⟩ := Wq x hx; exact ⟨q1, Nat.lt_of_lt_of_le q2 E.1, q3.ext J E⟩⟩
theorem gNew (K : Cx p l e R s m args below meth c B ML Z own n0 md T h ws cells slots) {C : String} {index n : Nat} (hd : Dc B pc (.new index) 3 pc') (w : (Cond.classLink own index C).before a0 Z = true) (wi : (Cond.instantiable C n).before a0 Z = true) (wz : (Cond.initialized C).before a0 Z = true) (hc : cells + 1 ≤ R.cells) (hl : slots + n ≤ R.slots)
    (k : ∀ (T' : State) (h' : Heap) (x : Addr), Cx p l e R s m args below meth c B ML Z own n0 md T' h' (x :: ws) (cells + 1) (slots + n) → Ext h h' → x = h.size → Exa Z h' x C → (∀ {O nm d : String} {ty : FieldType}, Laid Z a0 C O nm d → parseFieldDescriptor d = some ty → Fld Z h' x O nm d (defaultValue ty)) → (∀ y ∈ ws, y ≠ x) → Go p e below F T' (mkF m pc' Ls (.ref x :: St))) : Go p e below F T (mkF m pc Ls St) := by
  have K0 := K
  obtain ⟨⟨hx, hby, hml⟩, eT, hn0, s1, locs, X, hZ, hown, N, J, Wq⟩ := K
  obtain ⟨hd, rfl⟩ := hd
  obtain ⟨T', h', X', e', E, A, D, -, st⟩ := newO X hx hZ hown w wi wz eT (g := mkF m pc Ls St) rfl (hb hby hd) hc hl
  exact (k T' h' h.size (K0.grow X' e' E A.lt hZ hown N J Wq) E rfl A D (fun y hy => Nat.ne_of_lt (Wq y hy).2.1)).st st
theorem gNewarr (K : Cx p l e R s m args below meth c B ML Z own n0 md T h ws cells slots) {aty : ArrayType} {n : Int32} (hd : Dc B pc (.newarray aty) 2 pc') (w : (Cond.arrayClass (newarray.typeOf aty)).before a0 Z = true) (hn : ¬ n < 0) (cap : Nat) (hcap : n.toNatClampNeg ≤ cap) (hbb : cap * 8 ≤ 536870912) (hc : cells + 1 ≤ R.cells) (hl : slots + cap ≤ R.slots)
    (k : ∀ (T' : State) (h' : Heap) (x : Addr) (kA : ClassId), Cx p l e R s m args below meth c B ML Z own n0 md T' h' (x :: ws) (cells + 1) (slots + cap) → Ext h h' → x = h.size → Arv Z h' x kA (newarray.typeOf aty) n [] (defaultValue (newarray.typeOf aty)) → (∀ y ∈ ws, y ≠ x) → Go p e below F T' (mkF m pc' Ls (.ref x :: St))) : Go p e below F T (mkF m pc Ls (.int n :: St)) := by
  have K0 := K
  obtain ⟨⟨hx, hby, hml⟩, eT, hn0, s1, locs, X, hZ, hown, N, J, Wq⟩ := K
  obtain ⟨hd, rfl⟩ := hd
  obtain ⟨T', h', cA, X', e', E, A, st⟩ := newP X hx hZ w eT (g := mkF m pc Ls (.int n :: St)) rfl (hb hby hd) rfl hn hcap hbb hc hl
  exact (k T' h' h.size cA (K0.grow X' e' E A.lt hZ hown N J Wq) E rfl (Arv.new A hn) (fun y hy => Nat.ne_of_lt (Wq y hy).2.1)).st st
theorem Cx.wrote {T' : State} {h' : Heap} {s1 : State} {locs : List Loc} {a : Addr} {sl : Nat} {v : Value} (K : Cx p l e R s m args below meth c B ML Z own n0 md T h ws cells slots) (X' : Stand p l e R s1 m args below meth c T' (locs ++ [⟨a, sl⟩]) cells slots) (e' : T'.heap = h') (W : Wr h h' a sl v) (hm : a ∈ ws) (hZ : Z.Warmed39 s1.vm) (hown : s1.vm.findClass own = some m.cls) (N : Fr n0 locs) (J : Jd md Z s s1 h) (Wq : ∀ x ∈ ws, n0 ≤ x ∧ x < h.size ∧ Sf md Z s1 h x) : Cx p l e R s m args below meth c B ML Z own n0 md T' h' ws cells slots :=
  have hs : ∀ x ∈ [a], Sf md Z s1 h x := allS (Wq a hm).2.2 all0
  ⟨K.1, e', by rw [W.size]; exact K.2.2.1, s1, _, X', hZ, hown, Fr.snoc X' N (Wq a hm).1, J.keep (Keep.of_wr W) hs, fun x hx => by
    obtain ⟨q1, q2, q3⟩ := Wq x hx; exact ⟨q1, by rw [W.size]; exact q2, q3.keep J (Keep.of_wr W) hs⟩⟩
theorem gPut (K : Cx p l e R s m args below meth c B ML Z own n0 md T h ws cells slots) {O n d C : String} {index kk : Nat} {ty : FieldType} {a : Addr} {v old : Value} (hd : Dc B pc (.putfield index) 3 pc') (w : (Cond.fieldLink own index O n d).before a0 Z = true) (hm : a ∈ ws) (Fd : Fld Z h a O n d old) (E : Exa Z h a C)
    (L : (Cond.lays C O n d).before a0 Z = true ∨ ((Cond.laysFinal C O n d).before a0 Z = true ∧ own = O ∧ meth.name = "<init>")) (wi : (Cond.instantiable C kk).before a0 Z = true) (hty : parseFieldDescriptor d = some ty) (hn : narrow ty v = v) (hf : fits ty v = true)
    (k : ∀ (T' : State) (h' : Heap), Cx p l e R s m args below meth c B ML Z own n0 md T' h' ws cells slots → Wr h h' a (RoadKit.slotOf Z O n d) v → Fld Z h' a O n d v → Go p e below F T' (mkF m pc' Ls St)) : Go p e below F T (mkF m pc Ls (v :: .ref a :: St)) := by
  have K0 := K
  obtain ⟨⟨hx, hby, hml⟩, eT, hn0, s1, locs, X, hZ, hown, N, J, Wq⟩ := K
  obtain ⟨hd, rfl⟩ := hd
  obtain ⟨T', h', X', e', W, st⟩ := putF X hx hZ hown (host := "") (Or.inl w) Via.refl eT Fd E L wi hty hn hf (g := mkF m pc Ls (v :: .ref a :: St)) rfl rfl (hb hby hd)
  exact (k T' h' (K0.wrote X' e' W hm hZ hown N J Wq) W (Fd.same W)).st st
theorem nar_c {x : Int32} (h0 : ¬ x < 0) (h1 : ¬ (65535 : Int32) < x) : nar .char x = x := by
  have q := rng32 x
  have a0 : 0 ≤ x.toInt := by rw [Int32.lt_iff_toInt_lt] at h0; simpa using h0
  have a1 : x.toInt ≤ 65535 := by rw [Int32.lt_iff_toInt_lt] at h1; have : (65535 : Int32).toInt = 65535 := by decide
                                  omega
  apply Int32.toInt_inj.mp
  show (x.toUInt32.toUInt16.toUInt32.toInt32).toInt = x.toInt
  have := c_i2c x
  omega
theorem getD_push {vs : List Value} {v dv : Value} {i : Nat} (q : ¬ vs.length = i) : (vs ++ [v]).getD i dv = vs.getD i dv := by
  rw [List.getD_eq_getElem?_getD, List.getD_eq_getElem?_getD]
  by_cases e2 : i < vs.length
  · rw [List.getElem?_append_left e2]
  · rw [List.getElem?_eq_none (by simp; omega), List.getElem?_eq_none (by omega)]
theorem getD_last {vs : List Value} {v dv : Value} : (vs ++ [v]).getD vs.length dv = v := by
  rw [List.getD_eq_getElem?_getD]; simp
theorem arv_push {cl : Cell} {a : Addr} {kA : ClassId} {ty : FieldType} {z j : Int32} {vs : List Value} {dv v : Value} {h' : Heap} (A : Arr Z h a cl ty) (q1 : cl.cls = kA) (S : cl.slots.size = z.toNatClampNeg) (q3 : ¬ z < 0) (H : Has cl vs dv) (G : ∀ i, i < cl.slots.size → fits ty (vs.getD i dv) = true) (hv : fits ty v = true) (W : Wr h h' a j.toNatClampNeg v) (hj : j.toNatClampNeg = vs.length) : Arv Z h' a kA ty z (vs ++ [v]) dv := by
  refine ⟨cl.setSlot j.toNatClampNeg v, A.same W, q1, ?_, q3, ?_, ?_⟩
  · rw [← S]; simp [Cell.setSlot]
  · intro i hi
    have hi' : i < cl.slots.size := by simpa [Cell.setSlot] using hi
    have h9 := H i hi'
    simp only [Cell.setSlot]
    rw [hj]
    by_cases e1 : vs.length = i
    · subst e1; rw [getD_last]; simp [hi']
    · rw [Array.getElem?_setIfInBounds_ne e1, h9, getD_push e1]
  · intro i hi
    have hi' : i < cl.slots.size := by simpa [Cell.setSlot] using hi
    by_cases e1 : vs.length = i
    · subst e1; rw [getD_last]; exact hv
    · rw [getD_push e1]; exact G i hi'

/-! ## arrays -/
theorem gCastore (K : Cx p l e R s m args below meth c B ML Z own n0 md T h ws cells slots) {a : Addr} {kA : ClassId} {z j x : Int32} {vs : List Value} {dv : Value} (hd : Dc B pc .castore 1 pc') (hm : a ∈ ws) (A : Arv Z h a kA .char z vs dv) (hj : j.toNatClampNeg = vs.length) (hlt : ¬ j < 0 ∧ j < z) (hx0 : ¬ x < 0) (hx1 : ¬ (65535 : Int32) < x)
    (k : ∀ (T' : State) (h' : Heap), Cx p l e R s m args below meth c B ML Z own n0 md T' h' ws cells slots → Keep h h' [a] → Arv Z h' a kA .char z (vs ++ [.int x]) dv → Go p e below F T' (mkF m pc' Ls St)) : Go p e below F T (mkF m pc Ls (.int x :: .int j :: .ref a :: St)) := by
  have K0 := K
  obtain ⟨⟨hx, hby, hml⟩, eT, hn0, s1, locs, X, hZ, hown, N, J, Wq⟩ := K
  obtain ⟨hd, rfl⟩ := hd
  obtain ⟨cl, A1, A2, A3, A4, A5, A6⟩ := A
  obtain ⟨T', h', X', e', W, st⟩ := stC X hx hZ eT A1 (inb_of A3 hlt) (x := x) (g := mkF m pc Ls (.int x :: .int j :: .ref a :: St)) rfl rfl (hb hby hd)
  rw [nar_c hx0 hx1] at W
  have hf : fits .char (.int x) = true := by rw [← nar_c hx0 hx1]; exact fits_nar_char x
  exact (k T' h' (K0.wrote X' e' W hm hZ hown N J Wq) (Keep.of_wr W) (arv_push A1 A2 A3 A4 A5 A6 hf W hj)).st st
theorem gBastore (K : Cx p l e R s m args below meth c B ML Z own n0 md T h ws cells slots) {a : Addr} {kA : ClassId} {z j x : Int32} {vs : List Value} {dv : Value} (hd : Dc B pc .bastore 1 pc') (hm : a ∈ ws) (A : Arv Z h a kA .byte z vs dv) (hj : j.toNatClampNeg = vs.length) (hlt : ¬ j < 0 ∧ j < z)
    (k : ∀ (T' : State) (h' : Heap), Cx p l e R s m args below meth c B ML Z own n0 md T' h' ws cells slots → Keep h h' [a] → Arv Z h' a kA .byte z (vs ++ [.int (nar .byte x)]) dv → Go p e below F T' (mkF m pc' Ls St)) : Go p e below F T (mkF m pc Ls (.int x :: .int j :: .ref a :: St)) := by
  have K0 := K
  obtain ⟨⟨hx, hby, hml⟩, eT, hn0, s1, locs, X, hZ, hown, N, J, Wq⟩ := K
  obtain ⟨hd, rfl⟩ := hd
  obtain ⟨cl, A1, A2, A3, A4, A5, A6⟩ := A
  obtain ⟨T', h', X', e', W, st⟩ := stB X hx hZ eT A1 (inb_of A3 hlt) (x := x) (g := mkF m pc Ls (.int x :: .int j :: .ref a :: St)) rfl rfl (hb hby hd)
  exact (k T' h' (K0.wrote X' e' W hm hZ hown N J Wq) (Keep.of_wr W) (arv_push A1 A2 A3 A4 A5 A6 (fits_nar_byte x) W hj)).st st
/-- a store at a place below the known list's length -/
theorem gBastoreAt (K : Cx p l e R s m args below meth c B ML Z own n0 md T h ws cells slots) {a : Addr} {kA : ClassId} {z j x : Int32} {vs : List Value} {dv : Value} (hd : Dc B pc .bastore 1 pc') (hm : a ∈ ws) (A : Arv Z h a kA .byte z vs dv) (i : Nat) (hj : j.toNatClampNeg = i) (hi : i < vs.length) (hlt : ¬ j < 0 ∧ j < z)
    (k : ∀ (T' : State) (h' : Heap), Cx p l e R s m args below meth c B ML Z own n0 md T' h' ws cells slots → Keep h h' [a] → Arv Z h' a kA .byte z (vs.set i (.int (nar .byte x))) dv → Go p e below F T' (mkF m pc' Ls St)) : Go p e below F T (mkF m pc Ls (.int x :: .int j :: .ref a :: St)) := by
  have K0 := K
  obtain ⟨⟨hx, hby, hml⟩, eT, hn0, s1, locs, X, hZ, hown, N, J, Wq⟩ := K
  obtain ⟨hd, rfl⟩ := hd
  obtain ⟨cl, A1, A2, A3, A4, A5, A6⟩ := A
  obtain ⟨T', h', X', e', W, st⟩ := stB X hx hZ eT A1 (inb_of A3 hlt) (x := x) (g := mkF m pc Ls (.int x :: .int j :: .ref a :: St)) rfl rfl (hb hby hd)
  exact (k T' h' (K0.wrote X' e' W hm hZ hown N J Wq) (Keep.of_wr W) (Arv.set A1 A2 A3 A4 A5 A6 (fits_nar_byte x) W i hj hi)).st st
theorem gIastoreAt (K : Cx p l e R s m args below meth c B ML Z own n0 md T h ws cells slots) {a : Addr} {kA : ClassId} {z j x : Int32} {vs : List Value} {dv : Value} (hd : Dc B pc .iastore 1 pc') (hm : a ∈ ws) (A : Arv Z h a kA .int z vs dv) (i : Nat) (hj : j.toNatClampNeg = i) (hi : i < vs.length) (hlt : ¬ j < 0 ∧ j < z)
    (k : ∀ (T' : State) (h' : Heap), Cx p l e R s m args below meth c B ML Z own n0 md T' h' ws cells slots → Keep h h' [a] → Arv Z h' a kA .int z (vs.set i (.int x)) dv → Go p e below F T' (mkF m pc' Ls St)) : Go p e below F T (mkF m pc Ls (.int x :: .int j :: .ref a :: St)) := by
  have K0 := K
  obtain ⟨⟨hx, hby, hml⟩, eT, hn0, s1, locs, X, hZ, hown, N, J, Wq⟩ := K
  obtain ⟨hd, rfl⟩ := hd
  obtain ⟨cl, A1, A2, A3, A4, A5, A6⟩ := A
  obtain ⟨T', h', X', e', W, st⟩ := stI X hx hZ eT A1 (inb_of A3 hlt) (x := x) (g := mkF m pc Ls (.int x :: .int j :: .ref a :: St)) rfl rfl (hb hby hd)
  exact (k T' h' (K0.wrote X' e' W hm hZ hown N J Wq) (Keep.of_wr W) (Arv.set A1 A2 A3 A4 A5 A6 rfl W i hj hi)).st st
theorem gCaload (K : Cx p l e R s m args below meth c B ML Z own n0 md T h ws cells slots) {a : Addr} {kA : ClassId} {z j : Int32} {vs : List Value} {dv v : Value} (hd : Dc B pc .caload 1 pc') (A : Arv Z h a kA .char z vs dv) (hlt : ¬ j < 0 ∧ j < z) (hv : vs.getD j.toNatClampNeg dv = v) (r : Go p e below F T (mkF m pc' Ls (v :: St))) : Go p e below F T (mkF m pc Ls (.int j :: .ref a :: St)) := by
  obtain ⟨⟨hx, hby, hml⟩, eT, hn0, s1, locs, X, hZ, hown, N, J, Wq⟩ := K
  obtain ⟨hd, rfl⟩ := hd
  obtain ⟨cl, A1, A2, A3, A4, A5, A6⟩ := A
  exact r.st fun t q => X.caload hx (by rw [eT]; exact A1.1) (State.isArrayOf_alike hZ.alike A1.2.1) A1.2.2 (inb_of A3 hlt) (A5.at (inb_of A3 hlt) hv) (g := mkF m pc Ls (.int j :: .ref a :: St)) rfl rfl (hb hby hd) t q
theorem gBaload (K : Cx p l e R s m args below meth c B ML Z own n0 md T h ws cells slots) {a : Addr} {kA : ClassId} {z j : Int32} {vs : List Value} {dv v : Value} (hd : Dc B pc .baload 1 pc') (A : Arv Z h a kA .byte z vs dv) (hlt : ¬ j < 0 ∧ j < z) (hv : vs.getD j.toNatClampNeg dv = v) (r : Go p e below F T (mkF m pc' Ls (v :: St))) : Go p e below F T (mkF m pc Ls (.int j :: .ref a :: St)) := by
  obtain ⟨⟨hx, hby, hml⟩, eT, hn0, s1, locs, X, hZ, hown, N, J, Wq⟩ := K
  obtain ⟨hd, rfl⟩ := hd
  obtain ⟨cl, A1, A2, A3, A4, A5, A6⟩ := A
  exact r.st fun t q => X.baloadBytes hx (by rw [eT]; exact A1.1) (State.isArrayOf_alike hZ.alike A1.2.1) A1.2.2 (inb_of A3 hlt) (A5.at (inb_of A3 hlt) hv) (g := mkF m pc Ls (.int j :: .ref a :: St)) rfl rfl (hb hby hd) t q
theorem gIaload (K : Cx p l e R s m args below meth c B ML Z own n0 md T h ws cells slots) {a : Addr} {kA : ClassId} {z j : Int32} {vs : List Value} {dv v : Value} (hd : Dc B pc .iaload 1 pc') (A : Arv Z h a kA .int z vs dv) (hlt : ¬ j < 0 ∧ j < z) (hv : vs.getD j.toNatClampNeg dv = v) (r : Go p e below F T (mkF m pc' Ls (v :: St))) : Go p e below F T (mkF m pc Ls (.int j :: .ref a :: St)) := by
  obtain ⟨⟨hx, hby, hml⟩, eT, hn0, s1, locs, X, hZ, hown, N, J, Wq⟩ := K
  obtain ⟨hd, rfl⟩ := hd
  obtain ⟨cl, A1, A2, A3, A4, A5, A6⟩ := A
  exact r.st fun t q => X.iaload hx (by rw [eT]; exact A1.1) (State.isArrayOf_alike hZ.alike A1.2.1) A1.2.2 (inb_of A3 hlt) (A5.at (inb_of A3 hlt) hv) (g := mkF m pc Ls (.int j :: .ref a :: St)) rfl rfl (hb hby hd) t q
theorem gAaload (K : Cx p l e R s m args below meth c B ML Z own n0 md T h ws cells slots) {a : Addr} {kA : ClassId} {z j : Int32} {vs : List Value} {dv v : Value} {ty : FieldType} (hd : Dc B pc .aaload 1 pc') (A : Arv Z h a kA ty z vs dv) (hty : ty.isReference = true) (hlt : ¬ j < 0 ∧ j < z) (hv : vs.getD j.toNatClampNeg dv = v) (r : Go p e below F T (mkF m pc' Ls (v :: St))) : Go p e below F T (mkF m pc Ls (.int j :: .ref a :: St)) := by
  obtain ⟨⟨hx, hby, hml⟩, eT, hn0, s1, locs, X, hZ, hown, N, J, Wq⟩ := K
  obtain ⟨hd, rfl⟩ := hd
  obtain ⟨cl, A1, A2, A3, A4, A5, A6⟩ := A
  exact r.st fun t q => X.aaload hx (by rw [eT]; exact A1.1) (State.isArrayOf_alike hZ.alike A1.2.1) hty A1.2.2 (inb_of A3 hlt) (A5.at (inb_of A3 hlt) hv) (g := mkF m pc Ls (.int j :: .ref a :: St)) rfl rfl (hb hby hd) t q
theorem gLen (K : Cx p l e R s m args below meth c B ML Z own n0 md T h ws cells slots) {a : Addr} {kA : ClassId} {z : Int32} {vs : List Value} {dv : Value} {ty : FieldType} (hd : Dc B pc .arraylength 1 pc') (A : Arv Z h a kA ty z vs dv) (r : Go p e below F T (mkF m pc' Ls (.int z :: St))) : Go p e below F T (mkF m pc Ls (.ref a :: St)) := by
  obtain ⟨⟨hx, hby, hml⟩, eT, hn0, s1, locs, X, hZ, hown, N, J, Wq⟩ := K
  obtain ⟨hd, rfl⟩ := hd
  obtain ⟨cl, A1, A2, A3, A4, A5, A6⟩ := A
  exact r.st fun t q => X.arraylength hx (by rw [eT]; exact A1.1) (State.isArrayOf_alike hZ.alike A1.2.1) (g := mkF m pc Ls (.ref a :: St)) rfl rfl (hb hby hd) t (by rw [len_of A3 A4]; exact q)
/-! ## calls -/
abbrev PreC (R : Room) (h : Heap) (as' : Array Value) (kc ks : Nat) : Pt → Array Value → Prop := fun A a => a = as' ∧ A.U.heap = h ∧ A.cells + kc ≤ R.cells ∧ A.slots + ks ≤ R.slots
abbrev PostC (Q : Option Value → Heap → List Loc → Prop) (kc ks : Nat) : Pt → Array Value → Option Value → Pt → Prop := fun A _ v B => ∃ L, Q v B.U.heap L ∧ B.locs = A.locs ++ L ∧ B.cells = A.cells + kc ∧ B.slots = A.slots + ks
def Cal (md : Option EList) (l : Launch) (R : Room) (p : Program) (e : Env) (below : List Frame) (args : Array Value) (y : MethodName) (len W : Nat) (Z : State) (n0 : Nat) (h : Heap) (wsC : List Addr) (as' : Array Value) (kc ks : Nat) (QQ : Option Value → Heap → Prop) : Prop := match md with
  | none => ∀ s' : State, Z.Warmed39 s'.vm → Back l R p e below s' args y len W (PreC R h as' kc ks) (PostC (fun v h' L => QQ v h' ∧ Keep h h' wsC ∧ Fr n0 L) kc ks)
  | some EL => ∀ (s : State) (vm0 : Vm) (a0 : Array Value), Z.Warmed39 vm0 → EW Z a0 EL → CHv Z EL vm0 h → (∀ x ∈ wsC, x < h.size ∧ Safe Z EL vm0 h x) →
      BackS l R p e below (s.setVm vm0) args y len W (PreC R h as' kc ks) (fun A a v B => PostC (fun v h' L => QQ v h' ∧ Keep h h' wsC ∧ Fr n0 L) kc ks A a v B ∧ CHr Z EL vm0 h B.U.vm B.U.heap)
theorem Cal.ofBack {y : MethodName} {len W kc ks : Nat} {wsC : List Addr} {as' : Array Value} {Q : Option Value → Heap → List Loc → Prop} {QQ : Option Value → Heap → Prop}
    (hB : ∀ s' : State, Z.Warmed39 s'.vm → Back l R p e below s' args y len W (PreC R h as' kc ks) (PostC Q kc ks)) (hQ : ∀ v h' L, Q v h' L → QQ v h' ∧ Keep h h' wsC ∧ Fr n0 L) : Cal md l R p e below args y len W Z n0 h wsC as' kc ks QQ := by
  cases md with
  | none =>
    intro s' hZ m meth c A g ig mk a X hg hsize hdg hW hn hp
    obtain ⟨v, B, X', ⟨L, q, b⟩, st⟩ := hB s' hZ m meth c A g ig mk a X hg hsize hdg hW hn hp
    exact ⟨v, B, X', ⟨L, hQ _ _ _ q, b⟩, st⟩
  | some EL =>
    intro s vm0 a0 hZ hE H hs m meth c A g ig mk a X hg hsize hdg hW hn hp
    obtain ⟨v, B, X', ⟨L, q, b⟩, st⟩ := hB (s.setVm vm0) hZ m meth c A g ig mk a X hg hsize hdg hW hn hp
    obtain ⟨q1, q2, q3⟩ := hQ _ _ _ q
    have C1 := CHr.keep q2 (fun x hx => (hs x hx).2) H
    exact ⟨v, B, X'.retabled X'.warmed.wide, X'.warmed.since _, by rw [hp.2.1]; exact q2.1, ⟨⟨L, ⟨q1, q2, q3⟩, b⟩, C1.trans (CHv.at X' hZ hE C1.1)⟩, st⟩
/-- a contract: what a body does from the heap h0, writing at most into ws and into what it makes -/
def ConN (l : Launch) (y : MethodName) (bytes : ByteArray) (maxL : Nat) (ret : Option FieldType) (wl : List Cond) (rm : Room) (Z : State) (n0 : Nat) (h0 : Heap) (ws : List Addr) (as' : Array Value) (QQ : Option Value → Heap → Prop) : Prop :=
  MetFree l y (head1 (Cond.code y bytes maxL ret :: wl) rm) (fun a U => a = as' ∧ Z.Warmed39 U.vm ∧ U.heap = h0) (fun _ _ _ _ _ => True) (fun _ U o U' => ∃ v L, o = .returned v ∧ (QQ v U'.heap ∧ Keep h0 U'.heap ws ∧ Fr n0 L) ∧ FrameEnd U o U' L rm.cells rm.slots)
def ConW (EL : EList) (l : Launch) (y : MethodName) (bytes : ByteArray) (maxL : Nat) (ret : Option FieldType) (wl : List Cond) (rm : Room) (Z : State) (n0 : Nat) (h0 : Heap) (ws : List Addr) (as' : Array Value) (QQ : Option Value → Heap → Prop) : Prop :=
  MetFree l y (head1 (Cond.code y bytes maxL ret :: wl) rm) (fun a U => a = as' ∧ Z.Warmed39 U.vm ∧ U.heap = h0 ∧ CHv Z EL U.vm h0 ∧ ∀ x ∈ ws, Safe Z EL U.vm h0 x) (fun _ _ _ _ _ => True) (fun _ U o U' => ∃ v L, o = .returned v ∧ (QQ v U'.heap ∧ Keep h0 U'.heap ws ∧ Fr n0 L) ∧ CHr Z EL U.vm U.heap U'.vm U'.heap ∧ ReturnedEndW U o U' L rm.cells rm.slots)
def Con (md : Option EList) (l : Launch) (y : MethodName) (bytes : ByteArray) (maxL : Nat) (ret : Option FieldType) (wl : List Cond) (rm : Room) (Z : State) (n0 : Nat) (h0 : Heap) (ws : List Addr) (as' : Array Value) (QQ : Option Value → Heap → Prop) : Prop := match md with
  | none => ConN l y bytes maxL ret wl rm Z n0 h0 ws as' QQ
  | some EL => ConW EL l y bytes maxL ret wl rm Z n0 h0 ws as' QQ
theorem Con.asN {y : MethodName} {bytes : ByteArray} {maxL : Nat} {ret : Option FieldType} {wl : List Cond} {rm : Room} {as' : Array Value} {QQ : Option Value → Heap → Prop} (C : Con none l y bytes maxL ret wl rm Z n0 h ws as' QQ) :
    MetFree l y (head1 (Cond.code y bytes maxL ret :: wl) rm) (fun a U => a = as' ∧ Z.Warmed39 U.vm ∧ U.heap = h) (fun _ _ _ _ _ => True) (fun _ U o U' => ∃ v L, o = .returned v ∧ (QQ v U'.heap ∧ Keep h U'.heap ws ∧ Fr n0 L) ∧ FrameEnd U o U' L rm.cells rm.slots) := C
theorem Con.asW {EL : EList} {y : MethodName} {bytes : ByteArray} {maxL : Nat} {ret : Option FieldType} {wl : List Cond} {rm : Room} {as' : Array Value} {QQ : Option Value → Heap → Prop} (C : Con (some EL) l y bytes maxL ret wl rm Z n0 h ws as' QQ) :
    MetFree l y (head1 (Cond.code y bytes maxL ret :: wl) rm) (fun a U => a = as' ∧ Z.Warmed39 U.vm ∧ U.heap = h ∧ CHv Z EL U.vm h ∧ ∀ x ∈ ws, Safe Z EL U.vm h x) (fun _ _ _ _ _ => True) (fun _ U o U' => ∃ v L, o = .returned v ∧ (QQ v U'.heap ∧ Keep h U'.heap ws ∧ Fr n0 L) ∧ CHr Z EL U.vm U.heap U'.vm U'.heap ∧ ReturnedEndW U o U' L rm.cells rm.slots) := C
theorem Cal.ofN {y : MethodName} {bytes : ByteArray} {maxL : Nat} {ret : Option FieldType} {rm : Room} {len W : Nat} {wsC : List Addr} {as' : Array Value} {QQ : Option Value → Heap → Prop} (hM : Con none l y bytes maxL ret [] rm Z n0 h wsC as' QQ) (wc : (Cond.code y bytes maxL ret).before a0 Z = true) (wz : (Cond.initialized y.cls).before a0 Z = true) (hf : rm.frames + 1 ≤ R.frames) (hl : W + (maxL + 11) + rm.locals ≤ R.locals) :
    Cal md l R p e below args y len W Z n0 h wsC as' rm.cells rm.slots QQ :=
  Cal.ofBack (fun s' hZ => backOf (Q := fun v h' L => QQ v h' ∧ Keep h h' wsC ∧ Fr n0 L) hM.asN hZ wc wz hf hl) (fun _ _ _ q => q)
theorem Cal.ofW {EL : EList} {y : MethodName} {bytes : ByteArray} {maxL : Nat} {ret : Option FieldType} {rm : Room} {len W : Nat} {wsC : List Addr} {as' : Array Value} {QQ : Option Value → Heap → Prop} (hM : Con (some EL) l y bytes maxL ret [] rm Z n0 h wsC as' QQ) (wc : (Cond.code y bytes maxL ret).before a0 Z = true) (wz : (Cond.initialized y.cls).before a0 Z = true) (hf : rm.frames + 1 ≤ R.frames) (hl : W + (maxL + 11) + rm.locals ≤ R.locals) :
    Cal (some EL) l R p e below args y len W Z n0 h wsC as' rm.cells rm.slots QQ := fun s vm0 a1 hZ hEL H hs =>
  BackS.of_freeW (bytes := bytes) (maxL := maxL) (ret := ret) (E := fun _ first o t L k n => k = rm.cells ∧ n = rm.slots ∧ (∃ v, o = .returned v ∧ QQ v t.heap ∧ Keep h t.heap wsC ∧ Fr n0 L) ∧ CHr Z EL first.vm first.heap t.vm t.heap) hM.asW hf hl
    (fun m meth c A a Y hp => have hU : Z.Warmed39 A.U.vm := wtrans (s := s.setVm vm0) hZ Y.warmed
      ⟨by show (Cond.and _ .tt).before a A.U = true; rw [Cond.before_and, mv hU wc]; rfl, mv hU wc, mv hU wz, hp.2.2.1, hp.2.2.2⟩)
    (fun m meth c A a g mk Y hp => ⟨hp.1, wtrans (s := s.setVm vm0) hZ Y.warmed, hp.2.1, (CHv.at Y hZ hEL H).1, fun x hx => (CHv.at Y hZ hEL H).safe (hs x hx).1 (hs x hx).2⟩) (fun _ _ _ _ _ _ _ _ _ => trivial)
    (fun _ _ _ _ ⟨v, L, h1, h2, h3, h4⟩ => ⟨L, _, _, h4, rfl, rfl, ⟨v, h1, h2⟩, h3⟩)
    (fun m meth c A a g mk v t L k n Y hp _ _ ⟨e1, e2, ⟨v', e3, e4⟩, e5⟩ => by
      cases e3; subst e1 e2
      refine ⟨⟨L, e4, rfl, rfl, rfl⟩, (CHv.at Y hZ hEL H).trans ?_⟩
      rw [← hp.2.1]; exact e5)
/-- behind a call in the narrow family -/
theorem Cx.backN {s1 : State} {locs : List Loc} {Bp : Pt} {L : List Loc} {wsC : List Addr} {kc ks : Nat} (K : Cx p l e R s m args below meth c B ML Z own n0 none T h ws cells slots) (X' : Stand p l e R s1 m args below meth c Bp.U Bp.locs Bp.cells Bp.slots) (hZ : Z.Warmed39 s1.vm) (hown : s1.vm.findClass own = some m.cls) (N : Fr n0 locs) (J : Jd none Z s s1 h) (Wq : ∀ x ∈ ws, n0 ≤ x ∧ x < h.size ∧ Sf none Z s1 h x) (Kp : Keep h Bp.U.heap wsC) (NL : Fr n0 L) (b1 : Bp.locs = locs ++ L) (b2 : Bp.cells = cells + kc) (b3 : Bp.slots = slots + ks) : Cx p l e R s m args below meth c B ML Z own n0 none Bp.U Bp.U.heap ws (cells + kc) (slots + ks) := by
  obtain ⟨U, lo, ce, sl⟩ := Bp
  dsimp only [Pt.U, Pt.locs, Pt.cells, Pt.slots] at *
  subst b1 b2 b3
  exact ⟨K.1, rfl, Nat.le_trans K.2.2.1 Kp.1, s1, _, X', hZ, hown, Fr.app N NL, J, fun x hx => ⟨(Wq x hx).1, Nat.lt_of_lt_of_le (Wq x hx).2.1 Kp.1, trivial⟩⟩
/-- behind a call in the wide family -/
theorem Cx.backW {EL : EList} {vm0 : Vm} {k0 : Nat} {locs : List Loc} {Bp : Pt} {L : List Loc} {wsC : List Addr} {kc ks : Nat} {a1 : Array Value} (K : Cx p l e R s m args below meth c B ML Z own n0 (some EL) T h ws cells slots) (X' : Stand p l e R ((s.setVm vm0).setVm Bp.U.vm) m args below meth c Bp.U Bp.locs Bp.cells Bp.slots) (hZ : Z.Warmed39 vm0) (hown : vm0.findClass own = some m.cls) (N : Fr n0 locs) (hS : s.Since vm0 k0) (hk : k0 ≤ h.size) (hC : CHr Z EL s.vm s.heap vm0 h) (hE : EW Z a1 EL) (Wq : ∀ x ∈ ws, n0 ≤ x ∧ x < h.size ∧ Safe Z EL vm0 h x) (hS2 : (s.setVm vm0).Since Bp.U.vm Bp.U.heap.size) (Kp : Keep h Bp.U.heap wsC) (NL : Fr n0 L) (b1 : Bp.locs = locs ++ L) (b2 : Bp.cells = cells + kc) (b3 : Bp.slots = slots + ks) (C2 : CHr Z EL vm0 h Bp.U.vm Bp.U.heap) : Cx p l e R s m args below meth c B ML Z own n0 (some EL) Bp.U Bp.U.heap ws (cells + kc) (slots + ks) := by
  obtain ⟨U, lo, ce, sl⟩ := Bp
  dsimp only [Pt.U, Pt.locs, Pt.cells, Pt.slots] at *
  subst b1 b2 b3
  refine ⟨K.1, rfl, Nat.le_trans K.2.2.1 Kp.1, s.setVm U.vm, _, X', State.Warmed39.trans (t := s.setVm vm0) hZ hS2.1, ?_, Fr.app N NL, ⟨U.vm, U.heap.size, a1, rfl, hS.trans hS2 (Nat.le_trans hk Kp.1), Nat.le_refl _, hC.trans C2, hE⟩, fun x hx => ⟨(Wq x hx).1, Nat.lt_of_lt_of_le (Wq x hx).2.1 Kp.1, C2.safe (Wq x hx).2.1 (Wq x hx).2.2⟩⟩
  show U.vm.findClass own = _
  rw [hS2.1.alike.findClass]; exact hown
theorem gCallS (K : Cx p l e R s m args below meth c B ML Z own n0 md T h ws cells slots) {index : Nat} {y : MethodName} {bytes : ByteArray} {maxL : Nat} {ret : Option FieldType} {wsC : List Addr} {kc ks W : Nat} {QQ : Option Value → Heap → Prop} (argsL rest : List Value)
    (hd : Dc B pc (.invokestatic index) 3 pc') (w1 : (Cond.methodLink own index y).before a0 Z = true) (w2 : (Cond.static y).before a0 Z = true) (w3 : (Cond.initialized y.cls).before a0 Z = true) (w4 : (Cond.code y bytes maxL ret).before a0 Z = true)
    (hC : Cal md l R p e below args y 3 W Z n0 h wsC argsL.toArray kc ks QQ) (hws : ∀ x ∈ wsC, x ∈ ws) {ps : List FieldType} {rt : Option FieldType} (hpd : parseMethodDescriptor y.desc = some ⟨ps, rt⟩) (hpl : argsL.length = ps.length) (hst : St = argsL.reverse ++ rest) (hW : (rest.map fun v => v.category).sum ≤ W) (hsz : Ls.size = ML) (hc : cells + kc ≤ R.cells) (hs : slots + ks ≤ R.slots) (hy : y.cls ≠ "java/lang/invoke/MethodHandle" ∧ y.cls ≠ "java/lang/invoke/VarHandle")
    (k : ∀ (v : Option Value) (T' : State) (h' : Heap), Cx p l e R s m args below meth c B ML Z own n0 md T' h' ws (cells + kc) (slots + ks) → Keep h h' wsC → QQ v h' → Go p e below F T' (mkF m pc' Ls (v.toList ++ rest))) : Go p e below F T (mkF m pc Ls St) := by
  have K0 := K
  obtain ⟨⟨hx, hby, hml⟩, eT, hn0, s1, locs, X, hZ, hown, N, J, Wq⟩ := K
  obtain ⟨hd, rfl⟩ := hd
  cases md with
  | none =>
    obtain ⟨v, vm1, Bp, -, X', ⟨L, ⟨q1, q2, q3⟩, b1, b2, b3⟩, st⟩ := Jvm.LawKit.callS X hx hown (mvT hZ w1) (mvT hZ w2) (mvT hZ w3) (mvT hZ w4) hy (hC s1 hZ) (g := mkF m pc Ls St) rfl (by rw [hml]; exact hsz) (lenOf hpd hpl) hst (by show 2 * 0 + _ ≤ _; omega) (hb hby hd) (fun _ _ => ⟨rfl, eT, hc, hs⟩)
    exact (k v Bp.U Bp.U.heap (K0.backN X' hZ hown N J Wq q2 q3 b1 b2 b3) q2 q1).st st
  | some EL =>
    obtain ⟨vm0, k0, a1, rfl, j2, j3, j4, j5⟩ := J
    obtain ⟨v, vm1, Bp, -, X', S2, -, ⟨⟨L, ⟨q1, q2, q3⟩, b1, b2, b3⟩, C2⟩, st⟩ := callSS X hx hown (mvT hZ w1) (mvT hZ w2) (mvT hZ w3) (mvT hZ w4) hy (hC s vm0 a1 hZ j5 j4.1 (fun x hx => (Wq x (hws x hx)).2)) (g := mkF m pc Ls St) rfl (by rw [hml]; exact hsz) (lenOf hpd hpl) hst (by show 2 * 0 + _ ≤ _; omega) (hb hby hd) (fun _ _ => ⟨rfl, eT, hc, hs⟩)
    exact (k v Bp.U Bp.U.heap (K0.backW X' hZ hown N j2 j3 j4 j5 Wq S2 q2 q3 b1 b2 b3 C2) q2 q1).tr st
theorem gCallI (K : Cx p l e R s m args below meth c B ML Z own n0 md T h ws cells slots) {index : Nat} {y : MethodName} {bytes : ByteArray} {maxL : Nat} {wsC : List Addr} {kc ks W : Nat} {QQ : Option Value → Heap → Prop} (a : Addr) (argsL rest : List Value)
    (hd : Dc B pc (.invokespecial index) 3 pc') (hy1 : y.name = "<init>") (w1 : (Cond.methodLink own index y).before a0 Z = true) (w2 : (Cond.instanceMethod y).before a0 Z = true) (w4 : (Cond.code y bytes maxL none).before a0 Z = true)
    (hC : Cal md l R p e below args y 3 W Z n0 h wsC (.ref a :: argsL).toArray kc ks QQ) (hws : ∀ x ∈ wsC, x ∈ ws) {ps : List FieldType} {rt : Option FieldType} (hpd : parseMethodDescriptor y.desc = some ⟨ps, rt⟩) (hpl : argsL.length = ps.length) (hst : St = argsL.reverse ++ .ref a :: rest) (hW : (rest.map fun v => v.category).sum ≤ W) (hsz : Ls.size = ML) (hc : cells + kc ≤ R.cells) (hs : slots + ks ≤ R.slots) (hy : y.cls ≠ "java/lang/invoke/MethodHandle" ∧ y.cls ≠ "java/lang/invoke/VarHandle")
    (k : ∀ (v : Option Value) (T' : State) (h' : Heap), Cx p l e R s m args below meth c B ML Z own n0 md T' h' ws (cells + kc) (slots + ks) → Keep h h' wsC → QQ v h' → Go p e below F T' (mkF m pc' Ls (v.toList ++ rest))) : Go p e below F T (mkF m pc Ls St) := by
  have K0 := K
  obtain ⟨⟨hx, hby, hml⟩, eT, hn0, s1, locs, X, hZ, hown, N, J, Wq⟩ := K
  obtain ⟨hd, rfl⟩ := hd
  cases md with
  | none =>
    obtain ⟨v, vm1, Bp, -, X', ⟨L, ⟨q1, q2, q3⟩, b1, b2, b3⟩, st⟩ := X.specialBack hx hy1 hown (mvT hZ w1) (mvT hZ w2) (mvT hZ w4) hy (hC s1 hZ) (g := mkF m pc Ls St) rfl (by rw [hml]; exact hsz) (Steps.refl _) (lenOf hpd hpl) hst (by show 2 * 0 + _ ≤ _; omega) (hb hby hd) (fun _ _ => ⟨rfl, eT, hc, hs⟩)
    exact (k v Bp.U Bp.U.heap (K0.backN X' hZ hown N J Wq q2 q3 b1 b2 b3) q2 q1).tr st
  | some EL =>
    obtain ⟨vm0, k0, a1, rfl, j2, j3, j4, j5⟩ := J
    obtain ⟨v, vm1, Bp, -, X', S2, -, ⟨⟨L, ⟨q1, q2, q3⟩, b1, b2, b3⟩, C2⟩, st⟩ := X.specialBackS hx hy1 hown (mvT hZ w1) (mvT hZ w2) (mvT hZ w4) hy (hC s vm0 a1 hZ j5 j4.1 (fun x hx => (Wq x (hws x hx)).2)) (g := mkF m pc Ls St) rfl (by rw [hml]; exact hsz) (Steps.refl _) (lenOf hpd hpl) hst (by show 2 * 0 + _ ≤ _; omega) (hb hby hd) (fun _ _ => ⟨rfl, eT, hc, hs⟩)
    exact (k v Bp.U Bp.U.heap (K0.backW X' hZ hown N j2 j3 j4 j5 Wq S2 q2 q3 b1 b2 b3 C2) q2 q1).tr st
theorem gCallV (K : Cx p l e R s m args below meth c B ML Z own n0 md T h ws cells slots) {index : Nat} {C : String} {y : MethodName} {wsC : List Addr} {kc ks W : Nat} {QQ : Option Value → Heap → Prop} (a : Addr) (argsL rest : List Value)
    (hd : Dc B pc (.invokevirtual index) 3 pc') (w1 : (Cond.methodLink own index y).before a0 Z = true) (w2 : (Cond.declares y).before a0 Z = true) (w3 : (Cond.selects C y y).before a0 Z = true) (w4 : (Cond.instanceMethod y).before a0 Z = true)
    (hC : Cal md l R p e below args y 3 W Z n0 h wsC (.ref a :: argsL).toArray kc ks QQ) (E : Exa Z h a C) (hws : ∀ x ∈ wsC, x ∈ ws) {ps : List FieldType} {rt : Option FieldType} (hpd : parseMethodDescriptor y.desc = some ⟨ps, rt⟩) (hpl : argsL.length = ps.length) (hst : St = argsL.reverse ++ .ref a :: rest) (hW : (rest.map fun v => v.category).sum ≤ W) (hsz : Ls.size = ML) (hc : cells + kc ≤ R.cells) (hs : slots + ks ≤ R.slots) (hy : y.cls ≠ "java/lang/invoke/MethodHandle" ∧ y.cls ≠ "java/lang/invoke/VarHandle")
    (k : ∀ (v : Option Value) (T' : State) (h' : Heap), Cx p l e R s m args below meth c B ML Z own n0 md T' h' ws (cells + kc) (slots + ks) → Keep h h' wsC → QQ v h' → Go p e below F T' (mkF m pc' Ls (v.toList ++ rest))) : Go p e below F T (mkF m pc Ls St) := by
  have K0 := K
  obtain ⟨⟨hx, hby, hml⟩, eT, hn0, s1, locs, X, hZ, hown, N, J, Wq⟩ := K
  obtain ⟨hd, rfl⟩ := hd
  obtain ⟨cq, kq, qa, -, qc⟩ := isOf hZ eT E
  cases md with
  | none =>
    obtain ⟨v, vm1, Bp, -, X', ⟨L, ⟨q1, q2, q3⟩, b1, b2, b3⟩, st⟩ := X.virtualBack hx hown (mvT hZ w1) (mvT hZ w2) (notFace_of_selects (args := #[]) (mvT hZ w3)) (mvT hZ w3) (mvT hZ w4) hy (hC s1 hZ) qa qc (g := mkF m pc Ls St) rfl (by rw [hml]; exact hsz) (Steps.refl _) (lenOf hpd hpl) hst (by show 2 * 0 + _ ≤ _; omega) (hb hby hd) (fun _ _ => ⟨rfl, eT, hc, hs⟩)
    exact (k v Bp.U Bp.U.heap (K0.backN X' hZ hown N J Wq q2 q3 b1 b2 b3) q2 q1).tr st
  | some EL =>
    obtain ⟨vm0, k0, a1, rfl, j2, j3, j4, j5⟩ := J
    obtain ⟨v, vm1, Bp, -, X', S2, -, ⟨⟨L, ⟨q1, q2, q3⟩, b1, b2, b3⟩, C2⟩, st⟩ := X.virtualBackS hx hown (mvT hZ w1) (mvT hZ w2) (notFace_of_selects (args := #[]) (mvT hZ w3)) (mvT hZ w3) (mvT hZ w4) hy (hC s vm0 a1 hZ j5 j4.1 (fun x hx => (Wq x (hws x hx)).2)) qa qc (g := mkF m pc Ls St) rfl (by rw [hml]; exact hsz) (Steps.refl _) (lenOf hpd hpl) hst (by show 2 * 0 + _ ≤ _; omega) (hb hby hd) (fun _ _ => ⟨rfl, eT, hc, hs⟩)
    exact (k v Bp.U Bp.U.heap (K0.backW X' hZ hown N j2 j3 j4 j5 Wq S2 q2 q3 b1 b2 b3 C2) q2 q1).tr st
/-! ## the end, the entry -/
def End (md : Option EList) (s Z : State) (n0 : Nat) (h0 : Heap) (ws : List Addr) (kc ks : Nat) (QQ : Option Value → Heap → Prop) : Outcome → State → Prop := match md with
  | none => fun o t => ∃ v L, o = .returned v ∧ (QQ v t.heap ∧ Keep h0 t.heap ws ∧ Fr n0 L) ∧ FrameEnd s o t L kc ks
  | some EL => fun o t => ∃ v L, o = .returned v ∧ (QQ v t.heap ∧ Keep h0 t.heap ws ∧ Fr n0 L) ∧ CHr Z EL s.vm s.heap t.vm t.heap ∧ ReturnedEndW s o t L kc ks
theorem sbn_mono {s t : State} {L : List Loc} {k n k' n' : Nat} (h : s.sameButNew t L k n) (a : k ≤ k') (b : n ≤ n') : s.sameButNew t L k' n' := h.mono a b
theorem gEnd {g : JFrame} {h0 : Heap} {wsA : List Addr} {kc ks : Nat} {QQ : Option Value → Heap → Prop} {v : Option Value} (K : Cx p l e R s m args below meth c B ML Z own n0 md T h ws cells slots) (hlk : meth.locks = false) (hv : meth.sig.returnType = none → v = none)
    (st : ∀ {s1 : State} {locs : List Loc} {fs : List Frame}, Stand p l e R s1 m args below meth c T locs cells slots → (∀ (f : JFrame) (acts : List Action), f.method = m → f.locked = none → f.entered = [] → (doReturn e (T.setTop f) acts v).1 = T.setFrames fs) → Steps p.tables e below (T.setTop g) (T.setFrames fs))
    (Kp : Keep h0 h wsA) (hc : cells ≤ kc) (hs : slots ≤ ks) (hq : QQ v h) : Go p e below (End md s Z n0 h0 wsA kc ks QQ) T g := by
  obtain ⟨⟨hx, hby, hml⟩, eT, hn0, s1, locs, X, hZ, hown, N, J, Wq⟩ := K
  subst eT
  cases md with
  | none =>
    cases J
    obtain ⟨fs, hr, hrun, hended, hW, hsame⟩ := X.leave (v := v) hv hlk
    exact ⟨_, _, st X hr, hrun, hended, v, locs, rfl, ⟨hq, Kp, N⟩, ⟨_, rfl⟩, hW, sbn_mono hsame hc hs⟩
  | some EL =>
    obtain ⟨vm0, k0, a1, rfl, j2, j3, j4, j5⟩ := J
    obtain ⟨fs, hr, hrun, hended, hW⟩ := X.leaveW j2 j3 (v := v) hv hlk
    refine ⟨_, _, st X hr, hrun, hended, v, locs, rfl, ⟨hq, Kp, N⟩, (show CHr Z EL s.vm s.heap T.vm T.heap from j4.trans (CHv.at X hZ j5 j4.1)), ?_⟩
    obtain ⟨w1, w2, w3, w4⟩ := hW
    exact ⟨w1, w2, w3, sbn_mono w4 hc hs⟩
theorem Cal.mono {y : MethodName} {len W kc ks kc' ks' : Nat} {wsC : List Addr} {as' : Array Value} {QQ QQ' : Option Value → Heap → Prop} (C : Cal md l R p e below args y len W Z n0 h wsC as' kc ks QQ) (h1 : kc ≤ kc') (h2 : ks ≤ ks') (hq : ∀ v h', QQ v h' → QQ' v h') : Cal md l R p e below args y len W Z n0 h wsC as' kc' ks' QQ' := by
  cases md with
  | none =>
    intro s' hZ m meth c A g ig mk a X hg hsize hdg hW hn hp
    obtain ⟨v, ⟨U, lo, ce, sl⟩, X', ⟨L, ⟨q1, q2, q3⟩, b1, b2, b3⟩, st⟩ := C s' hZ m meth c A g ig mk a X hg hsize hdg hW hn ⟨hp.1, hp.2.1, by have := hp.2.2.1; omega, by have := hp.2.2.2; omega⟩
    dsimp only [Pt.U, Pt.locs, Pt.cells, Pt.slots] at *
    exact ⟨v, ⟨U, lo, A.cells + kc', A.slots + ks'⟩, X'.mono (by rw [b2]; exact Nat.add_le_add_left h1 _) (by rw [b3]; exact Nat.add_le_add_left h2 _), ⟨L, ⟨hq _ _ q1, q2, q3⟩, b1, rfl, rfl⟩, st⟩
  | some EL =>
    intro s vm0 a0 hZ hE H hs m meth c A g ig mk a X hg hsize hdg hW hn hp
    obtain ⟨v, ⟨U, lo, ce, sl⟩, X', S2, gr, ⟨⟨L, ⟨q1, q2, q3⟩, b1, b2, b3⟩, C2⟩, st⟩ := C s vm0 a0 hZ hE H hs m meth c A g ig mk a X hg hsize hdg hW hn ⟨hp.1, hp.2.1, by have := hp.2.2.1; omega, by have := hp.2.2.2; omega⟩
    dsimp only [Pt.U, Pt.locs, Pt.cells, Pt.slots] at *
    exact ⟨v, ⟨U, lo, A.cells + kc', A.slots + ks'⟩, X'.mono (by rw [b2]; exact Nat.add_le_add_left h1 _) (by rw [b3]; exact Nat.add_le_add_left h2 _), S2, gr, ⟨⟨L, ⟨hq _ _ q1, q2, q3⟩, b1, rfl, rfl⟩, C2⟩, st⟩

theorem gRetI {h0 : Heap} {wsA : List Addr} {kc ks : Nat} {QQ : Option Value → Heap → Prop} {t : FieldType} {z : Int32} (K : Cx p l e R s m args below meth c B ML Z own n0 md T h ws cells slots) (hlk : meth.locks = false) (hret : meth.sig.returnType = some t) (ht : t = .int ∨ t = .boolean ∨ t = .byte ∨ t = .char ∨ t = .short) (hd : Dc B pc .ireturn 1 pc') (hn : narrow t (.int z) = .int z) (Kp : Keep h0 h wsA) (hc : cells ≤ kc) (hs : slots ≤ ks) (hq : QQ (some (.int z)) h) : Go p e below (End md s Z n0 h0 wsA kc ks QQ) T (mkF m pc Ls (.int z :: St)) :=
  gEnd K hlk (fun q => by rw [hret] at q; cases q) (fun X hr => retOut X K.1.1 hret hn (Or.inl ⟨rfl, ht, _, rfl⟩) (hb K.1.2.1 hd.1) hr) Kp hc hs hq
theorem gRetA {h0 : Heap} {wsA : List Addr} {kc ks : Nat} {QQ : Option Value → Heap → Prop} {t : FieldType} {w : Value} (K : Cx p l e R s m args below meth c B ML Z own n0 md T h ws cells slots) (hlk : meth.locks = false) (hret : meth.sig.returnType = some t) (ht : t.isReference = true) (hw : w.isRef = true) (hd : Dc B pc .areturn 1 pc') (Kp : Keep h0 h wsA) (hc : cells ≤ kc) (hs : slots ≤ ks) (hq : QQ (some w) h) : Go p e below (End md s Z n0 h0 wsA kc ks QQ) T (mkF m pc Ls (w :: St)) :=
  gEnd K hlk (fun q => by rw [hret] at q; cases q) (fun X hr => retOut X K.1.1 hret (by cases t <;> cases w <;> simp_all [FieldType.isReference, Value.isRef, narrow]) (Or.inr (Or.inr (Or.inr (Or.inr ⟨rfl, ht, hw⟩)))) (hb K.1.2.1 hd.1) hr) Kp hc hs hq
theorem gRetV {h0 : Heap} {wsA : List Addr} {kc ks : Nat} {QQ : Option Value → Heap → Prop} (K : Cx p l e R s m args below meth c B ML Z own n0 md T h ws cells slots) (hlk : meth.locks = false) (hret : meth.sig.returnType = none) (hd : Dc B pc .return_ 1 pc') (Kp : Keep h0 h wsA) (hc : cells ≤ kc) (hs : slots ≤ ks) (hq : QQ none h) : Go p e below (End md s Z n0 h0 wsA kc ks QQ) T (mkF m pc Ls []) :=
  gEnd K hlk (fun _ => rfl) (fun X hr => X.returnOut K.1.1 hret (hb K.1.2.1 hd.1) hr) Kp hc hs hq
def Ew (md : Option EList) (Z : State) : Prop := match md with | none => True | some EL => ∃ a0, EW Z a0 EL
theorem Con.intro {y : MethodName} {bytes : ByteArray} {maxL : Nat} {ret : Option FieldType} {wl : List Cond} {rm : Room} {h0 : Heap} {as' : Array Value} {QQ : Option Value → Heap → Prop} (hpn : plainName y.cls = true) (Z0 : n0 ≤ h0.size) (hws : ∀ x ∈ ws, n0 ≤ x ∧ x < h0.size) (hE : Ew md Z) (Ls0 : Array Slot) (hef : ∀ m, entryFrame m as' maxL = mkF m 0 Ls0 [])
    (body : ∀ p e s m below meth c T, meth.locks = false → meth.sig.returnType = ret → meth.name = y.name → Cx p l e rm s m as' below meth c bytes maxL Z y.cls n0 md T h0 ws 0 0 → Go p e below (End md s Z n0 h0 ws rm.cells rm.slots QQ) T (mkF m 0 Ls0 [])) : Con md l y bytes maxL ret wl rm Z n0 h0 ws as' QQ := by
  cases md with
  | none =>
    show ConN l y bytes maxL ret wl rm Z n0 h0 ws as' QQ
    unfold ConN
    refine MetFree.of_bodySF (plainFor_of_name hpn) hisR ?_
    intro p e s m args below meth c s₁ Bd hml0 hP hK
    obtain ⟨ha, hZ, hh⟩ := hP
    subst ha
    have G := body p e s m below meth c s₁ Bd.notSynchronized Bd.returns (name_of_methodNamed Bd.named Bd.method).1 ⟨⟨Bd.exec, Bd.bytes, hml0⟩, by rw [← hh, Bd.state]; rfl, Z0, s, [], Stand.of_body Bd, hZ, findClass_of_methodNamed Bd.named, Fr.nil n0, rfl, fun x hx => ⟨(hws x hx).1, (hws x hx).2, trivial⟩⟩
    rw [← hef m] at G
    exact G
  | some EL =>
    obtain ⟨a1, hE⟩ := hE
    show ConW EL l y bytes maxL ret wl rm Z n0 h0 ws as' QQ
    unfold ConW
    refine MetFree.of_bodySF (plainFor_of_name hpn) hisR ?_
    intro p e s m args below meth c s₁ Bd hml0 hP hK
    obtain ⟨ha, hZ, hh, H, hsf⟩ := hP
    subst ha
    have G := body p e s m below meth c s₁ Bd.notSynchronized Bd.returns (name_of_methodNamed Bd.named Bd.method).1 ⟨⟨Bd.exec, Bd.bytes, hml0⟩, by rw [← hh, Bd.state]; rfl, Z0, s, [], Stand.of_body Bd, hZ, findClass_of_methodNamed Bd.named, Fr.nil n0, ⟨s.vm, s.heap.size, a1, rfl, (State.WarmedH.refl s).since _, by rw [hh]; exact Nat.le_refl _, by rw [hh]; exact CHr.refl H, hE⟩, fun x hx => ⟨(hws x hx).1, (hws x hx).2, hsf x hx⟩⟩
    rw [← hef m] at G
    exact G
theorem EW.re {a1 a2 : Array Value} {EL : EList} (E : EW Z a1 EL) : EW Z a2 EL := fun q hq => by
  obtain ⟨t, w, h⟩ := E q hq
  exact ⟨t, mvS (s := Z) (vm0 := Z.vm) (State.Warmed39.refl Z) w, h⟩
theorem gLdc {EL : EList} (K : Cx p l e R s m args below meth c B ML Z own n0 (some EL) T h ws cells slots) {index : Nat} {text : String} (hd : Dc B pc (.ldc index) 2 pc') (w : (Cond.stringLink own index text).before a0 Z = true) (wS : ∀ a ∈ Bundle.stringAtoms, a.before a0 Z = true) (hmem : (own, index) ∈ EL)
    {vs : List Value} {z : Int32} (ht : (∀ c ∈ text.toList, c.toNat < 256) ∧ text.toList.map (fun c => Value.int (Jvm.Lit.byteI c.toNat.toUInt16)) = vs) (hz : ¬ z < 0) (hl : z.toNatClampNeg = vs.length) (n : Nat) (hn : 4 * text.toList.length ≤ n) (hbig : n ≤ 536870912) (hc : cells + 2 ≤ R.cells) (hs : slots + (n + 4) ≤ R.slots)
    (k : ∀ (T' : State) (h' : Heap) (a b : Addr) (kA : ClassId), Cx p l e R s m args below meth c B ML Z own n0 (some EL) T' h' ws (cells + 2) (slots + (n + 4)) → Ext h h' → Exa Z h' a "java/lang/String" → Fld Z h' a "java/lang/String" "coder" "B" (.int 0) → Fld Z h' a "java/lang/String" "value" "[B" (.ref b) → Arv Z h' b kA .byte z vs (.int 0) → (∀ x ∈ ws, x ≠ a ∧ x ≠ b) → Go p e below F T' (mkF m pc' Ls (.ref a :: St))) : Go p e below F T (mkF m pc Ls St) := by
  have K0 := K
  obtain ⟨⟨hx, hby, hml⟩, eT, hn0, s1, locs, X, hZ, hown, N, J, Wq⟩ := K
  obtain ⟨hd, rfl⟩ := hd
  obtain ⟨vm0, k0, a1, rfl, j2, j3, j4, j5⟩ := J
  obtain ⟨a, T', h', k1, b, kA, X', e', E, S', hk', hZ', hown', f1, f2, f3, f4, -, -, C2, -, hne, st⟩ := ldcCH X hx hZ hown w wS eT j2 j3 (EW.re j5) hmem j4.1 ht hz hl (g := mkF m pc Ls St) rfl (hb hby hd) hn hbig hc hs
  exact (k T' h' a b kA ⟨K0.1, e', Nat.le_trans hn0 E.1, _, locs, X', hZ', hown', N, ⟨T'.vm, k1, a1, rfl, S', hk', j4.trans C2, j5⟩, fun x hx => ⟨(Wq x hx).1, Nat.lt_of_lt_of_le (Wq x hx).2.1 E.1, C2.safe (Wq x hx).2.1 (Wq x hx).2.2⟩⟩ E f1 f2 f3 f4 (fun x hx => hne x (C2.safe (Wq x hx).2.1 (Wq x hx).2.2))).st st
theorem gLdcO {EL : EList} (K : Cx p l e R s m args below meth c B ML Z own n0 (some EL) T h ws cells slots) {index : Nat} {text : String} (hd : Dc B pc (.ldc index) 2 pc') (w : (Cond.stringLink own index text).before a0 Z = true) (wS : ∀ a ∈ Bundle.stringAtoms, a.before a0 Z = true) (n : Nat) (hn : 4 * text.toList.length ≤ n) (hbig : n ≤ 536870912) (hc : cells + 2 ≤ R.cells) (hs : slots + (n + 4) ≤ R.slots)
    (k : ∀ (T' : State) (h' : Heap) (a : Addr), Cx p l e R s m args below meth c B ML Z own n0 (some EL) T' h' ws (cells + 2) (slots + (n + 4)) → Ext h h' → Go p e below F T' (mkF m pc' Ls (.ref a :: St))) : Go p e below F T (mkF m pc Ls St) := by
  have K0 := K
  obtain ⟨⟨hx, hby, hml⟩, eT, hn0, s1, locs, X, hZ, hown, N, J, Wq⟩ := K
  obtain ⟨hd, rfl⟩ := hd
  obtain ⟨vm0, k0, a1, rfl, j2, j3, j4, j5⟩ := J
  obtain ⟨a, T', h', k1, X', e', E, S', hk', hZ', hown', C2, -, st⟩ := ldcOH X hx hZ hown w wS eT j2 j3 (EW.re j5) j4.1 (g := mkF m pc Ls St) rfl (hb hby hd) hn hbig hc hs
  exact (k T' h' a ⟨K0.1, e', Nat.le_trans hn0 E.1, _, locs, X', hZ', hown', N, ⟨T'.vm, k1, a1, rfl, S', hk', j4.trans C2, j5⟩, fun x hx => ⟨(Wq x hx).1, Nat.lt_of_lt_of_le (Wq x hx).2.1 E.1, C2.safe (Wq x hx).2.1 (Wq x hx).2.2⟩⟩ E).st st

/-! ## from a case's words -/
theorem eqint_v {first s : State} {o : Option Outcome} {idx : List Nat} {t : Term} {i : Int32} (q : (Cond.eq t (.int i)).value args first o s idx = some true) : t.eval args first o idx s = some (.int i) := by
  simp only [Cond.value, Term.eval] at q
  cases ht : t.eval args first o idx s with
  | none => simp [ht] at q
  | some x => cases x <;> simp [ht] at q ⊢; exact q
theorem ord_of {s : State} {t : Term} {C n d : String} {x : Addr} {i : Int32} (ht : t.eval args s none [] s = some (.ref x)) (q : (Cond.eq (Term.field t C n d) (.int i)).value args s none s [] = some true) : Fld s s.heap x C n d (.int i) := by
  have e1 := eqint_v q
  rw [fld_at ht] at e1
  exact Fld.start e1
theorem Sta.kp {C n d : String} {v : Value} {h' : Heap} (Fd : Sta Z h C n d v) (K : Keep h h' ws) (hn : ∀ x ∈ ws, ∀ cell : Cell, h[x]? = some cell → cell.vm.isStatics = false) : Sta Z h' C n d v := by
  obtain ⟨cf, i, k, f, st, cell, h1, h2, h3, h4, h5, h6, h7⟩ := Fd
  exact ⟨cf, i, k, f, st, cell, h1, h2, h3, h4, K.2.1 st cell h5 (fun q => by have := hn st q cell h5; rw [h6] at this; cases this), h6, h7⟩
theorem i_ne {a b : Int32} (q : ¬ a = b) : a.toInt ≠ b.toInt := fun e => q (Int32.toInt_inj.mp e)
theorem i_lt {a b : Int32} (q : a < b) : a.toInt < b.toInt := Int32.lt_iff_toInt_lt.mp q
theorem i_nlt {a b : Int32} (q : ¬ a < b) : b.toInt ≤ a.toInt := by rw [Int32.lt_iff_toInt_lt] at q; omega
theorem i_eq {a b : Int32} (q : a.toInt = b.toInt) : a = b := Int32.toInt_inj.mp q
theorem and7 (x : Int32) : ¬ (x &&& 7) < 0 ∧ ¬ (7 : Int32) < (x &&& 7) := by
  have := c_and x 7 (by decide)
  rw [Int32.lt_iff_toInt_lt, Int32.lt_iff_toInt_lt]
  have e1 : (7 : Int32).toInt = 7 := by decide
  have e2 : (0 : Int32).toInt = 0 := by decide
  omega
theorem and255c (x : Int32) : ¬ (x &&& 255).toUInt32.toUInt16.toUInt32.toInt32 < 0 ∧ ¬ (255 : Int32) < (x &&& 255).toUInt32.toUInt16.toUInt32.toInt32 := by
  have h1 := c_and x 255 (by decide)
  have h2 := c_i2c (x &&& 255)
  rw [Int32.lt_iff_toInt_lt, Int32.lt_iff_toInt_lt]
  have e1 : (255 : Int32).toInt = 255 := by decide
  have e2 : (0 : Int32).toInt = 0 := by decide
  omega
theorem ch_up {x : Int32} (q : ¬ (255 : Int32) < x) : ¬ (65535 : Int32) < x := by
  rw [Int32.lt_iff_toInt_lt] at q ⊢
  have e1 : (255 : Int32).toInt = 255 := by decide
  have e2 : (65535 : Int32).toInt = 65535 := by decide
  omega
theorem allI0 {P : Int32 → Prop} : ∀ x ∈ ([] : List Int32), P x := fun _ q => nomatch q
theorem allI {P : Int32 → Prop} {y : Int32} {L : List Int32} (q : P y) (r : ∀ x ∈ L, P x) : ∀ x ∈ y :: L, P x := fun x z => (List.mem_cons.mp z).elim (fun u => u ▸ q) (r x)
theorem nar_ref {C : String} {v : Value} (hv : v.isRef = true) : narrow (.object C) v = v := by cases v <;> simp_all [Value.isRef, narrow]
theorem fits_refv {C : String} {v : Value} (hv : v.isRef = true) : fits (.object C) v = true := by cases v <;> simp_all [Value.isRef, fits]
theorem gInstNull (K : Cx p l e R s m args below meth c B ML Z own n0 md T h ws cells slots) {index : Nat} (hd : Dc B pc (.instanceof index) 3 pc') (r : Go p e below F T (mkF m pc' Ls (.int 0 :: St))) : Go p e below F T (mkF m pc Ls (.null :: St)) := by
  obtain ⟨⟨hx, hby, hml⟩, eT, hn0, s1, locs, X, -⟩ := K
  obtain ⟨hd, rfl⟩ := hd
  exact r.st (X.instanceofNull hx (g := mkF m pc Ls (.null :: St)) rfl rfl (hb hby hd))
/-- an object of C (whose superclass is the root) is no D, D an ordinary class -/
theorem noCast {C S D : String} {n : Nat} (w : (Cond.superclass C S).before a0 Z = true) (w0 : (Cond.noSuperclass S).before a0 Z = true) (wi : (Cond.instantiable D n).before a0 Z = true) (hCD : C ≠ D) (hSD : S ≠ D) : ∃ c t, Z.vm.findClass C = some c ∧ Z.vm.findClass D = some t ∧ Z.vm.assignable c t = false := by
  obtain ⟨c, h0⟩ := found_sup w
  obtain ⟨pp, k, kp, h1, h2, h3, h4, h5, h6, h7⟩ := Cond.superclass_spec h0 w
  obtain ⟨t, kt, g0, g2, g5, g7, -, -⟩ := Cond.instantiable_spec wi
  obtain ⟨c', k', r1, r2, r3, -, -⟩ := Cond.noSuperclass_spec w0
  cases h1.symm.trans r1
  cases h3.symm.trans r2
  have ne1 := ids_ne h0 g0 hCD
  have ne2 := ids_ne h1 g0 hSD
  have g7' : kt.isInterface = false := by cases hq : kt.isInterface <;> simp_all
  have sub : ∀ fuel, Z.vm.isSubclassAux fuel c t = false := fun fuel => by
    cases fuel with
    | zero => rfl
    | succ f =>
      cases f with
      | zero => simp [Vm.isSubclassAux, ne1, h2, h4]
      | succ f => simp [Vm.isSubclassAux, ne1, h2, h4, ne2, h3, r3]
  refine ⟨c, t, h0, g0, ?_⟩
  show Z.vm.assignableAux (255 + 1) c t = false
  simp [Vm.assignableAux, ne1, h2, g2, h5, g5, g7', Vm.isSubclass, sub]

end Kit
end Jvm.OwnKit

/- laws to paste: Road.backV, Road.eqW, Road.codOf (cut by pick.py; bodies as the Statement names them) -/
namespace Jvm.Pilot.@@N@@
namespace StrChars
open Jvm Sem ClassFile Op Lib Jvm.Stand Jvm.Free.XT Jvm.Free.ALB Jvm.Free.JM Jvm.Free
open Jvm.Lib.Cold (StaticIs)
/-- a char array whose places are chars -/
def Ch (a : Addr) (A : Cell) (U : State) : Prop := Arr .char a A U ∧ Typed .char A
theorem Ch.mv {a : Addr} {A : Cell} {U U' : State} (h : Ch a A U) (hal : U.vm.Alike U'.vm) (hh : U'.heap = U.heap) : Ch a A U' := ⟨h.1.mv hal hh, h.2⟩
theorem Ch.keep {a : Addr} {A : Cell} {U U' : State} (h : Ch a A U) (hal : U.vm.Alike U'.vm) (hk : U'.heap[a]? = some A) : Ch a A U' := ⟨h.1.keep hal hk, h.2⟩
/-- what place i of a char[]'s cell holds -/
def cv (A : Cell) (i : Nat) : Int32 := match A.slots[i]? with | some (.int x) => x | _ => 0
theorem Ch.get {a : Addr} {A : Cell} {U : State} (h : Ch a A U) {i : Nat} (hi : i < A.slots.size) : A.slots[i]? = some (.int (cv A i)) := by
  have e := Array.getElem?_eq_getElem hi
  have f := h.2 i _ e
  unfold cv; rw [e]
  generalize A.slots[i] = v at f
  cases v <;> simp [fits] at f ⊢
/-- the byte that i2b leaves of a char -/
def lo8 (x : Int32) : Int32 := x.toInt8.toInt32
theorem fits_lo8 (y : Int32) : fits .byte (.int (lo8 y)) = true := by
  have h1 := y.toInt8.le_toInt
  have h2 := y.toInt8.toInt_lt
  simp only [lo8, fits, Bool.and_eq_true, decide_eq_true_eq, Int32.le_iff_toInt_le, Int8.toInt_toInt32, show (-128 : Int32).toInt = -128 from by decide, show (127 : Int32).toInt = 127 from by decide]
  omega
/-- A' is A but that each place j of lo .. hi - 1 holds f j -/
def Laid (A A' : Cell) (lo hi : Nat) (f : Nat → Value) : Prop := A'.cls = A.cls ∧ A'.vm = A.vm ∧ A'.slots.size = A.slots.size ∧ ∀ i, A'.slots[i]? = if lo ≤ i ∧ i < hi then some (f i) else A.slots[i]?
theorem Laid.zero (A : Cell) (lo : Nat) (f : Nat → Value) : Laid A A lo (lo + 0) f := ⟨rfl, rfl, rfl, fun i => by rw [if_neg (by omega)]⟩
theorem Laid.step {A Ak : Cell} {lo k : Nat} {f : Nat → Value} {v : Value} (h : Laid A Ak lo k f) (hlo : lo ≤ k) (hk : k < Ak.slots.size) (hv : v = f k) : Laid A (Ak.setSlot k v) lo (k + 1) f := by
  refine ⟨h.1, h.2.1, by simpa [Cell.setSlot] using h.2.2.1, fun i => ?_⟩
  by_cases e : k = i
  · subst e; rw [Cell.slots_setSlot_self v hk, if_pos (by omega), hv]
  · rw [Cell.slots_setSlot_ne v e, h.2.2.2 i]
    by_cases q : lo ≤ i ∧ i < k
    · rw [if_pos q, if_pos (by omega)]
    · rw [if_neg q, if_neg (by omega)]
def U16 : String := "java/lang/StringUTF16"
namespace Cmp5
def yN : MethodName := ⟨"java/lang/StringUTF16", "compress", "([CI[BII)I"⟩
abbrev yB : ByteArray := jdk_52_method_21_code
theorem d0 : decode yB 0 = .ok (.iconst 0, 1) := by decide +kernel
theorem d1 : decode yB 1 = .ok (.istore 5, 2) := by decide +kernel
theorem d3 : decode yB 3 = .ok (.iload 5, 2) := by decide +kernel
theorem d5 : decode yB 5 = .ok (.iload 4, 2) := by decide +kernel
theorem d7 : decode yB 7 = .ok (.if_icmp (.ge) 37, 3) := by decide +kernel
theorem d10 : decode yB 10 = .ok (.aload_n 0, 1) := by decide +kernel
theorem d11 : decode yB 11 = .ok (.iload_n 1, 1) := by decide +kernel
theorem d12 : decode yB 12 = .ok (.caload, 1) := by decide +kernel
theorem d13 : decode yB 13 = .ok (.istore 6, 2) := by decide +kernel
theorem d15 : decode yB 15 = .ok (.iload 6, 2) := by decide +kernel
theorem d17 : decode yB 17 = .ok (.sipush 255, 3) := by decide +kernel
theorem d20 : decode yB 20 = .ok (.if_icmp (.le) 6, 3) := by decide +kernel
theorem d26 : decode yB 26 = .ok (.aload_n 2, 1) := by decide +kernel
theorem d27 : decode yB 27 = .ok (.iload_n 3, 1) := by decide +kernel
theorem d28 : decode yB 28 = .ok (.iload 6, 2) := by decide +kernel
theorem d30 : decode yB 30 = .ok (.i2b, 1) := by decide +kernel
theorem d31 : decode yB 31 = .ok (.bastore, 1) := by decide +kernel
theorem d32 : decode yB 32 = .ok (.iinc 1 1, 3) := by decide +kernel
theorem d35 : decode yB 35 = .ok (.iinc 3 1, 3) := by decide +kernel
theorem d38 : decode yB 38 = .ok (.iinc 5 1, 3) := by decide +kernel
theorem d41 : decode yB 41 = .ok (.goto (-38), 3) := by decide +kernel
theorem d44 : decode yB 44 = .ok (.iload 4, 2) := by decide +kernel
theorem d46 : decode yB 46 = .ok (.ireturn, 1) := by decide +kernel
def site : List Cond := []
def tab : Cond := tabOf yN yB 7 (some .int) site
def P (b : Addr) (A : Cell) (d : Addr) (B : Cell) (o q len : Nat) (args : Array Value) (s : State) : Prop := args = #[.ref b, .int (Int32.ofNat o), .ref d, .int (Int32.ofNat q), .int (Int32.ofNat len)] ∧ Ch b A s ∧ Arr .byte d B s ∧ b ≠ d ∧ o + len ≤ A.slots.size ∧ q + len ≤ B.slots.size ∧ ∀ i, i < len → ¬ 255 < cv A (o + i)
def E (b : Addr) (A : Cell) (d : Addr) (B : Cell) (o q len : Nat) (r : Option Value) (s u : State) : Prop := r = some (.int (Int32.ofNat len)) ∧ ∃ B', Put d B' s u ∧ Laid B B' q (q + len) (fun j => Value.int (lo8 (cv A (o + (j - q)))))
/-- no char of the range above 255: len; the places written hold each char's low byte -/
theorem law (l : Launch) (b : Addr) (A : Cell) (d : Addr) (B : Cell) (o q len : Nat) : Law l yN 5 5 0 0 yB 7 (some .int) site (P b A d B o q len) (E b A d B o q len) (copyLocs d q len) 0 0 := by
  refine Law.of_walk (plainFor_of_name (by decide +kernel)) (by decide +kernel) (by decide +kernel) (by decide) (fun _ _ h => by rw [h.1]; rfl) (fun _ U U' hal hh h => ⟨h.1, h.2.1.mv hal hh, h.2.2.1.mv hal hh, h.2.2.2⟩) (fun r U U' V V' h1 hal h2 h => ⟨h.1, h.2.elim fun B' q => ⟨B', q.1.mv h1 h2, q.2⟩⟩) ?_
  intro p e s m args below meth c s₁ X0 hexec hbytes hml hret hlk hnm hown hh0 W hP
  obtain ⟨rfl, hA, hB, hne, l1, l2, hp⟩ := hP
  have c1 : Steps p.tables e below (s₁.setTop (entryFrame m #[.ref b, .int (Int32.ofNat o), .ref d, .int (Int32.ofNat q), .int (Int32.ofNat len)] 7)) (s₁.setTop (mkF m 0 #[.val (.ref b), .val (.int (Int32.ofNat o)), .val (.ref d), .val (.int (Int32.ofNat q)), .val (.int (Int32.ofNat len)), .unset, .unset] [])) := entry rfl
  have hA0 := hA.1.mv X0.warmed.alike hh0
  have hB0 := hB.mv X0.warmed.alike hh0
  have a31 := hA.1.2.2.2
  have c2 : Steps p.tables e below (s₁.setTop (entryFrame m #[.ref b, .int (Int32.ofNat o), .ref d, .int (Int32.ofNat q), .int (Int32.ofNat len)] 7)) (s₁.setTop (mkF m 3 #[.val (.ref b), .val (.int (Int32.ofNat o)), .val (.ref d), .val (.int (Int32.ofNat q)), .val (.int (Int32.ofNat len)), .val (.int 0), .unset] [])) := c1.trans (by
    refine iconstV X0.here hexec rfl 0 (hb hbytes d0) (by decide) ?_
    refine XS.istore X0.here hexec rfl (hb hbytes d1) rfl rfl ?_
    exact Steps.refl _)
  have loop : ∀ (r i : Nat), i + r = len → ∀ (z : Slot), (z = .unset ∨ ∃ w, z = .val w ∧ w.category = 1) → ∀ (Tl : State) (Bk : Cell), Stand p l e { frames := 0, locals := 0, cells := 0, slots := 0 } s m #[.ref b, .int (Int32.ofNat o), .ref d, .int (Int32.ofNat q), .int (Int32.ofNat len)] below meth c Tl ([] ++ copyLocs d q i) 0 0 → Put d Bk s₁ Tl → Laid B Bk q (q + i) (fun j => Value.int (lo8 (cv A (o + (j - q))))) →
      Steps p.tables e below (s₁.setTop (entryFrame m #[.ref b, .int (Int32.ofNat o), .ref d, .int (Int32.ofNat q), .int (Int32.ofNat len)] 7)) (Tl.setTop (mkF m 3 #[.val (.ref b), .val (.int (Int32.ofNat (o + i))), .val (.ref d), .val (.int (Int32.ofNat (q + i))), .val (.int (Int32.ofNat len)), .val (.int (Int32.ofNat i)), z] [])) → ∃ (T' : State) (B' : Cell) (z' : Slot), Stand p l e { frames := 0, locals := 0, cells := 0, slots := 0 } s m #[.ref b, .int (Int32.ofNat o), .ref d, .int (Int32.ofNat q), .int (Int32.ofNat len)] below meth c T' ([] ++ copyLocs d q len) 0 0 ∧ Put d B' s₁ T' ∧ Laid B B' q (q + len) (fun j => Value.int (lo8 (cv A (o + (j - q))))) ∧
      Steps p.tables e below (s₁.setTop (entryFrame m #[.ref b, .int (Int32.ofNat o), .ref d, .int (Int32.ofNat q), .int (Int32.ofNat len)] 7)) (T'.setTop (mkF m 3 #[.val (.ref b), .val (.int (Int32.ofNat (o + len))), .val (.ref d), .val (.int (Int32.ofNat (q + len))), .val (.int (Int32.ofNat len)), .val (.int (Int32.ofNat len)), z'] [])) := by
    intro r
    induction r with
    | zero =>
      intro i hi z hz Tl Bk Xl pl fl cl
      have hil : i = len := by omega
      rw [hil] at Xl fl cl
      exact ⟨Tl, Bk, z, Xl, pl, fl, cl⟩
    | succ r ih =>
      intro i hi z hz Tl Bk Xl pl fl cl
      have all := X0.warmed.alike.symm.trans Xl.warmed.alike
      have hAl := hA0.keep all (pl.other hne hA0.1)
      have hBk := hB0.like all pl.1 fl.1 fl.2.1 fl.2.2.1
      have hlt : q + i < Bk.slots.size := by rw [fl.2.2.1]; omega
      have c3 : Steps p.tables e below (s₁.setTop (entryFrame m #[.ref b, .int (Int32.ofNat o), .ref d, .int (Int32.ofNat q), .int (Int32.ofNat len)] 7)) (Tl.setTop (mkF m 12 #[.val (.ref b), .val (.int (Int32.ofNat (o + i))), .val (.ref d), .val (.int (Int32.ofNat (q + i))), .val (.int (Int32.ofNat len)), .val (.int (Int32.ofNat i)), z] [.int (Int32.ofNat (o + i)), .ref b])) := cl.trans (by
        refine XS.iload Xl.here hexec rfl (hb hbytes d3) rfl ?_
        refine XS.iload Xl.here hexec rfl (hb hbytes d5) rfl ?_
        refine XS.icmpNo Xl.here hexec rfl (hb hbytes d7) rfl (ii_ge_f (lt32 (by omega) (by omega))) ?_
        refine XS.aloadN Xl.here hexec rfl (hb hbytes d10) rfl rfl ?_
        refine XS.iloadN Xl.here hexec rfl (hb hbytes d11) rfl ?_
        exact Steps.refl _)
      have c4 : Steps p.tables e below (s₁.setTop (entryFrame m #[.ref b, .int (Int32.ofNat o), .ref d, .int (Int32.ofNat q), .int (Int32.ofNat len)] 7)) (Tl.setTop (mkF m 13 #[.val (.ref b), .val (.int (Int32.ofNat (o + i))), .val (.ref d), .val (.int (Int32.ofNat (q + i))), .val (.int (Int32.ofNat len)), .val (.int (Int32.ofNat i)), z] [.int (cv A (o + i))])) := c3.trans (by
        refine Xl.aget hexec hAl rfl (hA.get (i := o + i) (by omega)) rfl rfl (hb hbytes d12) ?_
        exact Steps.refl _)
      have c5 : Steps p.tables e below (s₁.setTop (entryFrame m #[.ref b, .int (Int32.ofNat o), .ref d, .int (Int32.ofNat q), .int (Int32.ofNat len)] 7)) (Tl.setTop (mkF m 15 #[.val (.ref b), .val (.int (Int32.ofNat (o + i))), .val (.ref d), .val (.int (Int32.ofNat (q + i))), .val (.int (Int32.ofNat len)), .val (.int (Int32.ofNat i)), .val (.int (cv A (o + i)))] [])) := c4.trans (by
        refine XS.istoreS Xl.here hexec rfl (hb hbytes d13) rfl rfl hz ?_
        exact Steps.refl _)
      have c6 : Steps p.tables e below (s₁.setTop (entryFrame m #[.ref b, .int (Int32.ofNat o), .ref d, .int (Int32.ofNat q), .int (Int32.ofNat len)] 7)) (Tl.setTop (mkF m 31 #[.val (.ref b), .val (.int (Int32.ofNat (o + i))), .val (.ref d), .val (.int (Int32.ofNat (q + i))), .val (.int (Int32.ofNat len)), .val (.int (Int32.ofNat i)), .val (.int (cv A (o + i)))] [.int (lo8 (cv A (o + i))), .int (Int32.ofNat (q + i)), .ref d])) := c5.trans (by
        refine XS.iload Xl.here hexec rfl (hb hbytes d15) rfl ?_
        refine sipushV Xl.here hexec rfl 255 (hb hbytes d17) (by decide) ?_
        refine XS.icmpYes Xl.here hexec rfl (pc0 := 20) rfl (hb hbytes d20) rfl (ii_le_t (hp i (by omega))) (by decide) rfl ?_
        refine XS.aloadN Xl.here hexec rfl (hb hbytes d26) rfl rfl ?_
        refine XS.iloadN Xl.here hexec rfl (hb hbytes d27) rfl ?_
        refine XS.iload Xl.here hexec rfl (hb hbytes d28) rfl ?_
        refine i2b Xl.here hexec rfl (hb hbytes d30) rfl ?_
        exact Steps.refl _)
      obtain ⟨T7, X7, p7, st7⟩ := Xl.aput hexec hBk rfl hlt rfl (fits_lo8 (cv A (o + i))) (g := (mkF m 31 #[.val (.ref b), .val (.int (Int32.ofNat (o + i))), .val (.ref d), .val (.int (Int32.ofNat (q + i))), .val (.int (Int32.ofNat len)), .val (.int (Int32.ofNat i)), .val (.int (cv A (o + i)))] [.int (lo8 (cv A (o + i))), .int (Int32.ofNat (q + i)), .ref d])) rfl (rest := []) rfl (hb hbytes d31)
      have c8 : Steps p.tables e below (s₁.setTop (entryFrame m #[.ref b, .int (Int32.ofNat o), .ref d, .int (Int32.ofNat q), .int (Int32.ofNat len)] 7)) (T7.setTop (mkF m 32 #[.val (.ref b), .val (.int (Int32.ofNat (o + i))), .val (.ref d), .val (.int (Int32.ofNat (q + i))), .val (.int (Int32.ofNat len)), .val (.int (Int32.ofNat i)), .val (.int (cv A (o + i)))] [])) := c6.trans (st7 _ (Steps.refl _))
      have c9 : Steps p.tables e below (s₁.setTop (entryFrame m #[.ref b, .int (Int32.ofNat o), .ref d, .int (Int32.ofNat q), .int (Int32.ofNat len)] 7)) (T7.setTop (mkF m 3 #[.val (.ref b), .val (.int (Int32.ofNat (o + i) + 1)), .val (.ref d), .val (.int (Int32.ofNat (q + i) + 1)), .val (.int (Int32.ofNat len)), .val (.int (Int32.ofNat i + 1)), .val (.int (cv A (o + i)))] [])) := c8.trans (by
        refine iincV X7.here hexec rfl 1 (hb hbytes d32) (by decide) rfl rfl ?_
        refine iincV X7.here hexec rfl 1 (hb hbytes d35) (by decide) rfl rfl ?_
        refine iincV X7.here hexec rfl 1 (hb hbytes d38) (by decide) rfl rfl ?_
        refine XS.goto X7.here hexec rfl (pc0 := 41) rfl (hb hbytes d41) (by decide) rfl ?_
        exact Steps.refl _)
      have c10 : Steps p.tables e below (s₁.setTop (entryFrame m #[.ref b, .int (Int32.ofNat o), .ref d, .int (Int32.ofNat q), .int (Int32.ofNat len)] 7)) (T7.setTop (mkF m 3 #[.val (.ref b), .val (.int (Int32.ofNat (o + (i + 1)))), .val (.ref d), .val (.int (Int32.ofNat (q + (i + 1)))), .val (.int (Int32.ofNat len)), .val (.int (Int32.ofNat (i + 1))), .val (.int (cv A (o + i)))] [])) := by
        have := c9
        rw [succ32, succ32, succ32] at this
        exact this
      exact ih (i + 1) (by omega) _ (Or.inr ⟨_, rfl, rfl⟩) T7 _ (by rw [copyLocs_step, ← List.append_assoc]; exact X7) (pl.trans p7) (fl.step (by omega) hlt (by simp)) c10
  obtain ⟨T9, B9, z9, X9, p9, f9, g9⟩ := loop len 0 (by omega) .unset (Or.inl rfl) s₁ B (by simpa [copyLocs] using X0) ⟨hB0.1, fun _ _ => rfl, rfl⟩ (Laid.zero _ _ _) c2
  have c11 : Steps p.tables e below (s₁.setTop (entryFrame m #[.ref b, .int (Int32.ofNat o), .ref d, .int (Int32.ofNat q), .int (Int32.ofNat len)] 7)) (T9.setTop (mkF m 46 #[.val (.ref b), .val (.int (Int32.ofNat (o + len))), .val (.ref d), .val (.int (Int32.ofNat (q + len))), .val (.int (Int32.ofNat len)), .val (.int (Int32.ofNat len)), z9] [.int (Int32.ofNat len)])) := g9.trans (by
    refine XS.iload X9.here hexec rfl (hb hbytes d3) rfl ?_
    refine XS.iload X9.here hexec rfl (hb hbytes d5) rfl ?_
    refine XS.icmpYes X9.here hexec rfl (pc0 := 7) rfl (hb hbytes d7) rfl (ii_ge_t (nlt32 (by omega) (Nat.le_refl _))) (by decide) rfl ?_
    refine XS.iload X9.here hexec rfl (hb hbytes d44) rfl ?_
    exact Steps.refl _)
  exact ⟨T9, some (.int (Int32.ofNat len)), _, _, _, X9, by simp, rfl, rfl, (fun h => by cases h), ⟨rfl, B9, p9.from hh0, f9⟩, fun fs hl => c11.trans (X9.ireturnOut hexec hret rfl (Or.inl rfl) (hb hbytes d46) hl)⟩
end Cmp5
namespace Cmp3
def yN : MethodName := ⟨"java/lang/StringUTF16", "compress", "([CII)[B"⟩
abbrev yB : ByteArray := jdk_52_method_16_code
theorem d0 : decode yB 0 = .ok (.iload_n 2, 1) := by decide +kernel
theorem d1 : decode yB 1 = .ok (.newarray .byte, 2) := by decide +kernel
theorem d3 : decode yB 3 = .ok (.astore_n 3, 1) := by decide +kernel
theorem d4 : decode yB 4 = .ok (.aload_n 0, 1) := by decide +kernel
theorem d5 : decode yB 5 = .ok (.iload_n 1, 1) := by decide +kernel
theorem d6 : decode yB 6 = .ok (.aload_n 3, 1) := by decide +kernel
theorem d7 : decode yB 7 = .ok (.iconst 0, 1) := by decide +kernel
theorem d8 : decode yB 8 = .ok (.iload_n 2, 1) := by decide +kernel
theorem d9 : decode yB 9 = .ok (.invokestatic 115, 3) := by decide +kernel
theorem d12 : decode yB 12 = .ok (.istore 4, 2) := by decide +kernel
theorem d14 : decode yB 14 = .ok (.iload 4, 2) := by decide +kernel
theorem d16 : decode yB 16 = .ok (.iload_n 2, 1) := by decide +kernel
theorem d17 : decode yB 17 = .ok (.if_icmp (.eq) 40, 3) := by decide +kernel
theorem d57 : decode yB 57 = .ok (.aload_n 3, 1) := by decide +kernel
theorem d58 : decode yB 58 = .ok (.areturn, 1) := by decide +kernel
def site : List Cond := [.arrayClass .byte, Cmp5.tab] ++ staticW U16 115 Cmp5.yN
def tab : Cond := tabOf yN yB 6 (some (.array .byte)) site
def P (b : Addr) (A : Cell) (o len : Nat) (args : Array Value) (s : State) : Prop := args = #[.ref b, .int (Int32.ofNat o), .int (Int32.ofNat len)] ∧ Ch b A s ∧ o + len ≤ A.slots.size ∧ len ≤ 536870912 ∧ ∀ i, i < len → ¬ 255 < cv A (o + i)
def E (b : Addr) (A : Cell) (o len : Nat) (r : Option Value) (s u : State) : Prop := NewArr .byte "[B" len (fun j => .int (lo8 (cv A (o + j)))) r s u ∧ u.heap.size = s.heap.size + 1
/-- no char of the range above 255: a new byte[] of their low bytes -/
theorem law (l : Launch) (b : Addr) (A : Cell) (o len : Nat) : Law l yN 3 3 1 18 yB 6 (some (.array .byte)) site (P b A o len) (E b A o len) [] 1 len := by
  refine Law.of_walk (plainFor_of_name (by decide +kernel)) (by decide +kernel) (by decide +kernel) (by decide) (fun _ _ h => by rw [h.1]; rfl) (fun _ U U' hal hh h => ⟨h.1, h.2.1.mv hal hh, h.2.2⟩) (fun r U U' V V' h1 hal h2 h => ⟨NewArr.mv r U U' V V' h1 hal h2 h.1, by rw [h1, h2]; exact h.2⟩) ?_
  intro p e s m args below meth c s₁ X0 hexec hbytes hml hret hlk hnm hown hh0 W hP
  obtain ⟨rfl, hA, l1, l2, hp⟩ := hP
  have a31 := hA.1.2.2.2
  have c1 : Steps p.tables e below (s₁.setTop (entryFrame m #[.ref b, .int (Int32.ofNat o), .int (Int32.ofNat len)] 6)) (s₁.setTop (mkF m 0 #[.val (.ref b), .val (.int (Int32.ofNat o)), .val (.int (Int32.ofNat len)), .unset, .unset, .unset] [])) := entry rfl
  have c2 : Steps p.tables e below (s₁.setTop (entryFrame m #[.ref b, .int (Int32.ofNat o), .int (Int32.ofNat len)] 6)) (s₁.setTop (mkF m 1 #[.val (.ref b), .val (.int (Int32.ofNat o)), .val (.int (Int32.ofNat len)), .unset, .unset, .unset] [.int (Int32.ofNat len)])) := c1.trans (by
    refine XS.iloadN X0.here hexec rfl (hb hbytes d0) rfl ?_
    exact Steps.refl _)
  obtain ⟨T3, B3, X3, ba3, bs3, bv3, bh3, bf3, st3⟩ := X0.anew hexec (atype := .byte) (wk W (.arrayClass .byte)) rfl (by show len * 1 ≤ _; omega) (by omega) (g := (mkF m 1 #[.val (.ref b), .val (.int (Int32.ofNat o)), .val (.int (Int32.ofNat len)), .unset, .unset, .unset] [.int (Int32.ofNat len)])) rfl (hb hbytes d1) (rest := []) rfl (Nat.le_refl _) (by show 0 + len ≤ len; omega)
  rw [hh0] at ba3 st3
  have kp3 : XT.Kept s T3 := (XT.Kept.of_eq hh0).push bh3
  have hA3 := hA.keep X3.warmed.alike (kp3 _ _ hA.1.1)
  have hne : b ≠ s.heap.size := hA.1.ne
  have c4 : Steps p.tables e below (s₁.setTop (entryFrame m #[.ref b, .int (Int32.ofNat o), .int (Int32.ofNat len)] 6)) (T3.setTop (mkF m 3 #[.val (.ref b), .val (.int (Int32.ofNat o)), .val (.int (Int32.ofNat len)), .unset, .unset, .unset] [.ref s.heap.size])) := c2.trans (st3 _ (Steps.refl _))
  have c5 : Steps p.tables e below (s₁.setTop (entryFrame m #[.ref b, .int (Int32.ofNat o), .int (Int32.ofNat len)] 6)) (T3.setTop (mkF m 9 #[.val (.ref b), .val (.int (Int32.ofNat o)), .val (.int (Int32.ofNat len)), .val (.ref s.heap.size), .unset, .unset] [.int (Int32.ofNat len), .int 0, .ref s.heap.size, .int (Int32.ofNat o), .ref b])) := c4.trans (by
    refine XS.astoreN X3.here hexec rfl (hb hbytes d3) rfl rfl rfl ?_
    refine XS.aloadN X3.here hexec rfl (hb hbytes d4) rfl rfl ?_
    refine XS.iloadN X3.here hexec rfl (hb hbytes d5) rfl ?_
    refine XS.aloadN X3.here hexec rfl (hb hbytes d6) rfl rfl ?_
    refine iconstV X3.here hexec rfl 0 (hb hbytes d7) (by decide) ?_
    refine XS.iloadN X3.here hexec rfl (hb hbytes d8) rfl ?_
    exact Steps.refl _)
  obtain ⟨v6, T6, X6, E6, g6⟩ := X3.callS hexec (Cmp5.law l b A s.heap.size B3 o 0 len) hown (wks W (staticW U16 115 Cmp5.yN)) (wk W Cmp5.tab) (W := 0) (Nat.le_of_ble_eq_true rfl) (Nat.le_of_ble_eq_true rfl) (Nat.le_refl _) (by show 0 + len + 0 ≤ len; omega) (g := (mkF m 9 #[.val (.ref b), .val (.int (Int32.ofNat o)), .val (.int (Int32.ofNat len)), .val (.ref s.heap.size), .unset, .unset] [.int (Int32.ofNat len), .int (Int32.ofNat 0), .ref s.heap.size, .int (Int32.ofNat o), .ref b])) rfl (by rw [hml]; rfl) c5 (argsL := [.ref b, .int (Int32.ofNat o), .ref s.heap.size, .int (Int32.ofNat 0), .int (Int32.ofNat len)]) (rest := []) rfl rfl (by show 2 * 0 + 0 ≤ _; decide) (hb hbytes d9) (⟨rfl, hA3, ba3, hne, l1, by rw [bs3]; simp, hp⟩)
  obtain ⟨rfl, B6, p6, f6⟩ := E6
  have c7 : Steps p.tables e below (s₁.setTop (entryFrame m #[.ref b, .int (Int32.ofNat o), .int (Int32.ofNat len)] 6)) (T6.setTop (mkF m 12 #[.val (.ref b), .val (.int (Int32.ofNat o)), .val (.int (Int32.ofNat len)), .val (.ref s.heap.size), .unset, .unset] [.int (Int32.ofNat len)])) := g6
  have c8 : Steps p.tables e below (s₁.setTop (entryFrame m #[.ref b, .int (Int32.ofNat o), .int (Int32.ofNat len)] 6)) (T6.setTop (mkF m 58 #[.val (.ref b), .val (.int (Int32.ofNat o)), .val (.int (Int32.ofNat len)), .val (.ref s.heap.size), .val (.int (Int32.ofNat len)), .unset] [.ref s.heap.size])) := c7.trans (by
    refine XS.istore X6.here hexec rfl (hb hbytes d12) rfl rfl ?_
    refine XS.iload X6.here hexec rfl (hb hbytes d14) rfl ?_
    refine XS.iloadN X6.here hexec rfl (hb hbytes d16) rfl ?_
    refine XS.icmpYes X6.here hexec rfl (pc0 := 17) rfl (hb hbytes d17) rfl (ii_eq_t rfl) (by decide) rfl ?_
    refine XS.aloadN X6.here hexec rfl (hb hbytes d57) rfl rfl ?_
    exact Steps.refl _)
  have X8 := X6.wide (L' := []) (cells' := 1) (slots' := len) (fun x hx hlt => by
    simp only [List.nil_append, copyLocs, List.mem_map, List.mem_range] at hx
    obtain ⟨i, -, rfl⟩ := hx
    exact absurd hlt (Nat.lt_irrefl _)) (Nat.le_refl _) (by omega)
  exact ⟨T6, some (.ref s.heap.size), _, _, _, X8, rfl, rfl, rfl, (fun h => by cases h), ⟨⟨rfl, B6, ba3.like (X3.warmed.alike.symm.trans X6.warmed.alike) p6.1 f6.1 f6.2.1 f6.2.2.1, f6.2.1.trans bv3, by rw [X6.warmed.alike.findClass, f6.1]; exact bf3, by rw [f6.2.2.1, bs3]; simp, fun j hj => by rw [f6.2.2.2 j, if_pos (by omega)]; rfl, kp3.put p6 (Nat.le_refl _)⟩, by rw [p6.2.2, bh3, hh0]; simp⟩, fun fs hl => c8.trans (X8.areturnOut hexec rfl hret rfl (hb hbytes d58) hl)⟩
end Cmp3
namespace CodL
def yN : MethodName := ⟨"java/lang/StringUTF16", "coderFromArrayLen", "([BI)B"⟩
abbrev yB : ByteArray := jdk_52_method_15_code
theorem d0 : decode yB 0 = .ok (.iload_n 1, 1) := by decide +kernel
theorem d1 : decode yB 1 = .ok (.aload_n 0, 1) := by decide +kernel
theorem d2 : decode yB 2 = .ok (.arraylength, 1) := by decide +kernel
theorem d3 : decode yB 3 = .ok (.isub, 1) := by decide +kernel
theorem d4 : decode yB 4 = .ok (.bipush 31, 2) := by decide +kernel
theorem d6 : decode yB 6 = .ok (.iushr, 1) := by decide +kernel
theorem d7 : decode yB 7 = .ok (.i2b, 1) := by decide +kernel
theorem d8 : decode yB 8 = .ok (.ireturn, 1) := by decide +kernel
def site : List Cond := []
def tab : Cond := tabOf yN yB 2 (some .byte) site
def P (d : Addr) (B : Cell) (args : Array Value) (s : State) : Prop := args = #[.ref d, .int (Int32.ofNat B.slots.size)] ∧ Arr .byte d B s
def E (r : Option Value) (s u : State) : Prop := XT.PureE (some (.int 0)) r s u
/-- an array as long as the number of chars: LATIN1 -/
theorem law (l : Launch) (d : Addr) (B : Cell) : Law l yN 2 2 0 0 yB 2 (some .byte) site (P d B) E [] 0 0 := by
  refine Law.of_walk (plainFor_of_name (by decide +kernel)) (by decide +kernel) (by decide +kernel) (by decide) (fun _ _ h => by rw [h.1]; rfl) (fun _ U U' hal hh h => ⟨h.1, h.2.mv hal hh⟩) (fun r U U' V V' h1 hal h2 h => XT.PureE.mv r U U' V V' h1 hal h2 h) ?_
  intro p e s m args below meth c s₁ X0 hexec hbytes hml hret hlk hnm hown hh0 W hP
  obtain ⟨rfl, hB⟩ := hP
  have hB0 := hB.mv X0.warmed.alike hh0
  have c1 : Steps p.tables e below (s₁.setTop (entryFrame m #[.ref d, .int (Int32.ofNat B.slots.size)] 2)) (s₁.setTop (mkF m 0 #[.val (.ref d), .val (.int (Int32.ofNat B.slots.size))] [])) := entry rfl
  have c2 : Steps p.tables e below (s₁.setTop (entryFrame m #[.ref d, .int (Int32.ofNat B.slots.size)] 2)) (s₁.setTop (mkF m 2 #[.val (.ref d), .val (.int (Int32.ofNat B.slots.size))] [.ref d, .int (Int32.ofNat B.slots.size)])) := c1.trans (by
    refine XS.iloadN X0.here hexec rfl (hb hbytes d0) rfl ?_
    refine XS.aloadN X0.here hexec rfl (hb hbytes d1) rfl rfl ?_
    exact Steps.refl _)
  have c3 : Steps p.tables e below (s₁.setTop (entryFrame m #[.ref d, .int (Int32.ofNat B.slots.size)] 2)) (s₁.setTop (mkF m 8 #[.val (.ref d), .val (.int (Int32.ofNat B.slots.size))] [.int (lo8 (ushr (Int32.ofNat B.slots.size - Int32.ofNat B.slots.size) 31))])) := c2.trans (by
    refine X0.alen hexec hB0 rfl rfl (hb hbytes d2) ?_
    refine XS.isub X0.here hexec rfl (hb hbytes d3) rfl ?_
    refine bipushV X0.here hexec rfl 31 (hb hbytes d4) (by decide) ?_
    refine iushr X0.here hexec rfl (hb hbytes d6) rfl ?_
    refine i2b X0.here hexec rfl (hb hbytes d7) rfl ?_
    exact Steps.refl _)
  have e0 : lo8 (ushr (Int32.ofNat B.slots.size - Int32.ofNat B.slots.size) 31) = 0 := by rw [Int32.sub_self]; decide
  rw [e0] at c3
  exact ⟨s₁, some (.int 0), _, _, _, X0, rfl, rfl, rfl, (fun h => by cases h), ⟨rfl, hh0⟩, fun fs hl => c3.trans (X0.ireturnOut hexec hret rfl (Or.inr (Or.inr (Or.inl rfl))) (hb hbytes d8) hl)⟩
end CodL
/-- the String at a is Latin-1 over a new byte[] (the heap's one new cell): the low bytes of the len chars of A from o on; every cell but a is kept -/
def Got (a : Addr) (D : Cell) (fV fC : Field) (A : Cell) (o len : Nat) (r : Option Value) (s u : State) : Prop := r = none ∧ ∃ D' V : Cell, Blank "java/lang/String" a D' u ∧ Same D D' [fV.slot, fC.slot] ∧ D'.slots[fV.slot]? = some (.ref s.heap.size) ∧ D'.slots[fC.slot]? = some (.int 0) ∧ Arr .byte s.heap.size V u ∧ V.vm = .none ∧ u.vm.findClass "[B" = some V.cls ∧ V.slots.size = len ∧ (∀ j, j < len → V.slots[j]? = some (.int (lo8 (cv A (o + j))))) ∧ (∀ (y : Addr) (c : Cell), y ≠ a → s.heap[y]? = some c → u.heap[y]? = some c) ∧ u.heap.size = s.heap.size + 1
theorem Got.mv {a : Addr} {D A : Cell} {fV fC : Field} {o len : Nat} : ∀ r (U U' V V' : State), U'.heap = U.heap → V.vm.Alike V'.vm → V'.heap = V.heap → Got a D fV fC A o len r U V → Got a D fV fC A o len r U' V' :=
  fun r U U' V V' h1 hal h2 ⟨e0, D', X, a1, a2, a3, a4, a5, a6, a7, a8, a9, a10, a11⟩ => ⟨e0, D', X, a1.mv hal h2, a2, by rw [h1]; exact a3, a4, by rw [h1]; exact a5.mv hal h2, a6, by rw [hal.findClass]; exact a7, a8, a9, by rw [h1, h2]; exact a10, by rw [h1, h2]; exact a11⟩
namespace New4
def yN : MethodName := ⟨"java/lang/String", "<init>", "([CIILjava/lang/Void;)V"⟩
abbrev yB : ByteArray := jdk_42_method_149_code
theorem d0 : decode yB 0 = .ok (.aload_n 0, 1) := by decide +kernel
theorem d1 : decode yB 1 = .ok (.invokespecial 1, 3) := by decide +kernel
theorem d4 : decode yB 4 = .ok (.iload_n 3, 1) := by decide +kernel
theorem d5 : decode yB 5 = .ok (.ifCond (.ne) 22, 3) := by decide +kernel
theorem d27 : decode yB 27 = .ok (.getstatic 38, 3) := by decide +kernel
theorem d30 : decode yB 30 = .ok (.ifCond (.eq) 28, 3) := by decide +kernel
theorem d33 : decode yB 33 = .ok (.aload_n 1, 1) := by decide +kernel
theorem d34 : decode yB 34 = .ok (.iload_n 2, 1) := by decide +kernel
theorem d35 : decode yB 35 = .ok (.iload_n 3, 1) := by decide +kernel
theorem d36 : decode yB 36 = .ok (.invokestatic 177, 3) := by decide +kernel
theorem d39 : decode yB 39 = .ok (.astore 5, 2) := by decide +kernel
theorem d41 : decode yB 41 = .ok (.aload_n 0, 1) := by decide +kernel
theorem d42 : decode yB 42 = .ok (.aload 5, 2) := by decide +kernel
theorem d44 : decode yB 44 = .ok (.iload_n 3, 1) := by decide +kernel
theorem d45 : decode yB 45 = .ok (.invokestatic 47, 3) := by decide +kernel
theorem d48 : decode yB 48 = .ok (.putfield 15, 3) := by decide +kernel
theorem d51 : decode yB 51 = .ok (.aload_n 0, 1) := by decide +kernel
theorem d52 : decode yB 52 = .ok (.aload 5, 2) := by decide +kernel
theorem d54 : decode yB 54 = .ok (.putfield 9, 3) := by decide +kernel
theorem d57 : decode yB 57 = .ok (.return_, 1) := by decide +kernel
def site : List Cond := [.fieldLink "java/lang/String" 38 "java/lang/String" "COMPACT_STRINGS" "Z", Cmp3.tab, CodL.tab, .laysFinal "java/lang/String" "java/lang/String" "value" "[B", .fieldLink "java/lang/String" 9 "java/lang/String" "value" "[B", .laysFinal "java/lang/String" "java/lang/String" "coder" "B", .fieldLink "java/lang/String" 15 "java/lang/String" "coder" "B"] ++ objW "java/lang/String" 1 ++ staticW "java/lang/String" 177 Cmp3.yN ++ staticW "java/lang/String" 47 CodL.yN
def tab : Cond := tabOf yN yB 6 none site
def P (a : Addr) (D : Cell) (fV fC : Field) (b : Addr) (A : Cell) (z : Int32) (o len : Nat) (args : Array Value) (s : State) : Prop := args = #[.ref a, .ref b, .int (Int32.ofNat o), .int (Int32.ofNat len), .null] ∧ Blank "java/lang/String" a D s ∧ Found "java/lang/String" "value" "[B" fV s ∧ Found "java/lang/String" "coder" "B" fC s ∧ Ch b A s ∧ StaticIs s "java/lang/String" "COMPACT_STRINGS" "Z" (.int z) ∧ ¬ z = 0 ∧ 0 < len ∧ o + len ≤ A.slots.size ∧ len ≤ 536870912 ∧ ∀ i, i < len → ¬ 255 < cv A (o + i)
def E (a : Addr) (D : Cell) (fV fC : Field) (A : Cell) (o len : Nat) (r : Option Value) (s u : State) : Prop := Got a D fV fC A o len r s u
/-- len > 0, no char of the range above 255: a Latin-1 String of their low bytes -/
theorem law (l : Launch) (a : Addr) (D : Cell) (fV fC : Field) (b : Addr) (A : Cell) (z : Int32) (o len : Nat) : Law l yN 5 4 2 35 yB 6 none site (P a D fV fC b A z o len) (E a D fV fC A o len) [⟨a, fC.slot⟩, ⟨a, fV.slot⟩] 1 len := by
  refine Law.of_walk (plainFor_of_name (by decide +kernel)) (by decide +kernel) (by decide +kernel) (by decide) (fun _ _ h => by rw [h.1]; rfl) (fun _ U U' hal hh h => ⟨h.1, h.2.1.mv hal hh, h.2.2.1.al hal, h.2.2.2.1.al hal, h.2.2.2.2.1.mv hal hh, h.2.2.2.2.2.1.there hal hh, h.2.2.2.2.2.2⟩) (fun r U U' V V' h1 hal h2 h => Got.mv r U U' V V' h1 hal h2 h) ?_
  intro p e s m args below meth c s₁ X0 hexec hbytes hml hret hlk hnm hown hh0 W hP
  obtain ⟨rfl, hB, f1, f2, hA, s1, hz, l0, l1, l2, hp⟩ := hP
  have a31 := hA.1.2.2.2
  have c1 : Steps p.tables e below (s₁.setTop (entryFrame m #[.ref a, .ref b, .int (Int32.ofNat o), .int (Int32.ofNat len), .null] 6)) (s₁.setTop (mkF m 0 #[.val (.ref a), .val (.ref b), .val (.int (Int32.ofNat o)), .val (.int (Int32.ofNat len)), .val .null, .unset] [])) := entry rfl
  have c2 : Steps p.tables e below (s₁.setTop (entryFrame m #[.ref a, .ref b, .int (Int32.ofNat o), .int (Int32.ofNat len), .null] 6)) (s₁.setTop (mkF m 1 #[.val (.ref a), .val (.ref b), .val (.int (Int32.ofNat o)), .val (.int (Int32.ofNat len)), .val .null, .unset] [.ref a])) := c1.trans (by
    refine XS.aloadN X0.here hexec rfl (hb hbytes d0) rfl rfl ?_
    exact Steps.refl _)
  obtain ⟨T3, X3, q3, st3⟩ := X0.oinit hexec hown (wks W (objW "java/lang/String" 1)) (g := (mkF m 1 #[.val (.ref a), .val (.ref b), .val (.int (Int32.ofNat o)), .val (.int (Int32.ofNat len)), .val .null, .unset] [.ref a])) rfl (by rw [hml]; rfl) (rest := []) rfl (hb hbytes d1) (W := 0) (by show 2 * 0 + 0 ≤ _; decide) (Nat.le_of_ble_eq_true rfl) (Nat.le_of_ble_eq_true rfl)
  have hh3 := q3.trans hh0
  have c4 : Steps p.tables e below (s₁.setTop (entryFrame m #[.ref a, .ref b, .int (Int32.ofNat o), .int (Int32.ofNat len), .null] 6)) (T3.setTop (mkF m 27 #[.val (.ref a), .val (.ref b), .val (.int (Int32.ofNat o)), .val (.int (Int32.ofNat len)), .val .null, .unset] [])) := (c2.trans (st3 _ (Steps.refl _))).trans (by
    refine XS.iloadN X3.here hexec rfl (hb hbytes d4) rfl ?_
    refine XS.ifYes X3.here hexec rfl (pc0 := 5) rfl (hb hbytes d5) rfl (i0_ne_t (nz32 (by omega) l0)) (by decide) rfl ?_
    exact Steps.refl _)
  obtain ⟨T5, X5, q5, st5⟩ := X3.sget hexec hown (wk W (.fieldLink "java/lang/String" 38 "java/lang/String" "COMPACT_STRINGS" "Z")) s1 (fun _ _ h => by rw [hh3]; exact h) (g := (mkF m 27 #[.val (.ref a), .val (.ref b), .val (.int (Int32.ofNat o)), .val (.int (Int32.ofNat len)), .val .null, .unset] [])) rfl (hb hbytes d27)
  have hh5 := q5.trans hh3
  have c6 : Steps p.tables e below (s₁.setTop (entryFrame m #[.ref a, .ref b, .int (Int32.ofNat o), .int (Int32.ofNat len), .null] 6)) (T5.setTop (mkF m 30 #[.val (.ref a), .val (.ref b), .val (.int (Int32.ofNat o)), .val (.int (Int32.ofNat len)), .val .null, .unset] [.int z])) := c4.trans (st5 _ (Steps.refl _))
  have c7 : Steps p.tables e below (s₁.setTop (entryFrame m #[.ref a, .ref b, .int (Int32.ofNat o), .int (Int32.ofNat len), .null] 6)) (T5.setTop (mkF m 36 #[.val (.ref a), .val (.ref b), .val (.int (Int32.ofNat o)), .val (.int (Int32.ofNat len)), .val .null, .unset] [.int (Int32.ofNat len), .int (Int32.ofNat o), .ref b])) := c6.trans (by
    refine XS.ifNo X5.here hexec rfl (hb hbytes d30) rfl (i0_eq_f hz) ?_
    refine XS.aloadN X5.here hexec rfl (hb hbytes d33) rfl rfl ?_
    refine XS.iloadN X5.here hexec rfl (hb hbytes d34) rfl ?_
    refine XS.iloadN X5.here hexec rfl (hb hbytes d35) rfl ?_
    exact Steps.refl _)
  obtain ⟨v8, T8, X8, E8, g8⟩ := X5.callS hexec (Cmp3.law l b A o len) hown (wks W (staticW "java/lang/String" 177 Cmp3.yN)) (wk W Cmp3.tab) (W := 0) (Nat.le_of_ble_eq_true rfl) (Nat.le_of_ble_eq_true rfl) (Nat.le_refl _) (by show 0 + len ≤ len; omega) (g := (mkF m 36 #[.val (.ref a), .val (.ref b), .val (.int (Int32.ofNat o)), .val (.int (Int32.ofNat len)), .val .null, .unset] [.int (Int32.ofNat len), .int (Int32.ofNat o), .ref b])) rfl (by rw [hml]; rfl) c7 (argsL := [.ref b, .int (Int32.ofNat o), .int (Int32.ofNat len)]) (rest := []) rfl rfl (by show 2 * 0 + 0 ≤ _; decide) (hb hbytes d36) (⟨rfl, hA.mv X5.warmed.alike hh5, l1, l2, hp⟩)
  obtain ⟨e8, z8⟩ := E8
  obtain ⟨rfl, N, n1, n2, n3, n4, n5, n6⟩ := NewArr.mv _ T5 s _ _ hh5.symm (Vm.Alike.refl _) rfl e8
  rw [hh5] at z8
  have hB1 := hB.keep X8.warmed.alike (n6 _ _ hB.1)
  have hne : s.heap.size ≠ a := (Nat.ne_of_lt (Array.getElem?_eq_some_iff.mp hB.1).1).symm
  have c9 : Steps p.tables e below (s₁.setTop (entryFrame m #[.ref a, .ref b, .int (Int32.ofNat o), .int (Int32.ofNat len), .null] 6)) (T8.setTop (mkF m 39 #[.val (.ref a), .val (.ref b), .val (.int (Int32.ofNat o)), .val (.int (Int32.ofNat len)), .val .null, .unset] [.ref s.heap.size])) := g8
  have c10 : Steps p.tables e below (s₁.setTop (entryFrame m #[.ref a, .ref b, .int (Int32.ofNat o), .int (Int32.ofNat len), .null] 6)) (T8.setTop (mkF m 45 #[.val (.ref a), .val (.ref b), .val (.int (Int32.ofNat o)), .val (.int (Int32.ofNat len)), .val .null, .val (.ref s.heap.size)] [.int (Int32.ofNat N.slots.size), .ref s.heap.size, .ref a])) := by
    have hc : Steps p.tables e below (s₁.setTop (entryFrame m #[.ref a, .ref b, .int (Int32.ofNat o), .int (Int32.ofNat len), .null] 6)) (T8.setTop (mkF m 45 #[.val (.ref a), .val (.ref b), .val (.int (Int32.ofNat o)), .val (.int (Int32.ofNat len)), .val .null, .val (.ref s.heap.size)] [.int (Int32.ofNat len), .ref s.heap.size, .ref a])) := c9.trans (by
      refine XS.astore X8.here hexec rfl (hb hbytes d39) rfl rfl rfl ?_
      refine XS.aloadN X8.here hexec rfl (hb hbytes d41) rfl rfl ?_
      refine XS.aload X8.here hexec rfl (hb hbytes d42) rfl rfl ?_
      refine XS.iloadN X8.here hexec rfl (hb hbytes d44) rfl ?_
      exact Steps.refl _)
    rw [n4]; exact hc
  obtain ⟨v11, T11, X11, E11, g11⟩ := X8.callS hexec (CodL.law l s.heap.size N) hown (wks W (staticW "java/lang/String" 47 CodL.yN)) (wk W CodL.tab) (W := 1) (Nat.le_of_ble_eq_true rfl) (Nat.le_of_ble_eq_true rfl) (Nat.le_refl _) (by show 0 + len + 0 ≤ len; omega) (g := (mkF m 45 #[.val (.ref a), .val (.ref b), .val (.int (Int32.ofNat o)), .val (.int (Int32.ofNat len)), .val .null, .val (.ref s.heap.size)] [.int (Int32.ofNat N.slots.size), .ref s.heap.size, .ref a])) rfl (by rw [hml]; rfl) c10 (argsL := [.ref s.heap.size, .int (Int32.ofNat N.slots.size)]) (rest := [.ref a]) rfl rfl (by show 2 * 0 + (1 + 0) ≤ _; decide) (hb hbytes d45) (⟨rfl, n1⟩)
  obtain ⟨rfl, q11⟩ := E11
  have hB11 := hB1.mv (X8.warmed.alike.symm.trans X11.warmed.alike) q11
  have c12 : Steps p.tables e below (s₁.setTop (entryFrame m #[.ref a, .ref b, .int (Int32.ofNat o), .int (Int32.ofNat len), .null] 6)) (T11.setTop (mkF m 48 #[.val (.ref a), .val (.ref b), .val (.int (Int32.ofNat o)), .val (.int (Int32.ofNat len)), .val .null, .val (.ref s.heap.size)] [.int 0, .ref a])) := g11
  obtain ⟨T13, X13, p13, bl13, sl13, st13⟩ := X11.finit hexec hown (wk W (.fieldLink "java/lang/String" 15 "java/lang/String" "coder" "B")) (Or.inr ⟨_, (wk W (.laysFinal "java/lang/String" "java/lang/String" "coder" "B"))⟩) (Or.inl ⟨rfl, hnm⟩) f2 (Or.inl rfl) hB11 (t := .byte) (by decide +kernel) rfl (g := (mkF m 48 #[.val (.ref a), .val (.ref b), .val (.int (Int32.ofNat o)), .val (.int (Int32.ofNat len)), .val .null, .val (.ref s.heap.size)] [.int 0, .ref a])) rfl (rest := []) rfl (hb hbytes d48)
  have c14 : Steps p.tables e below (s₁.setTop (entryFrame m #[.ref a, .ref b, .int (Int32.ofNat o), .int (Int32.ofNat len), .null] 6)) (T13.setTop (mkF m 54 #[.val (.ref a), .val (.ref b), .val (.int (Int32.ofNat o)), .val (.int (Int32.ofNat len)), .val .null, .val (.ref s.heap.size)] [.ref s.heap.size, .ref a])) := (c12.trans (st13 _ (Steps.refl _))).trans (by
    refine XS.aloadN X13.here hexec rfl (hb hbytes d51) rfl rfl ?_
    refine XS.aload X13.here hexec rfl (hb hbytes d52) rfl rfl ?_
    exact Steps.refl _)
  obtain ⟨T15, X15, p15, bl15, sl15, st15⟩ := X13.finit hexec hown (wk W (.fieldLink "java/lang/String" 9 "java/lang/String" "value" "[B")) (Or.inr ⟨_, (wk W (.laysFinal "java/lang/String" "java/lang/String" "value" "[B"))⟩) (Or.inl ⟨rfl, hnm⟩) f1 (Or.inl rfl) bl13 (t := (.array .byte)) (by decide +kernel) rfl (g := (mkF m 54 #[.val (.ref a), .val (.ref b), .val (.int (Int32.ofNat o)), .val (.int (Int32.ofNat len)), .val .null, .val (.ref s.heap.size)] [.ref s.heap.size, .ref a])) rfl (rest := []) rfl (hb hbytes d54)
  have c16 : Steps p.tables e below (s₁.setTop (entryFrame m #[.ref a, .ref b, .int (Int32.ofNat o), .int (Int32.ofNat len), .null] 6)) (T15.setTop (mkF m 57 #[.val (.ref a), .val (.ref b), .val (.int (Int32.ofNat o)), .val (.int (Int32.ofNat len)), .val .null, .val (.ref s.heap.size)] [])) := c14.trans (st15 _ (Steps.refl _))
  have ap := apart (Or.inr ⟨_, (wk W (.laysFinal "java/lang/String" "java/lang/String" "value" "[B"))⟩) (Or.inr ⟨_, (wk W (.laysFinal "java/lang/String" "java/lang/String" "coder" "B"))⟩) f1 f2 (t₁ := .array .byte) (t₂ := .byte) (by decide +kernel) (by decide +kernel) (by decide)
  have al := X8.warmed.alike.symm.trans X15.warmed.alike
  have n7 : T11.heap[s.heap.size]? = some N := by rw [q11]; exact n1.1
  exact ⟨T15, none, _, _, _, X15, by simp, rfl, by omega, (fun _ => rfl), ⟨rfl, _, N, bl15, ((Same.refl D _).set _ (by simp)).set _ (by simp), sl15, (Cell.slots_setSlot_ne _ ap).trans sl13, n1.keep al (p15.other hne (p13.other hne n7)), n2, by rw [al.findClass]; exact n3, n4, n5, fun y c h1 h2 => p15.other h1 (p13.other h1 (by rw [q11]; exact n6 y c h2)), by rw [p15.2.2, p13.2.2, q11]; exact z8⟩, fun fs hl => c16.trans (X15.returnOut hexec hret (hb hbytes d57) hl)⟩
end New4
namespace New1
def yN : MethodName := ⟨"java/lang/String", "<init>", "([C)V"⟩
abbrev yB : ByteArray := jdk_42_method_3_code
theorem d0 : decode yB 0 = .ok (.aload_n 0, 1) := by decide +kernel
theorem d1 : decode yB 1 = .ok (.aload_n 1, 1) := by decide +kernel
theorem d2 : decode yB 2 = .ok (.iconst 0, 1) := by decide +kernel
theorem d3 : decode yB 3 = .ok (.aload_n 1, 1) := by decide +kernel
theorem d4 : decode yB 4 = .ok (.arraylength, 1) := by decide +kernel
theorem d5 : decode yB 5 = .ok (.aconst_null, 1) := by decide +kernel
theorem d6 : decode yB 6 = .ok (.invokespecial 27, 3) := by decide +kernel
theorem d9 : decode yB 9 = .ok (.return_, 1) := by decide +kernel
def site : List Cond := [New4.tab] ++ initW "java/lang/String" 27 New4.yN
def tab : Cond := tabOf yN yB 2 none site
def P (a : Addr) (D : Cell) (fV fC : Field) (b : Addr) (A : Cell) (z : Int32) (args : Array Value) (s : State) : Prop := args = #[.ref a, .ref b] ∧ Blank "java/lang/String" a D s ∧ Found "java/lang/String" "value" "[B" fV s ∧ Found "java/lang/String" "coder" "B" fC s ∧ Ch b A s ∧ StaticIs s "java/lang/String" "COMPACT_STRINGS" "Z" (.int z) ∧ ¬ z = 0 ∧ 0 < A.slots.size ∧ A.slots.size ≤ 536870912 ∧ ∀ i, i < A.slots.size → ¬ 255 < cv A i
def E (a : Addr) (D : Cell) (fV fC : Field) (A : Cell) (r : Option Value) (s u : State) : Prop := Got a D fV fC A 0 A.slots.size r s u
/-- new String(chars), not empty, no char above 255: a Latin-1 String of their low bytes -/
theorem law (l : Launch) (a : Addr) (D : Cell) (fV fC : Field) (b : Addr) (A : Cell) (z : Int32) : Law l yN 2 1 3 52 yB 2 none site (P a D fV fC b A z) (E a D fV fC A) [⟨a, fC.slot⟩, ⟨a, fV.slot⟩] 1 A.slots.size := by
  refine Law.of_walk (plainFor_of_name (by decide +kernel)) (by decide +kernel) (by decide +kernel) (by decide) (fun _ _ h => by rw [h.1]; rfl) (fun _ U U' hal hh h => ⟨h.1, h.2.1.mv hal hh, h.2.2.1.al hal, h.2.2.2.1.al hal, h.2.2.2.2.1.mv hal hh, h.2.2.2.2.2.1.there hal hh, h.2.2.2.2.2.2⟩) (fun r U U' V V' h1 hal h2 h => Got.mv r U U' V V' h1 hal h2 h) ?_
  intro p e s m args below meth c s₁ X0 hexec hbytes hml hret hlk hnm hown hh0 W hP
  obtain ⟨rfl, hB, f1, f2, hA, s1, hz, l0, l2, hp⟩ := hP
  have c1 : Steps p.tables e below (s₁.setTop (entryFrame m #[.ref a, .ref b] 2)) (s₁.setTop (mkF m 0 #[.val (.ref a), .val (.ref b)] [])) := entry rfl
  have c2 : Steps p.tables e below (s₁.setTop (entryFrame m #[.ref a, .ref b] 2)) (s₁.setTop (mkF m 6 #[.val (.ref a), .val (.ref b)] [.null, .int (Int32.ofNat A.slots.size), .int 0, .ref b, .ref a])) := c1.trans (by
    refine XS.aloadN X0.here hexec rfl (hb hbytes d0) rfl rfl ?_
    refine XS.aloadN X0.here hexec rfl (hb hbytes d1) rfl rfl ?_
    refine iconstV X0.here hexec rfl 0 (hb hbytes d2) (by decide) ?_
    refine XS.aloadN X0.here hexec rfl (hb hbytes d3) rfl rfl ?_
    refine X0.alen hexec (hA.1.mv X0.warmed.alike hh0) rfl rfl (hb hbytes d4) ?_
    refine XS.aconstNull X0.here hexec rfl (hb hbytes d5) ?_
    exact Steps.refl _)
  obtain ⟨v3, T3, X3, E3, g3⟩ := X0.callN hexec (New4.law l a D fV fC b A z 0 A.slots.size) rfl hown (wks W (initW "java/lang/String" 27 New4.yN)) (W New4.tab (by simp only [site, List.mem_cons, List.mem_append, true_or, or_true])) (W := 0) (Nat.le_of_ble_eq_true rfl) (Nat.le_of_ble_eq_true rfl) (Nat.le_refl _) (by show 0 + A.slots.size ≤ A.slots.size; omega) (g := (mkF m 6 #[.val (.ref a), .val (.ref b)] [.null, .int (Int32.ofNat A.slots.size), .int (Int32.ofNat 0), .ref b, .ref a])) rfl (by rw [hml]; rfl) c2 (argsL := [.ref b, .int (Int32.ofNat 0), .int (Int32.ofNat A.slots.size), .null]) (rest := []) rfl rfl (by show 2 * 0 + 0 ≤ _; decide) (hb hbytes d6) (⟨rfl, hB.mv X0.warmed.alike hh0, f1.al X0.warmed.alike, f2.al X0.warmed.alike, hA.mv X0.warmed.alike hh0, s1.there X0.warmed.alike hh0, hz, l0, by omega, l2, fun i hi => by rw [Nat.zero_add]; exact hp i hi⟩)
  have e0 := Got.mv _ s₁ s _ _ hh0.symm (Vm.Alike.refl _) rfl E3
  obtain rfl := e0.1
  have c4 : Steps p.tables e below (s₁.setTop (entryFrame m #[.ref a, .ref b] 2)) (T3.setTop (mkF m 9 #[.val (.ref a), .val (.ref b)] [])) := g3
  exact ⟨T3, none, _, _, _, X3, by simp, rfl, by omega, (fun _ => rfl), e0, fun fs hl => c4.trans (X3.returnOut hexec hret (hb hbytes d9) hl)⟩
theorem pays {l : Launch} {R : Room} {p : Program} {e : Env} {below : List Frame} {s : State} {sargs : Array Value} {len W : Nat} (a : Addr) (D : Cell) (fV fC : Field) (b : Addr) (A : Cell) (z : Int32) (htab : tab.before sargs s = true) (hfr : 4 ≤ R.frames) (hlo : W + 65 ≤ R.locals) :
    Back l R p e below s sargs yN len W (fun A₁ a₁ => A₁.cells + 1 ≤ R.cells ∧ A₁.slots + A.slots.size ≤ R.slots ∧ P a D fV fC b A z a₁ A₁.U) (fun A₁ _ v₁ B₁ => E a D fV fC A v₁ A₁.U B₁.U ∧ B₁.locs = A₁.locs ++ [⟨a, fC.slot⟩, ⟨a, fV.slot⟩] ∧ B₁.cells = A₁.cells + 1 ∧ B₁.slots = A₁.slots + A.slots.size) :=
  (law l a D fV fC b A z).pays htab hfr (by omega)
end New1
/-- the byte, read back as charAt reads it, is the char -/
theorem lo8_mask {x : Int32} (h0 : ¬ x < 0) (h1 : ¬ 255 < x) : lo8 x &&& 255 = x := by
  have t : ∀ k : Fin 256, lo8 (Int32.ofNat k.val) &&& 255 = Int32.ofNat k.val := by decide +kernel
  rw [Int32.lt_iff_toInt_lt] at h0 h1
  have e0 : (0 : Int32).toInt = 0 := rfl
  have e1 : (255 : Int32).toInt = 255 := rfl
  obtain ⟨k, hk⟩ : ∃ k : Nat, x.toInt = k := ⟨x.toInt.toNat, by omega⟩
  have hx : x = Int32.ofNat k := Int32.toInt_inj.mp (by rw [hk, Int32.toInt_ofNat_small (by omega)])
  rw [hx]
  exact t ⟨k, by omega⟩
end StrChars
namespace StrChars.Road
open Jvm Sem ClassFile Op Lib Jvm.Stand Jvm.Free Jvm.Free.XT
open Jvm.Lib.Cold (StaticIs)
abbrev ST : String := "java/lang/String"
/-- every table word that New1's law asks, flat -/
abbrev words : List Jvm.Cond := [.code New1.yN New1.yB 2 none, .initialized ST, .methodLink ST 27 New4.yN, .instanceMethod New4.yN,
  .code New4.yN New4.yB 6 none, .fieldLink ST 38 ST "COMPACT_STRINGS" "Z", .laysFinal ST ST "value" "[B", .fieldLink ST 9 ST "value" "[B", .laysFinal ST ST "coder" "B", .fieldLink ST 15 ST "coder" "B",
  .methodLink ST 1 Lib.objectInit, .instanceMethod Lib.objectInit, .code Lib.objectInit ⟨#[0xb1]⟩ 1 none, .methodLink ST 177 Cmp3.yN, .static Cmp3.yN, .methodLink ST 47 CodL.yN, .static CodL.yN,
  .code Cmp3.yN Cmp3.yB 6 (some (.array .byte)), .initialized U16, .arrayClass .byte, .methodLink U16 115 Cmp5.yN, .static Cmp5.yN, .code Cmp5.yN Cmp5.yB 7 (some .int), .code CodL.yN CodL.yB 2 (some .byte)]
theorem tab_of {a : Array Value} {s : State} (h : ∀ w ∈ words, w.before a s = true) : New1.tab.before a s = true := by
  have h5 : Cmp5.tab.before a s = true := unparts (wk h (.code Cmp5.yN Cmp5.yB 7 (some .int))) (wks h (.initialized Cmp5.yN.cls :: Cmp5.site))
  have hc : CodL.tab.before a s = true := unparts (wk h (.code CodL.yN CodL.yB 2 (some .byte))) (wks h (.initialized CodL.yN.cls :: CodL.site))
  have q5 : ∀ w ∈ Cmp5.tab :: words, w.before a s = true := fun w hw => (List.mem_cons.mp hw).elim (fun e => e ▸ h5) (h w)
  have h3 : Cmp3.tab.before a s = true := unparts (wk q5 (.code Cmp3.yN Cmp3.yB 6 (some (.array .byte)))) (wks q5 (.initialized Cmp3.yN.cls :: Cmp3.site))
  have q3 : ∀ w ∈ Cmp3.tab :: CodL.tab :: words, w.before a s = true := fun w hw => (List.mem_cons.mp hw).elim (fun e => e ▸ h3) fun hw => (List.mem_cons.mp hw).elim (fun e => e ▸ hc) (h w)
  have h4 : New4.tab.before a s = true := unparts (wk q3 (.code New4.yN New4.yB 6 none)) (wks q3 (.initialized New4.yN.cls :: New4.site))
  have q4 : ∀ w ∈ New4.tab :: words, w.before a s = true := fun w hw => (List.mem_cons.mp hw).elim (fun e => e ▸ h4) (h w)
  exact unparts (wk q4 (.code New1.yN New1.yB 2 none)) (wks q4 (.initialized New1.yN.cls :: New1.site))
/-- the words ride from the start Z to the walk's own state -/
theorem moved {Z s : State} {a0 args : Array Value} (hZ : Z.Warmed39 s.vm) (hw : ∀ d ∈ words, d.before a0 Z = true) : ∀ d ∈ words, d.before args s = true := fun d hd => by
  have q := hw d hd
  have t : ∀ d ∈ words, d = .arrayClass .byte ∨ (d.onTables && d.keepsFace) = true := by decide +kernel
  rcases t d hd with rfl | t
  · exact RoadKit.mvA hZ q
  · exact RoadKit.mv hZ q t
/-- WHAT COMES BACK, over the tables of the start Z: h the heap at the call, h' behind it -/
def Q (Z : State) (x : Addr) (A : Cell) (h : Heap) (v : Option Value) (h' : Heap) (L : List Loc) : Prop := v = none ∧ (∀ y ∈ L, y.base = x) ∧ RoadKit.Keep h h' [x] ∧ h'.size = h.size + 1 ∧ RoadKit.Exa Z h' x ST ∧ RoadKit.Fld Z h' x ST "value" "[B" (.ref h.size) ∧ RoadKit.Fld Z h' x ST "coder" "B" (.int 0) ∧
  (∃ V : Cell, RoadKit.Arr Z h' h.size V .byte ∧ V.vm = .none ∧ Z.vm.findClass "[B" = some V.cls ∧ V.slots.size = A.slots.size ∧ ∀ j, j < A.slots.size → V.slots[j]? = some (.int (lo8 (cv A j)))) ∧
  ∀ (O n d : String) (w : Value), RoadKit.Fld Z h x O n d w → RoadKit.slotOf Z O n d ≠ RoadKit.slotOf Z ST "value" "[B" → RoadKit.slotOf Z O n d ≠ RoadKit.slotOf Z ST "coder" "B" → RoadKit.Fld Z h' x O n d w
/-- **new String(chars) AT A CALL, IN THE ROAD'S FORM**: for specialBack behind newO: x the fresh String, b the char[] with the cell A -/
theorem back {p : Program} {l : Launch} {e : Env} {R : Room} {s : State} {args : Array Value} {below : List Frame} {len W : Nat} {Z : State} {a0 : Array Value} {h : Heap} (hZ : Z.Warmed39 s.vm) (hw : ∀ d ∈ words, d.before a0 Z = true) {kI : Nat} (wi : (Jvm.Cond.instantiable ST kI).before a0 Z = true)
    {x b : Addr} {A : Cell} {z : Int32} {v0 c0 : Value} (E : RoadKit.Exa Z h x ST) (V : RoadKit.Fld Z h x ST "value" "[B" v0) (C : RoadKit.Fld Z h x ST "coder" "B" c0) (K : RoadKit.Arr Z h b A .char) (hty : Typed .char A) (S : RoadKit.Sta Z h ST "COMPACT_STRINGS" "Z" (.int z)) (hz : ¬ z = 0)
    (l0 : 0 < A.slots.size) (l2 : A.slots.size ≤ 536870912) (hp : ∀ i, i < A.slots.size → ¬ 255 < cv A i) (hfr : 4 ≤ R.frames) (hlo : W + 65 ≤ R.locals) :
    Back l R p e below s args New1.yN len W (fun P a => a = #[.ref x, .ref b] ∧ P.U.heap = h ∧ P.cells + 1 ≤ R.cells ∧ P.slots + A.slots.size ≤ R.slots)
      (fun P _ v B => ∃ L, Q Z x A h v B.U.heap L ∧ B.locs = P.locs ++ L ∧ B.cells = P.cells + 1 ∧ B.slots = P.slots + A.slots.size) := by
  intro m meth c P g ig mk a X hg hsize hdg hW hn hp'
  obtain ⟨rfl, rfl, r1, r2⟩ := hp'
  have al : Z.vm.Alike P.U.vm := hZ.alike.trans X.warmed.alike
  obtain ⟨D, cfV, kV, iV, fV, hD, gV, stV, knV, obV, asV, slV⟩ := id V
  obtain ⟨D', cfC, kC, iC, fC, hD', gC, stC, -, -, asC, slC⟩ := id C
  cases hD.symm.trans hD'
  obtain ⟨D2, kD, e1, e2, e3, e4, e5⟩ := id E
  cases hD.symm.trans e1
  obtain ⟨c2, k2, i1, i2, i3, -⟩ := Cond.instantiable_spec wi
  cases e2.symm.trans i1
  cases e3.symm.trans i2
  obtain ⟨kU, u1, u2⟩ := al.2.2 _ _ e3
  have hB : Blank ST x D P.U := ⟨hD, ⟨knV, fun q hq => by rw [hq] at obV; cases obV⟩, by rw [al.findClass]; exact e2, kU, u1, by rw [u2]; exact i3, by rw [u2]; exact e5 i3⟩
  have F1 : Found ST "value" "[B" fV P.U := ⟨SBG.found_only al ⟨cfV, kV, iV, gV⟩, stV⟩
  have F2 : Found ST "coder" "B" fC P.U := ⟨SBG.found_only al ⟨cfC, kC, iC, gC⟩, stC⟩
  have hA : Ch b A P.U := ⟨⟨K.1, State.isArrayOf_alike al K.2.1, K.2.2, by omega⟩, hty⟩
  have hS : StaticIs P.U ST "COMPACT_STRINGS" "Z" (.int z) := by
    obtain ⟨cfS, iS, kS, fS, st, cS, t1, t2, t3, t4, t5, t6, t7⟩ := S
    exact StaticIs.there (s := { Z with heap := P.U.heap }) ⟨cfS, iS, kS, fS, st, cS, t1, t2, t3, t4, t5, (fun q => by rw [q] at t6; cases t6), t7⟩ al rfl
  obtain ⟨v, B, X', ⟨⟨hv, E', V', q1, q2, q3, q4, q5, q6, q7, q8, q9, q10, q11⟩, hl, hc, hs⟩, st⟩ := New1.pays x D fV fC b A z (tab_of (moved hZ hw)) hfr hlo m meth c P g ig mk _ X hg hsize hdg hW hn ⟨r1, r2, rfl, hB, F1, F2, hA, hS, hz, l0, l2, hp⟩
  have al' : Z.vm.Alike B.U.vm := hZ.alike.trans X'.warmed.alike
  have hsz : E'.slots.size = D.slots.size := by
    obtain ⟨-, -, -, kB, w1, w2, w3⟩ := q1
    obtain ⟨kB', y1, y2⟩ := al'.2.2 _ _ e3
    rw [q2.2.1] at w1
    cases w1.symm.trans y1
    rw [w3, e5 i3, y2]
  refine ⟨v, B, X', ⟨_, ⟨hv, ?_, ⟨by omega, fun y cy hy hn' => q10 y cy (by simpa using hn') hy, fun y cy hy => ?_⟩, q11, ⟨E', _, q1.1, by rw [q2.2.1]; exact e2, by rw [q2.2.1]; exact e3, by rw [q2.1]; exact obV, fun _ => by rw [hsz]; exact e5 i3⟩,
    ⟨E', cfV, kV, iV, fV, q1.1, gV, stV, by rw [q2.1]; exact knV, by rw [q2.1]; exact obV, by rw [q2.2.1]; exact asV, q3⟩, ⟨E', cfC, kC, iC, fC, q1.1, gC, stC, by rw [q2.1]; exact knV, by rw [q2.1]; exact obV, by rw [q2.2.1]; exact asC, q4⟩,
    ⟨V', ⟨q5.1, State.isArrayOf_alike al'.symm q5.2.1, q5.2.2.1⟩, q6, by rw [← al'.findClass]; exact q7, q8, fun j hj => by have := q9 j hj; rwa [Nat.zero_add] at this⟩, fun O n d w F n1 n2 => ?_⟩, hl, hc, hs⟩, st⟩
  · intro y hy
    simp only [List.mem_cons, List.not_mem_nil, or_false] at hy
    rcases hy with rfl | rfl <;> rfl
  · by_cases q : y = x
    · subst q
      cases hD.symm.trans hy
      exact ⟨E', q1.1, q2.2.1, q2.1, hsz⟩
    · exact ⟨cy, q10 y cy q hy, rfl, rfl, rfl⟩
  · obtain ⟨D3, cf, k, i, f, g1, g2, g3, g4, g5, g6, g7⟩ := F
    cases hD.symm.trans g1
    simp only [RoadKit.slotOf, g2, gV, gC, Option.map_some, Option.getD_some] at n1 n2
    exact ⟨E', cf, k, i, f, q1.1, g2, g3, by rw [q2.1]; exact g4, by rw [q2.1]; exact g5, by rw [q2.2.1]; exact g6, by rw [q2.2.2 f.slot (by simp [n1, n2])]; exact g7⟩
end StrChars.Road
namespace StrChars.Road
open Jvm Sem ClassFile Op Lib Jvm.Stand Jvm.Free Jvm.Free.XT
/-- WHAT COMES BACK, the byte[] as a list of values -/
def QA (Z : State) (x : Addr) (zn : Int32) (cs : List Int32) (h : Heap) (v : Option Value) (h' : Heap) (L : List Loc) : Prop := v = none ∧ (∀ y ∈ L, y.base = x) ∧ RoadKit.Keep h h' [x] ∧ h'.size = h.size + 1 ∧ RoadKit.Exa Z h' x ST ∧ RoadKit.Fld Z h' x ST "value" "[B" (.ref h.size) ∧ RoadKit.Fld Z h' x ST "coder" "B" (.int 0) ∧
  (∃ kb, Z.vm.findClass "[B" = some kb ∧ RoadKit.Arv Z h' h.size kb .byte zn (cs.map fun c => .int (lo8 c)) (.int 0)) ∧
  ∀ (O n d : String) (w : Value), RoadKit.Fld Z h x O n d w → RoadKit.slotOf Z O n d ≠ RoadKit.slotOf Z ST "value" "[B" → RoadKit.slotOf Z O n d ≠ RoadKit.slotOf Z ST "coder" "B" → RoadKit.Fld Z h' x O n d w
/-- **new String(chars) AT A CALL, THE ARRAYS AS LISTS**: the char[] at b holds cs, not empty, no char above 255 -/
theorem backArv {p : Program} {l : Launch} {e : Env} {R : Room} {s : State} {args : Array Value} {below : List Frame} {len W : Nat} {Z : State} {a0 : Array Value} {h : Heap} (hZ : Z.Warmed39 s.vm) (hw : ∀ d ∈ words, d.before a0 Z = true) {kI : Nat} (wi : (Jvm.Cond.instantiable ST kI).before a0 Z = true)
    {x b : Addr} {k : ClassId} {zn z : Int32} {cs : List Int32} {dv v0 c0 : Value} (E : RoadKit.Exa Z h x ST) (V : RoadKit.Fld Z h x ST "value" "[B" v0) (C : RoadKit.Fld Z h x ST "coder" "B" c0) (K : RoadKit.Arv Z h b k .char zn (cs.map Value.int) dv) (S : RoadKit.Sta Z h ST "COMPACT_STRINGS" "Z" (.int z)) (hz : ¬ z = 0)
    (hlen : zn.toNatClampNeg = cs.length) (h0 : 0 < cs.length) (hbig : cs.length ≤ 536870912) (hall : ∀ c ∈ cs, ¬ 255 < c) (hfr : 4 ≤ R.frames) (hlo : W + 65 ≤ R.locals) :
    Back l R p e below s args New1.yN len W (fun P a => a = #[.ref x, .ref b] ∧ P.U.heap = h ∧ P.cells + 1 ≤ R.cells ∧ P.slots + cs.length ≤ R.slots)
      (fun P _ v B => ∃ L, QA Z x zn cs h v B.U.heap L ∧ B.locs = P.locs ++ L ∧ B.cells = P.cells + 1 ∧ B.slots = P.slots + cs.length) := by
  obtain ⟨A, K1, K2, K3, K4, K5, K6⟩ := K
  have e : A.slots.size = cs.length := K3.trans hlen
  have hat : ∀ (i : Nat) (hi : i < cs.length), A.slots[i]? = some (.int cs[i]) := fun i hi => by rw [K5 i (by omega)]; simp [List.getD_eq_getElem?_getD, hi]
  have hcv : ∀ (i : Nat) (hi : i < cs.length), cv A i = cs[i] := fun i hi => by unfold cv; rw [hat i hi]
  have hty : Typed .char A := fun i v hv => by
    have hi : i < A.slots.size := (Array.getElem?_eq_some_iff.mp hv).1
    have q := K5 i hi
    rw [hv] at q
    rw [Option.some.inj q]
    exact K6 i hi
  refine Back.mono (back hZ hw wi E V C K1 hty S hz (by omega) (by omega) (fun i hi => by rw [hcv i (by omega)]; exact hall _ (List.getElem_mem _)) hfr hlo) (fun P a hp => ⟨hp.1, hp.2.1, hp.2.2.1, by rw [e]; exact hp.2.2.2⟩) (fun P a v B hp hq => ?_)
  obtain ⟨L, ⟨q1, q2, q3, q4, q5, q6, q7, ⟨V', v1, v2, v3, v4, v5⟩, q9⟩, hl, hc, hs⟩ := hq
  refine ⟨L, ⟨q1, q2, q3, q4, q5, q6, q7, ⟨V'.cls, v3, V', v1, rfl, by rw [v4, e, hlen], K4, fun i hi => ?_, fun i hi => ?_⟩, q9⟩, hl, hc, by rw [hs, e]⟩
  · have hi' : i < cs.length := by omega
    rw [v5 i (by omega), hcv i hi']; simp [List.getD_eq_getElem?_getD, hi']
  · have hi' : i < cs.length := by omega
    simp only [List.getD_eq_getElem?_getD, List.getElem?_map, List.getElem?_eq_getElem hi', Option.map_some, Option.getD_some]
    exact fits_lo8 _
end StrChars.Road
namespace StrChars.Road
open Jvm Sem ClassFile Op Lib Jvm.Stand Jvm.Free Jvm.Free.XT
/-- WHAT COMES BACK, in the writer's own shape -/
def QV (Z : State) (x : Addr) (N : Int32) (bs : List Int32) (h : Heap) (n0 : Nat) (v : Option Value) (h' : Heap) (L : List Loc) : Prop := v = none ∧ RoadKit.Fr n0 L ∧ RoadKit.Keep h h' [x] ∧ RoadKit.Exa Z h' x ST ∧ RoadKit.Fld Z h' x ST "coder" "B" (.int 0) ∧
  ∃ (t : Addr) (kb : ClassId), n0 ≤ t ∧ h.size ≤ t ∧ ¬ t = x ∧ RoadKit.Fld Z h' x ST "value" "[B" (.ref t) ∧ RoadKit.Arv Z h' t kb .byte N (bs.map Value.int) (.int 0)
/-- **new String(chars) AT A CALL, FOR THE WRITER**: a char[] of n known ints, each 0 to 255 -/
theorem backV {p : Program} {l : Launch} {e : Env} {R : Room} {s : State} {args : Array Value} {below : List Frame} {len W : Nat} {Z : State} {a0 : Array Value} {h : Heap} (hZ : Z.Warmed39 s.vm) (hw : ∀ d ∈ words, d.before a0 Z = true) {kI : Nat} (wi : (Jvm.Cond.instantiable ST kI).before a0 Z = true)
    {x b : Addr} {kC : ClassId} {cs bs : List Int32} {d v0 c0 : Value} {z N : Int32} {n n0 : Nat} (hx0 : n0 ≤ x) (hh0 : n0 ≤ h.size) (E : RoadKit.Exa Z h x ST) (V : RoadKit.Fld Z h x ST "value" "[B" v0) (C : RoadKit.Fld Z h x ST "coder" "B" c0) (K : RoadKit.Arv Z h b kC .char N (cs.map Value.int) d) (S : RoadKit.Sta Z h ST "COMPACT_STRINGS" "Z" (.int z)) (hz : ¬ z = 0)
    (hn : cs.length = n) (hN : N = Int32.ofNat n) (l0 : 0 < n) (l2 : n ≤ 4000) (hp : ∀ c ∈ cs, ¬ c < 0 ∧ ¬ (255 : Int32) < c) (hb : bs = cs.map (fun c => c.toInt8.toInt32)) (hfr : 4 ≤ R.frames) (hlo : W + 65 ≤ R.locals) :
    Back l R p e below s args (⟨"java/lang/String", "<init>", "([C)V"⟩ : MethodName) len W (fun P a => a = #[.ref x, .ref b] ∧ P.U.heap = h ∧ P.cells + 1 ≤ R.cells ∧ P.slots + n ≤ R.slots)
      (fun P _ v B => ∃ L, QV Z x N bs h n0 v B.U.heap L ∧ B.locs = P.locs ++ L ∧ B.cells = P.cells + 1 ∧ B.slots = P.slots + n) := by
  subst hn hN hb
  refine Back.mono (backArv hZ hw wi E V C K S hz (n32 (by omega)) l0 (by omega) (fun c hc => (hp c hc).2) hfr hlo) (fun P a hp => hp) (fun P a v B hp hq => ?_)
  obtain ⟨L, ⟨q1, q2, q3, q4, q5, q6, q7, ⟨kb, v1, v2⟩, q9⟩, hl, hc, hs⟩ := hq
  exact ⟨L, ⟨q1, fun y hy => by rw [q2 y hy]; exact hx0, q3, q5, q7, h.size, kb, hh0, Nat.le_refl _, Nat.ne_of_gt E.lt, q6, by rw [List.map_map]; exact v2⟩, hl, hc, hs⟩
end StrChars.Road
namespace StrChars
open Jvm Sem ClassFile Op Lib Jvm.Stand Jvm.Free.XT Jvm.Free.ALB Jvm.Free.JM Jvm.Free
open Jvm.Lib.Cold (StaticIs)
def hi8 (x : Int32) : Int32 := lo8 (x >>> ((8 : Int32) &&& 31))
/-- what StringUTF16.getChar makes of two bytes -/
def pairCh (u v : Int32) : Int32 := (((u &&& 255) <<< ((0 : Int32) &&& 31)) ||| ((v &&& 255) <<< ((8 : Int32) &&& 31))).toUInt32.toUInt16.toUInt32.toInt32
theorem lo8_and (x : Int32) : (lo8 x &&& 255).toBitVec.toNat = x.toBitVec.toNat % 256 := by
  have h : (lo8 x).toBitVec = (x.toBitVec.signExtend 8).signExtend 32 := by rw [lo8, Int8.toBitVec_toInt32, Int32.toBitVec_toInt8]
  rw [Int32.toBitVec_and, BitVec.toNat_and, h]
  have e : ((x.toBitVec.signExtend 8).signExtend 32).toNat % 256 = x.toBitVec.toNat % 256 := by
    rw [BitVec.toNat_signExtend]
    have hlt := x.toBitVec.isLt
    simp only [BitVec.toNat_setWidth, BitVec.toNat_signExtend]
    split <;> split <;> omega
  rw [← e]
  exact Nat.and_two_pow_sub_one_eq_mod _ 8
theorem pair_says {c : Int32} (h0 : ¬ c < 0) (h1 : ¬ 65535 < c) : pairCh (lo8 c) (hi8 c) = c := by
  rw [Int32.lt_iff_toInt_lt] at h0 h1
  have e0 : (0 : Int32).toInt = 0 := rfl
  have e1 : (65535 : Int32).toInt = 65535 := rfl
  have hc : c.toInt = c.toBitVec.toNat := by
    have := c.toBitVec.isLt
    have e : c.toInt = c.toBitVec.toInt := rfl
    rw [e] at h0 h1
    rw [e]
    rw [BitVec.toInt_eq_toNat_cond] at h0 h1 ⊢
    split at h0 <;> split <;> omega
  have hn : c.toBitVec.toNat < 65536 := by omega
  have a1 := lo8_and c
  have a2 : (hi8 c &&& 255).toBitVec.toNat = c.toBitVec.toNat / 256 := by
    rw [hi8, lo8_and]
    have e : ((8 : Int32) &&& 31) = 8 := by decide
    rw [e, Int32.toBitVec_shiftRight]
    have e2 : ((8 : Int32).toBitVec.smod 32) = 8#32 := by decide
    rw [e2, BitVec.sshiftRight_eq', BitVec.toNat_sshiftRight_of_msb_false (by rw [BitVec.msb_eq_false_iff_two_mul_lt]; omega)]
    show c.toBitVec.toNat >>> 8 % 256 = _
    rw [Nat.shiftRight_eq_div_pow]
    omega
  unfold pairCh
  apply Int32.toBitVec_inj.mp
  apply BitVec.eq_of_toNat_eq
  have f0 : ((0 : Int32) &&& 31) = 0 := by decide
  have f8 : ((8 : Int32) &&& 31) = 8 := by decide
  rw [f0, f8]
  have g : (((lo8 c &&& 255) <<< (0 : Int32)) ||| ((hi8 c &&& 255) <<< (8 : Int32))).toBitVec.toNat = c.toBitVec.toNat := by
    rw [Int32.toBitVec_or, Int32.toBitVec_shiftLeft, Int32.toBitVec_shiftLeft]
    have s0 : ((0 : Int32).toBitVec.smod 32) = 0#32 := by decide
    have s8 : ((8 : Int32).toBitVec.smod 32) = 8#32 := by decide
    rw [s0, s8, BitVec.toNat_or]
    simp only [BitVec.shiftLeft_eq', BitVec.toNat_shiftLeft, a1, a2]
    show (c.toBitVec.toNat % 256) <<< 0 % 2 ^ 32 ||| (c.toBitVec.toNat / 256) <<< 8 % 2 ^ 32 = _
    rw [Nat.shiftLeft_zero, Nat.mod_eq_of_lt (show c.toBitVec.toNat % 256 < 2 ^ 32 by omega), Nat.mod_eq_of_lt (show (c.toBitVec.toNat / 256) <<< 8 < 2 ^ 32 by rw [Nat.shiftLeft_eq]; omega), Nat.or_comm, ← Nat.shiftLeft_add_eq_or_of_lt (by omega), Nat.shiftLeft_eq]
    omega
  show BitVec.toNat (((((lo8 c &&& 255) <<< (0 : Int32)) ||| ((hi8 c &&& 255) <<< (8 : Int32))).toBitVec.setWidth 16).setWidth 32) = _
  rw [BitVec.toNat_setWidth, BitVec.toNat_setWidth, g]
  omega
end StrChars
namespace StrChars
open Jvm Sem ClassFile Op Lib Jvm.Stand Jvm.Free.XT Jvm.Free.ALB Jvm.Free.JM Jvm.Free
open Jvm.Lib.Cold (StaticIs)
/-- the array's cell V codes the n chars f 0 .. f (n - 1) by the coder cd, as the JDK does: coder 1 just where some char is above 255 -/
def Cod (cd : Int32) (n : Nat) (f : Nat → Int32) (V : Cell) : Prop := (cd = 0 ∧ V.slots.size = n ∧ ∀ j, j < n → V.slots[j]? = some (.int (lo8 (f j))) ∧ ¬ 255 < f j) ∨ (cd = 1 ∧ V.slots.size = 2 * n ∧ (∀ j, j < n → V.slots[2 * j]? = some (.int (lo8 (f j))) ∧ V.slots[2 * j + 1]? = some (.int (hi8 (f j)))) ∧ ∃ j, j < n ∧ 255 < f j)
/-- **x is a String of the n chars f 0 .. f (n - 1)**, Latin-1 or UTF-16; its array at t has the cell V -/
def Txt (x t : Addr) (V : Cell) (cd : Int32) (n : Nat) (f : Nat → Int32) (U : State) : Prop := Exact "java/lang/String" x U ∧ Has x "java/lang/String" "value" "[B" (.ref t) U ∧ Has x "java/lang/String" "coder" "B" (.int cd) U ∧ XT.Arr .byte t V U ∧ Cod cd n f V ∧ ∀ j, j < n → ¬ f j < 0 ∧ ¬ 65535 < f j
theorem Txt.mv {x t : Addr} {V : Cell} {cd : Int32} {n : Nat} {f : Nat → Int32} {U U' : State} (h : Txt x t V cd n f U) (hal : U.vm.Alike U'.vm) (hh : U'.heap = U.heap) : Txt x t V cd n f U' := ⟨h.1.mv hal hh, h.2.1.mv hal hh, h.2.2.1.mv hal hh, h.2.2.2.1.mv hal hh, h.2.2.2.2⟩
end StrChars
namespace StrChars.Road
open Jvm Sem ClassFile Op Lib Jvm.Stand Jvm.Free Jvm.Free.XT
open Jvm.Lib.Cold (StaticIs)
theorem consq {a : Array Value} {s : State} {c : Jvm.Cond} {L : List Jvm.Cond} (h0 : c.before a s = true) (h : ∀ w ∈ L, w.before a s = true) : ∀ w ∈ c :: L, w.before a s = true := fun w hw => (List.mem_cons.mp hw).elim (fun e => e ▸ h0) (h w)
/-- the bytes of the chars cs, low before high -/
def wideBytes : List Int32 → List Value
  | [] => []
  | c :: cs => .int (lo8 c) :: .int (hi8 c) :: wideBytes cs
theorem wide_lo (d : Value) : ∀ (cs : List Int32) (j : Nat), j < cs.length → (wideBytes cs).getD (2 * j) d = .int (lo8 (cs.getD j 0))
  | [], j, h => absurd h (Nat.not_lt_zero j)
  | c :: cs, 0, _ => rfl
  | c :: cs, j + 1, h => by
    have q := wide_lo d cs j (by simpa using h)
    rw [show 2 * (j + 1) = 2 * j + 1 + 1 from by omega]
    simpa [wideBytes] using q
theorem wide_hi (d : Value) : ∀ (cs : List Int32) (j : Nat), j < cs.length → (wideBytes cs).getD (2 * j + 1) d = .int (hi8 (cs.getD j 0))
  | [], j, h => absurd h (Nat.not_lt_zero j)
  | c :: cs, 0, _ => rfl
  | c :: cs, j + 1, h => by
    have q := wide_hi d cs j (by simpa using h)
    rw [show 2 * (j + 1) + 1 = 2 * j + 1 + 1 + 1 from by omega]
    simpa [wideBytes] using q
theorem low_at (d : Value) (cs : List Int32) (j : Nat) (h : j < cs.length) : (cs.map fun c => Value.int (lo8 c)).getD j d = .int (lo8 (cs.getD j 0)) := by
  simp [List.getD_eq_getElem?_getD, h]
/-- an array of N2 bytes vs codes the chars cs by the coder cd -/
def CodA (cs : List Int32) (cd N2 : Int32) (vs : List Value) : Prop := (cd = 0 ∧ N2 = Int32.ofNat cs.length ∧ vs = (cs.map fun c => Value.int (lo8 c)) ∧ ∀ c ∈ cs, ¬ 255 < c) ∨ (cd = 1 ∧ N2 = Int32.ofNat (2 * cs.length) ∧ vs = wideBytes cs ∧ ∃ c ∈ cs, 255 < c)
theorem CodA.cod {cs : List Int32} {cd N2 : Int32} {vs : List Value} {V : Cell} (h : CodA cs cd N2 vs) (hn : 2 * cs.length < 2 ^ 31) (hs : V.slots.size = N2.toNatClampNeg) (hv : RoadKit.Has V vs (.int 0)) : Cod cd cs.length (fun j => cs.getD j 0) V := by
  rcases h with ⟨rfl, rfl, rfl, h⟩ | ⟨rfl, rfl, rfl, c, hc, hw⟩
  · rw [n32 (by omega)] at hs
    exact Or.inl ⟨rfl, hs, fun j hj => ⟨by rw [hv j (by omega), low_at _ _ _ hj], by
      have e : cs.getD j 0 = cs[j] := by simp [List.getD_eq_getElem?_getD, hj]
      show ¬ 255 < cs.getD j 0
      rw [e]; exact h _ (List.getElem_mem _)⟩⟩
  · rw [n32 (by omega)] at hs
    obtain ⟨j, hj, rfl⟩ := List.getElem_of_mem hc
    exact Or.inr ⟨rfl, hs, fun j hj => ⟨by rw [hv _ (by omega), wide_lo _ _ _ hj], by rw [hv _ (by omega), wide_hi _ _ _ hj]⟩, j, hj, by
      have e : cs.getD j 0 = cs[j] := by simp [List.getD_eq_getElem?_getD, hj]
      show 255 < cs.getD j 0
      rw [e]; exact hw⟩
/-- an object of exactly java/lang/String, its two fields found: as the laws ask it -/
theorem strObj {Z U : State} {a0 : Array Value} {kI : Nat} (wi : (Jvm.Cond.instantiable ST kI).before a0 Z = true) (al : Z.vm.Alike U.vm) {x : Addr} {v0 c0 : Value} (E : RoadKit.Exa Z U.heap x ST) (V : RoadKit.Fld Z U.heap x ST "value" "[B" v0) (C : RoadKit.Fld Z U.heap x ST "coder" "B" c0) :
    ∃ (D : Cell) (fV fC : Field), Blank ST x D U ∧ Found ST "value" "[B" fV U ∧ Found ST "coder" "B" fC U ∧ D.slots[fV.slot]? = some v0 ∧ D.slots[fC.slot]? = some c0 ∧ RoadKit.slotOf Z ST "value" "[B" = fV.slot ∧ RoadKit.slotOf Z ST "coder" "B" = fC.slot := by
  obtain ⟨D, cfV, kV, iV, fV, hD, gV, stV, knV, obV, asV, slV⟩ := V
  obtain ⟨D', cfC, kC, iC, fC, hD', gC, stC, -, -, asC, slC⟩ := C
  cases hD.symm.trans hD'
  obtain ⟨D2, kD, e1, e2, e3, e4, e5⟩ := E
  cases hD.symm.trans e1
  obtain ⟨c2, k2, i1, i2, i3, -⟩ := Cond.instantiable_spec wi
  cases e2.symm.trans i1
  cases e3.symm.trans i2
  obtain ⟨kU, u1, u2⟩ := al.2.2 _ _ e3
  exact ⟨D, fV, fC, ⟨hD, ⟨knV, fun q hq => by rw [hq] at obV; cases obV⟩, by rw [al.findClass]; exact e2, kU, u1, by rw [u2]; exact i3, by rw [u2]; exact e5 i3⟩, ⟨SBG.found_only al ⟨cfV, kV, iV, gV⟩, stV⟩, ⟨SBG.found_only al ⟨cfC, kC, iC, gC⟩, stC⟩, slV, slC, by simp [RoadKit.slotOf, gV], by simp [RoadKit.slotOf, gC]⟩
theorem sta_is {Z U : State} (al : Z.vm.Alike U.vm) {C n d : String} {v : Value} (S : RoadKit.Sta Z U.heap C n d v) : StaticIs U C n d v := by
  obtain ⟨cfS, iS, kS, fS, st, cS, t1, t2, t3, t4, t5, t6, t7⟩ := S
  exact StaticIs.there (s := { Z with heap := U.heap }) ⟨cfS, iS, kS, fS, st, cS, t1, t2, t3, t4, t5, (fun q => by rw [q] at t6; cases t6), t7⟩ al rfl
end StrChars.Road
namespace StrChars
open Jvm Sem ClassFile Op Lib Jvm.Stand Jvm.Free.XT Jvm.Free.ALB Jvm.Free.JM Jvm.Free
open Jvm.Lib.Cold (StaticIs)
/-- what place i of a byte[]'s cell holds -/
def yv (A : Cell) (i : Nat) : Int32 := match A.slots[i]? with | some (.int x) => x | _ => 0
theorem yv_get {a : Addr} {A : Cell} {U : State} (h : XT.Arr .byte a A U) (ht : Typed .byte A) {i : Nat} (hi : i < A.slots.size) : A.slots[i]? = some (.int (yv A i)) := by
  have e := Array.getElem?_eq_getElem hi
  have f := ht i _ e
  unfold yv; rw [e]
  generalize A.slots[i] = v at f
  cases v <;> simp [fits] at f ⊢
/-- the two arrays are equal, place for place -/
def EqC (A B : Cell) : Prop := A.slots.size = B.slots.size ∧ ∀ i, i < A.slots.size → yv A i = yv B i
/-- a boolean that says whether p -/
def Says01 (q : Prop) (r : Option Value) (s u : State) : Prop := ∃ v : Int32, r = some (.int v) ∧ u.heap = s.heap ∧ ((v = 1 ∧ q) ∨ (v = 0 ∧ ¬ q))
theorem Says01.mv {q : Prop} : ∀ r (U U' V V' : State), U'.heap = U.heap → V.vm.Alike V'.vm → V'.heap = V.heap → Says01 q r U V → Says01 q r U' V' :=
  fun r U U' V V' h1 _ h2 ⟨v, a, b, c⟩ => ⟨v, a, by rw [h1, h2]; exact b, c⟩
namespace LEq
def yN : MethodName := ⟨"java/lang/StringLatin1", "equals", "([B[B)Z"⟩
abbrev yB : ByteArray := jdk_43_method_13_code
theorem d0 : decode yB 0 = .ok (.aload_n 0, 1) := by decide +kernel
theorem d1 : decode yB 1 = .ok (.arraylength, 1) := by decide +kernel
theorem d2 : decode yB 2 = .ok (.aload_n 1, 1) := by decide +kernel
theorem d3 : decode yB 3 = .ok (.arraylength, 1) := by decide +kernel
theorem d4 : decode yB 4 = .ok (.if_icmp (.ne) 30, 3) := by decide +kernel
theorem d7 : decode yB 7 = .ok (.iconst 0, 1) := by decide +kernel
theorem d8 : decode yB 8 = .ok (.istore_n 2, 1) := by decide +kernel
theorem d9 : decode yB 9 = .ok (.iload_n 2, 1) := by decide +kernel
theorem d10 : decode yB 10 = .ok (.aload_n 0, 1) := by decide +kernel
theorem d11 : decode yB 11 = .ok (.arraylength, 1) := by decide +kernel
theorem d12 : decode yB 12 = .ok (.if_icmp (.ge) 20, 3) := by decide +kernel
theorem d15 : decode yB 15 = .ok (.aload_n 0, 1) := by decide +kernel
theorem d16 : decode yB 16 = .ok (.iload_n 2, 1) := by decide +kernel
theorem d17 : decode yB 17 = .ok (.baload, 1) := by decide +kernel
theorem d18 : decode yB 18 = .ok (.aload_n 1, 1) := by decide +kernel
theorem d19 : decode yB 19 = .ok (.iload_n 2, 1) := by decide +kernel
theorem d20 : decode yB 20 = .ok (.baload, 1) := by decide +kernel
theorem d21 : decode yB 21 = .ok (.if_icmp (.eq) 5, 3) := by decide +kernel
theorem d24 : decode yB 24 = .ok (.iconst 0, 1) := by decide +kernel
theorem d25 : decode yB 25 = .ok (.ireturn, 1) := by decide +kernel
theorem d26 : decode yB 26 = .ok (.iinc 2 1, 3) := by decide +kernel
theorem d29 : decode yB 29 = .ok (.goto (-20), 3) := by decide +kernel
theorem d32 : decode yB 32 = .ok (.iconst 1, 1) := by decide +kernel
theorem d33 : decode yB 33 = .ok (.ireturn, 1) := by decide +kernel
theorem d34 : decode yB 34 = .ok (.iconst 0, 1) := by decide +kernel
theorem d35 : decode yB 35 = .ok (.ireturn, 1) := by decide +kernel
def site : List Cond := []
def tab : Cond := tabOf yN yB 3 (some .boolean) site
def P (a : Addr) (A : Cell) (b : Addr) (B : Cell) (args : Array Value) (s : State) : Prop := args = #[.ref a, .ref b] ∧ XT.Arr .byte a A s ∧ Typed .byte A ∧ XT.Arr .byte b B s ∧ Typed .byte B
/-- whether two byte[] are equal, place for place -/
theorem law (l : Launch) (a : Addr) (A : Cell) (b : Addr) (B : Cell) : Law l yN 2 2 0 0 yB 3 (some .boolean) site (P a A b B) (Says01 (EqC A B)) [] 0 0 := by
  refine Law.of_walk (plainFor_of_name (by decide +kernel)) (by decide +kernel) (by decide +kernel) (by decide) (fun _ _ h => by rw [h.1]; rfl) (fun _ U U' hal hh h => ⟨h.1, h.2.1.mv hal hh, h.2.2.1, h.2.2.2.1.mv hal hh, h.2.2.2.2⟩) (fun r U U' V V' h1 hal h2 h => Says01.mv r U U' V V' h1 hal h2 h) ?_
  intro p e s m args below meth c s₁ X0 hexec hbytes hml hret hlk hnm hown hh0 W hP
  obtain ⟨rfl, hA, tA, hB, tB⟩ := hP
  have a31 := hA.2.2.2
  have b31 := hB.2.2.2
  have hA0 := hA.mv X0.warmed.alike hh0
  have hB0 := hB.mv X0.warmed.alike hh0
  have c1 : Steps p.tables e below (s₁.setTop (entryFrame m #[.ref a, .ref b] 3)) (s₁.setTop (mkF m 0 #[.val (.ref a), .val (.ref b), .unset] [])) := entry rfl
  have c2 : Steps p.tables e below (s₁.setTop (entryFrame m #[.ref a, .ref b] 3)) (s₁.setTop (mkF m 4 #[.val (.ref a), .val (.ref b), .unset] [.int (Int32.ofNat B.slots.size), .int (Int32.ofNat A.slots.size)])) := c1.trans (by
    refine XS.aloadN X0.here hexec rfl (hb hbytes d0) rfl rfl ?_
    refine X0.alen hexec hA0 rfl rfl (hb hbytes d1) ?_
    refine XS.aloadN X0.here hexec rfl (hb hbytes d2) rfl rfl ?_
    refine X0.alen hexec hB0 rfl rfl (hb hbytes d3) ?_
    exact Steps.refl _)
  by_cases hs : A.slots.size = B.slots.size
  · have c3 : Steps p.tables e below (s₁.setTop (entryFrame m #[.ref a, .ref b] 3)) (s₁.setTop (mkF m 9 #[.val (.ref a), .val (.ref b), .val (.int 0)] [])) := c2.trans (by
      refine XS.icmpNo X0.here hexec rfl (hb hbytes d4) rfl (ii_ne_f (by rw [hs])) ?_
      refine iconstV X0.here hexec rfl 0 (hb hbytes d7) (by decide) ?_
      refine XS.istoreN X0.here hexec rfl (hb hbytes d8) rfl rfl ?_
      exact Steps.refl _)
    have loop : ∀ (r i : Nat), i + r = A.slots.size → (∀ j, j < i → yv A j = yv B j) → Steps p.tables e below (s₁.setTop (entryFrame m #[.ref a, .ref b] 3)) (s₁.setTop (mkF m 9 #[.val (.ref a), .val (.ref b), .val (.int (Int32.ofNat i))] [])) → ∃ (pc : Nat) (Ls : Array Slot) (v : Int32), (pc = 25 ∨ pc = 33) ∧ ((v = 1 ∧ EqC A B) ∨ (v = 0 ∧ ¬ EqC A B)) ∧ Steps p.tables e below (s₁.setTop (entryFrame m #[.ref a, .ref b] 3)) (s₁.setTop (mkF m pc Ls [.int v])) := by
      intro r
      induction r with
      | zero =>
        intro i hi he cl
        exact ⟨33, _, 1, Or.inr rfl, Or.inl ⟨rfl, hs, fun j hj => he j (by omega)⟩, cl.trans (by
          refine XS.iloadN X0.here hexec rfl (hb hbytes d9) rfl ?_
          refine XS.aloadN X0.here hexec rfl (hb hbytes d10) rfl rfl ?_
          refine X0.alen hexec hA0 rfl rfl (hb hbytes d11) ?_
          refine XS.icmpYes X0.here hexec rfl (pc0 := 12) rfl (hb hbytes d12) rfl (ii_ge_t (nlt32 (by omega) (by omega))) (by decide) rfl ?_
          refine iconstV X0.here hexec rfl 1 (hb hbytes d32) (by decide) ?_
          exact Steps.refl _)⟩
      | succ r ih =>
        intro i hi he cl
        have c4 : Steps p.tables e below (s₁.setTop (entryFrame m #[.ref a, .ref b] 3)) (s₁.setTop (mkF m 21 #[.val (.ref a), .val (.ref b), .val (.int (Int32.ofNat i))] [.int (yv B i), .int (yv A i)])) := cl.trans (by
          refine XS.iloadN X0.here hexec rfl (hb hbytes d9) rfl ?_
          refine XS.aloadN X0.here hexec rfl (hb hbytes d10) rfl rfl ?_
          refine X0.alen hexec hA0 rfl rfl (hb hbytes d11) ?_
          refine XS.icmpNo X0.here hexec rfl (hb hbytes d12) rfl (ii_ge_f (lt32 (by omega) (by omega))) ?_
          refine XS.aloadN X0.here hexec rfl (hb hbytes d15) rfl rfl ?_
          refine XS.iloadN X0.here hexec rfl (hb hbytes d16) rfl ?_
          refine X0.aget hexec hA0 rfl (yv_get hA tA (i := i) (by omega)) rfl rfl (hb hbytes d17) ?_
          refine XS.aloadN X0.here hexec rfl (hb hbytes d18) rfl rfl ?_
          refine XS.iloadN X0.here hexec rfl (hb hbytes d19) rfl ?_
          refine X0.aget hexec hB0 rfl (yv_get hB tB (i := i) (by omega)) rfl rfl (hb hbytes d20) ?_
          exact Steps.refl _)
        by_cases hv : yv A i = yv B i
        · have c5 : Steps p.tables e below (s₁.setTop (entryFrame m #[.ref a, .ref b] 3)) (s₁.setTop (mkF m 9 #[.val (.ref a), .val (.ref b), .val (.int (Int32.ofNat i + 1))] [])) := c4.trans (by
            refine XS.icmpYes X0.here hexec rfl (pc0 := 21) rfl (hb hbytes d21) rfl (ii_eq_t hv) (by decide) rfl ?_
            refine iincV X0.here hexec rfl 1 (hb hbytes d26) (by decide) rfl rfl ?_
            refine XS.goto X0.here hexec rfl (pc0 := 29) rfl (hb hbytes d29) (by decide) rfl ?_
            exact Steps.refl _)
          rw [succ32] at c5
          exact ih (i + 1) (by omega) (fun j hj => by
            by_cases e : j = i
            · rw [e]; exact hv
            · exact he j (by omega)) c5
        · exact ⟨25, _, 0, Or.inl rfl, Or.inr ⟨rfl, fun q => hv (q.2 i (by omega))⟩, c4.trans (by
            refine XS.icmpNo X0.here hexec rfl (hb hbytes d21) rfl (ii_eq_f hv) ?_
            refine iconstV X0.here hexec rfl 0 (hb hbytes d24) (by decide) ?_
            exact Steps.refl _)⟩
    obtain ⟨pc, Ls, v, hpc, hv, cz⟩ := loop A.slots.size 0 (by omega) (fun j hj => absurd hj (Nat.not_lt_zero j)) c3
    have nv : narrow .boolean (.int v) = .int v := by rcases hv with ⟨rfl, -⟩ | ⟨rfl, -⟩ <;> rfl
    rcases hpc with rfl | rfl
    · exact ⟨s₁, some (.int v), _, _, _, X0, rfl, rfl, rfl, (fun h => by cases h), ⟨v, rfl, hh0, hv⟩, fun fs hl => cz.trans (X0.ireturnOut hexec hret nv (Or.inr (Or.inl rfl)) (hb hbytes d25) hl)⟩
    · exact ⟨s₁, some (.int v), _, _, _, X0, rfl, rfl, rfl, (fun h => by cases h), ⟨v, rfl, hh0, hv⟩, fun fs hl => cz.trans (X0.ireturnOut hexec hret nv (Or.inr (Or.inl rfl)) (hb hbytes d33) hl)⟩
  · have c3 : Steps p.tables e below (s₁.setTop (entryFrame m #[.ref a, .ref b] 3)) (s₁.setTop (mkF m 35 #[.val (.ref a), .val (.ref b), .unset] [.int 0])) := c2.trans (by
      refine XS.icmpYes X0.here hexec rfl (pc0 := 4) rfl (hb hbytes d4) rfl (ii_ne_t (ne32 a31 b31 hs)) (by decide) rfl ?_
      refine iconstV X0.here hexec rfl 0 (hb hbytes d34) (by decide) ?_
      exact Steps.refl _)
    exact ⟨s₁, some (.int 0), _, _, _, X0, rfl, rfl, rfl, (fun h => by cases h), ⟨0, rfl, hh0, Or.inr ⟨rfl, fun q => hs q.1⟩⟩, fun fs hl => c3.trans (X0.ireturnOut hexec hret rfl (Or.inr (Or.inl rfl)) (hb hbytes d35) hl)⟩
end LEq
theorem Cod.ty {cd : Int32} {n : Nat} {f : Nat → Int32} {V : Cell} (h : Cod cd n f V) : Typed .byte V := fun i v hv => by
  have hi : i < V.slots.size := (Array.getElem?_eq_some_iff.mp hv).1
  rcases h with ⟨-, k1, k2⟩ | ⟨-, k1, k2, -⟩
  · rw [(k2 i (by omega)).1] at hv; cases hv; exact fits_lo8 _
  · rcases Nat.mod_two_eq_zero_or_one i with e | e
    · obtain ⟨j, rfl⟩ : ∃ j, i = 2 * j := ⟨i / 2, by omega⟩
      rw [(k2 j (by omega)).1] at hv; cases hv; exact fits_lo8 _
    · obtain ⟨j, rfl⟩ : ∃ j, i = 2 * j + 1 := ⟨i / 2, by omega⟩
      rw [(k2 j (by omega)).2] at hv; cases hv; exact fits_lo8 _
/-- the same text -/
def SameT (n : Nat) (f : Nat → Int32) (k : Nat) (g : Nat → Int32) : Prop := n = k ∧ ∀ j, j < n → f j = g j
theorem lo8_inj {x y : Int32} (h0 : ¬ x < 0) (h1 : ¬ 255 < x) (k0 : ¬ y < 0) (k1 : ¬ 255 < y) (h : lo8 x = lo8 y) : x = y := by
  rw [← lo8_mask h0 h1, ← lo8_mask k0 k1, h]
/-- arrays coded by one coder are equal just where the texts are -/
theorem Cod.eqv {cd : Int32} {n k : Nat} {f g : Nat → Int32} {V V' : Cell} (h : Cod cd n f V) (h' : Cod cd k g V') (hf : ∀ j, j < n → ¬ f j < 0 ∧ ¬ 65535 < f j) (hg : ∀ j, j < k → ¬ g j < 0 ∧ ¬ 65535 < g j) : EqC V V' ↔ SameT n f k g := by
  have yvv : ∀ {W : Cell} {i : Nat} {x : Int32}, W.slots[i]? = some (.int x) → yv W i = x := fun q => by unfold yv; rw [q]
  rcases h with ⟨rfl, k1, k2⟩ | ⟨rfl, k1, k2, -⟩
  · rcases h' with ⟨-, m1, m2⟩ | ⟨e, -⟩
    · constructor
      · rintro ⟨e1, e2⟩
        refine ⟨by omega, fun j hj => ?_⟩
        have q := e2 j (by omega)
        rw [yvv (k2 j hj).1, yvv (m2 j (by omega)).1] at q
        exact lo8_inj (hf j hj).1 (k2 j hj).2 (hg j (by omega)).1 (m2 j (by omega)).2 q
      · rintro ⟨rfl, e2⟩
        refine ⟨by omega, fun j hj => ?_⟩
        rw [yvv (k2 j (by omega)).1, yvv (m2 j (by omega)).1, e2 j (by omega)]
    · exact absurd e (by decide)
  · rcases h' with ⟨e, -⟩ | ⟨-, m1, m2, -⟩
    · exact absurd e (by decide)
    · constructor
      · rintro ⟨e1, e2⟩
        refine ⟨by omega, fun j hj => ?_⟩
        have q1 := e2 (2 * j) (by omega)
        have q2 := e2 (2 * j + 1) (by omega)
        rw [yvv (k2 j hj).1, yvv (m2 j (by omega)).1] at q1
        rw [yvv (k2 j hj).2, yvv (m2 j (by omega)).2] at q2
        rw [← pair_says (hf j hj).1 (hf j hj).2, ← pair_says (hg j (by omega)).1 (hg j (by omega)).2, q1, q2]
      · rintro ⟨rfl, e2⟩
        refine ⟨by omega, fun i hi => ?_⟩
        rcases Nat.mod_two_eq_zero_or_one i with e | e
        · obtain ⟨j, rfl⟩ : ∃ j, i = 2 * j := ⟨i / 2, by omega⟩
          rw [yvv (k2 j (by omega)).1, yvv (m2 j (by omega)).1, e2 j (by omega)]
        · obtain ⟨j, rfl⟩ : ∃ j, i = 2 * j + 1 := ⟨i / 2, by omega⟩
          rw [yvv (k2 j (by omega)).2, yvv (m2 j (by omega)).2, e2 j (by omega)]
/-- two codings differ: so do the texts -/
theorem Cod.dif {cd cd' : Int32} {n k : Nat} {f g : Nat → Int32} {V V' : Cell} (h : Cod cd n f V) (h' : Cod cd' k g V') (hne : ¬ cd = cd') : ¬ SameT n f k g := by
  rintro ⟨rfl, e⟩
  rcases h with ⟨rfl, -, k2⟩ | ⟨rfl, -, -, j, hj, hw⟩
  · rcases h' with ⟨rfl, -⟩ | ⟨-, -, -, j, hj, hw⟩
    · exact hne rfl
    · exact (k2 j hj).2 (by rw [e j hj]; exact hw)
  · rcases h' with ⟨-, -, m2⟩ | ⟨rfl, -⟩
    · exact (m2 j hj).2 (by rw [← e j hj]; exact hw)
    · exact hne rfl
/-- an object of exactly C is an instance of C -/
theorem cinst {p : Program} {l : Launch} {e : Env} {R : Room} {s : State} {m : MethodId} {args : Array Value} {below : List Frame} {meth : Method} {c : Code} {T : State} {locs : List Loc} {cells slots : Nat} (X : Stand p l e R s m args below meth c T locs cells slots) (hexec : p.tables.exec = Jvm.exec) {own C : String} {index : Nat} (hown : s.vm.findClass own = some m.cls) (hlink : (Cond.classLink own index C).before args s = true) {a : Addr} (hE : Exact C a T)
    {g : JFrame} (hg : g.method = m) {rest : List Value} (hstack : g.stack = .ref a :: rest) (hdg : decode c.code g.pc = .ok (.instanceof index, 3)) :
    ∃ T', Stand p l e R s m args below meth c T' locs cells slots ∧ T'.heap = T.heap ∧ ∀ target, Steps p.tables e below (T'.setTop { g with pc := g.pc + 3, stack := .int 1 :: rest }) target → Steps p.tables e below (T.setTop g) target := by
  obtain ⟨cB, h1, D, h2, h3, h4⟩ := hE
  have h1' : s.vm.findClass C = some cB := by rw [← X.warmed.alike.findClass]; exact h1
  obtain ⟨vm', X', st⟩ := X.instanceofYes hexec hown hlink h2 h4 h1' (by rw [h3]; exact Jvm.Free.SB.assignable_self _ _) hg hstack hdg
  exact ⟨_, X', rfl, st⟩
theorem cself {p : Program} {l : Launch} {e : Env} {R : Room} {s : State} {m : MethodId} {args : Array Value} {below : List Frame} {meth : Method} {c : Code} {T : State} {locs : List Loc} {cells slots : Nat} (X : Stand p l e R s m args below meth c T locs cells slots) (hexec : p.tables.exec = Jvm.exec) {own C : String} {index : Nat} (hown : s.vm.findClass own = some m.cls) (hlink : (Cond.classLink own index C).before args s = true) {a : Addr} (hE : Exact C a T)
    {g : JFrame} (hg : g.method = m) {rest : List Value} (hstack : g.stack = .ref a :: rest) (hdg : decode c.code g.pc = .ok (.checkcast index, 3)) :
    ∃ T', Stand p l e R s m args below meth c T' locs cells slots ∧ T'.heap = T.heap ∧ ∀ target, Steps p.tables e below (T'.setTop { g with pc := g.pc + 3, stack := .ref a :: rest }) target → Steps p.tables e below (T.setTop g) target := by
  obtain ⟨cB, h1, D, h2, h3, h4⟩ := hE
  have h1' : s.vm.findClass C = some cB := by rw [← X.warmed.alike.findClass]; exact h1
  obtain ⟨vm', X', st⟩ := X.checkcastYes hexec hown hlink h2 h4 h1' (by rw [h3]; exact Jvm.Free.SB.assignable_self _ _) hg hstack hdg
  exact ⟨_, X', rfl, fun t h => st t (by rw [← hstack] at h; exact h)⟩
namespace SEq
def yN : MethodName := ⟨"java/lang/String", "equals", "(Ljava/lang/Object;)Z"⟩
abbrev yB : ByteArray := jdk_42_method_66_code
theorem d0 : decode yB 0 = .ok (.aload_n 0, 1) := by decide +kernel
theorem d1 : decode yB 1 = .ok (.aload_n 1, 1) := by decide +kernel
theorem d2 : decode yB 2 = .ok (.if_acmp (.ne) 5, 3) := by decide +kernel
theorem d5 : decode yB 5 = .ok (.iconst 1, 1) := by decide +kernel
theorem d6 : decode yB 6 = .ok (.ireturn, 1) := by decide +kernel
theorem d7 : decode yB 7 = .ok (.aload_n 1, 1) := by decide +kernel
theorem d8 : decode yB 8 = .ok (.instanceof 10, 3) := by decide +kernel
theorem d11 : decode yB 11 = .ok (.ifCond (.eq) 43, 3) := by decide +kernel
theorem d14 : decode yB 14 = .ok (.aload_n 1, 1) := by decide +kernel
theorem d15 : decode yB 15 = .ok (.checkcast 10, 3) := by decide +kernel
theorem d18 : decode yB 18 = .ok (.astore_n 2, 1) := by decide +kernel
theorem d19 : decode yB 19 = .ok (.getstatic 38, 3) := by decide +kernel
theorem d22 : decode yB 22 = .ok (.ifCond (.eq) 14, 3) := by decide +kernel
theorem d25 : decode yB 25 = .ok (.aload_n 0, 1) := by decide +kernel
theorem d26 : decode yB 26 = .ok (.getfield 15, 3) := by decide +kernel
theorem d29 : decode yB 29 = .ok (.aload_n 2, 1) := by decide +kernel
theorem d30 : decode yB 30 = .ok (.getfield 15, 3) := by decide +kernel
theorem d33 : decode yB 33 = .ok (.if_icmp (.ne) 21, 3) := by decide +kernel
theorem d36 : decode yB 36 = .ok (.aload_n 0, 1) := by decide +kernel
theorem d37 : decode yB 37 = .ok (.getfield 9, 3) := by decide +kernel
theorem d40 : decode yB 40 = .ok (.aload_n 2, 1) := by decide +kernel
theorem d41 : decode yB 41 = .ok (.getfield 9, 3) := by decide +kernel
theorem d44 : decode yB 44 = .ok (.invokestatic 541, 3) := by decide +kernel
theorem d47 : decode yB 47 = .ok (.ifCond (.eq) 7, 3) := by decide +kernel
theorem d50 : decode yB 50 = .ok (.iconst 1, 1) := by decide +kernel
theorem d51 : decode yB 51 = .ok (.goto 4, 3) := by decide +kernel
theorem d54 : decode yB 54 = .ok (.iconst 0, 1) := by decide +kernel
theorem d55 : decode yB 55 = .ok (.ireturn, 1) := by decide +kernel
def site : List Cond := [.classLink "java/lang/String" 10 "java/lang/String", .fieldLink "java/lang/String" 38 "java/lang/String" "COMPACT_STRINGS" "Z", .fieldLink "java/lang/String" 15 "java/lang/String" "coder" "B", .fieldLink "java/lang/String" 9 "java/lang/String" "value" "[B", LEq.tab] ++ staticW "java/lang/String" 541 LEq.yN
def tab : Cond := tabOf yN yB 3 (some .boolean) site
def P (x t : Addr) (V : Cell) (cd : Int32) (n : Nat) (f : Nat → Int32) (y t' : Addr) (V' : Cell) (cd' : Int32) (k : Nat) (g : Nat → Int32) (z : Int32) (args : Array Value) (s : State) : Prop := args = #[.ref x, .ref y] ∧ Txt x t V cd n f s ∧ Txt y t' V' cd' k g s ∧ StaticIs s "java/lang/String" "COMPACT_STRINGS" "Z" (.int z) ∧ ¬ z = 0
/-- equals(Object) of two Strings: whether the texts are the same -/
theorem law (l : Launch) (x t : Addr) (V : Cell) (cd : Int32) (n : Nat) (f : Nat → Int32) (y t' : Addr) (V' : Cell) (cd' : Int32) (k : Nat) (g : Nat → Int32) (z : Int32) : Law l yN 2 1 1 14 yB 3 (some .boolean) site (P x t V cd n f y t' V' cd' k g z) (Says01 (SameT n f k g)) [] 0 0 := by
  refine Law.of_walk (plainFor_of_name (by decide +kernel)) (by decide +kernel) (by decide +kernel) (by decide) (fun _ _ h => by rw [h.1]; rfl) (fun _ U U' hal hh h => ⟨h.1, h.2.1.mv hal hh, h.2.2.1.mv hal hh, h.2.2.2.1.there hal hh, h.2.2.2.2⟩) (fun r U U' V V' h1 hal h2 h => Says01.mv r U U' V V' h1 hal h2 h) ?_
  intro p e s m args below meth c s₁ X0 hexec hbytes hml hret hlk hnm hown hh0 W hP
  obtain ⟨rfl, hx, hy, s1, hz⟩ := hP
  have c1 : Steps p.tables e below (s₁.setTop (entryFrame m #[.ref x, .ref y] 3)) (s₁.setTop (mkF m 2 #[.val (.ref x), .val (.ref y), .unset] [.ref y, .ref x])) := Steps.trans (entry rfl) (by
    show Steps p.tables e below (s₁.setTop (mkF m 0 #[.val (.ref x), .val (.ref y), .unset] [])) _
    refine XS.aloadN X0.here hexec rfl (hb hbytes d0) rfl rfl ?_
    refine XS.aloadN X0.here hexec rfl (hb hbytes d1) rfl rfl ?_
    exact Steps.refl _)
  by_cases hxy : x = y
  · have c2 : Steps p.tables e below (s₁.setTop (entryFrame m #[.ref x, .ref y] 3)) (s₁.setTop (mkF m 6 #[.val (.ref x), .val (.ref y), .unset] [.int 1])) := c1.trans (by
      refine acmpNo X0.here hexec rfl (hb hbytes d2) rfl rfl rfl (by simp [acmp, hxy]) ?_
      refine iconstV X0.here hexec rfl 1 (hb hbytes d5) (by decide) ?_
      exact Steps.refl _)
    subst hxy
    have ec : cd = cd' := by
      obtain ⟨D, fd, a1, a2, a3⟩ := hx.2.2.1
      obtain ⟨D', fd', b1, b2, b3⟩ := hy.2.2.1
      cases a1.symm.trans b1
      obtain ⟨q1, q2, q3, q4⟩ := a2.1
      obtain ⟨r1, r2, r3, r4⟩ := b2.1
      cases q4.symm.trans r4
      cases a3.symm.trans b3; rfl
    have et : t = t' := by
      obtain ⟨D, fd, a1, a2, a3⟩ := hx.2.1
      obtain ⟨D', fd', b1, b2, b3⟩ := hy.2.1
      cases a1.symm.trans b1
      obtain ⟨q1, q2, q3, q4⟩ := a2.1
      obtain ⟨r1, r2, r3, r4⟩ := b2.1
      cases q4.symm.trans r4
      cases a3.symm.trans b3; rfl
    subst ec et
    have ev : V = V' := by cases hx.2.2.2.1.1.symm.trans hy.2.2.2.1.1; rfl
    subst ev
    have hs : SameT n f k g := (Cod.eqv hx.2.2.2.2.1 hy.2.2.2.2.1 hx.2.2.2.2.2 hy.2.2.2.2.2).mp ⟨rfl, fun _ _ => rfl⟩
    exact ⟨s₁, some (.int 1), _, _, _, X0, rfl, rfl, rfl, (fun h => by cases h), ⟨1, rfl, hh0, Or.inl ⟨rfl, hs⟩⟩, fun fs hl => c2.trans (X0.ireturnOut hexec hret rfl (Or.inr (Or.inl rfl)) (hb hbytes d6) hl)⟩
  · have c2 : Steps p.tables e below (s₁.setTop (entryFrame m #[.ref x, .ref y] 3)) (s₁.setTop (mkF m 8 #[.val (.ref x), .val (.ref y), .unset] [.ref y])) := c1.trans (by
      refine acmpYes X0.here hexec rfl (pc0 := 2) rfl (hb hbytes d2) rfl rfl rfl (by simp [acmp, hxy]) (by decide) rfl ?_
      refine XS.aloadN X0.here hexec rfl (hb hbytes d7) rfl rfl ?_
      exact Steps.refl _)
    obtain ⟨T3, X3, q3, st3⟩ := cinst X0 hexec hown (wk W (.classLink "java/lang/String" 10 "java/lang/String")) (hy.mv X0.warmed.alike hh0).1 (g := (mkF m 8 #[.val (.ref x), .val (.ref y), .unset] [.ref y])) rfl (rest := []) rfl (hb hbytes d8)
    have hh3 := q3.trans hh0
    have c4 : Steps p.tables e below (s₁.setTop (entryFrame m #[.ref x, .ref y] 3)) (T3.setTop (mkF m 15 #[.val (.ref x), .val (.ref y), .unset] [.ref y])) := (c2.trans (st3 _ (Steps.refl _))).trans (by
      refine XS.ifNo X3.here hexec rfl (hb hbytes d11) rfl (i0_eq_f (by decide)) ?_
      refine XS.aloadN X3.here hexec rfl (hb hbytes d14) rfl rfl ?_
      exact Steps.refl _)
    obtain ⟨T5, X5, q5, st5⟩ := cself X3 hexec hown (wk W (.classLink "java/lang/String" 10 "java/lang/String")) (hy.mv X3.warmed.alike hh3).1 (g := (mkF m 15 #[.val (.ref x), .val (.ref y), .unset] [.ref y])) rfl (rest := []) rfl (hb hbytes d15)
    have hh5 := q5.trans hh3
    have c6 : Steps p.tables e below (s₁.setTop (entryFrame m #[.ref x, .ref y] 3)) (T5.setTop (mkF m 19 #[.val (.ref x), .val (.ref y), .val (.ref y)] [])) := (c4.trans (st5 _ (Steps.refl _))).trans (by
      refine XS.astoreN X5.here hexec rfl (hb hbytes d18) rfl rfl rfl ?_
      exact Steps.refl _)
    obtain ⟨T7, X7, q7, st7⟩ := X5.sget hexec hown (wk W (.fieldLink "java/lang/String" 38 "java/lang/String" "COMPACT_STRINGS" "Z")) s1 (fun _ _ h => by rw [hh5]; exact h) (g := (mkF m 19 #[.val (.ref x), .val (.ref y), .val (.ref y)] [])) rfl (hb hbytes d19)
    have hh7 := q7.trans hh5
    have c8 : Steps p.tables e below (s₁.setTop (entryFrame m #[.ref x, .ref y] 3)) (T7.setTop (mkF m 26 #[.val (.ref x), .val (.ref y), .val (.ref y)] [.ref x])) := (c6.trans (st7 _ (Steps.refl _))).trans (by
      refine XS.ifNo X7.here hexec rfl (hb hbytes d22) rfl (i0_eq_f hz) ?_
      refine XS.aloadN X7.here hexec rfl (hb hbytes d25) rfl rfl ?_
      exact Steps.refl _)
    obtain ⟨T9, X9, q9, st9⟩ := X7.hget hexec hown (wk W (.fieldLink "java/lang/String" 15 "java/lang/String" "coder" "B")) (hx.mv X7.warmed.alike hh7).2.2.1 (g := (mkF m 26 #[.val (.ref x), .val (.ref y), .val (.ref y)] [.ref x])) rfl (rest := []) rfl (hb hbytes d26)
    have hh9 := q9.trans hh7
    have c10 : Steps p.tables e below (s₁.setTop (entryFrame m #[.ref x, .ref y] 3)) (T9.setTop (mkF m 30 #[.val (.ref x), .val (.ref y), .val (.ref y)] [.ref y, .int cd])) := (c8.trans (st9 _ (Steps.refl _))).trans (by
      refine XS.aloadN X9.here hexec rfl (hb hbytes d29) rfl rfl ?_
      exact Steps.refl _)
    obtain ⟨T11, X11, q11, st11⟩ := X9.hget hexec hown (wk W (.fieldLink "java/lang/String" 15 "java/lang/String" "coder" "B")) (hy.mv X9.warmed.alike hh9).2.2.1 (g := (mkF m 30 #[.val (.ref x), .val (.ref y), .val (.ref y)] [.ref y, .int cd])) rfl (rest := [.int cd]) rfl (hb hbytes d30)
    have hh11 := q11.trans hh9
    have c12 : Steps p.tables e below (s₁.setTop (entryFrame m #[.ref x, .ref y] 3)) (T11.setTop (mkF m 33 #[.val (.ref x), .val (.ref y), .val (.ref y)] [.int cd', .int cd])) := c10.trans (st11 _ (Steps.refl _))
    by_cases hcd : cd = cd'
    · subst hcd
      have c13 : Steps p.tables e below (s₁.setTop (entryFrame m #[.ref x, .ref y] 3)) (T11.setTop (mkF m 37 #[.val (.ref x), .val (.ref y), .val (.ref y)] [.ref x])) := c12.trans (by
        refine XS.icmpNo X11.here hexec rfl (hb hbytes d33) rfl (ii_ne_f rfl) ?_
        refine XS.aloadN X11.here hexec rfl (hb hbytes d36) rfl rfl ?_
        exact Steps.refl _)
      obtain ⟨T14, X14, q14, st14⟩ := X11.hget hexec hown (wk W (.fieldLink "java/lang/String" 9 "java/lang/String" "value" "[B")) (hx.mv X11.warmed.alike hh11).2.1 (g := (mkF m 37 #[.val (.ref x), .val (.ref y), .val (.ref y)] [.ref x])) rfl (rest := []) rfl (hb hbytes d37)
      have hh14 := q14.trans hh11
      have c15 : Steps p.tables e below (s₁.setTop (entryFrame m #[.ref x, .ref y] 3)) (T14.setTop (mkF m 41 #[.val (.ref x), .val (.ref y), .val (.ref y)] [.ref y, .ref t])) := (c13.trans (st14 _ (Steps.refl _))).trans (by
        refine XS.aloadN X14.here hexec rfl (hb hbytes d40) rfl rfl ?_
        exact Steps.refl _)
      obtain ⟨T16, X16, q16, st16⟩ := X14.hget hexec hown (wk W (.fieldLink "java/lang/String" 9 "java/lang/String" "value" "[B")) (hy.mv X14.warmed.alike hh14).2.1 (g := (mkF m 41 #[.val (.ref x), .val (.ref y), .val (.ref y)] [.ref y, .ref t])) rfl (rest := [.ref t]) rfl (hb hbytes d41)
      have hh16 := q16.trans hh14
      have c17 : Steps p.tables e below (s₁.setTop (entryFrame m #[.ref x, .ref y] 3)) (T16.setTop (mkF m 44 #[.val (.ref x), .val (.ref y), .val (.ref y)] [.ref t', .ref t])) := c15.trans (st16 _ (Steps.refl _))
      obtain ⟨v18, T18, X18, E18, g18⟩ := X16.callS hexec (LEq.law l t V t' V') hown (wks W (staticW "java/lang/String" 541 LEq.yN)) (wk W LEq.tab) (W := 0) (Nat.le_of_ble_eq_true rfl) (Nat.le_of_ble_eq_true rfl) (Nat.le_refl _) (Nat.le_refl _) (g := (mkF m 44 #[.val (.ref x), .val (.ref y), .val (.ref y)] [.ref t', .ref t])) rfl (by rw [hml]; rfl) c17 (argsL := [.ref t, .ref t']) (rest := []) rfl rfl (by show 2 * 0 + 0 ≤ _; decide) (hb hbytes d44) (⟨rfl, hx.2.2.2.1.mv X16.warmed.alike hh16, hx.2.2.2.2.1.ty, hy.2.2.2.1.mv X16.warmed.alike hh16, hy.2.2.2.2.1.ty⟩)
      obtain ⟨v, rfl, q18, hv⟩ := E18
      have iff := Cod.eqv hx.2.2.2.2.1 hy.2.2.2.2.1 hx.2.2.2.2.2 hy.2.2.2.2.2
      rcases hv with ⟨rfl, he⟩ | ⟨rfl, he⟩
      · have c19 : Steps p.tables e below (s₁.setTop (entryFrame m #[.ref x, .ref y] 3)) (T18.setTop (mkF m 55 #[.val (.ref x), .val (.ref y), .val (.ref y)] [.int 1])) := Steps.trans g18 (by
          refine XS.ifNo X18.here hexec rfl (hb hbytes d47) rfl (i0_eq_f (by decide)) ?_
          refine iconstV X18.here hexec rfl 1 (hb hbytes d50) (by decide) ?_
          refine XS.goto X18.here hexec rfl (pc0 := 51) rfl (hb hbytes d51) (by decide) rfl ?_
          exact Steps.refl _)
        exact ⟨T18, some (.int 1), _, _, _, X18, rfl, rfl, rfl, (fun h => by cases h), ⟨1, rfl, q18.trans hh16, Or.inl ⟨rfl, iff.mp he⟩⟩, fun fs hl => c19.trans (X18.ireturnOut hexec hret rfl (Or.inr (Or.inl rfl)) (hb hbytes d55) hl)⟩
      · have c19 : Steps p.tables e below (s₁.setTop (entryFrame m #[.ref x, .ref y] 3)) (T18.setTop (mkF m 55 #[.val (.ref x), .val (.ref y), .val (.ref y)] [.int 0])) := Steps.trans g18 (by
          refine XS.ifYes X18.here hexec rfl (pc0 := 47) rfl (hb hbytes d47) rfl (i0_eq_t rfl) (by decide) rfl ?_
          refine iconstV X18.here hexec rfl 0 (hb hbytes d54) (by decide) ?_
          exact Steps.refl _)
        exact ⟨T18, some (.int 0), _, _, _, X18, rfl, rfl, rfl, (fun h => by cases h), ⟨0, rfl, q18.trans hh16, Or.inr ⟨rfl, fun q => he (iff.mpr q)⟩⟩, fun fs hl => c19.trans (X18.ireturnOut hexec hret rfl (Or.inr (Or.inl rfl)) (hb hbytes d55) hl)⟩
    · have c13 : Steps p.tables e below (s₁.setTop (entryFrame m #[.ref x, .ref y] 3)) (T11.setTop (mkF m 55 #[.val (.ref x), .val (.ref y), .val (.ref y)] [.int 0])) := c12.trans (by
        refine XS.icmpYes X11.here hexec rfl (pc0 := 33) rfl (hb hbytes d33) rfl (ii_ne_t hcd) (by decide) rfl ?_
        refine iconstV X11.here hexec rfl 0 (hb hbytes d54) (by decide) ?_
        exact Steps.refl _)
      exact ⟨T11, some (.int 0), _, _, _, X11, rfl, rfl, rfl, (fun h => by cases h), ⟨0, rfl, hh11, Or.inr ⟨rfl, Cod.dif hx.2.2.2.2.1 hy.2.2.2.2.1 hcd⟩⟩, fun fs hl => c13.trans (X11.ireturnOut hexec hret rfl (Or.inr (Or.inl rfl)) (hb hbytes d55) hl)⟩
theorem pays {l : Launch} {R : Room} {p : Program} {e : Env} {below : List Frame} {s : State} {sargs : Array Value} {len W : Nat} (x t : Addr) (V : Cell) (cd : Int32) (n : Nat) (f : Nat → Int32) (y t' : Addr) (V' : Cell) (cd' : Int32) (k : Nat) (g : Nat → Int32) (z : Int32) (htab : tab.before sargs s = true) (hfr : 2 ≤ R.frames) (hlo : W + 28 ≤ R.locals) :
    Back l R p e below s sargs yN len W (fun A₁ a₁ => A₁.cells + 0 ≤ R.cells ∧ A₁.slots + 0 ≤ R.slots ∧ P x t V cd n f y t' V' cd' k g z a₁ A₁.U) (fun A₁ _ v₁ B₁ => Says01 (SameT n f k g) v₁ A₁.U B₁.U ∧ B₁.locs = A₁.locs ++ [] ∧ B₁.cells = A₁.cells + 0 ∧ B₁.slots = A₁.slots + 0) :=
  (law l x t V cd n f y t' V' cd' k g z).pays htab hfr (by omega)
end SEq
end StrChars
namespace StrChars.Road
open Jvm Sem ClassFile Op Lib Jvm.Stand Jvm.Free Jvm.Free.XT
open Jvm.Lib.Cold (StaticIs)
/-- the words of String.equals(Object) -/
abbrev wordsEq : List Jvm.Cond := [.code SEq.yN SEq.yB 3 (some .boolean), .initialized ST, .classLink ST 10 ST, .fieldLink ST 38 ST "COMPACT_STRINGS" "Z", .fieldLink ST 15 ST "coder" "B", .fieldLink ST 9 ST "value" "[B", .methodLink ST 541 LEq.yN, .static LEq.yN, .code LEq.yN LEq.yB 3 (some .boolean), .initialized "java/lang/StringLatin1"]
theorem tabEq_of {a : Array Value} {s : State} (h : ∀ w ∈ wordsEq, w.before a s = true) : SEq.tab.before a s = true := by
  have hl : LEq.tab.before a s = true := unparts (wk h (.code LEq.yN LEq.yB 3 (some .boolean))) (wks h (.initialized LEq.yN.cls :: LEq.site))
  have q := consq hl h
  exact unparts (wk q (.code SEq.yN SEq.yB 3 (some .boolean))) (wks q (.initialized SEq.yN.cls :: SEq.site))
theorem movedEq {Z s : State} {a0 args : Array Value} (hZ : Z.Warmed39 s.vm) (hw : ∀ d ∈ wordsEq, d.before a0 Z = true) : ∀ d ∈ wordsEq, d.before args s = true := fun d hd => by
  have t : ∀ d ∈ wordsEq, (d.onTables && d.keepsFace) = true := by decide +kernel
  exact RoadKit.mv hZ (hw d hd) (t d hd)
/-- the road's facts of a String, as the laws ask it -/
theorem txt_of {Z U : State} {a0 : Array Value} {kI : Nat} (wi : (Jvm.Cond.instantiable ST kI).before a0 Z = true) (al : Z.vm.Alike U.vm) {x t : Addr} {kb : ClassId} {cs : List Int32} {cd N2 : Int32} {vs : List Value} (E : RoadKit.Exa Z U.heap x ST) (V : RoadKit.Fld Z U.heap x ST "value" "[B" (.ref t)) (C : RoadKit.Fld Z U.heap x ST "coder" "B" (.int cd)) (K : RoadKit.Arv Z U.heap t kb .byte N2 vs (.int 0)) (hc : CodA cs cd N2 vs) (hb : ∀ c ∈ cs, ¬ c < 0 ∧ ¬ (65535 : Int32) < c) (l2 : cs.length ≤ 4000) :
    ∃ A, Txt x t A cd cs.length (fun j => cs.getD j 0) U := by
  obtain ⟨A, K1, K2, K3, K4, K5, K6⟩ := K
  have hcod := hc.cod (by omega) K3 K5
  obtain ⟨D, fV, fC, hB, F1, F2, g1, g2, -, -⟩ := strObj wi al E V C
  exact ⟨A, ⟨_, hB.2.2.1, D, hB.1, rfl, by cases q : D.vm <;> first | rfl | exact absurd q (hB.2.1.2 _)⟩, Has.of hB F1 g1, Has.of hB F2 g2, ⟨K1.1, State.isArrayOf_alike al K1.2.1, K1.2.2, by rcases hcod with ⟨-, q, -⟩ | ⟨-, q, -⟩ <;> omega⟩, hcod, fun j hj => by
    have e : cs.getD j 0 = cs[j] := by simp [List.getD_eq_getElem?_getD, hj]
    show ¬ cs.getD j 0 < 0 ∧ ¬ 65535 < cs.getD j 0
    rw [e]; exact hb _ (List.getElem_mem _)⟩
theorem same_list (cs ds : List Int32) : SameT cs.length (fun j => cs.getD j 0) ds.length (fun j => ds.getD j 0) ↔ cs = ds := by
  constructor
  · rintro ⟨e, q⟩
    refine List.ext_getElem e fun j h1 h2 => ?_
    have := q j h1
    simpa [List.getD_eq_getElem?_getD, h1, h2] using this
  · rintro rfl
    exact ⟨rfl, fun _ _ => rfl⟩
/-- **equals(Object) OF TWO SUCH STRINGS**: 1 just where the chars are the same -/
theorem eqW {p : Program} {l : Launch} {e : Env} {R : Room} {s : State} {args : Array Value} {below : List Frame} {len W : Nat} {Z : State} {a0 : Array Value} {h : Heap} (hZ : Z.Warmed39 s.vm) (hw : ∀ d ∈ wordsEq, d.before a0 Z = true) {kI : Nat} (wi : (Jvm.Cond.instantiable ST kI).before a0 Z = true)
    {x t : Addr} {kb : ClassId} {cs : List Int32} {cd N2 : Int32} {vs : List Value} (E : RoadKit.Exa Z h x ST) (V : RoadKit.Fld Z h x ST "value" "[B" (.ref t)) (C : RoadKit.Fld Z h x ST "coder" "B" (.int cd)) (K : RoadKit.Arv Z h t kb .byte N2 vs (.int 0)) (hc : CodA cs cd N2 vs) (hb : ∀ c ∈ cs, ¬ c < 0 ∧ ¬ (65535 : Int32) < c) (l2 : cs.length ≤ 4000)
    {y t' : Addr} {kb' : ClassId} {ds : List Int32} {cd' N2' : Int32} {vs' : List Value} (E' : RoadKit.Exa Z h y ST) (V' : RoadKit.Fld Z h y ST "value" "[B" (.ref t')) (C' : RoadKit.Fld Z h y ST "coder" "B" (.int cd')) (K' : RoadKit.Arv Z h t' kb' .byte N2' vs' (.int 0)) (hc' : CodA ds cd' N2' vs') (hb' : ∀ c ∈ ds, ¬ c < 0 ∧ ¬ (65535 : Int32) < c) (l2' : ds.length ≤ 4000)
    {z : Int32} (S : RoadKit.Sta Z h ST "COMPACT_STRINGS" "Z" (.int z)) (hz : ¬ z = 0) (hfr : 2 ≤ R.frames) (hlo : W + 28 ≤ R.locals) :
    Back l R p e below s args (⟨"java/lang/String", "equals", "(Ljava/lang/Object;)Z"⟩ : MethodName) len W (fun P a => a = #[.ref x, .ref y] ∧ P.U.heap = h ∧ P.cells + 0 ≤ R.cells ∧ P.slots + 0 ≤ R.slots)
      (fun P _ v B => ∃ L, (((v = some (.int 1) ∧ cs = ds) ∨ (v = some (.int 0) ∧ ¬ cs = ds)) ∧ L = [] ∧ B.U.heap = h) ∧ B.locs = P.locs ++ L ∧ B.cells = P.cells + 0 ∧ B.slots = P.slots + 0) := by
  intro m meth c P g ig mk a X hg hsize hdg hW hn hp'
  obtain ⟨rfl, rfl, r1, r2⟩ := hp'
  have al : Z.vm.Alike P.U.vm := hZ.alike.trans X.warmed.alike
  obtain ⟨A, hx⟩ := txt_of wi al E V C K hc hb l2
  obtain ⟨A', hy⟩ := txt_of wi al E' V' C' K' hc' hb' l2'
  obtain ⟨v, B, X', ⟨⟨w, hv, hh, hq⟩, hl, hk, hs⟩, st⟩ := SEq.pays x t A cd cs.length (fun j => cs.getD j 0) y t' A' cd' ds.length (fun j => ds.getD j 0) z (tabEq_of (movedEq hZ hw)) hfr hlo m meth c P g ig mk _ X hg hsize hdg hW hn ⟨r1, r2, rfl, hx, hy, sta_is al S, hz⟩
  refine ⟨v, B, X', ⟨[], ⟨?_, rfl, hh⟩, hl, hk, hs⟩, st⟩
  rcases hq with ⟨rfl, q⟩ | ⟨rfl, q⟩
  · exact Or.inl ⟨hv, (same_list cs ds).mp q⟩
  · exact Or.inr ⟨hv, fun e => q ((same_list cs ds).mpr e)⟩
end StrChars.Road
namespace StrChars.Road
open Jvm Sem ClassFile Op Lib Jvm.Stand Jvm.Free Jvm.Free.XT
open Jvm.Lib.Cold (StaticIs)
/-- what backV says of its String, as the contracts of this text ask it: cs's low bytes, coder 0 -/
theorem codOf {cs : List Int32} {n : Nat} (hn : cs.length = n) (hb : ∀ c ∈ cs, ¬ 255 < c) : CodA cs 0 (Int32.ofNat n) ((cs.map lo8).map Value.int) := Or.inl ⟨rfl, by rw [hn], by simp [List.map_map, Function.comp_def], hb⟩
end StrChars.Road
end Jvm.Pilot.@@N@@

namespace Jvm.Pilot.@@N@@
open Jvm Jvm.ClassFile Sem Op Lib Jvm.Free Jvm.Stand Jvm.LawKit Jvm.RoadKit Bundle Jvm.OwnKit Jvm.Pilot.@@N@@.Jvm.D
theorem b2_0 : Dc jdk_42_method_149_code 0 (.aload_n 0) 1 1 := ⟨by decide +kernel, rfl⟩
theorem b2_1 : Dc jdk_42_method_149_code 1 (.invokespecial 1) 3 4 := ⟨by decide +kernel, rfl⟩
theorem b2_4 : Dc jdk_42_method_149_code 4 (.iload_n 3) 1 5 := ⟨by decide +kernel, rfl⟩
theorem b2_5 : Db jdk_42_method_149_code 5 (.ifCond .ne 22) (22) 8 27 := ⟨by decide +kernel, rfl, by decide, by decide⟩
theorem b2_8 : Dc jdk_42_method_149_code 8 (.aload_n 0) 1 9 := ⟨by decide +kernel, rfl⟩
theorem b2_9 : Dc jdk_42_method_149_code 9 (.ldc 7) 2 11 := ⟨by decide +kernel, rfl⟩
theorem b2_11 : Dc jdk_42_method_149_code 11 (.getfield 9) 3 14 := ⟨by decide +kernel, rfl⟩
theorem b2_14 : Dc jdk_42_method_149_code 14 (.putfield 9) 3 17 := ⟨by decide +kernel, rfl⟩
theorem b2_17 : Dc jdk_42_method_149_code 17 (.aload_n 0) 1 18 := ⟨by decide +kernel, rfl⟩
theorem b2_18 : Dc jdk_42_method_149_code 18 (.ldc 7) 2 20 := ⟨by decide +kernel, rfl⟩
theorem b2_20 : Dc jdk_42_method_149_code 20 (.getfield 15) 3 23 := ⟨by decide +kernel, rfl⟩
theorem b2_23 : Dc jdk_42_method_149_code 23 (.putfield 15) 3 26 := ⟨by decide +kernel, rfl⟩
theorem b2_26 : Dc jdk_42_method_149_code 26 (.return_) 1 27 := ⟨by decide +kernel, rfl⟩
theorem b1_0 : Dc jdk_42_method_3_code 0 (.aload_n 0) 1 1 := ⟨by decide +kernel, rfl⟩
theorem b1_1 : Dc jdk_42_method_3_code 1 (.aload_n 1) 1 2 := ⟨by decide +kernel, rfl⟩
theorem b1_2 : Dc jdk_42_method_3_code 2 (.iconst 0) 1 3 := ⟨by decide +kernel, rfl⟩
theorem b1_3 : Dc jdk_42_method_3_code 3 (.aload_n 1) 1 4 := ⟨by decide +kernel, rfl⟩
theorem b1_4 : Dc jdk_42_method_3_code 4 (.arraylength) 1 5 := ⟨by decide +kernel, rfl⟩
theorem b1_5 : Dc jdk_42_method_3_code 5 (.aconst_null) 1 6 := ⟨by decide +kernel, rfl⟩
theorem b1_6 : Dc jdk_42_method_3_code 6 (.invokespecial 27) 3 9 := ⟨by decide +kernel, rfl⟩
theorem b1_9 : Dc jdk_42_method_3_code 9 (.return_) 1 10 := ⟨by decide +kernel, rfl⟩
theorem b0_0 : Dc method_2_code 0 (.iload_n 0) 1 1 := ⟨by decide +kernel, rfl⟩
theorem b0_1 : Db method_2_code 1 (.ifCond .ne 14) (14) 4 15 := ⟨by decide +kernel, rfl, by decide, by decide⟩
theorem b0_15 : Dc method_2_code 15 (.iload_n 0) 1 16 := ⟨by decide +kernel, rfl⟩
theorem b0_16 : Dc method_2_code 16 (.iconst 1) 1 17 := ⟨by decide +kernel, rfl⟩
theorem b0_17 : Db method_2_code 17 (.if_icmp .ne 18) (18) 20 35 := ⟨by decide +kernel, rfl, by decide, by decide⟩
theorem b0_35 : Dc method_2_code 35 (.new 7) 3 38 := ⟨by decide +kernel, rfl⟩
theorem b0_38 : Dc method_2_code 38 (.dup) 1 39 := ⟨by decide +kernel, rfl⟩
theorem b0_39 : Dc method_2_code 39 (.iconst 2) 1 40 := ⟨by decide +kernel, rfl⟩
theorem b0_40 : Dc method_2_code 40 (.newarray .char) 2 42 := ⟨by decide +kernel, rfl⟩
theorem b0_42 : Dc method_2_code 42 (.dup) 1 43 := ⟨by decide +kernel, rfl⟩
theorem b0_43 : Dc method_2_code 43 (.iconst 0) 1 44 := ⟨by decide +kernel, rfl⟩
theorem b0_44 : Dc method_2_code 44 (.iload_n 1) 1 45 := ⟨by decide +kernel, rfl⟩
theorem b0_45 : Dc method_2_code 45 (.castore) 1 46 := ⟨by decide +kernel, rfl⟩
theorem b0_46 : Dc method_2_code 46 (.dup) 1 47 := ⟨by decide +kernel, rfl⟩
theorem b0_47 : Dc method_2_code 47 (.iconst 1) 1 48 := ⟨by decide +kernel, rfl⟩
theorem b0_48 : Dc method_2_code 48 (.iload_n 2) 1 49 := ⟨by decide +kernel, rfl⟩
theorem b0_49 : Dc method_2_code 49 (.castore) 1 50 := ⟨by decide +kernel, rfl⟩
theorem b0_50 : Dc method_2_code 50 (.invokespecial 9) 3 53 := ⟨by decide +kernel, rfl⟩
theorem b0_53 : Dc method_2_code 53 (.areturn) 1 54 := ⟨by decide +kernel, rfl⟩
theorem b0_20 : Dc method_2_code 20 (.new 7) 3 23 := ⟨by decide +kernel, rfl⟩
theorem b0_23 : Dc method_2_code 23 (.dup) 1 24 := ⟨by decide +kernel, rfl⟩
theorem b0_24 : Dc method_2_code 24 (.iconst 1) 1 25 := ⟨by decide +kernel, rfl⟩
theorem b0_25 : Dc method_2_code 25 (.newarray .char) 2 27 := ⟨by decide +kernel, rfl⟩
theorem b0_27 : Dc method_2_code 27 (.dup) 1 28 := ⟨by decide +kernel, rfl⟩
theorem b0_28 : Dc method_2_code 28 (.iconst 0) 1 29 := ⟨by decide +kernel, rfl⟩
theorem b0_29 : Dc method_2_code 29 (.iload_n 1) 1 30 := ⟨by decide +kernel, rfl⟩
theorem b0_30 : Dc method_2_code 30 (.castore) 1 31 := ⟨by decide +kernel, rfl⟩
theorem b0_31 : Dc method_2_code 31 (.invokespecial 9) 3 34 := ⟨by decide +kernel, rfl⟩
theorem b0_34 : Dc method_2_code 34 (.areturn) 1 35 := ⟨by decide +kernel, rfl⟩
theorem b0_4 : Dc method_2_code 4 (.new 7) 3 7 := ⟨by decide +kernel, rfl⟩
theorem b0_7 : Dc method_2_code 7 (.dup) 1 8 := ⟨by decide +kernel, rfl⟩
theorem b0_8 : Dc method_2_code 8 (.iconst 0) 1 9 := ⟨by decide +kernel, rfl⟩
theorem b0_9 : Dc method_2_code 9 (.newarray .char) 2 11 := ⟨by decide +kernel, rfl⟩
theorem b0_11 : Dc method_2_code 11 (.invokespecial 9) 3 14 := ⟨by decide +kernel, rfl⟩
theorem b0_14 : Dc method_2_code 14 (.areturn) 1 15 := ⟨by decide +kernel, rfl⟩
theorem b9_0 : Dc method_3_code 0 (.iload_n 0) 1 1 := ⟨by decide +kernel, rfl⟩
theorem b9_1 : Dc method_3_code 1 (.iload_n 3) 1 2 := ⟨by decide +kernel, rfl⟩
theorem b9_2 : Db method_3_code 2 (.if_icmp .eq 5) (5) 5 7 := ⟨by decide +kernel, rfl, by decide, by decide⟩
theorem b9_7 : Dc method_3_code 7 (.iload_n 0) 1 8 := ⟨by decide +kernel, rfl⟩
theorem b9_8 : Dc method_3_code 8 (.iconst 1) 1 9 := ⟨by decide +kernel, rfl⟩
theorem b9_9 : Db method_3_code 9 (.if_icmp .lt 11) (11) 12 20 := ⟨by decide +kernel, rfl, by decide, by decide⟩
theorem b9_20 : Dc method_3_code 20 (.iload_n 0) 1 21 := ⟨by decide +kernel, rfl⟩
theorem b9_21 : Dc method_3_code 21 (.iconst 2) 1 22 := ⟨by decide +kernel, rfl⟩
theorem b9_22 : Db method_3_code 22 (.if_icmp .lt 11) (11) 25 33 := ⟨by decide +kernel, rfl, by decide, by decide⟩
theorem b9_33 : Dc method_3_code 33 (.iconst 1) 1 34 := ⟨by decide +kernel, rfl⟩
theorem b9_34 : Dc method_3_code 34 (.ireturn) 1 35 := ⟨by decide +kernel, rfl⟩
theorem b9_25 : Dc method_3_code 25 (.iload_n 2) 1 26 := ⟨by decide +kernel, rfl⟩
theorem b9_26 : Dc method_3_code 26 (.iload 5) 2 28 := ⟨by decide +kernel, rfl⟩
theorem b9_28 : Db method_3_code 28 (.if_icmp .eq 5) (5) 31 33 := ⟨by decide +kernel, rfl, by decide, by decide⟩
theorem b9_31 : Dc method_3_code 31 (.iconst 0) 1 32 := ⟨by decide +kernel, rfl⟩
theorem b9_32 : Dc method_3_code 32 (.ireturn) 1 33 := ⟨by decide +kernel, rfl⟩
theorem b9_12 : Dc method_3_code 12 (.iload_n 1) 1 13 := ⟨by decide +kernel, rfl⟩
theorem b9_13 : Dc method_3_code 13 (.iload 4) 2 15 := ⟨by decide +kernel, rfl⟩
theorem b9_15 : Db method_3_code 15 (.if_icmp .eq 5) (5) 18 20 := ⟨by decide +kernel, rfl, by decide, by decide⟩
theorem b9_18 : Dc method_3_code 18 (.iconst 0) 1 19 := ⟨by decide +kernel, rfl⟩
theorem b9_19 : Dc method_3_code 19 (.ireturn) 1 20 := ⟨by decide +kernel, rfl⟩
theorem b9_5 : Dc method_3_code 5 (.iconst 0) 1 6 := ⟨by decide +kernel, rfl⟩
theorem b9_6 : Dc method_3_code 6 (.ireturn) 1 7 := ⟨by decide +kernel, rfl⟩
theorem b8_0 : Dc jdk_30_method_1_code 0 (.aload_n 0) 1 1 := ⟨by decide +kernel, rfl⟩
theorem b8_1 : Dc jdk_30_method_1_code 1 (.invokespecial 1) 3 4 := ⟨by decide +kernel, rfl⟩
theorem b8_4 : Dc jdk_30_method_1_code 4 (.return_) 1 5 := ⟨by decide +kernel, rfl⟩
theorem b7_0 : Dc prog_48_method_1_code 0 (.aload_n 0) 1 1 := ⟨by decide +kernel, rfl⟩
theorem b7_1 : Dc prog_48_method_1_code 1 (.invokespecial 1) 3 4 := ⟨by decide +kernel, rfl⟩
theorem b7_4 : Dc prog_48_method_1_code 4 (.aload_n 0) 1 5 := ⟨by decide +kernel, rfl⟩
theorem b7_5 : Dc prog_48_method_1_code 5 (.aload_n 1) 1 6 := ⟨by decide +kernel, rfl⟩
theorem b7_6 : Dc prog_48_method_1_code 6 (.putfield 7) 3 9 := ⟨by decide +kernel, rfl⟩
theorem b7_9 : Dc prog_48_method_1_code 9 (.aload_n 0) 1 10 := ⟨by decide +kernel, rfl⟩
theorem b7_10 : Dc prog_48_method_1_code 10 (.aload_n 2) 1 11 := ⟨by decide +kernel, rfl⟩
theorem b7_11 : Dc prog_48_method_1_code 11 (.putfield 13) 3 14 := ⟨by decide +kernel, rfl⟩
theorem b7_14 : Dc prog_48_method_1_code 14 (.return_) 1 15 := ⟨by decide +kernel, rfl⟩
theorem b10_0 : Dc prog_48_method_5_code 0 (.aload_n 1) 1 1 := ⟨by decide +kernel, rfl⟩
theorem b10_1 : Dc prog_48_method_5_code 1 (.instanceof 8) 3 4 := ⟨by decide +kernel, rfl⟩
theorem b10_4 : Db prog_48_method_5_code 4 (.ifCond .eq 37) (37) 7 41 := ⟨by decide +kernel, rfl, by decide, by decide⟩
theorem b10_7 : Dc prog_48_method_5_code 7 (.aload_n 1) 1 8 := ⟨by decide +kernel, rfl⟩
theorem b10_8 : Dc prog_48_method_5_code 8 (.checkcast 8) 3 11 := ⟨by decide +kernel, rfl⟩
theorem b10_11 : Dc prog_48_method_5_code 11 (.astore_n 2) 1 12 := ⟨by decide +kernel, rfl⟩
theorem b10_12 : Dc prog_48_method_5_code 12 (.aload_n 0) 1 13 := ⟨by decide +kernel, rfl⟩
theorem b10_13 : Dc prog_48_method_5_code 13 (.getfield 7) 3 16 := ⟨by decide +kernel, rfl⟩
theorem b10_16 : Dc prog_48_method_5_code 16 (.aload_n 2) 1 17 := ⟨by decide +kernel, rfl⟩
theorem b10_17 : Dc prog_48_method_5_code 17 (.getfield 7) 3 20 := ⟨by decide +kernel, rfl⟩
theorem b10_20 : Dc prog_48_method_5_code 20 (.invokevirtual 52) 3 23 := ⟨by decide +kernel, rfl⟩
theorem b10_23 : Db prog_48_method_5_code 23 (.ifCond .eq 18) (18) 26 41 := ⟨by decide +kernel, rfl, by decide, by decide⟩
theorem b10_26 : Dc prog_48_method_5_code 26 (.aload_n 0) 1 27 := ⟨by decide +kernel, rfl⟩
theorem b10_27 : Dc prog_48_method_5_code 27 (.getfield 13) 3 30 := ⟨by decide +kernel, rfl⟩
theorem b10_30 : Dc prog_48_method_5_code 30 (.aload_n 2) 1 31 := ⟨by decide +kernel, rfl⟩
theorem b10_31 : Dc prog_48_method_5_code 31 (.getfield 13) 3 34 := ⟨by decide +kernel, rfl⟩
theorem b10_34 : Db prog_48_method_5_code 34 (.if_acmp .ne 7) (7) 37 41 := ⟨by decide +kernel, rfl, by decide, by decide⟩
theorem b10_41 : Dc prog_48_method_5_code 41 (.iconst 0) 1 42 := ⟨by decide +kernel, rfl⟩
theorem b10_42 : Dc prog_48_method_5_code 42 (.ireturn) 1 43 := ⟨by decide +kernel, rfl⟩
theorem b10_37 : Dc prog_48_method_5_code 37 (.iconst 1) 1 38 := ⟨by decide +kernel, rfl⟩
theorem b10_38 : Db prog_48_method_5_code 38 (.goto 4) (4) 41 42 := ⟨by decide +kernel, rfl, by decide, by decide⟩
theorem L_11 : Dc code 11 (.istore 4) 2 13 := ⟨at_11, rfl⟩
theorem L_13 : Dc code 13 (.iload_n 3) 1 14 := ⟨at_13, rfl⟩
theorem L_14 : Dc code 14 (.iconst 1) 1 15 := ⟨at_14, rfl⟩
theorem L_15 : Dc code 15 (.iushr) 1 16 := ⟨at_15, rfl⟩
theorem L_16 : Dc code 16 (.iconst 3) 1 17 := ⟨at_16, rfl⟩
theorem L_17 : Dc code 17 (.iand) 1 18 := ⟨at_17, rfl⟩
theorem L_18 : Dc code 18 (.istore 5) 2 20 := ⟨at_18, rfl⟩
theorem L_37 : Dc code 37 (.astore 6) 2 39 := ⟨at_37, rfl⟩
theorem L_56 : Dc code 56 (.astore 7) 2 58 := ⟨at_56, rfl⟩
theorem L_58 : Dc code 58 (.iload_n 2) 1 59 := ⟨at_58, rfl⟩
theorem L_59 : Dc code 59 (.iconst 3) 1 60 := ⟨at_59, rfl⟩
theorem L_60 : Dc code 60 (.iand) 1 61 := ⟨at_60, rfl⟩
theorem L_61 : Dc code 61 (.iconst 3) 1 62 := ⟨at_61, rfl⟩
theorem L_62 : Dc code 62 (.irem) 1 63 := ⟨at_62, rfl⟩
theorem L_63 : Dc code 63 (.istore 8) 2 65 := ⟨at_63, rfl⟩
theorem L_65 : Dc code 65 (.iload_n 0) 1 66 := ⟨at_65, rfl⟩
theorem L_66 : Dc code 66 (.sipush 255) 3 69 := ⟨at_66, rfl⟩
theorem L_69 : Dc code 69 (.iand) 1 70 := ⟨at_69, rfl⟩
theorem L_70 : Dc code 70 (.i2c) 1 71 := ⟨at_70, rfl⟩
theorem L_71 : Dc code 71 (.istore 9) 2 73 := ⟨at_71, rfl⟩
theorem L_73 : Dc code 73 (.iload_n 0) 1 74 := ⟨at_73, rfl⟩
theorem L_74 : Dc code 74 (.bipush 8) 2 76 := ⟨at_74, rfl⟩
theorem L_76 : Dc code 76 (.iushr) 1 77 := ⟨at_76, rfl⟩
theorem L_77 : Dc code 77 (.sipush 255) 3 80 := ⟨at_77, rfl⟩
theorem L_80 : Dc code 80 (.iand) 1 81 := ⟨at_80, rfl⟩
theorem L_81 : Dc code 81 (.i2c) 1 82 := ⟨at_81, rfl⟩
theorem L_82 : Dc code 82 (.istore 10) 2 84 := ⟨at_82, rfl⟩
theorem L_132 : Dc code 132 (.iload 8) 2 134 := ⟨at_132, rfl⟩
theorem L_134 : Dc code 134 (.iload 9) 2 136 := ⟨at_134, rfl⟩
theorem L_136 : Dc code 136 (.iload 10) 2 138 := ⟨at_136, rfl⟩
theorem L_138 : Dc code 138 (.invokestatic 21) 3 141 := ⟨at_138, rfl⟩
theorem L_141 : Dc code 141 (.astore 14) 2 143 := ⟨at_141, rfl⟩
theorem L_143 : Dc code 143 (.iload 11) 2 145 := ⟨at_143, rfl⟩
theorem L_145 : Dc code 145 (.iload 12) 2 147 := ⟨at_145, rfl⟩
theorem L_147 : Dc code 147 (.iload 13) 2 149 := ⟨at_147, rfl⟩
theorem L_149 : Dc code 149 (.invokestatic 21) 3 152 := ⟨at_149, rfl⟩
theorem L_152 : Dc code 152 (.astore 15) 2 154 := ⟨at_152, rfl⟩
theorem L_154 : Dc code 154 (.new 27) 3 157 := ⟨at_154, rfl⟩
theorem L_157 : Dc code 157 (.dup) 1 158 := ⟨at_157, rfl⟩
theorem L_158 : Dc code 158 (.aload 14) 2 160 := ⟨at_158, rfl⟩
theorem L_160 : Dc code 160 (.aload 6) 2 162 := ⟨at_160, rfl⟩
theorem L_162 : Dc code 162 (.invokespecial 29) 3 165 := ⟨at_162, rfl⟩
theorem L_165 : Dc code 165 (.astore 16) 2 167 := ⟨at_165, rfl⟩
theorem L_167 : Dc code 167 (.new 27) 3 170 := ⟨at_167, rfl⟩
theorem L_170 : Dc code 170 (.dup) 1 171 := ⟨at_170, rfl⟩
theorem L_171 : Dc code 171 (.aload 15) 2 173 := ⟨at_171, rfl⟩
theorem L_173 : Dc code 173 (.aload 7) 2 175 := ⟨at_173, rfl⟩
theorem L_175 : Dc code 175 (.invokespecial 29) 3 178 := ⟨at_175, rfl⟩
theorem L_178 : Dc code 178 (.astore 17) 2 180 := ⟨at_178, rfl⟩
theorem L_180 : Dc code 180 (.iload 5) 2 182 := ⟨at_180, rfl⟩
theorem L_182 : Db code 182 (.ifCond .ne 42) (42) 185 224 := ⟨at_182, rfl, by decide, by decide⟩
theorem L_224 : Dc code 224 (.iload 5) 2 226 := ⟨at_224, rfl⟩
theorem L_226 : Dc code 226 (.iconst 1) 1 227 := ⟨at_226, rfl⟩
theorem L_227 : Db code 227 (.if_icmp .ne 12) (12) 230 239 := ⟨at_227, rfl, by decide, by decide⟩
theorem L_239 : Dc code 239 (.iload 5) 2 241 := ⟨at_239, rfl⟩
theorem L_241 : Dc code 241 (.iconst 2) 1 242 := ⟨at_241, rfl⟩
theorem L_242 : Db code 242 (.if_icmp .ne 13) (13) 245 255 := ⟨at_242, rfl, by decide, by decide⟩
theorem L_255 : Dc code 255 (.aload 16) 2 257 := ⟨at_255, rfl⟩
theorem L_257 : Dc code 257 (.astore 18) 2 259 := ⟨at_257, rfl⟩
theorem L_259 : Dc code 259 (.iconst 1) 1 260 := ⟨at_259, rfl⟩
theorem L_260 : Dc code 260 (.istore 19) 2 262 := ⟨at_260, rfl⟩
theorem L_262 : Dc code 262 (.aload 16) 2 264 := ⟨at_262, rfl⟩
theorem L_264 : Dc code 264 (.aload 18) 2 266 := ⟨at_264, rfl⟩
theorem L_266 : Dc code 266 (.invokevirtual 36) 3 269 := ⟨at_266, rfl⟩
theorem L_269 : Dc code 269 (.iload 19) 2 271 := ⟨at_269, rfl⟩
theorem L_271 : Db code 271 (.if_icmp .ne 7) (7) 274 278 := ⟨at_271, rfl, by decide, by decide⟩
theorem L_274 : Dc code 274 (.iconst 1) 1 275 := ⟨at_274, rfl⟩
theorem L_275 : Db code 275 (.goto 4) (4) 278 279 := ⟨at_275, rfl, by decide, by decide⟩
theorem L_279 : Dc code 279 (.ireturn) 1 280 := ⟨at_279, rfl⟩
theorem L_245 : Dc code 245 (.aload 15) 2 247 := ⟨at_245, rfl⟩
theorem L_247 : Dc code 247 (.astore 18) 2 249 := ⟨at_247, rfl⟩
theorem L_249 : Dc code 249 (.iconst 0) 1 250 := ⟨at_249, rfl⟩
theorem L_250 : Dc code 250 (.istore 19) 2 252 := ⟨at_250, rfl⟩
theorem L_252 : Db code 252 (.goto 10) (10) 255 262 := ⟨at_252, rfl, by decide, by decide⟩
theorem L_230 : Dc code 230 (.aconst_null) 1 231 := ⟨at_230, rfl⟩
theorem L_231 : Dc code 231 (.astore 18) 2 233 := ⟨at_231, rfl⟩
theorem L_233 : Dc code 233 (.iconst 0) 1 234 := ⟨at_233, rfl⟩
theorem L_234 : Dc code 234 (.istore 19) 2 236 := ⟨at_234, rfl⟩
theorem L_236 : Db code 236 (.goto 26) (26) 239 262 := ⟨at_236, rfl, by decide, by decide⟩
theorem L_185 : Dc code 185 (.aload 17) 2 187 := ⟨at_185, rfl⟩
theorem L_187 : Dc code 187 (.astore 18) 2 189 := ⟨at_187, rfl⟩
theorem L_189 : Dc code 189 (.iload 8) 2 191 := ⟨at_189, rfl⟩
theorem L_191 : Dc code 191 (.iload 9) 2 193 := ⟨at_191, rfl⟩
theorem L_193 : Dc code 193 (.iload 10) 2 195 := ⟨at_193, rfl⟩
theorem L_195 : Dc code 195 (.iload 11) 2 197 := ⟨at_195, rfl⟩
theorem L_197 : Dc code 197 (.iload 12) 2 199 := ⟨at_197, rfl⟩
theorem L_199 : Dc code 199 (.iload 13) 2 201 := ⟨at_199, rfl⟩
theorem L_201 : Dc code 201 (.invokestatic 32) 3 204 := ⟨at_201, rfl⟩
theorem L_204 : Db code 204 (.ifCond .eq 14) (14) 207 218 := ⟨at_204, rfl, by decide, by decide⟩
theorem L_207 : Dc code 207 (.aload 6) 2 209 := ⟨at_207, rfl⟩
theorem L_209 : Dc code 209 (.aload 7) 2 211 := ⟨at_209, rfl⟩
theorem L_211 : Db code 211 (.if_acmp .ne 7) (7) 214 218 := ⟨at_211, rfl, by decide, by decide⟩
theorem L_218 : Dc code 218 (.iconst 0) 1 219 := ⟨at_218, rfl⟩
theorem L_219 : Dc code 219 (.istore 19) 2 221 := ⟨at_219, rfl⟩
theorem L_221 : Db code 221 (.goto 41) (41) 224 262 := ⟨at_221, rfl, by decide, by decide⟩
theorem L_214 : Dc code 214 (.iconst 1) 1 215 := ⟨at_214, rfl⟩
theorem L_215 : Db code 215 (.goto 4) (4) 218 219 := ⟨at_215, rfl, by decide, by decide⟩
theorem L_84 : Dc code 84 (.iload 4) 2 86 := ⟨at_84, rfl⟩
theorem L_86 : Db code 86 (.ifCond .eq 18) (18) 89 104 := ⟨at_86, rfl, by decide, by decide⟩
theorem L_104 : Dc code 104 (.iload_n 2) 1 105 := ⟨at_104, rfl⟩
theorem L_105 : Dc code 105 (.iconst 2) 1 106 := ⟨at_105, rfl⟩
theorem L_106 : Dc code 106 (.iushr) 1 107 := ⟨at_106, rfl⟩
theorem L_107 : Dc code 107 (.iconst 3) 1 108 := ⟨at_107, rfl⟩
theorem L_108 : Dc code 108 (.iand) 1 109 := ⟨at_108, rfl⟩
theorem L_109 : Dc code 109 (.iconst 3) 1 110 := ⟨at_109, rfl⟩
theorem L_110 : Dc code 110 (.irem) 1 111 := ⟨at_110, rfl⟩
theorem L_111 : Dc code 111 (.istore 11) 2 113 := ⟨at_111, rfl⟩
theorem L_113 : Dc code 113 (.iload_n 1) 1 114 := ⟨at_113, rfl⟩
theorem L_114 : Dc code 114 (.sipush 255) 3 117 := ⟨at_114, rfl⟩
theorem L_117 : Dc code 117 (.iand) 1 118 := ⟨at_117, rfl⟩
theorem L_118 : Dc code 118 (.i2c) 1 119 := ⟨at_118, rfl⟩
theorem L_119 : Dc code 119 (.istore 12) 2 121 := ⟨at_119, rfl⟩
theorem L_121 : Dc code 121 (.iload_n 1) 1 122 := ⟨at_121, rfl⟩
theorem L_122 : Dc code 122 (.bipush 8) 2 124 := ⟨at_122, rfl⟩
theorem L_124 : Dc code 124 (.iushr) 1 125 := ⟨at_124, rfl⟩
theorem L_125 : Dc code 125 (.sipush 255) 3 128 := ⟨at_125, rfl⟩
theorem L_128 : Dc code 128 (.iand) 1 129 := ⟨at_128, rfl⟩
theorem L_129 : Dc code 129 (.i2c) 1 130 := ⟨at_129, rfl⟩
theorem L_130 : Dc code 130 (.istore 13) 2 132 := ⟨at_130, rfl⟩
theorem L_89 : Dc code 89 (.iload 8) 2 91 := ⟨at_89, rfl⟩
theorem L_91 : Dc code 91 (.istore 11) 2 93 := ⟨at_91, rfl⟩
theorem L_93 : Dc code 93 (.iload 9) 2 95 := ⟨at_93, rfl⟩
theorem L_95 : Dc code 95 (.istore 12) 2 97 := ⟨at_95, rfl⟩
theorem L_97 : Dc code 97 (.iload 10) 2 99 := ⟨at_97, rfl⟩
theorem L_99 : Dc code 99 (.istore 13) 2 101 := ⟨at_99, rfl⟩
theorem L_101 : Db code 101 (.goto 31) (31) 104 132 := ⟨at_101, rfl, by decide, by decide⟩
theorem L_39 : Dc code 39 (.iload_n 3) 1 40 := ⟨at_39, rfl⟩
theorem L_40 : Dc code 40 (.iconst 4) 1 41 := ⟨at_40, rfl⟩
theorem L_41 : Dc code 41 (.iushr) 1 42 := ⟨at_41, rfl⟩
theorem L_42 : Dc code 42 (.iconst 1) 1 43 := ⟨at_42, rfl⟩
theorem L_43 : Dc code 43 (.iand) 1 44 := ⟨at_43, rfl⟩
theorem L_44 : Db code 44 (.ifCond .eq 9) (9) 47 53 := ⟨at_44, rfl, by decide, by decide⟩
theorem L_53 : Dc code 53 (.getstatic 18) 3 56 := ⟨at_53, rfl⟩
theorem L_47 : Dc code 47 (.getstatic 12) 3 50 := ⟨at_47, rfl⟩
theorem L_50 : Db code 50 (.goto 6) (6) 53 56 := ⟨at_50, rfl, by decide, by decide⟩
theorem L_20 : Dc code 20 (.iload_n 3) 1 21 := ⟨at_20, rfl⟩
theorem L_21 : Dc code 21 (.iconst 3) 1 22 := ⟨at_21, rfl⟩
theorem L_22 : Dc code 22 (.iushr) 1 23 := ⟨at_22, rfl⟩
theorem L_23 : Dc code 23 (.iconst 1) 1 24 := ⟨at_23, rfl⟩
theorem L_24 : Dc code 24 (.iand) 1 25 := ⟨at_24, rfl⟩
theorem L_25 : Db code 25 (.ifCond .eq 9) (9) 28 34 := ⟨at_25, rfl, by decide, by decide⟩
theorem L_34 : Dc code 34 (.getstatic 18) 3 37 := ⟨at_34, rfl⟩
theorem L_28 : Dc code 28 (.getstatic 12) 3 31 := ⟨at_28, rfl⟩
theorem L_31 : Db code 31 (.goto 6) (6) 34 37 := ⟨at_31, rfl, by decide, by decide⟩
theorem L_0 : Dc code 0 (.iload_n 3) 1 1 := ⟨at_0, rfl⟩
theorem L_1 : Dc code 1 (.iconst 1) 1 2 := ⟨at_1, rfl⟩
theorem L_2 : Dc code 2 (.iand) 1 3 := ⟨at_2, rfl⟩
theorem L_3 : Db code 3 (.ifCond .eq 7) (7) 6 10 := ⟨at_3, rfl, by decide, by decide⟩
theorem L_10 : Dc code 10 (.iconst 0) 1 11 := ⟨at_10, rfl⟩
theorem L_6 : Dc code 6 (.iconst 1) 1 7 := ⟨at_6, rfl⟩
theorem L_7 : Db code 7 (.goto 4) (4) 10 11 := ⟨at_7, rfl, by decide, by decide⟩
theorem pd0 : parseMethodDescriptor "([CIILjava/lang/Void;)V" = some ⟨[(.array .char), .int, .int, (.object "java/lang/Void")], none⟩ := by decide +kernel
theorem pd1 : parseMethodDescriptor "([C)V" = some ⟨[(.array .char)], none⟩ := by decide +kernel
theorem pd2 : parseMethodDescriptor "()V" = some ⟨[], none⟩ := by decide +kernel
theorem pd3 : parseMethodDescriptor "(Ljava/lang/Object;)Z" = some ⟨[(.object "java/lang/Object")], some .boolean⟩ := by decide +kernel
theorem pd4 : parseMethodDescriptor "(ICC)Ljava/lang/String;" = some ⟨[.int, .char, .char], some (.object "java/lang/String")⟩ := by decide +kernel
theorem pd5 : parseMethodDescriptor "(Ljava/lang/String;Lcom/example/siloledger/siloledger/delivery/Account;)V" = some ⟨[(.object "java/lang/String"), (.object "com/example/siloledger/siloledger/delivery/Account")], none⟩ := by decide +kernel
theorem pd6 : parseMethodDescriptor "(ICCICC)Z" = some ⟨[.int, .char, .char, .int, .char, .char], some .boolean⟩ := by decide +kernel
theorem pn0 : plainName "java/lang/String" = true := by first | (simp [plainName, overriddenIn]; done) | decide +kernel
theorem pn1 : plainName "com/example/siloledger/siloledger/delivery/PartyEqualsPinLaw" = true := by first | (simp [plainName, overriddenIn]; done) | decide +kernel
theorem pn2 : plainName "java/lang/Record" = true := by first | (simp [plainName, overriddenIn]; done) | decide +kernel
theorem pn3 : plainName "com/example/siloledger/siloledger/delivery/Party" = true := by first | (simp [plainName, overriddenIn]; done) | decide +kernel
def StrL (Z : State) (h : Heap) (x : Addr) (cs : List Int32) : Prop := ∃ (t : Addr) (kb : ClassId), Exa Z h x "java/lang/String" ∧ Fld Z h x "java/lang/String" "coder" "B" (.int 0) ∧ Fld Z h x "java/lang/String" "value" "[B" (.ref t) ∧ Arv Z h t kb .byte (Int32.ofNat cs.length) ((cs.map StrChars.lo8).map Value.int) (.int 0) ∧ (∀ c ∈ cs, ¬ c < 0 ∧ ¬ (255 : Int32) < c) ∧ cs.length ≤ 4000
theorem StrL.ext {Z : State} {h h' : Heap} {x : Addr} {cs : List Int32} (E : Ext h h') (S : StrL Z h x cs) : StrL Z h' x cs := by
  obtain ⟨t, kb, a, b, c, d, e, f⟩ := S
  exact ⟨t, kb, a.ext E, b.ext E, c.ext E, d.ext E, e, f⟩
theorem StrL.exa {Z : State} {h : Heap} {x : Addr} {cs : List Int32} (S : StrL Z h x cs) : Exa Z h x "java/lang/String" := by obtain ⟨t, kb, a, -⟩ := S; exact a
theorem StrL.up {Z : State} {h : Heap} {x : Addr} {cs : List Int32} (S : StrL Z h x cs) : ∀ c ∈ cs, ¬ c < 0 ∧ ¬ (65535 : Int32) < c := by obtain ⟨t, kb, -, -, -, -, e, -⟩ := S; exact fun c hc => ⟨(e c hc).1, ch_up (e c hc).2⟩

theorem hws_new {Z : State} {a0 : Array Value} (hw : ∀ d ∈ tables_1, d.before a0 Z = true) : ∀ d ∈ StrChars.Road.words, d.before a0 Z = true := fun d hd => hw d ((by decide +kernel : ∀ d ∈ StrChars.Road.words, d ∈ tables_1) d hd)

theorem hws_eq {Z : State} {a0 : Array Value} (hw : ∀ d ∈ tables_1, d.before a0 Z = true) : ∀ d ∈ StrChars.Road.wordsEq, d.before a0 Z = true := fun d hd => hw d ((by decide +kernel : ∀ d ∈ StrChars.Road.wordsEq, d ∈ tables_1) d hd)

theorem hsA {Z : State} {a0 : Array Value} (hw : ∀ d ∈ tables_1, d.before a0 Z = true) : ∀ d ∈ Bundle.stringAtoms, d.before a0 Z = true := fun d hd => hw d ((by decide +kernel : ∀ d ∈ Bundle.stringAtoms, d ∈ tables_1) d hd)

theorem cal_strN {md : Option EList} {p : Program} {l : Launch} {e : Env} {R : Room} {args : Array Value} {below : List Frame} {W : Nat} {Z : State} {a0 : Array Value} {h : Heap} {n0 : Nat} (hw : ∀ d ∈ tables_1, d.before a0 Z = true) {x b : Addr} {kC : ClassId} {cs : List Int32} {d v0 c0 : Value} {z : Int32} (n : Nat)
    (hx0 : n0 ≤ x) (hh0 : n0 ≤ h.size) (E : Exa Z h x "java/lang/String") (V : Fld Z h x "java/lang/String" "value" "[B" v0) (C : Fld Z h x "java/lang/String" "coder" "B" c0) (K : Arv Z h b kC .char (Int32.ofNat n) (cs.map Value.int) d) (S : Sta Z h "java/lang/String" "COMPACT_STRINGS" "Z" (.int z)) (hz : ¬ z = 0)
    (hn : cs.length = n) (l0 : 0 < n) (l2 : n ≤ 4000) (hp : ∀ c ∈ cs, ¬ c < 0 ∧ ¬ (255 : Int32) < c) (hfr : 4 ≤ R.frames) (hlo : W + 65 ≤ R.locals) :
    Cal md l R p e below args (⟨"java/lang/String", "<init>", "([C)V"⟩ : MethodName) 3 W Z n0 h [x] #[.ref x, .ref b] 1 n (fun v h' => v = none ∧ StrL Z h' x cs) :=
  Cal.ofBack (fun s' hZ => StrChars.Road.backV (W := W) hZ (hws_new hw) (kI := 4) (hw _ (List.mem_of_getElem? (i := 8) rfl)) (cs := cs) (bs := cs.map fun c => c.toInt8.toInt32) (n := n) (n0 := n0) hx0 hh0 E V C K S hz hn rfl l0 l2 hp rfl hfr hlo)
    (fun v h' L q => by
      obtain ⟨q1, q2, q3, q4, q5, t, kb, q6, q7, q8, q9, q10⟩ := q
      subst hn
      exact ⟨⟨q1, t, kb, q4, q5, q9, q10, hp, l2⟩, q3, q2⟩)

theorem cal_eq {md : Option EList} {p : Program} {l : Launch} {e : Env} {R : Room} {args : Array Value} {below : List Frame} {W : Nat} {Z : State} {a0 : Array Value} {h : Heap} {n0 : Nat} (hw : ∀ d ∈ tables_1, d.before a0 Z = true) {x y : Addr} {cs ds : List Int32} {z : Int32} (A : StrL Z h x cs) (B : StrL Z h y ds) (S : Sta Z h "java/lang/String" "COMPACT_STRINGS" "Z" (.int z)) (hz : ¬ z = 0) (hfr : 2 ≤ R.frames) (hlo : W + 28 ≤ R.locals) :
    Cal md l R p e below args (⟨"java/lang/String", "equals", "(Ljava/lang/Object;)Z"⟩ : MethodName) 3 W Z n0 h [] #[.ref x, .ref y] 0 0 (fun v h' => (v = some (.int 1) ∧ cs = ds) ∨ (v = some (.int 0) ∧ ¬ cs = ds)) := by
  have u1 := A.up
  have u2 := B.up
  obtain ⟨t, kb, a1, a2, a3, a4, a5, a6⟩ := A
  obtain ⟨t', kb', b1, b2, b3, b4, b5, b6⟩ := B
  refine Cal.ofBack (Q := fun v h' L => ((v = some (.int 1) ∧ cs = ds) ∨ (v = some (.int 0) ∧ ¬ cs = ds)) ∧ L = [] ∧ h' = h) (fun s' hZ => StrChars.Road.eqW (W := W) hZ (hws_eq hw) (kI := 4) (hw _ (List.mem_of_getElem? (i := 8) rfl)) a1 a3 a2 a4 (StrChars.Road.codOf rfl fun c hc => (a5 c hc).2) u1 a6 b1 b3 b2 b4 (StrChars.Road.codOf rfl fun c hc => (b5 c hc).2) u2 b6 S hz hfr hlo) (fun v h' L q => ?_)
  obtain ⟨q1, rfl, rfl⟩ := q
  exact ⟨q1, Keep.refl _ _, Fr.nil _⟩

set_option maxRecDepth 65536 in
set_option maxHeartbeats 40000000 in
theorem c_initE4 (l : Launch) (Z : State) (a0 : Array Value) (hw : ∀ d ∈ tables_1, d.before a0 Z = true) (h0 : Heap) (n0 : Nat) (Z0 : n0 ≤ h0.size) (x b : Addr) (v1 v2 : Value) (gx : n0 ≤ x) (Ex : Exa Z h0 x "java/lang/String") (F1 : Fld Z h0 x "java/lang/String" "value" "[B" v1) (F2 : Fld Z h0 x "java/lang/String" "coder" "B" v2) (hE : EW Z a0 [("java/lang/String", 7)]) :
    Con (some [("java/lang/String", 7)]) l (⟨"java/lang/String", "<init>", "([CIILjava/lang/Void;)V"⟩ : MethodName) jdk_42_method_149_code 6 none [] ({ frames := 1, cells := 4, slots := 8, locals := 12 } : Room) Z n0 h0 [x] #[(.ref x), (.ref b), (.int (0 : Int32)), (.int (0 : Int32)), .null] (fun v h => v = none ∧ StrL Z h x []) := by
  refine Con.intro pn0 Z0 (allS ⟨gx, Ex.lt⟩ all0) ⟨a0, hE⟩ #[.val (.ref x), .val (.ref b), .val (.int (0 : Int32)), .val (.int (0 : Int32)), .val .null, .unset] (fun m => by first | (simp [entryFrame, mkF, argsToLocals, Value.category]; done) | rfl) ?_
  intro p e s m below meth c T0 hlk hret hnm K0
  have P0 := Keep.refl h0 [x]
  refine gAloadN K0 b2_0 (v := (.ref x)) rfl rfl ?_
  refine gInitO K0 b2_1 (hw _ (List.mem_of_getElem? (i := 18) rfl)) (hw _ (List.mem_of_getElem? (i := 19) rfl)) (hw _ (List.mem_of_getElem? (i := 20) rfl)) rfl (by decide) (W := 0) (Nat.le_of_eq rfl) (by decide) (fun T101 K101 => ?_)
  refine gIloadN K101 b2_4 (v := (0 : Int32)) rfl ?_
  refine gIf_ne K101 b2_5 (fun q => absurd q (by first | decide | (intro hh; cases hh) | simp)) (fun q5 => ?_)
  refine gAloadN K101 b2_8 (v := (.ref x)) rfl rfl ?_
  refine gLdc K101 b2_9 (hw _ (List.mem_of_getElem? (i := 75) rfl)) (hsA hw) (by decide) (vs := []) (z := 0) (by decide) (by decide) (by decide) 0 (by decide) (by decide) (by decide) (by decide) (fun T102 h102 a102 b102 kA102 K102 E102 Ea102 Fc102 Fv102 Ab102 ne102 => ?_)
  have P103 := P0.ext E102
  refine gGet K102 b2_11 (hw _ (List.mem_of_getElem? (i := 35) rfl)) Fv102 (fun T104 K104 => ?_)
  refine gPut K104 b2_14 (hw _ (List.mem_of_getElem? (i := 35) rfl)) (List.mem_of_getElem? (i := 0) rfl) (F1.ext E102) (Ex.ext E102) (Or.inr ⟨(hw _ (List.mem_of_getElem? (i := 36) rfl)), rfl, hnm⟩) (hw _ (List.mem_of_getElem? (i := 8) rfl)) (ty := (.array .byte)) (by decide) rfl rfl (fun T105 h105 K105 W105 F105 => ?_)
  have P106 := P103.trans (Keep.of_wr W105) (fun z q => by cases List.mem_singleton.mp q; exact Or.inl (List.mem_of_getElem? (i := 0) rfl))
  have F107 := Fld.other W105 (F2.ext E102) (Or.inr (slot_ne (C := "java/lang/String") (a0 := a0) (Or.inr (hw _ (List.mem_of_getElem? (i := 34) rfl))) (Or.inr (hw _ (List.mem_of_getElem? (i := 36) rfl))) (by decide) (by decide : parseFieldDescriptor _ = some .byte) (by decide : parseFieldDescriptor _ = some (.array .byte))))
  have A108 := Exa.wr W105 (Ex.ext E102)
  refine gAloadN K105 b2_17 (v := (.ref x)) rfl rfl ?_
  refine gLdc K105 b2_18 (hw _ (List.mem_of_getElem? (i := 75) rfl)) (hsA hw) (by decide) (vs := []) (z := 0) (by decide) (by decide) (by decide) 0 (by decide) (by decide) (by decide) (by decide) (fun T109 h109 a109 b109 kA109 K109 E109 Ea109 Fc109 Fv109 Ab109 ne109 => ?_)
  have P110 := P106.ext E109
  refine gGet K109 b2_20 (hw _ (List.mem_of_getElem? (i := 33) rfl)) Fc109 (fun T111 K111 => ?_)
  refine gPut K111 b2_23 (hw _ (List.mem_of_getElem? (i := 33) rfl)) (List.mem_of_getElem? (i := 0) rfl) (F107.ext E109) (A108.ext E109) (Or.inr ⟨(hw _ (List.mem_of_getElem? (i := 34) rfl)), rfl, hnm⟩) (hw _ (List.mem_of_getElem? (i := 8) rfl)) (ty := .byte) (by decide) rfl rfl (fun T112 h112 K112 W112 F112 => ?_)
  have P113 := P110.trans (Keep.of_wr W112) (fun z q => by cases List.mem_singleton.mp q; exact Or.inl (List.mem_of_getElem? (i := 0) rfl))
  have F114 := Fld.other W112 (F105.ext E109) (Or.inr (slot_ne (C := "java/lang/String") (a0 := a0) (Or.inr (hw _ (List.mem_of_getElem? (i := 36) rfl))) (Or.inr (hw _ (List.mem_of_getElem? (i := 34) rfl))) (by decide) (by decide : parseFieldDescriptor _ = some (.array .byte)) (by decide : parseFieldDescriptor _ = some .byte)))
  have A115 := Exa.wr W112 (A108.ext E109)
  refine gRetV K112 hlk hret b2_26 P113 (by decide) (by decide) ?_
  exact ⟨rfl, b102, _, A115, F112, F114, (((Ab102.keep (Keep.of_wr W105) (ninS (ne102 x (List.mem_of_getElem? (i := 0) rfl)).2.symm nin0)).ext E109).keep (Keep.of_wr W112) (ninS (ne102 x (List.mem_of_getElem? (i := 0) rfl)).2.symm nin0)), (fun _ q => nomatch q), by decide⟩
set_option maxRecDepth 65536 in
set_option maxHeartbeats 40000000 in
theorem c_initE1 (l : Launch) (Z : State) (a0 : Array Value) (hw : ∀ d ∈ tables_1, d.before a0 Z = true) (h0 : Heap) (n0 : Nat) (Z0 : n0 ≤ h0.size) (x b : Addr) (kC : ClassId) (vs : List Value) (dv : Value) (v1 v2 : Value) (gx : n0 ≤ x) (Ex : Exa Z h0 x "java/lang/String") (F1 : Fld Z h0 x "java/lang/String" "value" "[B" v1) (F2 : Fld Z h0 x "java/lang/String" "coder" "B" v2) (Ab : Arv Z h0 b kC .char 0 vs dv) (hE : EW Z a0 [("java/lang/String", 7)]) :
    Con (some [("java/lang/String", 7)]) l (⟨"java/lang/String", "<init>", "([C)V"⟩ : MethodName) jdk_42_method_3_code 2 none [] ({ frames := 2, cells := 4, slots := 8, locals := 29 } : Room) Z n0 h0 [x] #[(.ref x), (.ref b)] (fun v h => v = none ∧ StrL Z h x []) := by
  refine Con.intro pn0 Z0 (allS ⟨gx, Ex.lt⟩ all0) ⟨a0, hE⟩ #[.val (.ref x), .val (.ref b)] (fun m => by first | (simp [entryFrame, mkF, argsToLocals, Value.category]; done) | rfl) ?_
  intro p e s m below meth c T0 hlk hret hnm K0
  have P0 := Keep.refl h0 [x]
  refine gAloadN K0 b1_0 (v := (.ref x)) rfl rfl ?_
  refine gAloadN K0 b1_1 (v := (.ref b)) rfl rfl ?_
  refine gIconst K0 (0 : Int32) b1_2 rfl ?_
  refine gAloadN K0 b1_3 (v := (.ref b)) rfl rfl ?_
  refine gLen K0 b1_4 Ab ?_
  refine gNull K0 b1_5 ?_
  refine gCallI K0 (W := 0) x [(.ref b), (.int (0 : Int32)), (.int (0 : Int32)), .null] [] b1_6 rfl (hw _ (List.mem_of_getElem? (i := 14) rfl)) (hw _ (List.mem_of_getElem? (i := 15) rfl)) (hw _ (List.mem_of_getElem? (i := 17) rfl)) (Cal.ofW (W := 0) (c_initE4 l Z a0 hw h0 n0 K0.n0le x b v1 v2 gx Ex F1 F2 hE) (hw _ (List.mem_of_getElem? (i := 17) rfl)) (hw _ (List.mem_of_getElem? (i := 9) rfl)) (by decide) (by decide)) (fun z q => by cases List.mem_singleton.mp q; exact (List.mem_of_getElem? (i := 0) rfl)) pd0 rfl rfl (Nat.le_of_eq rfl) rfl (by decide) (by decide) (by decide) (fun v101 T101 h101 K101 Q101 q101 => ?_)
  have P102 := P0.trans Q101 (fun z q => by cases List.mem_singleton.mp q; exact Or.inl (List.mem_of_getElem? (i := 0) rfl))
  obtain ⟨rfl, St101⟩ := q101
  refine gRetV K101 hlk hret b1_9 P102 (by decide) (by decide) ?_
  exact ⟨rfl, St101⟩
theorem cal_str {p : Program} {l : Launch} {e : Env} {R : Room} {args : Array Value} {below : List Frame} {W : Nat} {Z : State} {a0 : Array Value} {h : Heap} {n0 : Nat} (hw : ∀ d ∈ tables_1, d.before a0 Z = true) (hE : EW Z a0 [("java/lang/String", 7)]) {x b : Addr} {kC : ClassId} {cs : List Int32} {d v0 c0 : Value} {z : Int32} (n : Nat)
    (hx0 : n0 ≤ x) (hh0 : n0 ≤ h.size) (E : Exa Z h x "java/lang/String") (V : Fld Z h x "java/lang/String" "value" "[B" v0) (C : Fld Z h x "java/lang/String" "coder" "B" c0) (K : Arv Z h b kC .char (Int32.ofNat n) (cs.map Value.int) d) (S : Sta Z h "java/lang/String" "COMPACT_STRINGS" "Z" (.int z)) (hz : ¬ z = 0)
    (hn : cs.length = n) (l2 : n ≤ 4000) (hp : ∀ c ∈ cs, ¬ c < 0 ∧ ¬ (255 : Int32) < c) (hfr : 4 ≤ R.frames) (hlo : W + 65 ≤ R.locals) (ks : Nat) (hk1 : n ≤ ks) (hk2 : 8 ≤ ks) :
    Cal (some [("java/lang/String", 7)]) l R p e below args (⟨"java/lang/String", "<init>", "([C)V"⟩ : MethodName) 3 W Z n0 h [x] #[.ref x, .ref b] 4 ks (fun v h' => v = none ∧ StrL Z h' x cs) := by
  by_cases h0 : n = 0
  · subst h0
    obtain rfl : cs = [] := List.length_eq_zero_iff.mp hn
    exact Cal.mono (Cal.ofW (W := W) (c_initE1 l Z a0 hw h n0 hh0 x b kC _ d v0 c0 hx0 E V C K hE) (hw _ (List.mem_of_getElem? (i := 13) rfl)) (hw _ (List.mem_of_getElem? (i := 9) rfl)) (Nat.le_trans (by decide) hfr) (Nat.le_trans (show W + (2 + 11) + 29 ≤ W + 65 by omega) hlo)) (by decide) hk2 (fun _ _ q => q)
  · exact Cal.mono (cal_strN hw n hx0 hh0 E V C K S hz hn (Nat.pos_of_ne_zero h0) l2 hp hfr hlo) (by decide) hk1 (fun _ _ q => q)

def mk2 (l c0 c1 : Int32) : List Int32 := if l = 0 then [] else if l = 1 then [c0] else [c0, c1]
theorem mk2_0 (a b : Int32) : mk2 0 a b = [] := rfl
theorem mk2_1 (a b : Int32) : mk2 1 a b = [a] := rfl
theorem mk2_2 (a b : Int32) : mk2 2 a b = [a, b] := rfl
theorem three {l : Int32} (h : ¬ l < 0 ∧ ¬ (2 : Int32) < l) : l = 0 ∨ l = 1 ∨ l = 2 := by
  have a1 := i_nlt h.1
  have a2 := i_nlt h.2
  have e0 : (0 : Int32).toInt = 0 := by decide
  have e2 : (2 : Int32).toInt = 2 := by decide
  have e1 : (1 : Int32).toInt = 1 := by decide
  have : l.toInt = 0 ∨ l.toInt = 1 ∨ l.toInt = 2 := by omega
  rcases this with q | q | q
  · exact Or.inl (i_eq (by rw [q, e0]))
  · exact Or.inr (Or.inl (i_eq (by rw [q, e1])))
  · exact Or.inr (Or.inr (i_eq (by rw [q, e2])))
theorem sc_len {lA lB x0 x1 y0 y1 : Int32} (hA : ¬ lA < 0 ∧ ¬ (2 : Int32) < lA) (hB : ¬ lB < 0 ∧ ¬ (2 : Int32) < lB) (h : ¬ lA = lB) : ¬ mk2 lA x0 x1 = mk2 lB y0 y1 := by
  rcases three hA with rfl | rfl | rfl <;> rcases three hB with rfl | rfl | rfl <;> first | (exact absurd rfl h) | (simp only [mk2_0, mk2_1, mk2_2]; simp)
theorem sc_0 {l x0 x1 y0 y1 : Int32} (hA : ¬ l < 0 ∧ ¬ (2 : Int32) < l) (h1 : ¬ l < 1) (h : ¬ x0 = y0) : ¬ mk2 l x0 x1 = mk2 l y0 y1 := by
  rcases three hA with rfl | rfl | rfl
  · exact absurd (by decide) h1
  · simp only [mk2_1]; simp [h]
  · simp only [mk2_2]; simp [h]
theorem sc_1 {l x0 x1 y0 y1 : Int32} (hA : ¬ l < 0 ∧ ¬ (2 : Int32) < l) (h1 : ¬ l < 2) (h : ¬ x1 = y1) : ¬ mk2 l x0 x1 = mk2 l y0 y1 := by
  rcases three hA with rfl | rfl | rfl
  · exact absurd (by decide) h1
  · exact absurd (by decide) h1
  · simp only [mk2_2]; simp [h]
theorem sc_ok {l x0 x1 y0 y1 : Int32} (hA : ¬ l < 0 ∧ ¬ (2 : Int32) < l) (h1 : l < 1 ∨ x0 = y0) (h2 : l < 2 ∨ x1 = y1) : mk2 l x0 x1 = mk2 l y0 y1 := by
  rcases three hA with rfl | rfl | rfl
  · rfl
  · rcases h1 with h1 | h1
    · exact absurd h1 (by decide)
    · simp only [mk2_1]; rw [h1]
  · rcases h1 with h1 | h1
    · exact absurd h1 (by decide)
    · rcases h2 with h2 | h2
      · exact absurd h2 (by decide)
      · simp only [mk2_2]; rw [h1, h2]
theorem len3 (x : Int32) : ¬ ((x &&& 3) % 3) < 0 ∧ ¬ (2 : Int32) < ((x &&& 3) % 3) := by
  have h1 := c_and x 3 (by decide)
  have h2 := c_irem (x &&& 3) 3 3 (by decide)
  rw [Int32.lt_iff_toInt_lt, Int32.lt_iff_toInt_lt]
  have e1 : (3 : Int32).toInt = 3 := by decide
  have e2 : (0 : Int32).toInt = 0 := by decide
  have e3 : (2 : Int32).toInt = 2 := by decide
  have := h2.1 (by omega)
  omega

theorem mk2_of2 {l a b : Int32} (h : ¬ l = 0) (h1 : ¬ l = 1) : mk2 l a b = [a, b] := by unfold mk2; rw [if_neg h, if_neg h1]
set_option maxRecDepth 65536 in
set_option maxHeartbeats 40000000 in
theorem c_make (l : Launch) (Z : State) (a0 : Array Value) (hw : ∀ d ∈ tables_1, d.before a0 Z = true) (h0 : Heap) (n0 : Nat) (Z0 : n0 ≤ h0.size) (hE : EW Z a0 [("java/lang/String", 7)]) (ln c0 c1 z : Int32) (h0c : ¬ c0 < 0 ∧ ¬ (255 : Int32) < c0) (h1c : ¬ c1 < 0 ∧ ¬ (255 : Int32) < c1) (Sc : Sta Z h0 "java/lang/String" "COMPACT_STRINGS" "Z" (.int z)) (hz : ¬ z = 0) :
    Con (some [("java/lang/String", 7)]) l (⟨"com/example/siloledger/siloledger/delivery/PartyEqualsPinLaw", "make", "(ICC)Ljava/lang/String;"⟩ : MethodName) method_2_code 3 (some (.object "java/lang/String")) [] ({ frames := 4, cells := 6, slots := 14, locals := 66 } : Room) Z n0 h0 [] #[(.int ln), (.int c0), (.int c1)] (fun v h => ∃ x : Addr, v = some (.ref x) ∧ StrL Z h x (mk2 ln c0 c1)) := by
  refine Con.intro pn1 Z0 (fun _ q => nomatch q) ⟨a0, hE⟩ #[.val (.int ln), .val (.int c0), .val (.int c1)] (fun m => by first | (simp [entryFrame, mkF, argsToLocals, Value.category]; done) | rfl) ?_
  intro p e s m below meth c T0 hlk hret hnm K0
  have P0 := Keep.refl h0 []
  refine gIloadN K0 b0_0 (v := ln) rfl ?_
  refine gIf_ne K0 b0_1 (fun q1 => ?_) (fun q1 => ?_)
  · skip
    refine gIloadN K0 b0_15 (v := ln) rfl ?_
    refine gIconst K0 (1 : Int32) b0_16 rfl ?_
    refine gIcmp_ne K0 b0_17 (fun q17 => ?_) (fun q17 => ?_)
    · skip
      refine gNew K0 b0_35 (hw _ (List.mem_of_getElem? (i := 7) rfl)) (hw _ (List.mem_of_getElem? (i := 8) rfl)) (hw _ (List.mem_of_getElem? (i := 9) rfl)) (by decide) (by decide) (fun T101 h101 x101 K101 E101 g101 A101 D101 ne101 => ?_)
      have P102 := P0.ext E101
      have ge_x101 : h0.size ≤ x101 := by rw [g101]; exact P0.1
      have F103 : Fld Z h101 x101 "java/lang/String" "value" "[B" .null := (D101 (Or.inr (hw _ (List.mem_of_getElem? (i := 36) rfl))) (ty := (.array .byte)) (by decide))
      have F104 : Fld Z h101 x101 "java/lang/String" "coder" "B" (.int (0 : Int32)) := (D101 (Or.inr (hw _ (List.mem_of_getElem? (i := 34) rfl))) (ty := .byte) (by decide))
      refine gDup K101 b0_38 rfl ?_
      refine gIconst K101 (2 : Int32) b0_39 rfl ?_
      refine gNewarr K101 b0_40 (hw _ (List.mem_of_getElem? (i := 10) rfl)) (by decide) 2 (by decide) (by decide) (by decide) (by decide) (fun T105 h105 x105 kA105 K105 E105 g105 A105 ne105 => ?_)
      have P106 := P102.ext E105
      have ge_x105 : h0.size ≤ x105 := by rw [g105]; exact P102.1
      refine gDup K105 b0_42 rfl ?_
      refine gIconst K105 (0 : Int32) b0_43 rfl ?_
      refine gIloadN K105 b0_44 (v := c0) rfl ?_
      refine gCastore K105 b0_45 (List.mem_of_getElem? (i := 0) rfl) A105 rfl (by decide) h0c.1 (ch_up h0c.2) (fun T107 h107 K107 Q107 A107 => ?_)
      have P108 := P106.trans Q107 (fun z q => by cases List.mem_singleton.mp q; exact Or.inr ge_x105)
      refine gDup K107 b0_46 rfl ?_
      refine gIconst K107 (1 : Int32) b0_47 rfl ?_
      refine gIloadN K107 b0_48 (v := c1) rfl ?_
      refine gCastore K107 b0_49 (List.mem_of_getElem? (i := 0) rfl) A107 rfl (by decide) h1c.1 (ch_up h1c.2) (fun T109 h109 K109 Q109 A109 => ?_)
      have P110 := P108.trans Q109 (fun z q => by cases List.mem_singleton.mp q; exact Or.inr ge_x105)
      refine gCallI K109 (W := 1) x101 [(.ref x105)] [(.ref x101)] b0_50 rfl (hw _ (List.mem_of_getElem? (i := 11) rfl)) (hw _ (List.mem_of_getElem? (i := 12) rfl)) (hw _ (List.mem_of_getElem? (i := 13) rfl)) (cal_str hw hE (W := 1) (cs := [c0, c1]) 2 (K109.wsge (List.mem_of_getElem? (i := 1) rfl)) K109.n0le (A101.ext (Ext.kp1 (Ext.kp1 E105 Q107 (Nat.le_of_eq g105.symm)) Q109 (Nat.le_of_eq g105.symm))) (F103.ext (Ext.kp1 (Ext.kp1 E105 Q107 (Nat.le_of_eq g105.symm)) Q109 (Nat.le_of_eq g105.symm))) (F104.ext (Ext.kp1 (Ext.kp1 E105 Q107 (Nat.le_of_eq g105.symm)) Q109 (Nat.le_of_eq g105.symm))) A109 (Sc.ext (Ext.kp1 (Ext.kp1 (Ext.tr E101 E105) Q107 (Nat.le_trans E101.1 (Nat.le_of_eq g105.symm))) Q109 (Nat.le_trans E101.1 (Nat.le_of_eq g105.symm)))) hz rfl (by decide) (allI h0c (allI h1c allI0)) (by decide) (by decide) 8 (by decide) (by decide)) (fun z q => by cases List.mem_singleton.mp q; exact (List.mem_of_getElem? (i := 1) rfl)) pd1 rfl rfl (Nat.le_of_eq rfl) rfl (by decide) (by decide) (by decide) (fun v111 T111 h111 K111 Q111 q111 => ?_)
      have P112 := P110.trans Q111 (fun z q => by cases List.mem_singleton.mp q; exact Or.inr ge_x101)
      obtain ⟨rfl, St111⟩ := q111
      refine gRetA K111 hlk hret rfl rfl b0_53 P112 (by decide) (by decide) ?_
      exact ⟨_, rfl, by rw [show mk2 ln c0 c1 = [c0, c1] from by exact mk2_of2 q1 q17]; exact St111⟩
    · skip
      refine gNew K0 b0_20 (hw _ (List.mem_of_getElem? (i := 7) rfl)) (hw _ (List.mem_of_getElem? (i := 8) rfl)) (hw _ (List.mem_of_getElem? (i := 9) rfl)) (by decide) (by decide) (fun T113 h113 x113 K113 E113 g113 A113 D113 ne113 => ?_)
      have P114 := P0.ext E113
      have ge_x113 : h0.size ≤ x113 := by rw [g113]; exact P0.1
      have F115 : Fld Z h113 x113 "java/lang/String" "value" "[B" .null := (D113 (Or.inr (hw _ (List.mem_of_getElem? (i := 36) rfl))) (ty := (.array .byte)) (by decide))
      have F116 : Fld Z h113 x113 "java/lang/String" "coder" "B" (.int (0 : Int32)) := (D113 (Or.inr (hw _ (List.mem_of_getElem? (i := 34) rfl))) (ty := .byte) (by decide))
      refine gDup K113 b0_23 rfl ?_
      refine gIconst K113 (1 : Int32) b0_24 rfl ?_
      refine gNewarr K113 b0_25 (hw _ (List.mem_of_getElem? (i := 10) rfl)) (by decide) 1 (by decide) (by decide) (by decide) (by decide) (fun T117 h117 x117 kA117 K117 E117 g117 A117 ne117 => ?_)
      have P118 := P114.ext E117
      have ge_x117 : h0.size ≤ x117 := by rw [g117]; exact P114.1
      refine gDup K117 b0_27 rfl ?_
      refine gIconst K117 (0 : Int32) b0_28 rfl ?_
      refine gIloadN K117 b0_29 (v := c0) rfl ?_
      refine gCastore K117 b0_30 (List.mem_of_getElem? (i := 0) rfl) A117 rfl (by decide) h0c.1 (ch_up h0c.2) (fun T119 h119 K119 Q119 A119 => ?_)
      have P120 := P118.trans Q119 (fun z q => by cases List.mem_singleton.mp q; exact Or.inr ge_x117)
      refine gCallI K119 (W := 1) x113 [(.ref x117)] [(.ref x113)] b0_31 rfl (hw _ (List.mem_of_getElem? (i := 11) rfl)) (hw _ (List.mem_of_getElem? (i := 12) rfl)) (hw _ (List.mem_of_getElem? (i := 13) rfl)) (cal_str hw hE (W := 1) (cs := [c0]) 1 (K119.wsge (List.mem_of_getElem? (i := 1) rfl)) K119.n0le (A113.ext (Ext.kp1 E117 Q119 (Nat.le_of_eq g117.symm))) (F115.ext (Ext.kp1 E117 Q119 (Nat.le_of_eq g117.symm))) (F116.ext (Ext.kp1 E117 Q119 (Nat.le_of_eq g117.symm))) A119 (Sc.ext (Ext.kp1 (Ext.tr E113 E117) Q119 (Nat.le_trans E113.1 (Nat.le_of_eq g117.symm)))) hz rfl (by decide) (allI h0c allI0) (by decide) (by decide) 8 (by decide) (by decide)) (fun z q => by cases List.mem_singleton.mp q; exact (List.mem_of_getElem? (i := 1) rfl)) pd1 rfl rfl (Nat.le_of_eq rfl) rfl (by decide) (by decide) (by decide) (fun v121 T121 h121 K121 Q121 q121 => ?_)
      have P122 := P120.trans Q121 (fun z q => by cases List.mem_singleton.mp q; exact Or.inr ge_x113)
      obtain ⟨rfl, St121⟩ := q121
      refine gRetA K121 hlk hret rfl rfl b0_34 P122 (by decide) (by decide) ?_
      exact ⟨_, rfl, by rw [show mk2 ln c0 c1 = [c0] from by rw [q17]; exact mk2_1 _ _]; exact St121⟩
  · skip
    refine gNew K0 b0_4 (hw _ (List.mem_of_getElem? (i := 7) rfl)) (hw _ (List.mem_of_getElem? (i := 8) rfl)) (hw _ (List.mem_of_getElem? (i := 9) rfl)) (by decide) (by decide) (fun T123 h123 x123 K123 E123 g123 A123 D123 ne123 => ?_)
    have P124 := P0.ext E123
    have ge_x123 : h0.size ≤ x123 := by rw [g123]; exact P0.1
    have F125 : Fld Z h123 x123 "java/lang/String" "value" "[B" .null := (D123 (Or.inr (hw _ (List.mem_of_getElem? (i := 36) rfl))) (ty := (.array .byte)) (by decide))
    have F126 : Fld Z h123 x123 "java/lang/String" "coder" "B" (.int (0 : Int32)) := (D123 (Or.inr (hw _ (List.mem_of_getElem? (i := 34) rfl))) (ty := .byte) (by decide))
    refine gDup K123 b0_7 rfl ?_
    refine gIconst K123 (0 : Int32) b0_8 rfl ?_
    refine gNewarr K123 b0_9 (hw _ (List.mem_of_getElem? (i := 10) rfl)) (by decide) 0 (by decide) (by decide) (by decide) (by decide) (fun T127 h127 x127 kA127 K127 E127 g127 A127 ne127 => ?_)
    have P128 := P124.ext E127
    have ge_x127 : h0.size ≤ x127 := by rw [g127]; exact P124.1
    refine gCallI K127 (W := 1) x123 [(.ref x127)] [(.ref x123)] b0_11 rfl (hw _ (List.mem_of_getElem? (i := 11) rfl)) (hw _ (List.mem_of_getElem? (i := 12) rfl)) (hw _ (List.mem_of_getElem? (i := 13) rfl)) (cal_str hw hE (W := 1) (cs := []) 0 (K127.wsge (List.mem_of_getElem? (i := 1) rfl)) K127.n0le (A123.ext E127) (F125.ext E127) (F126.ext E127) A127 (Sc.ext (Ext.tr E123 E127)) hz rfl (by decide) allI0 (by decide) (by decide) 8 (by decide) (by decide)) (fun z q => by cases List.mem_singleton.mp q; exact (List.mem_of_getElem? (i := 1) rfl)) pd1 rfl rfl (Nat.le_of_eq rfl) rfl (by decide) (by decide) (by decide) (fun v129 T129 h129 K129 Q129 q129 => ?_)
    have P130 := P128.trans Q129 (fun z q => by cases List.mem_singleton.mp q; exact Or.inr ge_x123)
    obtain ⟨rfl, St129⟩ := q129
    refine gRetA K129 hlk hret rfl rfl b0_14 P130 (by decide) (by decide) ?_
    exact ⟨_, rfl, by rw [show mk2 ln c0 c1 = [] from by rw [q1]; exact mk2_0 _ _]; exact St129⟩
set_option maxRecDepth 65536 in
set_option maxHeartbeats 40000000 in
theorem c_same (l : Launch) (Z : State) (a0 : Array Value) (hw : ∀ d ∈ tables_1, d.before a0 Z = true) (h0 : Heap) (n0 : Nat) (Z0 : n0 ≤ h0.size) (lA x0 x1 lB y0 y1 : Int32) (hA : ¬ lA < 0 ∧ ¬ (2 : Int32) < lA) (hB : ¬ lB < 0 ∧ ¬ (2 : Int32) < lB) :
    Con none l (⟨"com/example/siloledger/siloledger/delivery/PartyEqualsPinLaw", "sameChars", "(ICCICC)Z"⟩ : MethodName) method_3_code 6 (some .boolean) [] ({ frames := 0, cells := 0, slots := 0, locals := 0 } : Room) Z n0 h0 [] #[(.int lA), (.int x0), (.int x1), (.int lB), (.int y0), (.int y1)] (fun v h => v = some (.int (if mk2 lA x0 x1 = mk2 lB y0 y1 then 1 else 0)) ∧ h = h0) := by
  refine Con.intro pn1 Z0 (fun _ q => nomatch q) trivial #[.val (.int lA), .val (.int x0), .val (.int x1), .val (.int lB), .val (.int y0), .val (.int y1)] (fun m => by first | (simp [entryFrame, mkF, argsToLocals, Value.category]; done) | rfl) ?_
  intro p e s m below meth c T0 hlk hret hnm K0
  have P0 := Keep.refl h0 []
  refine gIloadN K0 b9_0 (v := lA) rfl ?_
  refine gIloadN K0 b9_1 (v := lB) rfl ?_
  refine gIcmp_eq K0 b9_2 (fun q2 => ?_) (fun q2 => ?_)
  · skip
    refine gIloadN K0 b9_7 (v := lA) rfl ?_
    refine gIconst K0 (1 : Int32) b9_8 rfl ?_
    refine gIcmp_lt K0 b9_9 (fun q9 => ?_) (fun q9 => ?_)
    · skip
      refine gIloadN K0 b9_20 (v := lA) rfl ?_
      refine gIconst K0 (2 : Int32) b9_21 rfl ?_
      refine gIcmp_lt K0 b9_22 (fun q22 => ?_) (fun q22 => ?_)
      · skip
        refine gIconst K0 (1 : Int32) b9_33 rfl ?_
        subst q2
        refine gRetI K0 hlk hret (by simp) b9_34 rfl P0 (by decide) (by decide) ?_
        exact ⟨by rw [if_pos (sc_ok hA (Or.inl q9) (Or.inl q22))], rfl⟩
      · skip
        refine gIloadN K0 b9_25 (v := x1) rfl ?_
        refine gIload K0 b9_26 (v := y1) rfl ?_
        refine gIcmp_eq K0 b9_28 (fun q28 => ?_) (fun q28 => ?_)
        · skip
          refine gIconst K0 (1 : Int32) b9_33 rfl ?_
          subst q2
          refine gRetI K0 hlk hret (by simp) b9_34 rfl P0 (by decide) (by decide) ?_
          exact ⟨by rw [if_pos (sc_ok hA (Or.inl q9) (Or.inr q28))], rfl⟩
        · skip
          refine gIconst K0 (0 : Int32) b9_31 rfl ?_
          subst q2
          refine gRetI K0 hlk hret (by simp) b9_32 rfl P0 (by decide) (by decide) ?_
          exact ⟨by rw [if_neg (sc_1 hA q22 q28)], rfl⟩
    · skip
      refine gIloadN K0 b9_12 (v := x0) rfl ?_
      refine gIload K0 b9_13 (v := y0) rfl ?_
      refine gIcmp_eq K0 b9_15 (fun q15 => ?_) (fun q15 => ?_)
      · skip
        refine gIloadN K0 b9_20 (v := lA) rfl ?_
        refine gIconst K0 (2 : Int32) b9_21 rfl ?_
        refine gIcmp_lt K0 b9_22 (fun q22 => ?_) (fun q22 => ?_)
        · skip
          refine gIconst K0 (1 : Int32) b9_33 rfl ?_
          subst q2
          refine gRetI K0 hlk hret (by simp) b9_34 rfl P0 (by decide) (by decide) ?_
          exact ⟨by rw [if_pos (sc_ok hA (Or.inr q15) (Or.inl q22))], rfl⟩
        · skip
          refine gIloadN K0 b9_25 (v := x1) rfl ?_
          refine gIload K0 b9_26 (v := y1) rfl ?_
          refine gIcmp_eq K0 b9_28 (fun q28 => ?_) (fun q28 => ?_)
          · skip
            refine gIconst K0 (1 : Int32) b9_33 rfl ?_
            subst q2
            refine gRetI K0 hlk hret (by simp) b9_34 rfl P0 (by decide) (by decide) ?_
            exact ⟨by rw [if_pos (sc_ok hA (Or.inr q15) (Or.inr q28))], rfl⟩
          · skip
            refine gIconst K0 (0 : Int32) b9_31 rfl ?_
            subst q2
            refine gRetI K0 hlk hret (by simp) b9_32 rfl P0 (by decide) (by decide) ?_
            exact ⟨by rw [if_neg (sc_1 hA q22 q28)], rfl⟩
      · skip
        refine gIconst K0 (0 : Int32) b9_18 rfl ?_
        subst q2
        refine gRetI K0 hlk hret (by simp) b9_19 rfl P0 (by decide) (by decide) ?_
        exact ⟨by rw [if_neg (sc_0 hA q9 q15)], rfl⟩
  · skip
    refine gIconst K0 (0 : Int32) b9_5 rfl ?_
    refine gRetI K0 hlk hret (by simp) b9_6 rfl P0 (by decide) (by decide) ?_
    exact ⟨by rw [if_neg (sc_len hA hB q2)], rfl⟩
set_option maxRecDepth 65536 in
set_option maxHeartbeats 40000000 in
theorem c_recInit (l : Launch) (Z : State) (a0 : Array Value) (hw : ∀ d ∈ tables_1, d.before a0 Z = true) (h0 : Heap) (n0 : Nat) (Z0 : n0 ≤ h0.size) (x : Addr) :
    Con none l (⟨"java/lang/Record", "<init>", "()V"⟩ : MethodName) jdk_30_method_1_code 1 none [] ({ frames := 1, cells := 0, slots := 0, locals := 12 } : Room) Z n0 h0 [] #[(.ref x)] (fun v h => v = none ∧ h = h0) := by
  refine Con.intro pn2 Z0 (fun _ q => nomatch q) trivial #[.val (.ref x)] (fun m => by first | (simp [entryFrame, mkF, argsToLocals, Value.category]; done) | rfl) ?_
  intro p e s m below meth c T0 hlk hret hnm K0
  have P0 := Keep.refl h0 []
  refine gAloadN K0 b8_0 (v := (.ref x)) rfl rfl ?_
  refine gInitO K0 b8_1 (hw _ (List.mem_of_getElem? (i := 48) rfl)) (hw _ (List.mem_of_getElem? (i := 19) rfl)) (hw _ (List.mem_of_getElem? (i := 20) rfl)) rfl (by decide) (W := 0) (Nat.le_of_eq rfl) (by decide) (fun T101 K101 => ?_)
  refine gRetV K101 hlk hret b8_4 P0 (by decide) (by decide) ?_
  exact ⟨rfl, rfl⟩
set_option maxRecDepth 65536 in
set_option maxHeartbeats 40000000 in
theorem c_party (l : Launch) (Z : State) (a0 : Array Value) (hw : ∀ d ∈ tables_1, d.before a0 Z = true) (h0 : Heap) (n0 : Nat) (Z0 : n0 ≤ h0.size) (x mm ac : Addr) (v1 v2 : Value) (gx : n0 ≤ x) (Ex : Exa Z h0 x "com/example/siloledger/siloledger/delivery/Party") (F1 : Fld Z h0 x "com/example/siloledger/siloledger/delivery/Party" "member" "Ljava/lang/String;" v1) (F2 : Fld Z h0 x "com/example/siloledger/siloledger/delivery/Party" "account" "Lcom/example/siloledger/siloledger/delivery/Account;" v2) :
    Con none l (⟨"com/example/siloledger/siloledger/delivery/Party", "<init>", "(Ljava/lang/String;Lcom/example/siloledger/siloledger/delivery/Account;)V"⟩ : MethodName) prog_48_method_1_code 3 none [] ({ frames := 2, cells := 0, slots := 0, locals := 24 } : Room) Z n0 h0 [x] #[(.ref x), (.ref mm), (.ref ac)] (fun v h => v = none ∧ Exa Z h x "com/example/siloledger/siloledger/delivery/Party" ∧ Fld Z h x "com/example/siloledger/siloledger/delivery/Party" "member" "Ljava/lang/String;" (.ref mm) ∧ Fld Z h x "com/example/siloledger/siloledger/delivery/Party" "account" "Lcom/example/siloledger/siloledger/delivery/Account;" (.ref ac)) := by
  refine Con.intro pn3 Z0 (allS ⟨gx, Ex.lt⟩ all0) trivial #[.val (.ref x), .val (.ref mm), .val (.ref ac)] (fun m => by first | (simp [entryFrame, mkF, argsToLocals, Value.category]; done) | rfl) ?_
  intro p e s m below meth c T0 hlk hret hnm K0
  have P0 := Keep.refl h0 [x]
  refine gAloadN K0 b7_0 (v := (.ref x)) rfl rfl ?_
  refine gCallI K0 (W := 0) x [] [] b7_1 rfl (hw _ (List.mem_of_getElem? (i := 43) rfl)) (hw _ (List.mem_of_getElem? (i := 44) rfl)) (hw _ (List.mem_of_getElem? (i := 47) rfl)) (Cal.ofN (W := 0) (c_recInit l Z a0 hw h0 n0 K0.n0le x) (hw _ (List.mem_of_getElem? (i := 47) rfl)) (hw _ (List.mem_of_getElem? (i := 46) rfl)) (by decide) (by decide)) (fun _ q => nomatch q) pd2 rfl rfl (Nat.le_of_eq rfl) rfl (by decide) (by decide) (by decide) (fun v101 T101 h101 K101 Q101 q101 => ?_)
  have E101 := Ext.of0 Q101
  have P102 := P0.ext E101
  obtain ⟨rfl, e101⟩ := q101
  refine gAloadN K101 b7_4 (v := (.ref x)) rfl rfl ?_
  refine gAloadN K101 b7_5 (v := (.ref mm)) rfl rfl ?_
  refine gPut K101 b7_6 (hw _ (List.mem_of_getElem? (i := 49) rfl)) (List.mem_of_getElem? (i := 0) rfl) (F1.ext E101) (Ex.ext E101) (Or.inr ⟨(hw _ (List.mem_of_getElem? (i := 50) rfl)), rfl, hnm⟩) (hw _ (List.mem_of_getElem? (i := 38) rfl)) (ty := (.object "java/lang/String")) (by decide) rfl rfl (fun T103 h103 K103 W103 F103 => ?_)
  have P104 := P102.trans (Keep.of_wr W103) (fun z q => by cases List.mem_singleton.mp q; exact Or.inl (List.mem_of_getElem? (i := 0) rfl))
  have F105 := Fld.other W103 (F2.ext E101) (Or.inr (slot_ne (C := "com/example/siloledger/siloledger/delivery/Party") (a0 := a0) (Or.inr (hw _ (List.mem_of_getElem? (i := 52) rfl))) (Or.inr (hw _ (List.mem_of_getElem? (i := 50) rfl))) (by decide) (by decide : parseFieldDescriptor _ = some (.object "com/example/siloledger/siloledger/delivery/Account")) (by decide : parseFieldDescriptor _ = some (.object "java/lang/String"))))
  have A106 := Exa.wr W103 (Ex.ext E101)
  refine gAloadN K103 b7_9 (v := (.ref x)) rfl rfl ?_
  refine gAloadN K103 b7_10 (v := (.ref ac)) rfl rfl ?_
  refine gPut K103 b7_11 (hw _ (List.mem_of_getElem? (i := 51) rfl)) (List.mem_of_getElem? (i := 0) rfl) F105 A106 (Or.inr ⟨(hw _ (List.mem_of_getElem? (i := 52) rfl)), rfl, hnm⟩) (hw _ (List.mem_of_getElem? (i := 38) rfl)) (ty := (.object "com/example/siloledger/siloledger/delivery/Account")) (by decide) rfl rfl (fun T107 h107 K107 W107 F107 => ?_)
  have P108 := P104.trans (Keep.of_wr W107) (fun z q => by cases List.mem_singleton.mp q; exact Or.inl (List.mem_of_getElem? (i := 0) rfl))
  have F109 := Fld.other W107 F103 (Or.inr (slot_ne (C := "com/example/siloledger/siloledger/delivery/Party") (a0 := a0) (Or.inr (hw _ (List.mem_of_getElem? (i := 50) rfl))) (Or.inr (hw _ (List.mem_of_getElem? (i := 52) rfl))) (by decide) (by decide : parseFieldDescriptor _ = some (.object "java/lang/String")) (by decide : parseFieldDescriptor _ = some (.object "com/example/siloledger/siloledger/delivery/Account"))))
  have A110 := Exa.wr W107 A106
  refine gRetV K107 hlk hret b7_14 P108 (by decide) (by decide) ?_
  exact ⟨rfl, A110, F109, F107⟩
set_option maxRecDepth 65536 in
set_option maxHeartbeats 40000000 in
theorem c_eqP (l : Launch) (Z : State) (a0 : Array Value) (hw : ∀ d ∈ tables_1, d.before a0 Z = true) (h0 : Heap) (n0 : Nat) (Z0 : n0 ≤ h0.size) (x y mx my ax ay : Addr) (cs ds : List Int32) (z : Int32) (Ey : Exa Z h0 y "com/example/siloledger/siloledger/delivery/Party") (F1 : Fld Z h0 x "com/example/siloledger/siloledger/delivery/Party" "member" "Ljava/lang/String;" (.ref mx)) (F2 : Fld Z h0 x "com/example/siloledger/siloledger/delivery/Party" "account" "Lcom/example/siloledger/siloledger/delivery/Account;" (.ref ax)) (G1 : Fld Z h0 y "com/example/siloledger/siloledger/delivery/Party" "member" "Ljava/lang/String;" (.ref my)) (G2 : Fld Z h0 y "com/example/siloledger/siloledger/delivery/Party" "account" "Lcom/example/siloledger/siloledger/delivery/Account;" (.ref ay)) (Sx : StrL Z h0 mx cs) (Sy : StrL Z h0 my ds) (Sc : Sta Z h0 "java/lang/String" "COMPACT_STRINGS" "Z" (.int z)) (hz : ¬ z = 0) :
    Con none l (⟨"com/example/siloledger/siloledger/delivery/Party", "equals", "(Ljava/lang/Object;)Z"⟩ : MethodName) prog_48_method_5_code 3 (some .boolean) [] ({ frames := 2, cells := 0, slots := 0, locals := 28 } : Room) Z n0 h0 [] #[(.ref x), (.ref y)] (fun v h => v = some (.int (if cs = ds ∧ ax = ay then 1 else 0))) := by
  refine Con.intro pn3 Z0 (fun _ q => nomatch q) trivial #[.val (.ref x), .val (.ref y), .unset] (fun m => by first | (simp [entryFrame, mkF, argsToLocals, Value.category]; done) | rfl) ?_
  intro p e s m below meth c T0 hlk hret hnm K0
  have P0 := Keep.refl h0 []
  refine gAloadN K0 b10_0 (v := (.ref y)) rfl rfl ?_
  refine gInstY K0 b10_1 (hw _ (List.mem_of_getElem? (i := 61) rfl)) (Ins.self Ey) (fun T101 K101 => ?_)
  refine gIf_eq K101 b10_4 (fun q => absurd q (by first | decide | (intro hh; cases hh) | simp)) (fun q4 => ?_)
  refine gAloadN K101 b10_7 (v := (.ref y)) rfl rfl ?_
  refine gCast K101 b10_8 (hw _ (List.mem_of_getElem? (i := 61) rfl)) (Ins.self Ey) (fun T102 K102 => ?_)
  refine gAstoreN K102 b10_11 rfl (Ls' := #[.val (.ref x), .val (.ref y), .val (.ref y)]) rfl ?_
  refine gAloadN K102 b10_12 (v := (.ref x)) rfl rfl ?_
  refine gGet K102 b10_13 (hw _ (List.mem_of_getElem? (i := 49) rfl)) F1 (fun T103 K103 => ?_)
  refine gAloadN K103 b10_16 (v := (.ref y)) rfl rfl ?_
  refine gGet K103 b10_17 (hw _ (List.mem_of_getElem? (i := 49) rfl)) G1 (fun T104 K104 => ?_)
  refine gCallV K104 (W := 0) (C := "java/lang/String") mx [(.ref my)] [] b10_20 (hw _ (List.mem_of_getElem? (i := 63) rfl)) (hw _ (List.mem_of_getElem? (i := 64) rfl)) (hw _ (List.mem_of_getElem? (i := 66) rfl)) (hw _ (List.mem_of_getElem? (i := 65) rfl)) (cal_eq hw (W := 0) Sx Sy Sc hz (by decide) (by decide)) (Sx).exa (fun _ q => nomatch q) pd3 rfl rfl (Nat.le_of_eq rfl) rfl (by decide) (by decide) (by decide) (fun v105 T105 h105 K105 Q105 q105 => ?_)
  have E105 := Ext.of0 Q105
  have P106 := P0.ext E105
  rcases q105 with ⟨rfl, hcd⟩ | ⟨rfl, hcd⟩
  · skip
    refine gIf_eq K105 b10_23 (fun q => absurd q (by first | decide | (intro hh; cases hh) | simp)) (fun q23 => ?_)
    refine gAloadN K105 b10_26 (v := (.ref x)) rfl rfl ?_
    refine gGet K105 b10_27 (hw _ (List.mem_of_getElem? (i := 51) rfl)) (F2.ext E105) (fun T107 K107 => ?_)
    refine gAloadN K107 b10_30 (v := (.ref y)) rfl rfl ?_
    refine gGet K107 b10_31 (hw _ (List.mem_of_getElem? (i := 51) rfl)) (G2.ext E105) (fun T108 K108 => ?_)
    refine gAcmp_ne K108 b10_34 rfl rfl (fun q34 => ?_) (fun q34 => ?_)
    · skip
      refine gIconst K108 (0 : Int32) b10_41 rfl ?_
      refine gRetI K108 hlk hret (by simp) b10_42 rfl P106 (by decide) (by decide) ?_
      exact congrArg some (congrArg Value.int (if_neg (fun q => q34 (congrArg Value.ref q.2))).symm)
    · skip
      refine gIconst K108 (1 : Int32) b10_37 rfl ?_
      refine gGoto K108 b10_38 ?_
      refine gRetI K108 hlk hret (by simp) b10_42 rfl P106 (by decide) (by decide) ?_
      exact congrArg some (congrArg Value.int (if_pos ⟨hcd, Value.ref.inj q34⟩).symm)
  · skip
    refine gIf_eq K105 b10_23 (fun q23 => ?_) (fun q => absurd q (by first | decide | (intro hh; cases hh) | simp))
    refine gIconst K105 (0 : Int32) b10_41 rfl ?_
    refine gRetI K105 hlk hret (by simp) b10_42 rfl P106 (by decide) (by decide) ?_
    exact congrArg some (congrArg Value.int (if_neg (fun q => hcd q.1)).symm)
set_option maxRecDepth 65536 in
set_option maxHeartbeats 40000000 in
theorem c_eqNull (l : Launch) (Z : State) (a0 : Array Value) (hw : ∀ d ∈ tables_1, d.before a0 Z = true) (h0 : Heap) (n0 : Nat) (Z0 : n0 ≤ h0.size) (x : Addr) :
    Con none l (⟨"com/example/siloledger/siloledger/delivery/Party", "equals", "(Ljava/lang/Object;)Z"⟩ : MethodName) prog_48_method_5_code 3 (some .boolean) [] ({ frames := 0, cells := 0, slots := 0, locals := 0 } : Room) Z n0 h0 [] #[(.ref x), .null] (fun v h => v = some (.int 0)) := by
  refine Con.intro pn3 Z0 (fun _ q => nomatch q) trivial #[.val (.ref x), .val .null, .unset] (fun m => by first | (simp [entryFrame, mkF, argsToLocals, Value.category]; done) | rfl) ?_
  intro p e s m below meth c T0 hlk hret hnm K0
  have P0 := Keep.refl h0 []
  refine gAloadN K0 b10_0 (v := .null) rfl rfl ?_
  refine gInstNull K0 b10_1 ?_
  refine gIf_eq K0 b10_4 (fun q4 => ?_) (fun q => absurd q (by first | decide | (intro hh; cases hh) | simp))
  refine gIconst K0 (0 : Int32) b10_41 rfl ?_
  refine gRetI K0 hlk hret (by simp) b10_42 rfl P0 (by decide) (by decide) ?_
  exact rfl
set_option maxRecDepth 65536 in
set_option maxHeartbeats 40000000 in
theorem c_eqStr (l : Launch) (Z : State) (a0 : Array Value) (hw : ∀ d ∈ tables_1, d.before a0 Z = true) (h0 : Heap) (n0 : Nat) (Z0 : n0 ≤ h0.size) (x y : Addr) (Ey : Exa Z h0 y "java/lang/String") :
    Con none l (⟨"com/example/siloledger/siloledger/delivery/Party", "equals", "(Ljava/lang/Object;)Z"⟩ : MethodName) prog_48_method_5_code 3 (some .boolean) [] ({ frames := 0, cells := 0, slots := 0, locals := 0 } : Room) Z n0 h0 [] #[(.ref x), (.ref y)] (fun v h => v = some (.int 0)) := by
  refine Con.intro pn3 Z0 (fun _ q => nomatch q) trivial #[.val (.ref x), .val (.ref y), .unset] (fun m => by first | (simp [entryFrame, mkF, argsToLocals, Value.category]; done) | rfl) ?_
  intro p e s m below meth c T0 hlk hret hnm K0
  have P0 := Keep.refl h0 []
  refine gAloadN K0 b10_0 (v := (.ref y)) rfl rfl ?_
  refine gInstNo K0 b10_1 (hw _ (List.mem_of_getElem? (i := 61) rfl)) Ey (noCast (hw _ (List.mem_of_getElem? (i := 78) rfl)) (hw _ (List.mem_of_getElem? (i := 79) rfl)) (hw _ (List.mem_of_getElem? (i := 38) rfl)) (by decide) (by decide)) (fun T101 K101 => ?_)
  refine gIf_eq K101 b10_4 (fun q4 => ?_) (fun q => absurd q (by first | decide | (intro hh; cases hh) | simp))
  refine gIconst K101 (0 : Int32) b10_41 rfl ?_
  refine gRetI K101 hlk hret (by simp) b10_42 rfl P0 (by decide) (by decide) ?_
  exact rfl
set_option maxRecDepth 65536 in
set_option maxHeartbeats 40000000 in
theorem c_law (l : Launch) (Z : State) (a0 : Array Value) (hw : ∀ d ∈ tables_1, d.before a0 Z = true) (h0 : Heap) (n0 : Nat) (Z0 : n0 ≤ h0.size) (hE : EW Z a0 [("java/lang/String", 7)]) (a b lens mode z : Int32) (Sc : Sta Z h0 "java/lang/String" "COMPACT_STRINGS" "Z" (.int z)) (hz : ¬ z = 0) (hs cli : Addr) (Sh : Sta Z h0 "com/example/siloledger/siloledger/delivery/Account" "HOUSE" "Lcom/example/siloledger/siloledger/delivery/Account;" (.ref hs)) (Sl : Sta Z h0 "com/example/siloledger/siloledger/delivery/Account" "CLIENT" "Lcom/example/siloledger/siloledger/delivery/Account;" (.ref cli)) :
    Con (some [("java/lang/String", 7)]) l (⟨"com/example/siloledger/siloledger/delivery/PartyEqualsPinLaw", "law", "(IIII)Z"⟩ : MethodName) code maxLocals ret tables_1 room_1 Z n0 h0 [] #[(.int a), (.int b), (.int lens), (.int mode)] (fun v h => v = some (.int 1)) := by
  refine Con.intro pn1 Z0 (fun _ q => nomatch q) ⟨a0, hE⟩ #[.val (.int a), .val (.int b), .val (.int lens), .val (.int mode), .unset, .unset, .unset, .unset, .unset, .unset, .unset, .unset, .unset, .unset, .unset, .unset, .unset, .unset, .unset, .unset] (fun m => by first | (simp [entryFrame, mkF, argsToLocals, Value.category, maxLocals]; done) | rfl) ?_
  intro p e s m below meth c T0 hlk hret hnm K0
  have P0 := Keep.refl h0 []
  have j11 : ∀ (T101 : State) (K101 : Cx p l e room_1 s m #[(.int a), (.int b), (.int lens), (.int mode)] below meth c code maxLocals Z "com/example/siloledger/siloledger/delivery/PartyEqualsPinLaw" n0 (some [("java/lang/String", 7)]) T101 h0 [] 0 0) (cp : Int32), Go p e below (End (some [("java/lang/String", 7)]) s Z n0 h0 [] room_1.cells room_1.slots (fun v h => v = some (.int 1))) T101 (mkF m 11 #[.val (.int a), .val (.int b), .val (.int lens), .val (.int mode), .unset, .unset, .unset, .unset, .unset, .unset, .unset, .unset, .unset, .unset, .unset, .unset, .unset, .unset, .unset, .unset] [(.int cp)]) := by
    intro T101 K101 cp
    refine gIstore K101 L_11 (Ls' := #[.val (.int a), .val (.int b), .val (.int lens), .val (.int mode), .val (.int cp), .unset, .unset, .unset, .unset, .unset, .unset, .unset, .unset, .unset, .unset, .unset, .unset, .unset, .unset, .unset]) rfl ?_
    refine gIloadN K101 L_13 (v := mode) rfl ?_
    refine gIconst K101 (1 : Int32) L_14 rfl ?_
    refine gIushr K101 L_15 ?_
    refine gIconst K101 (3 : Int32) L_16 rfl ?_
    refine gIand K101 L_17 ?_
    refine gIstore K101 L_18 (Ls' := #[.val (.int a), .val (.int b), .val (.int lens), .val (.int mode), .val (.int cp), .val (.int ((XT.ushr mode (1 : Int32)) &&& (3 : Int32))), .unset, .unset, .unset, .unset, .unset, .unset, .unset, .unset, .unset, .unset, .unset, .unset, .unset, .unset]) rfl ?_
    have j37 : ∀ (T102 : State) (K102 : Cx p l e room_1 s m #[(.int a), (.int b), (.int lens), (.int mode)] below meth c code maxLocals Z "com/example/siloledger/siloledger/delivery/PartyEqualsPinLaw" n0 (some [("java/lang/String", 7)]) T102 h0 [] 0 0) (a1 : Addr), Go p e below (End (some [("java/lang/String", 7)]) s Z n0 h0 [] room_1.cells room_1.slots (fun v h => v = some (.int 1))) T102 (mkF m 37 #[.val (.int a), .val (.int b), .val (.int lens), .val (.int mode), .val (.int cp), .val (.int ((XT.ushr mode (1 : Int32)) &&& (3 : Int32))), .unset, .unset, .unset, .unset, .unset, .unset, .unset, .unset, .unset, .unset, .unset, .unset, .unset, .unset] [(.ref a1)]) := by
      intro T102 K102 a1
      refine gAstore K102 L_37 rfl (Ls' := #[.val (.int a), .val (.int b), .val (.int lens), .val (.int mode), .val (.int cp), .val (.int ((XT.ushr mode (1 : Int32)) &&& (3 : Int32))), .val (.ref a1), .unset, .unset, .unset, .unset, .unset, .unset, .unset, .unset, .unset, .unset, .unset, .unset, .unset]) rfl ?_
      have j56 : ∀ (T103 : State) (K103 : Cx p l e room_1 s m #[(.int a), (.int b), (.int lens), (.int mode)] below meth c code maxLocals Z "com/example/siloledger/siloledger/delivery/PartyEqualsPinLaw" n0 (some [("java/lang/String", 7)]) T103 h0 [] 0 0) (a2 : Addr), Go p e below (End (some [("java/lang/String", 7)]) s Z n0 h0 [] room_1.cells room_1.slots (fun v h => v = some (.int 1))) T103 (mkF m 56 #[.val (.int a), .val (.int b), .val (.int lens), .val (.int mode), .val (.int cp), .val (.int ((XT.ushr mode (1 : Int32)) &&& (3 : Int32))), .val (.ref a1), .unset, .unset, .unset, .unset, .unset, .unset, .unset, .unset, .unset, .unset, .unset, .unset, .unset] [(.ref a2)]) := by
        intro T103 K103 a2
        refine gAstore K103 L_56 rfl (Ls' := #[.val (.int a), .val (.int b), .val (.int lens), .val (.int mode), .val (.int cp), .val (.int ((XT.ushr mode (1 : Int32)) &&& (3 : Int32))), .val (.ref a1), .val (.ref a2), .unset, .unset, .unset, .unset, .unset, .unset, .unset, .unset, .unset, .unset, .unset, .unset]) rfl ?_
        refine gIloadN K103 L_58 (v := lens) rfl ?_
        refine gIconst K103 (3 : Int32) L_59 rfl ?_
        refine gIand K103 L_60 ?_
        refine gIconst K103 (3 : Int32) L_61 rfl ?_
        refine gIrem K103 L_62 (by decide) ?_
        have hlA := len3 lens
        generalize ((lens &&& (3 : Int32)) % (3 : Int32)) = lA at hlA ⊢
        refine gIstore K103 L_63 (Ls' := #[.val (.int a), .val (.int b), .val (.int lens), .val (.int mode), .val (.int cp), .val (.int ((XT.ushr mode (1 : Int32)) &&& (3 : Int32))), .val (.ref a1), .val (.ref a2), .val (.int lA), .unset, .unset, .unset, .unset, .unset, .unset, .unset, .unset, .unset, .unset, .unset]) rfl ?_
        refine gIloadN K103 L_65 (v := a) rfl ?_
        refine gSipush K103 (255 : Int32) L_66 rfl ?_
        refine gIand K103 L_69 ?_
        refine gI2c K103 L_70 ?_
        have hx0 := and255c a
        generalize ((a &&& (255 : Int32))).toUInt32.toUInt16.toUInt32.toInt32 = x0 at hx0 ⊢
        refine gIstore K103 L_71 (Ls' := #[.val (.int a), .val (.int b), .val (.int lens), .val (.int mode), .val (.int cp), .val (.int ((XT.ushr mode (1 : Int32)) &&& (3 : Int32))), .val (.ref a1), .val (.ref a2), .val (.int lA), .val (.int x0), .unset, .unset, .unset, .unset, .unset, .unset, .unset, .unset, .unset, .unset]) rfl ?_
        refine gIloadN K103 L_73 (v := a) rfl ?_
        refine gBipush K103 (8 : Int32) L_74 rfl ?_
        refine gIushr K103 L_76 ?_
        refine gSipush K103 (255 : Int32) L_77 rfl ?_
        refine gIand K103 L_80 ?_
        refine gI2c K103 L_81 ?_
        have hx1 := and255c (XT.ushr a (8 : Int32))
        generalize (((XT.ushr a (8 : Int32)) &&& (255 : Int32))).toUInt32.toUInt16.toUInt32.toInt32 = x1 at hx1 ⊢
        refine gIstore K103 L_82 (Ls' := #[.val (.int a), .val (.int b), .val (.int lens), .val (.int mode), .val (.int cp), .val (.int ((XT.ushr mode (1 : Int32)) &&& (3 : Int32))), .val (.ref a1), .val (.ref a2), .val (.int lA), .val (.int x0), .val (.int x1), .unset, .unset, .unset, .unset, .unset, .unset, .unset, .unset, .unset]) rfl ?_
        have j132 : ∀ (T104 : State) (K104 : Cx p l e room_1 s m #[(.int a), (.int b), (.int lens), (.int mode)] below meth c code maxLocals Z "com/example/siloledger/siloledger/delivery/PartyEqualsPinLaw" n0 (some [("java/lang/String", 7)]) T104 h0 [] 0 0) (lB y0 y1 : Int32) (hlB : ¬ lB < 0 ∧ ¬ (2 : Int32) < lB) (hy0 : ¬ y0 < 0 ∧ ¬ (255 : Int32) < y0) (hy1 : ¬ y1 < 0 ∧ ¬ (255 : Int32) < y1), Go p e below (End (some [("java/lang/String", 7)]) s Z n0 h0 [] room_1.cells room_1.slots (fun v h => v = some (.int 1))) T104 (mkF m 132 #[.val (.int a), .val (.int b), .val (.int lens), .val (.int mode), .val (.int cp), .val (.int ((XT.ushr mode (1 : Int32)) &&& (3 : Int32))), .val (.ref a1), .val (.ref a2), .val (.int lA), .val (.int x0), .val (.int x1), .val (.int lB), .val (.int y0), .val (.int y1), .unset, .unset, .unset, .unset, .unset, .unset] []) := by
          intro T104 K104 lB y0 y1 hlB hy0 hy1
          refine gIload K104 L_132 (v := lA) rfl ?_
          refine gIload K104 L_134 (v := x0) rfl ?_
          refine gIload K104 L_136 (v := x1) rfl ?_
          refine gCallS K104 (W := 0) [(.int lA), (.int x0), (.int x1)] [] L_138 (hw _ (List.mem_of_getElem? (i := 3) rfl)) (hw _ (List.mem_of_getElem? (i := 4) rfl)) (hw _ (List.mem_of_getElem? (i := 5) rfl)) (hw _ (List.mem_of_getElem? (i := 6) rfl)) (Cal.ofW (W := 0) (c_make l Z a0 hw h0 n0 K104.n0le hE lA x0 x1 z hx0 hx1 Sc hz) (hw _ (List.mem_of_getElem? (i := 6) rfl)) (hw _ (List.mem_of_getElem? (i := 5) rfl)) (by decide) (by decide)) (fun _ q => nomatch q) pd4 rfl rfl (Nat.le_of_eq rfl) rfl (by decide) (by decide) (by decide) (fun v105 T105 h105 K105 Q105 q105 => ?_)
          have E105 := Ext.of0 Q105
          have P106 := P0.ext E105
          obtain ⟨s105, rfl, Ss105⟩ := q105
          refine gAstore K105 L_141 rfl (Ls' := #[.val (.int a), .val (.int b), .val (.int lens), .val (.int mode), .val (.int cp), .val (.int ((XT.ushr mode (1 : Int32)) &&& (3 : Int32))), .val (.ref a1), .val (.ref a2), .val (.int lA), .val (.int x0), .val (.int x1), .val (.int lB), .val (.int y0), .val (.int y1), .val (.ref s105), .unset, .unset, .unset, .unset, .unset]) rfl ?_
          refine gIload K105 L_143 (v := lB) rfl ?_
          refine gIload K105 L_145 (v := y0) rfl ?_
          refine gIload K105 L_147 (v := y1) rfl ?_
          refine gCallS K105 (W := 0) [(.int lB), (.int y0), (.int y1)] [] L_149 (hw _ (List.mem_of_getElem? (i := 3) rfl)) (hw _ (List.mem_of_getElem? (i := 4) rfl)) (hw _ (List.mem_of_getElem? (i := 5) rfl)) (hw _ (List.mem_of_getElem? (i := 6) rfl)) (Cal.ofW (W := 0) (c_make l Z a0 hw h105 n0 K105.n0le hE lB y0 y1 z hy0 hy1 (Sc.ext E105) hz) (hw _ (List.mem_of_getElem? (i := 6) rfl)) (hw _ (List.mem_of_getElem? (i := 5) rfl)) (by decide) (by decide)) (fun _ q => nomatch q) pd4 rfl rfl (Nat.le_of_eq rfl) rfl (by decide) (by decide) (by decide) (fun v107 T107 h107 K107 Q107 q107 => ?_)
          have E107 := Ext.of0 Q107
          have P108 := P106.ext E107
          obtain ⟨s107, rfl, Ss107⟩ := q107
          refine gAstore K107 L_152 rfl (Ls' := #[.val (.int a), .val (.int b), .val (.int lens), .val (.int mode), .val (.int cp), .val (.int ((XT.ushr mode (1 : Int32)) &&& (3 : Int32))), .val (.ref a1), .val (.ref a2), .val (.int lA), .val (.int x0), .val (.int x1), .val (.int lB), .val (.int y0), .val (.int y1), .val (.ref s105), .val (.ref s107), .unset, .unset, .unset, .unset]) rfl ?_
          refine gNew K107 L_154 (hw _ (List.mem_of_getElem? (i := 37) rfl)) (hw _ (List.mem_of_getElem? (i := 38) rfl)) (hw _ (List.mem_of_getElem? (i := 39) rfl)) (by decide) (by decide) (fun T109 h109 x109 K109 E109 g109 A109 D109 ne109 => ?_)
          have P110 := P108.ext E109
          have ge_x109 : h0.size ≤ x109 := by rw [g109]; exact P108.1
          have F111 : Fld Z h109 x109 "com/example/siloledger/siloledger/delivery/Party" "member" "Ljava/lang/String;" .null := (D109 (Or.inr (hw _ (List.mem_of_getElem? (i := 50) rfl))) (ty := (.object "java/lang/String")) (by decide))
          have F112 : Fld Z h109 x109 "com/example/siloledger/siloledger/delivery/Party" "account" "Lcom/example/siloledger/siloledger/delivery/Account;" .null := (D109 (Or.inr (hw _ (List.mem_of_getElem? (i := 52) rfl))) (ty := (.object "com/example/siloledger/siloledger/delivery/Account")) (by decide))
          refine gDup K109 L_157 rfl ?_
          refine gAload K109 L_158 (v := (.ref s105)) rfl rfl ?_
          refine gAload K109 L_160 (v := (.ref a1)) rfl rfl ?_
          refine gCallI K109 (W := 1) x109 [(.ref s105), (.ref a1)] [(.ref x109)] L_162 rfl (hw _ (List.mem_of_getElem? (i := 40) rfl)) (hw _ (List.mem_of_getElem? (i := 41) rfl)) (hw _ (List.mem_of_getElem? (i := 42) rfl)) (Cal.ofN (W := 1) (c_party l Z a0 hw h109 n0 K109.n0le x109 s105 a1 _ _ (K109.wsge (List.mem_of_getElem? (i := 0) rfl)) A109 F111 F112) (hw _ (List.mem_of_getElem? (i := 42) rfl)) (hw _ (List.mem_of_getElem? (i := 39) rfl)) (by decide) (by decide)) (fun z q => by cases List.mem_singleton.mp q; exact (List.mem_of_getElem? (i := 0) rfl)) pd5 rfl rfl (Nat.le_of_eq rfl) rfl (by decide) (by decide) (by decide) (fun v113 T113 h113 K113 Q113 q113 => ?_)
          have P114 := P110.trans Q113 (fun z q => by cases List.mem_singleton.mp q; exact Or.inr ge_x109)
          obtain ⟨rfl, Ex113, Fm113, Fa113⟩ := q113
          refine gAstore K113 L_165 rfl (Ls' := #[.val (.int a), .val (.int b), .val (.int lens), .val (.int mode), .val (.int cp), .val (.int ((XT.ushr mode (1 : Int32)) &&& (3 : Int32))), .val (.ref a1), .val (.ref a2), .val (.int lA), .val (.int x0), .val (.int x1), .val (.int lB), .val (.int y0), .val (.int y1), .val (.ref s105), .val (.ref s107), .val (.ref x109), .unset, .unset, .unset]) rfl ?_
          refine gNew K113 L_167 (hw _ (List.mem_of_getElem? (i := 37) rfl)) (hw _ (List.mem_of_getElem? (i := 38) rfl)) (hw _ (List.mem_of_getElem? (i := 39) rfl)) (by decide) (by decide) (fun T115 h115 x115 K115 E115 g115 A115 D115 ne115 => ?_)
          have P116 := P114.ext E115
          have ge_x115 : h0.size ≤ x115 := by rw [g115]; exact P114.1
          have F117 : Fld Z h115 x115 "com/example/siloledger/siloledger/delivery/Party" "member" "Ljava/lang/String;" .null := (D115 (Or.inr (hw _ (List.mem_of_getElem? (i := 50) rfl))) (ty := (.object "java/lang/String")) (by decide))
          have F118 : Fld Z h115 x115 "com/example/siloledger/siloledger/delivery/Party" "account" "Lcom/example/siloledger/siloledger/delivery/Account;" .null := (D115 (Or.inr (hw _ (List.mem_of_getElem? (i := 52) rfl))) (ty := (.object "com/example/siloledger/siloledger/delivery/Account")) (by decide))
          refine gDup K115 L_170 rfl ?_
          refine gAload K115 L_171 (v := (.ref s107)) rfl rfl ?_
          refine gAload K115 L_173 (v := (.ref a2)) rfl rfl ?_
          refine gCallI K115 (W := 1) x115 [(.ref s107), (.ref a2)] [(.ref x115)] L_175 rfl (hw _ (List.mem_of_getElem? (i := 40) rfl)) (hw _ (List.mem_of_getElem? (i := 41) rfl)) (hw _ (List.mem_of_getElem? (i := 42) rfl)) (Cal.ofN (W := 1) (c_party l Z a0 hw h115 n0 K115.n0le x115 s107 a2 _ _ (K115.wsge (List.mem_of_getElem? (i := 0) rfl)) A115 F117 F118) (hw _ (List.mem_of_getElem? (i := 42) rfl)) (hw _ (List.mem_of_getElem? (i := 39) rfl)) (by decide) (by decide)) (fun z q => by cases List.mem_singleton.mp q; exact (List.mem_of_getElem? (i := 0) rfl)) pd5 rfl rfl (Nat.le_of_eq rfl) rfl (by decide) (by decide) (by decide) (fun v119 T119 h119 K119 Q119 q119 => ?_)
          have P120 := P116.trans Q119 (fun z q => by cases List.mem_singleton.mp q; exact Or.inr ge_x115)
          obtain ⟨rfl, Ex119, Fm119, Fa119⟩ := q119
          refine gAstore K119 L_178 rfl (Ls' := #[.val (.int a), .val (.int b), .val (.int lens), .val (.int mode), .val (.int cp), .val (.int ((XT.ushr mode (1 : Int32)) &&& (3 : Int32))), .val (.ref a1), .val (.ref a2), .val (.int lA), .val (.int x0), .val (.int x1), .val (.int lB), .val (.int y0), .val (.int y1), .val (.ref s105), .val (.ref s107), .val (.ref x109), .val (.ref x115), .unset, .unset]) rfl ?_
          refine gIload K119 L_180 (v := ((XT.ushr mode (1 : Int32)) &&& (3 : Int32))) rfl ?_
          refine gIf_ne K119 L_182 (fun q182 => ?_) (fun q182 => ?_)
          · skip
            refine gIload K119 L_224 (v := ((XT.ushr mode (1 : Int32)) &&& (3 : Int32))) rfl ?_
            refine gIconst K119 (1 : Int32) L_226 rfl ?_
            refine gIcmp_ne K119 L_227 (fun q227 => ?_) (fun q227 => ?_)
            · skip
              refine gIload K119 L_239 (v := ((XT.ushr mode (1 : Int32)) &&& (3 : Int32))) rfl ?_
              refine gIconst K119 (2 : Int32) L_241 rfl ?_
              refine gIcmp_ne K119 L_242 (fun q242 => ?_) (fun q242 => ?_)
              · skip
                refine gAload K119 L_255 (v := (.ref x109)) rfl rfl ?_
                refine gAstore K119 L_257 rfl (Ls' := #[.val (.int a), .val (.int b), .val (.int lens), .val (.int mode), .val (.int cp), .val (.int ((XT.ushr mode (1 : Int32)) &&& (3 : Int32))), .val (.ref a1), .val (.ref a2), .val (.int lA), .val (.int x0), .val (.int x1), .val (.int lB), .val (.int y0), .val (.int y1), .val (.ref s105), .val (.ref s107), .val (.ref x109), .val (.ref x115), .val (.ref x109), .unset]) rfl ?_
                refine gIconst K119 (1 : Int32) L_259 rfl ?_
                refine gIstore K119 L_260 (Ls' := #[.val (.int a), .val (.int b), .val (.int lens), .val (.int mode), .val (.int cp), .val (.int ((XT.ushr mode (1 : Int32)) &&& (3 : Int32))), .val (.ref a1), .val (.ref a2), .val (.int lA), .val (.int x0), .val (.int x1), .val (.int lB), .val (.int y0), .val (.int y1), .val (.ref s105), .val (.ref s107), .val (.ref x109), .val (.ref x115), .val (.ref x109), .val (.int (1 : Int32))]) rfl ?_
                refine gAload K119 L_262 (v := (.ref x109)) rfl rfl ?_
                refine gAload K119 L_264 (v := (.ref x109)) rfl rfl ?_
                refine gCallV K119 (W := 0) (C := "com/example/siloledger/siloledger/delivery/Party") x109 [(.ref x109)] [] L_266 (hw _ (List.mem_of_getElem? (i := 56) rfl)) (hw _ (List.mem_of_getElem? (i := 57) rfl)) (hw _ (List.mem_of_getElem? (i := 59) rfl)) (hw _ (List.mem_of_getElem? (i := 58) rfl)) (Cal.ofN (W := 0) (c_eqP l Z a0 hw h119 n0 K119.n0le x109 x109 s105 s105 a1 a1 _ _ z (Ex113.ext (Ext.kp1 E115 Q119 (Nat.le_of_eq g115.symm))) (Fm113.ext (Ext.kp1 E115 Q119 (Nat.le_of_eq g115.symm))) (Fa113.ext (Ext.kp1 E115 Q119 (Nat.le_of_eq g115.symm))) (Fm113.ext (Ext.kp1 E115 Q119 (Nat.le_of_eq g115.symm))) (Fa113.ext (Ext.kp1 E115 Q119 (Nat.le_of_eq g115.symm))) (Ss105.ext (Ext.kp1 (Ext.tr (Ext.kp1 (Ext.tr E107 E109) Q113 (Nat.le_trans E107.1 (Nat.le_of_eq g109.symm))) E115) Q119 (Nat.le_trans (Ext.kp1 (Ext.tr E107 E109) Q113 (Nat.le_trans E107.1 (Nat.le_of_eq g109.symm))).1 (Nat.le_of_eq g115.symm)))) (Ss105.ext (Ext.kp1 (Ext.tr (Ext.kp1 (Ext.tr E107 E109) Q113 (Nat.le_trans E107.1 (Nat.le_of_eq g109.symm))) E115) Q119 (Nat.le_trans (Ext.kp1 (Ext.tr E107 E109) Q113 (Nat.le_trans E107.1 (Nat.le_of_eq g109.symm))).1 (Nat.le_of_eq g115.symm)))) (Sc.ext (Ext.kp1 (Ext.tr (Ext.kp1 (Ext.tr (Ext.tr E105 E107) E109) Q113 (Nat.le_trans (Ext.tr E105 E107).1 (Nat.le_of_eq g109.symm))) E115) Q119 (Nat.le_trans (Ext.kp1 (Ext.tr (Ext.tr E105 E107) E109) Q113 (Nat.le_trans (Ext.tr E105 E107).1 (Nat.le_of_eq g109.symm))).1 (Nat.le_of_eq g115.symm)))) hz) (hw _ (List.mem_of_getElem? (i := 60) rfl)) (hw _ (List.mem_of_getElem? (i := 39) rfl)) (by decide) (by decide)) (Ex113.ext (Ext.kp1 E115 Q119 (Nat.le_of_eq g115.symm))) (fun _ q => nomatch q) pd3 rfl rfl (Nat.le_of_eq rfl) rfl (by decide) (by decide) (by decide) (fun v121 T121 h121 K121 Q121 q121 => ?_)
                have E121 := Ext.of0 Q121
                have P122 := P120.ext E121
                cases q121
                rw [if_pos ⟨rfl, rfl⟩]
                refine gIload K121 L_269 (v := (1 : Int32)) rfl ?_
                refine gIcmp_ne K121 L_271 (fun q => absurd q (by first | decide | (intro hh; cases hh) | simp)) (fun q271 => ?_)
                refine gIconst K121 (1 : Int32) L_274 rfl ?_
                refine gGoto K121 L_275 ?_
                refine gRetI K121 hlk hret (by simp) L_279 rfl P122 (by decide) (by decide) ?_
                exact rfl
              · skip
                refine gAload K119 L_245 (v := (.ref s107)) rfl rfl ?_
                refine gAstore K119 L_247 rfl (Ls' := #[.val (.int a), .val (.int b), .val (.int lens), .val (.int mode), .val (.int cp), .val (.int ((XT.ushr mode (1 : Int32)) &&& (3 : Int32))), .val (.ref a1), .val (.ref a2), .val (.int lA), .val (.int x0), .val (.int x1), .val (.int lB), .val (.int y0), .val (.int y1), .val (.ref s105), .val (.ref s107), .val (.ref x109), .val (.ref x115), .val (.ref s107), .unset]) rfl ?_
                refine gIconst K119 (0 : Int32) L_249 rfl ?_
                refine gIstore K119 L_250 (Ls' := #[.val (.int a), .val (.int b), .val (.int lens), .val (.int mode), .val (.int cp), .val (.int ((XT.ushr mode (1 : Int32)) &&& (3 : Int32))), .val (.ref a1), .val (.ref a2), .val (.int lA), .val (.int x0), .val (.int x1), .val (.int lB), .val (.int y0), .val (.int y1), .val (.ref s105), .val (.ref s107), .val (.ref x109), .val (.ref x115), .val (.ref s107), .val (.int (0 : Int32))]) rfl ?_
                refine gGoto K119 L_252 ?_
                refine gAload K119 L_262 (v := (.ref x109)) rfl rfl ?_
                refine gAload K119 L_264 (v := (.ref s107)) rfl rfl ?_
                refine gCallV K119 (W := 0) (C := "com/example/siloledger/siloledger/delivery/Party") x109 [(.ref s107)] [] L_266 (hw _ (List.mem_of_getElem? (i := 56) rfl)) (hw _ (List.mem_of_getElem? (i := 57) rfl)) (hw _ (List.mem_of_getElem? (i := 59) rfl)) (hw _ (List.mem_of_getElem? (i := 58) rfl)) (Cal.ofN (W := 0) (c_eqStr l Z a0 hw h119 n0 K119.n0le x109 s107 ((Ss107.ext (Ext.kp1 (Ext.tr (Ext.kp1 E109 Q113 (Nat.le_of_eq g109.symm)) E115) Q119 (Nat.le_trans (Ext.kp1 E109 Q113 (Nat.le_of_eq g109.symm)).1 (Nat.le_of_eq g115.symm))))).exa) (hw _ (List.mem_of_getElem? (i := 60) rfl)) (hw _ (List.mem_of_getElem? (i := 39) rfl)) (by decide) (by decide)) (Ex113.ext (Ext.kp1 E115 Q119 (Nat.le_of_eq g115.symm))) (fun _ q => nomatch q) pd3 rfl rfl (Nat.le_of_eq rfl) rfl (by decide) (by decide) (by decide) (fun v123 T123 h123 K123 Q123 q123 => ?_)
                have E123 := Ext.of0 Q123
                have P124 := P120.ext E123
                cases q123
                refine gIload K123 L_269 (v := (0 : Int32)) rfl ?_
                refine gIcmp_ne K123 L_271 (fun q => absurd q (by first | decide | (intro hh; cases hh) | simp)) (fun q271 => ?_)
                refine gIconst K123 (1 : Int32) L_274 rfl ?_
                refine gGoto K123 L_275 ?_
                refine gRetI K123 hlk hret (by simp) L_279 rfl P124 (by decide) (by decide) ?_
                exact rfl
            · skip
              refine gNull K119 L_230 ?_
              refine gAstore K119 L_231 rfl (Ls' := #[.val (.int a), .val (.int b), .val (.int lens), .val (.int mode), .val (.int cp), .val (.int ((XT.ushr mode (1 : Int32)) &&& (3 : Int32))), .val (.ref a1), .val (.ref a2), .val (.int lA), .val (.int x0), .val (.int x1), .val (.int lB), .val (.int y0), .val (.int y1), .val (.ref s105), .val (.ref s107), .val (.ref x109), .val (.ref x115), .val .null, .unset]) rfl ?_
              refine gIconst K119 (0 : Int32) L_233 rfl ?_
              refine gIstore K119 L_234 (Ls' := #[.val (.int a), .val (.int b), .val (.int lens), .val (.int mode), .val (.int cp), .val (.int ((XT.ushr mode (1 : Int32)) &&& (3 : Int32))), .val (.ref a1), .val (.ref a2), .val (.int lA), .val (.int x0), .val (.int x1), .val (.int lB), .val (.int y0), .val (.int y1), .val (.ref s105), .val (.ref s107), .val (.ref x109), .val (.ref x115), .val .null, .val (.int (0 : Int32))]) rfl ?_
              refine gGoto K119 L_236 ?_
              refine gAload K119 L_262 (v := (.ref x109)) rfl rfl ?_
              refine gAload K119 L_264 (v := .null) rfl rfl ?_
              refine gCallV K119 (W := 0) (C := "com/example/siloledger/siloledger/delivery/Party") x109 [.null] [] L_266 (hw _ (List.mem_of_getElem? (i := 56) rfl)) (hw _ (List.mem_of_getElem? (i := 57) rfl)) (hw _ (List.mem_of_getElem? (i := 59) rfl)) (hw _ (List.mem_of_getElem? (i := 58) rfl)) (Cal.ofN (W := 0) (c_eqNull l Z a0 hw h119 n0 K119.n0le x109) (hw _ (List.mem_of_getElem? (i := 60) rfl)) (hw _ (List.mem_of_getElem? (i := 39) rfl)) (by decide) (by decide)) (Ex113.ext (Ext.kp1 E115 Q119 (Nat.le_of_eq g115.symm))) (fun _ q => nomatch q) pd3 rfl rfl (Nat.le_of_eq rfl) rfl (by decide) (by decide) (by decide) (fun v125 T125 h125 K125 Q125 q125 => ?_)
              have E125 := Ext.of0 Q125
              have P126 := P120.ext E125
              cases q125
              refine gIload K125 L_269 (v := (0 : Int32)) rfl ?_
              refine gIcmp_ne K125 L_271 (fun q => absurd q (by first | decide | (intro hh; cases hh) | simp)) (fun q271 => ?_)
              refine gIconst K125 (1 : Int32) L_274 rfl ?_
              refine gGoto K125 L_275 ?_
              refine gRetI K125 hlk hret (by simp) L_279 rfl P126 (by decide) (by decide) ?_
              exact rfl
          · skip
            refine gAload K119 L_185 (v := (.ref x115)) rfl rfl ?_
            refine gAstore K119 L_187 rfl (Ls' := #[.val (.int a), .val (.int b), .val (.int lens), .val (.int mode), .val (.int cp), .val (.int ((XT.ushr mode (1 : Int32)) &&& (3 : Int32))), .val (.ref a1), .val (.ref a2), .val (.int lA), .val (.int x0), .val (.int x1), .val (.int lB), .val (.int y0), .val (.int y1), .val (.ref s105), .val (.ref s107), .val (.ref x109), .val (.ref x115), .val (.ref x115), .unset]) rfl ?_
            refine gIload K119 L_189 (v := lA) rfl ?_
            refine gIload K119 L_191 (v := x0) rfl ?_
            refine gIload K119 L_193 (v := x1) rfl ?_
            refine gIload K119 L_195 (v := lB) rfl ?_
            refine gIload K119 L_197 (v := y0) rfl ?_
            refine gIload K119 L_199 (v := y1) rfl ?_
            refine gCallS K119 (W := 0) [(.int lA), (.int x0), (.int x1), (.int lB), (.int y0), (.int y1)] [] L_201 (hw _ (List.mem_of_getElem? (i := 53) rfl)) (hw _ (List.mem_of_getElem? (i := 54) rfl)) (hw _ (List.mem_of_getElem? (i := 5) rfl)) (hw _ (List.mem_of_getElem? (i := 55) rfl)) (Cal.ofN (W := 0) (c_same l Z a0 hw h119 n0 K119.n0le lA x0 x1 lB y0 y1 hlA hlB) (hw _ (List.mem_of_getElem? (i := 55) rfl)) (hw _ (List.mem_of_getElem? (i := 5) rfl)) (by decide) (by decide)) (fun _ q => nomatch q) pd6 rfl rfl (Nat.le_of_eq rfl) rfl (by decide) (by decide) (by decide) (fun v127 T127 h127 K127 Q127 q127 => ?_)
            have E127 := Ext.of0 Q127
            have P128 := P120.ext E127
            obtain ⟨rfl, e127⟩ := q127
            by_cases hm : mk2 lA x0 x1 = mk2 lB y0 y1
            · skip
              rw [if_pos hm]
              refine gIf_eq K127 L_204 (fun q => absurd q (by first | decide | (intro hh; cases hh) | simp)) (fun q204 => ?_)
              refine gAload K127 L_207 (v := (.ref a1)) rfl rfl ?_
              refine gAload K127 L_209 (v := (.ref a2)) rfl rfl ?_
              refine gAcmp_ne K127 L_211 rfl rfl (fun q211 => ?_) (fun q211 => ?_)
              · skip
                refine gIconst K127 (0 : Int32) L_218 rfl ?_
                refine gIstore K127 L_219 (Ls' := #[.val (.int a), .val (.int b), .val (.int lens), .val (.int mode), .val (.int cp), .val (.int ((XT.ushr mode (1 : Int32)) &&& (3 : Int32))), .val (.ref a1), .val (.ref a2), .val (.int lA), .val (.int x0), .val (.int x1), .val (.int lB), .val (.int y0), .val (.int y1), .val (.ref s105), .val (.ref s107), .val (.ref x109), .val (.ref x115), .val (.ref x115), .val (.int (0 : Int32))]) rfl ?_
                refine gGoto K127 L_221 ?_
                refine gAload K127 L_262 (v := (.ref x109)) rfl rfl ?_
                refine gAload K127 L_264 (v := (.ref x115)) rfl rfl ?_
                refine gCallV K127 (W := 0) (C := "com/example/siloledger/siloledger/delivery/Party") x109 [(.ref x115)] [] L_266 (hw _ (List.mem_of_getElem? (i := 56) rfl)) (hw _ (List.mem_of_getElem? (i := 57) rfl)) (hw _ (List.mem_of_getElem? (i := 59) rfl)) (hw _ (List.mem_of_getElem? (i := 58) rfl)) (Cal.ofN (W := 0) (c_eqP l Z a0 hw h127 n0 K127.n0le x109 x115 s105 s107 a1 a2 _ _ z (Ex119.ext E127) (Fm113.ext (Ext.tr (Ext.kp1 E115 Q119 (Nat.le_of_eq g115.symm)) E127)) (Fa113.ext (Ext.tr (Ext.kp1 E115 Q119 (Nat.le_of_eq g115.symm)) E127)) (Fm119.ext E127) (Fa119.ext E127) (Ss105.ext (Ext.tr (Ext.kp1 (Ext.tr (Ext.kp1 (Ext.tr E107 E109) Q113 (Nat.le_trans E107.1 (Nat.le_of_eq g109.symm))) E115) Q119 (Nat.le_trans (Ext.kp1 (Ext.tr E107 E109) Q113 (Nat.le_trans E107.1 (Nat.le_of_eq g109.symm))).1 (Nat.le_of_eq g115.symm))) E127)) (Ss107.ext (Ext.tr (Ext.kp1 (Ext.tr (Ext.kp1 E109 Q113 (Nat.le_of_eq g109.symm)) E115) Q119 (Nat.le_trans (Ext.kp1 E109 Q113 (Nat.le_of_eq g109.symm)).1 (Nat.le_of_eq g115.symm))) E127)) (Sc.ext (Ext.tr (Ext.kp1 (Ext.tr (Ext.kp1 (Ext.tr (Ext.tr E105 E107) E109) Q113 (Nat.le_trans (Ext.tr E105 E107).1 (Nat.le_of_eq g109.symm))) E115) Q119 (Nat.le_trans (Ext.kp1 (Ext.tr (Ext.tr E105 E107) E109) Q113 (Nat.le_trans (Ext.tr E105 E107).1 (Nat.le_of_eq g109.symm))).1 (Nat.le_of_eq g115.symm))) E127)) hz) (hw _ (List.mem_of_getElem? (i := 60) rfl)) (hw _ (List.mem_of_getElem? (i := 39) rfl)) (by decide) (by decide)) (Ex113.ext (Ext.tr (Ext.kp1 E115 Q119 (Nat.le_of_eq g115.symm)) E127)) (fun _ q => nomatch q) pd3 rfl rfl (Nat.le_of_eq rfl) rfl (by decide) (by decide) (by decide) (fun v129 T129 h129 K129 Q129 q129 => ?_)
                have E129 := Ext.of0 Q129
                have P130 := P128.ext E129
                cases q129
                rw [if_neg (fun q => q211 (congrArg Value.ref q.2))]
                refine gIload K129 L_269 (v := (0 : Int32)) rfl ?_
                refine gIcmp_ne K129 L_271 (fun q => absurd q (by first | decide | (intro hh; cases hh) | simp)) (fun q271 => ?_)
                refine gIconst K129 (1 : Int32) L_274 rfl ?_
                refine gGoto K129 L_275 ?_
                refine gRetI K129 hlk hret (by simp) L_279 rfl P130 (by decide) (by decide) ?_
                exact rfl
              · skip
                refine gIconst K127 (1 : Int32) L_214 rfl ?_
                refine gGoto K127 L_215 ?_
                refine gIstore K127 L_219 (Ls' := #[.val (.int a), .val (.int b), .val (.int lens), .val (.int mode), .val (.int cp), .val (.int ((XT.ushr mode (1 : Int32)) &&& (3 : Int32))), .val (.ref a1), .val (.ref a2), .val (.int lA), .val (.int x0), .val (.int x1), .val (.int lB), .val (.int y0), .val (.int y1), .val (.ref s105), .val (.ref s107), .val (.ref x109), .val (.ref x115), .val (.ref x115), .val (.int (1 : Int32))]) rfl ?_
                refine gGoto K127 L_221 ?_
                refine gAload K127 L_262 (v := (.ref x109)) rfl rfl ?_
                refine gAload K127 L_264 (v := (.ref x115)) rfl rfl ?_
                refine gCallV K127 (W := 0) (C := "com/example/siloledger/siloledger/delivery/Party") x109 [(.ref x115)] [] L_266 (hw _ (List.mem_of_getElem? (i := 56) rfl)) (hw _ (List.mem_of_getElem? (i := 57) rfl)) (hw _ (List.mem_of_getElem? (i := 59) rfl)) (hw _ (List.mem_of_getElem? (i := 58) rfl)) (Cal.ofN (W := 0) (c_eqP l Z a0 hw h127 n0 K127.n0le x109 x115 s105 s107 a1 a2 _ _ z (Ex119.ext E127) (Fm113.ext (Ext.tr (Ext.kp1 E115 Q119 (Nat.le_of_eq g115.symm)) E127)) (Fa113.ext (Ext.tr (Ext.kp1 E115 Q119 (Nat.le_of_eq g115.symm)) E127)) (Fm119.ext E127) (Fa119.ext E127) (Ss105.ext (Ext.tr (Ext.kp1 (Ext.tr (Ext.kp1 (Ext.tr E107 E109) Q113 (Nat.le_trans E107.1 (Nat.le_of_eq g109.symm))) E115) Q119 (Nat.le_trans (Ext.kp1 (Ext.tr E107 E109) Q113 (Nat.le_trans E107.1 (Nat.le_of_eq g109.symm))).1 (Nat.le_of_eq g115.symm))) E127)) (Ss107.ext (Ext.tr (Ext.kp1 (Ext.tr (Ext.kp1 E109 Q113 (Nat.le_of_eq g109.symm)) E115) Q119 (Nat.le_trans (Ext.kp1 E109 Q113 (Nat.le_of_eq g109.symm)).1 (Nat.le_of_eq g115.symm))) E127)) (Sc.ext (Ext.tr (Ext.kp1 (Ext.tr (Ext.kp1 (Ext.tr (Ext.tr E105 E107) E109) Q113 (Nat.le_trans (Ext.tr E105 E107).1 (Nat.le_of_eq g109.symm))) E115) Q119 (Nat.le_trans (Ext.kp1 (Ext.tr (Ext.tr E105 E107) E109) Q113 (Nat.le_trans (Ext.tr E105 E107).1 (Nat.le_of_eq g109.symm))).1 (Nat.le_of_eq g115.symm))) E127)) hz) (hw _ (List.mem_of_getElem? (i := 60) rfl)) (hw _ (List.mem_of_getElem? (i := 39) rfl)) (by decide) (by decide)) (Ex113.ext (Ext.tr (Ext.kp1 E115 Q119 (Nat.le_of_eq g115.symm)) E127)) (fun _ q => nomatch q) pd3 rfl rfl (Nat.le_of_eq rfl) rfl (by decide) (by decide) (by decide) (fun v131 T131 h131 K131 Q131 q131 => ?_)
                have E131 := Ext.of0 Q131
                have P132 := P128.ext E131
                cases q131
                rw [if_pos ⟨hm, Value.ref.inj q211⟩]
                refine gIload K131 L_269 (v := (1 : Int32)) rfl ?_
                refine gIcmp_ne K131 L_271 (fun q => absurd q (by first | decide | (intro hh; cases hh) | simp)) (fun q271 => ?_)
                refine gIconst K131 (1 : Int32) L_274 rfl ?_
                refine gGoto K131 L_275 ?_
                refine gRetI K131 hlk hret (by simp) L_279 rfl P132 (by decide) (by decide) ?_
                exact rfl
            · skip
              rw [if_neg hm]
              refine gIf_eq K127 L_204 (fun q204 => ?_) (fun q => absurd q (by first | decide | (intro hh; cases hh) | simp))
              refine gIconst K127 (0 : Int32) L_218 rfl ?_
              refine gIstore K127 L_219 (Ls' := #[.val (.int a), .val (.int b), .val (.int lens), .val (.int mode), .val (.int cp), .val (.int ((XT.ushr mode (1 : Int32)) &&& (3 : Int32))), .val (.ref a1), .val (.ref a2), .val (.int lA), .val (.int x0), .val (.int x1), .val (.int lB), .val (.int y0), .val (.int y1), .val (.ref s105), .val (.ref s107), .val (.ref x109), .val (.ref x115), .val (.ref x115), .val (.int (0 : Int32))]) rfl ?_
              refine gGoto K127 L_221 ?_
              refine gAload K127 L_262 (v := (.ref x109)) rfl rfl ?_
              refine gAload K127 L_264 (v := (.ref x115)) rfl rfl ?_
              refine gCallV K127 (W := 0) (C := "com/example/siloledger/siloledger/delivery/Party") x109 [(.ref x115)] [] L_266 (hw _ (List.mem_of_getElem? (i := 56) rfl)) (hw _ (List.mem_of_getElem? (i := 57) rfl)) (hw _ (List.mem_of_getElem? (i := 59) rfl)) (hw _ (List.mem_of_getElem? (i := 58) rfl)) (Cal.ofN (W := 0) (c_eqP l Z a0 hw h127 n0 K127.n0le x109 x115 s105 s107 a1 a2 _ _ z (Ex119.ext E127) (Fm113.ext (Ext.tr (Ext.kp1 E115 Q119 (Nat.le_of_eq g115.symm)) E127)) (Fa113.ext (Ext.tr (Ext.kp1 E115 Q119 (Nat.le_of_eq g115.symm)) E127)) (Fm119.ext E127) (Fa119.ext E127) (Ss105.ext (Ext.tr (Ext.kp1 (Ext.tr (Ext.kp1 (Ext.tr E107 E109) Q113 (Nat.le_trans E107.1 (Nat.le_of_eq g109.symm))) E115) Q119 (Nat.le_trans (Ext.kp1 (Ext.tr E107 E109) Q113 (Nat.le_trans E107.1 (Nat.le_of_eq g109.symm))).1 (Nat.le_of_eq g115.symm))) E127)) (Ss107.ext (Ext.tr (Ext.kp1 (Ext.tr (Ext.kp1 E109 Q113 (Nat.le_of_eq g109.symm)) E115) Q119 (Nat.le_trans (Ext.kp1 E109 Q113 (Nat.le_of_eq g109.symm)).1 (Nat.le_of_eq g115.symm))) E127)) (Sc.ext (Ext.tr (Ext.kp1 (Ext.tr (Ext.kp1 (Ext.tr (Ext.tr E105 E107) E109) Q113 (Nat.le_trans (Ext.tr E105 E107).1 (Nat.le_of_eq g109.symm))) E115) Q119 (Nat.le_trans (Ext.kp1 (Ext.tr (Ext.tr E105 E107) E109) Q113 (Nat.le_trans (Ext.tr E105 E107).1 (Nat.le_of_eq g109.symm))).1 (Nat.le_of_eq g115.symm))) E127)) hz) (hw _ (List.mem_of_getElem? (i := 60) rfl)) (hw _ (List.mem_of_getElem? (i := 39) rfl)) (by decide) (by decide)) (Ex113.ext (Ext.tr (Ext.kp1 E115 Q119 (Nat.le_of_eq g115.symm)) E127)) (fun _ q => nomatch q) pd3 rfl rfl (Nat.le_of_eq rfl) rfl (by decide) (by decide) (by decide) (fun v133 T133 h133 K133 Q133 q133 => ?_)
              have E133 := Ext.of0 Q133
              have P134 := P128.ext E133
              cases q133
              rw [if_neg (fun q => hm q.1)]
              refine gIload K133 L_269 (v := (0 : Int32)) rfl ?_
              refine gIcmp_ne K133 L_271 (fun q => absurd q (by first | decide | (intro hh; cases hh) | simp)) (fun q271 => ?_)
              refine gIconst K133 (1 : Int32) L_274 rfl ?_
              refine gGoto K133 L_275 ?_
              refine gRetI K133 hlk hret (by simp) L_279 rfl P134 (by decide) (by decide) ?_
              exact rfl
        refine gIload K103 L_84 (v := cp) rfl ?_
        refine gIf_eq K103 L_86 (fun q86 => ?_) (fun q86 => ?_)
        · skip
          refine gIloadN K103 L_104 (v := lens) rfl ?_
          refine gIconst K103 (2 : Int32) L_105 rfl ?_
          refine gIushr K103 L_106 ?_
          refine gIconst K103 (3 : Int32) L_107 rfl ?_
          refine gIand K103 L_108 ?_
          refine gIconst K103 (3 : Int32) L_109 rfl ?_
          refine gIrem K103 L_110 (by decide) ?_
          refine gIstore K103 L_111 (Ls' := #[.val (.int a), .val (.int b), .val (.int lens), .val (.int mode), .val (.int cp), .val (.int ((XT.ushr mode (1 : Int32)) &&& (3 : Int32))), .val (.ref a1), .val (.ref a2), .val (.int lA), .val (.int x0), .val (.int x1), .val (.int (((XT.ushr lens (2 : Int32)) &&& (3 : Int32)) % (3 : Int32))), .unset, .unset, .unset, .unset, .unset, .unset, .unset, .unset]) rfl ?_
          refine gIloadN K103 L_113 (v := b) rfl ?_
          refine gSipush K103 (255 : Int32) L_114 rfl ?_
          refine gIand K103 L_117 ?_
          refine gI2c K103 L_118 ?_
          refine gIstore K103 L_119 (Ls' := #[.val (.int a), .val (.int b), .val (.int lens), .val (.int mode), .val (.int cp), .val (.int ((XT.ushr mode (1 : Int32)) &&& (3 : Int32))), .val (.ref a1), .val (.ref a2), .val (.int lA), .val (.int x0), .val (.int x1), .val (.int (((XT.ushr lens (2 : Int32)) &&& (3 : Int32)) % (3 : Int32))), .val (.int ((b &&& (255 : Int32))).toUInt32.toUInt16.toUInt32.toInt32), .unset, .unset, .unset, .unset, .unset, .unset, .unset]) rfl ?_
          refine gIloadN K103 L_121 (v := b) rfl ?_
          refine gBipush K103 (8 : Int32) L_122 rfl ?_
          refine gIushr K103 L_124 ?_
          refine gSipush K103 (255 : Int32) L_125 rfl ?_
          refine gIand K103 L_128 ?_
          refine gI2c K103 L_129 ?_
          refine gIstore K103 L_130 (Ls' := #[.val (.int a), .val (.int b), .val (.int lens), .val (.int mode), .val (.int cp), .val (.int ((XT.ushr mode (1 : Int32)) &&& (3 : Int32))), .val (.ref a1), .val (.ref a2), .val (.int lA), .val (.int x0), .val (.int x1), .val (.int (((XT.ushr lens (2 : Int32)) &&& (3 : Int32)) % (3 : Int32))), .val (.int ((b &&& (255 : Int32))).toUInt32.toUInt16.toUInt32.toInt32), .val (.int (((XT.ushr b (8 : Int32)) &&& (255 : Int32))).toUInt32.toUInt16.toUInt32.toInt32), .unset, .unset, .unset, .unset, .unset, .unset]) rfl ?_
          exact j132 _ K103 _ _ _ (len3 (XT.ushr lens (2 : Int32))) (and255c b) (and255c (XT.ushr b (8 : Int32)))
        · skip
          refine gIload K103 L_89 (v := lA) rfl ?_
          refine gIstore K103 L_91 (Ls' := #[.val (.int a), .val (.int b), .val (.int lens), .val (.int mode), .val (.int cp), .val (.int ((XT.ushr mode (1 : Int32)) &&& (3 : Int32))), .val (.ref a1), .val (.ref a2), .val (.int lA), .val (.int x0), .val (.int x1), .val (.int lA), .unset, .unset, .unset, .unset, .unset, .unset, .unset, .unset]) rfl ?_
          refine gIload K103 L_93 (v := x0) rfl ?_
          refine gIstore K103 L_95 (Ls' := #[.val (.int a), .val (.int b), .val (.int lens), .val (.int mode), .val (.int cp), .val (.int ((XT.ushr mode (1 : Int32)) &&& (3 : Int32))), .val (.ref a1), .val (.ref a2), .val (.int lA), .val (.int x0), .val (.int x1), .val (.int lA), .val (.int x0), .unset, .unset, .unset, .unset, .unset, .unset, .unset]) rfl ?_
          refine gIload K103 L_97 (v := x1) rfl ?_
          refine gIstore K103 L_99 (Ls' := #[.val (.int a), .val (.int b), .val (.int lens), .val (.int mode), .val (.int cp), .val (.int ((XT.ushr mode (1 : Int32)) &&& (3 : Int32))), .val (.ref a1), .val (.ref a2), .val (.int lA), .val (.int x0), .val (.int x1), .val (.int lA), .val (.int x0), .val (.int x1), .unset, .unset, .unset, .unset, .unset, .unset]) rfl ?_
          refine gGoto K103 L_101 ?_
          exact j132 _ K103 _ _ _ hlA hx0 hx1
      refine gIloadN K102 L_39 (v := mode) rfl ?_
      refine gIconst K102 (4 : Int32) L_40 rfl ?_
      refine gIushr K102 L_41 ?_
      refine gIconst K102 (1 : Int32) L_42 rfl ?_
      refine gIand K102 L_43 ?_
      refine gIf_eq K102 L_44 (fun q44 => ?_) (fun q44 => ?_)
      · skip
        refine gGetS K102 L_53 (hw _ (List.mem_of_getElem? (i := 0) rfl)) Sl (fun T135 K135 => ?_)
        exact j56 _ K135 cli
      · skip
        refine gGetS K102 L_47 (hw _ (List.mem_of_getElem? (i := 73) rfl)) Sh (fun T136 K136 => ?_)
        refine gGoto K136 L_50 ?_
        exact j56 _ K136 hs
    refine gIloadN K101 L_20 (v := mode) rfl ?_
    refine gIconst K101 (3 : Int32) L_21 rfl ?_
    refine gIushr K101 L_22 ?_
    refine gIconst K101 (1 : Int32) L_23 rfl ?_
    refine gIand K101 L_24 ?_
    refine gIf_eq K101 L_25 (fun q25 => ?_) (fun q25 => ?_)
    · skip
      refine gGetS K101 L_34 (hw _ (List.mem_of_getElem? (i := 0) rfl)) Sl (fun T137 K137 => ?_)
      exact j37 _ K137 cli
    · skip
      refine gGetS K101 L_28 (hw _ (List.mem_of_getElem? (i := 73) rfl)) Sh (fun T138 K138 => ?_)
      refine gGoto K138 L_31 ?_
      exact j37 _ K138 hs
  refine gIloadN K0 L_0 (v := mode) rfl ?_
  refine gIconst K0 (1 : Int32) L_1 rfl ?_
  refine gIand K0 L_2 ?_
  refine gIf_eq K0 L_3 (fun q3 => ?_) (fun q3 => ?_)
  · skip
    refine gIconst K0 (0 : Int32) L_10 rfl ?_
    exact j11 _ K0 (0 : Int32)
  · skip
    refine gIconst K0 (1 : Int32) L_6 rfl ?_
    refine gGoto K0 L_7 ?_
    exact j11 _ K0 (1 : Int32)
set_option maxRecDepth 65536 in
set_option maxHeartbeats 40000000 in
theorem comes_1 {Post : Tables → Env → Array Value → State → Outcome → State → Prop} (hpost : ∀ tb e args s v u, (limb_1_1.after args s (.returned v) u = true ∧ limb_1_2.after args s (.returned v) u = true ∧ True) → ReturnedEndW s (.returned v) u (Jvm.fieldLocs frame_1_writes args s ++ Jvm.arrayLocs frame_1_arrays args s ++ Jvm.staticLocs frame_1_statics s) 32 1152 → Post tb e args s (.returned v) u) :
    ArmFor flags0 classFile x code maxLocals ret World_1 tables_1 room_1 Calls_1 rest_1 Pre_1 Post := by
  intro l hfl _ _ p e ha hc hk s m args below hf hA hF happ hP
  obtain ⟨hcalls, hrest, hpre⟩ := hP
  obtain ⟨-, -, -, hnamed, -, -, -, hat⟩ := (Spec.applies_iff hf).mp happ
  obtain ⟨hg, hn⟩ := and_e (Cond.before_iff.mp (show (Jvm.Cond.and given_1 narrow_1).before args s = true from hpre))
  obtain ⟨hcount, hg0⟩ := and_e hg
  obtain ⟨ha0, hg1⟩ := and_e hg0
  obtain ⟨ha1, hg2⟩ := and_e hg1
  obtain ⟨ha2, hg3⟩ := and_e hg2
  have ha3 := hg3
  obtain ⟨w0, w1, w2, w3, rfl⟩ : ∃ w0 w1 w2 w3 : Value, args = #[w0, w1, w2, w3] := by
    have hs : args.size = 4 := by simpa [Cond.value, given_1] using hcount
    obtain ⟨L⟩ := args
    match L, hs with
    | [w0, w1, w2, w3], _ => exact ⟨w0, w1, w2, w3, rfl⟩
  have hw := fun d (hd : d ∈ tables_1) => atoms_spec (ws := Jvm.Cond.code x code maxLocals ret :: tables_1) hat d (List.mem_cons_of_mem _ hd)
  obtain ⟨hsets, hown0⟩ := atoms_of _ (rest_1_c_eq ▸ (show rest_1_c.before _ s = true from hrest))
  have hfit : Fit s := fun {y c} hc i hi => by
    obtain ⟨ha, rfl⟩ := Array.getElem?_eq_some_iff.mp hc
    have q := List.all_eq_true.mp ((Array.all_eq_true_iff_forall_mem.mp hF) _ (Array.getElem_mem ha)) i (List.mem_range.mpr hi)
    simpa [Array.getElem?_eq_getElem hi] using q
  obtain ⟨i0, e0⟩ := is_v ha0
  obtain rfl : w0 = (.int i0) := Option.some.inj e0
  obtain ⟨i1, e1⟩ := is_v ha1
  obtain rfl : w1 = (.int i1) := Option.some.inj e1
  obtain ⟨i2, e2⟩ := is_v ha2
  obtain rfl : w2 = (.int i2) := Option.some.inj e2
  obtain ⟨i3, e3⟩ := is_v ha3
  obtain rfl : w3 = (.int i3) := Option.some.inj e3
  obtain ⟨c0, hn⟩ := and_e hn
  obtain ⟨c1, hn⟩ := and_e hn
  obtain ⟨c2, hn⟩ := and_e hn
  have c3 := hn
  obtain ⟨x_CLIENT, ev_CLIENT⟩ := exa_v c0
  have S_CLIENT : Sta s s.heap "com/example/siloledger/siloledger/delivery/Account" "CLIENT" "Lcom/example/siloledger/siloledger/delivery/Account;" (.ref x_CLIENT) := Sta.start ev_CLIENT (Or.inr ⟨(hw _ (List.mem_of_getElem? (i := 1) rfl)), (hw _ (List.mem_of_getElem? (i := 2) rfl))⟩)
  have A_CLIENT : Exa s s.heap x_CLIENT "com/example/siloledger/siloledger/delivery/Account" := Exa.start ev_CLIENT c0
  obtain ⟨x_HOUSE, ev_HOUSE⟩ := exa_v c1
  have S_HOUSE : Sta s s.heap "com/example/siloledger/siloledger/delivery/Account" "HOUSE" "Lcom/example/siloledger/siloledger/delivery/Account;" (.ref x_HOUSE) := Sta.start ev_HOUSE (Or.inr ⟨(hw _ (List.mem_of_getElem? (i := 1) rfl)), (hw _ (List.mem_of_getElem? (i := 74) rfl))⟩)
  have A_HOUSE : Exa s s.heap x_HOUSE "com/example/siloledger/siloledger/delivery/Account" := Exa.start ev_HOUSE c1
  have o_HOUSE : Fld s s.heap x_HOUSE "java/lang/Enum" "ordinal" "I" (.int (0 : Int32)) := ord_of ev_HOUSE c2
  have o_CLIENT : Fld s s.heap x_CLIENT "java/lang/Enum" "ordinal" "I" (.int (1 : Int32)) := ord_of ev_CLIENT c3
  obtain ⟨z_COMPACT_STRINGS, ez_COMPACT_STRINGS⟩ := is_v (Cond.before_iff.mp (hsets _ (List.mem_of_getElem? (i := 1) rfl)))
  have S_COMPACT_STRINGS : Sta s s.heap "java/lang/String" "COMPACT_STRINGS" "Z" (.int z_COMPACT_STRINGS) := Sta.start ez_COMPACT_STRINGS (Or.inl (hsets _ (List.mem_of_getElem? (i := 0) rfl)))
  have nz_COMPACT_STRINGS : ¬ (z_COMPACT_STRINGS = (0 : Int32)) := gotF (Cond.eq_ints ez_COMPACT_STRINGS (Term.int_eval (0))) (not_v (Cond.before_iff.mp (hsets _ (List.mem_of_getElem? (i := 2) rfl))))
  obtain ⟨v_SIOOBE_FORMATTER, ez_SIOOBE_FORMATTER, r_SIOOBE_FORMATTER⟩ := isR_v (Cond.before_iff.mp (hsets _ (List.mem_of_getElem? (i := 8) rfl)))
  have S_SIOOBE_FORMATTER : Sta s s.heap "jdk/internal/util/Preconditions" "SIOOBE_FORMATTER" "Ljava/util/function/BiFunction;" v_SIOOBE_FORMATTER := Sta.start ez_SIOOBE_FORMATTER (Or.inl (hsets _ (List.mem_of_getElem? (i := 7) rfl)))
  have hE := (EW.cons (text := "") (hw _ (List.mem_of_getElem? (i := 75) rfl)) (by decide) EW.nil)
  have hCH := CHv.start hE (fun q hq => hcalls.1 q hq) (hsets _ (List.mem_of_getElem? (i := 2) rfl)) (hw _ (List.mem_of_getElem? (i := 26) rfl)) (hw _ (List.mem_of_getElem? (i := 8) rfl))
  obtain ⟨n, o, h1, h2, h3, v, L, rfl, ⟨hv, Kp, N⟩, hq⟩ := (c_law l s _ hw s.heap s.heap.size (Nat.le_refl _) hE i0 i1 i2 i3 z_COMPACT_STRINGS S_COMPACT_STRINGS nz_COMPACT_STRINGS x_HOUSE x_CLIENT S_HOUSE S_CLIENT).asW p e ha hc hk s m _ below hf ((Spec.applies_iff_loose hf).mp happ).1 ⟨rfl, State.Warmed39.refl s, rfl, hCH, (fun _ q => nomatch q)⟩ trivial
  subst hv
  refine ⟨n, _, h1, h2, h3, hpost _ _ _ _ _ _ ⟨Cond.after_iff.mpr rfl, Cond.after_iff.mpr (eq_i res_at (Term.int_eval (1)) rfl), trivial⟩ ⟨hq.2.1, hq.2.2.1, hq.2.2.2.1, (hq.2.2.2.2.sift fun y hy => Or.inr (N y hy)).mono (by decide) (by decide)⟩⟩
theorem main_1_1 : Claimed_1_1 := comes_1 fun _ _ _ _ _ _ h hF => ⟨h.1, hF⟩
theorem main_1_2 : Claimed_1_2 := comes_1 fun _ _ _ _ _ _ h hF => ⟨h.2.1, hF⟩

end Jvm.Pilot.@@N@@
namespace Jvm.Pilot.@@N@@
open Jvm Jvm.ClassFile Sem Op Lib Jvm.Free Jvm.Stand Jvm.Pilot.@@N@@.Jvm.D
/-! MADE BY PROGRAM (witnessworld.py) out of the Statement's table words and the real class files: 23 classes; the members and pool entries that the words name. The judged class is class 1, her method 3. -/
namespace start1
open Jvm.ClassFile
def u (s : String) : CpInfo := .utf8 (stringToUtf16 s)
/-- a pool by its gaps: so many unusable entries, then the entry; so many at the end -/
def gap : Nat → List CpInfo → List CpInfo
  | 0, r => r
  | n + 1, r => .unusable :: gap n r
def poolList (es : List (Nat × CpInfo)) (last : Nat) : List CpInfo := es.foldr (fun e r => gap e.1 (e.2 :: r)) (gap last [])
def pool (es : List (Nat × CpInfo)) (last : Nat) : Array CpInfo := ⟨poolList es last⟩
def fileOf (pool : Array CpInfo) (this : Nat) (attrs : Array Attribute := #[]) (ms : Array MethodInfo := #[]) (fl : Nat := 33) (sup : Nat := 0) (ifs : Array Nat := #[]) (fds : Array FieldInfo := #[]) : ClassFile where
  minorVersion := 0
  majorVersion := 65
  constantPool := pool
  accessFlags := fl
  thisClass := this
  superClass := sup
  interfaces := ifs
  fields := fds
  methods := ms
  attributes := attrs
def plain (name : String) (sup : Option ClassId) : Class where
  name := name
  kind := .ordinary
  loader := none
  accessFlags := 33
  super := sup
  interfaces := #[]
  cf := none
  fields := #[]
  methods := #[]
  instanceTypes := #[]
  staticTypes := #[]
  resolved := #[]
  callSites := []
  init := .initialized
  statics := none
  mirror := none

def pool0 : Array CpInfo := pool [(5, u "<init>"), (0, u "()V"), (1, .class_ 10), (1, u "java/lang/Object")] 113

def k0c0 : Code := { maxStack := 0, maxLocals := 1, code := object_method_1_code, exceptionTable := #[], attributes := #[] }
def k0m0 : Method := { name := "<init>", desc := "()V", sig := { parameters := [], returnType := none }, accessFlags := 1, code := some k0c0 }
/-- java/lang/Object -/
def k0 : Class := { plain "java/lang/Object" none with
  accessFlags := 33
  interfaces := #[]
  cf := some (fileOf pool0 8 #[] #[{ accessFlags := 1, nameIndex := 5, descriptorIndex := 6, attributes := #[] }] 33 0 #[] #[])
  fields := #[]
  methods := #[k0m0]
  instanceTypes := #[]
  staticTypes := #[]
  resolved := Array.replicate 124 none
  statics := none }

def pool1 : Array CpInfo := pool [(2, .class_ 4), (1, u "java/lang/Object"), (0, u "<init>"), (0, u "()V"), (0, .class_ 8), (0, u "java/lang/String"), (0, .methodref 7 10), (0, .nameAndType 5 11), (0, u "([C)V"), (0, .fieldref 13 14), (0, .class_ 15), (0, .nameAndType 16 17), (0, u "com/example/siloledger/siloledger/delivery/Account"), (0, u "HOUSE"), (0, u "Lcom/example/siloledger/siloledger/delivery/Account;"), (0, .fieldref 13 19), (0, .nameAndType 20 17), (0, u "CLIENT"), (0, .methodref 22 23), (0, .class_ 24), (0, .nameAndType 25 26), (0, u "com/example/siloledger/siloledger/delivery/PartyEqualsPinLaw"), (0, u "make"), (0, u "(ICC)Ljava/lang/String;"), (0, .class_ 28), (0, u "com/example/siloledger/siloledger/delivery/Party"), (0, .methodref 27 30), (0, .nameAndType 5 31), (0, u "(Ljava/lang/String;Lcom/example/siloledger/siloledger/delivery/Account;)V"), (0, .methodref 22 33), (0, .nameAndType 34 35), (0, u "sameChars"), (0, u "(ICCICC)Z"), (0, .methodref 27 37), (0, .nameAndType 38 39), (0, u "equals"), (0, u "(Ljava/lang/Object;)Z"), (3, u "law"), (0, u "(IIII)Z")] 2

def k1m0 : Method := { name := "<init>", desc := "()V", sig := { parameters := [], returnType := none }, accessFlags := 1, code := none }
def k1c1 : Code := { maxStack := 6, maxLocals := 3, code := method_2_code, exceptionTable := #[], attributes := #[] }
def k1m1 : Method := { name := "make", desc := "(ICC)Ljava/lang/String;", sig := { parameters := [.int, .char, .char], returnType := some (.object "java/lang/String") }, accessFlags := 10, code := some k1c1 }
def k1c2 : Code := { maxStack := 2, maxLocals := 6, code := method_3_code, exceptionTable := #[], attributes := #[] }
def k1m2 : Method := { name := "sameChars", desc := "(ICCICC)Z", sig := { parameters := [.int, .char, .char, .int, .char, .char], returnType := some .boolean }, accessFlags := 10, code := some k1c2 }
def k1c3 : Code := { maxStack := 6, maxLocals := 20, code := code, exceptionTable := #[], attributes := #[] }
def k1m3 : Method := { name := "law", desc := "(IIII)Z", sig := { parameters := [.int, .int, .int, .int], returnType := some .boolean }, accessFlags := 9, code := some k1c3 }
/-- com/example/siloledger/siloledger/delivery/PartyEqualsPinLaw -/
def k1 : Class := { plain "com/example/siloledger/siloledger/delivery/PartyEqualsPinLaw" (some 0) with
  accessFlags := 49
  interfaces := #[]
  cf := some (fileOf pool1 22 #[] #[{ accessFlags := 1, nameIndex := 5, descriptorIndex := 6, attributes := #[] }, { accessFlags := 10, nameIndex := 25, descriptorIndex := 26, attributes := #[] }, { accessFlags := 10, nameIndex := 34, descriptorIndex := 35, attributes := #[] }, { accessFlags := 9, nameIndex := 43, descriptorIndex := 44, attributes := #[] }] 49 2 #[] #[])
  fields := #[]
  methods := #[k1m0, k1m1, k1m2, k1m3]
  instanceTypes := #[]
  staticTypes := #[]
  resolved := Array.replicate 47 none
  statics := none }

def pool2 : Array CpInfo := pool [(1, .class_ 2), (0, u "java/lang/constant/Constable"), (0, .class_ 4), (0, u "java/lang/Object")] 6

/-- java/lang/constant/Constable -/
def k2 : Class := { plain "java/lang/constant/Constable" (some 0) with
  accessFlags := 1537
  interfaces := #[]
  cf := some (fileOf pool2 1 #[] #[] 1537 3 #[] #[])
  fields := #[]
  methods := #[]
  instanceTypes := #[]
  staticTypes := #[]
  resolved := Array.replicate 11 none
  statics := none }

def pool3 : Array CpInfo := pool [(1, .class_ 2), (0, u "java/lang/Comparable"), (0, .class_ 4), (0, u "java/lang/Object")] 7

/-- java/lang/Comparable -/
def k3 : Class := { plain "java/lang/Comparable" (some 0) with
  accessFlags := 1537
  interfaces := #[]
  cf := some (fileOf pool3 1 #[] #[] 1537 3 #[] #[])
  fields := #[]
  methods := #[]
  instanceTypes := #[]
  staticTypes := #[]
  resolved := Array.replicate 12 none
  statics := none }

def pool4 : Array CpInfo := pool [(1, .class_ 2), (0, u "java/io/Serializable"), (0, .class_ 4), (0, u "java/lang/Object")] 2

/-- java/io/Serializable -/
def k4 : Class := { plain "java/io/Serializable" (some 0) with
  accessFlags := 1537
  interfaces := #[]
  cf := some (fileOf pool4 1 #[] #[] 1537 3 #[] #[])
  fields := #[]
  methods := #[]
  instanceTypes := #[]
  staticTypes := #[]
  resolved := Array.replicate 7 none
  statics := none }

def pool5 : Array CpInfo := pool [(2, .class_ 4), (1, u "java/lang/Enum"), (0, u "name"), (0, u "Ljava/lang/String;"), (2, u "ordinal"), (0, u "I"), (1, .class_ 14), (1, u "java/lang/Object"), (4, u "hash"), (86, .class_ 108), (1, u "java/lang/Enum$EnumDesc"), (2, .class_ 112), (0, u "java/lang/constant/Constable"), (0, .class_ 114), (0, u "java/lang/Comparable"), (0, .class_ 116), (0, u "java/io/Serializable")] 87

/-- java/lang/Enum -/
def k5 : Class := { plain "java/lang/Enum" (some 0) with
  accessFlags := 1057
  interfaces := #[2, 3, 4]
  cf := some (fileOf pool5 2 #[.nestMembers #[106]] #[] 1057 12 #[111, 113, 115] #[{ accessFlags := 18, nameIndex := 5, descriptorIndex := 6, attributes := #[] }, { accessFlags := 18, nameIndex := 9, descriptorIndex := 10, attributes := #[] }, { accessFlags := 2, nameIndex := 19, descriptorIndex := 10, attributes := #[] }])
  fields := #[{ name := "name", type := (.object "java/lang/String"), accessFlags := 18, slot := 0, constantValue := 0 }, { name := "ordinal", type := .int, accessFlags := 18, slot := 1, constantValue := 0 }, { name := "hash", type := .int, accessFlags := 2, slot := 2, constantValue := 0 }]
  methods := #[]
  instanceTypes := #[(.object "java/lang/String"), .int, .int]
  staticTypes := #[]
  resolved := Array.replicate 204 none
  statics := none }

def pool6 : Array CpInfo := pool [(1, .class_ 2), (0, u "com/example/siloledger/siloledger/delivery/Account"), (2, u "HOUSE"), (0, u "Lcom/example/siloledger/siloledger/delivery/Account;"), (2, u "CLIENT"), (2, u "$VALUES"), (0, u "[Lcom/example/siloledger/siloledger/delivery/Account;"), (6, .class_ 22), (1, u "java/lang/Enum"), (8, u "code"), (0, u "Ljava/lang/String;")] 37

/-- com/example/siloledger/siloledger/delivery/Account -/
def k6 : Class := { plain "com/example/siloledger/siloledger/delivery/Account" (some 5) with
  accessFlags := 16433
  interfaces := #[]
  cf := some (fileOf pool6 1 #[] #[] 16433 20 #[] #[{ accessFlags := 16409, nameIndex := 5, descriptorIndex := 6, attributes := #[] }, { accessFlags := 16409, nameIndex := 9, descriptorIndex := 6, attributes := #[] }, { accessFlags := 18, nameIndex := 31, descriptorIndex := 32, attributes := #[] }, { accessFlags := 4122, nameIndex := 12, descriptorIndex := 13, attributes := #[] }])
  fields := #[{ name := "HOUSE", type := (.object "com/example/siloledger/siloledger/delivery/Account"), accessFlags := 16409, slot := 0, constantValue := 0 }, { name := "CLIENT", type := (.object "com/example/siloledger/siloledger/delivery/Account"), accessFlags := 16409, slot := 1, constantValue := 0 }, { name := "code", type := (.object "java/lang/String"), accessFlags := 18, slot := 3, constantValue := 0 }, { name := "$VALUES", type := (.array (.object "com/example/siloledger/siloledger/delivery/Account")), accessFlags := 4122, slot := 2, constantValue := 0 }]
  methods := #[]
  instanceTypes := #[(.object "java/lang/String"), .int, .int, (.object "java/lang/String")]
  staticTypes := #[(.object "com/example/siloledger/siloledger/delivery/Account"), (.object "com/example/siloledger/siloledger/delivery/Account"), (.array (.object "com/example/siloledger/siloledger/delivery/Account"))]
  resolved := Array.replicate 70 none
  statics := some 0 }

def pool7 : Array CpInfo := pool [(2, .class_ 4), (1, u "java/lang/CharSequence"), (42, .class_ 48), (0, u "java/lang/CharSequence$1CodePointIterator"), (10, .class_ 60), (0, u "java/lang/CharSequence$1CharIterator"), (5, .class_ 67), (0, u "java/lang/Object")] 63

/-- java/lang/CharSequence -/
def k7 : Class := { plain "java/lang/CharSequence" (some 0) with
  accessFlags := 1537
  interfaces := #[]
  cf := some (fileOf pool7 2 #[.nestMembers #[47, 59]] #[] 1537 66 #[] #[])
  fields := #[]
  methods := #[]
  instanceTypes := #[]
  staticTypes := #[]
  resolved := Array.replicate 131 none
  statics := none }

def pool8 : Array CpInfo := pool [(1, .class_ 2), (0, u "java/lang/constant/ConstantDesc"), (0, .class_ 4), (0, u "java/lang/Object")] 32

/-- java/lang/constant/ConstantDesc -/
def k8 : Class := { plain "java/lang/constant/ConstantDesc" (some 0) with
  accessFlags := 1537
  interfaces := #[]
  cf := some (fileOf pool8 1 #[] #[] 1537 3 #[] #[])
  fields := #[]
  methods := #[]
  instanceTypes := #[]
  staticTypes := #[]
  resolved := Array.replicate 37 none
  statics := none }

def pool9 : Array CpInfo := pool [(1, .methodref 2 3), (0, .class_ 4), (0, .nameAndType 5 6), (0, u "java/lang/Object"), (0, u "<init>"), (0, u "()V"), (0, .string 8), (0, u ""), (0, .fieldref 10 11), (0, .class_ 12), (0, .nameAndType 13 14), (0, u "java/lang/String"), (0, u "value"), (0, u "[B"), (0, .fieldref 10 16), (0, .nameAndType 17 18), (0, u "coder"), (0, u "B"), (2, u "hash"), (0, u "I"), (2, u "hashIsZero"), (0, u "Z"), (0, .methodref 10 28), (0, .nameAndType 5 29), (0, u "([CIILjava/lang/Void;)V"), (8, .fieldref 10 39), (0, .nameAndType 40 26), (0, u "COMPACT_STRINGS"), (1, .class_ 44), (1, u "java/lang/StringUTF16"), (0, u "compress"), (1, .methodref 42 48), (0, .nameAndType 49 50), (0, u "coderFromArrayLen"), (0, u "([BI)B"), (56, .class_ 109), (1, u "java/lang/StringLatin1"), (67, .methodref 42 178), (0, .nameAndType 45 179), (0, u "([CII)[B"), (361, .methodref 107 542), (0, .nameAndType 543 544), (0, u "equals"), (0, u "([B[B)Z"), (28, u "(Ljava/lang/Object;)Z"), (1, .class_ 576), (0, u "java/lang/CharSequence"), (22, u "CASE_INSENSITIVE_ORDER"), (0, u "Ljava/util/Comparator;"), (409, u "([C)V"), (90, u "serialPersistentFields"), (0, u "[Ljava/io/ObjectStreamField;"), (0, .class_ 1104), (0, u "java/lang/String$CaseInsensitiveComparator"), (1, .class_ 1107), (0, u "java/io/Serializable"), (0, .class_ 1109), (0, u "java/lang/Comparable"), (0, .class_ 1111), (0, u "java/lang/constant/Constable"), (0, .class_ 1113), (0, u "java/lang/constant/ConstantDesc"), (2, u "serialVersionUID"), (0, u "J"), (3, u "REPL"), (0, u "C"), (2, u "LATIN1"), (1, u "UTF16")] 323

def k9m0 : Method := { name := "<init>", desc := "()V", sig := { parameters := [], returnType := none }, accessFlags := 1, code := none }
def k9c1 : Code := { maxStack := 5, maxLocals := 2, code := jdk_42_method_3_code, exceptionTable := #[], attributes := #[] }
def k9m1 : Method := { name := "<init>", desc := "([C)V", sig := { parameters := [(.array .char)], returnType := none }, accessFlags := 1, code := some k9c1 }
def k9c2 : Code := { maxStack := 2, maxLocals := 3, code := jdk_42_method_66_code, exceptionTable := #[], attributes := #[] }
def k9m2 : Method := { name := "equals", desc := "(Ljava/lang/Object;)Z", sig := { parameters := [(.object "java/lang/Object")], returnType := some .boolean }, accessFlags := 1, code := some k9c2 }
def k9c3 : Code := { maxStack := 4, maxLocals := 6, code := jdk_42_method_149_code, exceptionTable := #[], attributes := #[] }
def k9m3 : Method := { name := "<init>", desc := "([CIILjava/lang/Void;)V", sig := { parameters := [(.array .char), .int, .int, (.object "java/lang/Void")], returnType := none }, accessFlags := 2, code := some k9c3 }
/-- java/lang/String -/
def k9 : Class := { plain "java/lang/String" (some 0) with
  accessFlags := 49
  interfaces := #[4, 3, 7, 2, 8]
  cf := some (fileOf pool9 10 #[.nestMembers #[1103]] #[{ accessFlags := 1, nameIndex := 5, descriptorIndex := 6, attributes := #[] }, { accessFlags := 1, nameIndex := 5, descriptorIndex := 1010, attributes := #[] }, { accessFlags := 1, nameIndex := 543, descriptorIndex := 573, attributes := #[] }, { accessFlags := 2, nameIndex := 5, descriptorIndex := 29, attributes := #[] }] 49 2 #[1106, 1108, 575, 1110, 1112] #[{ accessFlags := 18, nameIndex := 13, descriptorIndex := 14, attributes := #[] }, { accessFlags := 18, nameIndex := 17, descriptorIndex := 18, attributes := #[] }, { accessFlags := 2, nameIndex := 21, descriptorIndex := 22, attributes := #[] }, { accessFlags := 2, nameIndex := 25, descriptorIndex := 26, attributes := #[] }, { accessFlags := 26, nameIndex := 1116, descriptorIndex := 1117, attributes := #[] }, { accessFlags := 24, nameIndex := 40, descriptorIndex := 26, attributes := #[] }, { accessFlags := 26, nameIndex := 1101, descriptorIndex := 1102, attributes := #[] }, { accessFlags := 26, nameIndex := 1121, descriptorIndex := 1122, attributes := #[] }, { accessFlags := 25, nameIndex := 599, descriptorIndex := 600, attributes := #[] }, { accessFlags := 24, nameIndex := 1125, descriptorIndex := 18, attributes := #[] }, { accessFlags := 24, nameIndex := 1127, descriptorIndex := 18, attributes := #[] }])
  fields := #[{ name := "value", type := (.array .byte), accessFlags := 18, slot := 0, constantValue := 0 }, { name := "coder", type := .byte, accessFlags := 18, slot := 1, constantValue := 0 }, { name := "hash", type := .int, accessFlags := 2, slot := 2, constantValue := 0 }, { name := "hashIsZero", type := .boolean, accessFlags := 2, slot := 3, constantValue := 0 }, { name := "serialVersionUID", type := .long, accessFlags := 26, slot := 0, constantValue := 0 }, { name := "COMPACT_STRINGS", type := .boolean, accessFlags := 24, slot := 1, constantValue := 0 }, { name := "serialPersistentFields", type := (.array (.object "java/io/ObjectStreamField")), accessFlags := 26, slot := 2, constantValue := 0 }, { name := "REPL", type := .char, accessFlags := 26, slot := 3, constantValue := 0 }, { name := "CASE_INSENSITIVE_ORDER", type := (.object "java/util/Comparator"), accessFlags := 25, slot := 4, constantValue := 0 }, { name := "LATIN1", type := .byte, accessFlags := 24, slot := 5, constantValue := 0 }, { name := "UTF16", type := .byte, accessFlags := 24, slot := 6, constantValue := 0 }]
  methods := #[k9m0, k9m1, k9m2, k9m3]
  instanceTypes := #[(.array .byte), .byte, .int, .boolean]
  staticTypes := #[.long, .boolean, (.array (.object "java/io/ObjectStreamField")), .char, (.object "java/util/Comparator"), .byte, .byte]
  resolved := Array.replicate 1451 none
  statics := some 1 }

def pool10 : Array CpInfo := pool [(6, .class_ 8), (1, u "java/lang/Object"), (0, u "<init>"), (0, u "()V"), (1, .class_ 14), (1, u "java/lang/StringUTF16"), (31, u "$assertionsDisabled"), (0, u "Z"), (13, u "HI_BYTE_SHIFT"), (0, u "I"), (2, u "LO_BYTE_SHIFT"), (49, .methodref 12 116), (0, .nameAndType 117 118), (0, u "compress"), (0, u "([CI[BII)I"), (3, u "([CII)[B"), (138, u "coderFromArrayLen"), (0, u "([BI)B"), (106, .class_ 371), (1, u "java/lang/StringUTF16$LinesSpliterator"), (58, u "MAX_LENGTH"), (196, .class_ 628), (0, u "java/lang/StringUTF16$CodePointsSpliterator"), (0, .class_ 630), (0, u "java/lang/StringUTF16$CharsSpliterator")] 4

def k10m0 : Method := { name := "<init>", desc := "()V", sig := { parameters := [], returnType := none }, accessFlags := 0, code := none }
def k10c1 : Code := { maxStack := 2, maxLocals := 2, code := jdk_52_method_15_code, exceptionTable := #[], attributes := #[] }
def k10m1 : Method := { name := "coderFromArrayLen", desc := "([BI)B", sig := { parameters := [(.array .byte), .int], returnType := some .byte }, accessFlags := 8, code := some k10c1 }
def k10c2 : Code := { maxStack := 5, maxLocals := 6, code := jdk_52_method_16_code, exceptionTable := #[], attributes := #[] }
def k10m2 : Method := { name := "compress", desc := "([CII)[B", sig := { parameters := [(.array .char), .int, .int], returnType := some (.array .byte) }, accessFlags := 9, code := some k10c2 }
def k10c3 : Code := { maxStack := 3, maxLocals := 7, code := jdk_52_method_21_code, exceptionTable := #[], attributes := #[] }
def k10m3 : Method := { name := "compress", desc := "([CI[BII)I", sig := { parameters := [(.array .char), .int, (.array .byte), .int, .int], returnType := some .int }, accessFlags := 9, code := some k10c3 }
/-- java/lang/StringUTF16 -/
def k10 : Class := { plain "java/lang/StringUTF16" (some 0) with
  accessFlags := 48
  interfaces := #[]
  cf := some (fileOf pool10 12 #[.nestMembers #[627, 629, 369]] #[{ accessFlags := 0, nameIndex := 9, descriptorIndex := 10, attributes := #[] }, { accessFlags := 8, nameIndex := 261, descriptorIndex := 262, attributes := #[] }, { accessFlags := 9, nameIndex := 117, descriptorIndex := 122, attributes := #[] }, { accessFlags := 9, nameIndex := 117, descriptorIndex := 118, attributes := #[] }] 48 6 #[] #[{ accessFlags := 26, nameIndex := 61, descriptorIndex := 62, attributes := #[] }, { accessFlags := 26, nameIndex := 65, descriptorIndex := 62, attributes := #[] }, { accessFlags := 24, nameIndex := 430, descriptorIndex := 62, attributes := #[] }, { accessFlags := 4120, nameIndex := 46, descriptorIndex := 47, attributes := #[] }])
  fields := #[{ name := "HI_BYTE_SHIFT", type := .int, accessFlags := 26, slot := 0, constantValue := 0 }, { name := "LO_BYTE_SHIFT", type := .int, accessFlags := 26, slot := 1, constantValue := 0 }, { name := "MAX_LENGTH", type := .int, accessFlags := 24, slot := 2, constantValue := 0 }, { name := "$assertionsDisabled", type := .boolean, accessFlags := 4120, slot := 3, constantValue := 0 }]
  methods := #[k10m0, k10m1, k10m2, k10m3]
  instanceTypes := #[]
  staticTypes := #[.int, .int, .int, .boolean]
  resolved := Array.replicate 635 none
  statics := none }

def pool11 : Array CpInfo := pool [(1, .methodref 2 3), (0, .class_ 4), (0, .nameAndType 5 6), (0, u "java/lang/Object"), (0, u "<init>"), (0, u "()V"), (0, .class_ 8), (0, u "java/lang/Record")] 13

def k11c0 : Code := { maxStack := 1, maxLocals := 1, code := jdk_30_method_1_code, exceptionTable := #[], attributes := #[] }
def k11m0 : Method := { name := "<init>", desc := "()V", sig := { parameters := [], returnType := none }, accessFlags := 4, code := some k11c0 }
/-- java/lang/Record -/
def k11 : Class := { plain "java/lang/Record" (some 0) with
  accessFlags := 1057
  interfaces := #[]
  cf := some (fileOf pool11 7 #[] #[{ accessFlags := 4, nameIndex := 5, descriptorIndex := 6, attributes := #[] }] 1057 2 #[] #[])
  fields := #[]
  methods := #[k11m0]
  instanceTypes := #[]
  staticTypes := #[]
  resolved := Array.replicate 22 none
  statics := none }

def pool12 : Array CpInfo := pool [(1, .methodref 2 3), (0, .class_ 4), (0, .nameAndType 5 6), (0, u "java/lang/Record"), (0, u "<init>"), (0, u "()V"), (0, .fieldref 8 9), (0, .class_ 10), (0, .nameAndType 11 12), (0, u "com/example/siloledger/siloledger/delivery/Party"), (0, u "member"), (0, u "Ljava/lang/String;"), (0, .fieldref 8 14), (0, .nameAndType 15 16), (0, u "account"), (0, u "Lcom/example/siloledger/siloledger/delivery/Account;"), (34, u "(Ljava/lang/String;Lcom/example/siloledger/siloledger/delivery/Account;)V"), (0, .methodref 53 54), (0, .class_ 55), (0, .nameAndType 56 57), (0, u "java/lang/String"), (0, u "equals"), (0, u "(Ljava/lang/Object;)Z")] 48

def k12c0 : Code := { maxStack := 2, maxLocals := 3, code := prog_48_method_1_code, exceptionTable := #[], attributes := #[] }
def k12m0 : Method := { name := "<init>", desc := "(Ljava/lang/String;Lcom/example/siloledger/siloledger/delivery/Account;)V", sig := { parameters := [(.object "java/lang/String"), (.object "com/example/siloledger/siloledger/delivery/Account")], returnType := none }, accessFlags := 1, code := some k12c0 }
def k12c1 : Code := { maxStack := 2, maxLocals := 3, code := prog_48_method_5_code, exceptionTable := #[], attributes := #[] }
def k12m1 : Method := { name := "equals", desc := "(Ljava/lang/Object;)Z", sig := { parameters := [(.object "java/lang/Object")], returnType := some .boolean }, accessFlags := 1, code := some k12c1 }
/-- com/example/siloledger/siloledger/delivery/Party -/
def k12 : Class := { plain "com/example/siloledger/siloledger/delivery/Party" (some 11) with
  accessFlags := 49
  interfaces := #[]
  cf := some (fileOf pool12 8 #[] #[{ accessFlags := 1, nameIndex := 5, descriptorIndex := 51, attributes := #[] }, { accessFlags := 1, nameIndex := 56, descriptorIndex := 57, attributes := #[] }] 49 2 #[] #[{ accessFlags := 18, nameIndex := 11, descriptorIndex := 12, attributes := #[] }, { accessFlags := 18, nameIndex := 15, descriptorIndex := 16, attributes := #[] }])
  fields := #[{ name := "member", type := (.object "java/lang/String"), accessFlags := 18, slot := 0, constantValue := 0 }, { name := "account", type := (.object "com/example/siloledger/siloledger/delivery/Account"), accessFlags := 18, slot := 1, constantValue := 0 }]
  methods := #[k12m0, k12m1]
  instanceTypes := #[(.object "java/lang/String"), (.object "com/example/siloledger/siloledger/delivery/Account")]
  staticTypes := #[]
  resolved := Array.replicate 106 none
  statics := none }

def pool13 : Array CpInfo := pool [(4, .class_ 6), (1, u "java/lang/Object"), (0, u "<init>"), (0, u "()V"), (5, .class_ 16), (1, u "java/lang/StringLatin1"), (104, u "$assertionsDisabled"), (0, u "Z"), (98, .class_ 223), (1, u "java/lang/StringLatin1$LinesSpliterator"), (57, u "equals"), (0, u "([B[B)Z"), (107, .class_ 391), (0, u "java/lang/StringLatin1$CharsSpliterator")] 3

def k13m0 : Method := { name := "<init>", desc := "()V", sig := { parameters := [], returnType := none }, accessFlags := 0, code := none }
def k13c1 : Code := { maxStack := 3, maxLocals := 3, code := jdk_43_method_13_code, exceptionTable := #[], attributes := #[] }
def k13m1 : Method := { name := "equals", desc := "([B[B)Z", sig := { parameters := [(.array .byte), (.array .byte)], returnType := some .boolean }, accessFlags := 9, code := some k13c1 }
/-- java/lang/StringLatin1 -/
def k13 : Class := { plain "java/lang/StringLatin1" (some 0) with
  accessFlags := 48
  interfaces := #[]
  cf := some (fileOf pool13 14 #[.nestMembers #[390, 221]] #[{ accessFlags := 0, nameIndex := 7, descriptorIndex := 8, attributes := #[] }, { accessFlags := 9, nameIndex := 281, descriptorIndex := 282, attributes := #[] }] 48 4 #[] #[{ accessFlags := 4120, nameIndex := 121, descriptorIndex := 122, attributes := #[] }])
  fields := #[{ name := "$assertionsDisabled", type := .boolean, accessFlags := 4120, slot := 0, constantValue := 0 }]
  methods := #[k13m0, k13m1]
  instanceTypes := #[]
  staticTypes := #[.boolean]
  resolved := Array.replicate 395 none
  statics := none }

def pool14 : Array CpInfo := pool [(2, .class_ 4), (1, u "java/lang/Object"), (0, u "<init>"), (0, u "()V"), (17, .class_ 26), (1, u "jdk/internal/util/Preconditions"), (28, .class_ 56), (0, u "jdk/internal/util/Preconditions$4"), (57, .class_ 115), (0, u "jdk/internal/util/Preconditions$1"), (7, u "SIOOBE_FORMATTER"), (0, u "Ljava/util/function/BiFunction;"), (0, .class_ 126), (0, u "jdk/internal/util/Preconditions$2"), (3, u "AIOOBE_FORMATTER"), (0, .class_ 132), (0, u "jdk/internal/util/Preconditions$3"), (3, u "IOOBE_FORMATTER")] 57

def k14m0 : Method := { name := "<init>", desc := "()V", sig := { parameters := [], returnType := none }, accessFlags := 1, code := none }
/-- jdk/internal/util/Preconditions -/
def k14 : Class := { plain "jdk/internal/util/Preconditions" (some 0) with
  accessFlags := 33
  interfaces := #[]
  cf := some (fileOf pool14 24 #[.nestMembers #[55, 131, 125, 114]] #[{ accessFlags := 1, nameIndex := 5, descriptorIndex := 6, attributes := #[] }] 33 2 #[] #[{ accessFlags := 25, nameIndex := 123, descriptorIndex := 124, attributes := #[] }, { accessFlags := 25, nameIndex := 130, descriptorIndex := 124, attributes := #[] }, { accessFlags := 25, nameIndex := 136, descriptorIndex := 124, attributes := #[] }])
  fields := #[{ name := "SIOOBE_FORMATTER", type := (.object "java/util/function/BiFunction"), accessFlags := 25, slot := 0, constantValue := 0 }, { name := "AIOOBE_FORMATTER", type := (.object "java/util/function/BiFunction"), accessFlags := 25, slot := 1, constantValue := 0 }, { name := "IOOBE_FORMATTER", type := (.object "java/util/function/BiFunction"), accessFlags := 25, slot := 2, constantValue := 0 }]
  methods := #[k14m0]
  instanceTypes := #[]
  staticTypes := #[(.object "java/util/function/BiFunction"), (.object "java/util/function/BiFunction"), (.object "java/util/function/BiFunction")]
  resolved := Array.replicate 194 none
  statics := some 2 }

def pool15 : Array CpInfo := pool [(9, u "<init>"), (6, .class_ 18), (1, u "java/lang/Object"), (0, u "()V"), (1, .class_ 23), (1, u "jdk/internal/util/ArraysSupport"), (0, u "LOG2_ARRAY_LONG_INDEX_SCALE"), (0, u "I"), (2, u "U"), (0, u "Ljdk/internal/misc/Unsafe;"), (8, u "BIG_ENDIAN"), (0, u "Z"), (8, u "LOG2_BYTE_BIT_SIZE"), (4, u "LOG2_ARRAY_INT_INDEX_SCALE"), (54, u "JLA"), (0, u "Ljdk/internal/access/JavaLangAccess;"), (11, u "LOG2_ARRAY_BOOLEAN_INDEX_SCALE"), (9, u "LOG2_ARRAY_BYTE_INDEX_SCALE"), (5, u "LOG2_ARRAY_CHAR_INDEX_SCALE"), (5, u "LOG2_ARRAY_SHORT_INDEX_SCALE"), (18, u "LOG2_ARRAY_FLOAT_INDEX_SCALE"), (24, u "LOG2_ARRAY_DOUBLE_INDEX_SCALE"), (89, u "T_BOOLEAN"), (2, u "T_CHAR"), (1, u "T_FLOAT"), (1, u "T_DOUBLE"), (1, u "T_BYTE"), (1, u "T_SHORT"), (1, u "T_INT"), (1, u "T_LONG"), (1, u "SOFT_MAX_ARRAY_LENGTH")] 83

def k15m0 : Method := { name := "<init>", desc := "()V", sig := { parameters := [], returnType := none }, accessFlags := 2, code := none }
/-- jdk/internal/util/ArraysSupport -/
def k15 : Class := { plain "jdk/internal/util/ArraysSupport" (some 0) with
  accessFlags := 33
  interfaces := #[]
  cf := some (fileOf pool15 21 #[] #[{ accessFlags := 2, nameIndex := 9, descriptorIndex := 19, attributes := #[] }] 33 16 #[] #[{ accessFlags := 24, nameIndex := 28, descriptorIndex := 29, attributes := #[] }, { accessFlags := 26, nameIndex := 38, descriptorIndex := 39, attributes := #[] }, { accessFlags := 25, nameIndex := 121, descriptorIndex := 25, attributes := #[] }, { accessFlags := 25, nameIndex := 131, descriptorIndex := 25, attributes := #[] }, { accessFlags := 25, nameIndex := 137, descriptorIndex := 25, attributes := #[] }, { accessFlags := 25, nameIndex := 143, descriptorIndex := 25, attributes := #[] }, { accessFlags := 25, nameIndex := 53, descriptorIndex := 25, attributes := #[] }, { accessFlags := 25, nameIndex := 24, descriptorIndex := 25, attributes := #[] }, { accessFlags := 25, nameIndex := 162, descriptorIndex := 25, attributes := #[] }, { accessFlags := 25, nameIndex := 187, descriptorIndex := 25, attributes := #[] }, { accessFlags := 26, nameIndex := 48, descriptorIndex := 25, attributes := #[] }, { accessFlags := 25, nameIndex := 277, descriptorIndex := 25, attributes := #[] }, { accessFlags := 25, nameIndex := 280, descriptorIndex := 25, attributes := #[] }, { accessFlags := 25, nameIndex := 282, descriptorIndex := 25, attributes := #[] }, { accessFlags := 25, nameIndex := 284, descriptorIndex := 25, attributes := #[] }, { accessFlags := 25, nameIndex := 286, descriptorIndex := 25, attributes := #[] }, { accessFlags := 25, nameIndex := 288, descriptorIndex := 25, attributes := #[] }, { accessFlags := 25, nameIndex := 290, descriptorIndex := 25, attributes := #[] }, { accessFlags := 25, nameIndex := 292, descriptorIndex := 25, attributes := #[] }, { accessFlags := 26, nameIndex := 108, descriptorIndex := 109, attributes := #[] }, { accessFlags := 25, nameIndex := 294, descriptorIndex := 25, attributes := #[] }])
  fields := #[{ name := "U", type := (.object "jdk/internal/misc/Unsafe"), accessFlags := 24, slot := 0, constantValue := 0 }, { name := "BIG_ENDIAN", type := .boolean, accessFlags := 26, slot := 1, constantValue := 0 }, { name := "LOG2_ARRAY_BOOLEAN_INDEX_SCALE", type := .int, accessFlags := 25, slot := 2, constantValue := 0 }, { name := "LOG2_ARRAY_BYTE_INDEX_SCALE", type := .int, accessFlags := 25, slot := 3, constantValue := 0 }, { name := "LOG2_ARRAY_CHAR_INDEX_SCALE", type := .int, accessFlags := 25, slot := 4, constantValue := 0 }, { name := "LOG2_ARRAY_SHORT_INDEX_SCALE", type := .int, accessFlags := 25, slot := 5, constantValue := 0 }, { name := "LOG2_ARRAY_INT_INDEX_SCALE", type := .int, accessFlags := 25, slot := 6, constantValue := 0 }, { name := "LOG2_ARRAY_LONG_INDEX_SCALE", type := .int, accessFlags := 25, slot := 7, constantValue := 0 }, { name := "LOG2_ARRAY_FLOAT_INDEX_SCALE", type := .int, accessFlags := 25, slot := 8, constantValue := 0 }, { name := "LOG2_ARRAY_DOUBLE_INDEX_SCALE", type := .int, accessFlags := 25, slot := 9, constantValue := 0 }, { name := "LOG2_BYTE_BIT_SIZE", type := .int, accessFlags := 26, slot := 10, constantValue := 0 }, { name := "T_BOOLEAN", type := .int, accessFlags := 25, slot := 11, constantValue := 0 }, { name := "T_CHAR", type := .int, accessFlags := 25, slot := 12, constantValue := 0 }, { name := "T_FLOAT", type := .int, accessFlags := 25, slot := 13, constantValue := 0 }, { name := "T_DOUBLE", type := .int, accessFlags := 25, slot := 14, constantValue := 0 }, { name := "T_BYTE", type := .int, accessFlags := 25, slot := 15, constantValue := 0 }, { name := "T_SHORT", type := .int, accessFlags := 25, slot := 16, constantValue := 0 }, { name := "T_INT", type := .int, accessFlags := 25, slot := 17, constantValue := 0 }, { name := "T_LONG", type := .int, accessFlags := 25, slot := 18, constantValue := 0 }, { name := "JLA", type := (.object "jdk/internal/access/JavaLangAccess"), accessFlags := 26, slot := 19, constantValue := 0 }, { name := "SOFT_MAX_ARRAY_LENGTH", type := .int, accessFlags := 25, slot := 20, constantValue := 0 }]
  methods := #[k15m0]
  instanceTypes := #[]
  staticTypes := #[(.object "jdk/internal/misc/Unsafe"), .boolean, .int, .int, .int, .int, .int, .int, .int, .int, .int, .int, .int, .int, .int, .int, .int, .int, .int, (.object "jdk/internal/access/JavaLangAccess"), .int]
  resolved := Array.replicate 378 none
  statics := none }

def pool16 : Array CpInfo := pool [(1, u "java/lang/Cloneable"), (0, .class_ 1), (0, u "java/lang/Object"), (0, .class_ 3)] 3

/-- java/lang/Cloneable -/
def k16 : Class := { plain "java/lang/Cloneable" (some 0) with
  accessFlags := 1537
  interfaces := #[]
  cf := some (fileOf pool16 2 #[] #[] 1537 4 #[] #[])
  fields := #[]
  methods := #[]
  instanceTypes := #[]
  staticTypes := #[]
  resolved := Array.replicate 8 none
  statics := none }

/-- the primitive byte -/
def k17 : Class := { plain "byte" none with kind := .primitive 'B', accessFlags := 0x411 }
/-- [B -/
def k18 : Class := { plain "[B" (some 0) with kind := .array 17 .byte, interfaces := #[16, 4], accessFlags := 1041 }

/-- the primitive char -/
def k19 : Class := { plain "char" none with kind := .primitive 'C', accessFlags := 0x411 }
/-- [C -/
def k20 : Class := { plain "[C" (some 0) with kind := .array 19 .char, interfaces := #[16, 4], accessFlags := 1041 }

/-- the primitive int -/
def k21 : Class := { plain "int" none with kind := .primitive 'I', accessFlags := 0x411 }
/-- [I -/
def k22 : Class := { plain "[I" (some 0) with kind := .array 21 .int, interfaces := #[16, 4], accessFlags := 1041 }

def heap : Heap := #[{ cls := 6, slots := #[.ref 3, .ref 4, .null], vm := .statics 6 },
  { cls := 9, slots := #[.long 0, .int 1, .null, .int 0, .null, .int 0, .int 0], vm := .statics 9 },
  { cls := 14, slots := #[.null, .null, .null], vm := .statics 14 },
  { cls := 6, slots := #[.null, .int 0, .int 0, .null], vm := .none },
  { cls := 6, slots := #[.null, .int 1, .int 0, .null], vm := .none }]
def classes : Array Class := #[k0, k1, k2, k3, k4, k5, k6, k7, k8, k9, k10, k11, k12, k13, k14, k15, k16, k17, k18, k19, k20, k21, k22]
def interned : List (Array UInt16 × Addr) := []
def slotsUsed : Nat := 21
def theMethod : MethodId := ⟨1, 3⟩
def args0 : Array Value := #[.int 5, .int 6, .int 0, .int 2]
def aboutOver (below : List Frame) : State where
  vm := { classes := classes, interned := interned.toArray }
  heap := heap
  slotsUsed := slotsUsed
  threads := #[{ frames := .invoking theMethod args0 :: below }]
def below0 : List Frame := [.native { method := ⟨0, 0⟩, args := #[] }]
def about1 : State := aboutOver below0
def p0 : Program := .bare "" "" ""
def e0 : Env := launch0.env 0 0 0
theorem w_frames : about1.frames = Frame.invoking theMethod args0 :: below0 := rfl
set_option maxRecDepth 65536 in
theorem w_args : argsFit about1.vm theMethod args0 = true := by decide +kernel
set_option maxRecDepth 65536 in
theorem w_heap : heapFits about1 = true := by decide +kernel
set_option maxRecDepth 65536 in
theorem w_runnable : about1.curStatus? = some .runnable := by decide +kernel
set_option maxRecDepth 65536 in
theorem w_alone : about1.alone = true := by decide +kernel
set_option maxRecDepth 65536 in
theorem w_named : about1.methodNamed? x = some theMethod := by decide +kernel
set_option maxRecDepth 65536 in
theorem w_hears : about1.hears theMethod below0 = true := by decide +kernel
set_option maxRecDepth 65536 in
theorem w_ripe : about1.ripe theMethod args0 below0 = true := by decide +kernel
theorem w_running : about1.status = .running := rfl
set_option maxRecDepth 65536 in
theorem w_room : about1.hasRoom e0.platform room_1 = true :=
  launch0.hasRoom_least _ room_1 (by decide +kernel) (by decide +kernel) (by decide +kernel) (by decide +kernel) (by decide +kernel) (by decide +kernel)
theorem allAtoms_all (ts : List Jvm.Cond) (a : Array Jvm.Value) (st : Jvm.State) : (allAtoms ts).before a st = ts.all (fun c => c.before a st) := by
  induction ts with
  | nil => rfl
  | cons c t ih =>
    show (Jvm.Cond.and c (allAtoms t)).before a st = _
    rw [Jvm.Cond.before_and, ih, List.all_cons]
def words1 : List Jvm.Cond := Jvm.Cond.code x code maxLocals ret :: tables_1
/-- a 'code' word, met by the world's own term for the bytes: nothing is compared byte by byte -/
theorem code_word {y : MethodName} {bytes : ByteArray} {mx : Nat} {rt : Option FieldType} {a : Array Value} {s : State} {m : MethodId} {meth : Method} {c : Code} (h1 : s.methodNamed? y = some m) (h2 : s.vm.method? m = some meth) (h3 : meth.code = some c) (h4 : c.code = bytes)
    (h5 : (c.maxLocals == mx && c.exceptionTable.isEmpty && decide (c.maxStack ≤ mostOperands) && decide (meth.sig.returnType = rt) && !meth.locks && decide (parseMethodDescriptor y.desc = some meth.sig)) = true) : (Jvm.Cond.code y bytes mx rt).before a s = true := by
  simp only [Bool.and_eq_true, beq_iff_eq, Bool.not_eq_true', decide_eq_true_eq] at h5
  obtain ⟨⟨⟨⟨⟨g1, g2⟩, g3⟩, g4⟩, g5⟩, g6⟩ := h5
  simp [Cond.before, Cond.holds, Cond.value, h1, h2, h3, h4, g1, g2, g3, g4, g5, g6]
def isCode : Jvm.Cond → Bool
  | .code _ _ _ _ => true
  | _ => false
theorem all_split {L : List Jvm.Cond} {P : Jvm.Cond → Bool} (h1 : L.all (fun c => isCode c || P c) = true) (h2 : ∀ c ∈ L.filter isCode, P c = true) : L.all P = true := by
  refine List.all_eq_true.mpr fun c hc => ?_
  have h := List.all_eq_true.mp h1 c hc
  rcases Bool.eq_false_or_eq_true (isCode c) with hi | hi
  · exact h2 c (List.mem_filter.mpr ⟨hc, hi⟩)
  · simpa [hi] using h
set_option maxRecDepth 65536 in
theorem w_c0 : (Jvm.Cond.code x code maxLocals ret).before args0 about1 = true := code_word (m := ⟨1, 3⟩) (meth := k1m3) (c := k1c3) (by decide +kernel) rfl rfl rfl (by decide +kernel)
set_option maxRecDepth 65536 in
theorem w_c1 : (Jvm.Cond.code ({ cls := "com/example/siloledger/siloledger/delivery/PartyEqualsPinLaw", name := "make", desc := "(ICC)Ljava/lang/String;" } : Jvm.MethodName) method_2_code (3 : Nat) (Option.some (Jvm.ClassFile.FieldType.object "java/lang/String"))).before args0 about1 = true := code_word (m := ⟨1, 1⟩) (meth := k1m1) (c := k1c1) (by decide +kernel) rfl rfl rfl (by decide +kernel)
set_option maxRecDepth 65536 in
theorem w_c2 : (Jvm.Cond.code ({ cls := "java/lang/String", name := "<init>", desc := "([C)V" } : Jvm.MethodName) jdk_42_method_3_code (2 : Nat) (Option.none : Option Jvm.ClassFile.FieldType)).before args0 about1 = true := code_word (m := ⟨9, 1⟩) (meth := k9m1) (c := k9c1) (by decide +kernel) rfl rfl rfl (by decide +kernel)
set_option maxRecDepth 65536 in
theorem w_c3 : (Jvm.Cond.code ({ cls := "java/lang/String", name := "<init>", desc := "([CIILjava/lang/Void;)V" } : Jvm.MethodName) jdk_42_method_149_code (6 : Nat) (Option.none : Option Jvm.ClassFile.FieldType)).before args0 about1 = true := code_word (m := ⟨9, 3⟩) (meth := k9m3) (c := k9c3) (by decide +kernel) rfl rfl rfl (by decide +kernel)
set_option maxRecDepth 65536 in
theorem w_c4 : (Jvm.Cond.code ({ cls := "java/lang/Object", name := "<init>", desc := "()V" } : Jvm.MethodName) object_method_1_code (1 : Nat) (Option.none : Option Jvm.ClassFile.FieldType)).before args0 about1 = true := code_word (m := ⟨0, 0⟩) (meth := k0m0) (c := k0c0) (by decide +kernel) rfl rfl rfl (by decide +kernel)
set_option maxRecDepth 65536 in
theorem w_c5 : (Jvm.Cond.code ({ cls := "java/lang/StringUTF16", name := "compress", desc := "([CII)[B" } : Jvm.MethodName) jdk_52_method_16_code (6 : Nat) (Option.some (Jvm.ClassFile.FieldType.array Jvm.ClassFile.FieldType.byte))).before args0 about1 = true := code_word (m := ⟨10, 2⟩) (meth := k10m2) (c := k10c2) (by decide +kernel) rfl rfl rfl (by decide +kernel)
set_option maxRecDepth 65536 in
theorem w_c6 : (Jvm.Cond.code ({ cls := "java/lang/StringUTF16", name := "compress", desc := "([CI[BII)I" } : Jvm.MethodName) jdk_52_method_21_code (7 : Nat) (Option.some Jvm.ClassFile.FieldType.int)).before args0 about1 = true := code_word (m := ⟨10, 3⟩) (meth := k10m3) (c := k10c3) (by decide +kernel) rfl rfl rfl (by decide +kernel)
set_option maxRecDepth 65536 in
theorem w_c7 : (Jvm.Cond.code ({ cls := "java/lang/StringUTF16", name := "coderFromArrayLen", desc := "([BI)B" } : Jvm.MethodName) jdk_52_method_15_code (2 : Nat) (Option.some Jvm.ClassFile.FieldType.byte)).before args0 about1 = true := code_word (m := ⟨10, 1⟩) (meth := k10m1) (c := k10c1) (by decide +kernel) rfl rfl rfl (by decide +kernel)
set_option maxRecDepth 65536 in
theorem w_c8 : (Jvm.Cond.code ({ cls := "com/example/siloledger/siloledger/delivery/Party", name := "<init>", desc := "(Ljava/lang/String;Lcom/example/siloledger/siloledger/delivery/Account;)V" } : Jvm.MethodName) prog_48_method_1_code (3 : Nat) (Option.none : Option Jvm.ClassFile.FieldType)).before args0 about1 = true := code_word (m := ⟨12, 0⟩) (meth := k12m0) (c := k12c0) (by decide +kernel) rfl rfl rfl (by decide +kernel)
set_option maxRecDepth 65536 in
theorem w_c9 : (Jvm.Cond.code ({ cls := "java/lang/Record", name := "<init>", desc := "()V" } : Jvm.MethodName) jdk_30_method_1_code (1 : Nat) (Option.none : Option Jvm.ClassFile.FieldType)).before args0 about1 = true := code_word (m := ⟨11, 0⟩) (meth := k11m0) (c := k11c0) (by decide +kernel) rfl rfl rfl (by decide +kernel)
set_option maxRecDepth 65536 in
theorem w_c10 : (Jvm.Cond.code ({ cls := "com/example/siloledger/siloledger/delivery/PartyEqualsPinLaw", name := "sameChars", desc := "(ICCICC)Z" } : Jvm.MethodName) method_3_code (6 : Nat) (Option.some Jvm.ClassFile.FieldType.boolean)).before args0 about1 = true := code_word (m := ⟨1, 2⟩) (meth := k1m2) (c := k1c2) (by decide +kernel) rfl rfl rfl (by decide +kernel)
set_option maxRecDepth 65536 in
theorem w_c11 : (Jvm.Cond.code ({ cls := "com/example/siloledger/siloledger/delivery/Party", name := "equals", desc := "(Ljava/lang/Object;)Z" } : Jvm.MethodName) prog_48_method_5_code (3 : Nat) (Option.some Jvm.ClassFile.FieldType.boolean)).before args0 about1 = true := code_word (m := ⟨12, 1⟩) (meth := k12m1) (c := k12c1) (by decide +kernel) rfl rfl rfl (by decide +kernel)
set_option maxRecDepth 65536 in
theorem w_c12 : (Jvm.Cond.code ({ cls := "java/lang/String", name := "equals", desc := "(Ljava/lang/Object;)Z" } : Jvm.MethodName) jdk_42_method_66_code (3 : Nat) (Option.some Jvm.ClassFile.FieldType.boolean)).before args0 about1 = true := code_word (m := ⟨9, 2⟩) (meth := k9m2) (c := k9c2) (by decide +kernel) rfl rfl rfl (by decide +kernel)
set_option maxRecDepth 65536 in
theorem w_c13 : (Jvm.Cond.code ({ cls := "java/lang/StringLatin1", name := "equals", desc := "([B[B)Z" } : Jvm.MethodName) jdk_43_method_13_code (3 : Nat) (Option.some Jvm.ClassFile.FieldType.boolean)).before args0 about1 = true := code_word (m := ⟨13, 1⟩) (meth := k13m1) (c := k13c1) (by decide +kernel) rfl rfl rfl (by decide +kernel)
def codes1 : List Jvm.Cond := [Jvm.Cond.code x code maxLocals ret, Jvm.Cond.code ({ cls := "com/example/siloledger/siloledger/delivery/PartyEqualsPinLaw", name := "make", desc := "(ICC)Ljava/lang/String;" } : Jvm.MethodName) method_2_code (3 : Nat) (Option.some (Jvm.ClassFile.FieldType.object "java/lang/String")), Jvm.Cond.code ({ cls := "java/lang/String", name := "<init>", desc := "([C)V" } : Jvm.MethodName) jdk_42_method_3_code (2 : Nat) (Option.none : Option Jvm.ClassFile.FieldType), Jvm.Cond.code ({ cls := "java/lang/String", name := "<init>", desc := "([CIILjava/lang/Void;)V" } : Jvm.MethodName) jdk_42_method_149_code (6 : Nat) (Option.none : Option Jvm.ClassFile.FieldType), Jvm.Cond.code ({ cls := "java/lang/Object", name := "<init>", desc := "()V" } : Jvm.MethodName) object_method_1_code (1 : Nat) (Option.none : Option Jvm.ClassFile.FieldType), Jvm.Cond.code ({ cls := "java/lang/StringUTF16", name := "compress", desc := "([CII)[B" } : Jvm.MethodName) jdk_52_method_16_code (6 : Nat) (Option.some (Jvm.ClassFile.FieldType.array Jvm.ClassFile.FieldType.byte)), Jvm.Cond.code ({ cls := "java/lang/StringUTF16", name := "compress", desc := "([CI[BII)I" } : Jvm.MethodName) jdk_52_method_21_code (7 : Nat) (Option.some Jvm.ClassFile.FieldType.int), Jvm.Cond.code ({ cls := "java/lang/StringUTF16", name := "coderFromArrayLen", desc := "([BI)B" } : Jvm.MethodName) jdk_52_method_15_code (2 : Nat) (Option.some Jvm.ClassFile.FieldType.byte), Jvm.Cond.code ({ cls := "com/example/siloledger/siloledger/delivery/Party", name := "<init>", desc := "(Ljava/lang/String;Lcom/example/siloledger/siloledger/delivery/Account;)V" } : Jvm.MethodName) prog_48_method_1_code (3 : Nat) (Option.none : Option Jvm.ClassFile.FieldType), Jvm.Cond.code ({ cls := "java/lang/Record", name := "<init>", desc := "()V" } : Jvm.MethodName) jdk_30_method_1_code (1 : Nat) (Option.none : Option Jvm.ClassFile.FieldType), Jvm.Cond.code ({ cls := "com/example/siloledger/siloledger/delivery/PartyEqualsPinLaw", name := "sameChars", desc := "(ICCICC)Z" } : Jvm.MethodName) method_3_code (6 : Nat) (Option.some Jvm.ClassFile.FieldType.boolean), Jvm.Cond.code ({ cls := "com/example/siloledger/siloledger/delivery/Party", name := "equals", desc := "(Ljava/lang/Object;)Z" } : Jvm.MethodName) prog_48_method_5_code (3 : Nat) (Option.some Jvm.ClassFile.FieldType.boolean), Jvm.Cond.code ({ cls := "java/lang/String", name := "equals", desc := "(Ljava/lang/Object;)Z" } : Jvm.MethodName) jdk_42_method_66_code (3 : Nat) (Option.some Jvm.ClassFile.FieldType.boolean), Jvm.Cond.code ({ cls := "java/lang/StringLatin1", name := "equals", desc := "([B[B)Z" } : Jvm.MethodName) jdk_43_method_13_code (3 : Nat) (Option.some Jvm.ClassFile.FieldType.boolean)]
set_option maxRecDepth 65536 in
theorem codes_eq : words1.filter isCode = codes1 := rfl
theorem w_codes : ∀ c ∈ words1.filter isCode, c.before args0 about1 = true := by
  rw [codes_eq]
  intro c hc
  simp only [codes1, List.mem_cons, List.not_mem_nil, or_false] at hc
  rcases hc with rfl | rfl | rfl | rfl | rfl | rfl | rfl | rfl | rfl | rfl | rfl | rfl | rfl | rfl
  · exact w_c0
  · exact w_c1
  · exact w_c2
  · exact w_c3
  · exact w_c4
  · exact w_c5
  · exact w_c6
  · exact w_c7
  · exact w_c8
  · exact w_c9
  · exact w_c10
  · exact w_c11
  · exact w_c12
  · exact w_c13
set_option maxRecDepth 65536 in
theorem w_t1 : (words1.take 24).all (fun c => isCode c || c.before args0 about1) = true := by decide +kernel
set_option maxRecDepth 65536 in
theorem w_t2 : ((words1.drop 24).take 24).all (fun c => isCode c || c.before args0 about1) = true := by decide +kernel
set_option maxRecDepth 65536 in
theorem w_t3 : (((words1.drop 24).drop 24).take 24).all (fun c => isCode c || c.before args0 about1) = true := by decide +kernel
set_option maxRecDepth 65536 in
theorem w_t4 : (((words1.drop 24).drop 24).drop 24).all (fun c => isCode c || c.before args0 about1) = true := by decide +kernel
theorem w_tables : (allAtoms (Jvm.Cond.code x code maxLocals ret :: tables_1)).before args0 about1 = true := by
  rw [allAtoms_all]
  show words1.all (fun c => c.before args0 about1) = true
  refine all_split ?_ w_codes
  rw [← List.take_append_drop 24 words1, List.all_append, w_t1, ← List.take_append_drop 24 (words1.drop 24), List.all_append, w_t2, ← List.take_append_drop 24 ((words1.drop 24).drop 24), List.all_append, w_t3, w_t4]
  rfl
set_option maxRecDepth 65536 in
theorem w_rest : rest_1_c.before args0 about1 = true := by decide +kernel
set_option maxRecDepth 65536 in
theorem w_case : (Jvm.Cond.and given_1 narrow_1).before args0 about1 = true := by decide +kernel
set_option maxRecDepth 65536 in
theorem w_consts : constsHeld consts_1 about1 := Jvm.Lit.constsHeldB_iff.mp (by decide +kernel)
theorem w_applies : (headSpec (Jvm.Cond.code x code maxLocals ret :: tables_1) room_1).applies x e0.platform about1 = true :=
  (Spec.applies_iff w_frames).mpr ⟨w_running, w_runnable, w_alone, w_named, w_hears, w_ripe, w_room, w_tables⟩
theorem atStart : AtStart classFile x code maxLocals ret World_1 tables_1 room_1 Calls_1 rest_1 Pre_1 launch0 p0 e0 about1 theMethod args0 below0 :=
  ⟨lists_1, trivial, launch0.admits_env _ _ _, launch0.least_env, fairChoices_fair.cas, fairChoices_fair.clock, w_frames, w_args, w_heap, w_applies, ⟨w_consts, trivial⟩, w_rest, w_case⟩
end start1
theorem witness_1 : WitnessClaimed_1 := ⟨start1.p0, start1.e0, start1.about1, start1.theMethod, start1.args0, start1.below0, start1.atStart⟩
end Jvm.Pilot.@@N@@
