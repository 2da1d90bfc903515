import JvmDerived
import JvmDerived.Pilot.@@N@@Statement
import JvmDerived.Pilot.@@N@@Code
set_option linter.unusedVariables false
set_option linter.unusedSimpArgs false
namespace Jvm.OwnKit
open Jvm Jvm.ClassFile Sem Op Lib Jvm.Free Jvm.Stand Jvm.LawKit Jvm.RoadKit Bundle
abbrev EList := List (String × Nat)
def Dc (B : ByteArray) (pc : Nat) (i : Instr) (n pc' : Nat) : Prop := decode B pc = .ok (i, n) ∧ pc + n = pc'
def Db (B : ByteArray) (pc : Nat) (i : Instr) (o : Int) (pc' tgt : Nat) : Prop := decode B pc = .ok (i, 3) ∧ pc + 3 = pc' ∧ 0 ≤ (pc : Int) + o ∧ ((pc : Int) + o).toNat = tgt
def Go (p : Program) (e : Env) (below : List Frame) (F : Outcome → State → Prop) (T : State) (g : JFrame) : Prop :=
  ∃ s₂ o, Steps p.tables e below (T.setTop g) s₂ ∧ s₂.status = .running ∧ Ended s₂ below o ∧ F o s₂
def Sf (md : Option EList) (Z s' : State) (h : Heap) (x : Addr) : Prop := match md with | none => True | some EL => Safe Z EL s'.vm h x
def Jd (md : Option EList) (Z s s' : State) (h : Heap) : Prop := match md with
  | none => s' = s
  | some EL => ∃ (vm0 : Vm) (k0 : Nat) (a0 : Array Value), s' = s.setVm vm0 ∧ s.Since vm0 k0 ∧ k0 ≤ h.size ∧ CHr Z EL s.vm s.heap vm0 h ∧ EW Z a0 EL
theorem Jd.ext {md : Option EList} {Z s s' : State} {h h' : Heap} (J : Jd md Z s s' h) (E : Ext h h') : Jd md Z s s' h' := by
  cases md with
  | none => exact J
  | some EL => obtain ⟨vm0, k0, a0, rfl, j2, j3, j4, j5⟩ := J; exact ⟨vm0, k0, a0, rfl, j2, Nat.le_trans j3 E.1, j4.trans (CHr.ext E j4.1), j5⟩
theorem Jd.keep {md : Option EList} {Z s s' : State} {h h' : Heap} {ws : List Addr} (J : Jd md Z s s' h) (K : Keep h h' ws) (hs : ∀ x ∈ ws, Sf md Z s' h x) : Jd md Z s s' h' := by
  cases md with
  | none => exact J
  | some EL => obtain ⟨vm0, k0, a0, rfl, j2, j3, j4, j5⟩ := J; exact ⟨vm0, k0, a0, rfl, j2, Nat.le_trans j3 K.1, j4.trans (CHr.keep K hs j4.1), j5⟩
theorem Sf.ext {md : Option EList} {Z s s' : State} {h h' : Heap} {x : Addr} (S : Sf md Z s' h x) (J : Jd md Z s s' h) (E : Ext h h') : Sf md Z s' h' x := by
  cases md with
  | none => trivial
  | some EL => obtain ⟨vm0, k0, a0, rfl, j2, j3, j4, j5⟩ := J; exact Safe.ext E j4.1 S
theorem Sf.keep {md : Option EList} {Z s s' : State} {h h' : Heap} {x : Addr} {ws : List Addr} (S : Sf md Z s' h x) (J : Jd md Z s s' h) (K : Keep h h' ws) (hs : ∀ x ∈ ws, Sf md Z s' h x) : Sf md Z s' h' x := by
  cases md with
  | none => trivial
  | some EL => obtain ⟨vm0, k0, a0, rfl, j2, j3, j4, j5⟩ := J; exact Safe.keep K hs j4.1 S
theorem Sf.new {md : Option EList} {Z s' : State} {h : Heap} {x : Addr} (q : h.size ≤ x) : Sf md Z s' h x := by
  cases md with
  | none => trivial
  | some EL => exact Safe.new q
theorem Ext.rfl' (h : Heap) : Ext h h := ⟨Nat.le_refl _, fun _ _ q => q⟩
theorem Ext.tr {h h' h2 : Heap} (A : Ext h h') (B : Ext h' h2) : Ext h h2 := ⟨Nat.le_trans A.1 B.1, fun a c q => B.2 a c (A.2 a c q)⟩
/-- a keep whose written cells were made since -/
theorem Ext.kp {h h' h2 : Heap} {ws : List Addr} (A : Ext h h') (B : Keep h' h2 ws) (q : ∀ x ∈ ws, h.size ≤ x) : Ext h h2 := ⟨Nat.le_trans A.1 B.1, fun a c r => B.2.1 a c (A.2 a c r) fun z => absurd (Array.getElem?_eq_some_iff.mp r).1 (Nat.not_lt.mpr (q a z))⟩
theorem Ext.kp1 {h h' h2 : Heap} {x : Addr} (A : Ext h h') (B : Keep h' h2 [x]) (q : h.size ≤ x) : Ext h h2 := Ext.kp A B (allS q all0)
theorem Ext.of0 {h h' : Heap} (B : Keep h h' []) : Ext h h' := ⟨B.1, fun a c r => B.2.1 a c r nin0⟩
theorem Ext.keep {h h' : Heap} (E : Ext h h') (ws : List Addr) : Keep h h' ws := (Keep.refl h ws).ext E
def Cx (p : Program) (l : Launch) (e : Env) (R : Room) (s : State) (m : MethodId) (args : Array Value) (below : List Frame) (meth : Method) (c : Code) (B : ByteArray) (ML : Nat) (Z : State) (own : String) (n0 : Nat) (md : Option EList) (T : State) (h : Heap) (ws : List Addr) (cells slots : Nat) : Prop :=
  (p.tables.exec = Jvm.exec ∧ c.code = B ∧ c.maxLocals = ML) ∧ T.heap = h ∧ n0 ≤ h.size ∧ ∃ (s' : State) (locs : List Loc), Stand p l e R s' m args below meth c T locs cells slots ∧ Z.Warmed39 s'.vm ∧ s'.vm.findClass own = some m.cls ∧ Fr n0 locs ∧ Jd md Z s s' h ∧ ∀ x ∈ ws, n0 ≤ x ∧ x < h.size ∧ Sf md Z s' h x
section Kit
variable {p : Program} {l : Launch} {e : Env} {R : Room} {s : State} {m : MethodId} {args : Array Value} {below : List Frame} {meth : Method} {c : Code} {B : ByteArray} {ML : Nat} {Z : State} {own : String} {n0 : Nat} {md : Option EList} {T : State} {h : Heap} {ws : List Addr} {cells slots : Nat} {F : Outcome → State → Prop} {pc pc' tgt : Nat} {Ls Ls' : Array Slot} {St : List Value} {a0 : Array Value}
theorem Go.st {T T' : State} {g g' : JFrame} (k : Go p e below F T' g') (q : ∀ t, Steps p.tables e below (T'.setTop g') t → Steps p.tables e below (T.setTop g) t) : Go p e below F T g := by
  obtain ⟨s2, o, h1, h2⟩ := k; exact ⟨s2, o, q _ h1, h2⟩
theorem Go.tr {T T' : State} {g g' : JFrame} (k : Go p e below F T' g') (q : Steps p.tables e below (T.setTop g) (T'.setTop g')) : Go p e below F T g := by
  obtain ⟨s2, o, h1, h2⟩ := k; exact ⟨s2, o, q.trans h1, h2⟩
theorem Cx.mono {c' s' : Nat} (K : Cx p l e R s m args below meth c B ML Z own n0 md T h ws cells slots) (q1 : cells ≤ c') (q2 : slots ≤ s') : Cx p l e R s m args below meth c B ML Z own n0 md T h ws c' s' := by
  obtain ⟨k1, k2, k3, s1, locs, X, r⟩ := K
  exact ⟨k1, k2, k3, s1, locs, X.mono q1 q2, r⟩
theorem Cx.sub {ws' : List Addr} (K : Cx p l e R s m args below meth c B ML Z own n0 md T h ws cells slots) (q : ∀ x ∈ ws', x ∈ ws) : Cx p l e R s m args below meth c B ML Z own n0 md T h ws' cells slots := by
  obtain ⟨k1, k2, k3, s1, locs, X, r1, r2, r3, r4, r5⟩ := K
  exact ⟨k1, k2, k3, s1, locs, X, r1, r2, r3, r4, fun x hx => r5 x (q x hx)⟩
theorem Cx.n0le (K : Cx p l e R s m args below meth c B ML Z own n0 md T h ws cells slots) : n0 ≤ h.size := K.2.2.1
theorem Cx.wsge (K : Cx p l e R s m args below meth c B ML Z own n0 md T h ws cells slots) {x : Addr} (q : x ∈ ws) : n0 ≤ x := by obtain ⟨-, -, -, s1, locs, X, r1, r2, r3, r4, r5⟩ := K; exact (r5 x q).1
theorem Cx.wslt (K : Cx p l e R s m args below meth c B ML Z own n0 md T h ws cells slots) {x : Addr} (q : x ∈ ws) : x < h.size := by obtain ⟨-, -, -, s1, locs, X, r1, r2, r3, r4, r5⟩ := K; exact (r5 x q).2.1

theorem gAload (K : Cx p l e R s m args below meth c B ML Z own n0 md T h ws cells slots) {k : Nat} {v : Value} (hd : Dc B pc (.aload k) 2 pc') (hl : Ls[k]? = some (.val v)) (hv : v.isRef = true) (r : Go p e below F T (mkF m pc' Ls (v :: St))) : Go p e below F T (mkF m pc Ls St) := by
  obtain ⟨⟨hx, hby, -⟩, -, -, s1, locs, X, -⟩ := K
  obtain ⟨hd, rfl⟩ := hd
  exact r.st fun t q => XS.aload X.here hx rfl (hb hby hd) hl hv q

theorem gAloadN (K : Cx p l e R s m args below meth c B ML Z own n0 md T h ws cells slots) {k : Fin 4} {v : Value} (hd : Dc B pc (.aload_n k) 1 pc') (hl : Ls[k.val]? = some (.val v)) (hv : v.isRef = true) (r : Go p e below F T (mkF m pc' Ls (v :: St))) : Go p e below F T (mkF m pc Ls St) := by
  obtain ⟨⟨hx, hby, -⟩, -, -, s1, locs, X, -⟩ := K
  obtain ⟨hd, rfl⟩ := hd
  exact r.st fun t q => XS.aloadN X.here hx rfl (hb hby hd) hl hv q

theorem gIload (K : Cx p l e R s m args below meth c B ML Z own n0 md T h ws cells slots) {k : Nat} {v : Int32} (hd : Dc B pc (.iload k) 2 pc') (hl : Ls[k]? = some (.val (.int v))) (r : Go p e below F T (mkF m pc' Ls (.int v :: St))) : Go p e below F T (mkF m pc Ls St) := by
  obtain ⟨⟨hx, hby, -⟩, -, -, s1, locs, X, -⟩ := K
  obtain ⟨hd, rfl⟩ := hd
  exact r.st fun t q => XS.iload X.here hx rfl (hb hby hd) hl q

theorem gIloadN (K : Cx p l e R s m args below meth c B ML Z own n0 md T h ws cells slots) {k : Fin 4} {v : Int32} (hd : Dc B pc (.iload_n k) 1 pc') (hl : Ls[k.val]? = some (.val (.int v))) (r : Go p e below F T (mkF m pc' Ls (.int v :: St))) : Go p e below F T (mkF m pc Ls St) := by
  obtain ⟨⟨hx, hby, -⟩, -, -, s1, locs, X, -⟩ := K
  obtain ⟨hd, rfl⟩ := hd
  exact r.st fun t q => XS.iloadN X.here hx rfl (hb hby hd) hl q

theorem gLload (K : Cx p l e R s m args below meth c B ML Z own n0 md T h ws cells slots) {k : Nat} {v : Int64} (hd : Dc B pc (.lload k) 2 pc') (hl : Ls[k]? = some (.val (.long v))) (r : Go p e below F T (mkF m pc' Ls (.long v :: St))) : Go p e below F T (mkF m pc Ls St) := by
  obtain ⟨⟨hx, hby, -⟩, -, -, s1, locs, X, -⟩ := K
  obtain ⟨hd, rfl⟩ := hd
  exact r.st fun t q => XT.lload X.here hx rfl (hb hby hd) hl q

theorem gLloadN (K : Cx p l e R s m args below meth c B ML Z own n0 md T h ws cells slots) {k : Fin 4} {v : Int64} (hd : Dc B pc (.lload_n k) 1 pc') (hl : Ls[k.val]? = some (.val (.long v))) (r : Go p e below F T (mkF m pc' Ls (.long v :: St))) : Go p e below F T (mkF m pc Ls St) := by
  obtain ⟨⟨hx, hby, -⟩, -, -, s1, locs, X, -⟩ := K
  obtain ⟨hd, rfl⟩ := hd
  exact r.st fun t q => XT.lloadN X.here hx rfl (hb hby hd) hl q

theorem gIconst (K : Cx p l e R s m args below meth c B ML Z own n0 md T h ws cells slots) {i : Int} (v : Int32) (hd : Dc B pc (.iconst i) 1 pc') (hv : Int32.ofInt i = v) (r : Go p e below F T (mkF m pc' Ls (.int v :: St))) : Go p e below F T (mkF m pc Ls St) := by
  obtain ⟨⟨hx, hby, -⟩, -, -, s1, locs, X, -⟩ := K
  obtain ⟨hd, rfl⟩ := hd
  exact r.st fun t q => XT.iconstV X.here hx rfl v (hb hby hd) hv q

theorem gBipush (K : Cx p l e R s m args below meth c B ML Z own n0 md T h ws cells slots) {i : Int} (v : Int32) (hd : Dc B pc (.bipush i) 2 pc') (hv : (Int8.ofInt i).toInt32 = v) (r : Go p e below F T (mkF m pc' Ls (.int v :: St))) : Go p e below F T (mkF m pc Ls St) := by
  obtain ⟨⟨hx, hby, -⟩, -, -, s1, locs, X, -⟩ := K
  obtain ⟨hd, rfl⟩ := hd
  exact r.st fun t q => XT.bipushV X.here hx rfl v (hb hby hd) hv q

theorem gSipush (K : Cx p l e R s m args below meth c B ML Z own n0 md T h ws cells slots) {i : Int} (v : Int32) (hd : Dc B pc (.sipush i) 3 pc') (hv : (Int16.ofInt i).toInt32 = v) (r : Go p e below F T (mkF m pc' Ls (.int v :: St))) : Go p e below F T (mkF m pc Ls St) := by
  obtain ⟨⟨hx, hby, -⟩, -, -, s1, locs, X, -⟩ := K
  obtain ⟨hd, rfl⟩ := hd
  exact r.st fun t q => XT.sipushV X.here hx rfl v (hb hby hd) hv q

theorem gNull (K : Cx p l e R s m args below meth c B ML Z own n0 md T h ws cells slots)  (hd : Dc B pc (.aconst_null) 1 pc') (r : Go p e below F T (mkF m pc' Ls (.null :: St))) : Go p e below F T (mkF m pc Ls St) := by
  obtain ⟨⟨hx, hby, -⟩, -, -, s1, locs, X, -⟩ := K
  obtain ⟨hd, rfl⟩ := hd
  exact r.st fun t q => XS.aconstNull X.here hx rfl (hb hby hd) q

theorem gIadd (K : Cx p l e R s m args below meth c B ML Z own n0 md T h ws cells slots) {x y : Int32} (hd : Dc B pc (.iadd) 1 pc') (r : Go p e below F T (mkF m pc' Ls (.int (x + y) :: St))) : Go p e below F T (mkF m pc Ls (.int y :: .int x :: St)) := by
  obtain ⟨⟨hx, hby, -⟩, -, -, s1, locs, X, -⟩ := K
  obtain ⟨hd, rfl⟩ := hd
  exact r.st fun t q => XS.iadd X.here hx rfl (hb hby hd) rfl q

theorem gIsub (K : Cx p l e R s m args below meth c B ML Z own n0 md T h ws cells slots) {x y : Int32} (hd : Dc B pc (.isub) 1 pc') (r : Go p e below F T (mkF m pc' Ls (.int (x - y) :: St))) : Go p e below F T (mkF m pc Ls (.int y :: .int x :: St)) := by
  obtain ⟨⟨hx, hby, -⟩, -, -, s1, locs, X, -⟩ := K
  obtain ⟨hd, rfl⟩ := hd
  exact r.st fun t q => XS.isub X.here hx rfl (hb hby hd) rfl q

theorem gIand (K : Cx p l e R s m args below meth c B ML Z own n0 md T h ws cells slots) {x y : Int32} (hd : Dc B pc (.iand) 1 pc') (r : Go p e below F T (mkF m pc' Ls (.int (x &&& y) :: St))) : Go p e below F T (mkF m pc Ls (.int y :: .int x :: St)) := by
  obtain ⟨⟨hx, hby, -⟩, -, -, s1, locs, X, -⟩ := K
  obtain ⟨hd, rfl⟩ := hd
  exact r.st fun t q => XS.iand X.here hx rfl (hb hby hd) rfl q

theorem gImul (K : Cx p l e R s m args below meth c B ML Z own n0 md T h ws cells slots) {x y : Int32} (hd : Dc B pc (.imul) 1 pc') (r : Go p e below F T (mkF m pc' Ls (.int (x * y) :: St))) : Go p e below F T (mkF m pc Ls (.int y :: .int x :: St)) := by
  obtain ⟨⟨hx, hby, -⟩, -, -, s1, locs, X, -⟩ := K
  obtain ⟨hd, rfl⟩ := hd
  exact r.st fun t q => XS.imul X.here hx rfl (hb hby hd) rfl q

theorem gIor (K : Cx p l e R s m args below meth c B ML Z own n0 md T h ws cells slots) {x y : Int32} (hd : Dc B pc (.ior) 1 pc') (r : Go p e below F T (mkF m pc' Ls (.int (x ||| y) :: St))) : Go p e below F T (mkF m pc Ls (.int y :: .int x :: St)) := by
  obtain ⟨⟨hx, hby, -⟩, -, -, s1, locs, X, -⟩ := K
  obtain ⟨hd, rfl⟩ := hd
  exact r.st fun t q => XT.ior X.here hx rfl (hb hby hd) rfl q

theorem gIxor (K : Cx p l e R s m args below meth c B ML Z own n0 md T h ws cells slots) {x y : Int32} (hd : Dc B pc (.ixor) 1 pc') (r : Go p e below F T (mkF m pc' Ls (.int (x ^^^ y) :: St))) : Go p e below F T (mkF m pc Ls (.int y :: .int x :: St)) := by
  obtain ⟨⟨hx, hby, -⟩, -, -, s1, locs, X, -⟩ := K
  obtain ⟨hd, rfl⟩ := hd
  exact r.st fun t q => XT.ixor X.here hx rfl (hb hby hd) rfl q

theorem gIshl (K : Cx p l e R s m args below meth c B ML Z own n0 md T h ws cells slots) {x y : Int32} (hd : Dc B pc (.ishl) 1 pc') (r : Go p e below F T (mkF m pc' Ls (.int (x <<< (y &&& 31)) :: St))) : Go p e below F T (mkF m pc Ls (.int y :: .int x :: St)) := by
  obtain ⟨⟨hx, hby, -⟩, -, -, s1, locs, X, -⟩ := K
  obtain ⟨hd, rfl⟩ := hd
  exact r.st fun t q => XT.ishl X.here hx rfl (hb hby hd) rfl q

theorem gIshr (K : Cx p l e R s m args below meth c B ML Z own n0 md T h ws cells slots) {x y : Int32} (hd : Dc B pc (.ishr) 1 pc') (r : Go p e below F T (mkF m pc' Ls (.int (x >>> (y &&& 31)) :: St))) : Go p e below F T (mkF m pc Ls (.int y :: .int x :: St)) := by
  obtain ⟨⟨hx, hby, -⟩, -, -, s1, locs, X, -⟩ := K
  obtain ⟨hd, rfl⟩ := hd
  exact r.st fun t q => XT.ishr X.here hx rfl (hb hby hd) rfl q

theorem gIushr (K : Cx p l e R s m args below meth c B ML Z own n0 md T h ws cells slots) {x y : Int32} (hd : Dc B pc (.iushr) 1 pc') (r : Go p e below F T (mkF m pc' Ls (.int (XT.ushr x y) :: St))) : Go p e below F T (mkF m pc Ls (.int y :: .int x :: St)) := by
  obtain ⟨⟨hx, hby, -⟩, -, -, s1, locs, X, -⟩ := K
  obtain ⟨hd, rfl⟩ := hd
  exact r.st fun t q => XT.iushr X.here hx rfl (hb hby hd) rfl q

theorem gIdiv (K : Cx p l e R s m args below meth c B ML Z own n0 md T h ws cells slots) {x y : Int32} (hd : Dc B pc (.idiv) 1 pc') (hy : y ≠ 0) (r : Go p e below F T (mkF m pc' Ls (.int (x / y) :: St))) : Go p e below F T (mkF m pc Ls (.int y :: .int x :: St)) := by
  obtain ⟨⟨hx, hby, -⟩, -, -, s1, locs, X, -⟩ := K
  obtain ⟨hd, rfl⟩ := hd
  exact r.st fun t q => XS.idiv X.here hx rfl (hb hby hd) rfl hy q

theorem gIrem (K : Cx p l e R s m args below meth c B ML Z own n0 md T h ws cells slots) {x y : Int32} (hd : Dc B pc (.irem) 1 pc') (hy : y ≠ 0) (r : Go p e below F T (mkF m pc' Ls (.int (x % y) :: St))) : Go p e below F T (mkF m pc Ls (.int y :: .int x :: St)) := by
  obtain ⟨⟨hx, hby, -⟩, -, -, s1, locs, X, -⟩ := K
  obtain ⟨hd, rfl⟩ := hd
  exact r.st fun t q => iremM X hx rfl (hb hby hd) rfl hy q

theorem gIneg (K : Cx p l e R s m args below meth c B ML Z own n0 md T h ws cells slots) {x : Int32} (hd : Dc B pc (.ineg) 1 pc') (r : Go p e below F T (mkF m pc' Ls (.int (-x) :: St))) : Go p e below F T (mkF m pc Ls (.int x :: St)) := by
  obtain ⟨⟨hx, hby, -⟩, -, -, s1, locs, X, -⟩ := K
  obtain ⟨hd, rfl⟩ := hd
  exact r.st fun t q => XS.ineg X.here hx rfl (hb hby hd) rfl q

theorem gI2b (K : Cx p l e R s m args below meth c B ML Z own n0 md T h ws cells slots) {x : Int32} (hd : Dc B pc (.i2b) 1 pc') (r : Go p e below F T (mkF m pc' Ls (.int x.toInt8.toInt32 :: St))) : Go p e below F T (mkF m pc Ls (.int x :: St)) := by
  obtain ⟨⟨hx, hby, -⟩, -, -, s1, locs, X, -⟩ := K
  obtain ⟨hd, rfl⟩ := hd
  exact r.st fun t q => XT.i2b X.here hx rfl (hb hby hd) rfl q

theorem gI2c (K : Cx p l e R s m args below meth c B ML Z own n0 md T h ws cells slots) {x : Int32} (hd : Dc B pc (.i2c) 1 pc') (r : Go p e below F T (mkF m pc' Ls (.int x.toUInt32.toUInt16.toUInt32.toInt32 :: St))) : Go p e below F T (mkF m pc Ls (.int x :: St)) := by
  obtain ⟨⟨hx, hby, -⟩, -, -, s1, locs, X, -⟩ := K
  obtain ⟨hd, rfl⟩ := hd
  exact r.st fun t q => XT.i2c X.here hx rfl (hb hby hd) rfl q

theorem gL2i (K : Cx p l e R s m args below meth c B ML Z own n0 md T h ws cells slots) {x : Int64} (hd : Dc B pc (.l2i) 1 pc') (r : Go p e below F T (mkF m pc' Ls (.int x.toInt32 :: St))) : Go p e below F T (mkF m pc Ls (.long x :: St)) := by
  obtain ⟨⟨hx, hby, -⟩, -, -, s1, locs, X, -⟩ := K
  obtain ⟨hd, rfl⟩ := hd
  exact r.st fun t q => XT.l2i X.here hx rfl (hb hby hd) rfl q

theorem gLand (K : Cx p l e R s m args below meth c B ML Z own n0 md T h ws cells slots) {x y : Int64} (hd : Dc B pc (.land) 1 pc') (r : Go p e below F T (mkF m pc' Ls (.long (x &&& y) :: St))) : Go p e below F T (mkF m pc Ls (.long y :: .long x :: St)) := by
  obtain ⟨⟨hx, hby, -⟩, -, -, s1, locs, X, -⟩ := K
  obtain ⟨hd, rfl⟩ := hd
  exact r.st fun t q => XT.land X.here hx rfl (hb hby hd) rfl q

theorem gLushr (K : Cx p l e R s m args below meth c B ML Z own n0 md T h ws cells slots) {x : Int64} {y : Int32} (hd : Dc B pc (.lushr) 1 pc') (r : Go p e below F T (mkF m pc' Ls (.long (XT.ushrL x y) :: St))) : Go p e below F T (mkF m pc Ls (.int y :: .long x :: St)) := by
  obtain ⟨⟨hx, hby, -⟩, -, -, s1, locs, X, -⟩ := K
  obtain ⟨hd, rfl⟩ := hd
  exact r.st fun t q => XT.lushr X.here hx rfl (hb hby hd) rfl q

theorem gDup (K : Cx p l e R s m args below meth c B ML Z own n0 md T h ws cells slots) {x : Value} (hd : Dc B pc (.dup) 1 pc') (hc : x.category = 1) (r : Go p e below F T (mkF m pc' Ls (x :: x :: St))) : Go p e below F T (mkF m pc Ls (x :: St)) := by
  obtain ⟨⟨hx, hby, -⟩, -, -, s1, locs, X, -⟩ := K
  obtain ⟨hd, rfl⟩ := hd
  exact r.st fun t q => XS.dup X.here hx rfl (hb hby hd) rfl hc q

theorem gPop (K : Cx p l e R s m args below meth c B ML Z own n0 md T h ws cells slots) {x : Value} (hd : Dc B pc (.pop) 1 pc') (hc : x.category = 1) (r : Go p e below F T (mkF m pc' Ls St)) : Go p e below F T (mkF m pc Ls (x :: St)) := by
  obtain ⟨⟨hx, hby, -⟩, -, -, s1, locs, X, -⟩ := K
  obtain ⟨hd, rfl⟩ := hd
  exact r.st fun t q => XT.pop X.here hx rfl (hb hby hd) rfl hc q

theorem gIstore (K : Cx p l e R s m args below meth c B ML Z own n0 md T h ws cells slots) {k : Nat} {x : Int32} (hd : Dc B pc (.istore k) 2 pc') (hl : storeLocals Ls k (.int x) = some Ls') (r : Go p e below F T (mkF m pc' Ls' St)) : Go p e below F T (mkF m pc Ls (.int x :: St)) := by
  obtain ⟨⟨hx, hby, -⟩, -, -, s1, locs, X, -⟩ := K
  obtain ⟨hd, rfl⟩ := hd
  exact r.st fun t q => XS.istore X.here hx rfl (hb hby hd) rfl hl q

theorem gIstoreN (K : Cx p l e R s m args below meth c B ML Z own n0 md T h ws cells slots) {k : Fin 4} {x : Int32} (hd : Dc B pc (.istore_n k) 1 pc') (hl : storeLocals Ls k.val (.int x) = some Ls') (r : Go p e below F T (mkF m pc' Ls' St)) : Go p e below F T (mkF m pc Ls (.int x :: St)) := by
  obtain ⟨⟨hx, hby, -⟩, -, -, s1, locs, X, -⟩ := K
  obtain ⟨hd, rfl⟩ := hd
  exact r.st fun t q => XS.istoreN X.here hx rfl (hb hby hd) rfl hl q

theorem gAstore (K : Cx p l e R s m args below meth c B ML Z own n0 md T h ws cells slots) {k : Nat} {x : Value} (hd : Dc B pc (.astore k) 2 pc') (hv : x.isRef = true) (hl : storeLocals Ls k x = some Ls') (r : Go p e below F T (mkF m pc' Ls' St)) : Go p e below F T (mkF m pc Ls (x :: St)) := by
  obtain ⟨⟨hx, hby, -⟩, -, -, s1, locs, X, -⟩ := K
  obtain ⟨hd, rfl⟩ := hd
  exact r.st fun t q => XS.astore X.here hx rfl (hb hby hd) rfl hv hl q

theorem gAstoreN (K : Cx p l e R s m args below meth c B ML Z own n0 md T h ws cells slots) {k : Fin 4} {x : Value} (hd : Dc B pc (.astore_n k) 1 pc') (hv : x.isRef = true) (hl : storeLocals Ls k.val x = some Ls') (r : Go p e below F T (mkF m pc' Ls' St)) : Go p e below F T (mkF m pc Ls (x :: St)) := by
  obtain ⟨⟨hx, hby, -⟩, -, -, s1, locs, X, -⟩ := K
  obtain ⟨hd, rfl⟩ := hd
  exact r.st fun t q => XS.astoreN X.here hx rfl (hb hby hd) rfl hv hl q

theorem gIinc (K : Cx p l e R s m args below meth c B ML Z own n0 md T h ws cells slots) {k : Nat} {cst : Int} {x : Int32} (v : Int32) (hd : Dc B pc (.iinc k cst) 3 pc') (hv : Int32.ofInt cst = v) (hl : Ls[k]? = some (.val (.int x))) (hl' : storeLocals Ls k (.int (x + v)) = some Ls') (r : Go p e below F T (mkF m pc' Ls' St)) : Go p e below F T (mkF m pc Ls St) := by
  obtain ⟨⟨hx, hby, -⟩, -, -, s1, locs, X, -⟩ := K
  obtain ⟨hd, rfl⟩ := hd
  exact r.st fun t q => XT.iincV X.here hx rfl v (hb hby hd) hv hl hl' q

theorem gIaddV (K : Cx p l e R s m args below meth c B ML Z own n0 md T h ws cells slots) {x y : Int32} (v : Int32) (hd : Dc B pc (.iadd) 1 pc') (hv : x + y = v) (r : Go p e below F T (mkF m pc' Ls (.int v :: St))) : Go p e below F T (mkF m pc Ls (.int y :: .int x :: St)) := by
  obtain ⟨⟨hx, hby, -⟩, -, -, s1, locs, X, -⟩ := K
  obtain ⟨hd, rfl⟩ := hd
  exact r.st fun t q => XS.iadd X.here hx rfl (hb hby hd) rfl (hv ▸ q)

theorem gIsubV (K : Cx p l e R s m args below meth c B ML Z own n0 md T h ws cells slots) {x y : Int32} (v : Int32) (hd : Dc B pc (.isub) 1 pc') (hv : x - y = v) (r : Go p e below F T (mkF m pc' Ls (.int v :: St))) : Go p e below F T (mkF m pc Ls (.int y :: .int x :: St)) := by
  obtain ⟨⟨hx, hby, -⟩, -, -, s1, locs, X, -⟩ := K
  obtain ⟨hd, rfl⟩ := hd
  exact r.st fun t q => XS.isub X.here hx rfl (hb hby hd) rfl (hv ▸ q)

theorem gIandV (K : Cx p l e R s m args below meth c B ML Z own n0 md T h ws cells slots) {x y : Int32} (v : Int32) (hd : Dc B pc (.iand) 1 pc') (hv : x &&& y = v) (r : Go p e below F T (mkF m pc' Ls (.int v :: St))) : Go p e below F T (mkF m pc Ls (.int y :: .int x :: St)) := by
  obtain ⟨⟨hx, hby, -⟩, -, -, s1, locs, X, -⟩ := K
  obtain ⟨hd, rfl⟩ := hd
  exact r.st fun t q => XS.iand X.here hx rfl (hb hby hd) rfl (hv ▸ q)

theorem gIshlV (K : Cx p l e R s m args below meth c B ML Z own n0 md T h ws cells slots) {x y : Int32} (v : Int32) (hd : Dc B pc (.ishl) 1 pc') (hv : x <<< (y &&& 31) = v) (r : Go p e below F T (mkF m pc' Ls (.int v :: St))) : Go p e below F T (mkF m pc Ls (.int y :: .int x :: St)) := by
  obtain ⟨⟨hx, hby, -⟩, -, -, s1, locs, X, -⟩ := K
  obtain ⟨hd, rfl⟩ := hd
  exact r.st fun t q => XT.ishl X.here hx rfl (hb hby hd) rfl (hv ▸ q)

theorem gIshrV (K : Cx p l e R s m args below meth c B ML Z own n0 md T h ws cells slots) {x y : Int32} (v : Int32) (hd : Dc B pc (.ishr) 1 pc') (hv : x >>> (y &&& 31) = v) (r : Go p e below F T (mkF m pc' Ls (.int v :: St))) : Go p e below F T (mkF m pc Ls (.int y :: .int x :: St)) := by
  obtain ⟨⟨hx, hby, -⟩, -, -, s1, locs, X, -⟩ := K
  obtain ⟨hd, rfl⟩ := hd
  exact r.st fun t q => XT.ishr X.here hx rfl (hb hby hd) rfl (hv ▸ q)

theorem gGoto (K : Cx p l e R s m args below meth c B ML Z own n0 md T h ws cells slots)  {o : Int} (hd : Db B pc (.goto o) o pc' tgt) (r : Go p e below F T (mkF m tgt Ls St)) : Go p e below F T (mkF m pc Ls St) := by
  obtain ⟨⟨hx, hby, -⟩, -, -, s1, locs, X, -⟩ := K
  obtain ⟨hd, rfl, ho, hp⟩ := hd
  exact r.st fun t q => XS.goto X.here hx rfl rfl (hb hby hd) ho hp q

theorem gIcmp_eq (K : Cx p l e R s m args below meth c B ML Z own n0 md T h ws cells slots) {x y : Int32} {o : Int} (hd : Db B pc (.if_icmp .eq o) o pc' tgt) (ry : x = y → Go p e below F T (mkF m tgt Ls St)) (rn : ¬ x = y → Go p e below F T (mkF m pc' Ls St)) : Go p e below F T (mkF m pc Ls (.int y :: .int x :: St)) := by
  obtain ⟨⟨hx, hby, -⟩, -, -, s1, locs, X, -⟩ := K
  obtain ⟨hd, rfl, ho, hp⟩ := hd
  by_cases hq : x = y
  · exact (ry hq).st fun t q => XS.icmpYes X.here hx rfl rfl (hb hby hd) rfl (teq hq).1 ho hp q
  · exact (rn hq).st fun t q => XS.icmpNo X.here hx rfl (hb hby hd) rfl (feq hq).1 q

theorem gIf_eq (K : Cx p l e R s m args below meth c B ML Z own n0 md T h ws cells slots) {x : Int32} {o : Int} (hd : Db B pc (.ifCond .eq o) o pc' tgt) (ry : x = (0 : Int32) → Go p e below F T (mkF m tgt Ls St)) (rn : ¬ x = (0 : Int32) → Go p e below F T (mkF m pc' Ls St)) : Go p e below F T (mkF m pc Ls (.int x :: St)) := by
  obtain ⟨⟨hx, hby, -⟩, -, -, s1, locs, X, -⟩ := K
  obtain ⟨hd, rfl, ho, hp⟩ := hd
  by_cases hq : x = (0 : Int32)
  · exact (ry hq).st fun t q => XS.ifYes X.here hx rfl rfl (hb hby hd) rfl ((if0 _ _).trans (teq hq).1) ho hp q
  · exact (rn hq).st fun t q => XS.ifNo X.here hx rfl (hb hby hd) rfl ((if0 _ _).trans (feq hq).1) q

theorem gIcmp_ne (K : Cx p l e R s m args below meth c B ML Z own n0 md T h ws cells slots) {x y : Int32} {o : Int} (hd : Db B pc (.if_icmp .ne o) o pc' tgt) (ry : ¬ x = y → Go p e below F T (mkF m tgt Ls St)) (rn : x = y → Go p e below F T (mkF m pc' Ls St)) : Go p e below F T (mkF m pc Ls (.int y :: .int x :: St)) := by
  obtain ⟨⟨hx, hby, -⟩, -, -, s1, locs, X, -⟩ := K
  obtain ⟨hd, rfl, ho, hp⟩ := hd
  by_cases hq : x = y
  · exact (rn hq).st fun t q => XS.icmpNo X.here hx rfl (hb hby hd) rfl (teq hq).2 q
  · exact (ry hq).st fun t q => XS.icmpYes X.here hx rfl rfl (hb hby hd) rfl (feq hq).2 ho hp q

theorem gIf_ne (K : Cx p l e R s m args below meth c B ML Z own n0 md T h ws cells slots) {x : Int32} {o : Int} (hd : Db B pc (.ifCond .ne o) o pc' tgt) (ry : ¬ x = (0 : Int32) → Go p e below F T (mkF m tgt Ls St)) (rn : x = (0 : Int32) → Go p e below F T (mkF m pc' Ls St)) : Go p e below F T (mkF m pc Ls (.int x :: St)) := by
  obtain ⟨⟨hx, hby, -⟩, -, -, s1, locs, X, -⟩ := K
  obtain ⟨hd, rfl, ho, hp⟩ := hd
  by_cases hq : x = (0 : Int32)
  · exact (rn hq).st fun t q => XS.ifNo X.here hx rfl (hb hby hd) rfl ((if0 _ _).trans (teq hq).2) q
  · exact (ry hq).st fun t q => XS.ifYes X.here hx rfl rfl (hb hby hd) rfl ((if0 _ _).trans (feq hq).2) ho hp q

theorem gIcmp_lt (K : Cx p l e R s m args below meth c B ML Z own n0 md T h ws cells slots) {x y : Int32} {o : Int} (hd : Db B pc (.if_icmp .lt o) o pc' tgt) (ry : x < y → Go p e below F T (mkF m tgt Ls St)) (rn : ¬ x < y → Go p e below F T (mkF m pc' Ls St)) : Go p e below F T (mkF m pc Ls (.int y :: .int x :: St)) := by
  obtain ⟨⟨hx, hby, -⟩, -, -, s1, locs, X, -⟩ := K
  obtain ⟨hd, rfl, ho, hp⟩ := hd
  by_cases hq : x < y
  · exact (ry hq).st fun t q => XS.icmpYes X.here hx rfl rfl (hb hby hd) rfl (tlt hq).1 ho hp q
  · exact (rn hq).st fun t q => XS.icmpNo X.here hx rfl (hb hby hd) rfl (flt hq).1 q

theorem gIf_lt (K : Cx p l e R s m args below meth c B ML Z own n0 md T h ws cells slots) {x : Int32} {o : Int} (hd : Db B pc (.ifCond .lt o) o pc' tgt) (ry : x < (0 : Int32) → Go p e below F T (mkF m tgt Ls St)) (rn : ¬ x < (0 : Int32) → Go p e below F T (mkF m pc' Ls St)) : Go p e below F T (mkF m pc Ls (.int x :: St)) := by
  obtain ⟨⟨hx, hby, -⟩, -, -, s1, locs, X, -⟩ := K
  obtain ⟨hd, rfl, ho, hp⟩ := hd
  by_cases hq : x < (0 : Int32)
  · exact (ry hq).st fun t q => XS.ifYes X.here hx rfl rfl (hb hby hd) rfl ((if0 _ _).trans (tlt hq).1) ho hp q
  · exact (rn hq).st fun t q => XS.ifNo X.here hx rfl (hb hby hd) rfl ((if0 _ _).trans (flt hq).1) q

theorem gIcmp_ge (K : Cx p l e R s m args below meth c B ML Z own n0 md T h ws cells slots) {x y : Int32} {o : Int} (hd : Db B pc (.if_icmp .ge o) o pc' tgt) (ry : ¬ x < y → Go p e below F T (mkF m tgt Ls St)) (rn : x < y → Go p e below F T (mkF m pc' Ls St)) : Go p e below F T (mkF m pc Ls (.int y :: .int x :: St)) := by
  obtain ⟨⟨hx, hby, -⟩, -, -, s1, locs, X, -⟩ := K
  obtain ⟨hd, rfl, ho, hp⟩ := hd
  by_cases hq : x < y
  · exact (rn hq).st fun t q => XS.icmpNo X.here hx rfl (hb hby hd) rfl (tlt hq).2.1 q
  · exact (ry hq).st fun t q => XS.icmpYes X.here hx rfl rfl (hb hby hd) rfl (flt hq).2.1 ho hp q

theorem gIf_ge (K : Cx p l e R s m args below meth c B ML Z own n0 md T h ws cells slots) {x : Int32} {o : Int} (hd : Db B pc (.ifCond .ge o) o pc' tgt) (ry : ¬ x < (0 : Int32) → Go p e below F T (mkF m tgt Ls St)) (rn : x < (0 : Int32) → Go p e below F T (mkF m pc' Ls St)) : Go p e below F T (mkF m pc Ls (.int x :: St)) := by
  obtain ⟨⟨hx, hby, -⟩, -, -, s1, locs, X, -⟩ := K
  obtain ⟨hd, rfl, ho, hp⟩ := hd
  by_cases hq : x < (0 : Int32)
  · exact (rn hq).st fun t q => XS.ifNo X.here hx rfl (hb hby hd) rfl ((if0 _ _).trans (tlt hq).2.1) q
  · exact (ry hq).st fun t q => XS.ifYes X.here hx rfl rfl (hb hby hd) rfl ((if0 _ _).trans (flt hq).2.1) ho hp q

theorem gIcmp_gt (K : Cx p l e R s m args below meth c B ML Z own n0 md T h ws cells slots) {x y : Int32} {o : Int} (hd : Db B pc (.if_icmp .gt o) o pc' tgt) (ry : y < x → Go p e below F T (mkF m tgt Ls St)) (rn : ¬ y < x → Go p e below F T (mkF m pc' Ls St)) : Go p e below F T (mkF m pc Ls (.int y :: .int x :: St)) := by
  obtain ⟨⟨hx, hby, -⟩, -, -, s1, locs, X, -⟩ := K
  obtain ⟨hd, rfl, ho, hp⟩ := hd
  by_cases hq : y < x
  · exact (ry hq).st fun t q => XS.icmpYes X.here hx rfl rfl (hb hby hd) rfl (tlt hq).2.2.1 ho hp q
  · exact (rn hq).st fun t q => XS.icmpNo X.here hx rfl (hb hby hd) rfl (flt hq).2.2.1 q

theorem gIf_gt (K : Cx p l e R s m args below meth c B ML Z own n0 md T h ws cells slots) {x : Int32} {o : Int} (hd : Db B pc (.ifCond .gt o) o pc' tgt) (ry : (0 : Int32) < x → Go p e below F T (mkF m tgt Ls St)) (rn : ¬ (0 : Int32) < x → Go p e below F T (mkF m pc' Ls St)) : Go p e below F T (mkF m pc Ls (.int x :: St)) := by
  obtain ⟨⟨hx, hby, -⟩, -, -, s1, locs, X, -⟩ := K
  obtain ⟨hd, rfl, ho, hp⟩ := hd
  by_cases hq : (0 : Int32) < x
  · exact (ry hq).st fun t q => XS.ifYes X.here hx rfl rfl (hb hby hd) rfl ((if0 _ _).trans (tlt hq).2.2.1) ho hp q
  · exact (rn hq).st fun t q => XS.ifNo X.here hx rfl (hb hby hd) rfl ((if0 _ _).trans (flt hq).2.2.1) q

theorem gIcmp_le (K : Cx p l e R s m args below meth c B ML Z own n0 md T h ws cells slots) {x y : Int32} {o : Int} (hd : Db B pc (.if_icmp .le o) o pc' tgt) (ry : ¬ y < x → Go p e below F T (mkF m tgt Ls St)) (rn : y < x → Go p e below F T (mkF m pc' Ls St)) : Go p e below F T (mkF m pc Ls (.int y :: .int x :: St)) := by
  obtain ⟨⟨hx, hby, -⟩, -, -, s1, locs, X, -⟩ := K
  obtain ⟨hd, rfl, ho, hp⟩ := hd
  by_cases hq : y < x
  · exact (rn hq).st fun t q => XS.icmpNo X.here hx rfl (hb hby hd) rfl (tlt hq).2.2.2 q
  · exact (ry hq).st fun t q => XS.icmpYes X.here hx rfl rfl (hb hby hd) rfl (flt hq).2.2.2 ho hp q

theorem gIf_le (K : Cx p l e R s m args below meth c B ML Z own n0 md T h ws cells slots) {x : Int32} {o : Int} (hd : Db B pc (.ifCond .le o) o pc' tgt) (ry : ¬ (0 : Int32) < x → Go p e below F T (mkF m tgt Ls St)) (rn : (0 : Int32) < x → Go p e below F T (mkF m pc' Ls St)) : Go p e below F T (mkF m pc Ls (.int x :: St)) := by
  obtain ⟨⟨hx, hby, -⟩, -, -, s1, locs, X, -⟩ := K
  obtain ⟨hd, rfl, ho, hp⟩ := hd
  by_cases hq : (0 : Int32) < x
  · exact (rn hq).st fun t q => XS.ifNo X.here hx rfl (hb hby hd) rfl ((if0 _ _).trans (tlt hq).2.2.2) q
  · exact (ry hq).st fun t q => XS.ifYes X.here hx rfl rfl (hb hby hd) rfl ((if0 _ _).trans (flt hq).2.2.2) ho hp q

theorem gIfnull_t (K : Cx p l e R s m args below meth c B ML Z own n0 md T h ws cells slots)  {o : Int} (hd : Db B pc (.ifnull o) o pc' tgt) (r : Go p e below F T (mkF m tgt Ls St)) : Go p e below F T (mkF m pc Ls (.null :: St)) := by
  obtain ⟨⟨hx, hby, -⟩, -, -, s1, locs, X, -⟩ := K
  obtain ⟨hd, rfl, ho, hp⟩ := hd
  exact r.st fun t q => XS.ifnullYes X.here hx rfl rfl (hb hby hd) rfl ho hp q

theorem gIfnull_f (K : Cx p l e R s m args below meth c B ML Z own n0 md T h ws cells slots) {b : Addr} {o : Int} (hd : Db B pc (.ifnull o) o pc' tgt) (r : Go p e below F T (mkF m pc' Ls St)) : Go p e below F T (mkF m pc Ls (.ref b :: St)) := by
  obtain ⟨⟨hx, hby, -⟩, -, -, s1, locs, X, -⟩ := K
  obtain ⟨hd, rfl, ho, hp⟩ := hd
  exact r.st fun t q => XS.ifnullNo X.here hx rfl (hb hby hd) rfl q

theorem gIfnonnull_t (K : Cx p l e R s m args below meth c B ML Z own n0 md T h ws cells slots) {b : Addr} {o : Int} (hd : Db B pc (.ifnonnull o) o pc' tgt) (r : Go p e below F T (mkF m tgt Ls St)) : Go p e below F T (mkF m pc Ls (.ref b :: St)) := by
  obtain ⟨⟨hx, hby, -⟩, -, -, s1, locs, X, -⟩ := K
  obtain ⟨hd, rfl, ho, hp⟩ := hd
  exact r.st fun t q => XT.ifnonnullYes X.here hx rfl rfl (hb hby hd) rfl ho hp q

theorem gIfnonnull_f (K : Cx p l e R s m args below meth c B ML Z own n0 md T h ws cells slots)  {o : Int} (hd : Db B pc (.ifnonnull o) o pc' tgt) (r : Go p e below F T (mkF m pc' Ls St)) : Go p e below F T (mkF m pc Ls (.null :: St)) := by
  obtain ⟨⟨hx, hby, -⟩, -, -, s1, locs, X, -⟩ := K
  obtain ⟨hd, rfl, ho, hp⟩ := hd
  exact r.st fun t q => XT.ifnonnullNo X.here hx rfl (hb hby hd) rfl q

theorem gAcmp_eq (K : Cx p l e R s m args below meth c B ML Z own n0 md T h ws cells slots) {x y : Value} {o : Int} (hd : Db B pc (.if_acmp .eq o) o pc' tgt) (h1 : x.isRef = true) (h2 : y.isRef = true) (ry : x = y → Go p e below F T (mkF m tgt Ls St)) (rn : ¬ x = y → Go p e below F T (mkF m pc' Ls St)) : Go p e below F T (mkF m pc Ls (y :: x :: St)) := by
  obtain ⟨⟨hx, hby, -⟩, -, -, s1, locs, X, -⟩ := K
  obtain ⟨hd, rfl, ho, hp⟩ := hd
  by_cases hq : x = y
  · exact (ry hq).st fun t q => XT.acmpYes X.here hx rfl rfl (hb hby hd) rfl h1 h2 (XT.aa_eq_t hq) ho hp q
  · exact (rn hq).st fun t q => XT.acmpNo X.here hx rfl (hb hby hd) rfl h1 h2 (XT.aa_eq_f hq) q

theorem gAcmp_ne (K : Cx p l e R s m args below meth c B ML Z own n0 md T h ws cells slots) {x y : Value} {o : Int} (hd : Db B pc (.if_acmp .ne o) o pc' tgt) (h1 : x.isRef = true) (h2 : y.isRef = true) (ry : ¬ x = y → Go p e below F T (mkF m tgt Ls St)) (rn : x = y → Go p e below F T (mkF m pc' Ls St)) : Go p e below F T (mkF m pc Ls (y :: x :: St)) := by
  obtain ⟨⟨hx, hby, -⟩, -, -, s1, locs, X, -⟩ := K
  obtain ⟨hd, rfl, ho, hp⟩ := hd
  by_cases hq : x = y
  · exact (rn hq).st fun t q => XT.acmpNo X.here hx rfl (hb hby hd) rfl h1 h2 (XT.aa_ne_f hq) q
  · exact (ry hq).st fun t q => XT.acmpYes X.here hx rfl rfl (hb hby hd) rfl h1 h2 (XT.aa_ne_t hq) ho hp q

/-! ## steps that touch the heap or the tables -/
theorem Cx.same {T' : State} {s1 : State} {locs : List Loc} (K : Cx p l e R s m args below meth c B ML Z own n0 md T h ws cells slots) (X' : Stand p l e R s1 m args below meth c T' locs cells slots) (e' : T'.heap = h) (hZ : Z.Warmed39 s1.vm) (hown : s1.vm.findClass own = some m.cls) (N : Fr n0 locs) (J : Jd md Z s s1 h) (Wq : ∀ x ∈ ws, n0 ≤ x ∧ x < h.size ∧ Sf md Z s1 h x) : Cx p l e R s m args below meth c B ML Z own n0 md T' h ws cells slots :=
  ⟨K.1, e', K.2.2.1, s1, locs, X', hZ, hown, N, J, Wq⟩
theorem gGet (K : Cx p l e R s m args below meth c B ML Z own n0 md T h ws cells slots) {O n d : String} {index : Nat} {a : Addr} {v : Value} (hd : Dc B pc (.getfield index) 3 pc') (w : (Cond.fieldLink own index O n d).before a0 Z = true) (Fd : Fld Z h a O n d v)
    (k : ∀ T', Cx p l e R s m args below meth c B ML Z own n0 md T' h ws cells slots → Go p e below F T' (mkF m pc' Ls (v :: St))) : Go p e below F T (mkF m pc Ls (.ref a :: St)) := by
  have K0 := K
  obtain ⟨⟨hx, hby, hml⟩, eT, hn0, s1, locs, X, hZ, hown, N, J, Wq⟩ := K
  obtain ⟨hd, rfl⟩ := hd
  obtain ⟨T', X', e', st⟩ := getF X hx hZ hown (host := "") (Or.inl w) Via.refl eT Fd (g := mkF m pc Ls (.ref a :: St)) rfl rfl (hb hby hd)
  exact (k T' (K0.same X' e' hZ hown N J Wq)).st st
theorem gGetVia (K : Cx p l e R s m args below meth c B ML Z own n0 md T h ws cells slots) {R0 O n d : String} {index : Nat} {a : Addr} {v : Value} (hd : Dc B pc (.getfield index) 3 pc') (w : (Cond.fieldLink own index R0 n d).before a0 Z = true) (via : Via Z R0 O n d) (Fd : Fld Z h a O n d v)
    (k : ∀ T', Cx p l e R s m args below meth c B ML Z own n0 md T' h ws cells slots → Go p e below F T' (mkF m pc' Ls (v :: St))) : Go p e below F T (mkF m pc Ls (.ref a :: St)) := by
  have K0 := K
  obtain ⟨⟨hx, hby, hml⟩, eT, hn0, s1, locs, X, hZ, hown, N, J, Wq⟩ := K
  obtain ⟨hd, rfl⟩ := hd
  obtain ⟨T', X', e', st⟩ := getF X hx hZ hown (host := "") (Or.inl w) via eT Fd (g := mkF m pc Ls (.ref a :: St)) rfl rfl (hb hby hd)
  exact (k T' (K0.same X' e' hZ hown N J Wq)).st st
theorem gGetS (K : Cx p l e R s m args below meth c B ML Z own n0 md T h ws cells slots) {O n d : String} {index : Nat} {v : Value} (hd : Dc B pc (.getstatic index) 3 pc') (w : (Cond.fieldLink own index O n d).before a0 Z = true) (Fd : Sta Z h O n d v)
    (k : ∀ T', Cx p l e R s m args below meth c B ML Z own n0 md T' h ws cells slots → Go p e below F T' (mkF m pc' Ls (v :: St))) : Go p e below F T (mkF m pc Ls St) := by
  have K0 := K
  obtain ⟨⟨hx, hby, hml⟩, eT, hn0, s1, locs, X, hZ, hown, N, J, Wq⟩ := K
  obtain ⟨hd, rfl⟩ := hd
  obtain ⟨T', X', e', st⟩ := getS2 X hx hZ hown (host := "") (Or.inl w) Via.refl eT Fd (g := mkF m pc Ls St) rfl (hb hby hd)
  exact (k T' (K0.same X' e' hZ hown N J Wq)).st st
theorem gCast (K : Cx p l e R s m args below meth c B ML Z own n0 md T h ws cells slots) {C : String} {index : Nat} {a : Addr} (hd : Dc B pc (.checkcast index) 3 pc') (w : (Cond.classLink own index C).before a0 Z = true) (Fd : Ins Z h a C true)
    (k : ∀ T', Cx p l e R s m args below meth c B ML Z own n0 md T' h ws cells slots → Go p e below F T' (mkF m pc' Ls (.ref a :: St))) : Go p e below F T (mkF m pc Ls (.ref a :: St)) := by
  have K0 := K
  obtain ⟨⟨hx, hby, hml⟩, eT, hn0, s1, locs, X, hZ, hown, N, J, Wq⟩ := K
  obtain ⟨hd, rfl⟩ := hd
  obtain ⟨T', X', e', st⟩ := castY X hx hZ hown w eT Fd (g := mkF m pc Ls (.ref a :: St)) rfl rfl (hb hby hd)
  exact (k T' (K0.same X' e' hZ hown N J Wq)).st st
theorem gInstY (K : Cx p l e R s m args below meth c B ML Z own n0 md T h ws cells slots) {C : String} {index : Nat} {a : Addr} (hd : Dc B pc (.instanceof index) 3 pc') (w : (Cond.classLink own index C).before a0 Z = true) (Fd : Ins Z h a C true)
    (k : ∀ T', Cx p l e R s m args below meth c B ML Z own n0 md T' h ws cells slots → Go p e below F T' (mkF m pc' Ls (.int 1 :: St))) : Go p e below F T (mkF m pc Ls (.ref a :: St)) := by
  have K0 := K
  obtain ⟨⟨hx, hby, hml⟩, eT, hn0, s1, locs, X, hZ, hown, N, J, Wq⟩ := K
  obtain ⟨hd, rfl⟩ := hd
  obtain ⟨T', X', e', st⟩ := instY X hx hZ hown w eT Fd (g := mkF m pc Ls (.ref a :: St)) rfl rfl (hb hby hd)
  exact (k T' (K0.same X' e' hZ hown N J Wq)).st st
theorem gInstNo (K : Cx p l e R s m args below meth c B ML Z own n0 md T h ws cells slots) {C D : String} {index : Nat} {a : Addr} (hd : Dc B pc (.instanceof index) 3 pc') (w : (Cond.classLink own index D).before a0 Z = true) (E : Exa Z h a C) (Fd : ∃ c t, Z.vm.findClass C = some c ∧ Z.vm.findClass D = some t ∧ Z.vm.assignable c t = false)
    (k : ∀ T', Cx p l e R s m args below meth c B ML Z own n0 md T' h ws cells slots → Go p e below F T' (mkF m pc' Ls (.int 0 :: St))) : Go p e below F T (mkF m pc Ls (.ref a :: St)) := by
  have K0 := K
  obtain ⟨⟨hx, hby, hml⟩, eT, hn0, s1, locs, X, hZ, hown, N, J, Wq⟩ := K
  obtain ⟨hd, rfl⟩ := hd
  obtain ⟨T', X', e', st⟩ := instNo X hx hZ hown w eT E Fd (g := mkF m pc Ls (.ref a :: St)) rfl rfl (hb hby hd)
  exact (k T' (K0.same X' e' hZ hown N J Wq)).st st
theorem gInitO (K : Cx p l e R s m args below meth c B ML Z own n0 md T h ws cells slots) {index : Nat} {a : Addr} (hd : Dc B pc (.invokespecial index) 3 pc') (w1 : (Cond.methodLink own index Lib.objectInit).before a0 Z = true) (w2 : (Cond.instanceMethod Lib.objectInit).before a0 Z = true) (w3 : (Cond.code Lib.objectInit ⟨#[0xb1]⟩ 1 none).before a0 Z = true)
    (hsz : Ls.size = ML) (hf : 1 ≤ R.frames) {W : Nat} (hW : (St.map fun v => v.category).sum ≤ W) (hl : W + 12 ≤ R.locals)
    (k : ∀ T', Cx p l e R s m args below meth c B ML Z own n0 md T' h ws cells slots → Go p e below F T' (mkF m pc' Ls St)) : Go p e below F T (mkF m pc Ls (.ref a :: St)) := by
  have K0 := K
  obtain ⟨⟨hx, hby, hml⟩, eT, hn0, s1, locs, X, hZ, hown, N, J, Wq⟩ := K
  obtain ⟨hd, rfl⟩ := hd
  obtain ⟨T', X', e', st⟩ := initO X hx hZ hown w1 w2 w3 eT (g := mkF m pc Ls (.ref a :: St)) rfl (by rw [hml]; exact hsz) rfl (hb hby hd) hf (W := W) (by show 2 * 0 + _ ≤ _; omega) hl
  exact (k T' (K0.same X' e' hZ hown N J Wq)).st st
theorem Cx.grow {T' : State} {h' : Heap} {c' n' : Nat} {s1 : State} {locs : List Loc} (K : Cx p l e R s m args below meth c B ML Z own n0 md T h ws cells slots) (X' : Stand p l e R s1 m args below meth c T' locs c' n') (e' : T'.heap = h') (E : Ext h h') (hlt : h.size < h'.size) (hZ : Z.Warmed39 s1.vm) (hown : s1.vm.findClass own = some m.cls) (N : Fr n0 locs) (J : Jd md Z s s1 h) (Wq : ∀ x ∈ ws, n0 ≤ x ∧ x < h.size ∧ Sf md Z s1 h x) : Cx p l e R s m args below meth c B ML Z own n0 md T' h' (h.size :: ws) c' n' :=
  ⟨K.1, e', Nat.le_trans K.2.2.1 E.1, s1, locs, X', hZ, hown, N, J.ext E, fun x hx => by
    rcases List.mem_cons.mp hx with rfl | hx
    · exact ⟨K.2.2.1, hlt, (Sf.new (Nat.le_refl _)).ext J E⟩
    · obtain ⟨q1, q2, q3⟩ := Wq x hx; exact ⟨q1, Nat.lt_of_lt_of_le q2 E.1, q3.ext J E⟩⟩
theorem gNew (K : Cx p l e R s m args below meth c B ML Z own n0 md T h ws cells slots) {C : String} {index n : Nat} (hd : Dc B pc (.new index) 3 pc') (w : (Cond.classLink own index C).before a0 Z = true) (wi : (Cond.instantiable C n).before a0 Z = true) (wz : (Cond.initialized C).before a0 Z = true) (hc : cells + 1 ≤ R.cells) (hl : slots + n ≤ R.slots)
    (k : ∀ (T' : State) (h' : Heap) (x : Addr), Cx p l e R s m args below meth c B ML Z own n0 md T' h' (x :: ws) (cells + 1) (slots + n) → Ext h h' → x = h.size → Exa Z h' x C → (∀ {O nm d : String} {ty : FieldType}, Laid Z a0 C O nm d → parseFieldDescriptor d = some ty → Fld Z h' x O nm d (defaultValue ty)) → (∀ y ∈ ws, y ≠ x) → Go p e below F T' (mkF m pc' Ls (.ref x :: St))) : Go p e below F T (mkF m pc Ls St) := by
  have K0 := K
  obtain ⟨⟨hx, hby, hml⟩, eT, hn0, s1, locs, X, hZ, hown, N, J, Wq⟩ := K
  obtain ⟨hd, rfl⟩ := hd
  obtain ⟨T', h', X', e', E, A, D, -, st⟩ := newO X hx hZ hown w wi wz eT (g := mkF m pc Ls St) rfl (hb hby hd) hc hl
  exact (k T' h' h.size (K0.grow X' e' E A.lt hZ hown N J Wq) E rfl A D (fun y hy => Nat.ne_of_lt (Wq y hy).2.1)).st st
theorem gNewarr (K : Cx p l e R s m args below meth c B ML Z own n0 md T h ws cells slots) {aty : ArrayType} {n : Int32} (hd : Dc B pc (.newarray aty) 2 pc') (w : (Cond.arrayClass (newarray.typeOf aty)).before a0 Z = true) (hn : ¬ n < 0) (cap : Nat) (hcap : n.toNatClampNeg ≤ cap) (hbb : cap * 8 ≤ 536870912) (hc : cells + 1 ≤ R.cells) (hl : slots + cap ≤ R.slots)
    (k : ∀ (T' : State) (h' : Heap) (x : Addr) (kA : ClassId), Cx p l e R s m args below meth c B ML Z own n0 md T' h' (x :: ws) (cells + 1) (slots + cap) → Ext h h' → x = h.size → Arv Z h' x kA (newarray.typeOf aty) n [] (defaultValue (newarray.typeOf aty)) → (∀ y ∈ ws, y ≠ x) → Go p e below F T' (mkF m pc' Ls (.ref x :: St))) : Go p e below F T (mkF m pc Ls (.int n :: St)) := by
  have K0 := K
  obtain ⟨⟨hx, hby, hml⟩, eT, hn0, s1, locs, X, hZ, hown, N, J, Wq⟩ := K
  obtain ⟨hd, rfl⟩ := hd
  obtain ⟨T', h', cA, X', e', E, A, st⟩ := newP X hx hZ w eT (g := mkF m pc Ls (.int n :: St)) rfl (hb hby hd) rfl hn hcap hbb hc hl
  exact (k T' h' h.size cA (K0.grow X' e' E A.lt hZ hown N J Wq) E rfl (Arv.new A hn) (fun y hy => Nat.ne_of_lt (Wq y hy).2.1)).st st
theorem Cx.wrote {T' : State} {h' : Heap} {s1 : State} {locs : List Loc} {a : Addr} {sl : Nat} {v : Value} (K : Cx p l e R s m args below meth c B ML Z own n0 md T h ws cells slots) (X' : Stand p l e R s1 m args below meth c T' (locs ++ [⟨a, sl⟩]) cells slots) (e' : T'.heap = h') (W : Wr h h' a sl v) (hm : a ∈ ws) (hZ : Z.Warmed39 s1.vm) (hown : s1.vm.findClass own = some m.cls) (N : Fr n0 locs) (J : Jd md Z s s1 h) (Wq : ∀ x ∈ ws, n0 ≤ x ∧ x < h.size ∧ Sf md Z s1 h x) : Cx p l e R s m args below meth c B ML Z own n0 md T' h' ws cells slots :=
  have hs : ∀ x ∈ [a], Sf md Z s1 h x := allS (Wq a hm).2.2 all0
  ⟨K.1, e', by rw [W.size]; exact K.2.2.1, s1, _, X', hZ, hown, Fr.snoc X' N (Wq a hm).1, J.keep (Keep.of_wr W) hs, fun x hx => by
    obtain ⟨q1, q2, q3⟩ := Wq x hx; exact ⟨q1, by rw [W.size]; exact q2, q3.keep J (Keep.of_wr W) hs⟩⟩
theorem gPut (K : Cx p l e R s m args below meth c B ML Z own n0 md T h ws cells slots) {O n d C : String} {index kk : Nat} {ty : FieldType} {a : Addr} {v old : Value} (hd : Dc B pc (.putfield index) 3 pc') (w : (Cond.fieldLink own index O n d).before a0 Z = true) (hm : a ∈ ws) (Fd : Fld Z h a O n d old) (E : Exa Z h a C)
    (L : (Cond.lays C O n d).before a0 Z = true ∨ ((Cond.laysFinal C O n d).before a0 Z = true ∧ own = O ∧ meth.name = "<init>")) (wi : (Cond.instantiable C kk).before a0 Z = true) (hty : parseFieldDescriptor d = some ty) (hn : narrow ty v = v) (hf : fits ty v = true)
    (k : ∀ (T' : State) (h' : Heap), Cx p l e R s m args below meth c B ML Z own n0 md T' h' ws cells slots → Wr h h' a (RoadKit.slotOf Z O n d) v → Fld Z h' a O n d v → Go p e below F T' (mkF m pc' Ls St)) : Go p e below F T (mkF m pc Ls (v :: .ref a :: St)) := by
  have K0 := K
  obtain ⟨⟨hx, hby, hml⟩, eT, hn0, s1, locs, X, hZ, hown, N, J, Wq⟩ := K
  obtain ⟨hd, rfl⟩ := hd
  obtain ⟨T', h', X', e', W, st⟩ := putF X hx hZ hown (host := "") (Or.inl w) Via.refl eT Fd E L wi hty hn hf (g := mkF m pc Ls (v :: .ref a :: St)) rfl rfl (hb hby hd)
  exact (k T' h' (K0.wrote X' e' W hm hZ hown N J Wq) W (Fd.same W)).st st
theorem nar_c {x : Int32} (h0 : ¬ x < 0) (h1 : ¬ (65535 : Int32) < x) : nar .char x = x := by
  have q := rng32 x
  have a0 : 0 ≤ x.toInt := by rw [Int32.lt_iff_toInt_lt] at h0; simpa using h0
  have a1 : x.toInt ≤ 65535 := by rw [Int32.lt_iff_toInt_lt] at h1; have : (65535 : Int32).toInt = 65535 := by decide
                                  omega
  apply Int32.toInt_inj.mp
  show (x.toUInt32.toUInt16.toUInt32.toInt32).toInt = x.toInt
  have := c_i2c x
  omega
theorem getD_push {vs : List Value} {v dv : Value} {i : Nat} (q : ¬ vs.length = i) : (vs ++ [v]).getD i dv = vs.getD i dv := by
  rw [List.getD_eq_getElem?_getD, List.getD_eq_getElem?_getD]
  by_cases e2 : i < vs.length
  · rw [List.getElem?_append_left e2]
  · rw [List.getElem?_eq_none (by simp; omega), List.getElem?_eq_none (by omega)]
theorem getD_last {vs : List Value} {v dv : Value} : (vs ++ [v]).getD vs.length dv = v := by
  rw [List.getD_eq_getElem?_getD]; simp
theorem arv_push {cl : Cell} {a : Addr} {kA : ClassId} {ty : FieldType} {z j : Int32} {vs : List Value} {dv v : Value} {h' : Heap} (A : Arr Z h a cl ty) (q1 : cl.cls = kA) (S : cl.slots.size = z.toNatClampNeg) (q3 : ¬ z < 0) (H : Has cl vs dv) (G : ∀ i, i < cl.slots.size → fits ty (vs.getD i dv) = true) (hv : fits ty v = true) (W : Wr h h' a j.toNatClampNeg v) (hj : j.toNatClampNeg = vs.length) : Arv Z h' a kA ty z (vs ++ [v]) dv := by
  refine ⟨cl.setSlot j.toNatClampNeg v, A.same W, q1, ?_, q3, ?_, ?_⟩
  · rw [← S]; simp [Cell.setSlot]
  · intro i hi
    have hi' : i < cl.slots.size := by simpa [Cell.setSlot] using hi
    have h9 := H i hi'
    simp only [Cell.setSlot]
    rw [hj]
    by_cases e1 : vs.length = i
    · subst e1; rw [getD_last]; simp [hi']
    · rw [Array.getElem?_setIfInBounds_ne e1, h9, getD_push e1]
  · intro i hi
    have hi' : i < cl.slots.size := by simpa [Cell.setSlot] using hi
    by_cases e1 : vs.length = i
    · subst e1; rw [getD_last]; exact hv
    · rw [getD_push e1]; exact G i hi'

/-! ## arrays -/
theorem gCastore (K : Cx p l e R s m args below meth c B ML Z own n0 md T h ws cells slots) {a : Addr} {kA : ClassId} {z j x : Int32} {vs : List Value} {dv : Value} (hd : Dc B pc .castore 1 pc') (hm : a ∈ ws) (A : Arv Z h a kA .char z vs dv) (hj : j.toNatClampNeg = vs.length) (hlt : ¬ j < 0 ∧ j < z) (hx0 : ¬ x < 0) (hx1 : ¬ (65535 : Int32) < x)
    (k : ∀ (T' : State) (h' : Heap), Cx p l e R s m args below meth c B ML Z own n0 md T' h' ws cells slots → Keep h h' [a] → Arv Z h' a kA .char z (vs ++ [.int x]) dv → Go p e below F T' (mkF m pc' Ls St)) : Go p e below F T (mkF m pc Ls (.int x :: .int j :: .ref a :: St)) := by
  have K0 := K
  obtain ⟨⟨hx, hby, hml⟩, eT, hn0, s1, locs, X, hZ, hown, N, J, Wq⟩ := K
  obtain ⟨hd, rfl⟩ := hd
  obtain ⟨cl, A1, A2, A3, A4, A5, A6⟩ := A
  obtain ⟨T', h', X', e', W, st⟩ := stC X hx hZ eT A1 (inb_of A3 hlt) (x := x) (g := mkF m pc Ls (.int x :: .int j :: .ref a :: St)) rfl rfl (hb hby hd)
  rw [nar_c hx0 hx1] at W
  have hf : fits .char (.int x) = true := by rw [← nar_c hx0 hx1]; exact fits_nar_char x
  exact (k T' h' (K0.wrote X' e' W hm hZ hown N J Wq) (Keep.of_wr W) (arv_push A1 A2 A3 A4 A5 A6 hf W hj)).st st
theorem gBastore (K : Cx p l e R s m args below meth c B ML Z own n0 md T h ws cells slots) {a : Addr} {kA : ClassId} {z j x : Int32} {vs : List Value} {dv : Value} (hd : Dc B pc .bastore 1 pc') (hm : a ∈ ws) (A : Arv Z h a kA .byte z vs dv) (hj : j.toNatClampNeg = vs.length) (hlt : ¬ j < 0 ∧ j < z)
    (k : ∀ (T' : State) (h' : Heap), Cx p l e R s m args below meth c B ML Z own n0 md T' h' ws cells slots → Keep h h' [a] → Arv Z h' a kA .byte z (vs ++ [.int (nar .byte x)]) dv → Go p e below F T' (mkF m pc' Ls St)) : Go p e below F T (mkF m pc Ls (.int x :: .int j :: .ref a :: St)) := by
  have K0 := K
  obtain ⟨⟨hx, hby, hml⟩, eT, hn0, s1, locs, X, hZ, hown, N, J, Wq⟩ := K
  obtain ⟨hd, rfl⟩ := hd
  obtain ⟨cl, A1, A2, A3, A4, A5, A6⟩ := A
  obtain ⟨T', h', X', e', W, st⟩ := stB X hx hZ eT A1 (inb_of A3 hlt) (x := x) (g := mkF m pc Ls (.int x :: .int j :: .ref a :: St)) rfl rfl (hb hby hd)
  exact (k T' h' (K0.wrote X' e' W hm hZ hown N J Wq) (Keep.of_wr W) (arv_push A1 A2 A3 A4 A5 A6 (fits_nar_byte x) W hj)).st st
/-- a store at a place below the known list's length -/
theorem gBastoreAt (K : Cx p l e R s m args below meth c B ML Z own n0 md T h ws cells slots) {a : Addr} {kA : ClassId} {z j x : Int32} {vs : List Value} {dv : Value} (hd : Dc B pc .bastore 1 pc') (hm : a ∈ ws) (A : Arv Z h a kA .byte z vs dv) (i : Nat) (hj : j.toNatClampNeg = i) (hi : i < vs.length) (hlt : ¬ j < 0 ∧ j < z)
    (k : ∀ (T' : State) (h' : Heap), Cx p l e R s m args below meth c B ML Z own n0 md T' h' ws cells slots → Keep h h' [a] → Arv Z h' a kA .byte z (vs.set i (.int (nar .byte x))) dv → Go p e below F T' (mkF m pc' Ls St)) : Go p e below F T (mkF m pc Ls (.int x :: .int j :: .ref a :: St)) := by
  have K0 := K
  obtain ⟨⟨hx, hby, hml⟩, eT, hn0, s1, locs, X, hZ, hown, N, J, Wq⟩ := K
  obtain ⟨hd, rfl⟩ := hd
  obtain ⟨cl, A1, A2, A3, A4, A5, A6⟩ := A
  obtain ⟨T', h', X', e', W, st⟩ := stB X hx hZ eT A1 (inb_of A3 hlt) (x := x) (g := mkF m pc Ls (.int x :: .int j :: .ref a :: St)) rfl rfl (hb hby hd)
  exact (k T' h' (K0.wrote X' e' W hm hZ hown N J Wq) (Keep.of_wr W) (Arv.set A1 A2 A3 A4 A5 A6 (fits_nar_byte x) W i hj hi)).st st
theorem gIastoreAt (K : Cx p l e R s m args below meth c B ML Z own n0 md T h ws cells slots) {a : Addr} {kA : ClassId} {z j x : Int32} {vs : List Value} {dv : Value} (hd : Dc B pc .iastore 1 pc') (hm : a ∈ ws) (A : Arv Z h a kA .int z vs dv) (i : Nat) (hj : j.toNatClampNeg = i) (hi : i < vs.length) (hlt : ¬ j < 0 ∧ j < z)
    (k : ∀ (T' : State) (h' : Heap), Cx p l e R s m args below meth c B ML Z own n0 md T' h' ws cells slots → Keep h h' [a] → Arv Z h' a kA .int z (vs.set i (.int x)) dv → Go p e below F T' (mkF m pc' Ls St)) : Go p e below F T (mkF m pc Ls (.int x :: .int j :: .ref a :: St)) := by
  have K0 := K
  obtain ⟨⟨hx, hby, hml⟩, eT, hn0, s1, locs, X, hZ, hown, N, J, Wq⟩ := K
  obtain ⟨hd, rfl⟩ := hd
  obtain ⟨cl, A1, A2, A3, A4, A5, A6⟩ := A
  obtain ⟨T', h', X', e', W, st⟩ := stI X hx hZ eT A1 (inb_of A3 hlt) (x := x) (g := mkF m pc Ls (.int x :: .int j :: .ref a :: St)) rfl rfl (hb hby hd)
  exact (k T' h' (K0.wrote X' e' W hm hZ hown N J Wq) (Keep.of_wr W) (Arv.set A1 A2 A3 A4 A5 A6 rfl W i hj hi)).st st
theorem gCaload (K : Cx p l e R s m args below meth c B ML Z own n0 md T h ws cells slots) {a : Addr} {kA : ClassId} {z j : Int32} {vs : List Value} {dv v : Value} (hd : Dc B pc .caload 1 pc') (A : Arv Z h a kA .char z vs dv) (hlt : ¬ j < 0 ∧ j < z) (hv : vs.getD j.toNatClampNeg dv = v) (r : Go p e below F T (mkF m pc' Ls (v :: St))) : Go p e below F T (mkF m pc Ls (.int j :: .ref a :: St)) := by
  obtain ⟨⟨hx, hby, hml⟩, eT, hn0, s1, locs, X, hZ, hown, N, J, Wq⟩ := K
  obtain ⟨hd, rfl⟩ := hd
  obtain ⟨cl, A1, A2, A3, A4, A5, A6⟩ := A
  exact r.st fun t q => X.caload hx (by rw [eT]; exact A1.1) (State.isArrayOf_alike hZ.alike A1.2.1) A1.2.2 (inb_of A3 hlt) (A5.at (inb_of A3 hlt) hv) (g := mkF m pc Ls (.int j :: .ref a :: St)) rfl rfl (hb hby hd) t q
theorem gBaload (K : Cx p l e R s m args below meth c B ML Z own n0 md T h ws cells slots) {a : Addr} {kA : ClassId} {z j : Int32} {vs : List Value} {dv v : Value} (hd : Dc B pc .baload 1 pc') (A : Arv Z h a kA .byte z vs dv) (hlt : ¬ j < 0 ∧ j < z) (hv : vs.getD j.toNatClampNeg dv = v) (r : Go p e below F T (mkF m pc' Ls (v :: St))) : Go p e below F T (mkF m pc Ls (.int j :: .ref a :: St)) := by
  obtain ⟨⟨hx, hby, hml⟩, eT, hn0, s1, locs, X, hZ, hown, N, J, Wq⟩ := K
  obtain ⟨hd, rfl⟩ := hd
  obtain ⟨cl, A1, A2, A3, A4, A5, A6⟩ := A
  exact r.st fun t q => X.baloadBytes hx (by rw [eT]; exact A1.1) (State.isArrayOf_alike hZ.alike A1.2.1) A1.2.2 (inb_of A3 hlt) (A5.at (inb_of A3 hlt) hv) (g := mkF m pc Ls (.int j :: .ref a :: St)) rfl rfl (hb hby hd) t q
theorem gIaload (K : Cx p l e R s m args below meth c B ML Z own n0 md T h ws cells slots) {a : Addr} {kA : ClassId} {z j : Int32} {vs : List Value} {dv v : Value} (hd : Dc B pc .iaload 1 pc') (A : Arv Z h a kA .int z vs dv) (hlt : ¬ j < 0 ∧ j < z) (hv : vs.getD j.toNatClampNeg dv = v) (r : Go p e below F T (mkF m pc' Ls (v :: St))) : Go p e below F T (mkF m pc Ls (.int j :: .ref a :: St)) := by
  obtain ⟨⟨hx, hby, hml⟩, eT, hn0, s1, locs, X, hZ, hown, N, J, Wq⟩ := K
  obtain ⟨hd, rfl⟩ := hd
  obtain ⟨cl, A1, A2, A3, A4, A5, A6⟩ := A
  exact r.st fun t q => X.iaload hx (by rw [eT]; exact A1.1) (State.isArrayOf_alike hZ.alike A1.2.1) A1.2.2 (inb_of A3 hlt) (A5.at (inb_of A3 hlt) hv) (g := mkF m pc Ls (.int j :: .ref a :: St)) rfl rfl (hb hby hd) t q
theorem gAaload (K : Cx p l e R s m args below meth c B ML Z own n0 md T h ws cells slots) {a : Addr} {kA : ClassId} {z j : Int32} {vs : List Value} {dv v : Value} {ty : FieldType} (hd : Dc B pc .aaload 1 pc') (A : Arv Z h a kA ty z vs dv) (hty : ty.isReference = true) (hlt : ¬ j < 0 ∧ j < z) (hv : vs.getD j.toNatClampNeg dv = v) (r : Go p e below F T (mkF m pc' Ls (v :: St))) : Go p e below F T (mkF m pc Ls (.int j :: .ref a :: St)) := by
  obtain ⟨⟨hx, hby, hml⟩, eT, hn0, s1, locs, X, hZ, hown, N, J, Wq⟩ := K
  obtain ⟨hd, rfl⟩ := hd
  obtain ⟨cl, A1, A2, A3, A4, A5, A6⟩ := A
  exact r.st fun t q => X.aaload hx (by rw [eT]; exact A1.1) (State.isArrayOf_alike hZ.alike A1.2.1) hty A1.2.2 (inb_of A3 hlt) (A5.at (inb_of A3 hlt) hv) (g := mkF m pc Ls (.int j :: .ref a :: St)) rfl rfl (hb hby hd) t q
theorem gLen (K : Cx p l e R s m args below meth c B ML Z own n0 md T h ws cells slots) {a : Addr} {kA : ClassId} {z : Int32} {vs : List Value} {dv : Value} {ty : FieldType} (hd : Dc B pc .arraylength 1 pc') (A : Arv Z h a kA ty z vs dv) (r : Go p e below F T (mkF m pc' Ls (.int z :: St))) : Go p e below F T (mkF m pc Ls (.ref a :: St)) := by
  obtain ⟨⟨hx, hby, hml⟩, eT, hn0, s1, locs, X, hZ, hown, N, J, Wq⟩ := K
  obtain ⟨hd, rfl⟩ := hd
  obtain ⟨cl, A1, A2, A3, A4, A5, A6⟩ := A
  exact r.st fun t q => X.arraylength hx (by rw [eT]; exact A1.1) (State.isArrayOf_alike hZ.alike A1.2.1) (g := mkF m pc Ls (.ref a :: St)) rfl rfl (hb hby hd) t (by rw [len_of A3 A4]; exact q)
/-! ## calls -/
abbrev PreC (R : Room) (h : Heap) (as' : Array Value) (kc ks : Nat) : Pt → Array Value → Prop := fun A a => a = as' ∧ A.U.heap = h ∧ A.cells + kc ≤ R.cells ∧ A.slots + ks ≤ R.slots
abbrev PostC (Q : Option Value → Heap → List Loc → Prop) (kc ks : Nat) : Pt → Array Value → Option Value → Pt → Prop := fun A _ v B => ∃ L, Q v B.U.heap L ∧ B.locs = A.locs ++ L ∧ B.cells = A.cells + kc ∧ B.slots = A.slots + ks
def Cal (md : Option EList) (l : Launch) (R : Room) (p : Program) (e : Env) (below : List Frame) (args : Array Value) (y : MethodName) (len W : Nat) (Z : State) (n0 : Nat) (h : Heap) (wsC : List Addr) (as' : Array Value) (kc ks : Nat) (QQ : Option Value → Heap → Prop) : Prop := match md with
  | none => ∀ s' : State, Z.Warmed39 s'.vm → Back l R p e below s' args y len W (PreC R h as' kc ks) (PostC (fun v h' L => QQ v h' ∧ Keep h h' wsC ∧ Fr n0 L) kc ks)
  | some EL => ∀ (s : State) (vm0 : Vm) (a0 : Array Value), Z.Warmed39 vm0 → EW Z a0 EL → CHv Z EL vm0 h → (∀ x ∈ wsC, x < h.size ∧ Safe Z EL vm0 h x) →
      BackS l R p e below (s.setVm vm0) args y len W (PreC R h as' kc ks) (fun A a v B => PostC (fun v h' L => QQ v h' ∧ Keep h h' wsC ∧ Fr n0 L) kc ks A a v B ∧ CHr Z EL vm0 h B.U.vm B.U.heap)
theorem Cal.ofBack {y : MethodName} {len W kc ks : Nat} {wsC : List Addr} {as' : Array Value} {Q : Option Value → Heap → List Loc → Prop} {QQ : Option Value → Heap → Prop}
    (hB : ∀ s' : State, Z.Warmed39 s'.vm → Back l R p e below s' args y len W (PreC R h as' kc ks) (PostC Q kc ks)) (hQ : ∀ v h' L, Q v h' L → QQ v h' ∧ Keep h h' wsC ∧ Fr n0 L) : Cal md l R p e below args y len W Z n0 h wsC as' kc ks QQ := by
  cases md with
  | none =>
    intro s' hZ m meth c A g ig mk a X hg hsize hdg hW hn hp
    obtain ⟨v, B, X', ⟨L, q, b⟩, st⟩ := hB s' hZ m meth c A g ig mk a X hg hsize hdg hW hn hp
    exact ⟨v, B, X', ⟨L, hQ _ _ _ q, b⟩, st⟩
  | some EL =>
    intro s vm0 a0 hZ hE H hs m meth c A g ig mk a X hg hsize hdg hW hn hp
    obtain ⟨v, B, X', ⟨L, q, b⟩, st⟩ := hB (s.setVm vm0) hZ m meth c A g ig mk a X hg hsize hdg hW hn hp
    obtain ⟨q1, q2, q3⟩ := hQ _ _ _ q
    have C1 := CHr.keep q2 (fun x hx => (hs x hx).2) H
    exact ⟨v, B, X'.retabled X'.warmed.wide, X'.warmed.since _, by rw [hp.2.1]; exact q2.1, ⟨⟨L, ⟨q1, q2, q3⟩, b⟩, C1.trans (CHv.at X' hZ hE C1.1)⟩, st⟩
/-- a contract: what a body does from the heap h0, writing at most into ws and into what it makes -/
def ConN (l : Launch) (y : MethodName) (bytes : ByteArray) (maxL : Nat) (ret : Option FieldType) (wl : List Cond) (rm : Room) (Z : State) (n0 : Nat) (h0 : Heap) (ws : List Addr) (as' : Array Value) (QQ : Option Value → Heap → Prop) : Prop :=
  MetFree l y (head1 (Cond.code y bytes maxL ret :: wl) rm) (fun a U => a = as' ∧ Z.Warmed39 U.vm ∧ U.heap = h0) (fun _ _ _ _ _ => True) (fun _ U o U' => ∃ v L, o = .returned v ∧ (QQ v U'.heap ∧ Keep h0 U'.heap ws ∧ Fr n0 L) ∧ FrameEnd U o U' L rm.cells rm.slots)
def ConW (EL : EList) (l : Launch) (y : MethodName) (bytes : ByteArray) (maxL : Nat) (ret : Option FieldType) (wl : List Cond) (rm : Room) (Z : State) (n0 : Nat) (h0 : Heap) (ws : List Addr) (as' : Array Value) (QQ : Option Value → Heap → Prop) : Prop :=
  MetFree l y (head1 (Cond.code y bytes maxL ret :: wl) rm) (fun a U => a = as' ∧ Z.Warmed39 U.vm ∧ U.heap = h0 ∧ CHv Z EL U.vm h0 ∧ ∀ x ∈ ws, Safe Z EL U.vm h0 x) (fun _ _ _ _ _ => True) (fun _ U o U' => ∃ v L, o = .returned v ∧ (QQ v U'.heap ∧ Keep h0 U'.heap ws ∧ Fr n0 L) ∧ CHr Z EL U.vm U.heap U'.vm U'.heap ∧ ReturnedEndW U o U' L rm.cells rm.slots)
def Con (md : Option EList) (l : Launch) (y : MethodName) (bytes : ByteArray) (maxL : Nat) (ret : Option FieldType) (wl : List Cond) (rm : Room) (Z : State) (n0 : Nat) (h0 : Heap) (ws : List Addr) (as' : Array Value) (QQ : Option Value → Heap → Prop) : Prop := match md with
  | none => ConN l y bytes maxL ret wl rm Z n0 h0 ws as' QQ
  | some EL => ConW EL l y bytes maxL ret wl rm Z n0 h0 ws as' QQ
theorem Con.asN {y : MethodName} {bytes : ByteArray} {maxL : Nat} {ret : Option FieldType} {wl : List Cond} {rm : Room} {as' : Array Value} {QQ : Option Value → Heap → Prop} (C : Con none l y bytes maxL ret wl rm Z n0 h ws as' QQ) :
    MetFree l y (head1 (Cond.code y bytes maxL ret :: wl) rm) (fun a U => a = as' ∧ Z.Warmed39 U.vm ∧ U.heap = h) (fun _ _ _ _ _ => True) (fun _ U o U' => ∃ v L, o = .returned v ∧ (QQ v U'.heap ∧ Keep h U'.heap ws ∧ Fr n0 L) ∧ FrameEnd U o U' L rm.cells rm.slots) := C
theorem Con.asW {EL : EList} {y : MethodName} {bytes : ByteArray} {maxL : Nat} {ret : Option FieldType} {wl : List Cond} {rm : Room} {as' : Array Value} {QQ : Option Value → Heap → Prop} (C : Con (some EL) l y bytes maxL ret wl rm Z n0 h ws as' QQ) :
    MetFree l y (head1 (Cond.code y bytes maxL ret :: wl) rm) (fun a U => a = as' ∧ Z.Warmed39 U.vm ∧ U.heap = h ∧ CHv Z EL U.vm h ∧ ∀ x ∈ ws, Safe Z EL U.vm h x) (fun _ _ _ _ _ => True) (fun _ U o U' => ∃ v L, o = .returned v ∧ (QQ v U'.heap ∧ Keep h U'.heap ws ∧ Fr n0 L) ∧ CHr Z EL U.vm U.heap U'.vm U'.heap ∧ ReturnedEndW U o U' L rm.cells rm.slots) := C
theorem Cal.ofN {y : MethodName} {bytes : ByteArray} {maxL : Nat} {ret : Option FieldType} {rm : Room} {len W : Nat} {wsC : List Addr} {as' : Array Value} {QQ : Option Value → Heap → Prop} (hM : Con none l y bytes maxL ret [] rm Z n0 h wsC as' QQ) (wc : (Cond.code y bytes maxL ret).before a0 Z = true) (wz : (Cond.initialized y.cls).before a0 Z = true) (hf : rm.frames + 1 ≤ R.frames) (hl : W + (maxL + 11) + rm.locals ≤ R.locals) :
    Cal md l R p e below args y len W Z n0 h wsC as' rm.cells rm.slots QQ :=
  Cal.ofBack (fun s' hZ => backOf (Q := fun v h' L => QQ v h' ∧ Keep h h' wsC ∧ Fr n0 L) hM.asN hZ wc wz hf hl) (fun _ _ _ q => q)
theorem Cal.ofW {EL : EList} {y : MethodName} {bytes : ByteArray} {maxL : Nat} {ret : Option FieldType} {rm : Room} {len W : Nat} {wsC : List Addr} {as' : Array Value} {QQ : Option Value → Heap → Prop} (hM : Con (some EL) l y bytes maxL ret [] rm Z n0 h wsC as' QQ) (wc : (Cond.code y bytes maxL ret).before a0 Z = true) (wz : (Cond.initialized y.cls).before a0 Z = true) (hf : rm.frames + 1 ≤ R.frames) (hl : W + (maxL + 11) + rm.locals ≤ R.locals) :
    Cal (some EL) l R p e below args y len W Z n0 h wsC as' rm.cells rm.slots QQ := fun s vm0 a1 hZ hEL H hs =>
  BackS.of_freeW (bytes := bytes) (maxL := maxL) (ret := ret) (E := fun _ first o t L k n => k = rm.cells ∧ n = rm.slots ∧ (∃ v, o = .returned v ∧ QQ v t.heap ∧ Keep h t.heap wsC ∧ Fr n0 L) ∧ CHr Z EL first.vm first.heap t.vm t.heap) hM.asW hf hl
    (fun m meth c A a Y hp => have hU : Z.Warmed39 A.U.vm := wtrans (s := s.setVm vm0) hZ Y.warmed
      ⟨by show (Cond.and _ .tt).before a A.U = true; rw [Cond.before_and, mv hU wc]; rfl, mv hU wc, mv hU wz, hp.2.2.1, hp.2.2.2⟩)
    (fun m meth c A a g mk Y hp => ⟨hp.1, wtrans (s := s.setVm vm0) hZ Y.warmed, hp.2.1, (CHv.at Y hZ hEL H).1, fun x hx => (CHv.at Y hZ hEL H).safe (hs x hx).1 (hs x hx).2⟩) (fun _ _ _ _ _ _ _ _ _ => trivial)
    (fun _ _ _ _ ⟨v, L, h1, h2, h3, h4⟩ => ⟨L, _, _, h4, rfl, rfl, ⟨v, h1, h2⟩, h3⟩)
    (fun m meth c A a g mk v t L k n Y hp _ _ ⟨e1, e2, ⟨v', e3, e4⟩, e5⟩ => by
      cases e3; subst e1 e2
      refine ⟨⟨L, e4, rfl, rfl, rfl⟩, (CHv.at Y hZ hEL H).trans ?_⟩
      rw [← hp.2.1]; exact e5)
/-- behind a call in the narrow family -/
theorem Cx.backN {s1 : State} {locs : List Loc} {Bp : Pt} {L : List Loc} {wsC : List Addr} {kc ks : Nat} (K : Cx p l e R s m args below meth c B ML Z own n0 none T h ws cells slots) (X' : Stand p l e R s1 m args below meth c Bp.U Bp.locs Bp.cells Bp.slots) (hZ : Z.Warmed39 s1.vm) (hown : s1.vm.findClass own = some m.cls) (N : Fr n0 locs) (J : Jd none Z s s1 h) (Wq : ∀ x ∈ ws, n0 ≤ x ∧ x < h.size ∧ Sf none Z s1 h x) (Kp : Keep h Bp.U.heap wsC) (NL : Fr n0 L) (b1 : Bp.locs = locs ++ L) (b2 : Bp.cells = cells + kc) (b3 : Bp.slots = slots + ks) : Cx p l e R s m args below meth c B ML Z own n0 none Bp.U Bp.U.heap ws (cells + kc) (slots + ks) := by
  obtain ⟨U, lo, ce, sl⟩ := Bp
  dsimp only [Pt.U, Pt.locs, Pt.cells, Pt.slots] at *
  subst b1 b2 b3
  exact ⟨K.1, rfl, Nat.le_trans K.2.2.1 Kp.1, s1, _, X', hZ, hown, Fr.app N NL, J, fun x hx => ⟨(Wq x hx).1, Nat.lt_of_lt_of_le (Wq x hx).2.1 Kp.1, trivial⟩⟩
/-- behind a call in the wide family -/
theorem Cx.backW {EL : EList} {vm0 : Vm} {k0 : Nat} {locs : List Loc} {Bp : Pt} {L : List Loc} {wsC : List Addr} {kc ks : Nat} {a1 : Array Value} (K : Cx p l e R s m args below meth c B ML Z own n0 (some EL) T h ws cells slots) (X' : Stand p l e R ((s.setVm vm0).setVm Bp.U.vm) m args below meth c Bp.U Bp.locs Bp.cells Bp.slots) (hZ : Z.Warmed39 vm0) (hown : vm0.findClass own = some m.cls) (N : Fr n0 locs) (hS : s.Since vm0 k0) (hk : k0 ≤ h.size) (hC : CHr Z EL s.vm s.heap vm0 h) (hE : EW Z a1 EL) (Wq : ∀ x ∈ ws, n0 ≤ x ∧ x < h.size ∧ Safe Z EL vm0 h x) (hS2 : (s.setVm vm0).Since Bp.U.vm Bp.U.heap.size) (Kp : Keep h Bp.U.heap wsC) (NL : Fr n0 L) (b1 : Bp.locs = locs ++ L) (b2 : Bp.cells = cells + kc) (b3 : Bp.slots = slots + ks) (C2 : CHr Z EL vm0 h Bp.U.vm Bp.U.heap) : Cx p l e R s m args below meth c B ML Z own n0 (some EL) Bp.U Bp.U.heap ws (cells + kc) (slots + ks) := by
  obtain ⟨U, lo, ce, sl⟩ := Bp
  dsimp only [Pt.U, Pt.locs, Pt.cells, Pt.slots] at *
  subst b1 b2 b3
  refine ⟨K.1, rfl, Nat.le_trans K.2.2.1 Kp.1, s.setVm U.vm, _, X', State.Warmed39.trans (t := s.setVm vm0) hZ hS2.1, ?_, Fr.app N NL, ⟨U.vm, U.heap.size, a1, rfl, hS.trans hS2 (Nat.le_trans hk Kp.1), Nat.le_refl _, hC.trans C2, hE⟩, fun x hx => ⟨(Wq x hx).1, Nat.lt_of_lt_of_le (Wq x hx).2.1 Kp.1, C2.safe (Wq x hx).2.1 (Wq x hx).2.2⟩⟩
  show U.vm.findClass own = _
  rw [hS2.1.alike.findClass]; exact hown
theorem gCallS (K : Cx p l e R s m args below meth c B ML Z own n0 md T h ws cells slots) {index : Nat} {y : MethodName} {bytes : ByteArray} {maxL : Nat} {ret : Option FieldType} {wsC : List Addr} {kc ks W : Nat} {QQ : Option Value → Heap → Prop} (argsL rest : List Value)
    (hd : Dc B pc (.invokestatic index) 3 pc') (w1 : (Cond.methodLink own index y).before a0 Z = true) (w2 : (Cond.static y).before a0 Z = true) (w3 : (Cond.initialized y.cls).before a0 Z = true) (w4 : (Cond.code y bytes maxL ret).before a0 Z = true)
    (hC : Cal md l R p e below args y 3 W Z n0 h wsC argsL.toArray kc ks QQ) (hws : ∀ x ∈ wsC, x ∈ ws) {ps : List FieldType} {rt : Option FieldType} (hpd : parseMethodDescriptor y.desc = some ⟨ps, rt⟩) (hpl : argsL.length = ps.length) (hst : St = argsL.reverse ++ rest) (hW : (rest.map fun v => v.category).sum ≤ W) (hsz : Ls.size = ML) (hc : cells + kc ≤ R.cells) (hs : slots + ks ≤ R.slots) (hy : y.cls ≠ "java/lang/invoke/MethodHandle" ∧ y.cls ≠ "java/lang/invoke/VarHandle")
    (k : ∀ (v : Option Value) (T' : State) (h' : Heap), Cx p l e R s m args below meth c B ML Z own n0 md T' h' ws (cells + kc) (slots + ks) → Keep h h' wsC → QQ v h' → Go p e below F T' (mkF m pc' Ls (v.toList ++ rest))) : Go p e below F T (mkF m pc Ls St) := by
  have K0 := K
  obtain ⟨⟨hx, hby, hml⟩, eT, hn0, s1, locs, X, hZ, hown, N, J, Wq⟩ := K
  obtain ⟨hd, rfl⟩ := hd
  cases md with
  | none =>
    obtain ⟨v, vm1, Bp, -, X', ⟨L, ⟨q1, q2, q3⟩, b1, b2, b3⟩, st⟩ := Jvm.LawKit.callS X hx hown (mvT hZ w1) (mvT hZ w2) (mvT hZ w3) (mvT hZ w4) hy (hC s1 hZ) (g := mkF m pc Ls St) rfl (by rw [hml]; exact hsz) (lenOf hpd hpl) hst (by show 2 * 0 + _ ≤ _; omega) (hb hby hd) (fun _ _ => ⟨rfl, eT, hc, hs⟩)
    exact (k v Bp.U Bp.U.heap (K0.backN X' hZ hown N J Wq q2 q3 b1 b2 b3) q2 q1).st st
  | some EL =>
    obtain ⟨vm0, k0, a1, rfl, j2, j3, j4, j5⟩ := J
    obtain ⟨v, vm1, Bp, -, X', S2, -, ⟨⟨L, ⟨q1, q2, q3⟩, b1, b2, b3⟩, C2⟩, st⟩ := callSS X hx hown (mvT hZ w1) (mvT hZ w2) (mvT hZ w3) (mvT hZ w4) hy (hC s vm0 a1 hZ j5 j4.1 (fun x hx => (Wq x (hws x hx)).2)) (g := mkF m pc Ls St) rfl (by rw [hml]; exact hsz) (lenOf hpd hpl) hst (by show 2 * 0 + _ ≤ _; omega) (hb hby hd) (fun _ _ => ⟨rfl, eT, hc, hs⟩)
    exact (k v Bp.U Bp.U.heap (K0.backW X' hZ hown N j2 j3 j4 j5 Wq S2 q2 q3 b1 b2 b3 C2) q2 q1).tr st
theorem gCallI (K : Cx p l e R s m args below meth c B ML Z own n0 md T h ws cells slots) {index : Nat} {y : MethodName} {bytes : ByteArray} {maxL : Nat} {wsC : List Addr} {kc ks W : Nat} {QQ : Option Value → Heap → Prop} (a : Addr) (argsL rest : List Value)
    (hd : Dc B pc (.invokespecial index) 3 pc') (hy1 : y.name = "<init>") (w1 : (Cond.methodLink own index y).before a0 Z = true) (w2 : (Cond.instanceMethod y).before a0 Z = true) (w4 : (Cond.code y bytes maxL none).before a0 Z = true)
    (hC : Cal md l R p e below args y 3 W Z n0 h wsC (.ref a :: argsL).toArray kc ks QQ) (hws : ∀ x ∈ wsC, x ∈ ws) {ps : List FieldType} {rt : Option FieldType} (hpd : parseMethodDescriptor y.desc = some ⟨ps, rt⟩) (hpl : argsL.length = ps.length) (hst : St = argsL.reverse ++ .ref a :: rest) (hW : (rest.map fun v => v.category).sum ≤ W) (hsz : Ls.size = ML) (hc : cells + kc ≤ R.cells) (hs : slots + ks ≤ R.slots) (hy : y.cls ≠ "java/lang/invoke/MethodHandle" ∧ y.cls ≠ "java/lang/invoke/VarHandle")
    (k : ∀ (v : Option Value) (T' : State) (h' : Heap), Cx p l e R s m args below meth c B ML Z own n0 md T' h' ws (cells + kc) (slots + ks) → Keep h h' wsC → QQ v h' → Go p e below F T' (mkF m pc' Ls (v.toList ++ rest))) : Go p e below F T (mkF m pc Ls St) := by
  have K0 := K
  obtain ⟨⟨hx, hby, hml⟩, eT, hn0, s1, locs, X, hZ, hown, N, J, Wq⟩ := K
  obtain ⟨hd, rfl⟩ := hd
  cases md with
  | none =>
    obtain ⟨v, vm1, Bp, -, X', ⟨L, ⟨q1, q2, q3⟩, b1, b2, b3⟩, st⟩ := X.specialBack hx hy1 hown (mvT hZ w1) (mvT hZ w2) (mvT hZ w4) hy (hC s1 hZ) (g := mkF m pc Ls St) rfl (by rw [hml]; exact hsz) (Steps.refl _) (lenOf hpd hpl) hst (by show 2 * 0 + _ ≤ _; omega) (hb hby hd) (fun _ _ => ⟨rfl, eT, hc, hs⟩)
    exact (k v Bp.U Bp.U.heap (K0.backN X' hZ hown N J Wq q2 q3 b1 b2 b3) q2 q1).tr st
  | some EL =>
    obtain ⟨vm0, k0, a1, rfl, j2, j3, j4, j5⟩ := J
    obtain ⟨v, vm1, Bp, -, X', S2, -, ⟨⟨L, ⟨q1, q2, q3⟩, b1, b2, b3⟩, C2⟩, st⟩ := X.specialBackS hx hy1 hown (mvT hZ w1) (mvT hZ w2) (mvT hZ w4) hy (hC s vm0 a1 hZ j5 j4.1 (fun x hx => (Wq x (hws x hx)).2)) (g := mkF m pc Ls St) rfl (by rw [hml]; exact hsz) (Steps.refl _) (lenOf hpd hpl) hst (by show 2 * 0 + _ ≤ _; omega) (hb hby hd) (fun _ _ => ⟨rfl, eT, hc, hs⟩)
    exact (k v Bp.U Bp.U.heap (K0.backW X' hZ hown N j2 j3 j4 j5 Wq S2 q2 q3 b1 b2 b3 C2) q2 q1).tr st
theorem gCallV (K : Cx p l e R s m args below meth c B ML Z own n0 md T h ws cells slots) {index : Nat} {C : String} {y : MethodName} {wsC : List Addr} {kc ks W : Nat} {QQ : Option Value → Heap → Prop} (a : Addr) (argsL rest : List Value)
    (hd : Dc B pc (.invokevirtual index) 3 pc') (w1 : (Cond.methodLink own index y).before a0 Z = true) (w2 : (Cond.declares y).before a0 Z = true) (w3 : (Cond.selects C y y).before a0 Z = true) (w4 : (Cond.instanceMethod y).before a0 Z = true)
    (hC : Cal md l R p e below args y 3 W Z n0 h wsC (.ref a :: argsL).toArray kc ks QQ) (E : Exa Z h a C) (hws : ∀ x ∈ wsC, x ∈ ws) {ps : List FieldType} {rt : Option FieldType} (hpd : parseMethodDescriptor y.desc = some ⟨ps, rt⟩) (hpl : argsL.length = ps.length) (hst : St = argsL.reverse ++ .ref a :: rest) (hW : (rest.map fun v => v.category).sum ≤ W) (hsz : Ls.size = ML) (hc : cells + kc ≤ R.cells) (hs : slots + ks ≤ R.slots) (hy : y.cls ≠ "java/lang/invoke/MethodHandle" ∧ y.cls ≠ "java/lang/invoke/VarHandle")
    (k : ∀ (v : Option Value) (T' : State) (h' : Heap), Cx p l e R s m args below meth c B ML Z own n0 md T' h' ws (cells + kc) (slots + ks) → Keep h h' wsC → QQ v h' → Go p e below F T' (mkF m pc' Ls (v.toList ++ rest))) : Go p e below F T (mkF m pc Ls St) := by
  have K0 := K
  obtain ⟨⟨hx, hby, hml⟩, eT, hn0, s1, locs, X, hZ, hown, N, J, Wq⟩ := K
  obtain ⟨hd, rfl⟩ := hd
  obtain ⟨cq, kq, qa, -, qc⟩ := isOf hZ eT E
  cases md with
  | none =>
    obtain ⟨v, vm1, Bp, -, X', ⟨L, ⟨q1, q2, q3⟩, b1, b2, b3⟩, st⟩ := X.virtualBack hx hown (mvT hZ w1) (mvT hZ w2) (notFace_of_selects (args := #[]) (mvT hZ w3)) (mvT hZ w3) (mvT hZ w4) hy (hC s1 hZ) qa qc (g := mkF m pc Ls St) rfl (by rw [hml]; exact hsz) (Steps.refl _) (lenOf hpd hpl) hst (by show 2 * 0 + _ ≤ _; omega) (hb hby hd) (fun _ _ => ⟨rfl, eT, hc, hs⟩)
    exact (k v Bp.U Bp.U.heap (K0.backN X' hZ hown N J Wq q2 q3 b1 b2 b3) q2 q1).tr st
  | some EL =>
    obtain ⟨vm0, k0, a1, rfl, j2, j3, j4, j5⟩ := J
    obtain ⟨v, vm1, Bp, -, X', S2, -, ⟨⟨L, ⟨q1, q2, q3⟩, b1, b2, b3⟩, C2⟩, st⟩ := X.virtualBackS hx hown (mvT hZ w1) (mvT hZ w2) (notFace_of_selects (args := #[]) (mvT hZ w3)) (mvT hZ w3) (mvT hZ w4) hy (hC s vm0 a1 hZ j5 j4.1 (fun x hx => (Wq x (hws x hx)).2)) qa qc (g := mkF m pc Ls St) rfl (by rw [hml]; exact hsz) (Steps.refl _) (lenOf hpd hpl) hst (by show 2 * 0 + _ ≤ _; omega) (hb hby hd) (fun _ _ => ⟨rfl, eT, hc, hs⟩)
    exact (k v Bp.U Bp.U.heap (K0.backW X' hZ hown N j2 j3 j4 j5 Wq S2 q2 q3 b1 b2 b3 C2) q2 q1).tr st
/-! ## the end, the entry -/
def End (md : Option EList) (s Z : State) (n0 : Nat) (h0 : Heap) (ws : List Addr) (kc ks : Nat) (QQ : Option Value → Heap → Prop) : Outcome → State → Prop := match md with
  | none => fun o t => ∃ v L, o = .returned v ∧ (QQ v t.heap ∧ Keep h0 t.heap ws ∧ Fr n0 L) ∧ FrameEnd s o t L kc ks
  | some EL => fun o t => ∃ v L, o = .returned v ∧ (QQ v t.heap ∧ Keep h0 t.heap ws ∧ Fr n0 L) ∧ CHr Z EL s.vm s.heap t.vm t.heap ∧ ReturnedEndW s o t L kc ks
theorem sbn_mono {s t : State} {L : List Loc} {k n k' n' : Nat} (h : s.sameButNew t L k n) (a : k ≤ k') (b : n ≤ n') : s.sameButNew t L k' n' := h.mono a b
theorem gEnd {g : JFrame} {h0 : Heap} {wsA : List Addr} {kc ks : Nat} {QQ : Option Value → Heap → Prop} {v : Option Value} (K : Cx p l e R s m args below meth c B ML Z own n0 md T h ws cells slots) (hlk : meth.locks = false) (hv : meth.sig.returnType = none → v = none)
    (st : ∀ {s1 : State} {locs : List Loc} {fs : List Frame}, Stand p l e R s1 m args below meth c T locs cells slots → (∀ (f : JFrame) (acts : List Action), f.method = m → f.locked = none → f.entered = [] → (doReturn e (T.setTop f) acts v).1 = T.setFrames fs) → Steps p.tables e below (T.setTop g) (T.setFrames fs))
    (Kp : Keep h0 h wsA) (hc : cells ≤ kc) (hs : slots ≤ ks) (hq : QQ v h) : Go p e below (End md s Z n0 h0 wsA kc ks QQ) T g := by
  obtain ⟨⟨hx, hby, hml⟩, eT, hn0, s1, locs, X, hZ, hown, N, J, Wq⟩ := K
  subst eT
  cases md with
  | none =>
    cases J
    obtain ⟨fs, hr, hrun, hended, hW, hsame⟩ := X.leave (v := v) hv hlk
    exact ⟨_, _, st X hr, hrun, hended, v, locs, rfl, ⟨hq, Kp, N⟩, ⟨_, rfl⟩, hW, sbn_mono hsame hc hs⟩
  | some EL =>
    obtain ⟨vm0, k0, a1, rfl, j2, j3, j4, j5⟩ := J
    obtain ⟨fs, hr, hrun, hended, hW⟩ := X.leaveW j2 j3 (v := v) hv hlk
    refine ⟨_, _, st X hr, hrun, hended, v, locs, rfl, ⟨hq, Kp, N⟩, (show CHr Z EL s.vm s.heap T.vm T.heap from j4.trans (CHv.at X hZ j5 j4.1)), ?_⟩
    obtain ⟨w1, w2, w3, w4⟩ := hW
    exact ⟨w1, w2, w3, sbn_mono w4 hc hs⟩
theorem Cal.mono {y : MethodName} {len W kc ks kc' ks' : Nat} {wsC : List Addr} {as' : Array Value} {QQ QQ' : Option Value → Heap → Prop} (C : Cal md l R p e below args y len W Z n0 h wsC as' kc ks QQ) (h1 : kc ≤ kc') (h2 : ks ≤ ks') (hq : ∀ v h', QQ v h' → QQ' v h') : Cal md l R p e below args y len W Z n0 h wsC as' kc' ks' QQ' := by
  cases md with
  | none =>
    intro s' hZ m meth c A g ig mk a X hg hsize hdg hW hn hp
    obtain ⟨v, ⟨U, lo, ce, sl⟩, X', ⟨L, ⟨q1, q2, q3⟩, b1, b2, b3⟩, st⟩ := C s' hZ m meth c A g ig mk a X hg hsize hdg hW hn ⟨hp.1, hp.2.1, by have := hp.2.2.1; omega, by have := hp.2.2.2; omega⟩
    dsimp only [Pt.U, Pt.locs, Pt.cells, Pt.slots] at *
    exact ⟨v, ⟨U, lo, A.cells + kc', A.slots + ks'⟩, X'.mono (by rw [b2]; exact Nat.add_le_add_left h1 _) (by rw [b3]; exact Nat.add_le_add_left h2 _), ⟨L, ⟨hq _ _ q1, q2, q3⟩, b1, rfl, rfl⟩, st⟩
  | some EL =>
    intro s vm0 a0 hZ hE H hs m meth c A g ig mk a X hg hsize hdg hW hn hp
    obtain ⟨v, ⟨U, lo, ce, sl⟩, X', S2, gr, ⟨⟨L, ⟨q1, q2, q3⟩, b1, b2, b3⟩, C2⟩, st⟩ := C s vm0 a0 hZ hE H hs m meth c A g ig mk a X hg hsize hdg hW hn ⟨hp.1, hp.2.1, by have := hp.2.2.1; omega, by have := hp.2.2.2; omega⟩
    dsimp only [Pt.U, Pt.locs, Pt.cells, Pt.slots] at *
    exact ⟨v, ⟨U, lo, A.cells + kc', A.slots + ks'⟩, X'.mono (by rw [b2]; exact Nat.add_le_add_left h1 _) (by rw [b3]; exact Nat.add_le_add_left h2 _), S2, gr, ⟨⟨L, ⟨hq _ _ q1, q2, q3⟩, b1, rfl, rfl⟩, C2⟩, st⟩

theorem gRetI {h0 : Heap} {wsA : List Addr} {kc ks : Nat} {QQ : Option Value → Heap → Prop} {t : FieldType} {z : Int32} (K : Cx p l e R s m args below meth c B ML Z own n0 md T h ws cells slots) (hlk : meth.locks = false) (hret : meth.sig.returnType = some t) (ht : t = .int ∨ t = .boolean ∨ t = .byte ∨ t = .char ∨ t = .short) (hd : Dc B pc .ireturn 1 pc') (hn : narrow t (.int z) = .int z) (Kp : Keep h0 h wsA) (hc : cells ≤ kc) (hs : slots ≤ ks) (hq : QQ (some (.int z)) h) : Go p e below (End md s Z n0 h0 wsA kc ks QQ) T (mkF m pc Ls (.int z :: St)) :=
  gEnd K hlk (fun q => by rw [hret] at q; cases q) (fun X hr => retOut X K.1.1 hret hn (Or.inl ⟨rfl, ht, _, rfl⟩) (hb K.1.2.1 hd.1) hr) Kp hc hs hq
theorem gRetA {h0 : Heap} {wsA : List Addr} {kc ks : Nat} {QQ : Option Value → Heap → Prop} {t : FieldType} {w : Value} (K : Cx p l e R s m args below meth c B ML Z own n0 md T h ws cells slots) (hlk : meth.locks = false) (hret : meth.sig.returnType = some t) (ht : t.isReference = true) (hw : w.isRef = true) (hd : Dc B pc .areturn 1 pc') (Kp : Keep h0 h wsA) (hc : cells ≤ kc) (hs : slots ≤ ks) (hq : QQ (some w) h) : Go p e below (End md s Z n0 h0 wsA kc ks QQ) T (mkF m pc Ls (w :: St)) :=
  gEnd K hlk (fun q => by rw [hret] at q; cases q) (fun X hr => retOut X K.1.1 hret (by cases t <;> cases w <;> simp_all [FieldType.isReference, Value.isRef, narrow]) (Or.inr (Or.inr (Or.inr (Or.inr ⟨rfl, ht, hw⟩)))) (hb K.1.2.1 hd.1) hr) Kp hc hs hq
theorem gRetV {h0 : Heap} {wsA : List Addr} {kc ks : Nat} {QQ : Option Value → Heap → Prop} (K : Cx p l e R s m args below meth c B ML Z own n0 md T h ws cells slots) (hlk : meth.locks = false) (hret : meth.sig.returnType = none) (hd : Dc B pc .return_ 1 pc') (Kp : Keep h0 h wsA) (hc : cells ≤ kc) (hs : slots ≤ ks) (hq : QQ none h) : Go p e below (End md s Z n0 h0 wsA kc ks QQ) T (mkF m pc Ls []) :=
  gEnd K hlk (fun _ => rfl) (fun X hr => X.returnOut K.1.1 hret (hb K.1.2.1 hd.1) hr) Kp hc hs hq
def Ew (md : Option EList) (Z : State) : Prop := match md with | none => True | some EL => ∃ a0, EW Z a0 EL
theorem Con.intro {y : MethodName} {bytes : ByteArray} {maxL : Nat} {ret : Option FieldType} {wl : List Cond} {rm : Room} {h0 : Heap} {as' : Array Value} {QQ : Option Value → Heap → Prop} (hpn : plainName y.cls = true) (Z0 : n0 ≤ h0.size) (hws : ∀ x ∈ ws, n0 ≤ x ∧ x < h0.size) (hE : Ew md Z) (Ls0 : Array Slot) (hef : ∀ m, entryFrame m as' maxL = mkF m 0 Ls0 [])
    (body : ∀ p e s m below meth c T, meth.locks = false → meth.sig.returnType = ret → meth.name = y.name → Cx p l e rm s m as' below meth c bytes maxL Z y.cls n0 md T h0 ws 0 0 → Go p e below (End md s Z n0 h0 ws rm.cells rm.slots QQ) T (mkF m 0 Ls0 [])) : Con md l y bytes maxL ret wl rm Z n0 h0 ws as' QQ := by
  cases md with
  | none =>
    show ConN l y bytes maxL ret wl rm Z n0 h0 ws as' QQ
    unfold ConN
    refine MetFree.of_bodySF (plainFor_of_name hpn) hisR ?_
    intro p e s m args below meth c s₁ Bd hml0 hP hK
    obtain ⟨ha, hZ, hh⟩ := hP
    subst ha
    have G := body p e s m below meth c s₁ Bd.notSynchronized Bd.returns (name_of_methodNamed Bd.named Bd.method).1 ⟨⟨Bd.exec, Bd.bytes, hml0⟩, by rw [← hh, Bd.state]; rfl, Z0, s, [], Stand.of_body Bd, hZ, findClass_of_methodNamed Bd.named, Fr.nil n0, rfl, fun x hx => ⟨(hws x hx).1, (hws x hx).2, trivial⟩⟩
    rw [← hef m] at G
    exact G
  | some EL =>
    obtain ⟨a1, hE⟩ := hE
    show ConW EL l y bytes maxL ret wl rm Z n0 h0 ws as' QQ
    unfold ConW
    refine MetFree.of_bodySF (plainFor_of_name hpn) hisR ?_
    intro p e s m args below meth c s₁ Bd hml0 hP hK
    obtain ⟨ha, hZ, hh, H, hsf⟩ := hP
    subst ha
    have G := body p e s m below meth c s₁ Bd.notSynchronized Bd.returns (name_of_methodNamed Bd.named Bd.method).1 ⟨⟨Bd.exec, Bd.bytes, hml0⟩, by rw [← hh, Bd.state]; rfl, Z0, s, [], Stand.of_body Bd, hZ, findClass_of_methodNamed Bd.named, Fr.nil n0, ⟨s.vm, s.heap.size, a1, rfl, (State.WarmedH.refl s).since _, by rw [hh]; exact Nat.le_refl _, by rw [hh]; exact CHr.refl H, hE⟩, fun x hx => ⟨(hws x hx).1, (hws x hx).2, hsf x hx⟩⟩
    rw [← hef m] at G
    exact G
theorem EW.re {a1 a2 : Array Value} {EL : EList} (E : EW Z a1 EL) : EW Z a2 EL := fun q hq => by
  obtain ⟨t, w, h⟩ := E q hq
  exact ⟨t, mvS (s := Z) (vm0 := Z.vm) (State.Warmed39.refl Z) w, h⟩
theorem gLdc {EL : EList} (K : Cx p l e R s m args below meth c B ML Z own n0 (some EL) T h ws cells slots) {index : Nat} {text : String} (hd : Dc B pc (.ldc index) 2 pc') (w : (Cond.stringLink own index text).before a0 Z = true) (wS : ∀ a ∈ Bundle.stringAtoms, a.before a0 Z = true) (hmem : (own, index) ∈ EL)
    {vs : List Value} {z : Int32} (ht : (∀ c ∈ text.toList, c.toNat < 256) ∧ text.toList.map (fun c => Value.int (Jvm.Lit.byteI c.toNat.toUInt16)) = vs) (hz : ¬ z < 0) (hl : z.toNatClampNeg = vs.length) (n : Nat) (hn : 4 * text.toList.length ≤ n) (hbig : n ≤ 536870912) (hc : cells + 2 ≤ R.cells) (hs : slots + (n + 4) ≤ R.slots)
    (k : ∀ (T' : State) (h' : Heap) (a b : Addr) (kA : ClassId), Cx p l e R s m args below meth c B ML Z own n0 (some EL) T' h' ws (cells + 2) (slots + (n + 4)) → Ext h h' → Exa Z h' a "java/lang/String" → Fld Z h' a "java/lang/String" "coder" "B" (.int 0) → Fld Z h' a "java/lang/String" "value" "[B" (.ref b) → Arv Z h' b kA .byte z vs (.int 0) → (∀ x ∈ ws, x ≠ a ∧ x ≠ b) → Go p e below F T' (mkF m pc' Ls (.ref a :: St))) : Go p e below F T (mkF m pc Ls St) := by
  have K0 := K
  obtain ⟨⟨hx, hby, hml⟩, eT, hn0, s1, locs, X, hZ, hown, N, J, Wq⟩ := K
  obtain ⟨hd, rfl⟩ := hd
  obtain ⟨vm0, k0, a1, rfl, j2, j3, j4, j5⟩ := J
  obtain ⟨a, T', h', k1, b, kA, X', e', E, S', hk', hZ', hown', f1, f2, f3, f4, -, -, C2, -, hne, st⟩ := ldcCH X hx hZ hown w wS eT j2 j3 (EW.re j5) hmem j4.1 ht hz hl (g := mkF m pc Ls St) rfl (hb hby hd) hn hbig hc hs
  exact (k T' h' a b kA ⟨K0.1, e', Nat.le_trans hn0 E.1, _, locs, X', hZ', hown', N, ⟨T'.vm, k1, a1, rfl, S', hk', j4.trans C2, j5⟩, fun x hx => ⟨(Wq x hx).1, Nat.lt_of_lt_of_le (Wq x hx).2.1 E.1, C2.safe (Wq x hx).2.1 (Wq x hx).2.2⟩⟩ E f1 f2 f3 f4 (fun x hx => hne x (C2.safe (Wq x hx).2.1 (Wq x hx).2.2))).st st
theorem gLdcO {EL : EList} (K : Cx p l e R s m args below meth c B ML Z own n0 (some EL) T h ws cells slots) {index : Nat} {text : String} (hd : Dc B pc (.ldc index) 2 pc') (w : (Cond.stringLink own index text).before a0 Z = true) (wS : ∀ a ∈ Bundle.stringAtoms, a.before a0 Z = true) (n : Nat) (hn : 4 * text.toList.length ≤ n) (hbig : n ≤ 536870912) (hc : cells + 2 ≤ R.cells) (hs : slots + (n + 4) ≤ R.slots)
    (k : ∀ (T' : State) (h' : Heap) (a : Addr), Cx p l e R s m args below meth c B ML Z own n0 (some EL) T' h' ws (cells + 2) (slots + (n + 4)) → Ext h h' → Go p e below F T' (mkF m pc' Ls (.ref a :: St))) : Go p e below F T (mkF m pc Ls St) := by
  have K0 := K
  obtain ⟨⟨hx, hby, hml⟩, eT, hn0, s1, locs, X, hZ, hown, N, J, Wq⟩ := K
  obtain ⟨hd, rfl⟩ := hd
  obtain ⟨vm0, k0, a1, rfl, j2, j3, j4, j5⟩ := J
  obtain ⟨a, T', h', k1, X', e', E, S', hk', hZ', hown', C2, -, st⟩ := ldcOH X hx hZ hown w wS eT j2 j3 (EW.re j5) j4.1 (g := mkF m pc Ls St) rfl (hb hby hd) hn hbig hc hs
  exact (k T' h' a ⟨K0.1, e', Nat.le_trans hn0 E.1, _, locs, X', hZ', hown', N, ⟨T'.vm, k1, a1, rfl, S', hk', j4.trans C2, j5⟩, fun x hx => ⟨(Wq x hx).1, Nat.lt_of_lt_of_le (Wq x hx).2.1 E.1, C2.safe (Wq x hx).2.1 (Wq x hx).2.2⟩⟩ E).st st

/-! ## from a case's words -/
theorem eqint_v {first s : State} {o : Option Outcome} {idx : List Nat} {t : Term} {i : Int32} (q : (Cond.eq t (.int i)).value args first o s idx = some true) : t.eval args first o idx s = some (.int i) := by
  simp only [Cond.value, Term.eval] at q
  cases ht : t.eval args first o idx s with
  | none => simp [ht] at q
  | some x => cases x <;> simp [ht] at q ⊢; exact q
theorem ord_of {s : State} {t : Term} {C n d : String} {x : Addr} {i : Int32} (ht : t.eval args s none [] s = some (.ref x)) (q : (Cond.eq (Term.field t C n d) (.int i)).value args s none s [] = some true) : Fld s s.heap x C n d (.int i) := by
  have e1 := eqint_v q
  rw [fld_at ht] at e1
  exact Fld.start e1
theorem Sta.kp {C n d : String} {v : Value} {h' : Heap} (Fd : Sta Z h C n d v) (K : Keep h h' ws) (hn : ∀ x ∈ ws, ∀ cell : Cell, h[x]? = some cell → cell.vm.isStatics = false) : Sta Z h' C n d v := by
  obtain ⟨cf, i, k, f, st, cell, h1, h2, h3, h4, h5, h6, h7⟩ := Fd
  exact ⟨cf, i, k, f, st, cell, h1, h2, h3, h4, K.2.1 st cell h5 (fun q => by have := hn st q cell h5; rw [h6] at this; cases this), h6, h7⟩
theorem i_ne {a b : Int32} (q : ¬ a = b) : a.toInt ≠ b.toInt := fun e => q (Int32.toInt_inj.mp e)
theorem i_lt {a b : Int32} (q : a < b) : a.toInt < b.toInt := Int32.lt_iff_toInt_lt.mp q
theorem i_nlt {a b : Int32} (q : ¬ a < b) : b.toInt ≤ a.toInt := by rw [Int32.lt_iff_toInt_lt] at q; omega
theorem i_eq {a b : Int32} (q : a.toInt = b.toInt) : a = b := Int32.toInt_inj.mp q
theorem and7 (x : Int32) : ¬ (x &&& 7) < 0 ∧ ¬ (7 : Int32) < (x &&& 7) := by
  have := c_and x 7 (by decide)
  rw [Int32.lt_iff_toInt_lt, Int32.lt_iff_toInt_lt]
  have e1 : (7 : Int32).toInt = 7 := by decide
  have e2 : (0 : Int32).toInt = 0 := by decide
  omega
theorem and255c (x : Int32) : ¬ (x &&& 255).toUInt32.toUInt16.toUInt32.toInt32 < 0 ∧ ¬ (255 : Int32) < (x &&& 255).toUInt32.toUInt16.toUInt32.toInt32 := by
  have h1 := c_and x 255 (by decide)
  have h2 := c_i2c (x &&& 255)
  rw [Int32.lt_iff_toInt_lt, Int32.lt_iff_toInt_lt]
  have e1 : (255 : Int32).toInt = 255 := by decide
  have e2 : (0 : Int32).toInt = 0 := by decide
  omega
theorem ch_up {x : Int32} (q : ¬ (255 : Int32) < x) : ¬ (65535 : Int32) < x := by
  rw [Int32.lt_iff_toInt_lt] at q ⊢
  have e1 : (255 : Int32).toInt = 255 := by decide
  have e2 : (65535 : Int32).toInt = 65535 := by decide
  omega
theorem allI0 {P : Int32 → Prop} : ∀ x ∈ ([] : List Int32), P x := fun _ q => nomatch q
theorem allI {P : Int32 → Prop} {y : Int32} {L : List Int32} (q : P y) (r : ∀ x ∈ L, P x) : ∀ x ∈ y :: L, P x := fun x z => (List.mem_cons.mp z).elim (fun u => u ▸ q) (r x)
theorem nar_ref {C : String} {v : Value} (hv : v.isRef = true) : narrow (.object C) v = v := by cases v <;> simp_all [Value.isRef, narrow]
theorem fits_refv {C : String} {v : Value} (hv : v.isRef = true) : fits (.object C) v = true := by cases v <;> simp_all [Value.isRef, fits]
theorem gInstNull (K : Cx p l e R s m args below meth c B ML Z own n0 md T h ws cells slots) {index : Nat} (hd : Dc B pc (.instanceof index) 3 pc') (r : Go p e below F T (mkF m pc' Ls (.int 0 :: St))) : Go p e below F T (mkF m pc Ls (.null :: St)) := by
  obtain ⟨⟨hx, hby, hml⟩, eT, hn0, s1, locs, X, -⟩ := K
  obtain ⟨hd, rfl⟩ := hd
  exact r.st (X.instanceofNull hx (g := mkF m pc Ls (.null :: St)) rfl rfl (hb hby hd))
/-- an object of C (whose superclass is the root) is no D, D an ordinary class -/
theorem noCast {C S D : String} {n : Nat} (w : (Cond.superclass C S).before a0 Z = true) (w0 : (Cond.noSuperclass S).before a0 Z = true) (wi : (Cond.instantiable D n).before a0 Z = true) (hCD : C ≠ D) (hSD : S ≠ D) : ∃ c t, Z.vm.findClass C = some c ∧ Z.vm.findClass D = some t ∧ Z.vm.assignable c t = false := by
  obtain ⟨c, h0⟩ := found_sup w
  obtain ⟨pp, k, kp, h1, h2, h3, h4, h5, h6, h7⟩ := Cond.superclass_spec h0 w
  obtain ⟨t, kt, g0, g2, g5, g7, -, -⟩ := Cond.instantiable_spec wi
  obtain ⟨c', k', r1, r2, r3, -, -⟩ := Cond.noSuperclass_spec w0
  cases h1.symm.trans r1
  cases h3.symm.trans r2
  have ne1 := ids_ne h0 g0 hCD
  have ne2 := ids_ne h1 g0 hSD
  have g7' : kt.isInterface = false := by cases hq : kt.isInterface <;> simp_all
  have sub : ∀ fuel, Z.vm.isSubclassAux fuel c t = false := fun fuel => by
    cases fuel with
    | zero => rfl
    | succ f =>
      cases f with
      | zero => simp [Vm.isSubclassAux, ne1, h2, h4]
      | succ f => simp [Vm.isSubclassAux, ne1, h2, h4, ne2, h3, r3]
  refine ⟨c, t, h0, g0, ?_⟩
  show Z.vm.assignableAux (255 + 1) c t = false
  simp [Vm.assignableAux, ne1, h2, g2, h5, g5, g7', Vm.isSubclass, sub]

/-! ## constants, clone, arrays of the start -/
theorem gLdcI (K : Cx p l e R s m args below meth c B ML Z own n0 md T h ws cells slots) {index : Nat} (v : Int32) (hd : Dc B pc (.ldc index) 2 pc') (w : (Cond.constant own index v).before a0 Z = true) (r : Go p e below F T (mkF m pc' Ls (.int v :: St))) : Go p e below F T (mkF m pc Ls St) := by
  obtain ⟨⟨hx, hby, hml⟩, eT, hn0, s1, locs, X, hZ, hown, -⟩ := K
  obtain ⟨hd, rfl⟩ := hd
  exact r.st fun t q => X.ldcI hx hown (mvT hZ w) (g := mkF m pc Ls St) rfl (hb hby hd) q
theorem gLdc2J (K : Cx p l e R s m args below meth c B ML Z own n0 md T h ws cells slots) {index : Nat} (v : Int64) (hd : Dc B pc (.ldc2_w index) 3 pc') (w : (Cond.constantLong own index v).before a0 Z = true) (r : Go p e below F T (mkF m pc' Ls (.long v :: St))) : Go p e below F T (mkF m pc Ls St) := by
  obtain ⟨⟨hx, hby, hml⟩, eT, hn0, s1, locs, X, hZ, hown, -⟩ := K
  obtain ⟨hd, rfl⟩ := hd
  exact r.st fun t q => X.ldc2J hx hown (mvT hZ w) (g := mkF m pc Ls St) rfl (hb hby hd) q
theorem gClone (K : Cx p l e R s m args below meth c B ML Z own n0 md T h ws cells slots) {index : Nat} {ad : String} {a : Addr} {kA : ClassId} {ty : FieldType} {z : Int32} {vs : List Value} {dv : Value} (hd : Dc B pc (.invokevirtual index) 3 pc')
    (w1 : (Cond.methodLink own index ⟨ad, "clone", "()Ljava/lang/Object;"⟩).before a0 Z = true) (w2 : (Cond.sameMethod ad "java/lang/Object" "clone" "()Ljava/lang/Object;").before a0 Z = true) (w3 : (Cond.native ⟨"java/lang/Object", "clone", "()Ljava/lang/Object;"⟩).before a0 Z = true)
    (w4 : (Cond.instanceMethod ⟨"java/lang/Object", "clone", "()Ljava/lang/Object;"⟩).before a0 Z = true) (w5 : (Cond.selects ad ⟨ad, "clone", "()Ljava/lang/Object;"⟩ ⟨"java/lang/Object", "clone", "()Ljava/lang/Object;"⟩).before a0 Z = true) (w6 : (Cond.castable ad "java/lang/Cloneable").before a0 Z = true)
    (A : Arv Z h a kA ty z vs dv) (E : Exa Z h a ad) (hsz : Ls.size = ML) (hf : 1 ≤ R.frames) {W : Nat} (hW : (St.map fun v => v.category).sum ≤ W) (hl : W + 14 ≤ R.locals) (cap : Nat) (hcap : z.toNatClampNeg ≤ cap) (hc : cells + 1 ≤ R.cells) (hs : slots + cap ≤ R.slots)
    (k : ∀ (T' : State) (h' : Heap) (x : Addr), Cx p l e R s m args below meth c B ML Z own n0 md T' h' (x :: ws) (cells + 1) (slots + cap) → Ext h h' → x = h.size → Arv Z h' x kA ty z vs dv → Exa Z h' x ad → (∀ y ∈ ws, y ≠ x) → Go p e below F T' (mkF m pc' Ls (.ref x :: St))) : Go p e below F T (mkF m pc Ls (.ref a :: St)) := by
  have K0 := K
  obtain ⟨⟨hx, hby, hml⟩, eT, hn0, s1, locs, X, hZ, hown, N, J, Wq⟩ := K
  obtain ⟨hd, rfl⟩ := hd
  obtain ⟨T', h', X', e', E', A', F', st⟩ := cloneH X hx hZ hown w1 w2 w3 w4 w5 w6 eT A.arh E (g := mkF m pc Ls (.ref a :: St)) rfl (by rw [hml]; exact hsz) rfl (hb hby hd) hf (W := W) (cap := cap) (by show 2 * 0 + _ ≤ _; omega) hl hcap hc hs
  exact (k T' h' h.size (K0.grow X' e' E' F'.lt hZ hown N J Wq) E' rfl A' F' (fun y hy => Nat.ne_of_lt (Wq y hy).2.1)).st st
theorem eqref_l {first s : State} {o : Option Outcome} {idx : List Nat} {t u : Term} {x : Addr} (q : (Cond.eq t u).value args first o s idx = some true) (hu : u.eval args first o idx s = some (.ref x)) : t.eval args first o idx s = some (.ref x) := by
  simp only [Cond.value, hu] at q
  cases ht : t.eval args first o idx s with
  | none => simp [ht] at q
  | some y => cases y <;> simp [ht] at q ⊢; exact q
theorem hasL_of {cl : Cell} {dv : Value} : ∀ (vs : List Value) (i : Nat), (∀ j, j < vs.length → cl.slots[i + j]? = some (vs.getD j dv)) → HasL cl i vs
  | [], _, _ => trivial
  | v :: r, i, H => ⟨H 0 (Nat.zero_lt_succ _), hasL_of r (i + 1) fun j hj => by have := H (j + 1) (Nat.succ_lt_succ hj); rw [Nat.add_right_comm] ; exact this⟩
theorem arv_words {s : State} {t : Term} {a : Addr} {ty : FieldType} {z : Int32} {vs : List Value} {dv : Value} (hf : Fit s) (ev : t.eval args s none [] s = some (.ref a)) (hA : (Cond.arrayOf t ty).value args s none s [] = some true) (hL : (Cond.eq (Term.length t) (.int z)).value args s none s [] = some true) (hz : ¬ z < 0) (hl : z.toNatClampNeg = vs.length)
    (hE : ∀ j, j < vs.length → (Term.elem t (.int (Int32.ofNat j))).eval args s none [] s = some (vs.getD j dv)) : ∃ k, Arv s s.heap a k ty z vs dv := by
  obtain ⟨cl, A⟩ := Arr.start ev hA
  have e1 := eqint_v hL
  have hat := A.fin (Vm.Alike.refl s.vm)
  simp [Term.eval, ev, hat] at e1
  refine ⟨_, Arv.start hf A (by omega) e1.2 hz hl (hasL_of (dv := dv) vs 0 fun j hj => ?_)⟩
  have hb2 := (back32 hz).2
  have := elem_in (hE j hj) ev rfl A.1
  have e3 : (Int32.ofNat j).toNatClampNeg = j := by
    have : (Int32.ofNat j).toInt = j := len_toInt (by omega)
    simp only [Int32.toNatClampNeg, this]; rfl
  rw [e3] at this
  rw [Nat.zero_add]; exact this.2
theorem fld_word {s : State} {t : Term} {C n d : String} {x : Addr} {v : Value} (ht : t.eval args s none [] s = some (.ref x)) (hv : (Term.field t C n d).eval args s none [] s = some v) : Fld s s.heap x C n d v := by
  rw [fld_at ht] at hv
  exact Fld.start hv
theorem narrow_c {x : Int32} (q : ¬ x < 0 ∧ ¬ (255 : Int32) < x) : narrow .char (.int x) = .int x := by
  show Value.int (nar .char x) = _
  rw [nar_c q.1 (ch_up q.2)]
theorem getD_bd {cs : List Int32} (hp : ∀ c ∈ cs, ¬ c < 0 ∧ ¬ (255 : Int32) < c) (k : Nat) : ¬ cs.getD k 0 < 0 ∧ ¬ (255 : Int32) < cs.getD k 0 := by
  rw [List.getD_eq_getElem?_getD]
  by_cases q : k < cs.length
  · rw [List.getElem?_eq_getElem q]; exact hp _ (List.getElem_mem q)
  · rw [List.getElem?_eq_none (by omega)]; decide
theorem ofNat_toInt {k : Nat} (q : k < 2147483648) : (Int32.ofNat k).toInt = k := len_toInt (by omega)
theorem land255 (x : Int64) : ¬ ((x &&& 255).toInt32).toUInt32.toUInt16.toUInt32.toInt32 < 0 ∧ ¬ (255 : Int32) < ((x &&& 255).toInt32).toUInt32.toUInt16.toUInt32.toInt32 := by
  have h1 := c_maskL x 255 8 (by decide) (by decide)
  have h2 := c_l2i (x &&& 255)
  have h3 := c_i2c ((x &&& 255).toInt32)
  have h4 := rng32 ((x &&& 255).toInt32)
  rw [Int32.lt_iff_toInt_lt, Int32.lt_iff_toInt_lt]
  have e1 : (255 : Int32).toInt = 255 := by decide
  have e2 : (0 : Int32).toInt = 0 := by decide
  have e3 : ((2 ^ 8 : Nat) : Int) = 256 := by decide
  rw [e3] at h1
  omega
theorem ofNat_lt {k n : Nat} (hk : k < 2147483648) (hn : n < 2147483648) (q : Int32.ofNat k < Int32.ofNat n) : k < n := by
  rw [Int32.lt_iff_toInt_lt, ofNat_toInt hk, ofNat_toInt hn] at q; omega
theorem gCallF (K : Cx p l e R s m args below meth c B ML Z own n0 md T h ws cells slots) {index count : Nat} {C : String} {xi y : MethodName} {wsC : List Addr} {kc ks W : Nat} {QQ : Option Value → Heap → Prop} (a : Addr) (argsL rest : List Value)
    (hd : Dc B pc (.invokeinterface index count) 5 pc') (w1 : (Cond.methodLink own index xi).before a0 Z = true) (w2 : (Cond.declares xi).before a0 Z = true) (w3 : (Cond.interfaceMethod xi.cls xi.cls xi.name xi.desc).before a0 Z = true) (w4 : (Cond.selects C xi y).before a0 Z = true) (w5 : (Cond.instanceMethod y).before a0 Z = true) (w6 : (Cond.publicMethod y).before a0 Z = true) (w7 : (Cond.unhidden C xi.name xi.desc).before a0 Z = true) (w8 : (Cond.castable C xi.cls).before a0 Z = true) (hk3 : ((Cond.interfaceMethod xi.cls xi.cls xi.name xi.desc).onTables && (Cond.interfaceMethod xi.cls xi.cls xi.name xi.desc).keepsFace) = true)
    (hC : Cal md l R p e below args y 5 W Z n0 h wsC (.ref a :: argsL).toArray kc ks QQ) (E : Exa Z h a C) (hws : ∀ x ∈ wsC, x ∈ ws) {ps : List FieldType} {rt : Option FieldType} (hpd : parseMethodDescriptor xi.desc = some ⟨ps, rt⟩) (hpl : argsL.length = ps.length) (hst : St = argsL.reverse ++ .ref a :: rest) (hW : (rest.map fun v => v.category).sum ≤ W) (hsz : Ls.size = ML) (hc : cells + kc ≤ R.cells) (hs : slots + ks ≤ R.slots) (hy : xi.cls ≠ "java/lang/invoke/MethodHandle" ∧ xi.cls ≠ "java/lang/invoke/VarHandle")
    (k : ∀ (v : Option Value) (T' : State) (h' : Heap), Cx p l e R s m args below meth c B ML Z own n0 md T' h' ws (cells + kc) (slots + ks) → Keep h h' wsC → QQ v h' → Go p e below F T' (mkF m pc' Ls (v.toList ++ rest))) : Go p e below F T (mkF m pc Ls St) := by
  have K0 := K
  obtain ⟨⟨hx, hby, hml⟩, eT, hn0, s1, locs, X, hZ, hown, N, J, Wq⟩ := K
  obtain ⟨hd, rfl⟩ := hd
  obtain ⟨cq, kq, qa, qb, qc⟩ := isOf hZ eT E
  cases md with
  | none =>
    obtain ⟨v, vm1, Bp, -, X', ⟨L, ⟨q1, q2, q3⟩, b1, b2, b3⟩, st⟩ := X.interfaceBack hx hown (mvT hZ w1) (mvT hZ w2) (mvT hZ w3 hk3) (mvT hZ w4) (mvT hZ w5) (mvT hZ w6) (mvT hZ w7) (mvT hZ w8) hy (hC s1 hZ) qa qb qc (g := mkF m pc Ls St) rfl (by rw [hml]; exact hsz) (Steps.refl _) (lenOf hpd hpl) hst (by show 2 * 0 + _ ≤ _; omega) (hb hby hd) (fun _ _ => ⟨rfl, eT, hc, hs⟩)
    exact (k v Bp.U Bp.U.heap (K0.backN X' hZ hown N J Wq q2 q3 b1 b2 b3) q2 q1).tr st
  | some EL =>
    obtain ⟨vm0, k0, a1, rfl, j2, j3, j4, j5⟩ := J
    obtain ⟨v, vm1, Bp, -, X', S2, -, ⟨⟨L, ⟨q1, q2, q3⟩, b1, b2, b3⟩, C2⟩, st⟩ := X.interfaceBackS hx hown (mvT hZ w1) (mvT hZ w2) (mvT hZ w3 hk3) (mvT hZ w4) (mvT hZ w5) (mvT hZ w6) (mvT hZ w7) (mvT hZ w8) hy (hC s vm0 a1 hZ j5 j4.1 (fun x hx => (Wq x (hws x hx)).2)) qa qb qc (g := mkF m pc Ls St) rfl (by rw [hml]; exact hsz) (Steps.refl _) (lenOf hpd hpl) hst (by show 2 * 0 + _ ≤ _; omega) (hb hby hd) (fun _ _ => ⟨rfl, eT, hc, hs⟩)
    exact (k v Bp.U Bp.U.heap (K0.backW X' hZ hown N j2 j3 j4 j5 Wq S2 q2 q3 b1 b2 b3 C2) q2 q1).tr st
theorem ofNat_nn {k : Nat} (q : k < 2147483648) : ¬ Int32.ofNat k < 0 := by
  rw [Int32.lt_iff_toInt_lt, ofNat_toInt q]
  have : (0 : Int32).toInt = 0 := by decide
  omega
theorem ofNat_ltI {k n : Nat} (hk : k < n) (hn : n < 2147483648) : Int32.ofNat k < Int32.ofNat n := by
  rw [Int32.lt_iff_toInt_lt, ofNat_toInt (by omega), ofNat_toInt hn]; omega
theorem ofNat_ne {k n : Nat} (hk : k < n) (hn : n < 2147483648) : ¬ Int32.ofNat k = Int32.ofNat n := fun q => by
  have := congrArg Int32.toInt q
  rw [ofNat_toInt (by omega), ofNat_toInt hn] at this; omega
theorem ofNat_clamp {k : Nat} (q : k < 2147483648) : (Int32.ofNat k).toNatClampNeg = k := by
  simp only [Int32.toNatClampNeg, ofNat_toInt q]; rfl
theorem ofNat_s {k : Nat} (q : k < 2147483647) : Int32.ofNat k + 1 = Int32.ofNat (k + 1) := by
  apply i_eq
  have h1 := c_iadd (Int32.ofNat k) 1
  have h2 := rng32 (Int32.ofNat k + 1)
  rw [ofNat_toInt (by omega)] at h1 ⊢
  have : (1 : Int32).toInt = 1 := by decide
  omega
theorem shl1 {k : Nat} (q : k < 1073741824) : Int32.ofNat k <<< ((1 : Int32) &&& 31) = Int32.ofNat (2 * k) := by
  apply i_eq
  have h1 := c_ishl (Int32.ofNat k) 1 1 (by decide)
  have h2 := rng32 (Int32.ofNat k <<< ((1 : Int32) &&& 31))
  rw [ofNat_toInt (by omega)] at h1 ⊢
  have : ((2 ^ 1 : Nat) : Int) = 2 := by decide
  omega
theorem shr1 {k : Nat} (q : k < 1073741824) : Int32.ofNat (2 * k) >>> ((1 : Int32) &&& 31) = Int32.ofNat k := by
  apply i_eq
  rw [c_ishr _ 1 1 (by decide), ofNat_toInt (by omega), ofNat_toInt (by omega)]
  have : ((2 ^ 1 : Nat) : Int) = 2 := by decide
  omega
theorem shr0 (x : Int32) : x >>> ((0 : Int32) &&& 31) = x := by
  apply i_eq
  rw [c_ishr _ 0 0 (by decide)]
  have : ((2 ^ 0 : Nat) : Int) = 1 := by decide
  omega
theorem nar_b2 (x : Int32) : nar .byte x.toInt8.toInt32 = x.toInt8.toInt32 := by
  apply i_eq
  show (x.toInt8.toInt32.toInt8.toInt32).toInt = _
  have h1 := c_i2b x.toInt8.toInt32
  have h2 := c_i2b x
  omega
theorem Cx.addN {b : Addr} (K : Cx p l e R s m args below meth c B ML Z own n0 none T h ws cells slots) (q1 : n0 ≤ b) (q2 : b < h.size) : Cx p l e R s m args below meth c B ML Z own n0 none T h (b :: ws) cells slots := by
  obtain ⟨k1, k2, k3, s1, locs, X, r1, r2, r3, r4, r5⟩ := K
  exact ⟨k1, k2, k3, s1, locs, X, r1, r2, r3, r4, fun x hx => by
    rcases List.mem_cons.mp hx with rfl | hx
    · exact ⟨q1, q2, trivial⟩
    · exact r5 x hx⟩
theorem narrow_c16 {x : Int32} (q : ¬ x < 0 ∧ ¬ (65535 : Int32) < x) : narrow .char (.int x) = .int x := by
  show Value.int (nar .char x) = _
  rw [nar_c q.1 q.2]
theorem getD_bd16 {cs : List Int32} (hp : ∀ c ∈ cs, ¬ c < 0 ∧ ¬ (65535 : Int32) < c) (k : Nat) : ¬ cs.getD k 0 < 0 ∧ ¬ (65535 : Int32) < cs.getD k 0 := by
  rw [List.getD_eq_getElem?_getD]
  by_cases q : k < cs.length
  · rw [List.getElem?_eq_getElem q]; exact hp _ (List.getElem_mem q)
  · rw [List.getElem?_eq_none (by omega)]; decide
theorem i2c_bd (x : Int32) : ¬ x.toUInt32.toUInt16.toUInt32.toInt32 < 0 ∧ ¬ (65535 : Int32) < x.toUInt32.toUInt16.toUInt32.toInt32 := by
  have h3 := c_i2c x
  rw [Int32.lt_iff_toInt_lt, Int32.lt_iff_toInt_lt]
  have e1 : (65535 : Int32).toInt = 65535 := by decide
  have e2 : (0 : Int32).toInt = 0 := by decide
  omega
/-- (x & 0x7fffffff) % d, d a small positive literal, as a Nat -/
theorem mod_nat (x : Int32) (d : Nat) (h0 : 0 < d) (h1 : d < 1000) : ∃ k : Nat, k < d ∧ (x &&& 2147483647) % Int32.ofNat d = Int32.ofNat k := by
  have a1 := c_and x 2147483647 (by decide)
  have a2 := c_irem (x &&& 2147483647) (Int32.ofNat d) d (ofNat_toInt (by omega))
  have a3 := a2.1 (by omega)
  refine ⟨((x &&& 2147483647).toInt % d).toNat, ?_, i_eq ?_⟩
  · have := Int.emod_lt_of_pos (x &&& 2147483647).toInt (show (0 : Int) < d by omega)
    have := Int.emod_nonneg (x &&& 2147483647).toInt (show (d : Int) ≠ 0 by omega)
    omega
  · have g1 := Int.emod_lt_of_pos (x &&& 2147483647).toInt (show (0 : Int) < d by omega)
    have g2 := Int.emod_nonneg (x &&& 2147483647).toInt (show (d : Int) ≠ 0 by omega)
    rw [a3, ofNat_toInt (by omega)]; omega
theorem ofNat_sub {a b : Nat} (h : b ≤ a) (ha : a < 2147483648) : Int32.ofNat a - Int32.ofNat b = Int32.ofNat (a - b) := by
  apply i_eq
  have h1 := c_isub (Int32.ofNat a) (Int32.ofNat b)
  have h2 := rng32 (Int32.ofNat a - Int32.ofNat b)
  rw [ofNat_toInt ha, ofNat_toInt (by omega)] at h1
  rw [ofNat_toInt (by omega)]; omega
theorem ofNat_add {a b : Nat} (ha : a + b < 2147483648) : Int32.ofNat a + Int32.ofNat b = Int32.ofNat (a + b) := by
  apply i_eq
  have h1 := c_iadd (Int32.ofNat a) (Int32.ofNat b)
  have h2 := rng32 (Int32.ofNat a + Int32.ofNat b)
  rw [ofNat_toInt (by omega), ofNat_toInt (by omega)] at h1
  rw [ofNat_toInt (by omega)]; omega
theorem ofNat_nlt {k n : Nat} (hk : n ≤ k) (hk' : k < 2147483648) : ¬ Int32.ofNat k < Int32.ofNat n := by
  rw [Int32.lt_iff_toInt_lt, ofNat_toInt hk', ofNat_toInt (by omega)]; omega
theorem getD_mapI (cs : List Int32) (k : Nat) : (cs.map Value.int).getD k (.int 0) = .int (cs.getD k 0) := by
  rw [List.getD_eq_getElem?_getD, List.getD_eq_getElem?_getD, List.getElem?_map]
  cases cs[k]? <;> rfl
theorem and15 (x : Int32) : ¬ (x &&& 15) < 0 ∧ (x &&& 15) < 16 := by
  have := c_and x 15 (by decide)
  rw [Int32.lt_iff_toInt_lt, Int32.lt_iff_toInt_lt]
  have e1 : (15 : Int32).toInt = 15 := by decide
  have e2 : (0 : Int32).toInt = 0 := by decide
  have e3 : (16 : Int32).toInt = 16 := by decide
  omega

end Kit
end Jvm.OwnKit

/- laws to paste: Road.backV, Road.chN, Road.codOf, pair_says, Road.wide_lo, Road.wide_hi (cut by pick.py; bodies as the Statement names them) -/
namespace Jvm.Pilot.@@N@@
namespace StrChars
open Jvm Sem ClassFile Op Lib Jvm.Stand Jvm.Free.XT Jvm.Free.ALB Jvm.Free.JM Jvm.Free
open Jvm.Lib.Cold (StaticIs)
/-- a char array whose places are chars -/
def Ch (a : Addr) (A : Cell) (U : State) : Prop := Arr .char a A U ∧ Typed .char A
theorem Ch.mv {a : Addr} {A : Cell} {U U' : State} (h : Ch a A U) (hal : U.vm.Alike U'.vm) (hh : U'.heap = U.heap) : Ch a A U' := ⟨h.1.mv hal hh, h.2⟩
theorem Ch.keep {a : Addr} {A : Cell} {U U' : State} (h : Ch a A U) (hal : U.vm.Alike U'.vm) (hk : U'.heap[a]? = some A) : Ch a A U' := ⟨h.1.keep hal hk, h.2⟩
/-- what place i of a char[]'s cell holds -/
def cv (A : Cell) (i : Nat) : Int32 := match A.slots[i]? with | some (.int x) => x | _ => 0
theorem Ch.get {a : Addr} {A : Cell} {U : State} (h : Ch a A U) {i : Nat} (hi : i < A.slots.size) : A.slots[i]? = some (.int (cv A i)) := by
  have e := Array.getElem?_eq_getElem hi
  have f := h.2 i _ e
  unfold cv; rw [e]
  generalize A.slots[i] = v at f
  cases v <;> simp [fits] at f ⊢
/-- the byte that i2b leaves of a char -/
def lo8 (x : Int32) : Int32 := x.toInt8.toInt32
theorem fits_lo8 (y : Int32) : fits .byte (.int (lo8 y)) = true := by
  have h1 := y.toInt8.le_toInt
  have h2 := y.toInt8.toInt_lt
  simp only [lo8, fits, Bool.and_eq_true, decide_eq_true_eq, Int32.le_iff_toInt_le, Int8.toInt_toInt32, show (-128 : Int32).toInt = -128 from by decide, show (127 : Int32).toInt = 127 from by decide]
  omega
/-- A' is A but that each place j of lo .. hi - 1 holds f j -/
def Laid (A A' : Cell) (lo hi : Nat) (f : Nat → Value) : Prop := A'.cls = A.cls ∧ A'.vm = A.vm ∧ A'.slots.size = A.slots.size ∧ ∀ i, A'.slots[i]? = if lo ≤ i ∧ i < hi then some (f i) else A.slots[i]?
theorem Laid.zero (A : Cell) (lo : Nat) (f : Nat → Value) : Laid A A lo (lo + 0) f := ⟨rfl, rfl, rfl, fun i => by rw [if_neg (by omega)]⟩
theorem Laid.step {A Ak : Cell} {lo k : Nat} {f : Nat → Value} {v : Value} (h : Laid A Ak lo k f) (hlo : lo ≤ k) (hk : k < Ak.slots.size) (hv : v = f k) : Laid A (Ak.setSlot k v) lo (k + 1) f := by
  refine ⟨h.1, h.2.1, by simpa [Cell.setSlot] using h.2.2.1, fun i => ?_⟩
  by_cases e : k = i
  · subst e; rw [Cell.slots_setSlot_self v hk, if_pos (by omega), hv]
  · rw [Cell.slots_setSlot_ne v e, h.2.2.2 i]
    by_cases q : lo ≤ i ∧ i < k
    · rw [if_pos q, if_pos (by omega)]
    · rw [if_neg q, if_neg (by omega)]
def U16 : String := "java/lang/StringUTF16"
namespace Cmp5
def yN : MethodName := ⟨"java/lang/StringUTF16", "compress", "([CI[BII)I"⟩
abbrev yB : ByteArray := jdk_52_method_21_code
theorem d0 : decode yB 0 = .ok (.iconst 0, 1) := by decide +kernel
theorem d1 : decode yB 1 = .ok (.istore 5, 2) := by decide +kernel
theorem d3 : decode yB 3 = .ok (.iload 5, 2) := by decide +kernel
theorem d5 : decode yB 5 = .ok (.iload 4, 2) := by decide +kernel
theorem d7 : decode yB 7 = .ok (.if_icmp (.ge) 37, 3) := by decide +kernel
theorem d10 : decode yB 10 = .ok (.aload_n 0, 1) := by decide +kernel
theorem d11 : decode yB 11 = .ok (.iload_n 1, 1) := by decide +kernel
theorem d12 : decode yB 12 = .ok (.caload, 1) := by decide +kernel
theorem d13 : decode yB 13 = .ok (.istore 6, 2) := by decide +kernel
theorem d15 : decode yB 15 = .ok (.iload 6, 2) := by decide +kernel
theorem d17 : decode yB 17 = .ok (.sipush 255, 3) := by decide +kernel
theorem d20 : decode yB 20 = .ok (.if_icmp (.le) 6, 3) := by decide +kernel
theorem d26 : decode yB 26 = .ok (.aload_n 2, 1) := by decide +kernel
theorem d27 : decode yB 27 = .ok (.iload_n 3, 1) := by decide +kernel
theorem d28 : decode yB 28 = .ok (.iload 6, 2) := by decide +kernel
theorem d30 : decode yB 30 = .ok (.i2b, 1) := by decide +kernel
theorem d31 : decode yB 31 = .ok (.bastore, 1) := by decide +kernel
theorem d32 : decode yB 32 = .ok (.iinc 1 1, 3) := by decide +kernel
theorem d35 : decode yB 35 = .ok (.iinc 3 1, 3) := by decide +kernel
theorem d38 : decode yB 38 = .ok (.iinc 5 1, 3) := by decide +kernel
theorem d41 : decode yB 41 = .ok (.goto (-38), 3) := by decide +kernel
theorem d44 : decode yB 44 = .ok (.iload 4, 2) := by decide +kernel
theorem d46 : decode yB 46 = .ok (.ireturn, 1) := by decide +kernel
def site : List Cond := []
def tab : Cond := tabOf yN yB 7 (some .int) site
def P (b : Addr) (A : Cell) (d : Addr) (B : Cell) (o q len : Nat) (args : Array Value) (s : State) : Prop := args = #[.ref b, .int (Int32.ofNat o), .ref d, .int (Int32.ofNat q), .int (Int32.ofNat len)] ∧ Ch b A s ∧ Arr .byte d B s ∧ b ≠ d ∧ o + len ≤ A.slots.size ∧ q + len ≤ B.slots.size ∧ ∀ i, i < len → ¬ 255 < cv A (o + i)
def E (b : Addr) (A : Cell) (d : Addr) (B : Cell) (o q len : Nat) (r : Option Value) (s u : State) : Prop := r = some (.int (Int32.ofNat len)) ∧ ∃ B', Put d B' s u ∧ Laid B B' q (q + len) (fun j => Value.int (lo8 (cv A (o + (j - q)))))
/-- no char of the range above 255: len; the places written hold each char's low byte -/
theorem law (l : Launch) (b : Addr) (A : Cell) (d : Addr) (B : Cell) (o q len : Nat) : Law l yN 5 5 0 0 yB 7 (some .int) site (P b A d B o q len) (E b A d B o q len) (copyLocs d q len) 0 0 := by
  refine Law.of_walk (plainFor_of_name (by decide +kernel)) (by decide +kernel) (by decide +kernel) (by decide) (fun _ _ h => by rw [h.1]; rfl) (fun _ U U' hal hh h => ⟨h.1, h.2.1.mv hal hh, h.2.2.1.mv hal hh, h.2.2.2⟩) (fun r U U' V V' h1 hal h2 h => ⟨h.1, h.2.elim fun B' q => ⟨B', q.1.mv h1 h2, q.2⟩⟩) ?_
  intro p e s m args below meth c s₁ X0 hexec hbytes hml hret hlk hnm hown hh0 W hP
  obtain ⟨rfl, hA, hB, hne, l1, l2, hp⟩ := hP
  have c1 : Steps p.tables e below (s₁.setTop (entryFrame m #[.ref b, .int (Int32.ofNat o), .ref d, .int (Int32.ofNat q), .int (Int32.ofNat len)] 7)) (s₁.setTop (mkF m 0 #[.val (.ref b), .val (.int (Int32.ofNat o)), .val (.ref d), .val (.int (Int32.ofNat q)), .val (.int (Int32.ofNat len)), .unset, .unset] [])) := entry rfl
  have hA0 := hA.1.mv X0.warmed.alike hh0
  have hB0 := hB.mv X0.warmed.alike hh0
  have a31 := hA.1.2.2.2
  have c2 : Steps p.tables e below (s₁.setTop (entryFrame m #[.ref b, .int (Int32.ofNat o), .ref d, .int (Int32.ofNat q), .int (Int32.ofNat len)] 7)) (s₁.setTop (mkF m 3 #[.val (.ref b), .val (.int (Int32.ofNat o)), .val (.ref d), .val (.int (Int32.ofNat q)), .val (.int (Int32.ofNat len)), .val (.int 0), .unset] [])) := c1.trans (by
    refine iconstV X0.here hexec rfl 0 (hb hbytes d0) (by decide) ?_
    refine XS.istore X0.here hexec rfl (hb hbytes d1) rfl rfl ?_
    exact Steps.refl _)
  have loop : ∀ (r i : Nat), i + r = len → ∀ (z : Slot), (z = .unset ∨ ∃ w, z = .val w ∧ w.category = 1) → ∀ (Tl : State) (Bk : Cell), Stand p l e { frames := 0, locals := 0, cells := 0, slots := 0 } s m #[.ref b, .int (Int32.ofNat o), .ref d, .int (Int32.ofNat q), .int (Int32.ofNat len)] below meth c Tl ([] ++ copyLocs d q i) 0 0 → Put d Bk s₁ Tl → Laid B Bk q (q + i) (fun j => Value.int (lo8 (cv A (o + (j - q))))) →
      Steps p.tables e below (s₁.setTop (entryFrame m #[.ref b, .int (Int32.ofNat o), .ref d, .int (Int32.ofNat q), .int (Int32.ofNat len)] 7)) (Tl.setTop (mkF m 3 #[.val (.ref b), .val (.int (Int32.ofNat (o + i))), .val (.ref d), .val (.int (Int32.ofNat (q + i))), .val (.int (Int32.ofNat len)), .val (.int (Int32.ofNat i)), z] [])) → ∃ (T' : State) (B' : Cell) (z' : Slot), Stand p l e { frames := 0, locals := 0, cells := 0, slots := 0 } s m #[.ref b, .int (Int32.ofNat o), .ref d, .int (Int32.ofNat q), .int (Int32.ofNat len)] below meth c T' ([] ++ copyLocs d q len) 0 0 ∧ Put d B' s₁ T' ∧ Laid B B' q (q + len) (fun j => Value.int (lo8 (cv A (o + (j - q))))) ∧
      Steps p.tables e below (s₁.setTop (entryFrame m #[.ref b, .int (Int32.ofNat o), .ref d, .int (Int32.ofNat q), .int (Int32.ofNat len)] 7)) (T'.setTop (mkF m 3 #[.val (.ref b), .val (.int (Int32.ofNat (o + len))), .val (.ref d), .val (.int (Int32.ofNat (q + len))), .val (.int (Int32.ofNat len)), .val (.int (Int32.ofNat len)), z'] [])) := by
    intro r
    induction r with
    | zero =>
      intro i hi z hz Tl Bk Xl pl fl cl
      have hil : i = len := by omega
      rw [hil] at Xl fl cl
      exact ⟨Tl, Bk, z, Xl, pl, fl, cl⟩
    | succ r ih =>
      intro i hi z hz Tl Bk Xl pl fl cl
      have all := X0.warmed.alike.symm.trans Xl.warmed.alike
      have hAl := hA0.keep all (pl.other hne hA0.1)
      have hBk := hB0.like all pl.1 fl.1 fl.2.1 fl.2.2.1
      have hlt : q + i < Bk.slots.size := by rw [fl.2.2.1]; omega
      have c3 : Steps p.tables e below (s₁.setTop (entryFrame m #[.ref b, .int (Int32.ofNat o), .ref d, .int (Int32.ofNat q), .int (Int32.ofNat len)] 7)) (Tl.setTop (mkF m 12 #[.val (.ref b), .val (.int (Int32.ofNat (o + i))), .val (.ref d), .val (.int (Int32.ofNat (q + i))), .val (.int (Int32.ofNat len)), .val (.int (Int32.ofNat i)), z] [.int (Int32.ofNat (o + i)), .ref b])) := cl.trans (by
        refine XS.iload Xl.here hexec rfl (hb hbytes d3) rfl ?_
        refine XS.iload Xl.here hexec rfl (hb hbytes d5) rfl ?_
        refine XS.icmpNo Xl.here hexec rfl (hb hbytes d7) rfl (ii_ge_f (lt32 (by omega) (by omega))) ?_
        refine XS.aloadN Xl.here hexec rfl (hb hbytes d10) rfl rfl ?_
        refine XS.iloadN Xl.here hexec rfl (hb hbytes d11) rfl ?_
        exact Steps.refl _)
      have c4 : Steps p.tables e below (s₁.setTop (entryFrame m #[.ref b, .int (Int32.ofNat o), .ref d, .int (Int32.ofNat q), .int (Int32.ofNat len)] 7)) (Tl.setTop (mkF m 13 #[.val (.ref b), .val (.int (Int32.ofNat (o + i))), .val (.ref d), .val (.int (Int32.ofNat (q + i))), .val (.int (Int32.ofNat len)), .val (.int (Int32.ofNat i)), z] [.int (cv A (o + i))])) := c3.trans (by
        refine Xl.aget hexec hAl rfl (hA.get (i := o + i) (by omega)) rfl rfl (hb hbytes d12) ?_
        exact Steps.refl _)
      have c5 : Steps p.tables e below (s₁.setTop (entryFrame m #[.ref b, .int (Int32.ofNat o), .ref d, .int (Int32.ofNat q), .int (Int32.ofNat len)] 7)) (Tl.setTop (mkF m 15 #[.val (.ref b), .val (.int (Int32.ofNat (o + i))), .val (.ref d), .val (.int (Int32.ofNat (q + i))), .val (.int (Int32.ofNat len)), .val (.int (Int32.ofNat i)), .val (.int (cv A (o + i)))] [])) := c4.trans (by
        refine XS.istoreS Xl.here hexec rfl (hb hbytes d13) rfl rfl hz ?_
        exact Steps.refl _)
      have c6 : Steps p.tables e below (s₁.setTop (entryFrame m #[.ref b, .int (Int32.ofNat o), .ref d, .int (Int32.ofNat q), .int (Int32.ofNat len)] 7)) (Tl.setTop (mkF m 31 #[.val (.ref b), .val (.int (Int32.ofNat (o + i))), .val (.ref d), .val (.int (Int32.ofNat (q + i))), .val (.int (Int32.ofNat len)), .val (.int (Int32.ofNat i)), .val (.int (cv A (o + i)))] [.int (lo8 (cv A (o + i))), .int (Int32.ofNat (q + i)), .ref d])) := c5.trans (by
        refine XS.iload Xl.here hexec rfl (hb hbytes d15) rfl ?_
        refine sipushV Xl.here hexec rfl 255 (hb hbytes d17) (by decide) ?_
        refine XS.icmpYes Xl.here hexec rfl (pc0 := 20) rfl (hb hbytes d20) rfl (ii_le_t (hp i (by omega))) (by decide) rfl ?_
        refine XS.aloadN Xl.here hexec rfl (hb hbytes d26) rfl rfl ?_
        refine XS.iloadN Xl.here hexec rfl (hb hbytes d27) rfl ?_
        refine XS.iload Xl.here hexec rfl (hb hbytes d28) rfl ?_
        refine i2b Xl.here hexec rfl (hb hbytes d30) rfl ?_
        exact Steps.refl _)
      obtain ⟨T7, X7, p7, st7⟩ := Xl.aput hexec hBk rfl hlt rfl (fits_lo8 (cv A (o + i))) (g := (mkF m 31 #[.val (.ref b), .val (.int (Int32.ofNat (o + i))), .val (.ref d), .val (.int (Int32.ofNat (q + i))), .val (.int (Int32.ofNat len)), .val (.int (Int32.ofNat i)), .val (.int (cv A (o + i)))] [.int (lo8 (cv A (o + i))), .int (Int32.ofNat (q + i)), .ref d])) rfl (rest := []) rfl (hb hbytes d31)
      have c8 : Steps p.tables e below (s₁.setTop (entryFrame m #[.ref b, .int (Int32.ofNat o), .ref d, .int (Int32.ofNat q), .int (Int32.ofNat len)] 7)) (T7.setTop (mkF m 32 #[.val (.ref b), .val (.int (Int32.ofNat (o + i))), .val (.ref d), .val (.int (Int32.ofNat (q + i))), .val (.int (Int32.ofNat len)), .val (.int (Int32.ofNat i)), .val (.int (cv A (o + i)))] [])) := c6.trans (st7 _ (Steps.refl _))
      have c9 : Steps p.tables e below (s₁.setTop (entryFrame m #[.ref b, .int (Int32.ofNat o), .ref d, .int (Int32.ofNat q), .int (Int32.ofNat len)] 7)) (T7.setTop (mkF m 3 #[.val (.ref b), .val (.int (Int32.ofNat (o + i) + 1)), .val (.ref d), .val (.int (Int32.ofNat (q + i) + 1)), .val (.int (Int32.ofNat len)), .val (.int (Int32.ofNat i + 1)), .val (.int (cv A (o + i)))] [])) := c8.trans (by
        refine iincV X7.here hexec rfl 1 (hb hbytes d32) (by decide) rfl rfl ?_
        refine iincV X7.here hexec rfl 1 (hb hbytes d35) (by decide) rfl rfl ?_
        refine iincV X7.here hexec rfl 1 (hb hbytes d38) (by decide) rfl rfl ?_
        refine XS.goto X7.here hexec rfl (pc0 := 41) rfl (hb hbytes d41) (by decide) rfl ?_
        exact Steps.refl _)
      have c10 : Steps p.tables e below (s₁.setTop (entryFrame m #[.ref b, .int (Int32.ofNat o), .ref d, .int (Int32.ofNat q), .int (Int32.ofNat len)] 7)) (T7.setTop (mkF m 3 #[.val (.ref b), .val (.int (Int32.ofNat (o + (i + 1)))), .val (.ref d), .val (.int (Int32.ofNat (q + (i + 1)))), .val (.int (Int32.ofNat len)), .val (.int (Int32.ofNat (i + 1))), .val (.int (cv A (o + i)))] [])) := by
        have := c9
        rw [succ32, succ32, succ32] at this
        exact this
      exact ih (i + 1) (by omega) _ (Or.inr ⟨_, rfl, rfl⟩) T7 _ (by rw [copyLocs_step, ← List.append_assoc]; exact X7) (pl.trans p7) (fl.step (by omega) hlt (by simp)) c10
  obtain ⟨T9, B9, z9, X9, p9, f9, g9⟩ := loop len 0 (by omega) .unset (Or.inl rfl) s₁ B (by simpa [copyLocs] using X0) ⟨hB0.1, fun _ _ => rfl, rfl⟩ (Laid.zero _ _ _) c2
  have c11 : Steps p.tables e below (s₁.setTop (entryFrame m #[.ref b, .int (Int32.ofNat o), .ref d, .int (Int32.ofNat q), .int (Int32.ofNat len)] 7)) (T9.setTop (mkF m 46 #[.val (.ref b), .val (.int (Int32.ofNat (o + len))), .val (.ref d), .val (.int (Int32.ofNat (q + len))), .val (.int (Int32.ofNat len)), .val (.int (Int32.ofNat len)), z9] [.int (Int32.ofNat len)])) := g9.trans (by
    refine XS.iload X9.here hexec rfl (hb hbytes d3) rfl ?_
    refine XS.iload X9.here hexec rfl (hb hbytes d5) rfl ?_
    refine XS.icmpYes X9.here hexec rfl (pc0 := 7) rfl (hb hbytes d7) rfl (ii_ge_t (nlt32 (by omega) (Nat.le_refl _))) (by decide) rfl ?_
    refine XS.iload X9.here hexec rfl (hb hbytes d44) rfl ?_
    exact Steps.refl _)
  exact ⟨T9, some (.int (Int32.ofNat len)), _, _, _, X9, by simp, rfl, rfl, (fun h => by cases h), ⟨rfl, B9, p9.from hh0, f9⟩, fun fs hl => c11.trans (X9.ireturnOut hexec hret rfl (Or.inl rfl) (hb hbytes d46) hl)⟩
end Cmp5
namespace Cmp3
def yN : MethodName := ⟨"java/lang/StringUTF16", "compress", "([CII)[B"⟩
abbrev yB : ByteArray := jdk_52_method_16_code
theorem d0 : decode yB 0 = .ok (.iload_n 2, 1) := by decide +kernel
theorem d1 : decode yB 1 = .ok (.newarray .byte, 2) := by decide +kernel
theorem d3 : decode yB 3 = .ok (.astore_n 3, 1) := by decide +kernel
theorem d4 : decode yB 4 = .ok (.aload_n 0, 1) := by decide +kernel
theorem d5 : decode yB 5 = .ok (.iload_n 1, 1) := by decide +kernel
theorem d6 : decode yB 6 = .ok (.aload_n 3, 1) := by decide +kernel
theorem d7 : decode yB 7 = .ok (.iconst 0, 1) := by decide +kernel
theorem d8 : decode yB 8 = .ok (.iload_n 2, 1) := by decide +kernel
theorem d9 : decode yB 9 = .ok (.invokestatic 115, 3) := by decide +kernel
theorem d12 : decode yB 12 = .ok (.istore 4, 2) := by decide +kernel
theorem d14 : decode yB 14 = .ok (.iload 4, 2) := by decide +kernel
theorem d16 : decode yB 16 = .ok (.iload_n 2, 1) := by decide +kernel
theorem d17 : decode yB 17 = .ok (.if_icmp (.eq) 40, 3) := by decide +kernel
theorem d57 : decode yB 57 = .ok (.aload_n 3, 1) := by decide +kernel
theorem d58 : decode yB 58 = .ok (.areturn, 1) := by decide +kernel
def site : List Cond := [.arrayClass .byte, Cmp5.tab] ++ staticW U16 115 Cmp5.yN
def tab : Cond := tabOf yN yB 6 (some (.array .byte)) site
def P (b : Addr) (A : Cell) (o len : Nat) (args : Array Value) (s : State) : Prop := args = #[.ref b, .int (Int32.ofNat o), .int (Int32.ofNat len)] ∧ Ch b A s ∧ o + len ≤ A.slots.size ∧ len ≤ 536870912 ∧ ∀ i, i < len → ¬ 255 < cv A (o + i)
def E (b : Addr) (A : Cell) (o len : Nat) (r : Option Value) (s u : State) : Prop := NewArr .byte "[B" len (fun j => .int (lo8 (cv A (o + j)))) r s u ∧ u.heap.size = s.heap.size + 1
/-- no char of the range above 255: a new byte[] of their low bytes -/
theorem law (l : Launch) (b : Addr) (A : Cell) (o len : Nat) : Law l yN 3 3 1 18 yB 6 (some (.array .byte)) site (P b A o len) (E b A o len) [] 1 len := by
  refine Law.of_walk (plainFor_of_name (by decide +kernel)) (by decide +kernel) (by decide +kernel) (by decide) (fun _ _ h => by rw [h.1]; rfl) (fun _ U U' hal hh h => ⟨h.1, h.2.1.mv hal hh, h.2.2⟩) (fun r U U' V V' h1 hal h2 h => ⟨NewArr.mv r U U' V V' h1 hal h2 h.1, by rw [h1, h2]; exact h.2⟩) ?_
  intro p e s m args below meth c s₁ X0 hexec hbytes hml hret hlk hnm hown hh0 W hP
  obtain ⟨rfl, hA, l1, l2, hp⟩ := hP
  have a31 := hA.1.2.2.2
  have c1 : Steps p.tables e below (s₁.setTop (entryFrame m #[.ref b, .int (Int32.ofNat o), .int (Int32.ofNat len)] 6)) (s₁.setTop (mkF m 0 #[.val (.ref b), .val (.int (Int32.ofNat o)), .val (.int (Int32.ofNat len)), .unset, .unset, .unset] [])) := entry rfl
  have c2 : Steps p.tables e below (s₁.setTop (entryFrame m #[.ref b, .int (Int32.ofNat o), .int (Int32.ofNat len)] 6)) (s₁.setTop (mkF m 1 #[.val (.ref b), .val (.int (Int32.ofNat o)), .val (.int (Int32.ofNat len)), .unset, .unset, .unset] [.int (Int32.ofNat len)])) := c1.trans (by
    refine XS.iloadN X0.here hexec rfl (hb hbytes d0) rfl ?_
    exact Steps.refl _)
  obtain ⟨T3, B3, X3, ba3, bs3, bv3, bh3, bf3, st3⟩ := X0.anew hexec (atype := .byte) (wk W (.arrayClass .byte)) rfl (by show len * 1 ≤ _; omega) (by omega) (g := (mkF m 1 #[.val (.ref b), .val (.int (Int32.ofNat o)), .val (.int (Int32.ofNat len)), .unset, .unset, .unset] [.int (Int32.ofNat len)])) rfl (hb hbytes d1) (rest := []) rfl (Nat.le_refl _) (by show 0 + len ≤ len; omega)
  rw [hh0] at ba3 st3
  have kp3 : XT.Kept s T3 := (XT.Kept.of_eq hh0).push bh3
  have hA3 := hA.keep X3.warmed.alike (kp3 _ _ hA.1.1)
  have hne : b ≠ s.heap.size := hA.1.ne
  have c4 : Steps p.tables e below (s₁.setTop (entryFrame m #[.ref b, .int (Int32.ofNat o), .int (Int32.ofNat len)] 6)) (T3.setTop (mkF m 3 #[.val (.ref b), .val (.int (Int32.ofNat o)), .val (.int (Int32.ofNat len)), .unset, .unset, .unset] [.ref s.heap.size])) := c2.trans (st3 _ (Steps.refl _))
  have c5 : Steps p.tables e below (s₁.setTop (entryFrame m #[.ref b, .int (Int32.ofNat o), .int (Int32.ofNat len)] 6)) (T3.setTop (mkF m 9 #[.val (.ref b), .val (.int (Int32.ofNat o)), .val (.int (Int32.ofNat len)), .val (.ref s.heap.size), .unset, .unset] [.int (Int32.ofNat len), .int 0, .ref s.heap.size, .int (Int32.ofNat o), .ref b])) := c4.trans (by
    refine XS.astoreN X3.here hexec rfl (hb hbytes d3) rfl rfl rfl ?_
    refine XS.aloadN X3.here hexec rfl (hb hbytes d4) rfl rfl ?_
    refine XS.iloadN X3.here hexec rfl (hb hbytes d5) rfl ?_
    refine XS.aloadN X3.here hexec rfl (hb hbytes d6) rfl rfl ?_
    refine iconstV X3.here hexec rfl 0 (hb hbytes d7) (by decide) ?_
    refine XS.iloadN X3.here hexec rfl (hb hbytes d8) rfl ?_
    exact Steps.refl _)
  obtain ⟨v6, T6, X6, E6, g6⟩ := X3.callS hexec (Cmp5.law l b A s.heap.size B3 o 0 len) hown (wks W (staticW U16 115 Cmp5.yN)) (wk W Cmp5.tab) (W := 0) (Nat.le_of_ble_eq_true rfl) (Nat.le_of_ble_eq_true rfl) (Nat.le_refl _) (by show 0 + len + 0 ≤ len; omega) (g := (mkF m 9 #[.val (.ref b), .val (.int (Int32.ofNat o)), .val (.int (Int32.ofNat len)), .val (.ref s.heap.size), .unset, .unset] [.int (Int32.ofNat len), .int (Int32.ofNat 0), .ref s.heap.size, .int (Int32.ofNat o), .ref b])) rfl (by rw [hml]; rfl) c5 (argsL := [.ref b, .int (Int32.ofNat o), .ref s.heap.size, .int (Int32.ofNat 0), .int (Int32.ofNat len)]) (rest := []) rfl rfl (by show 2 * 0 + 0 ≤ _; decide) (hb hbytes d9) (⟨rfl, hA3, ba3, hne, l1, by rw [bs3]; simp, hp⟩)
  obtain ⟨rfl, B6, p6, f6⟩ := E6
  have c7 : Steps p.tables e below (s₁.setTop (entryFrame m #[.ref b, .int (Int32.ofNat o), .int (Int32.ofNat len)] 6)) (T6.setTop (mkF m 12 #[.val (.ref b), .val (.int (Int32.ofNat o)), .val (.int (Int32.ofNat len)), .val (.ref s.heap.size), .unset, .unset] [.int (Int32.ofNat len)])) := g6
  have c8 : Steps p.tables e below (s₁.setTop (entryFrame m #[.ref b, .int (Int32.ofNat o), .int (Int32.ofNat len)] 6)) (T6.setTop (mkF m 58 #[.val (.ref b), .val (.int (Int32.ofNat o)), .val (.int (Int32.ofNat len)), .val (.ref s.heap.size), .val (.int (Int32.ofNat len)), .unset] [.ref s.heap.size])) := c7.trans (by
    refine XS.istore X6.here hexec rfl (hb hbytes d12) rfl rfl ?_
    refine XS.iload X6.here hexec rfl (hb hbytes d14) rfl ?_
    refine XS.iloadN X6.here hexec rfl (hb hbytes d16) rfl ?_
    refine XS.icmpYes X6.here hexec rfl (pc0 := 17) rfl (hb hbytes d17) rfl (ii_eq_t rfl) (by decide) rfl ?_
    refine XS.aloadN X6.here hexec rfl (hb hbytes d57) rfl rfl ?_
    exact Steps.refl _)
  have X8 := X6.wide (L' := []) (cells' := 1) (slots' := len) (fun x hx hlt => by
    simp only [List.nil_append, copyLocs, List.mem_map, List.mem_range] at hx
    obtain ⟨i, -, rfl⟩ := hx
    exact absurd hlt (Nat.lt_irrefl _)) (Nat.le_refl _) (by omega)
  exact ⟨T6, some (.ref s.heap.size), _, _, _, X8, rfl, rfl, rfl, (fun h => by cases h), ⟨⟨rfl, B6, ba3.like (X3.warmed.alike.symm.trans X6.warmed.alike) p6.1 f6.1 f6.2.1 f6.2.2.1, f6.2.1.trans bv3, by rw [X6.warmed.alike.findClass, f6.1]; exact bf3, by rw [f6.2.2.1, bs3]; simp, fun j hj => by rw [f6.2.2.2 j, if_pos (by omega)]; rfl, kp3.put p6 (Nat.le_refl _)⟩, by rw [p6.2.2, bh3, hh0]; simp⟩, fun fs hl => c8.trans (X8.areturnOut hexec rfl hret rfl (hb hbytes d58) hl)⟩
end Cmp3
namespace CodL
def yN : MethodName := ⟨"java/lang/StringUTF16", "coderFromArrayLen", "([BI)B"⟩
abbrev yB : ByteArray := jdk_52_method_15_code
theorem d0 : decode yB 0 = .ok (.iload_n 1, 1) := by decide +kernel
theorem d1 : decode yB 1 = .ok (.aload_n 0, 1) := by decide +kernel
theorem d2 : decode yB 2 = .ok (.arraylength, 1) := by decide +kernel
theorem d3 : decode yB 3 = .ok (.isub, 1) := by decide +kernel
theorem d4 : decode yB 4 = .ok (.bipush 31, 2) := by decide +kernel
theorem d6 : decode yB 6 = .ok (.iushr, 1) := by decide +kernel
theorem d7 : decode yB 7 = .ok (.i2b, 1) := by decide +kernel
theorem d8 : decode yB 8 = .ok (.ireturn, 1) := by decide +kernel
def site : List Cond := []
def tab : Cond := tabOf yN yB 2 (some .byte) site
def P (d : Addr) (B : Cell) (args : Array Value) (s : State) : Prop := args = #[.ref d, .int (Int32.ofNat B.slots.size)] ∧ Arr .byte d B s
def E (r : Option Value) (s u : State) : Prop := XT.PureE (some (.int 0)) r s u
/-- an array as long as the number of chars: LATIN1 -/
theorem law (l : Launch) (d : Addr) (B : Cell) : Law l yN 2 2 0 0 yB 2 (some .byte) site (P d B) E [] 0 0 := by
  refine Law.of_walk (plainFor_of_name (by decide +kernel)) (by decide +kernel) (by decide +kernel) (by decide) (fun _ _ h => by rw [h.1]; rfl) (fun _ U U' hal hh h => ⟨h.1, h.2.mv hal hh⟩) (fun r U U' V V' h1 hal h2 h => XT.PureE.mv r U U' V V' h1 hal h2 h) ?_
  intro p e s m args below meth c s₁ X0 hexec hbytes hml hret hlk hnm hown hh0 W hP
  obtain ⟨rfl, hB⟩ := hP
  have hB0 := hB.mv X0.warmed.alike hh0
  have c1 : Steps p.tables e below (s₁.setTop (entryFrame m #[.ref d, .int (Int32.ofNat B.slots.size)] 2)) (s₁.setTop (mkF m 0 #[.val (.ref d), .val (.int (Int32.ofNat B.slots.size))] [])) := entry rfl
  have c2 : Steps p.tables e below (s₁.setTop (entryFrame m #[.ref d, .int (Int32.ofNat B.slots.size)] 2)) (s₁.setTop (mkF m 2 #[.val (.ref d), .val (.int (Int32.ofNat B.slots.size))] [.ref d, .int (Int32.ofNat B.slots.size)])) := c1.trans (by
    refine XS.iloadN X0.here hexec rfl (hb hbytes d0) rfl ?_
    refine XS.aloadN X0.here hexec rfl (hb hbytes d1) rfl rfl ?_
    exact Steps.refl _)
  have c3 : Steps p.tables e below (s₁.setTop (entryFrame m #[.ref d, .int (Int32.ofNat B.slots.size)] 2)) (s₁.setTop (mkF m 8 #[.val (.ref d), .val (.int (Int32.ofNat B.slots.size))] [.int (lo8 (ushr (Int32.ofNat B.slots.size - Int32.ofNat B.slots.size) 31))])) := c2.trans (by
    refine X0.alen hexec hB0 rfl rfl (hb hbytes d2) ?_
    refine XS.isub X0.here hexec rfl (hb hbytes d3) rfl ?_
    refine bipushV X0.here hexec rfl 31 (hb hbytes d4) (by decide) ?_
    refine iushr X0.here hexec rfl (hb hbytes d6) rfl ?_
    refine i2b X0.here hexec rfl (hb hbytes d7) rfl ?_
    exact Steps.refl _)
  have e0 : lo8 (ushr (Int32.ofNat B.slots.size - Int32.ofNat B.slots.size) 31) = 0 := by rw [Int32.sub_self]; decide
  rw [e0] at c3
  exact ⟨s₁, some (.int 0), _, _, _, X0, rfl, rfl, rfl, (fun h => by cases h), ⟨rfl, hh0⟩, fun fs hl => c3.trans (X0.ireturnOut hexec hret rfl (Or.inr (Or.inr (Or.inl rfl))) (hb hbytes d8) hl)⟩
end CodL
/-- the String at a is Latin-1 over a new byte[] (the heap's one new cell): the low bytes of the len chars of A from o on; every cell but a is kept -/
def Got (a : Addr) (D : Cell) (fV fC : Field) (A : Cell) (o len : Nat) (r : Option Value) (s u : State) : Prop := r = none ∧ ∃ D' V : Cell, Blank "java/lang/String" a D' u ∧ Same D D' [fV.slot, fC.slot] ∧ D'.slots[fV.slot]? = some (.ref s.heap.size) ∧ D'.slots[fC.slot]? = some (.int 0) ∧ Arr .byte s.heap.size V u ∧ V.vm = .none ∧ u.vm.findClass "[B" = some V.cls ∧ V.slots.size = len ∧ (∀ j, j < len → V.slots[j]? = some (.int (lo8 (cv A (o + j))))) ∧ (∀ (y : Addr) (c : Cell), y ≠ a → s.heap[y]? = some c → u.heap[y]? = some c) ∧ u.heap.size = s.heap.size + 1
theorem Got.mv {a : Addr} {D A : Cell} {fV fC : Field} {o len : Nat} : ∀ r (U U' V V' : State), U'.heap = U.heap → V.vm.Alike V'.vm → V'.heap = V.heap → Got a D fV fC A o len r U V → Got a D fV fC A o len r U' V' :=
  fun r U U' V V' h1 hal h2 ⟨e0, D', X, a1, a2, a3, a4, a5, a6, a7, a8, a9, a10, a11⟩ => ⟨e0, D', X, a1.mv hal h2, a2, by rw [h1]; exact a3, a4, by rw [h1]; exact a5.mv hal h2, a6, by rw [hal.findClass]; exact a7, a8, a9, by rw [h1, h2]; exact a10, by rw [h1, h2]; exact a11⟩
namespace New4
def yN : MethodName := ⟨"java/lang/String", "<init>", "([CIILjava/lang/Void;)V"⟩
abbrev yB : ByteArray := jdk_42_method_149_code
theorem d0 : decode yB 0 = .ok (.aload_n 0, 1) := by decide +kernel
theorem d1 : decode yB 1 = .ok (.invokespecial 1, 3) := by decide +kernel
theorem d4 : decode yB 4 = .ok (.iload_n 3, 1) := by decide +kernel
theorem d5 : decode yB 5 = .ok (.ifCond (.ne) 22, 3) := by decide +kernel
theorem d27 : decode yB 27 = .ok (.getstatic 38, 3) := by decide +kernel
theorem d30 : decode yB 30 = .ok (.ifCond (.eq) 28, 3) := by decide +kernel
theorem d33 : decode yB 33 = .ok (.aload_n 1, 1) := by decide +kernel
theorem d34 : decode yB 34 = .ok (.iload_n 2, 1) := by decide +kernel
theorem d35 : decode yB 35 = .ok (.iload_n 3, 1) := by decide +kernel
theorem d36 : decode yB 36 = .ok (.invokestatic 177, 3) := by decide +kernel
theorem d39 : decode yB 39 = .ok (.astore 5, 2) := by decide +kernel
theorem d41 : decode yB 41 = .ok (.aload_n 0, 1) := by decide +kernel
theorem d42 : decode yB 42 = .ok (.aload 5, 2) := by decide +kernel
theorem d44 : decode yB 44 = .ok (.iload_n 3, 1) := by decide +kernel
theorem d45 : decode yB 45 = .ok (.invokestatic 47, 3) := by decide +kernel
theorem d48 : decode yB 48 = .ok (.putfield 15, 3) := by decide +kernel
theorem d51 : decode yB 51 = .ok (.aload_n 0, 1) := by decide +kernel
theorem d52 : decode yB 52 = .ok (.aload 5, 2) := by decide +kernel
theorem d54 : decode yB 54 = .ok (.putfield 9, 3) := by decide +kernel
theorem d57 : decode yB 57 = .ok (.return_, 1) := by decide +kernel
def site : List Cond := [.fieldLink "java/lang/String" 38 "java/lang/String" "COMPACT_STRINGS" "Z", Cmp3.tab, CodL.tab, .laysFinal "java/lang/String" "java/lang/String" "value" "[B", .fieldLink "java/lang/String" 9 "java/lang/String" "value" "[B", .laysFinal "java/lang/String" "java/lang/String" "coder" "B", .fieldLink "java/lang/String" 15 "java/lang/String" "coder" "B"] ++ objW "java/lang/String" 1 ++ staticW "java/lang/String" 177 Cmp3.yN ++ staticW "java/lang/String" 47 CodL.yN
def tab : Cond := tabOf yN yB 6 none site
def P (a : Addr) (D : Cell) (fV fC : Field) (b : Addr) (A : Cell) (z : Int32) (o len : Nat) (args : Array Value) (s : State) : Prop := args = #[.ref a, .ref b, .int (Int32.ofNat o), .int (Int32.ofNat len), .null] ∧ Blank "java/lang/String" a D s ∧ Found "java/lang/String" "value" "[B" fV s ∧ Found "java/lang/String" "coder" "B" fC s ∧ Ch b A s ∧ StaticIs s "java/lang/String" "COMPACT_STRINGS" "Z" (.int z) ∧ ¬ z = 0 ∧ 0 < len ∧ o + len ≤ A.slots.size ∧ len ≤ 536870912 ∧ ∀ i, i < len → ¬ 255 < cv A (o + i)
def E (a : Addr) (D : Cell) (fV fC : Field) (A : Cell) (o len : Nat) (r : Option Value) (s u : State) : Prop := Got a D fV fC A o len r s u
/-- len > 0, no char of the range above 255: a Latin-1 String of their low bytes -/
theorem law (l : Launch) (a : Addr) (D : Cell) (fV fC : Field) (b : Addr) (A : Cell) (z : Int32) (o len : Nat) : Law l yN 5 4 2 35 yB 6 none site (P a D fV fC b A z o len) (E a D fV fC A o len) [⟨a, fC.slot⟩, ⟨a, fV.slot⟩] 1 len := by
  refine Law.of_walk (plainFor_of_name (by decide +kernel)) (by decide +kernel) (by decide +kernel) (by decide) (fun _ _ h => by rw [h.1]; rfl) (fun _ U U' hal hh h => ⟨h.1, h.2.1.mv hal hh, h.2.2.1.al hal, h.2.2.2.1.al hal, h.2.2.2.2.1.mv hal hh, h.2.2.2.2.2.1.there hal hh, h.2.2.2.2.2.2⟩) (fun r U U' V V' h1 hal h2 h => Got.mv r U U' V V' h1 hal h2 h) ?_
  intro p e s m args below meth c s₁ X0 hexec hbytes hml hret hlk hnm hown hh0 W hP
  obtain ⟨rfl, hB, f1, f2, hA, s1, hz, l0, l1, l2, hp⟩ := hP
  have a31 := hA.1.2.2.2
  have c1 : Steps p.tables e below (s₁.setTop (entryFrame m #[.ref a, .ref b, .int (Int32.ofNat o), .int (Int32.ofNat len), .null] 6)) (s₁.setTop (mkF m 0 #[.val (.ref a), .val (.ref b), .val (.int (Int32.ofNat o)), .val (.int (Int32.ofNat len)), .val .null, .unset] [])) := entry rfl
  have c2 : Steps p.tables e below (s₁.setTop (entryFrame m #[.ref a, .ref b, .int (Int32.ofNat o), .int (Int32.ofNat len), .null] 6)) (s₁.setTop (mkF m 1 #[.val (.ref a), .val (.ref b), .val (.int (Int32.ofNat o)), .val (.int (Int32.ofNat len)), .val .null, .unset] [.ref a])) := c1.trans (by
    refine XS.aloadN X0.here hexec rfl (hb hbytes d0) rfl rfl ?_
    exact Steps.refl _)
  obtain ⟨T3, X3, q3, st3⟩ := X0.oinit hexec hown (wks W (objW "java/lang/String" 1)) (g := (mkF m 1 #[.val (.ref a), .val (.ref b), .val (.int (Int32.ofNat o)), .val (.int (Int32.ofNat len)), .val .null, .unset] [.ref a])) rfl (by rw [hml]; rfl) (rest := []) rfl (hb hbytes d1) (W := 0) (by show 2 * 0 + 0 ≤ _; decide) (Nat.le_of_ble_eq_true rfl) (Nat.le_of_ble_eq_true rfl)
  have hh3 := q3.trans hh0
  have c4 : Steps p.tables e below (s₁.setTop (entryFrame m #[.ref a, .ref b, .int (Int32.ofNat o), .int (Int32.ofNat len), .null] 6)) (T3.setTop (mkF m 27 #[.val (.ref a), .val (.ref b), .val (.int (Int32.ofNat o)), .val (.int (Int32.ofNat len)), .val .null, .unset] [])) := (c2.trans (st3 _ (Steps.refl _))).trans (by
    refine XS.iloadN X3.here hexec rfl (hb hbytes d4) rfl ?_
    refine XS.ifYes X3.here hexec rfl (pc0 := 5) rfl (hb hbytes d5) rfl (i0_ne_t (nz32 (by omega) l0)) (by decide) rfl ?_
    exact Steps.refl _)
  obtain ⟨T5, X5, q5, st5⟩ := X3.sget hexec hown (wk W (.fieldLink "java/lang/String" 38 "java/lang/String" "COMPACT_STRINGS" "Z")) s1 (fun _ _ h => by rw [hh3]; exact h) (g := (mkF m 27 #[.val (.ref a), .val (.ref b), .val (.int (Int32.ofNat o)), .val (.int (Int32.ofNat len)), .val .null, .unset] [])) rfl (hb hbytes d27)
  have hh5 := q5.trans hh3
  have c6 : Steps p.tables e below (s₁.setTop (entryFrame m #[.ref a, .ref b, .int (Int32.ofNat o), .int (Int32.ofNat len), .null] 6)) (T5.setTop (mkF m 30 #[.val (.ref a), .val (.ref b), .val (.int (Int32.ofNat o)), .val (.int (Int32.ofNat len)), .val .null, .unset] [.int z])) := c4.trans (st5 _ (Steps.refl _))
  have c7 : Steps p.tables e below (s₁.setTop (entryFrame m #[.ref a, .ref b, .int (Int32.ofNat o), .int (Int32.ofNat len), .null] 6)) (T5.setTop (mkF m 36 #[.val (.ref a), .val (.ref b), .val (.int (Int32.ofNat o)), .val (.int (Int32.ofNat len)), .val .null, .unset] [.int (Int32.ofNat len), .int (Int32.ofNat o), .ref b])) := c6.trans (by
    refine XS.ifNo X5.here hexec rfl (hb hbytes d30) rfl (i0_eq_f hz) ?_
    refine XS.aloadN X5.here hexec rfl (hb hbytes d33) rfl rfl ?_
    refine XS.iloadN X5.here hexec rfl (hb hbytes d34) rfl ?_
    refine XS.iloadN X5.here hexec rfl (hb hbytes d35) rfl ?_
    exact Steps.refl _)
  obtain ⟨v8, T8, X8, E8, g8⟩ := X5.callS hexec (Cmp3.law l b A o len) hown (wks W (staticW "java/lang/String" 177 Cmp3.yN)) (wk W Cmp3.tab) (W := 0) (Nat.le_of_ble_eq_true rfl) (Nat.le_of_ble_eq_true rfl) (Nat.le_refl _) (by show 0 + len ≤ len; omega) (g := (mkF m 36 #[.val (.ref a), .val (.ref b), .val (.int (Int32.ofNat o)), .val (.int (Int32.ofNat len)), .val .null, .unset] [.int (Int32.ofNat len), .int (Int32.ofNat o), .ref b])) rfl (by rw [hml]; rfl) c7 (argsL := [.ref b, .int (Int32.ofNat o), .int (Int32.ofNat len)]) (rest := []) rfl rfl (by show 2 * 0 + 0 ≤ _; decide) (hb hbytes d36) (⟨rfl, hA.mv X5.warmed.alike hh5, l1, l2, hp⟩)
  obtain ⟨e8, z8⟩ := E8
  obtain ⟨rfl, N, n1, n2, n3, n4, n5, n6⟩ := NewArr.mv _ T5 s _ _ hh5.symm (Vm.Alike.refl _) rfl e8
  rw [hh5] at z8
  have hB1 := hB.keep X8.warmed.alike (n6 _ _ hB.1)
  have hne : s.heap.size ≠ a := (Nat.ne_of_lt (Array.getElem?_eq_some_iff.mp hB.1).1).symm
  have c9 : Steps p.tables e below (s₁.setTop (entryFrame m #[.ref a, .ref b, .int (Int32.ofNat o), .int (Int32.ofNat len), .null] 6)) (T8.setTop (mkF m 39 #[.val (.ref a), .val (.ref b), .val (.int (Int32.ofNat o)), .val (.int (Int32.ofNat len)), .val .null, .unset] [.ref s.heap.size])) := g8
  have c10 : Steps p.tables e below (s₁.setTop (entryFrame m #[.ref a, .ref b, .int (Int32.ofNat o), .int (Int32.ofNat len), .null] 6)) (T8.setTop (mkF m 45 #[.val (.ref a), .val (.ref b), .val (.int (Int32.ofNat o)), .val (.int (Int32.ofNat len)), .val .null, .val (.ref s.heap.size)] [.int (Int32.ofNat N.slots.size), .ref s.heap.size, .ref a])) := by
    have hc : Steps p.tables e below (s₁.setTop (entryFrame m #[.ref a, .ref b, .int (Int32.ofNat o), .int (Int32.ofNat len), .null] 6)) (T8.setTop (mkF m 45 #[.val (.ref a), .val (.ref b), .val (.int (Int32.ofNat o)), .val (.int (Int32.ofNat len)), .val .null, .val (.ref s.heap.size)] [.int (Int32.ofNat len), .ref s.heap.size, .ref a])) := c9.trans (by
      refine XS.astore X8.here hexec rfl (hb hbytes d39) rfl rfl rfl ?_
      refine XS.aloadN X8.here hexec rfl (hb hbytes d41) rfl rfl ?_
      refine XS.aload X8.here hexec rfl (hb hbytes d42) rfl rfl ?_
      refine XS.iloadN X8.here hexec rfl (hb hbytes d44) rfl ?_
      exact Steps.refl _)
    rw [n4]; exact hc
  obtain ⟨v11, T11, X11, E11, g11⟩ := X8.callS hexec (CodL.law l s.heap.size N) hown (wks W (staticW "java/lang/String" 47 CodL.yN)) (wk W CodL.tab) (W := 1) (Nat.le_of_ble_eq_true rfl) (Nat.le_of_ble_eq_true rfl) (Nat.le_refl _) (by show 0 + len + 0 ≤ len; omega) (g := (mkF m 45 #[.val (.ref a), .val (.ref b), .val (.int (Int32.ofNat o)), .val (.int (Int32.ofNat len)), .val .null, .val (.ref s.heap.size)] [.int (Int32.ofNat N.slots.size), .ref s.heap.size, .ref a])) rfl (by rw [hml]; rfl) c10 (argsL := [.ref s.heap.size, .int (Int32.ofNat N.slots.size)]) (rest := [.ref a]) rfl rfl (by show 2 * 0 + (1 + 0) ≤ _; decide) (hb hbytes d45) (⟨rfl, n1⟩)
  obtain ⟨rfl, q11⟩ := E11
  have hB11 := hB1.mv (X8.warmed.alike.symm.trans X11.warmed.alike) q11
  have c12 : Steps p.tables e below (s₁.setTop (entryFrame m #[.ref a, .ref b, .int (Int32.ofNat o), .int (Int32.ofNat len), .null] 6)) (T11.setTop (mkF m 48 #[.val (.ref a), .val (.ref b), .val (.int (Int32.ofNat o)), .val (.int (Int32.ofNat len)), .val .null, .val (.ref s.heap.size)] [.int 0, .ref a])) := g11
  obtain ⟨T13, X13, p13, bl13, sl13, st13⟩ := X11.finit hexec hown (wk W (.fieldLink "java/lang/String" 15 "java/lang/String" "coder" "B")) (Or.inr ⟨_, (wk W (.laysFinal "java/lang/String" "java/lang/String" "coder" "B"))⟩) (Or.inl ⟨rfl, hnm⟩) f2 (Or.inl rfl) hB11 (t := .byte) (by decide +kernel) rfl (g := (mkF m 48 #[.val (.ref a), .val (.ref b), .val (.int (Int32.ofNat o)), .val (.int (Int32.ofNat len)), .val .null, .val (.ref s.heap.size)] [.int 0, .ref a])) rfl (rest := []) rfl (hb hbytes d48)
  have c14 : Steps p.tables e below (s₁.setTop (entryFrame m #[.ref a, .ref b, .int (Int32.ofNat o), .int (Int32.ofNat len), .null] 6)) (T13.setTop (mkF m 54 #[.val (.ref a), .val (.ref b), .val (.int (Int32.ofNat o)), .val (.int (Int32.ofNat len)), .val .null, .val (.ref s.heap.size)] [.ref s.heap.size, .ref a])) := (c12.trans (st13 _ (Steps.refl _))).trans (by
    refine XS.aloadN X13.here hexec rfl (hb hbytes d51) rfl rfl ?_
    refine XS.aload X13.here hexec rfl (hb hbytes d52) rfl rfl ?_
    exact Steps.refl _)
  obtain ⟨T15, X15, p15, bl15, sl15, st15⟩ := X13.finit hexec hown (wk W (.fieldLink "java/lang/String" 9 "java/lang/String" "value" "[B")) (Or.inr ⟨_, (wk W (.laysFinal "java/lang/String" "java/lang/String" "value" "[B"))⟩) (Or.inl ⟨rfl, hnm⟩) f1 (Or.inl rfl) bl13 (t := (.array .byte)) (by decide +kernel) rfl (g := (mkF m 54 #[.val (.ref a), .val (.ref b), .val (.int (Int32.ofNat o)), .val (.int (Int32.ofNat len)), .val .null, .val (.ref s.heap.size)] [.ref s.heap.size, .ref a])) rfl (rest := []) rfl (hb hbytes d54)
  have c16 : Steps p.tables e below (s₁.setTop (entryFrame m #[.ref a, .ref b, .int (Int32.ofNat o), .int (Int32.ofNat len), .null] 6)) (T15.setTop (mkF m 57 #[.val (.ref a), .val (.ref b), .val (.int (Int32.ofNat o)), .val (.int (Int32.ofNat len)), .val .null, .val (.ref s.heap.size)] [])) := c14.trans (st15 _ (Steps.refl _))
  have ap := apart (Or.inr ⟨_, (wk W (.laysFinal "java/lang/String" "java/lang/String" "value" "[B"))⟩) (Or.inr ⟨_, (wk W (.laysFinal "java/lang/String" "java/lang/String" "coder" "B"))⟩) f1 f2 (t₁ := .array .byte) (t₂ := .byte) (by decide +kernel) (by decide +kernel) (by decide)
  have al := X8.warmed.alike.symm.trans X15.warmed.alike
  have n7 : T11.heap[s.heap.size]? = some N := by rw [q11]; exact n1.1
  exact ⟨T15, none, _, _, _, X15, by simp, rfl, by omega, (fun _ => rfl), ⟨rfl, _, N, bl15, ((Same.refl D _).set _ (by simp)).set _ (by simp), sl15, (Cell.slots_setSlot_ne _ ap).trans sl13, n1.keep al (p15.other hne (p13.other hne n7)), n2, by rw [al.findClass]; exact n3, n4, n5, fun y c h1 h2 => p15.other h1 (p13.other h1 (by rw [q11]; exact n6 y c h2)), by rw [p15.2.2, p13.2.2, q11]; exact z8⟩, fun fs hl => c16.trans (X15.returnOut hexec hret (hb hbytes d57) hl)⟩
end New4
namespace New1
def yN : MethodName := ⟨"java/lang/String", "<init>", "([C)V"⟩
abbrev yB : ByteArray := jdk_42_method_3_code
theorem d0 : decode yB 0 = .ok (.aload_n 0, 1) := by decide +kernel
theorem d1 : decode yB 1 = .ok (.aload_n 1, 1) := by decide +kernel
theorem d2 : decode yB 2 = .ok (.iconst 0, 1) := by decide +kernel
theorem d3 : decode yB 3 = .ok (.aload_n 1, 1) := by decide +kernel
theorem d4 : decode yB 4 = .ok (.arraylength, 1) := by decide +kernel
theorem d5 : decode yB 5 = .ok (.aconst_null, 1) := by decide +kernel
theorem d6 : decode yB 6 = .ok (.invokespecial 27, 3) := by decide +kernel
theorem d9 : decode yB 9 = .ok (.return_, 1) := by decide +kernel
def site : List Cond := [New4.tab] ++ initW "java/lang/String" 27 New4.yN
def tab : Cond := tabOf yN yB 2 none site
def P (a : Addr) (D : Cell) (fV fC : Field) (b : Addr) (A : Cell) (z : Int32) (args : Array Value) (s : State) : Prop := args = #[.ref a, .ref b] ∧ Blank "java/lang/String" a D s ∧ Found "java/lang/String" "value" "[B" fV s ∧ Found "java/lang/String" "coder" "B" fC s ∧ Ch b A s ∧ StaticIs s "java/lang/String" "COMPACT_STRINGS" "Z" (.int z) ∧ ¬ z = 0 ∧ 0 < A.slots.size ∧ A.slots.size ≤ 536870912 ∧ ∀ i, i < A.slots.size → ¬ 255 < cv A i
def E (a : Addr) (D : Cell) (fV fC : Field) (A : Cell) (r : Option Value) (s u : State) : Prop := Got a D fV fC A 0 A.slots.size r s u
/-- new String(chars), not empty, no char above 255: a Latin-1 String of their low bytes -/
theorem law (l : Launch) (a : Addr) (D : Cell) (fV fC : Field) (b : Addr) (A : Cell) (z : Int32) : Law l yN 2 1 3 52 yB 2 none site (P a D fV fC b A z) (E a D fV fC A) [⟨a, fC.slot⟩, ⟨a, fV.slot⟩] 1 A.slots.size := by
  refine Law.of_walk (plainFor_of_name (by decide +kernel)) (by decide +kernel) (by decide +kernel) (by decide) (fun _ _ h => by rw [h.1]; rfl) (fun _ U U' hal hh h => ⟨h.1, h.2.1.mv hal hh, h.2.2.1.al hal, h.2.2.2.1.al hal, h.2.2.2.2.1.mv hal hh, h.2.2.2.2.2.1.there hal hh, h.2.2.2.2.2.2⟩) (fun r U U' V V' h1 hal h2 h => Got.mv r U U' V V' h1 hal h2 h) ?_
  intro p e s m args below meth c s₁ X0 hexec hbytes hml hret hlk hnm hown hh0 W hP
  obtain ⟨rfl, hB, f1, f2, hA, s1, hz, l0, l2, hp⟩ := hP
  have c1 : Steps p.tables e below (s₁.setTop (entryFrame m #[.ref a, .ref b] 2)) (s₁.setTop (mkF m 0 #[.val (.ref a), .val (.ref b)] [])) := entry rfl
  have c2 : Steps p.tables e below (s₁.setTop (entryFrame m #[.ref a, .ref b] 2)) (s₁.setTop (mkF m 6 #[.val (.ref a), .val (.ref b)] [.null, .int (Int32.ofNat A.slots.size), .int 0, .ref b, .ref a])) := c1.trans (by
    refine XS.aloadN X0.here hexec rfl (hb hbytes d0) rfl rfl ?_
    refine XS.aloadN X0.here hexec rfl (hb hbytes d1) rfl rfl ?_
    refine iconstV X0.here hexec rfl 0 (hb hbytes d2) (by decide) ?_
    refine XS.aloadN X0.here hexec rfl (hb hbytes d3) rfl rfl ?_
    refine X0.alen hexec (hA.1.mv X0.warmed.alike hh0) rfl rfl (hb hbytes d4) ?_
    refine XS.aconstNull X0.here hexec rfl (hb hbytes d5) ?_
    exact Steps.refl _)
  obtain ⟨v3, T3, X3, E3, g3⟩ := X0.callN hexec (New4.law l a D fV fC b A z 0 A.slots.size) rfl hown (wks W (initW "java/lang/String" 27 New4.yN)) (W New4.tab (by simp only [site, List.mem_cons, List.mem_append, true_or, or_true])) (W := 0) (Nat.le_of_ble_eq_true rfl) (Nat.le_of_ble_eq_true rfl) (Nat.le_refl _) (by show 0 + A.slots.size ≤ A.slots.size; omega) (g := (mkF m 6 #[.val (.ref a), .val (.ref b)] [.null, .int (Int32.ofNat A.slots.size), .int (Int32.ofNat 0), .ref b, .ref a])) rfl (by rw [hml]; rfl) c2 (argsL := [.ref b, .int (Int32.ofNat 0), .int (Int32.ofNat A.slots.size), .null]) (rest := []) rfl rfl (by show 2 * 0 + 0 ≤ _; decide) (hb hbytes d6) (⟨rfl, hB.mv X0.warmed.alike hh0, f1.al X0.warmed.alike, f2.al X0.warmed.alike, hA.mv X0.warmed.alike hh0, s1.there X0.warmed.alike hh0, hz, l0, by omega, l2, fun i hi => by rw [Nat.zero_add]; exact hp i hi⟩)
  have e0 := Got.mv _ s₁ s _ _ hh0.symm (Vm.Alike.refl _) rfl E3
  obtain rfl := e0.1
  have c4 : Steps p.tables e below (s₁.setTop (entryFrame m #[.ref a, .ref b] 2)) (T3.setTop (mkF m 9 #[.val (.ref a), .val (.ref b)] [])) := g3
  exact ⟨T3, none, _, _, _, X3, by simp, rfl, by omega, (fun _ => rfl), e0, fun fs hl => c4.trans (X3.returnOut hexec hret (hb hbytes d9) hl)⟩
theorem pays {l : Launch} {R : Room} {p : Program} {e : Env} {below : List Frame} {s : State} {sargs : Array Value} {len W : Nat} (a : Addr) (D : Cell) (fV fC : Field) (b : Addr) (A : Cell) (z : Int32) (htab : tab.before sargs s = true) (hfr : 4 ≤ R.frames) (hlo : W + 65 ≤ R.locals) :
    Back l R p e below s sargs yN len W (fun A₁ a₁ => A₁.cells + 1 ≤ R.cells ∧ A₁.slots + A.slots.size ≤ R.slots ∧ P a D fV fC b A z a₁ A₁.U) (fun A₁ _ v₁ B₁ => E a D fV fC A v₁ A₁.U B₁.U ∧ B₁.locs = A₁.locs ++ [⟨a, fC.slot⟩, ⟨a, fV.slot⟩] ∧ B₁.cells = A₁.cells + 1 ∧ B₁.slots = A₁.slots + A.slots.size) :=
  (law l a D fV fC b A z).pays htab hfr (by omega)
end New1
/-- the byte, read back as charAt reads it, is the char -/
theorem lo8_mask {x : Int32} (h0 : ¬ x < 0) (h1 : ¬ 255 < x) : lo8 x &&& 255 = x := by
  have t : ∀ k : Fin 256, lo8 (Int32.ofNat k.val) &&& 255 = Int32.ofNat k.val := by decide +kernel
  rw [Int32.lt_iff_toInt_lt] at h0 h1
  have e0 : (0 : Int32).toInt = 0 := rfl
  have e1 : (255 : Int32).toInt = 255 := rfl
  obtain ⟨k, hk⟩ : ∃ k : Nat, x.toInt = k := ⟨x.toInt.toNat, by omega⟩
  have hx : x = Int32.ofNat k := Int32.toInt_inj.mp (by rw [hk, Int32.toInt_ofNat_small (by omega)])
  rw [hx]
  exact t ⟨k, by omega⟩
end StrChars
namespace StrChars.Road
open Jvm Sem ClassFile Op Lib Jvm.Stand Jvm.Free Jvm.Free.XT
open Jvm.Lib.Cold (StaticIs)
abbrev ST : String := "java/lang/String"
/-- every table word that New1's law asks, flat -/
abbrev words : List Jvm.Cond := [.code New1.yN New1.yB 2 none, .initialized ST, .methodLink ST 27 New4.yN, .instanceMethod New4.yN,
  .code New4.yN New4.yB 6 none, .fieldLink ST 38 ST "COMPACT_STRINGS" "Z", .laysFinal ST ST "value" "[B", .fieldLink ST 9 ST "value" "[B", .laysFinal ST ST "coder" "B", .fieldLink ST 15 ST "coder" "B",
  .methodLink ST 1 Lib.objectInit, .instanceMethod Lib.objectInit, .code Lib.objectInit ⟨#[0xb1]⟩ 1 none, .methodLink ST 177 Cmp3.yN, .static Cmp3.yN, .methodLink ST 47 CodL.yN, .static CodL.yN,
  .code Cmp3.yN Cmp3.yB 6 (some (.array .byte)), .initialized U16, .arrayClass .byte, .methodLink U16 115 Cmp5.yN, .static Cmp5.yN, .code Cmp5.yN Cmp5.yB 7 (some .int), .code CodL.yN CodL.yB 2 (some .byte)]
theorem tab_of {a : Array Value} {s : State} (h : ∀ w ∈ words, w.before a s = true) : New1.tab.before a s = true := by
  have h5 : Cmp5.tab.before a s = true := unparts (wk h (.code Cmp5.yN Cmp5.yB 7 (some .int))) (wks h (.initialized Cmp5.yN.cls :: Cmp5.site))
  have hc : CodL.tab.before a s = true := unparts (wk h (.code CodL.yN CodL.yB 2 (some .byte))) (wks h (.initialized CodL.yN.cls :: CodL.site))
  have q5 : ∀ w ∈ Cmp5.tab :: words, w.before a s = true := fun w hw => (List.mem_cons.mp hw).elim (fun e => e ▸ h5) (h w)
  have h3 : Cmp3.tab.before a s = true := unparts (wk q5 (.code Cmp3.yN Cmp3.yB 6 (some (.array .byte)))) (wks q5 (.initialized Cmp3.yN.cls :: Cmp3.site))
  have q3 : ∀ w ∈ Cmp3.tab :: CodL.tab :: words, w.before a s = true := fun w hw => (List.mem_cons.mp hw).elim (fun e => e ▸ h3) fun hw => (List.mem_cons.mp hw).elim (fun e => e ▸ hc) (h w)
  have h4 : New4.tab.before a s = true := unparts (wk q3 (.code New4.yN New4.yB 6 none)) (wks q3 (.initialized New4.yN.cls :: New4.site))
  have q4 : ∀ w ∈ New4.tab :: words, w.before a s = true := fun w hw => (List.mem_cons.mp hw).elim (fun e => e ▸ h4) (h w)
  exact unparts (wk q4 (.code New1.yN New1.yB 2 none)) (wks q4 (.initialized New1.yN.cls :: New1.site))
/-- the words ride from the start Z to the walk's own state -/
theorem moved {Z s : State} {a0 args : Array Value} (hZ : Z.Warmed39 s.vm) (hw : ∀ d ∈ words, d.before a0 Z = true) : ∀ d ∈ words, d.before args s = true := fun d hd => by
  have q := hw d hd
  have t : ∀ d ∈ words, d = .arrayClass .byte ∨ (d.onTables && d.keepsFace) = true := by decide +kernel
  rcases t d hd with rfl | t
  · exact RoadKit.mvA hZ q
  · exact RoadKit.mv hZ q t
/-- WHAT COMES BACK, over the tables of the start Z: h the heap at the call, h' behind it -/
def Q (Z : State) (x : Addr) (A : Cell) (h : Heap) (v : Option Value) (h' : Heap) (L : List Loc) : Prop := v = none ∧ (∀ y ∈ L, y.base = x) ∧ RoadKit.Keep h h' [x] ∧ h'.size = h.size + 1 ∧ RoadKit.Exa Z h' x ST ∧ RoadKit.Fld Z h' x ST "value" "[B" (.ref h.size) ∧ RoadKit.Fld Z h' x ST "coder" "B" (.int 0) ∧
  (∃ V : Cell, RoadKit.Arr Z h' h.size V .byte ∧ V.vm = .none ∧ Z.vm.findClass "[B" = some V.cls ∧ V.slots.size = A.slots.size ∧ ∀ j, j < A.slots.size → V.slots[j]? = some (.int (lo8 (cv A j)))) ∧
  ∀ (O n d : String) (w : Value), RoadKit.Fld Z h x O n d w → RoadKit.slotOf Z O n d ≠ RoadKit.slotOf Z ST "value" "[B" → RoadKit.slotOf Z O n d ≠ RoadKit.slotOf Z ST "coder" "B" → RoadKit.Fld Z h' x O n d w
/-- **new String(chars) AT A CALL, IN THE ROAD'S FORM**: for specialBack behind newO: x the fresh String, b the char[] with the cell A -/
theorem back {p : Program} {l : Launch} {e : Env} {R : Room} {s : State} {args : Array Value} {below : List Frame} {len W : Nat} {Z : State} {a0 : Array Value} {h : Heap} (hZ : Z.Warmed39 s.vm) (hw : ∀ d ∈ words, d.before a0 Z = true) {kI : Nat} (wi : (Jvm.Cond.instantiable ST kI).before a0 Z = true)
    {x b : Addr} {A : Cell} {z : Int32} {v0 c0 : Value} (E : RoadKit.Exa Z h x ST) (V : RoadKit.Fld Z h x ST "value" "[B" v0) (C : RoadKit.Fld Z h x ST "coder" "B" c0) (K : RoadKit.Arr Z h b A .char) (hty : Typed .char A) (S : RoadKit.Sta Z h ST "COMPACT_STRINGS" "Z" (.int z)) (hz : ¬ z = 0)
    (l0 : 0 < A.slots.size) (l2 : A.slots.size ≤ 536870912) (hp : ∀ i, i < A.slots.size → ¬ 255 < cv A i) (hfr : 4 ≤ R.frames) (hlo : W + 65 ≤ R.locals) :
    Back l R p e below s args New1.yN len W (fun P a => a = #[.ref x, .ref b] ∧ P.U.heap = h ∧ P.cells + 1 ≤ R.cells ∧ P.slots + A.slots.size ≤ R.slots)
      (fun P _ v B => ∃ L, Q Z x A h v B.U.heap L ∧ B.locs = P.locs ++ L ∧ B.cells = P.cells + 1 ∧ B.slots = P.slots + A.slots.size) := by
  intro m meth c P g ig mk a X hg hsize hdg hW hn hp'
  obtain ⟨rfl, rfl, r1, r2⟩ := hp'
  have al : Z.vm.Alike P.U.vm := hZ.alike.trans X.warmed.alike
  obtain ⟨D, cfV, kV, iV, fV, hD, gV, stV, knV, obV, asV, slV⟩ := id V
  obtain ⟨D', cfC, kC, iC, fC, hD', gC, stC, -, -, asC, slC⟩ := id C
  cases hD.symm.trans hD'
  obtain ⟨D2, kD, e1, e2, e3, e4, e5⟩ := id E
  cases hD.symm.trans e1
  obtain ⟨c2, k2, i1, i2, i3, -⟩ := Cond.instantiable_spec wi
  cases e2.symm.trans i1
  cases e3.symm.trans i2
  obtain ⟨kU, u1, u2⟩ := al.2.2 _ _ e3
  have hB : Blank ST x D P.U := ⟨hD, ⟨knV, fun q hq => by rw [hq] at obV; cases obV⟩, by rw [al.findClass]; exact e2, kU, u1, by rw [u2]; exact i3, by rw [u2]; exact e5 i3⟩
  have F1 : Found ST "value" "[B" fV P.U := ⟨SBG.found_only al ⟨cfV, kV, iV, gV⟩, stV⟩
  have F2 : Found ST "coder" "B" fC P.U := ⟨SBG.found_only al ⟨cfC, kC, iC, gC⟩, stC⟩
  have hA : Ch b A P.U := ⟨⟨K.1, State.isArrayOf_alike al K.2.1, K.2.2, by omega⟩, hty⟩
  have hS : StaticIs P.U ST "COMPACT_STRINGS" "Z" (.int z) := by
    obtain ⟨cfS, iS, kS, fS, st, cS, t1, t2, t3, t4, t5, t6, t7⟩ := S
    exact StaticIs.there (s := { Z with heap := P.U.heap }) ⟨cfS, iS, kS, fS, st, cS, t1, t2, t3, t4, t5, (fun q => by rw [q] at t6; cases t6), t7⟩ al rfl
  obtain ⟨v, B, X', ⟨⟨hv, E', V', q1, q2, q3, q4, q5, q6, q7, q8, q9, q10, q11⟩, hl, hc, hs⟩, st⟩ := New1.pays x D fV fC b A z (tab_of (moved hZ hw)) hfr hlo m meth c P g ig mk _ X hg hsize hdg hW hn ⟨r1, r2, rfl, hB, F1, F2, hA, hS, hz, l0, l2, hp⟩
  have al' : Z.vm.Alike B.U.vm := hZ.alike.trans X'.warmed.alike
  have hsz : E'.slots.size = D.slots.size := by
    obtain ⟨-, -, -, kB, w1, w2, w3⟩ := q1
    obtain ⟨kB', y1, y2⟩ := al'.2.2 _ _ e3
    rw [q2.2.1] at w1
    cases w1.symm.trans y1
    rw [w3, e5 i3, y2]
  refine ⟨v, B, X', ⟨_, ⟨hv, ?_, ⟨by omega, fun y cy hy hn' => q10 y cy (by simpa using hn') hy, fun y cy hy => ?_⟩, q11, ⟨E', _, q1.1, by rw [q2.2.1]; exact e2, by rw [q2.2.1]; exact e3, by rw [q2.1]; exact obV, fun _ => by rw [hsz]; exact e5 i3⟩,
    ⟨E', cfV, kV, iV, fV, q1.1, gV, stV, by rw [q2.1]; exact knV, by rw [q2.1]; exact obV, by rw [q2.2.1]; exact asV, q3⟩, ⟨E', cfC, kC, iC, fC, q1.1, gC, stC, by rw [q2.1]; exact knV, by rw [q2.1]; exact obV, by rw [q2.2.1]; exact asC, q4⟩,
    ⟨V', ⟨q5.1, State.isArrayOf_alike al'.symm q5.2.1, q5.2.2.1⟩, q6, by rw [← al'.findClass]; exact q7, q8, fun j hj => by have := q9 j hj; rwa [Nat.zero_add] at this⟩, fun O n d w F n1 n2 => ?_⟩, hl, hc, hs⟩, st⟩
  · intro y hy
    simp only [List.mem_cons, List.not_mem_nil, or_false] at hy
    rcases hy with rfl | rfl <;> rfl
  · by_cases q : y = x
    · subst q
      cases hD.symm.trans hy
      exact ⟨E', q1.1, q2.2.1, q2.1, hsz⟩
    · exact ⟨cy, q10 y cy q hy, rfl, rfl, rfl⟩
  · obtain ⟨D3, cf, k, i, f, g1, g2, g3, g4, g5, g6, g7⟩ := F
    cases hD.symm.trans g1
    simp only [RoadKit.slotOf, g2, gV, gC, Option.map_some, Option.getD_some] at n1 n2
    exact ⟨E', cf, k, i, f, q1.1, g2, g3, by rw [q2.1]; exact g4, by rw [q2.1]; exact g5, by rw [q2.2.1]; exact g6, by rw [q2.2.2 f.slot (by simp [n1, n2])]; exact g7⟩
end StrChars.Road
namespace StrChars.Road
open Jvm Sem ClassFile Op Lib Jvm.Stand Jvm.Free Jvm.Free.XT
/-- WHAT COMES BACK, the byte[] as a list of values -/
def QA (Z : State) (x : Addr) (zn : Int32) (cs : List Int32) (h : Heap) (v : Option Value) (h' : Heap) (L : List Loc) : Prop := v = none ∧ (∀ y ∈ L, y.base = x) ∧ RoadKit.Keep h h' [x] ∧ h'.size = h.size + 1 ∧ RoadKit.Exa Z h' x ST ∧ RoadKit.Fld Z h' x ST "value" "[B" (.ref h.size) ∧ RoadKit.Fld Z h' x ST "coder" "B" (.int 0) ∧
  (∃ kb, Z.vm.findClass "[B" = some kb ∧ RoadKit.Arv Z h' h.size kb .byte zn (cs.map fun c => .int (lo8 c)) (.int 0)) ∧
  ∀ (O n d : String) (w : Value), RoadKit.Fld Z h x O n d w → RoadKit.slotOf Z O n d ≠ RoadKit.slotOf Z ST "value" "[B" → RoadKit.slotOf Z O n d ≠ RoadKit.slotOf Z ST "coder" "B" → RoadKit.Fld Z h' x O n d w
/-- **new String(chars) AT A CALL, THE ARRAYS AS LISTS**: the char[] at b holds cs, not empty, no char above 255 -/
theorem backArv {p : Program} {l : Launch} {e : Env} {R : Room} {s : State} {args : Array Value} {below : List Frame} {len W : Nat} {Z : State} {a0 : Array Value} {h : Heap} (hZ : Z.Warmed39 s.vm) (hw : ∀ d ∈ words, d.before a0 Z = true) {kI : Nat} (wi : (Jvm.Cond.instantiable ST kI).before a0 Z = true)
    {x b : Addr} {k : ClassId} {zn z : Int32} {cs : List Int32} {dv v0 c0 : Value} (E : RoadKit.Exa Z h x ST) (V : RoadKit.Fld Z h x ST "value" "[B" v0) (C : RoadKit.Fld Z h x ST "coder" "B" c0) (K : RoadKit.Arv Z h b k .char zn (cs.map Value.int) dv) (S : RoadKit.Sta Z h ST "COMPACT_STRINGS" "Z" (.int z)) (hz : ¬ z = 0)
    (hlen : zn.toNatClampNeg = cs.length) (h0 : 0 < cs.length) (hbig : cs.length ≤ 536870912) (hall : ∀ c ∈ cs, ¬ 255 < c) (hfr : 4 ≤ R.frames) (hlo : W + 65 ≤ R.locals) :
    Back l R p e below s args New1.yN len W (fun P a => a = #[.ref x, .ref b] ∧ P.U.heap = h ∧ P.cells + 1 ≤ R.cells ∧ P.slots + cs.length ≤ R.slots)
      (fun P _ v B => ∃ L, QA Z x zn cs h v B.U.heap L ∧ B.locs = P.locs ++ L ∧ B.cells = P.cells + 1 ∧ B.slots = P.slots + cs.length) := by
  obtain ⟨A, K1, K2, K3, K4, K5, K6⟩ := K
  have e : A.slots.size = cs.length := K3.trans hlen
  have hat : ∀ (i : Nat) (hi : i < cs.length), A.slots[i]? = some (.int cs[i]) := fun i hi => by rw [K5 i (by omega)]; simp [List.getD_eq_getElem?_getD, hi]
  have hcv : ∀ (i : Nat) (hi : i < cs.length), cv A i = cs[i] := fun i hi => by unfold cv; rw [hat i hi]
  have hty : Typed .char A := fun i v hv => by
    have hi : i < A.slots.size := (Array.getElem?_eq_some_iff.mp hv).1
    have q := K5 i hi
    rw [hv] at q
    rw [Option.some.inj q]
    exact K6 i hi
  refine Back.mono (back hZ hw wi E V C K1 hty S hz (by omega) (by omega) (fun i hi => by rw [hcv i (by omega)]; exact hall _ (List.getElem_mem _)) hfr hlo) (fun P a hp => ⟨hp.1, hp.2.1, hp.2.2.1, by rw [e]; exact hp.2.2.2⟩) (fun P a v B hp hq => ?_)
  obtain ⟨L, ⟨q1, q2, q3, q4, q5, q6, q7, ⟨V', v1, v2, v3, v4, v5⟩, q9⟩, hl, hc, hs⟩ := hq
  refine ⟨L, ⟨q1, q2, q3, q4, q5, q6, q7, ⟨V'.cls, v3, V', v1, rfl, by rw [v4, e, hlen], K4, fun i hi => ?_, fun i hi => ?_⟩, q9⟩, hl, hc, by rw [hs, e]⟩
  · have hi' : i < cs.length := by omega
    rw [v5 i (by omega), hcv i hi']; simp [List.getD_eq_getElem?_getD, hi']
  · have hi' : i < cs.length := by omega
    simp only [List.getD_eq_getElem?_getD, List.getElem?_map, List.getElem?_eq_getElem hi', Option.map_some, Option.getD_some]
    exact fits_lo8 _
end StrChars.Road
namespace StrChars.Road
open Jvm Sem ClassFile Op Lib Jvm.Stand Jvm.Free Jvm.Free.XT
/-- WHAT COMES BACK, in the writer's own shape -/
def QV (Z : State) (x : Addr) (N : Int32) (bs : List Int32) (h : Heap) (n0 : Nat) (v : Option Value) (h' : Heap) (L : List Loc) : Prop := v = none ∧ RoadKit.Fr n0 L ∧ RoadKit.Keep h h' [x] ∧ RoadKit.Exa Z h' x ST ∧ RoadKit.Fld Z h' x ST "coder" "B" (.int 0) ∧
  ∃ (t : Addr) (kb : ClassId), n0 ≤ t ∧ h.size ≤ t ∧ ¬ t = x ∧ RoadKit.Fld Z h' x ST "value" "[B" (.ref t) ∧ RoadKit.Arv Z h' t kb .byte N (bs.map Value.int) (.int 0)
/-- **new String(chars) AT A CALL, FOR THE WRITER**: a char[] of n known ints, each 0 to 255 -/
theorem backV {p : Program} {l : Launch} {e : Env} {R : Room} {s : State} {args : Array Value} {below : List Frame} {len W : Nat} {Z : State} {a0 : Array Value} {h : Heap} (hZ : Z.Warmed39 s.vm) (hw : ∀ d ∈ words, d.before a0 Z = true) {kI : Nat} (wi : (Jvm.Cond.instantiable ST kI).before a0 Z = true)
    {x b : Addr} {kC : ClassId} {cs bs : List Int32} {d v0 c0 : Value} {z N : Int32} {n n0 : Nat} (hx0 : n0 ≤ x) (hh0 : n0 ≤ h.size) (E : RoadKit.Exa Z h x ST) (V : RoadKit.Fld Z h x ST "value" "[B" v0) (C : RoadKit.Fld Z h x ST "coder" "B" c0) (K : RoadKit.Arv Z h b kC .char N (cs.map Value.int) d) (S : RoadKit.Sta Z h ST "COMPACT_STRINGS" "Z" (.int z)) (hz : ¬ z = 0)
    (hn : cs.length = n) (hN : N = Int32.ofNat n) (l0 : 0 < n) (l2 : n ≤ 4000) (hp : ∀ c ∈ cs, ¬ c < 0 ∧ ¬ (255 : Int32) < c) (hb : bs = cs.map (fun c => c.toInt8.toInt32)) (hfr : 4 ≤ R.frames) (hlo : W + 65 ≤ R.locals) :
    Back l R p e below s args (⟨"java/lang/String", "<init>", "([C)V"⟩ : MethodName) len W (fun P a => a = #[.ref x, .ref b] ∧ P.U.heap = h ∧ P.cells + 1 ≤ R.cells ∧ P.slots + n ≤ R.slots)
      (fun P _ v B => ∃ L, QV Z x N bs h n0 v B.U.heap L ∧ B.locs = P.locs ++ L ∧ B.cells = P.cells + 1 ∧ B.slots = P.slots + n) := by
  subst hn hN hb
  refine Back.mono (backArv hZ hw wi E V C K S hz (n32 (by omega)) l0 (by omega) (fun c hc => (hp c hc).2) hfr hlo) (fun P a hp => hp) (fun P a v B hp hq => ?_)
  obtain ⟨L, ⟨q1, q2, q3, q4, q5, q6, q7, ⟨kb, v1, v2⟩, q9⟩, hl, hc, hs⟩ := hq
  exact ⟨L, ⟨q1, fun y hy => by rw [q2 y hy]; exact hx0, q3, q5, q7, h.size, kb, hh0, Nat.le_refl _, Nat.ne_of_gt E.lt, q6, by rw [List.map_map]; exact v2⟩, hl, hc, hs⟩
end StrChars.Road
namespace StrChars
open Jvm Sem ClassFile Op Lib Jvm.Stand Jvm.Free.XT Jvm.Free.ALB Jvm.Free.JM Jvm.Free
open Jvm.Lib.Cold (StaticIs)
def hi8 (x : Int32) : Int32 := lo8 (x >>> ((8 : Int32) &&& 31))
/-- what StringUTF16.getChar makes of two bytes -/
def pairCh (u v : Int32) : Int32 := (((u &&& 255) <<< ((0 : Int32) &&& 31)) ||| ((v &&& 255) <<< ((8 : Int32) &&& 31))).toUInt32.toUInt16.toUInt32.toInt32
theorem lo8_and (x : Int32) : (lo8 x &&& 255).toBitVec.toNat = x.toBitVec.toNat % 256 := by
  have h : (lo8 x).toBitVec = (x.toBitVec.signExtend 8).signExtend 32 := by rw [lo8, Int8.toBitVec_toInt32, Int32.toBitVec_toInt8]
  rw [Int32.toBitVec_and, BitVec.toNat_and, h]
  have e : ((x.toBitVec.signExtend 8).signExtend 32).toNat % 256 = x.toBitVec.toNat % 256 := by
    rw [BitVec.toNat_signExtend]
    have hlt := x.toBitVec.isLt
    simp only [BitVec.toNat_setWidth, BitVec.toNat_signExtend]
    split <;> split <;> omega
  rw [← e]
  exact Nat.and_two_pow_sub_one_eq_mod _ 8
theorem pair_says {c : Int32} (h0 : ¬ c < 0) (h1 : ¬ 65535 < c) : pairCh (lo8 c) (hi8 c) = c := by
  rw [Int32.lt_iff_toInt_lt] at h0 h1
  have e0 : (0 : Int32).toInt = 0 := rfl
  have e1 : (65535 : Int32).toInt = 65535 := rfl
  have hc : c.toInt = c.toBitVec.toNat := by
    have := c.toBitVec.isLt
    have e : c.toInt = c.toBitVec.toInt := rfl
    rw [e] at h0 h1
    rw [e]
    rw [BitVec.toInt_eq_toNat_cond] at h0 h1 ⊢
    split at h0 <;> split <;> omega
  have hn : c.toBitVec.toNat < 65536 := by omega
  have a1 := lo8_and c
  have a2 : (hi8 c &&& 255).toBitVec.toNat = c.toBitVec.toNat / 256 := by
    rw [hi8, lo8_and]
    have e : ((8 : Int32) &&& 31) = 8 := by decide
    rw [e, Int32.toBitVec_shiftRight]
    have e2 : ((8 : Int32).toBitVec.smod 32) = 8#32 := by decide
    rw [e2, BitVec.sshiftRight_eq', BitVec.toNat_sshiftRight_of_msb_false (by rw [BitVec.msb_eq_false_iff_two_mul_lt]; omega)]
    show c.toBitVec.toNat >>> 8 % 256 = _
    rw [Nat.shiftRight_eq_div_pow]
    omega
  unfold pairCh
  apply Int32.toBitVec_inj.mp
  apply BitVec.eq_of_toNat_eq
  have f0 : ((0 : Int32) &&& 31) = 0 := by decide
  have f8 : ((8 : Int32) &&& 31) = 8 := by decide
  rw [f0, f8]
  have g : (((lo8 c &&& 255) <<< (0 : Int32)) ||| ((hi8 c &&& 255) <<< (8 : Int32))).toBitVec.toNat = c.toBitVec.toNat := by
    rw [Int32.toBitVec_or, Int32.toBitVec_shiftLeft, Int32.toBitVec_shiftLeft]
    have s0 : ((0 : Int32).toBitVec.smod 32) = 0#32 := by decide
    have s8 : ((8 : Int32).toBitVec.smod 32) = 8#32 := by decide
    rw [s0, s8, BitVec.toNat_or]
    simp only [BitVec.shiftLeft_eq', BitVec.toNat_shiftLeft, a1, a2]
    show (c.toBitVec.toNat % 256) <<< 0 % 2 ^ 32 ||| (c.toBitVec.toNat / 256) <<< 8 % 2 ^ 32 = _
    rw [Nat.shiftLeft_zero, Nat.mod_eq_of_lt (show c.toBitVec.toNat % 256 < 2 ^ 32 by omega), Nat.mod_eq_of_lt (show (c.toBitVec.toNat / 256) <<< 8 < 2 ^ 32 by rw [Nat.shiftLeft_eq]; omega), Nat.or_comm, ← Nat.shiftLeft_add_eq_or_of_lt (by omega), Nat.shiftLeft_eq]
    omega
  show BitVec.toNat (((((lo8 c &&& 255) <<< (0 : Int32)) ||| ((hi8 c &&& 255) <<< (8 : Int32))).toBitVec.setWidth 16).setWidth 32) = _
  rw [BitVec.toNat_setWidth, BitVec.toNat_setWidth, g]
  omega
end StrChars
namespace StrChars
open Jvm Sem ClassFile Op Lib Jvm.Stand Jvm.Free.XT Jvm.Free.ALB Jvm.Free.JM Jvm.Free
open Jvm.Lib.Cold (StaticIs)
/-- charAt's cast of a byte read back -/
def chr8 (u : Int32) : Int32 := (u &&& 255).toUInt32.toUInt16.toUInt32.toInt32
theorem chr8_lo8 {c : Int32} (h0 : ¬ c < 0) (h1 : ¬ 255 < c) : chr8 (lo8 c) = c := by
  have t : ∀ k : Fin 256, (Int32.ofNat k.val).toUInt32.toUInt16.toUInt32.toInt32 = Int32.ofNat k.val := by decide +kernel
  unfold chr8
  rw [lo8_mask h0 h1]
  rw [Int32.lt_iff_toInt_lt] at h0 h1
  have e0 : (0 : Int32).toInt = 0 := rfl
  have e1 : (255 : Int32).toInt = 255 := rfl
  obtain ⟨k, hk⟩ : ∃ k : Nat, c.toInt = k := ⟨c.toInt.toNat, by omega⟩
  have hx : c = Int32.ofNat k := Int32.toInt_inj.mp (by rw [hk, Int32.toInt_ofNat_small (by omega)])
  rw [hx]
  exact t ⟨k, by omega⟩
theorem narrow_ch {c : Int32} (h0 : ¬ c < 0) (h1 : ¬ 65535 < c) : narrow .char (.int c) = .int c := by
  have q : narrow .char (.int (pairCh (lo8 c) (hi8 c))) = .int (pairCh (lo8 c) (hi8 c)) := narrow_c _
  rwa [pair_says h0 h1] at q
/-- the array's cell V codes the n chars f 0 .. f (n - 1) by the coder cd, as the JDK does: coder 1 just where some char is above 255 -/
def Cod (cd : Int32) (n : Nat) (f : Nat → Int32) (V : Cell) : Prop := (cd = 0 ∧ V.slots.size = n ∧ ∀ j, j < n → V.slots[j]? = some (.int (lo8 (f j))) ∧ ¬ 255 < f j) ∨ (cd = 1 ∧ V.slots.size = 2 * n ∧ (∀ j, j < n → V.slots[2 * j]? = some (.int (lo8 (f j))) ∧ V.slots[2 * j + 1]? = some (.int (hi8 (f j)))) ∧ ∃ j, j < n ∧ 255 < f j)
theorem Cod.cd {cd : Int32} {n : Nat} {f : Nat → Int32} {V : Cell} (h : Cod cd n f V) : cd = 0 ∨ cd = 1 := h.imp (fun q => q.1) fun q => q.1
/-- **x is a String of the n chars f 0 .. f (n - 1)**, Latin-1 or UTF-16; its array at t has the cell V -/
def Txt (x t : Addr) (V : Cell) (cd : Int32) (n : Nat) (f : Nat → Int32) (U : State) : Prop := Exact "java/lang/String" x U ∧ Has x "java/lang/String" "value" "[B" (.ref t) U ∧ Has x "java/lang/String" "coder" "B" (.int cd) U ∧ XT.Arr .byte t V U ∧ Cod cd n f V ∧ ∀ j, j < n → ¬ f j < 0 ∧ ¬ 65535 < f j
theorem Txt.mv {x t : Addr} {V : Cell} {cd : Int32} {n : Nat} {f : Nat → Int32} {U U' : State} (h : Txt x t V cd n f U) (hal : U.vm.Alike U'.vm) (hh : U'.heap = U.heap) : Txt x t V cd n f U' := ⟨h.1.mv hal hh, h.2.1.mv hal hh, h.2.2.1.mv hal hh, h.2.2.2.1.mv hal hh, h.2.2.2.2⟩
namespace IsL
def yN : MethodName := ⟨"java/lang/String", "isLatin1", "()Z"⟩
abbrev yB : ByteArray := jdk_42_method_154_code
theorem d0 : decode yB 0 = .ok (.getstatic 38, 3) := by decide +kernel
theorem d3 : decode yB 3 = .ok (.ifCond (.eq) 14, 3) := by decide +kernel
theorem d6 : decode yB 6 = .ok (.aload_n 0, 1) := by decide +kernel
theorem d7 : decode yB 7 = .ok (.getfield 15, 3) := by decide +kernel
theorem d10 : decode yB 10 = .ok (.ifCond (.ne) 7, 3) := by decide +kernel
theorem d13 : decode yB 13 = .ok (.iconst 1, 1) := by decide +kernel
theorem d14 : decode yB 14 = .ok (.goto 4, 3) := by decide +kernel
theorem d17 : decode yB 17 = .ok (.iconst 0, 1) := by decide +kernel
theorem d18 : decode yB 18 = .ok (.ireturn, 1) := by decide +kernel
def site : List Cond := [.fieldLink "java/lang/String" 38 "java/lang/String" "COMPACT_STRINGS" "Z", .fieldLink "java/lang/String" 15 "java/lang/String" "coder" "B"]
def tab : Cond := tabOf yN yB 1 (some .boolean) site
def P (x : Addr) (cd z : Int32) (args : Array Value) (s : State) : Prop := args = #[.ref x] ∧ Has x "java/lang/String" "coder" "B" (.int cd) s ∧ (cd = 0 ∨ cd = 1) ∧ StaticIs s "java/lang/String" "COMPACT_STRINGS" "Z" (.int z) ∧ ¬ z = 0
def E (cd : Int32) (r : Option Value) (s u : State) : Prop := XT.PureE (some (.int (1 - cd))) r s u
theorem law (l : Launch) (x : Addr) (cd z : Int32) : Law l yN 1 0 0 0 yB 1 (some .boolean) site (P x cd z) (E cd) [] 0 0 := by
  refine Law.of_walk (plainFor_of_name (by decide +kernel)) (by decide +kernel) (by decide +kernel) (by decide) (fun _ _ h => by rw [h.1]; rfl) (fun _ U U' hal hh h => ⟨h.1, h.2.1.mv hal hh, h.2.2.1, h.2.2.2.1.there hal hh, h.2.2.2.2⟩) (fun r U U' V V' h1 hal h2 h => XT.PureE.mv r U U' V V' h1 hal h2 h) ?_
  intro p e s m args below meth c s₁ X0 hexec hbytes hml hret hlk hnm hown hh0 W hP
  obtain ⟨rfl, hx, hc, s1, hz⟩ := hP
  have c1 : Steps p.tables e below (s₁.setTop (entryFrame m #[.ref x] 1)) (s₁.setTop (mkF m 0 #[.val (.ref x)] [])) := entry rfl
  obtain ⟨T2, X2, q2, st2⟩ := X0.sget hexec hown (wk W (.fieldLink "java/lang/String" 38 "java/lang/String" "COMPACT_STRINGS" "Z")) s1 (fun _ _ h => by rw [hh0]; exact h) (g := (mkF m 0 #[.val (.ref x)] [])) rfl (hb hbytes d0)
  have hh2 := q2.trans hh0
  have c3 : Steps p.tables e below (s₁.setTop (entryFrame m #[.ref x] 1)) (T2.setTop (mkF m 7 #[.val (.ref x)] [.ref x])) := (c1.trans (st2 _ (Steps.refl _))).trans (by
    refine XS.ifNo X2.here hexec rfl (hb hbytes d3) rfl (i0_eq_f hz) ?_
    refine XS.aloadN X2.here hexec rfl (hb hbytes d6) rfl rfl ?_
    exact Steps.refl _)
  obtain ⟨T4, X4, q4, st4⟩ := X2.hget hexec hown (wk W (.fieldLink "java/lang/String" 15 "java/lang/String" "coder" "B")) (hx.mv X2.warmed.alike hh2) (g := (mkF m 7 #[.val (.ref x)] [.ref x])) rfl (rest := []) rfl (hb hbytes d7)
  have c5 : Steps p.tables e below (s₁.setTop (entryFrame m #[.ref x] 1)) (T4.setTop (mkF m 10 #[.val (.ref x)] [.int cd])) := c3.trans (st4 _ (Steps.refl _))
  have c6 : Steps p.tables e below (s₁.setTop (entryFrame m #[.ref x] 1)) (T4.setTop (mkF m 18 #[.val (.ref x)] [.int (1 - cd)])) := by
    rcases hc with rfl | rfl
    · exact c5.trans (by
        refine XS.ifNo X4.here hexec rfl (hb hbytes d10) rfl (i0_ne_f rfl) ?_
        refine iconstV X4.here hexec rfl 1 (hb hbytes d13) (by decide) ?_
        refine XS.goto X4.here hexec rfl (pc0 := 14) rfl (hb hbytes d14) (by decide) rfl ?_
        exact Steps.refl _)
    · exact c5.trans (by
        refine XS.ifYes X4.here hexec rfl (pc0 := 10) rfl (hb hbytes d10) rfl (i0_ne_t (by decide)) (by decide) rfl ?_
        refine iconstV X4.here hexec rfl 0 (hb hbytes d17) (by decide) ?_
        exact Steps.refl _)
  exact ⟨T4, some (.int (1 - cd)), _, _, _, X4, rfl, rfl, rfl, (fun h => by cases h), ⟨rfl, q4.trans hh2⟩, fun fs hl => c6.trans (X4.ireturnOut hexec hret (by rcases hc with rfl | rfl <;> rfl) (Or.inr (Or.inl rfl)) (hb hbytes d18) hl)⟩
end IsL
namespace LChA
def yN : MethodName := ⟨"java/lang/StringLatin1", "charAt", "([BI)C"⟩
abbrev yB : ByteArray := jdk_43_method_2_code
theorem d0 : decode yB 0 = .ok (.iload_n 1, 1) := by decide +kernel
theorem d1 : decode yB 1 = .ok (.aload_n 0, 1) := by decide +kernel
theorem d2 : decode yB 2 = .ok (.arraylength, 1) := by decide +kernel
theorem d3 : decode yB 3 = .ok (.invokestatic 9, 3) := by decide +kernel
theorem d6 : decode yB 6 = .ok (.aload_n 0, 1) := by decide +kernel
theorem d7 : decode yB 7 = .ok (.iload_n 1, 1) := by decide +kernel
theorem d8 : decode yB 8 = .ok (.baload, 1) := by decide +kernel
theorem d9 : decode yB 9 = .ok (.sipush 255, 3) := by decide +kernel
theorem d12 : decode yB 12 = .ok (.iand, 1) := by decide +kernel
theorem d13 : decode yB 13 = .ok (.i2c, 1) := by decide +kernel
theorem d14 : decode yB 14 = .ok (.ireturn, 1) := by decide +kernel
def site : List Cond := [JO.Str_checkIndex.tab] ++ staticW "java/lang/StringLatin1" 9 JO.Str_checkIndex.yN
def tab : Cond := tabOf yN yB 2 (some .char) site
def P (t : Addr) (V : Cell) (i : Nat) (u : Int32) (fm : Value) (args : Array Value) (s : State) : Prop := args = #[.ref t, .int (Int32.ofNat i)] ∧ XT.Arr .byte t V s ∧ V.slots[i]? = some (.int u) ∧ (StaticIs s "jdk/internal/util/Preconditions" "SIOOBE_FORMATTER" "Ljava/util/function/BiFunction;" fm ∧ fm.isRef = true)
def E (u : Int32) (r : Option Value) (s w : State) : Prop := XT.PureE (some (.int (chr8 u))) r s w
theorem law (l : Launch) (t : Addr) (V : Cell) (i : Nat) (u : Int32) (fm : Value) : Law l yN 2 2 2 27 yB 2 (some .char) site (P t V i u fm) (E u) [] 0 0 := by
  refine Law.of_walk (plainFor_of_name (by decide +kernel)) (by decide +kernel) (by decide +kernel) (by decide) (fun _ _ h => by rw [h.1]; rfl) (fun _ U U' hal hh h => ⟨h.1, h.2.1.mv hal hh, h.2.2.1, h.2.2.2.1.there hal hh, h.2.2.2.2⟩) (fun r U U' V V' h1 hal h2 h => XT.PureE.mv r U U' V V' h1 hal h2 h) ?_
  intro p e s m args below meth c s₁ X0 hexec hbytes hml hret hlk hnm hown hh0 W hP
  obtain ⟨rfl, hV, hu, s1, rf⟩ := hP
  have v31 := hV.2.2.2
  have hi : i < V.slots.size := (Array.getElem?_eq_some_iff.mp hu).1
  have c1 : Steps p.tables e below (s₁.setTop (entryFrame m #[.ref t, .int (Int32.ofNat i)] 2)) (s₁.setTop (mkF m 0 #[.val (.ref t), .val (.int (Int32.ofNat i))] [])) := entry rfl
  have c2 : Steps p.tables e below (s₁.setTop (entryFrame m #[.ref t, .int (Int32.ofNat i)] 2)) (s₁.setTop (mkF m 3 #[.val (.ref t), .val (.int (Int32.ofNat i))] [.int (Int32.ofNat V.slots.size), .int (Int32.ofNat i)])) := c1.trans (by
    refine XS.iloadN X0.here hexec rfl (hb hbytes d0) rfl ?_
    refine XS.aloadN X0.here hexec rfl (hb hbytes d1) rfl rfl ?_
    refine X0.alen hexec (hV.mv X0.warmed.alike hh0) rfl rfl (hb hbytes d2) ?_
    exact Steps.refl _)
  obtain ⟨v3, T3, X3, E3, g3⟩ := X0.callS hexec (JO.Str_checkIndex.law l (Int32.ofNat i) (Int32.ofNat V.slots.size) fm) hown (wks W (staticW "java/lang/StringLatin1" 9 JO.Str_checkIndex.yN)) (wk W JO.Str_checkIndex.tab) (W := 0) (Nat.le_of_ble_eq_true rfl) (Nat.le_of_ble_eq_true rfl) (Nat.le_refl _) (Nat.le_refl _) (g := (mkF m 3 #[.val (.ref t), .val (.int (Int32.ofNat i))] [.int (Int32.ofNat V.slots.size), .int (Int32.ofNat i)])) rfl (by rw [hml]; rfl) c2 (argsL := [.int (Int32.ofNat i), .int (Int32.ofNat V.slots.size)]) (rest := []) rfl rfl (by show 2 * 0 + 0 ≤ _; decide) (hb hbytes d3) (⟨rfl, rf, s1.there X0.warmed.alike hh0, Int32.ofNat_not_neg (by omega), lt32 v31 hi⟩)
  obtain ⟨rfl, q3⟩ := E3
  have hh3 := q3.trans hh0
  have c4 : Steps p.tables e below (s₁.setTop (entryFrame m #[.ref t, .int (Int32.ofNat i)] 2)) (T3.setTop (mkF m 14 #[.val (.ref t), .val (.int (Int32.ofNat i))] [.int (chr8 u)])) := Steps.trans g3 (by
    refine XS.aloadN X3.here hexec rfl (hb hbytes d6) rfl rfl ?_
    refine XS.iloadN X3.here hexec rfl (hb hbytes d7) rfl ?_
    refine X3.aget hexec (hV.mv X3.warmed.alike hh3) rfl hu rfl rfl (hb hbytes d8) ?_
    refine sipushV X3.here hexec rfl 255 (hb hbytes d9) (by decide) ?_
    refine XS.iand X3.here hexec rfl (hb hbytes d12) rfl ?_
    refine i2c X3.here hexec rfl (hb hbytes d13) rfl ?_
    exact Steps.refl _)
  exact ⟨T3, some (.int (chr8 u)), _, _, _, X3, rfl, rfl, rfl, (fun h => by cases h), ⟨rfl, hh3⟩, fun fs hl => c4.trans (X3.ireturnOut hexec hret (narrow_c _) (Or.inr (Or.inr (Or.inr (Or.inl rfl)))) (hb hbytes d14) hl)⟩
end LChA
end StrChars
namespace StrChars.Road
open Jvm Sem ClassFile Op Lib Jvm.Stand Jvm.Free Jvm.Free.XT
open Jvm.Lib.Cold (StaticIs)
theorem consq {a : Array Value} {s : State} {c : Jvm.Cond} {L : List Jvm.Cond} (h0 : c.before a s = true) (h : ∀ w ∈ L, w.before a s = true) : ∀ w ∈ c :: L, w.before a s = true := fun w hw => (List.mem_cons.mp hw).elim (fun e => e ▸ h0) (h w)
/-- the bytes of the chars cs, low before high -/
def wideBytes : List Int32 → List Value
  | [] => []
  | c :: cs => .int (lo8 c) :: .int (hi8 c) :: wideBytes cs
theorem wide_lo (d : Value) : ∀ (cs : List Int32) (j : Nat), j < cs.length → (wideBytes cs).getD (2 * j) d = .int (lo8 (cs.getD j 0))
  | [], j, h => absurd h (Nat.not_lt_zero j)
  | c :: cs, 0, _ => rfl
  | c :: cs, j + 1, h => by
    have q := wide_lo d cs j (by simpa using h)
    rw [show 2 * (j + 1) = 2 * j + 1 + 1 from by omega]
    simpa [wideBytes] using q
theorem wide_hi (d : Value) : ∀ (cs : List Int32) (j : Nat), j < cs.length → (wideBytes cs).getD (2 * j + 1) d = .int (hi8 (cs.getD j 0))
  | [], j, h => absurd h (Nat.not_lt_zero j)
  | c :: cs, 0, _ => rfl
  | c :: cs, j + 1, h => by
    have q := wide_hi d cs j (by simpa using h)
    rw [show 2 * (j + 1) + 1 = 2 * j + 1 + 1 + 1 from by omega]
    simpa [wideBytes] using q
theorem low_at (d : Value) (cs : List Int32) (j : Nat) (h : j < cs.length) : (cs.map fun c => Value.int (lo8 c)).getD j d = .int (lo8 (cs.getD j 0)) := by
  simp [List.getD_eq_getElem?_getD, h]
/-- an array of N2 bytes vs codes the chars cs by the coder cd -/
def CodA (cs : List Int32) (cd N2 : Int32) (vs : List Value) : Prop := (cd = 0 ∧ N2 = Int32.ofNat cs.length ∧ vs = (cs.map fun c => Value.int (lo8 c)) ∧ ∀ c ∈ cs, ¬ 255 < c) ∨ (cd = 1 ∧ N2 = Int32.ofNat (2 * cs.length) ∧ vs = wideBytes cs ∧ ∃ c ∈ cs, 255 < c)
theorem CodA.cod {cs : List Int32} {cd N2 : Int32} {vs : List Value} {V : Cell} (h : CodA cs cd N2 vs) (hn : 2 * cs.length < 2 ^ 31) (hs : V.slots.size = N2.toNatClampNeg) (hv : RoadKit.Has V vs (.int 0)) : Cod cd cs.length (fun j => cs.getD j 0) V := by
  rcases h with ⟨rfl, rfl, rfl, h⟩ | ⟨rfl, rfl, rfl, c, hc, hw⟩
  · rw [n32 (by omega)] at hs
    exact Or.inl ⟨rfl, hs, fun j hj => ⟨by rw [hv j (by omega), low_at _ _ _ hj], by
      have e : cs.getD j 0 = cs[j] := by simp [List.getD_eq_getElem?_getD, hj]
      show ¬ 255 < cs.getD j 0
      rw [e]; exact h _ (List.getElem_mem _)⟩⟩
  · rw [n32 (by omega)] at hs
    obtain ⟨j, hj, rfl⟩ := List.getElem_of_mem hc
    exact Or.inr ⟨rfl, hs, fun j hj => ⟨by rw [hv _ (by omega), wide_lo _ _ _ hj], by rw [hv _ (by omega), wide_hi _ _ _ hj]⟩, j, hj, by
      have e : cs.getD j 0 = cs[j] := by simp [List.getD_eq_getElem?_getD, hj]
      show 255 < cs.getD j 0
      rw [e]; exact hw⟩
/-- an object of exactly java/lang/String, its two fields found: as the laws ask it -/
theorem strObj {Z U : State} {a0 : Array Value} {kI : Nat} (wi : (Jvm.Cond.instantiable ST kI).before a0 Z = true) (al : Z.vm.Alike U.vm) {x : Addr} {v0 c0 : Value} (E : RoadKit.Exa Z U.heap x ST) (V : RoadKit.Fld Z U.heap x ST "value" "[B" v0) (C : RoadKit.Fld Z U.heap x ST "coder" "B" c0) :
    ∃ (D : Cell) (fV fC : Field), Blank ST x D U ∧ Found ST "value" "[B" fV U ∧ Found ST "coder" "B" fC U ∧ D.slots[fV.slot]? = some v0 ∧ D.slots[fC.slot]? = some c0 ∧ RoadKit.slotOf Z ST "value" "[B" = fV.slot ∧ RoadKit.slotOf Z ST "coder" "B" = fC.slot := by
  obtain ⟨D, cfV, kV, iV, fV, hD, gV, stV, knV, obV, asV, slV⟩ := V
  obtain ⟨D', cfC, kC, iC, fC, hD', gC, stC, -, -, asC, slC⟩ := C
  cases hD.symm.trans hD'
  obtain ⟨D2, kD, e1, e2, e3, e4, e5⟩ := E
  cases hD.symm.trans e1
  obtain ⟨c2, k2, i1, i2, i3, -⟩ := Cond.instantiable_spec wi
  cases e2.symm.trans i1
  cases e3.symm.trans i2
  obtain ⟨kU, u1, u2⟩ := al.2.2 _ _ e3
  exact ⟨D, fV, fC, ⟨hD, ⟨knV, fun q hq => by rw [hq] at obV; cases obV⟩, by rw [al.findClass]; exact e2, kU, u1, by rw [u2]; exact i3, by rw [u2]; exact e5 i3⟩, ⟨SBG.found_only al ⟨cfV, kV, iV, gV⟩, stV⟩, ⟨SBG.found_only al ⟨cfC, kC, iC, gC⟩, stC⟩, slV, slC, by simp [RoadKit.slotOf, gV], by simp [RoadKit.slotOf, gC]⟩
theorem sta_is {Z U : State} (al : Z.vm.Alike U.vm) {C n d : String} {v : Value} (S : RoadKit.Sta Z U.heap C n d v) : StaticIs U C n d v := by
  obtain ⟨cfS, iS, kS, fS, st, cS, t1, t2, t3, t4, t5, t6, t7⟩ := S
  exact StaticIs.there (s := { Z with heap := U.heap }) ⟨cfS, iS, kS, fS, st, cS, t1, t2, t3, t4, t5, (fun q => by rw [q] at t6; cases t6), t7⟩ al rfl
end StrChars.Road
namespace StrChars.Road
open Jvm Sem ClassFile Op Lib Jvm.Stand Jvm.Free Jvm.Free.XT
open Jvm.Lib.Cold (StaticIs)
/-- the road's facts of a String, as the laws ask it -/
theorem txt_of {Z U : State} {a0 : Array Value} {kI : Nat} (wi : (Jvm.Cond.instantiable ST kI).before a0 Z = true) (al : Z.vm.Alike U.vm) {x t : Addr} {kb : ClassId} {cs : List Int32} {cd N2 : Int32} {vs : List Value} (E : RoadKit.Exa Z U.heap x ST) (V : RoadKit.Fld Z U.heap x ST "value" "[B" (.ref t)) (C : RoadKit.Fld Z U.heap x ST "coder" "B" (.int cd)) (K : RoadKit.Arv Z U.heap t kb .byte N2 vs (.int 0)) (hc : CodA cs cd N2 vs) (hb : ∀ c ∈ cs, ¬ c < 0 ∧ ¬ (65535 : Int32) < c) (l2 : cs.length ≤ 4000) :
    ∃ A, Txt x t A cd cs.length (fun j => cs.getD j 0) U := by
  obtain ⟨A, K1, K2, K3, K4, K5, K6⟩ := K
  have hcod := hc.cod (by omega) K3 K5
  obtain ⟨D, fV, fC, hB, F1, F2, g1, g2, -, -⟩ := strObj wi al E V C
  exact ⟨A, ⟨_, hB.2.2.1, D, hB.1, rfl, by cases q : D.vm <;> first | rfl | exact absurd q (hB.2.1.2 _)⟩, Has.of hB F1 g1, Has.of hB F2 g2, ⟨K1.1, State.isArrayOf_alike al K1.2.1, K1.2.2, by rcases hcod with ⟨-, q, -⟩ | ⟨-, q, -⟩ <;> omega⟩, hcod, fun j hj => by
    have e : cs.getD j 0 = cs[j] := by simp [List.getD_eq_getElem?_getD, hj]
    show ¬ cs.getD j 0 < 0 ∧ ¬ 65535 < cs.getD j 0
    rw [e]; exact hb _ (List.getElem_mem _)⟩
end StrChars.Road
namespace StrChars
open Jvm Sem ClassFile Op Lib Jvm.Stand Jvm.Free.XT Jvm.Free.ALB Jvm.Free.JM Jvm.Free
open Jvm.Lib.Cold (StaticIs)
namespace ChN
def yN : MethodName := ⟨"java/lang/String", "charAt", "(I)C"⟩
abbrev yB : ByteArray := jdk_42_method_56_code
theorem d0 : decode yB 0 = .ok (.aload_n 0, 1) := by decide +kernel
theorem d1 : decode yB 1 = .ok (.invokevirtual 492, 3) := by decide +kernel
theorem d4 : decode yB 4 = .ok (.ifCond (.eq) 12, 3) := by decide +kernel
theorem d7 : decode yB 7 = .ok (.aload_n 0, 1) := by decide +kernel
theorem d8 : decode yB 8 = .ok (.getfield 9, 3) := by decide +kernel
theorem d11 : decode yB 11 = .ok (.iload_n 1, 1) := by decide +kernel
theorem d12 : decode yB 12 = .ok (.invokestatic 495, 3) := by decide +kernel
theorem d15 : decode yB 15 = .ok (.ireturn, 1) := by decide +kernel
def site : List Cond := [.fieldLink "java/lang/String" 9 "java/lang/String" "value" "[B", IsL.tab, LChA.tab] ++ virtW "java/lang/String" 492 "java/lang/String" IsL.yN IsL.yN ++ staticW "java/lang/String" 495 LChA.yN
def tab : Cond := tabOf yN yB 2 (some .char) site
def P (x t : Addr) (V : Cell) (n : Nat) (f : Nat → Int32) (z : Int32) (fm : Value) (i : Nat) (args : Array Value) (s : State) : Prop := args = #[.ref x, .int (Int32.ofNat i)] ∧ Txt x t V 0 n f s ∧ i < n ∧ StaticIs s "java/lang/String" "COMPACT_STRINGS" "Z" (.int z) ∧ ¬ z = 0 ∧ StaticIs s "jdk/internal/util/Preconditions" "SIOOBE_FORMATTER" "Ljava/util/function/BiFunction;" fm ∧ fm.isRef = true
def E (f : Nat → Int32) (i : Nat) (r : Option Value) (s u : State) : Prop := XT.PureE (some (.int (f i))) r s u
/-- charAt(i) of a Latin-1 String of n chars, i < n: f i -/
theorem law (l : Launch) (x t : Addr) (V : Cell) (n : Nat) (f : Nat → Int32) (z : Int32) (fm : Value) (i : Nat) : Law l yN 2 1 3 40 yB 2 (some .char) site (P x t V n f z fm i) (E f i) [] 0 0 := by
  refine Law.of_walk (plainFor_of_name (by decide +kernel)) (by decide +kernel) (by decide +kernel) (by decide) (fun _ _ h => by rw [h.1]; rfl) (fun _ U U' hal hh h => ⟨h.1, h.2.1.mv hal hh, h.2.2.1, h.2.2.2.1.there hal hh, h.2.2.2.2.1, h.2.2.2.2.2.1.there hal hh, h.2.2.2.2.2.2⟩) (fun r U U' V V' h1 hal h2 h => XT.PureE.mv r U U' V V' h1 hal h2 h) ?_
  intro p e s m args below meth c s₁ X0 hexec hbytes hml hret hlk hnm hown hh0 W hP
  obtain ⟨rfl, hx, hi, s1, hz, s3, rf⟩ := hP
  have v31 := hx.2.2.2.1.2.2.2
  have hr := hx.2.2.2.2.2 i hi
  have hx0 := hx.mv X0.warmed.alike hh0
  have c1 : Steps p.tables e below (s₁.setTop (entryFrame m #[.ref x, .int (Int32.ofNat i)] 2)) (s₁.setTop (mkF m 1 #[.val (.ref x), .val (.int (Int32.ofNat i))] [.ref x])) := Steps.trans (entry rfl) (by
    show Steps p.tables e below (s₁.setTop (mkF m 0 #[.val (.ref x), .val (.int (Int32.ofNat i))] [])) _
    refine XS.aloadN X0.here hexec rfl (hb hbytes d0) rfl rfl ?_
    exact Steps.refl _)
  obtain ⟨v2, T2, X2, E2, g2⟩ := X0.callV hexec (IsL.law l x 0 z) hown (wks W (virtW "java/lang/String" 492 "java/lang/String" IsL.yN IsL.yN)) rfl (by decide) (wk W IsL.tab) (W := 0) (Nat.le_of_ble_eq_true rfl) (Nat.le_of_ble_eq_true rfl) (Nat.le_refl _) (Nat.le_refl _) (hx0.1.fc X0.warmed.alike) hx0.1.is (g := (mkF m 1 #[.val (.ref x), .val (.int (Int32.ofNat i))] [.ref x])) rfl (by rw [hml]; rfl) c1 (argsL := []) (rest := []) rfl rfl (by show 2 * 0 + 0 ≤ _; decide) (hb hbytes d1) (⟨rfl, hx0.2.2.1, hx.2.2.2.2.1.cd, s1.there X0.warmed.alike hh0, hz⟩)
  obtain ⟨rfl, q2⟩ := E2
  have hh2 := q2.trans hh0
  have hx2 := hx.mv X2.warmed.alike hh2
  obtain ⟨-, k1, k2⟩ | ⟨k0, -⟩ := hx.2.2.2.2.1
  · have c3 : Steps p.tables e below (s₁.setTop (entryFrame m #[.ref x, .int (Int32.ofNat i)] 2)) (T2.setTop (mkF m 8 #[.val (.ref x), .val (.int (Int32.ofNat i))] [.ref x])) := Steps.trans g2 (by
      refine XS.ifNo X2.here hexec rfl (hb hbytes d4) rfl (i0_eq_f (by decide)) ?_
      refine XS.aloadN X2.here hexec rfl (hb hbytes d7) rfl rfl ?_
      exact Steps.refl _)
    obtain ⟨T4, X4, q4, st4⟩ := X2.hget hexec hown (wk W (.fieldLink "java/lang/String" 9 "java/lang/String" "value" "[B")) hx2.2.1 (g := (mkF m 8 #[.val (.ref x), .val (.int (Int32.ofNat i))] [.ref x])) rfl (rest := []) rfl (hb hbytes d8)
    have hh4 := q4.trans hh2
    have c5 : Steps p.tables e below (s₁.setTop (entryFrame m #[.ref x, .int (Int32.ofNat i)] 2)) (T4.setTop (mkF m 12 #[.val (.ref x), .val (.int (Int32.ofNat i))] [.int (Int32.ofNat i), .ref t])) := (c3.trans (st4 _ (Steps.refl _))).trans (by
      refine XS.iloadN X4.here hexec rfl (hb hbytes d11) rfl ?_
      exact Steps.refl _)
    obtain ⟨v6, T6, X6, E6, g6⟩ := X4.callS hexec (LChA.law l t V i (lo8 (f i)) fm) hown (wks W (staticW "java/lang/String" 495 LChA.yN)) (wk W LChA.tab) (W := 0) (Nat.le_of_ble_eq_true rfl) (Nat.le_of_ble_eq_true rfl) (Nat.le_refl _) (Nat.le_refl _) (g := (mkF m 12 #[.val (.ref x), .val (.int (Int32.ofNat i))] [.int (Int32.ofNat i), .ref t])) rfl (by rw [hml]; rfl) c5 (argsL := [.ref t, .int (Int32.ofNat i)]) (rest := []) rfl rfl (by show 2 * 0 + 0 ≤ _; decide) (hb hbytes d12) (⟨rfl, hx.2.2.2.1.mv X4.warmed.alike hh4, (k2 i hi).1, s3.there X4.warmed.alike hh4, rf⟩)
    obtain ⟨rfl, q6⟩ := E6
    rw [chr8_lo8 hr.1 (k2 i hi).2] at g6
    exact ⟨T6, some (.int (f i)), _, _, _, X6, rfl, rfl, rfl, (fun h => by cases h), ⟨rfl, q6.trans hh4⟩, fun fs hl => Steps.trans g6 (X6.ireturnOut hexec hret (narrow_ch hr.1 hr.2) (Or.inr (Or.inr (Or.inr (Or.inl rfl)))) (hb hbytes d15) hl)⟩
  · exact absurd k0 (by decide)
theorem pays {l : Launch} {R : Room} {p : Program} {e : Env} {below : List Frame} {s : State} {sargs : Array Value} {len W : Nat} (x t : Addr) (V : Cell) (n : Nat) (f : Nat → Int32) (z : Int32) (fm : Value) (i : Nat) (htab : tab.before sargs s = true) (hfr : 4 ≤ R.frames) (hlo : W + 53 ≤ R.locals) :
    Back l R p e below s sargs yN len W (fun A₁ a₁ => A₁.cells + 0 ≤ R.cells ∧ A₁.slots + 0 ≤ R.slots ∧ P x t V n f z fm i a₁ A₁.U) (fun A₁ _ v₁ B₁ => E f i v₁ A₁.U B₁.U ∧ B₁.locs = A₁.locs ++ [] ∧ B₁.cells = A₁.cells + 0 ∧ B₁.slots = A₁.slots + 0) :=
  (law l x t V n f z fm i).pays htab hfr (by omega)
end ChN
end StrChars
namespace StrChars.Road
open Jvm Sem ClassFile Op Lib Jvm.Stand Jvm.Free Jvm.Free.XT
open Jvm.Lib.Cold (StaticIs)
/-- the words of String.charAt(int), the Latin-1 road alone -/
abbrev wordsChN : List Jvm.Cond := [.code ChN.yN ChN.yB 2 (some .char), .initialized ST, .fieldLink ST 9 ST "value" "[B", .fieldLink ST 38 ST "COMPACT_STRINGS" "Z", .fieldLink ST 15 ST "coder" "B", .code IsL.yN IsL.yB 1 (some .boolean), .methodLink ST 492 IsL.yN, .declares IsL.yN, .selects ST IsL.yN IsL.yN, .instanceMethod IsL.yN,
  .methodLink ST 495 LChA.yN, .static LChA.yN, .code LChA.yN LChA.yB 2 (some .char), .initialized "java/lang/StringLatin1", .methodLink "java/lang/StringLatin1" 9 JO.Str_checkIndex.yN, .static JO.Str_checkIndex.yN, .code JO.Str_checkIndex.yN JO.Str_checkIndex.yB 2 none,
  .fieldLink ST 1053 "jdk/internal/util/Preconditions" "SIOOBE_FORMATTER" "Ljava/util/function/BiFunction;", .methodLink ST 1059 JC.PreCheck.yN, .static JC.PreCheck.yN, .code JC.PreCheck.yN JC.PreCheck.yB 3 (some .int), .initialized "jdk/internal/util/Preconditions"]
theorem tabChN_of {a : Array Value} {s : State} (h : ∀ w ∈ wordsChN, w.before a s = true) : ChN.tab.before a s = true := by
  have hp : JC.PreCheck.tab.before a s = true := unparts (wk h (.code JC.PreCheck.yN JC.PreCheck.yB 3 (some .int))) (wks h (.initialized JC.PreCheck.yN.cls :: JC.PreCheck.site))
  have qk := consq hp h
  have hk : JO.Str_checkIndex.tab.before a s = true := unparts (wk qk (.code JO.Str_checkIndex.yN JO.Str_checkIndex.yB 2 none)) (wks qk (.initialized JO.Str_checkIndex.yN.cls :: JO.Str_checkIndex.site))
  have ql := consq hk h
  have hl : LChA.tab.before a s = true := unparts (wk ql (.code LChA.yN LChA.yB 2 (some .char))) (wks ql (.initialized LChA.yN.cls :: LChA.site))
  have hi : IsL.tab.before a s = true := unparts (wk h (.code IsL.yN IsL.yB 1 (some .boolean))) (wks h (.initialized IsL.yN.cls :: IsL.site))
  have q := consq hi (consq hl h)
  exact unparts (wk q (.code ChN.yN ChN.yB 2 (some .char))) (wks q (.initialized ChN.yN.cls :: ChN.site))
theorem movedChN {Z s : State} {a0 args : Array Value} (hZ : Z.Warmed39 s.vm) (hw : ∀ d ∈ wordsChN, d.before a0 Z = true) : ∀ d ∈ wordsChN, d.before args s = true := fun d hd => by
  have t : ∀ d ∈ wordsChN, (d.onTables && d.keepsFace) = true := by decide +kernel
  exact RoadKit.mv hZ (hw d hd) (t d hd)
/-- **charAt(i) OF A LATIN-1 STRING**, i < n: the char -/
theorem chN {p : Program} {l : Launch} {e : Env} {R : Room} {s : State} {args : Array Value} {below : List Frame} {len W : Nat} {Z : State} {a0 : Array Value} {h : Heap} (hZ : Z.Warmed39 s.vm) (hw : ∀ d ∈ wordsChN, d.before a0 Z = true) {kI : Nat} (wi : (Jvm.Cond.instantiable ST kI).before a0 Z = true)
    {x t : Addr} {kb : ClassId} {cs : List Int32} {N2 z : Int32} {vs : List Value} {fm : Value} {i : Nat} {j : Int32} (E : RoadKit.Exa Z h x ST) (V : RoadKit.Fld Z h x ST "value" "[B" (.ref t)) (C : RoadKit.Fld Z h x ST "coder" "B" (.int 0)) (K : RoadKit.Arv Z h t kb .byte N2 vs (.int 0)) (hc : CodA cs 0 N2 vs) (hb : ∀ c ∈ cs, ¬ c < 0 ∧ ¬ (65535 : Int32) < c)
    (S : RoadKit.Sta Z h ST "COMPACT_STRINGS" "Z" (.int z)) (hz : ¬ z = 0) (F : RoadKit.Sta Z h "jdk/internal/util/Preconditions" "SIOOBE_FORMATTER" "Ljava/util/function/BiFunction;" fm) (rf : fm.isRef = true) (l2 : cs.length ≤ 4000) (hi : i < cs.length) (hj : j = Int32.ofNat i) (hfr : 4 ≤ R.frames) (hlo : W + 53 ≤ R.locals) :
    Back l R p e below s args (⟨"java/lang/String", "charAt", "(I)C"⟩ : MethodName) len W (fun P a => a = #[.ref x, .int j] ∧ P.U.heap = h ∧ P.cells + 0 ≤ R.cells ∧ P.slots + 0 ≤ R.slots)
      (fun P _ v B => ∃ L, (v = some (.int (cs.getD i 0)) ∧ L = [] ∧ B.U.heap = h) ∧ B.locs = P.locs ++ L ∧ B.cells = P.cells + 0 ∧ B.slots = P.slots + 0) := by
  subst hj
  intro m meth c P g ig mk a X hg hsize hdg hW hn hp'
  obtain ⟨rfl, rfl, r1, r2⟩ := hp'
  have al : Z.vm.Alike P.U.vm := hZ.alike.trans X.warmed.alike
  obtain ⟨A, hx⟩ := txt_of wi al E V C K hc hb l2
  obtain ⟨v, B, X', ⟨⟨hv, hh⟩, hl, hk, hs⟩, st⟩ := ChN.pays x t A cs.length (fun j => cs.getD j 0) z fm i (tabChN_of (movedChN hZ hw)) hfr hlo m meth c P g ig mk _ X hg hsize hdg hW hn ⟨r1, r2, rfl, hx, hi, sta_is al S, hz, sta_is al F, rf⟩
  exact ⟨v, B, X', ⟨[], ⟨hv, rfl, hh⟩, hl, hk, hs⟩, st⟩
/-- what backV says of its String, as the contracts of this text ask it: cs's low bytes, coder 0 -/
theorem codOf {cs : List Int32} {n : Nat} (hn : cs.length = n) (hb : ∀ c ∈ cs, ¬ 255 < c) : CodA cs 0 (Int32.ofNat n) ((cs.map lo8).map Value.int) := Or.inl ⟨rfl, by rw [hn], by simp [List.map_map, Function.comp_def], hb⟩
end StrChars.Road
end Jvm.Pilot.@@N@@

namespace Jvm.Pilot.@@N@@
open Jvm Jvm.ClassFile Sem Op Lib Jvm.Free Jvm.Stand Jvm.LawKit Jvm.RoadKit Bundle Jvm.OwnKit Jvm.Pilot.@@N@@.Jvm.D
theorem b17_0 : Dc jdk_52_method_3_code 0 (.iload_n 0) 1 1 := ⟨by decide +kernel, rfl⟩
theorem b17_1 : Db jdk_52_method_3_code 1 (.ifCond .ge 11) (11) 4 12 := ⟨by decide +kernel, rfl, by decide, by decide⟩
theorem b17_12 : Dc jdk_52_method_3_code 12 (.iload_n 0) 1 13 := ⟨by decide +kernel, rfl⟩
theorem b17_13 : Dc jdk_52_method_3_code 13 (.ldc 20) 2 15 := ⟨by decide +kernel, rfl⟩
theorem b17_15 : Db jdk_52_method_3_code 15 (.if_icmp .lt 40) (40) 18 55 := ⟨by decide +kernel, rfl, by decide, by decide⟩
theorem b17_55 : Dc jdk_52_method_3_code 55 (.iload_n 0) 1 56 := ⟨by decide +kernel, rfl⟩
theorem b17_56 : Dc jdk_52_method_3_code 56 (.iconst 1) 1 57 := ⟨by decide +kernel, rfl⟩
theorem b17_57 : Dc jdk_52_method_3_code 57 (.ishl) 1 58 := ⟨by decide +kernel, rfl⟩
theorem b17_58 : Dc jdk_52_method_3_code 58 (.ireturn) 1 59 := ⟨by decide +kernel, rfl⟩
theorem b16_0 : Dc jdk_52_method_2_code 0 (.iload_n 0) 1 1 := ⟨by decide +kernel, rfl⟩
theorem b16_1 : Dc jdk_52_method_2_code 1 (.invokestatic 11) 3 4 := ⟨by decide +kernel, rfl⟩
theorem b16_4 : Dc jdk_52_method_2_code 4 (.newarray .byte) 2 6 := ⟨by decide +kernel, rfl⟩
theorem b16_6 : Dc jdk_52_method_2_code 6 (.areturn) 1 7 := ⟨by decide +kernel, rfl⟩
theorem b18_0 : Dc jdk_52_method_4_code 0 (.getstatic 44) 3 3 := ⟨by decide +kernel, rfl⟩
theorem b18_3 : Db jdk_52_method_4_code 3 (.ifCond .ne 25) (25) 6 28 := ⟨by decide +kernel, rfl, by decide, by decide⟩
theorem b18_28 : Dc jdk_52_method_4_code 28 (.iload_n 1) 1 29 := ⟨by decide +kernel, rfl⟩
theorem b18_29 : Dc jdk_52_method_4_code 29 (.iconst 1) 1 30 := ⟨by decide +kernel, rfl⟩
theorem b18_30 : Dc jdk_52_method_4_code 30 (.ishl) 1 31 := ⟨by decide +kernel, rfl⟩
theorem b18_31 : Dc jdk_52_method_4_code 31 (.istore_n 1) 1 32 := ⟨by decide +kernel, rfl⟩
theorem b18_32 : Dc jdk_52_method_4_code 32 (.aload_n 0) 1 33 := ⟨by decide +kernel, rfl⟩
theorem b18_33 : Dc jdk_52_method_4_code 33 (.iload_n 1) 1 34 := ⟨by decide +kernel, rfl⟩
theorem b18_34 : Dc jdk_52_method_4_code 34 (.iinc 1 1) 3 37 := ⟨by decide +kernel, rfl⟩
theorem b18_37 : Dc jdk_52_method_4_code 37 (.iload_n 2) 1 38 := ⟨by decide +kernel, rfl⟩
theorem b18_38 : Dc jdk_52_method_4_code 38 (.getstatic 59) 3 41 := ⟨by decide +kernel, rfl⟩
theorem b18_41 : Dc jdk_52_method_4_code 41 (.ishr) 1 42 := ⟨by decide +kernel, rfl⟩
theorem b18_42 : Dc jdk_52_method_4_code 42 (.i2b) 1 43 := ⟨by decide +kernel, rfl⟩
theorem b18_43 : Dc jdk_52_method_4_code 43 (.bastore) 1 44 := ⟨by decide +kernel, rfl⟩
theorem b18_44 : Dc jdk_52_method_4_code 44 (.aload_n 0) 1 45 := ⟨by decide +kernel, rfl⟩
theorem b18_45 : Dc jdk_52_method_4_code 45 (.iload_n 1) 1 46 := ⟨by decide +kernel, rfl⟩
theorem b18_46 : Dc jdk_52_method_4_code 46 (.iload_n 2) 1 47 := ⟨by decide +kernel, rfl⟩
theorem b18_47 : Dc jdk_52_method_4_code 47 (.getstatic 63) 3 50 := ⟨by decide +kernel, rfl⟩
theorem b18_50 : Dc jdk_52_method_4_code 50 (.ishr) 1 51 := ⟨by decide +kernel, rfl⟩
theorem b18_51 : Dc jdk_52_method_4_code 51 (.i2b) 1 52 := ⟨by decide +kernel, rfl⟩
theorem b18_52 : Dc jdk_52_method_4_code 52 (.bastore) 1 53 := ⟨by decide +kernel, rfl⟩
theorem b18_53 : Dc jdk_52_method_4_code 53 (.return_) 1 54 := ⟨by decide +kernel, rfl⟩
theorem b15_0 : Dc jdk_52_method_14_code 0 (.iload_n 2) 1 1 := ⟨by decide +kernel, rfl⟩
theorem b15_1 : Dc jdk_52_method_14_code 1 (.invokestatic 107) 3 4 := ⟨by decide +kernel, rfl⟩
theorem b15_4 : Dc jdk_52_method_14_code 4 (.astore_n 3) 1 5 := ⟨by decide +kernel, rfl⟩
theorem b15_5 : Dc jdk_52_method_14_code 5 (.iconst 0) 1 6 := ⟨by decide +kernel, rfl⟩
theorem b15_6 : Dc jdk_52_method_14_code 6 (.istore 4) 2 8 := ⟨by decide +kernel, rfl⟩
theorem b15_8 : Dc jdk_52_method_14_code 8 (.iload 4) 2 10 := ⟨by decide +kernel, rfl⟩
theorem b15_10 : Dc jdk_52_method_14_code 10 (.iload_n 2) 1 11 := ⟨by decide +kernel, rfl⟩
theorem b15_11 : Db jdk_52_method_14_code 11 (.if_icmp .ge 21) (21) 14 32 := ⟨by decide +kernel, rfl, by decide, by decide⟩
theorem b15_14 : Dc jdk_52_method_14_code 14 (.aload_n 3) 1 15 := ⟨by decide +kernel, rfl⟩
theorem b15_15 : Dc jdk_52_method_14_code 15 (.iload 4) 2 17 := ⟨by decide +kernel, rfl⟩
theorem b15_17 : Dc jdk_52_method_14_code 17 (.aload_n 0) 1 18 := ⟨by decide +kernel, rfl⟩
theorem b15_18 : Dc jdk_52_method_14_code 18 (.iload_n 1) 1 19 := ⟨by decide +kernel, rfl⟩
theorem b15_19 : Dc jdk_52_method_14_code 19 (.caload) 1 20 := ⟨by decide +kernel, rfl⟩
theorem b15_20 : Dc jdk_52_method_14_code 20 (.invokestatic 111) 3 23 := ⟨by decide +kernel, rfl⟩
theorem b15_23 : Dc jdk_52_method_14_code 23 (.iinc 1 1) 3 26 := ⟨by decide +kernel, rfl⟩
theorem b15_26 : Dc jdk_52_method_14_code 26 (.iinc 4 1) 3 29 := ⟨by decide +kernel, rfl⟩
theorem b15_29 : Db jdk_52_method_14_code 29 (.goto (-21)) (-21) 32 8 := ⟨by decide +kernel, rfl, by decide, by decide⟩
theorem b15_32 : Dc jdk_52_method_14_code 32 (.aload_n 3) 1 33 := ⟨by decide +kernel, rfl⟩
theorem b15_33 : Dc jdk_52_method_14_code 33 (.areturn) 1 34 := ⟨by decide +kernel, rfl⟩
theorem b19_0 : Dc jdk_52_method_5_code 0 (.getstatic 44) 3 3 := ⟨by decide +kernel, rfl⟩
theorem b19_3 : Db jdk_52_method_5_code 3 (.ifCond .ne 25) (25) 6 28 := ⟨by decide +kernel, rfl, by decide, by decide⟩
theorem b19_28 : Dc jdk_52_method_5_code 28 (.iload_n 1) 1 29 := ⟨by decide +kernel, rfl⟩
theorem b19_29 : Dc jdk_52_method_5_code 29 (.iconst 1) 1 30 := ⟨by decide +kernel, rfl⟩
theorem b19_30 : Dc jdk_52_method_5_code 30 (.ishl) 1 31 := ⟨by decide +kernel, rfl⟩
theorem b19_31 : Dc jdk_52_method_5_code 31 (.istore_n 1) 1 32 := ⟨by decide +kernel, rfl⟩
theorem b19_32 : Dc jdk_52_method_5_code 32 (.aload_n 0) 1 33 := ⟨by decide +kernel, rfl⟩
theorem b19_33 : Dc jdk_52_method_5_code 33 (.iload_n 1) 1 34 := ⟨by decide +kernel, rfl⟩
theorem b19_34 : Dc jdk_52_method_5_code 34 (.iinc 1 1) 3 37 := ⟨by decide +kernel, rfl⟩
theorem b19_37 : Dc jdk_52_method_5_code 37 (.baload) 1 38 := ⟨by decide +kernel, rfl⟩
theorem b19_38 : Dc jdk_52_method_5_code 38 (.sipush 255) 3 41 := ⟨by decide +kernel, rfl⟩
theorem b19_41 : Dc jdk_52_method_5_code 41 (.iand) 1 42 := ⟨by decide +kernel, rfl⟩
theorem b19_42 : Dc jdk_52_method_5_code 42 (.getstatic 59) 3 45 := ⟨by decide +kernel, rfl⟩
theorem b19_45 : Dc jdk_52_method_5_code 45 (.ishl) 1 46 := ⟨by decide +kernel, rfl⟩
theorem b19_46 : Dc jdk_52_method_5_code 46 (.aload_n 0) 1 47 := ⟨by decide +kernel, rfl⟩
theorem b19_47 : Dc jdk_52_method_5_code 47 (.iload_n 1) 1 48 := ⟨by decide +kernel, rfl⟩
theorem b19_48 : Dc jdk_52_method_5_code 48 (.baload) 1 49 := ⟨by decide +kernel, rfl⟩
theorem b19_49 : Dc jdk_52_method_5_code 49 (.sipush 255) 3 52 := ⟨by decide +kernel, rfl⟩
theorem b19_52 : Dc jdk_52_method_5_code 52 (.iand) 1 53 := ⟨by decide +kernel, rfl⟩
theorem b19_53 : Dc jdk_52_method_5_code 53 (.getstatic 63) 3 56 := ⟨by decide +kernel, rfl⟩
theorem b19_56 : Dc jdk_52_method_5_code 56 (.ishl) 1 57 := ⟨by decide +kernel, rfl⟩
theorem b19_57 : Dc jdk_52_method_5_code 57 (.ior) 1 58 := ⟨by decide +kernel, rfl⟩
theorem b19_58 : Dc jdk_52_method_5_code 58 (.i2c) 1 59 := ⟨by decide +kernel, rfl⟩
theorem b19_59 : Dc jdk_52_method_5_code 59 (.ireturn) 1 60 := ⟨by decide +kernel, rfl⟩
theorem b5_0 : Dc jdk_52_method_21_code 0 (.iconst 0) 1 1 := ⟨by decide +kernel, rfl⟩
theorem b5_1 : Dc jdk_52_method_21_code 1 (.istore 5) 2 3 := ⟨by decide +kernel, rfl⟩
theorem b5_3 : Dc jdk_52_method_21_code 3 (.iload 5) 2 5 := ⟨by decide +kernel, rfl⟩
theorem b5_5 : Dc jdk_52_method_21_code 5 (.iload 4) 2 7 := ⟨by decide +kernel, rfl⟩
theorem b5_7 : Db jdk_52_method_21_code 7 (.if_icmp .ge 37) (37) 10 44 := ⟨by decide +kernel, rfl, by decide, by decide⟩
theorem b5_10 : Dc jdk_52_method_21_code 10 (.aload_n 0) 1 11 := ⟨by decide +kernel, rfl⟩
theorem b5_11 : Dc jdk_52_method_21_code 11 (.iload_n 1) 1 12 := ⟨by decide +kernel, rfl⟩
theorem b5_12 : Dc jdk_52_method_21_code 12 (.caload) 1 13 := ⟨by decide +kernel, rfl⟩
theorem b5_13 : Dc jdk_52_method_21_code 13 (.istore 6) 2 15 := ⟨by decide +kernel, rfl⟩
theorem b5_15 : Dc jdk_52_method_21_code 15 (.iload 6) 2 17 := ⟨by decide +kernel, rfl⟩
theorem b5_17 : Dc jdk_52_method_21_code 17 (.sipush 255) 3 20 := ⟨by decide +kernel, rfl⟩
theorem b5_20 : Db jdk_52_method_21_code 20 (.if_icmp .le 6) (6) 23 26 := ⟨by decide +kernel, rfl, by decide, by decide⟩
theorem b5_26 : Dc jdk_52_method_21_code 26 (.aload_n 2) 1 27 := ⟨by decide +kernel, rfl⟩
theorem b5_27 : Dc jdk_52_method_21_code 27 (.iload_n 3) 1 28 := ⟨by decide +kernel, rfl⟩
theorem b5_28 : Dc jdk_52_method_21_code 28 (.iload 6) 2 30 := ⟨by decide +kernel, rfl⟩
theorem b5_30 : Dc jdk_52_method_21_code 30 (.i2b) 1 31 := ⟨by decide +kernel, rfl⟩
theorem b5_31 : Dc jdk_52_method_21_code 31 (.bastore) 1 32 := ⟨by decide +kernel, rfl⟩
theorem b5_32 : Dc jdk_52_method_21_code 32 (.iinc 1 1) 3 35 := ⟨by decide +kernel, rfl⟩
theorem b5_35 : Dc jdk_52_method_21_code 35 (.iinc 3 1) 3 38 := ⟨by decide +kernel, rfl⟩
theorem b5_38 : Dc jdk_52_method_21_code 38 (.iinc 5 1) 3 41 := ⟨by decide +kernel, rfl⟩
theorem b5_41 : Db jdk_52_method_21_code 41 (.goto (-38)) (-38) 44 3 := ⟨by decide +kernel, rfl, by decide, by decide⟩
theorem b5_44 : Dc jdk_52_method_21_code 44 (.iload 4) 2 46 := ⟨by decide +kernel, rfl⟩
theorem b5_23 : Dc jdk_52_method_21_code 23 (.iload 5) 2 25 := ⟨by decide +kernel, rfl⟩
theorem b5_25 : Dc jdk_52_method_21_code 25 (.ireturn) 1 26 := ⟨by decide +kernel, rfl⟩
theorem b4_0 : Dc jdk_52_method_16_code 0 (.iload_n 2) 1 1 := ⟨by decide +kernel, rfl⟩
theorem b4_1 : Dc jdk_52_method_16_code 1 (.newarray .byte) 2 3 := ⟨by decide +kernel, rfl⟩
theorem b4_3 : Dc jdk_52_method_16_code 3 (.astore_n 3) 1 4 := ⟨by decide +kernel, rfl⟩
theorem b4_4 : Dc jdk_52_method_16_code 4 (.aload_n 0) 1 5 := ⟨by decide +kernel, rfl⟩
theorem b4_5 : Dc jdk_52_method_16_code 5 (.iload_n 1) 1 6 := ⟨by decide +kernel, rfl⟩
theorem b4_6 : Dc jdk_52_method_16_code 6 (.aload_n 3) 1 7 := ⟨by decide +kernel, rfl⟩
theorem b4_7 : Dc jdk_52_method_16_code 7 (.iconst 0) 1 8 := ⟨by decide +kernel, rfl⟩
theorem b4_8 : Dc jdk_52_method_16_code 8 (.iload_n 2) 1 9 := ⟨by decide +kernel, rfl⟩
theorem b4_9 : Dc jdk_52_method_16_code 9 (.invokestatic 115) 3 12 := ⟨by decide +kernel, rfl⟩
theorem b4_12 : Dc jdk_52_method_16_code 12 (.istore 4) 2 14 := ⟨by decide +kernel, rfl⟩
theorem b4_14 : Dc jdk_52_method_16_code 14 (.iload 4) 2 16 := ⟨by decide +kernel, rfl⟩
theorem b4_16 : Dc jdk_52_method_16_code 16 (.iload_n 2) 1 17 := ⟨by decide +kernel, rfl⟩
theorem b4_17 : Db jdk_52_method_16_code 17 (.if_icmp .eq 40) (40) 20 57 := ⟨by decide +kernel, rfl, by decide, by decide⟩
theorem b4_20 : Dc jdk_52_method_16_code 20 (.aload_n 0) 1 21 := ⟨by decide +kernel, rfl⟩
theorem b4_21 : Dc jdk_52_method_16_code 21 (.iload_n 1) 1 22 := ⟨by decide +kernel, rfl⟩
theorem b4_22 : Dc jdk_52_method_16_code 22 (.iload_n 2) 1 23 := ⟨by decide +kernel, rfl⟩
theorem b4_23 : Dc jdk_52_method_16_code 23 (.invokestatic 119) 3 26 := ⟨by decide +kernel, rfl⟩
theorem b4_26 : Dc jdk_52_method_16_code 26 (.astore 5) 2 28 := ⟨by decide +kernel, rfl⟩
theorem b4_28 : Dc jdk_52_method_16_code 28 (.aload 5) 2 30 := ⟨by decide +kernel, rfl⟩
theorem b4_30 : Dc jdk_52_method_16_code 30 (.iload 4) 2 32 := ⟨by decide +kernel, rfl⟩
theorem b4_32 : Dc jdk_52_method_16_code 32 (.invokestatic 71) 3 35 := ⟨by decide +kernel, rfl⟩
theorem b4_35 : Dc jdk_52_method_16_code 35 (.sipush 255) 3 38 := ⟨by decide +kernel, rfl⟩
theorem b4_38 : Db jdk_52_method_16_code 38 (.if_icmp .gt 16) (16) 41 54 := ⟨by decide +kernel, rfl, by decide, by decide⟩
theorem b4_54 : Dc jdk_52_method_16_code 54 (.aload 5) 2 56 := ⟨by decide +kernel, rfl⟩
theorem b4_56 : Dc jdk_52_method_16_code 56 (.areturn) 1 57 := ⟨by decide +kernel, rfl⟩
theorem b6_0 : Dc jdk_52_method_15_code 0 (.iload_n 1) 1 1 := ⟨by decide +kernel, rfl⟩
theorem b6_1 : Dc jdk_52_method_15_code 1 (.aload_n 0) 1 2 := ⟨by decide +kernel, rfl⟩
theorem b6_2 : Dc jdk_52_method_15_code 2 (.arraylength) 1 3 := ⟨by decide +kernel, rfl⟩
theorem b6_3 : Dc jdk_52_method_15_code 3 (.isub) 1 4 := ⟨by decide +kernel, rfl⟩
theorem b6_4 : Dc jdk_52_method_15_code 4 (.bipush 31) 2 6 := ⟨by decide +kernel, rfl⟩
theorem b6_6 : Dc jdk_52_method_15_code 6 (.iushr) 1 7 := ⟨by decide +kernel, rfl⟩
theorem b6_7 : Dc jdk_52_method_15_code 7 (.i2b) 1 8 := ⟨by decide +kernel, rfl⟩
theorem b6_8 : Dc jdk_52_method_15_code 8 (.ireturn) 1 9 := ⟨by decide +kernel, rfl⟩
theorem b2_0 : Dc jdk_42_method_149_code 0 (.aload_n 0) 1 1 := ⟨by decide +kernel, rfl⟩
theorem b2_1 : Dc jdk_42_method_149_code 1 (.invokespecial 1) 3 4 := ⟨by decide +kernel, rfl⟩
theorem b2_4 : Dc jdk_42_method_149_code 4 (.iload_n 3) 1 5 := ⟨by decide +kernel, rfl⟩
theorem b2_5 : Db jdk_42_method_149_code 5 (.ifCond .ne 22) (22) 8 27 := ⟨by decide +kernel, rfl, by decide, by decide⟩
theorem b2_27 : Dc jdk_42_method_149_code 27 (.getstatic 38) 3 30 := ⟨by decide +kernel, rfl⟩
theorem b2_30 : Db jdk_42_method_149_code 30 (.ifCond .eq 28) (28) 33 58 := ⟨by decide +kernel, rfl, by decide, by decide⟩
theorem b2_33 : Dc jdk_42_method_149_code 33 (.aload_n 1) 1 34 := ⟨by decide +kernel, rfl⟩
theorem b2_34 : Dc jdk_42_method_149_code 34 (.iload_n 2) 1 35 := ⟨by decide +kernel, rfl⟩
theorem b2_35 : Dc jdk_42_method_149_code 35 (.iload_n 3) 1 36 := ⟨by decide +kernel, rfl⟩
theorem b2_36 : Dc jdk_42_method_149_code 36 (.invokestatic 177) 3 39 := ⟨by decide +kernel, rfl⟩
theorem b2_39 : Dc jdk_42_method_149_code 39 (.astore 5) 2 41 := ⟨by decide +kernel, rfl⟩
theorem b2_41 : Dc jdk_42_method_149_code 41 (.aload_n 0) 1 42 := ⟨by decide +kernel, rfl⟩
theorem b2_42 : Dc jdk_42_method_149_code 42 (.aload 5) 2 44 := ⟨by decide +kernel, rfl⟩
theorem b2_44 : Dc jdk_42_method_149_code 44 (.iload_n 3) 1 45 := ⟨by decide +kernel, rfl⟩
theorem b2_45 : Dc jdk_42_method_149_code 45 (.invokestatic 47) 3 48 := ⟨by decide +kernel, rfl⟩
theorem b2_48 : Dc jdk_42_method_149_code 48 (.putfield 15) 3 51 := ⟨by decide +kernel, rfl⟩
theorem b2_51 : Dc jdk_42_method_149_code 51 (.aload_n 0) 1 52 := ⟨by decide +kernel, rfl⟩
theorem b2_52 : Dc jdk_42_method_149_code 52 (.aload 5) 2 54 := ⟨by decide +kernel, rfl⟩
theorem b2_54 : Dc jdk_42_method_149_code 54 (.putfield 9) 3 57 := ⟨by decide +kernel, rfl⟩
theorem b2_57 : Dc jdk_42_method_149_code 57 (.return_) 1 58 := ⟨by decide +kernel, rfl⟩
theorem b1_0 : Dc jdk_42_method_3_code 0 (.aload_n 0) 1 1 := ⟨by decide +kernel, rfl⟩
theorem b1_1 : Dc jdk_42_method_3_code 1 (.aload_n 1) 1 2 := ⟨by decide +kernel, rfl⟩
theorem b1_2 : Dc jdk_42_method_3_code 2 (.iconst 0) 1 3 := ⟨by decide +kernel, rfl⟩
theorem b1_3 : Dc jdk_42_method_3_code 3 (.aload_n 1) 1 4 := ⟨by decide +kernel, rfl⟩
theorem b1_4 : Dc jdk_42_method_3_code 4 (.arraylength) 1 5 := ⟨by decide +kernel, rfl⟩
theorem b1_5 : Dc jdk_42_method_3_code 5 (.aconst_null) 1 6 := ⟨by decide +kernel, rfl⟩
theorem b1_6 : Dc jdk_42_method_3_code 6 (.invokespecial 27) 3 9 := ⟨by decide +kernel, rfl⟩
theorem b1_9 : Dc jdk_42_method_3_code 9 (.return_) 1 10 := ⟨by decide +kernel, rfl⟩
theorem b22_0 : Dc jdk_52_method_6_code 0 (.aload_n 0) 1 1 := ⟨by decide +kernel, rfl⟩
theorem b22_1 : Dc jdk_52_method_6_code 1 (.arraylength) 1 2 := ⟨by decide +kernel, rfl⟩
theorem b22_2 : Dc jdk_52_method_6_code 2 (.iconst 1) 1 3 := ⟨by decide +kernel, rfl⟩
theorem b22_3 : Dc jdk_52_method_6_code 3 (.ishr) 1 4 := ⟨by decide +kernel, rfl⟩
theorem b22_4 : Dc jdk_52_method_6_code 4 (.ireturn) 1 5 := ⟨by decide +kernel, rfl⟩
theorem b12_0 : Dc jdk_41_method_11_code 0 (.iload_n 0) 1 1 := ⟨by decide +kernel, rfl⟩
theorem b12_1 : Db jdk_41_method_11_code 1 (.ifCond .lt 8) (8) 4 9 := ⟨by decide +kernel, rfl, by decide, by decide⟩
theorem b12_4 : Dc jdk_41_method_11_code 4 (.iload_n 0) 1 5 := ⟨by decide +kernel, rfl⟩
theorem b12_5 : Dc jdk_41_method_11_code 5 (.iload_n 1) 1 6 := ⟨by decide +kernel, rfl⟩
theorem b12_6 : Db jdk_41_method_11_code 6 (.if_icmp .lt 10) (10) 9 16 := ⟨by decide +kernel, rfl, by decide, by decide⟩
theorem b12_16 : Dc jdk_41_method_11_code 16 (.iload_n 0) 1 17 := ⟨by decide +kernel, rfl⟩
theorem b12_17 : Dc jdk_41_method_11_code 17 (.ireturn) 1 18 := ⟨by decide +kernel, rfl⟩
theorem b11_0 : Dc jdk_42_method_155_code 0 (.iload_n 0) 1 1 := ⟨by decide +kernel, rfl⟩
theorem b11_1 : Dc jdk_42_method_155_code 1 (.iload_n 1) 1 2 := ⟨by decide +kernel, rfl⟩
theorem b11_2 : Dc jdk_42_method_155_code 2 (.getstatic 1053) 3 5 := ⟨by decide +kernel, rfl⟩
theorem b11_5 : Dc jdk_42_method_155_code 5 (.invokestatic 1059) 3 8 := ⟨by decide +kernel, rfl⟩
theorem b11_8 : Dc jdk_42_method_155_code 8 (.pop) 1 9 := ⟨by decide +kernel, rfl⟩
theorem b11_9 : Dc jdk_42_method_155_code 9 (.return_) 1 10 := ⟨by decide +kernel, rfl⟩
theorem b21_0 : Dc jdk_52_method_91_code 0 (.iload_n 0) 1 1 := ⟨by decide +kernel, rfl⟩
theorem b21_1 : Dc jdk_52_method_91_code 1 (.aload_n 1) 1 2 := ⟨by decide +kernel, rfl⟩
theorem b21_2 : Dc jdk_52_method_91_code 2 (.invokestatic 48) 3 5 := ⟨by decide +kernel, rfl⟩
theorem b21_5 : Dc jdk_52_method_91_code 5 (.invokestatic 414) 3 8 := ⟨by decide +kernel, rfl⟩
theorem b21_8 : Dc jdk_52_method_91_code 8 (.return_) 1 9 := ⟨by decide +kernel, rfl⟩
theorem b20_0 : Dc jdk_52_method_83_code 0 (.iload_n 1) 1 1 := ⟨by decide +kernel, rfl⟩
theorem b20_1 : Dc jdk_52_method_83_code 1 (.aload_n 0) 1 2 := ⟨by decide +kernel, rfl⟩
theorem b20_2 : Dc jdk_52_method_83_code 2 (.invokestatic 67) 3 5 := ⟨by decide +kernel, rfl⟩
theorem b20_5 : Dc jdk_52_method_83_code 5 (.aload_n 0) 1 6 := ⟨by decide +kernel, rfl⟩
theorem b20_6 : Dc jdk_52_method_83_code 6 (.iload_n 1) 1 7 := ⟨by decide +kernel, rfl⟩
theorem b20_7 : Dc jdk_52_method_83_code 7 (.invokestatic 71) 3 10 := ⟨by decide +kernel, rfl⟩
theorem b20_10 : Dc jdk_52_method_83_code 10 (.ireturn) 1 11 := ⟨by decide +kernel, rfl⟩
theorem b9_0 : Dc jdk_42_method_154_code 0 (.getstatic 38) 3 3 := ⟨by decide +kernel, rfl⟩
theorem b9_3 : Db jdk_42_method_154_code 3 (.ifCond .eq 14) (14) 6 17 := ⟨by decide +kernel, rfl, by decide, by decide⟩
theorem b9_6 : Dc jdk_42_method_154_code 6 (.aload_n 0) 1 7 := ⟨by decide +kernel, rfl⟩
theorem b9_7 : Dc jdk_42_method_154_code 7 (.getfield 15) 3 10 := ⟨by decide +kernel, rfl⟩
theorem b9_10 : Db jdk_42_method_154_code 10 (.ifCond .ne 7) (7) 13 17 := ⟨by decide +kernel, rfl, by decide, by decide⟩
theorem b9_17 : Dc jdk_42_method_154_code 17 (.iconst 0) 1 18 := ⟨by decide +kernel, rfl⟩
theorem b9_18 : Dc jdk_42_method_154_code 18 (.ireturn) 1 19 := ⟨by decide +kernel, rfl⟩
theorem b8_0 : Dc jdk_42_method_56_code 0 (.aload_n 0) 1 1 := ⟨by decide +kernel, rfl⟩
theorem b8_1 : Dc jdk_42_method_56_code 1 (.invokevirtual 492) 3 4 := ⟨by decide +kernel, rfl⟩
theorem b8_4 : Db jdk_42_method_56_code 4 (.ifCond .eq 12) (12) 7 16 := ⟨by decide +kernel, rfl, by decide, by decide⟩
theorem b8_16 : Dc jdk_42_method_56_code 16 (.aload_n 0) 1 17 := ⟨by decide +kernel, rfl⟩
theorem b8_17 : Dc jdk_42_method_56_code 17 (.getfield 9) 3 20 := ⟨by decide +kernel, rfl⟩
theorem b8_20 : Dc jdk_42_method_56_code 20 (.iload_n 1) 1 21 := ⟨by decide +kernel, rfl⟩
theorem b8_21 : Dc jdk_42_method_56_code 21 (.invokestatic 498) 3 24 := ⟨by decide +kernel, rfl⟩
theorem b8_24 : Dc jdk_42_method_56_code 24 (.ireturn) 1 25 := ⟨by decide +kernel, rfl⟩
theorem b13_0 : Dc prog_24_method_6_code 0 (.iload_n 0) 1 1 := ⟨by decide +kernel, rfl⟩
theorem b13_1 : Dc prog_24_method_6_code 1 (.bipush 97) 2 3 := ⟨by decide +kernel, rfl⟩
theorem b13_3 : Db prog_24_method_6_code 3 (.if_icmp .lt 9) (9) 6 12 := ⟨by decide +kernel, rfl, by decide, by decide⟩
theorem b13_12 : Dc prog_24_method_6_code 12 (.iload_n 0) 1 13 := ⟨by decide +kernel, rfl⟩
theorem b13_13 : Dc prog_24_method_6_code 13 (.bipush 65) 2 15 := ⟨by decide +kernel, rfl⟩
theorem b13_15 : Db prog_24_method_6_code 15 (.if_icmp .lt 13) (13) 18 28 := ⟨by decide +kernel, rfl, by decide, by decide⟩
theorem b13_28 : Dc prog_24_method_6_code 28 (.iconst 0) 1 29 := ⟨by decide +kernel, rfl⟩
theorem b13_29 : Dc prog_24_method_6_code 29 (.ireturn) 1 30 := ⟨by decide +kernel, rfl⟩
theorem b13_18 : Dc prog_24_method_6_code 18 (.iload_n 0) 1 19 := ⟨by decide +kernel, rfl⟩
theorem b13_19 : Dc prog_24_method_6_code 19 (.bipush 90) 2 21 := ⟨by decide +kernel, rfl⟩
theorem b13_21 : Db prog_24_method_6_code 21 (.if_icmp .gt 7) (7) 24 28 := ⟨by decide +kernel, rfl, by decide, by decide⟩
theorem b13_24 : Dc prog_24_method_6_code 24 (.iconst 1) 1 25 := ⟨by decide +kernel, rfl⟩
theorem b13_25 : Db prog_24_method_6_code 25 (.goto 4) (4) 28 29 := ⟨by decide +kernel, rfl, by decide, by decide⟩
theorem b13_6 : Dc prog_24_method_6_code 6 (.iload_n 0) 1 7 := ⟨by decide +kernel, rfl⟩
theorem b13_7 : Dc prog_24_method_6_code 7 (.bipush 122) 2 9 := ⟨by decide +kernel, rfl⟩
theorem b13_9 : Db prog_24_method_6_code 9 (.if_icmp .le 15) (15) 12 24 := ⟨by decide +kernel, rfl, by decide, by decide⟩
theorem b14_0 : Dc method_3_code 0 (.iload_n 0) 1 1 := ⟨by decide +kernel, rfl⟩
theorem b14_1 : Dc method_3_code 1 (.bipush 97) 2 3 := ⟨by decide +kernel, rfl⟩
theorem b14_3 : Db method_3_code 3 (.if_icmp .lt 9) (9) 6 12 := ⟨by decide +kernel, rfl, by decide, by decide⟩
theorem b14_12 : Dc method_3_code 12 (.iload_n 0) 1 13 := ⟨by decide +kernel, rfl⟩
theorem b14_13 : Dc method_3_code 13 (.bipush 65) 2 15 := ⟨by decide +kernel, rfl⟩
theorem b14_15 : Db method_3_code 15 (.if_icmp .lt 13) (13) 18 28 := ⟨by decide +kernel, rfl, by decide, by decide⟩
theorem b14_28 : Dc method_3_code 28 (.iconst 0) 1 29 := ⟨by decide +kernel, rfl⟩
theorem b14_29 : Dc method_3_code 29 (.ireturn) 1 30 := ⟨by decide +kernel, rfl⟩
theorem b14_18 : Dc method_3_code 18 (.iload_n 0) 1 19 := ⟨by decide +kernel, rfl⟩
theorem b14_19 : Dc method_3_code 19 (.bipush 90) 2 21 := ⟨by decide +kernel, rfl⟩
theorem b14_21 : Db method_3_code 21 (.if_icmp .gt 7) (7) 24 28 := ⟨by decide +kernel, rfl, by decide, by decide⟩
theorem b14_24 : Dc method_3_code 24 (.iconst 1) 1 25 := ⟨by decide +kernel, rfl⟩
theorem b14_25 : Db method_3_code 25 (.goto 4) (4) 28 29 := ⟨by decide +kernel, rfl, by decide, by decide⟩
theorem b14_6 : Dc method_3_code 6 (.iload_n 0) 1 7 := ⟨by decide +kernel, rfl⟩
theorem b14_7 : Dc method_3_code 7 (.bipush 122) 2 9 := ⟨by decide +kernel, rfl⟩
theorem b14_9 : Db method_3_code 9 (.if_icmp .le 15) (15) 12 24 := ⟨by decide +kernel, rfl, by decide, by decide⟩
theorem b23_0 : Dc method_4_code 0 (.iload_n 0) 1 1 := ⟨by decide +kernel, rfl⟩
theorem b23_1 : Dc method_4_code 1 (.invokestatic 9) 3 4 := ⟨by decide +kernel, rfl⟩
theorem b23_4 : Db method_4_code 4 (.ifCond .ne 33) (33) 7 37 := ⟨by decide +kernel, rfl, by decide, by decide⟩
theorem b23_37 : Dc method_4_code 37 (.iconst 1) 1 38 := ⟨by decide +kernel, rfl⟩
theorem b23_38 : Db method_4_code 38 (.goto 4) (4) 41 42 := ⟨by decide +kernel, rfl, by decide, by decide⟩
theorem b23_42 : Dc method_4_code 42 (.ireturn) 1 43 := ⟨by decide +kernel, rfl⟩
theorem b23_7 : Dc method_4_code 7 (.iload_n 0) 1 8 := ⟨by decide +kernel, rfl⟩
theorem b23_8 : Dc method_4_code 8 (.bipush 48) 2 10 := ⟨by decide +kernel, rfl⟩
theorem b23_10 : Db method_4_code 10 (.if_icmp .lt 9) (9) 13 19 := ⟨by decide +kernel, rfl, by decide, by decide⟩
theorem b23_19 : Dc method_4_code 19 (.iload_n 0) 1 20 := ⟨by decide +kernel, rfl⟩
theorem b23_20 : Dc method_4_code 20 (.bipush 43) 2 22 := ⟨by decide +kernel, rfl⟩
theorem b23_22 : Db method_4_code 22 (.if_icmp .eq 15) (15) 25 37 := ⟨by decide +kernel, rfl, by decide, by decide⟩
theorem b23_25 : Dc method_4_code 25 (.iload_n 0) 1 26 := ⟨by decide +kernel, rfl⟩
theorem b23_26 : Dc method_4_code 26 (.bipush 45) 2 28 := ⟨by decide +kernel, rfl⟩
theorem b23_28 : Db method_4_code 28 (.if_icmp .eq 9) (9) 31 37 := ⟨by decide +kernel, rfl, by decide, by decide⟩
theorem b23_31 : Dc method_4_code 31 (.iload_n 0) 1 32 := ⟨by decide +kernel, rfl⟩
theorem b23_32 : Dc method_4_code 32 (.bipush 46) 2 34 := ⟨by decide +kernel, rfl⟩
theorem b23_34 : Db method_4_code 34 (.if_icmp .ne 7) (7) 37 41 := ⟨by decide +kernel, rfl, by decide, by decide⟩
theorem b23_41 : Dc method_4_code 41 (.iconst 0) 1 42 := ⟨by decide +kernel, rfl⟩
theorem b23_13 : Dc method_4_code 13 (.iload_n 0) 1 14 := ⟨by decide +kernel, rfl⟩
theorem b23_14 : Dc method_4_code 14 (.bipush 57) 2 16 := ⟨by decide +kernel, rfl⟩
theorem b23_16 : Db method_4_code 16 (.if_icmp .le 21) (21) 19 37 := ⟨by decide +kernel, rfl, by decide, by decide⟩
theorem b0_0 : Dc method_2_code 0 (.iload_n 0) 1 1 := ⟨by decide +kernel, rfl⟩
theorem b0_1 : Dc method_2_code 1 (.ldc 7) 2 3 := ⟨by decide +kernel, rfl⟩
theorem b0_3 : Dc method_2_code 3 (.iand) 1 4 := ⟨by decide +kernel, rfl⟩
theorem b0_4 : Db method_2_code 4 (.ifCond .eq 13) (13) 7 17 := ⟨by decide +kernel, rfl, by decide, by decide⟩
theorem b0_17 : Dc method_2_code 17 (.iload_n 0) 1 18 := ⟨by decide +kernel, rfl⟩
theorem b0_18 : Dc method_2_code 18 (.ldc 8) 2 20 := ⟨by decide +kernel, rfl⟩
theorem b0_20 : Dc method_2_code 20 (.iand) 1 21 := ⟨by decide +kernel, rfl⟩
theorem b0_21 : Dc method_2_code 21 (.i2c) 1 22 := ⟨by decide +kernel, rfl⟩
theorem b0_22 : Dc method_2_code 22 (.ireturn) 1 23 := ⟨by decide +kernel, rfl⟩
theorem b0_7 : Dc method_2_code 7 (.aload_n 1) 1 8 := ⟨by decide +kernel, rfl⟩
theorem b0_8 : Dc method_2_code 8 (.iload_n 0) 1 9 := ⟨by decide +kernel, rfl⟩
theorem b0_9 : Dc method_2_code 9 (.bipush 17) 2 11 := ⟨by decide +kernel, rfl⟩
theorem b0_11 : Dc method_2_code 11 (.iushr) 1 12 := ⟨by decide +kernel, rfl⟩
theorem b0_12 : Dc method_2_code 12 (.bipush 15) 2 14 := ⟨by decide +kernel, rfl⟩
theorem b0_14 : Dc method_2_code 14 (.iand) 1 15 := ⟨by decide +kernel, rfl⟩
theorem b0_15 : Dc method_2_code 15 (.caload) 1 16 := ⟨by decide +kernel, rfl⟩
theorem b0_16 : Dc method_2_code 16 (.ireturn) 1 17 := ⟨by decide +kernel, rfl⟩
theorem b7_0 : Dc prog_24_method_4_code 0 (.iload_n 1) 1 1 := ⟨by decide +kernel, rfl⟩
theorem b7_1 : Db prog_24_method_4_code 1 (.ifCond .eq 14) (14) 4 15 := ⟨by decide +kernel, rfl, by decide, by decide⟩
theorem b7_15 : Dc prog_24_method_4_code 15 (.iconst 0) 1 16 := ⟨by decide +kernel, rfl⟩
theorem b7_16 : Dc prog_24_method_4_code 16 (.ireturn) 1 17 := ⟨by decide +kernel, rfl⟩
theorem b7_4 : Dc prog_24_method_4_code 4 (.aload_n 0) 1 5 := ⟨by decide +kernel, rfl⟩
theorem b7_5 : Dc prog_24_method_4_code 5 (.iconst 0) 1 6 := ⟨by decide +kernel, rfl⟩
theorem b7_6 : Dc prog_24_method_4_code 6 (.invokevirtual 66) 3 9 := ⟨by decide +kernel, rfl⟩
theorem b7_9 : Dc prog_24_method_4_code 9 (.invokestatic 70) 3 12 := ⟨by decide +kernel, rfl⟩
theorem b7_12 : Db prog_24_method_4_code 12 (.ifCond .ne 5) (5) 15 17 := ⟨by decide +kernel, rfl, by decide, by decide⟩
theorem b7_17 : Dc prog_24_method_4_code 17 (.iconst 1) 1 18 := ⟨by decide +kernel, rfl⟩
theorem b7_18 : Dc prog_24_method_4_code 18 (.istore_n 2) 1 19 := ⟨by decide +kernel, rfl⟩
theorem b7_19 : Dc prog_24_method_4_code 19 (.iload_n 2) 1 20 := ⟨by decide +kernel, rfl⟩
theorem b7_20 : Dc prog_24_method_4_code 20 (.iload_n 1) 1 21 := ⟨by decide +kernel, rfl⟩
theorem b7_21 : Db prog_24_method_4_code 21 (.if_icmp .ge 64) (64) 24 85 := ⟨by decide +kernel, rfl, by decide, by decide⟩
theorem b7_85 : Dc prog_24_method_4_code 85 (.iconst 0) 1 86 := ⟨by decide +kernel, rfl⟩
theorem b7_86 : Dc prog_24_method_4_code 86 (.ireturn) 1 87 := ⟨by decide +kernel, rfl⟩
theorem b7_24 : Dc prog_24_method_4_code 24 (.aload_n 0) 1 25 := ⟨by decide +kernel, rfl⟩
theorem b7_25 : Dc prog_24_method_4_code 25 (.iload_n 2) 1 26 := ⟨by decide +kernel, rfl⟩
theorem b7_26 : Dc prog_24_method_4_code 26 (.invokevirtual 66) 3 29 := ⟨by decide +kernel, rfl⟩
theorem b7_29 : Dc prog_24_method_4_code 29 (.istore_n 3) 1 30 := ⟨by decide +kernel, rfl⟩
theorem b7_30 : Dc prog_24_method_4_code 30 (.iload_n 3) 1 31 := ⟨by decide +kernel, rfl⟩
theorem b7_31 : Dc prog_24_method_4_code 31 (.bipush 58) 2 33 := ⟨by decide +kernel, rfl⟩
theorem b7_33 : Db prog_24_method_4_code 33 (.if_icmp .ne 7) (7) 36 40 := ⟨by decide +kernel, rfl, by decide, by decide⟩
theorem b7_40 : Dc prog_24_method_4_code 40 (.iload_n 3) 1 41 := ⟨by decide +kernel, rfl⟩
theorem b7_41 : Dc prog_24_method_4_code 41 (.invokestatic 70) 3 44 := ⟨by decide +kernel, rfl⟩
theorem b7_44 : Db prog_24_method_4_code 44 (.ifCond .ne 35) (35) 47 79 := ⟨by decide +kernel, rfl, by decide, by decide⟩
theorem b7_79 : Dc prog_24_method_4_code 79 (.iinc 2 1) 3 82 := ⟨by decide +kernel, rfl⟩
theorem b7_82 : Db prog_24_method_4_code 82 (.goto (-63)) (-63) 85 19 := ⟨by decide +kernel, rfl, by decide, by decide⟩
theorem b7_47 : Dc prog_24_method_4_code 47 (.iload_n 3) 1 48 := ⟨by decide +kernel, rfl⟩
theorem b7_48 : Dc prog_24_method_4_code 48 (.bipush 48) 2 50 := ⟨by decide +kernel, rfl⟩
theorem b7_50 : Db prog_24_method_4_code 50 (.if_icmp .lt 9) (9) 53 59 := ⟨by decide +kernel, rfl, by decide, by decide⟩
theorem b7_59 : Dc prog_24_method_4_code 59 (.iload_n 3) 1 60 := ⟨by decide +kernel, rfl⟩
theorem b7_60 : Dc prog_24_method_4_code 60 (.bipush 43) 2 62 := ⟨by decide +kernel, rfl⟩
theorem b7_62 : Db prog_24_method_4_code 62 (.if_icmp .eq 17) (17) 65 79 := ⟨by decide +kernel, rfl, by decide, by decide⟩
theorem b7_65 : Dc prog_24_method_4_code 65 (.iload_n 3) 1 66 := ⟨by decide +kernel, rfl⟩
theorem b7_66 : Dc prog_24_method_4_code 66 (.bipush 45) 2 68 := ⟨by decide +kernel, rfl⟩
theorem b7_68 : Db prog_24_method_4_code 68 (.if_icmp .eq 11) (11) 71 79 := ⟨by decide +kernel, rfl, by decide, by decide⟩
theorem b7_71 : Dc prog_24_method_4_code 71 (.iload_n 3) 1 72 := ⟨by decide +kernel, rfl⟩
theorem b7_72 : Dc prog_24_method_4_code 72 (.bipush 46) 2 74 := ⟨by decide +kernel, rfl⟩
theorem b7_74 : Db prog_24_method_4_code 74 (.if_icmp .eq 5) (5) 77 79 := ⟨by decide +kernel, rfl, by decide, by decide⟩
theorem b7_77 : Dc prog_24_method_4_code 77 (.iconst 0) 1 78 := ⟨by decide +kernel, rfl⟩
theorem b7_78 : Dc prog_24_method_4_code 78 (.ireturn) 1 79 := ⟨by decide +kernel, rfl⟩
theorem b7_53 : Dc prog_24_method_4_code 53 (.iload_n 3) 1 54 := ⟨by decide +kernel, rfl⟩
theorem b7_54 : Dc prog_24_method_4_code 54 (.bipush 57) 2 56 := ⟨by decide +kernel, rfl⟩
theorem b7_56 : Db prog_24_method_4_code 56 (.if_icmp .le 23) (23) 59 79 := ⟨by decide +kernel, rfl, by decide, by decide⟩
theorem b7_36 : Dc prog_24_method_4_code 36 (.iload_n 2) 1 37 := ⟨by decide +kernel, rfl⟩
theorem b7_37 : Dc prog_24_method_4_code 37 (.iconst 1) 1 38 := ⟨by decide +kernel, rfl⟩
theorem b7_38 : Dc prog_24_method_4_code 38 (.iadd) 1 39 := ⟨by decide +kernel, rfl⟩
theorem b7_39 : Dc prog_24_method_4_code 39 (.ireturn) 1 40 := ⟨by decide +kernel, rfl⟩
theorem L_0 : Dc code 0 (.bipush 16) 2 2 := ⟨at_0, rfl⟩
theorem L_2 : Dc code 2 (.newarray .char) 2 4 := ⟨at_2, rfl⟩
theorem L_4 : Dc code 4 (.dup) 1 5 := ⟨at_4, rfl⟩
theorem L_5 : Dc code 5 (.iconst 0) 1 6 := ⟨at_5, rfl⟩
theorem L_6 : Dc code 6 (.bipush 97) 2 8 := ⟨at_6, rfl⟩
theorem L_8 : Dc code 8 (.castore) 1 9 := ⟨at_8, rfl⟩
theorem L_9 : Dc code 9 (.dup) 1 10 := ⟨at_9, rfl⟩
theorem L_10 : Dc code 10 (.iconst 1) 1 11 := ⟨at_10, rfl⟩
theorem L_11 : Dc code 11 (.bipush 122) 2 13 := ⟨at_11, rfl⟩
theorem L_13 : Dc code 13 (.castore) 1 14 := ⟨at_13, rfl⟩
theorem L_14 : Dc code 14 (.dup) 1 15 := ⟨at_14, rfl⟩
theorem L_15 : Dc code 15 (.iconst 2) 1 16 := ⟨at_15, rfl⟩
theorem L_16 : Dc code 16 (.bipush 65) 2 18 := ⟨at_16, rfl⟩
theorem L_18 : Dc code 18 (.castore) 1 19 := ⟨at_18, rfl⟩
theorem L_19 : Dc code 19 (.dup) 1 20 := ⟨at_19, rfl⟩
theorem L_20 : Dc code 20 (.iconst 3) 1 21 := ⟨at_20, rfl⟩
theorem L_21 : Dc code 21 (.bipush 90) 2 23 := ⟨at_21, rfl⟩
theorem L_23 : Dc code 23 (.castore) 1 24 := ⟨at_23, rfl⟩
theorem L_24 : Dc code 24 (.dup) 1 25 := ⟨at_24, rfl⟩
theorem L_25 : Dc code 25 (.iconst 4) 1 26 := ⟨at_25, rfl⟩
theorem L_26 : Dc code 26 (.bipush 48) 2 28 := ⟨at_26, rfl⟩
theorem L_28 : Dc code 28 (.castore) 1 29 := ⟨at_28, rfl⟩
theorem L_29 : Dc code 29 (.dup) 1 30 := ⟨at_29, rfl⟩
theorem L_30 : Dc code 30 (.iconst 5) 1 31 := ⟨at_30, rfl⟩
theorem L_31 : Dc code 31 (.bipush 57) 2 33 := ⟨at_31, rfl⟩
theorem L_33 : Dc code 33 (.castore) 1 34 := ⟨at_33, rfl⟩
theorem L_34 : Dc code 34 (.dup) 1 35 := ⟨at_34, rfl⟩
theorem L_35 : Dc code 35 (.bipush 6) 2 37 := ⟨at_35, rfl⟩
theorem L_37 : Dc code 37 (.bipush 43) 2 39 := ⟨at_37, rfl⟩
theorem L_39 : Dc code 39 (.castore) 1 40 := ⟨at_39, rfl⟩
theorem L_40 : Dc code 40 (.dup) 1 41 := ⟨at_40, rfl⟩
theorem L_41 : Dc code 41 (.bipush 7) 2 43 := ⟨at_41, rfl⟩
theorem L_43 : Dc code 43 (.bipush 45) 2 45 := ⟨at_43, rfl⟩
theorem L_45 : Dc code 45 (.castore) 1 46 := ⟨at_45, rfl⟩
theorem L_46 : Dc code 46 (.dup) 1 47 := ⟨at_46, rfl⟩
theorem L_47 : Dc code 47 (.bipush 8) 2 49 := ⟨at_47, rfl⟩
theorem L_49 : Dc code 49 (.bipush 46) 2 51 := ⟨at_49, rfl⟩
theorem L_51 : Dc code 51 (.castore) 1 52 := ⟨at_51, rfl⟩
theorem L_52 : Dc code 52 (.dup) 1 53 := ⟨at_52, rfl⟩
theorem L_53 : Dc code 53 (.bipush 9) 2 55 := ⟨at_53, rfl⟩
theorem L_55 : Dc code 55 (.bipush 58) 2 57 := ⟨at_55, rfl⟩
theorem L_57 : Dc code 57 (.castore) 1 58 := ⟨at_57, rfl⟩
theorem L_58 : Dc code 58 (.dup) 1 59 := ⟨at_58, rfl⟩
theorem L_59 : Dc code 59 (.bipush 10) 2 61 := ⟨at_59, rfl⟩
theorem L_61 : Dc code 61 (.bipush 64) 2 63 := ⟨at_61, rfl⟩
theorem L_63 : Dc code 63 (.castore) 1 64 := ⟨at_63, rfl⟩
theorem L_64 : Dc code 64 (.dup) 1 65 := ⟨at_64, rfl⟩
theorem L_65 : Dc code 65 (.bipush 11) 2 67 := ⟨at_65, rfl⟩
theorem L_67 : Dc code 67 (.bipush 91) 2 69 := ⟨at_67, rfl⟩
theorem L_69 : Dc code 69 (.castore) 1 70 := ⟨at_69, rfl⟩
theorem L_70 : Dc code 70 (.dup) 1 71 := ⟨at_70, rfl⟩
theorem L_71 : Dc code 71 (.bipush 12) 2 73 := ⟨at_71, rfl⟩
theorem L_73 : Dc code 73 (.bipush 96) 2 75 := ⟨at_73, rfl⟩
theorem L_75 : Dc code 75 (.castore) 1 76 := ⟨at_75, rfl⟩
theorem L_76 : Dc code 76 (.dup) 1 77 := ⟨at_76, rfl⟩
theorem L_77 : Dc code 77 (.bipush 13) 2 79 := ⟨at_77, rfl⟩
theorem L_79 : Dc code 79 (.bipush 123) 2 81 := ⟨at_79, rfl⟩
theorem L_81 : Dc code 81 (.castore) 1 82 := ⟨at_81, rfl⟩
theorem L_82 : Dc code 82 (.dup) 1 83 := ⟨at_82, rfl⟩
theorem L_83 : Dc code 83 (.bipush 14) 2 85 := ⟨at_83, rfl⟩
theorem L_85 : Dc code 85 (.bipush 47) 2 87 := ⟨at_85, rfl⟩
theorem L_87 : Dc code 87 (.castore) 1 88 := ⟨at_87, rfl⟩
theorem L_88 : Dc code 88 (.dup) 1 89 := ⟨at_88, rfl⟩
theorem L_89 : Dc code 89 (.bipush 15) 2 91 := ⟨at_89, rfl⟩
theorem L_91 : Dc code 91 (.bipush 44) 2 93 := ⟨at_91, rfl⟩
theorem L_93 : Dc code 93 (.castore) 1 94 := ⟨at_93, rfl⟩
theorem L_94 : Dc code 94 (.astore 6) 2 96 := ⟨at_94, rfl⟩
theorem L_96 : Dc code 96 (.iload_n 0) 1 97 := ⟨at_96, rfl⟩
theorem L_97 : Dc code 97 (.aload 6) 2 99 := ⟨at_97, rfl⟩
theorem L_99 : Dc code 99 (.invokestatic 15) 3 102 := ⟨at_99, rfl⟩
theorem L_102 : Dc code 102 (.istore 7) 2 104 := ⟨at_102, rfl⟩
theorem L_104 : Dc code 104 (.iload_n 1) 1 105 := ⟨at_104, rfl⟩
theorem L_105 : Dc code 105 (.aload 6) 2 107 := ⟨at_105, rfl⟩
theorem L_107 : Dc code 107 (.invokestatic 15) 3 110 := ⟨at_107, rfl⟩
theorem L_110 : Dc code 110 (.istore 8) 2 112 := ⟨at_110, rfl⟩
theorem L_112 : Dc code 112 (.iload_n 2) 1 113 := ⟨at_112, rfl⟩
theorem L_113 : Dc code 113 (.aload 6) 2 115 := ⟨at_113, rfl⟩
theorem L_115 : Dc code 115 (.invokestatic 15) 3 118 := ⟨at_115, rfl⟩
theorem L_118 : Dc code 118 (.istore 9) 2 120 := ⟨at_118, rfl⟩
theorem L_120 : Dc code 120 (.iload_n 3) 1 121 := ⟨at_120, rfl⟩
theorem L_121 : Dc code 121 (.aload 6) 2 123 := ⟨at_121, rfl⟩
theorem L_123 : Dc code 123 (.invokestatic 15) 3 126 := ⟨at_123, rfl⟩
theorem L_126 : Dc code 126 (.istore 10) 2 128 := ⟨at_126, rfl⟩
theorem L_128 : Dc code 128 (.iload 4) 2 130 := ⟨at_128, rfl⟩
theorem L_130 : Dc code 130 (.aload 6) 2 132 := ⟨at_130, rfl⟩
theorem L_132 : Dc code 132 (.invokestatic 15) 3 135 := ⟨at_132, rfl⟩
theorem L_135 : Dc code 135 (.istore 11) 2 137 := ⟨at_135, rfl⟩
theorem L_137 : Dc code 137 (.iconst 5) 1 138 := ⟨at_137, rfl⟩
theorem L_138 : Dc code 138 (.newarray .char) 2 140 := ⟨at_138, rfl⟩
theorem L_140 : Dc code 140 (.dup) 1 141 := ⟨at_140, rfl⟩
theorem L_141 : Dc code 141 (.iconst 0) 1 142 := ⟨at_141, rfl⟩
theorem L_142 : Dc code 142 (.iload 7) 2 144 := ⟨at_142, rfl⟩
theorem L_144 : Dc code 144 (.castore) 1 145 := ⟨at_144, rfl⟩
theorem L_145 : Dc code 145 (.dup) 1 146 := ⟨at_145, rfl⟩
theorem L_146 : Dc code 146 (.iconst 1) 1 147 := ⟨at_146, rfl⟩
theorem L_147 : Dc code 147 (.iload 8) 2 149 := ⟨at_147, rfl⟩
theorem L_149 : Dc code 149 (.castore) 1 150 := ⟨at_149, rfl⟩
theorem L_150 : Dc code 150 (.dup) 1 151 := ⟨at_150, rfl⟩
theorem L_151 : Dc code 151 (.iconst 2) 1 152 := ⟨at_151, rfl⟩
theorem L_152 : Dc code 152 (.iload 9) 2 154 := ⟨at_152, rfl⟩
theorem L_154 : Dc code 154 (.castore) 1 155 := ⟨at_154, rfl⟩
theorem L_155 : Dc code 155 (.dup) 1 156 := ⟨at_155, rfl⟩
theorem L_156 : Dc code 156 (.iconst 3) 1 157 := ⟨at_156, rfl⟩
theorem L_157 : Dc code 157 (.iload 10) 2 159 := ⟨at_157, rfl⟩
theorem L_159 : Dc code 159 (.castore) 1 160 := ⟨at_159, rfl⟩
theorem L_160 : Dc code 160 (.dup) 1 161 := ⟨at_160, rfl⟩
theorem L_161 : Dc code 161 (.iconst 4) 1 162 := ⟨at_161, rfl⟩
theorem L_162 : Dc code 162 (.iload 11) 2 164 := ⟨at_162, rfl⟩
theorem L_164 : Dc code 164 (.castore) 1 165 := ⟨at_164, rfl⟩
theorem L_165 : Dc code 165 (.astore 12) 2 167 := ⟨at_165, rfl⟩
theorem L_167 : Dc code 167 (.new 19) 3 170 := ⟨at_167, rfl⟩
theorem L_170 : Dc code 170 (.dup) 1 171 := ⟨at_170, rfl⟩
theorem L_171 : Dc code 171 (.aload 12) 2 173 := ⟨at_171, rfl⟩
theorem L_173 : Dc code 173 (.invokespecial 21) 3 176 := ⟨at_173, rfl⟩
theorem L_176 : Dc code 176 (.astore 13) 2 178 := ⟨at_176, rfl⟩
theorem L_178 : Dc code 178 (.iload 5) 2 180 := ⟨at_178, rfl⟩
theorem L_180 : Dc code 180 (.ldc 24) 2 182 := ⟨at_180, rfl⟩
theorem L_182 : Dc code 182 (.iand) 1 183 := ⟨at_182, rfl⟩
theorem L_183 : Dc code 183 (.bipush 6) 2 185 := ⟨at_183, rfl⟩
theorem L_185 : Dc code 185 (.irem) 1 186 := ⟨at_185, rfl⟩
theorem L_186 : Dc code 186 (.istore 14) 2 188 := ⟨at_186, rfl⟩
theorem L_188 : Dc code 188 (.aload 13) 2 190 := ⟨at_188, rfl⟩
theorem L_190 : Dc code 190 (.iload 14) 2 192 := ⟨at_190, rfl⟩
theorem L_192 : Dc code 192 (.invokestatic 25) 3 195 := ⟨at_192, rfl⟩
theorem L_195 : Dc code 195 (.istore 15) 2 197 := ⟨at_195, rfl⟩
theorem L_197 : Dc code 197 (.iload 14) 2 199 := ⟨at_197, rfl⟩
theorem L_199 : Db code 199 (.ifCond .le 15) (15) 202 214 := ⟨at_199, rfl, by decide, by decide⟩
theorem L_214 : Dc code 214 (.iconst 0) 1 215 := ⟨at_214, rfl⟩
theorem L_215 : Dc code 215 (.istore 16) 2 217 := ⟨at_215, rfl⟩
theorem L_217 : Dc code 217 (.iload 16) 2 219 := ⟨at_217, rfl⟩
theorem L_219 : Db code 219 (.ifCond .eq 22) (22) 222 241 := ⟨at_219, rfl, by decide, by decide⟩
theorem L_241 : Dc code 241 (.iload 16) 2 243 := ⟨at_241, rfl⟩
theorem L_243 : Db code 243 (.ifCond .eq 30) (30) 246 273 := ⟨at_243, rfl, by decide, by decide⟩
theorem L_273 : Dc code 273 (.iload 16) 2 275 := ⟨at_273, rfl⟩
theorem L_275 : Db code 275 (.ifCond .eq 38) (38) 278 313 := ⟨at_275, rfl, by decide, by decide⟩
theorem L_313 : Dc code 313 (.iload 16) 2 315 := ⟨at_313, rfl⟩
theorem L_315 : Db code 315 (.ifCond .eq 46) (46) 318 361 := ⟨at_315, rfl, by decide, by decide⟩
theorem L_361 : Dc code 361 (.iconst 0) 1 362 := ⟨at_361, rfl⟩
theorem L_362 : Dc code 362 (.istore 17) 2 364 := ⟨at_362, rfl⟩
theorem L_364 : Dc code 364 (.iload 15) 2 366 := ⟨at_364, rfl⟩
theorem L_366 : Dc code 366 (.iload 17) 2 368 := ⟨at_366, rfl⟩
theorem L_368 : Db code 368 (.if_icmp .ne 7) (7) 371 375 := ⟨at_368, rfl, by decide, by decide⟩
theorem L_371 : Dc code 371 (.iconst 1) 1 372 := ⟨at_371, rfl⟩
theorem L_372 : Db code 372 (.goto 4) (4) 375 376 := ⟨at_372, rfl, by decide, by decide⟩
theorem L_376 : Dc code 376 (.ireturn) 1 377 := ⟨at_376, rfl⟩
theorem L_202 : Dc code 202 (.iload 7) 2 204 := ⟨at_202, rfl⟩
theorem L_204 : Dc code 204 (.invokestatic 9) 3 207 := ⟨at_204, rfl⟩
theorem L_207 : Db code 207 (.ifCond .eq 7) (7) 210 214 := ⟨at_207, rfl, by decide, by decide⟩
theorem L_210 : Dc code 210 (.iconst 1) 1 211 := ⟨at_210, rfl⟩
theorem L_211 : Db code 211 (.goto 4) (4) 214 215 := ⟨at_211, rfl, by decide, by decide⟩
theorem L_222 : Dc code 222 (.iload 14) 2 224 := ⟨at_222, rfl⟩
theorem L_224 : Dc code 224 (.iconst 1) 1 225 := ⟨at_224, rfl⟩
theorem L_225 : Db code 225 (.if_icmp .le 16) (16) 228 241 := ⟨at_225, rfl, by decide, by decide⟩
theorem L_246 : Dc code 246 (.iload 14) 2 248 := ⟨at_246, rfl⟩
theorem L_248 : Dc code 248 (.iconst 2) 1 249 := ⟨at_248, rfl⟩
theorem L_249 : Db code 249 (.if_icmp .le 24) (24) 252 273 := ⟨at_249, rfl, by decide, by decide⟩
theorem L_278 : Dc code 278 (.iload 14) 2 280 := ⟨at_278, rfl⟩
theorem L_280 : Dc code 280 (.iconst 3) 1 281 := ⟨at_280, rfl⟩
theorem L_281 : Db code 281 (.if_icmp .le 32) (32) 284 313 := ⟨at_281, rfl, by decide, by decide⟩
theorem L_318 : Dc code 318 (.iload 14) 2 320 := ⟨at_318, rfl⟩
theorem L_320 : Dc code 320 (.iconst 4) 1 321 := ⟨at_320, rfl⟩
theorem L_321 : Db code 321 (.if_icmp .le 40) (40) 324 361 := ⟨at_321, rfl, by decide, by decide⟩
theorem L_228 : Dc code 228 (.iload 8) 2 230 := ⟨at_228, rfl⟩
theorem L_230 : Dc code 230 (.bipush 58) 2 232 := ⟨at_230, rfl⟩
theorem L_232 : Db code 232 (.if_icmp .ne 9) (9) 235 241 := ⟨at_232, rfl, by decide, by decide⟩
theorem L_235 : Dc code 235 (.iconst 2) 1 236 := ⟨at_235, rfl⟩
theorem L_236 : Dc code 236 (.istore 17) 2 238 := ⟨at_236, rfl⟩
theorem L_238 : Db code 238 (.goto 126) (126) 241 364 := ⟨at_238, rfl, by decide, by decide⟩
theorem L_252 : Dc code 252 (.iload 8) 2 254 := ⟨at_252, rfl⟩
theorem L_254 : Dc code 254 (.invokestatic 31) 3 257 := ⟨at_254, rfl⟩
theorem L_257 : Db code 257 (.ifCond .eq 16) (16) 260 273 := ⟨at_257, rfl, by decide, by decide⟩
theorem L_260 : Dc code 260 (.iload 9) 2 262 := ⟨at_260, rfl⟩
theorem L_262 : Dc code 262 (.bipush 58) 2 264 := ⟨at_262, rfl⟩
theorem L_264 : Db code 264 (.if_icmp .ne 9) (9) 267 273 := ⟨at_264, rfl, by decide, by decide⟩
theorem L_267 : Dc code 267 (.iconst 3) 1 268 := ⟨at_267, rfl⟩
theorem L_268 : Dc code 268 (.istore 17) 2 270 := ⟨at_268, rfl⟩
theorem L_270 : Db code 270 (.goto 94) (94) 273 364 := ⟨at_270, rfl, by decide, by decide⟩
theorem L_284 : Dc code 284 (.iload 8) 2 286 := ⟨at_284, rfl⟩
theorem L_286 : Dc code 286 (.invokestatic 31) 3 289 := ⟨at_286, rfl⟩
theorem L_289 : Db code 289 (.ifCond .eq 24) (24) 292 313 := ⟨at_289, rfl, by decide, by decide⟩
theorem L_292 : Dc code 292 (.iload 9) 2 294 := ⟨at_292, rfl⟩
theorem L_294 : Dc code 294 (.invokestatic 31) 3 297 := ⟨at_294, rfl⟩
theorem L_297 : Db code 297 (.ifCond .eq 16) (16) 300 313 := ⟨at_297, rfl, by decide, by decide⟩
theorem L_300 : Dc code 300 (.iload 10) 2 302 := ⟨at_300, rfl⟩
theorem L_302 : Dc code 302 (.bipush 58) 2 304 := ⟨at_302, rfl⟩
theorem L_304 : Db code 304 (.if_icmp .ne 9) (9) 307 313 := ⟨at_304, rfl, by decide, by decide⟩
theorem L_307 : Dc code 307 (.iconst 4) 1 308 := ⟨at_307, rfl⟩
theorem L_308 : Dc code 308 (.istore 17) 2 310 := ⟨at_308, rfl⟩
theorem L_310 : Db code 310 (.goto 54) (54) 313 364 := ⟨at_310, rfl, by decide, by decide⟩
theorem L_324 : Dc code 324 (.iload 8) 2 326 := ⟨at_324, rfl⟩
theorem L_326 : Dc code 326 (.invokestatic 31) 3 329 := ⟨at_326, rfl⟩
theorem L_329 : Db code 329 (.ifCond .eq 32) (32) 332 361 := ⟨at_329, rfl, by decide, by decide⟩
theorem L_332 : Dc code 332 (.iload 9) 2 334 := ⟨at_332, rfl⟩
theorem L_334 : Dc code 334 (.invokestatic 31) 3 337 := ⟨at_334, rfl⟩
theorem L_337 : Db code 337 (.ifCond .eq 24) (24) 340 361 := ⟨at_337, rfl, by decide, by decide⟩
theorem L_340 : Dc code 340 (.iload 10) 2 342 := ⟨at_340, rfl⟩
theorem L_342 : Dc code 342 (.invokestatic 31) 3 345 := ⟨at_342, rfl⟩
theorem L_345 : Db code 345 (.ifCond .eq 16) (16) 348 361 := ⟨at_345, rfl, by decide, by decide⟩
theorem L_348 : Dc code 348 (.iload 11) 2 350 := ⟨at_348, rfl⟩
theorem L_350 : Dc code 350 (.bipush 58) 2 352 := ⟨at_350, rfl⟩
theorem L_352 : Db code 352 (.if_icmp .ne 9) (9) 355 361 := ⟨at_352, rfl, by decide, by decide⟩
theorem L_355 : Dc code 355 (.iconst 5) 1 356 := ⟨at_355, rfl⟩
theorem L_356 : Dc code 356 (.istore 17) 2 358 := ⟨at_356, rfl⟩
theorem L_358 : Db code 358 (.goto 6) (6) 361 364 := ⟨at_358, rfl, by decide, by decide⟩
theorem pd0 : parseMethodDescriptor "(I)I" = some ⟨[.int], some .int⟩ := by decide +kernel
theorem pd1 : parseMethodDescriptor "(I)[B" = some ⟨[.int], some (.array .byte)⟩ := by decide +kernel
theorem pd2 : parseMethodDescriptor "([BII)V" = some ⟨[(.array .byte), .int, .int], none⟩ := by decide +kernel
theorem pd3 : parseMethodDescriptor "([CI[BII)I" = some ⟨[(.array .char), .int, (.array .byte), .int, .int], some .int⟩ := by decide +kernel
theorem pd4 : parseMethodDescriptor "([CII)[B" = some ⟨[(.array .char), .int, .int], some (.array .byte)⟩ := by decide +kernel
theorem pd5 : parseMethodDescriptor "([BI)C" = some ⟨[(.array .byte), .int], some .char⟩ := by decide +kernel
theorem pd6 : parseMethodDescriptor "([BI)B" = some ⟨[(.array .byte), .int], some .byte⟩ := by decide +kernel
theorem pd7 : parseMethodDescriptor "([CIILjava/lang/Void;)V" = some ⟨[(.array .char), .int, .int, (.object "java/lang/Void")], none⟩ := by decide +kernel
theorem pd8 : parseMethodDescriptor "(IILjava/util/function/BiFunction;)I" = some ⟨[.int, .int, (.object "java/util/function/BiFunction")], some .int⟩ := by decide +kernel
theorem pd9 : parseMethodDescriptor "([B)I" = some ⟨[(.array .byte)], some .int⟩ := by decide +kernel
theorem pd10 : parseMethodDescriptor "(II)V" = some ⟨[.int, .int], none⟩ := by decide +kernel
theorem pd11 : parseMethodDescriptor "(I[B)V" = some ⟨[.int, (.array .byte)], none⟩ := by decide +kernel
theorem pd12 : parseMethodDescriptor "()Z" = some ⟨[], some .boolean⟩ := by decide +kernel
theorem pd13 : parseMethodDescriptor "(C)Z" = some ⟨[.char], some .boolean⟩ := by decide +kernel
theorem pd14 : parseMethodDescriptor "(I)C" = some ⟨[.int], some .char⟩ := by decide +kernel
theorem pd15 : parseMethodDescriptor "(I[C)C" = some ⟨[.int, (.array .char)], some .char⟩ := by decide +kernel
theorem pd16 : parseMethodDescriptor "([C)V" = some ⟨[(.array .char)], none⟩ := by decide +kernel
theorem pd17 : parseMethodDescriptor "(Ljava/lang/String;I)I" = some ⟨[(.object "java/lang/String"), .int], some .int⟩ := by decide +kernel
theorem pn0 : plainName "java/lang/StringUTF16" = true := by first | (simp [plainName, overriddenIn]; done) | decide +kernel
theorem pn1 : plainName "java/lang/String" = true := by first | (simp [plainName, overriddenIn]; done) | decide +kernel
theorem pn2 : plainName "jdk/internal/util/Preconditions" = true := by first | (simp [plainName, overriddenIn]; done) | decide +kernel
theorem pn3 : plainName "com/example/disallow/disallow/UrlPath" = true := by first | (simp [plainName, overriddenIn]; done) | decide +kernel
theorem pn4 : plainName "com/example/disallow/disallow/UrlPathSchemeLengthPinLaw" = true := by first | (simp [plainName, overriddenIn]; done) | decide +kernel
def StrL (Z : State) (h : Heap) (x : Addr) (cs : List Int32) : Prop := ∃ (t : Addr) (kb : ClassId), Exa Z h x "java/lang/String" ∧ Fld Z h x "java/lang/String" "coder" "B" (.int 0) ∧ Fld Z h x "java/lang/String" "value" "[B" (.ref t) ∧ Arv Z h t kb .byte (Int32.ofNat cs.length) ((cs.map StrChars.lo8).map Value.int) (.int 0) ∧ (∀ c ∈ cs, ¬ c < 0 ∧ ¬ (255 : Int32) < c) ∧ cs.length ≤ 4000
theorem StrL.ext {Z : State} {h h' : Heap} {x : Addr} {cs : List Int32} (E : Ext h h') (S : StrL Z h x cs) : StrL Z h' x cs := by
  obtain ⟨t, kb, a, b, c, d, e, f⟩ := S
  exact ⟨t, kb, a.ext E, b.ext E, c.ext E, d.ext E, e, f⟩
theorem StrL.exa {Z : State} {h : Heap} {x : Addr} {cs : List Int32} (S : StrL Z h x cs) : Exa Z h x "java/lang/String" := by obtain ⟨t, kb, a, -⟩ := S; exact a
theorem StrL.up {Z : State} {h : Heap} {x : Addr} {cs : List Int32} (S : StrL Z h x cs) : ∀ c ∈ cs, ¬ c < 0 ∧ ¬ (65535 : Int32) < c := by obtain ⟨t, kb, -, -, -, -, e, -⟩ := S; exact fun c hc => ⟨(e c hc).1, ch_up (e c hc).2⟩

theorem hws_new {Z : State} {a0 : Array Value} (hw : ∀ d ∈ tables_1, d.before a0 Z = true) : ∀ d ∈ StrChars.Road.words, d.before a0 Z = true := fun d hd => hw d ((by decide +kernel : ∀ d ∈ StrChars.Road.words, d ∈ tables_1) d hd)

theorem hws_ch {Z : State} {a0 : Array Value} (hw : ∀ d ∈ tables_1, d.before a0 Z = true) : ∀ d ∈ StrChars.Road.wordsChN, d.before a0 Z = true := fun d hd => hw d ((by decide +kernel : ∀ d ∈ StrChars.Road.wordsChN, d ∈ tables_1) d hd)

theorem cal_strN {md : Option EList} {p : Program} {l : Launch} {e : Env} {R : Room} {args : Array Value} {below : List Frame} {W : Nat} {Z : State} {a0 : Array Value} {h : Heap} {n0 : Nat} (hw : ∀ d ∈ tables_1, d.before a0 Z = true) {x b : Addr} {kC : ClassId} {cs : List Int32} {d v0 c0 : Value} {z : Int32} (n : Nat)
    (hx0 : n0 ≤ x) (hh0 : n0 ≤ h.size) (E : Exa Z h x "java/lang/String") (V : Fld Z h x "java/lang/String" "value" "[B" v0) (C : Fld Z h x "java/lang/String" "coder" "B" c0) (K : Arv Z h b kC .char (Int32.ofNat n) (cs.map Value.int) d) (S : Sta Z h "java/lang/String" "COMPACT_STRINGS" "Z" (.int z)) (hz : ¬ z = 0)
    (hn : cs.length = n) (l0 : 0 < n) (l2 : n ≤ 4000) (hp : ∀ c ∈ cs, ¬ c < 0 ∧ ¬ (255 : Int32) < c) (hfr : 4 ≤ R.frames) (hlo : W + 65 ≤ R.locals) :
    Cal md l R p e below args (⟨"java/lang/String", "<init>", "([C)V"⟩ : MethodName) 3 W Z n0 h [x] #[.ref x, .ref b] 1 n (fun v h' => v = none ∧ StrL Z h' x cs) :=
  Cal.ofBack (fun s' hZ => StrChars.Road.backV (W := W) hZ (hws_new hw) (kI := 4) (hw _ (List.mem_of_getElem? (i := 8) rfl)) (cs := cs) (bs := cs.map fun c => c.toInt8.toInt32) (n := n) (n0 := n0) hx0 hh0 E V C K S hz hn rfl l0 l2 hp rfl hfr hlo)
    (fun v h' L q => by
      obtain ⟨q1, q2, q3, q4, q5, t, kb, q6, q7, q8, q9, q10⟩ := q
      subst hn
      exact ⟨⟨q1, t, kb, q4, q5, q9, q10, hp, l2⟩, q3, q2⟩)

theorem cal_ch {md : Option EList} {p : Program} {l : Launch} {e : Env} {R : Room} {args : Array Value} {below : List Frame} {W : Nat} {Z : State} {a0 : Array Value} {h : Heap} {n0 : Nat} (hw : ∀ d ∈ tables_1, d.before a0 Z = true) {x : Addr} {cs : List Int32} {z : Int32} {fm : Value} {j : Int32} (i : Nat) (A : StrL Z h x cs) (S : Sta Z h "java/lang/String" "COMPACT_STRINGS" "Z" (.int z)) (hz : ¬ z = 0) (Sf : Sta Z h "jdk/internal/util/Preconditions" "SIOOBE_FORMATTER" "Ljava/util/function/BiFunction;" fm) (rf : fm.isRef = true) (hi : i < cs.length) (hj : j = Int32.ofNat i) (hfr : 4 ≤ R.frames) (hlo : W + 53 ≤ R.locals) :
    Cal md l R p e below args (⟨"java/lang/String", "charAt", "(I)C"⟩ : MethodName) 3 W Z n0 h [] #[.ref x, .int j] 0 0 (fun v h' => v = some (.int (cs.getD i 0))) := by
  have u1 := A.up
  obtain ⟨t, kb, a1, a2, a3, a4, a5, a6⟩ := A
  refine Cal.ofBack (Q := fun v h' L => v = some (.int (cs.getD i 0)) ∧ L = [] ∧ h' = h) (fun s' hZ => StrChars.Road.chN (W := W) hZ (hws_ch hw) (kI := 4) (hw _ (List.mem_of_getElem? (i := 8) rfl)) a1 a3 a2 a4 (StrChars.Road.codOf rfl fun c hc => (a5 c hc).2) u1 S hz Sf rf a6 hi hj hfr hlo) (fun v h' L q => ?_)
  obtain ⟨q1, rfl, rfl⟩ := q
  exact ⟨q1, Keep.refl _ _, Fr.nil _⟩

def StrU (Z : State) (h : Heap) (x : Addr) (cs : List Int32) : Prop := ∃ (t : Addr) (kb : ClassId), Exa Z h x "java/lang/String" ∧ Fld Z h x "java/lang/String" "coder" "B" (.int 1) ∧ Fld Z h x "java/lang/String" "value" "[B" (.ref t) ∧ Arv Z h t kb .byte (Int32.ofNat (2 * cs.length)) (StrChars.Road.wideBytes cs) (.int 0) ∧ (∀ c ∈ cs, ¬ c < 0 ∧ ¬ (65535 : Int32) < c) ∧ (∃ c ∈ cs, (255 : Int32) < c) ∧ cs.length ≤ 4000
theorem StrU.ext {Z : State} {h h' : Heap} {x : Addr} {cs : List Int32} (E : Ext h h') (S : StrU Z h x cs) : StrU Z h' x cs := by
  obtain ⟨t, kb, a, b, c, d, e⟩ := S
  exact ⟨t, kb, a.ext E, b.ext E, c.ext E, d.ext E, e⟩
def StrA (Z : State) (h : Heap) (x : Addr) (cs : List Int32) : Prop := StrL Z h x cs ∨ StrU Z h x cs
theorem StrA.ext {Z : State} {h h' : Heap} {x : Addr} {cs : List Int32} (E : Ext h h') (S : StrA Z h x cs) : StrA Z h' x cs := S.imp (fun q => q.ext E) (fun q => q.ext E)
theorem StrA.exa {Z : State} {h : Heap} {x : Addr} {cs : List Int32} (S : StrA Z h x cs) : Exa Z h x "java/lang/String" := by
  rcases S with ⟨t, kb, a, -⟩ | ⟨t, kb, a, -⟩ <;> exact a
theorem StrA.up {Z : State} {h : Heap} {x : Addr} {cs : List Int32} (S : StrA Z h x cs) : ∀ c ∈ cs, ¬ c < 0 ∧ ¬ (65535 : Int32) < c := by
  rcases S with q | ⟨t, kb, -, -, -, -, e, -⟩
  · exact q.up
  · exact e
theorem StrA.le {Z : State} {h : Heap} {x : Addr} {cs : List Int32} (S : StrA Z h x cs) : cs.length ≤ 4000 := by
  rcases S with ⟨t, kb, -, -, -, -, -, e⟩ | ⟨t, kb, -, -, -, -, -, -, e⟩ <;> exact e
/-- StringUTF16's three statics, as the sheet says them -/
def US (Z : State) (h : Heap) : Prop := Sta Z h "java/lang/StringUTF16" "$assertionsDisabled" "Z" (.int 1) ∧ Sta Z h "java/lang/StringUTF16" "HI_BYTE_SHIFT" "I" (.int 0) ∧ Sta Z h "java/lang/StringUTF16" "LO_BYTE_SHIFT" "I" (.int 8)
theorem US.ext {Z : State} {h h' : Heap} (E : Ext h h') (u : US Z h) : US Z h' := ⟨u.1.ext E, u.2.1.ext E, u.2.2.ext E⟩
theorem US.kp {Z : State} {h h' : Heap} {ws : List Addr} (u : US Z h) (K : Keep h h' ws) (hn : ∀ x ∈ ws, ∀ cell : Cell, h[x]? = some cell → cell.vm.isStatics = false) : US Z h' := ⟨Sta.kp u.1 K hn, Sta.kp u.2.1 K hn, Sta.kp u.2.2 K hn⟩

set_option maxRecDepth 65536 in
set_option maxHeartbeats 40000000 in
theorem c_nbl5 (l : Launch) (Z : State) (a0 : Array Value) (hw : ∀ d ∈ tables_1, d.before a0 Z = true) (h0 : Heap) (n0 : Nat) (Z0 : n0 ≤ h0.size)  :
    Con none l (⟨"java/lang/StringUTF16", "newBytesLength", "(I)I"⟩ : MethodName) jdk_52_method_3_code 1 (some .int) [] ({ frames := 0, cells := 0, slots := 0, locals := 0 } : Room) Z n0 h0 [] #[(.int (5 : Int32))] (fun v h => v = some (.int (10 : Int32))) := by
  refine Con.intro pn0 Z0 (fun _ q => nomatch q) trivial #[.val (.int (5 : Int32))] (fun m => by first | (simp [entryFrame, mkF, argsToLocals, Value.category]; done) | rfl) ?_
  intro p e s m below meth c T0 hlk hret hnm K0
  have P0 := Keep.refl h0 []
  refine gIloadN K0 b17_0 (v := (5 : Int32)) rfl ?_
  refine gIf_ge K0 b17_1 (fun q1 => ?_) (fun q => absurd q (by first | decide | (intro hh; cases hh) | simp))
  refine gIloadN K0 b17_12 (v := (5 : Int32)) rfl ?_
  refine gLdcI K0 (1073741823 : Int32) b17_13 (hw _ (List.mem_of_getElem? (i := 78) rfl)) ?_
  refine gIcmp_lt K0 b17_15 (fun q15 => ?_) (fun q => absurd q (by first | decide | (intro hh; cases hh) | simp))
  refine gIloadN K0 b17_55 (v := (5 : Int32)) rfl ?_
  refine gIconst K0 (1 : Int32) b17_56 rfl ?_
  refine gIshlV K0 (10 : Int32) b17_57 (by decide) ?_
  refine gRetI K0 hlk hret (by simp) b17_58 rfl P0 (by decide) (by decide) ?_
  exact rfl
set_option maxRecDepth 65536 in
set_option maxHeartbeats 40000000 in
theorem c_nbf5 (l : Launch) (Z : State) (a0 : Array Value) (hw : ∀ d ∈ tables_1, d.before a0 Z = true) (h0 : Heap) (n0 : Nat) (Z0 : n0 ≤ h0.size)  :
    Con none l (⟨"java/lang/StringUTF16", "newBytesFor", "(I)[B"⟩ : MethodName) jdk_52_method_2_code 1 (some (.array .byte)) [] ({ frames := 1, cells := 1, slots := 10, locals := 12 } : Room) Z n0 h0 [] #[(.int (5 : Int32))] (fun v h => ∃ (b : Addr) (kA : ClassId), v = some (.ref b) ∧ h0.size ≤ b ∧ Arv Z h b kA .byte (10 : Int32) [] (.int 0)) := by
  refine Con.intro pn0 Z0 (fun _ q => nomatch q) trivial #[.val (.int (5 : Int32))] (fun m => by first | (simp [entryFrame, mkF, argsToLocals, Value.category]; done) | rfl) ?_
  intro p e s m below meth c T0 hlk hret hnm K0
  have P0 := Keep.refl h0 []
  refine gIloadN K0 b16_0 (v := (5 : Int32)) rfl ?_
  refine gCallS K0 (W := 0) [(.int (5 : Int32))] [] b16_1 (hw _ (List.mem_of_getElem? (i := 75) rfl)) (hw _ (List.mem_of_getElem? (i := 76) rfl)) (hw _ (List.mem_of_getElem? (i := 23) rfl)) (hw _ (List.mem_of_getElem? (i := 77) rfl)) (Cal.ofN (W := 0) (c_nbl5 l Z a0 hw h0 n0 K0.n0le) (hw _ (List.mem_of_getElem? (i := 77) rfl)) (hw _ (List.mem_of_getElem? (i := 23) rfl)) (by decide) (by decide)) (fun _ q => nomatch q) pd0 rfl rfl (Nat.le_of_eq rfl) rfl (by decide) (by decide) (by decide) (fun v101 T101 h101 K101 Q101 q101 => ?_)
  have E101 := Ext.of0 Q101
  have P102 := P0.ext E101
  cases q101
  refine gNewarr K101 b16_4 (hw _ (List.mem_of_getElem? (i := 25) rfl)) (by decide) 10 (by decide) (by decide) (by decide) (by decide) (fun T103 h103 x103 kA103 K103 E103 g103 A103 ne103 => ?_)
  have P104 := P102.ext E103
  have ge_x103 : h0.size ≤ x103 := by rw [g103]; exact P102.1
  refine gRetA K103 hlk hret rfl rfl b16_6 P104 (by decide) (by decide) ?_
  exact ⟨_, _, rfl, ge_x103, A103⟩
set_option maxRecDepth 65536 in
set_option maxHeartbeats 40000000 in
theorem c_putChar (l : Launch) (Z : State) (a0 : Array Value) (hw : ∀ d ∈ tables_1, d.before a0 Z = true) (h0 : Heap) (n0 : Nat) (Z0 : n0 ≤ h0.size) (bb : Addr) (kA : ClassId) (vs : List Value) (k N : Nat) (cc : Int32) (gb : n0 ≤ bb) (Ab : Arv Z h0 bb kA .byte (Int32.ofNat (2 * N)) vs (.int 0)) (hl : vs.length = 2 * k) (hk : k < N) (hN : N ≤ 4000) (u : US Z h0) :
    Con none l (⟨"java/lang/StringUTF16", "putChar", "([BII)V"⟩ : MethodName) jdk_52_method_4_code 3 none [] ({ frames := 0, cells := 0, slots := 0, locals := 0 } : Room) Z n0 h0 [bb] #[(.ref bb), (.int (Int32.ofNat k)), (.int cc)] (fun v h => v = none ∧ Arv Z h bb kA .byte (Int32.ofNat (2 * N)) ((vs ++ [.int (StrChars.lo8 cc)]) ++ [.int (StrChars.hi8 cc)]) (.int 0)) := by
  refine Con.intro pn0 Z0 (allS ⟨gb, Ab.lt⟩ all0) trivial #[.val (.ref bb), .val (.int (Int32.ofNat k)), .val (.int cc)] (fun m => by first | (simp [entryFrame, mkF, argsToLocals, Value.category]; done) | rfl) ?_
  intro p e s m below meth c T0 hlk hret hnm K0
  have P0 := Keep.refl h0 [bb]
  refine gGetS K0 b18_0 (hw _ (List.mem_of_getElem? (i := 82) rfl)) u.1 (fun T101 K101 => ?_)
  refine gIf_ne K101 b18_3 (fun q3 => ?_) (fun q => absurd q (by first | decide | (intro hh; cases hh) | simp))
  refine gIloadN K101 b18_28 (v := (Int32.ofNat k)) rfl ?_
  refine gIconst K101 (1 : Int32) b18_29 rfl ?_
  refine gIshl K101 b18_30 ?_
  rw [show ((Int32.ofNat k) <<< ((1 : Int32) &&& 31)) = Int32.ofNat (2 * k) from shl1 (by omega)]
  refine gIstoreN K101 b18_31 (Ls' := #[.val (.ref bb), .val (.int (Int32.ofNat (2 * k))), .val (.int cc)]) rfl ?_
  refine gAloadN K101 b18_32 (v := (.ref bb)) rfl rfl ?_
  refine gIloadN K101 b18_33 (v := (Int32.ofNat (2 * k))) rfl ?_
  refine gIinc K101 (1 : Int32) b18_34 rfl (x := (Int32.ofNat (2 * k))) rfl (Ls' := #[.val (.ref bb), .val (.int ((Int32.ofNat (2 * k)) + (1 : Int32))), .val (.int cc)]) rfl ?_
  rw [show ((Int32.ofNat (2 * k)) + (1 : Int32)) = Int32.ofNat (2 * k + 1) from ofNat_s (by omega)]
  refine gIloadN K101 b18_37 (v := cc) rfl ?_
  refine gGetS K101 b18_38 (hw _ (List.mem_of_getElem? (i := 83) rfl)) u.2.1 (fun T102 K102 => ?_)
  refine gIshr K102 b18_41 ?_
  refine gI2b K102 b18_42 ?_
  refine gBastore K102 b18_43 (List.mem_of_getElem? (i := 0) rfl) Ab ((ofNat_clamp (by omega)).trans hl.symm) ⟨ofNat_nn (by omega), ofNat_ltI (by omega) (by omega)⟩ (fun T103 h103 K103 Q103 A103 => ?_)
  have u103 := US.kp u Q103 (nsS (Arv.nostat Ab) ns0)
  rw [show nar .byte ((cc >>> ((0 : Int32) &&& 31))).toInt8.toInt32 = StrChars.lo8 cc from (by rw [shr0]; exact nar_b2 cc)] at A103
  have P104 := P0.trans Q103 (fun z q => by cases List.mem_singleton.mp q; exact Or.inl (List.mem_of_getElem? (i := 0) rfl))
  refine gAloadN K103 b18_44 (v := (.ref bb)) rfl rfl ?_
  refine gIloadN K103 b18_45 (v := (Int32.ofNat (2 * k + 1))) rfl ?_
  refine gIloadN K103 b18_46 (v := cc) rfl ?_
  refine gGetS K103 b18_47 (hw _ (List.mem_of_getElem? (i := 84) rfl)) (u103).2.2 (fun T105 K105 => ?_)
  refine gIshr K105 b18_50 ?_
  refine gI2b K105 b18_51 ?_
  refine gBastore K105 b18_52 (List.mem_of_getElem? (i := 0) rfl) A103 ((ofNat_clamp (by omega)).trans (by simp [hl])) ⟨ofNat_nn (by omega), ofNat_ltI (by omega) (by omega)⟩ (fun T106 h106 K106 Q106 A106 => ?_)
  rw [show nar .byte ((cc >>> ((8 : Int32) &&& 31))).toInt8.toInt32 = StrChars.hi8 cc from nar_b2 _] at A106
  have P107 := P104.trans Q106 (fun z q => by cases List.mem_singleton.mp q; exact Or.inl (List.mem_of_getElem? (i := 0) rfl))
  refine gRetV K106 hlk hret b18_53 P107 (by decide) (by decide) ?_
  exact ⟨rfl, A106⟩
set_option maxRecDepth 65536 in
set_option maxHeartbeats 40000000 in
theorem c_toB5 (l : Launch) (Z : State) (a0 : Array Value) (hw : ∀ d ∈ tables_1, d.before a0 Z = true) (h0 : Heap) (n0 : Nat) (Z0 : n0 ≤ h0.size) (ca : Addr) (kC : ClassId) (dv : Value) (c0 c1 c2 c3 c4 : Int32) (Ac : Arv Z h0 ca kC .char (5 : Int32) [.int c0, .int c1, .int c2, .int c3, .int c4] dv)  (u : US Z h0) :
    Con none l (⟨"java/lang/StringUTF16", "toBytes", "([CII)[B"⟩ : MethodName) jdk_52_method_14_code 5 (some (.array .byte)) [] ({ frames := 2, cells := 1, slots := 10, locals := 24 } : Room) Z n0 h0 [] #[(.ref ca), (.int (0 : Int32)), (.int (5 : Int32))] (fun v h => ∃ (b : Addr) (kA : ClassId), v = some (.ref b) ∧ h0.size ≤ b ∧ Arv Z h b kA .byte (Int32.ofNat (2 * 5)) (StrChars.Road.wideBytes [c0, c1, c2, c3, c4]) (.int 0)) := by
  refine Con.intro pn0 Z0 (fun _ q => nomatch q) trivial #[.val (.ref ca), .val (.int (0 : Int32)), .val (.int (5 : Int32)), .unset, .unset] (fun m => by first | (simp [entryFrame, mkF, argsToLocals, Value.category]; done) | rfl) ?_
  intro p e s m below meth c T0 hlk hret hnm K0
  have P0 := Keep.refl h0 []
  refine gIloadN K0 b15_0 (v := (5 : Int32)) rfl ?_
  refine gCallS K0 (W := 0) [(.int (5 : Int32))] [] b15_1 (hw _ (List.mem_of_getElem? (i := 72) rfl)) (hw _ (List.mem_of_getElem? (i := 73) rfl)) (hw _ (List.mem_of_getElem? (i := 23) rfl)) (hw _ (List.mem_of_getElem? (i := 74) rfl)) (Cal.ofN (W := 0) (c_nbf5 l Z a0 hw h0 n0 K0.n0le) (hw _ (List.mem_of_getElem? (i := 74) rfl)) (hw _ (List.mem_of_getElem? (i := 23) rfl)) (by decide) (by decide)) (fun _ q => nomatch q) pd1 rfl rfl (Nat.le_of_eq rfl) rfl (by decide) (by decide) (by decide) (fun v101 T101 h101 K101 Q101 q101 => ?_)
  have E101 := Ext.of0 Q101
  have P102 := P0.ext E101
  obtain ⟨bb, kb, rfl, gb, Ab⟩ := q101
  have K103 := Cx.addN K101 (Nat.le_trans Z0 gb) Ab.lt
  refine gAstoreN K103 b15_4 rfl (Ls' := #[.val (.ref ca), .val (.int (0 : Int32)), .val (.int (5 : Int32)), .val (.ref bb), .unset]) rfl ?_
  refine gIconst K103 (0 : Int32) b15_5 rfl ?_
  refine gIstore K103 b15_6 (Ls' := #[.val (.ref ca), .val (.int (0 : Int32)), .val (.int (5 : Int32)), .val (.ref bb), .val (.int (0 : Int32))]) rfl ?_
  refine gIload K103 b15_8 (v := (0 : Int32)) rfl ?_
  refine gIloadN K103 b15_10 (v := (5 : Int32)) rfl ?_
  refine gIcmp_ge K103 b15_11 (fun q => absurd q (by first | decide | (intro hh; cases hh) | simp)) (fun q11 => ?_)
  refine gAloadN K103 b15_14 (v := (.ref bb)) rfl rfl ?_
  refine gIload K103 b15_15 (v := (0 : Int32)) rfl ?_
  refine gAloadN K103 b15_17 (v := (.ref ca)) rfl rfl ?_
  refine gIloadN K103 b15_18 (v := (0 : Int32)) rfl ?_
  refine gCaload K103 b15_19 (Ac.ext E101) (by decide) (v := .int c0) rfl ?_
  refine gCallS K103 (W := 0) [(.ref bb), (.int (0 : Int32)), (.int c0)] [] b15_20 (hw _ (List.mem_of_getElem? (i := 79) rfl)) (hw _ (List.mem_of_getElem? (i := 80) rfl)) (hw _ (List.mem_of_getElem? (i := 23) rfl)) (hw _ (List.mem_of_getElem? (i := 81) rfl)) (Cal.ofN (W := 0) (c_putChar l Z a0 hw h101 n0 K103.n0le bb kb _ 0 5 c0 (Nat.le_trans Z0 gb) Ab rfl (by decide) (by decide) (u.ext E101)) (hw _ (List.mem_of_getElem? (i := 81) rfl)) (hw _ (List.mem_of_getElem? (i := 23) rfl)) (by decide) (by decide)) (fun z q => by cases List.mem_singleton.mp q; exact (List.mem_of_getElem? (i := 0) rfl)) pd2 rfl rfl (Nat.le_of_eq rfl) rfl (by decide) (by decide) (by decide) (fun v104 T104 h104 K104 Q104 q104 => ?_)
  have P105 := P102.trans Q104 (fun z q => by cases List.mem_singleton.mp q; exact Or.inr gb)
  obtain ⟨rfl, A104⟩ := q104
  have u104 := US.kp (u.ext E101) Q104 (nsS (Arv.nostat Ab) ns0)
  refine gIinc K104 (1 : Int32) b15_23 rfl (x := (0 : Int32)) rfl (Ls' := #[.val (.ref ca), .val (.int (1 : Int32)), .val (.int (5 : Int32)), .val (.ref bb), .val (.int (0 : Int32))]) rfl ?_
  refine gIinc K104 (1 : Int32) b15_26 rfl (x := (0 : Int32)) rfl (Ls' := #[.val (.ref ca), .val (.int (1 : Int32)), .val (.int (5 : Int32)), .val (.ref bb), .val (.int (1 : Int32))]) rfl ?_
  refine gGoto K104 b15_29 ?_
  refine gIload K104 b15_8 (v := (1 : Int32)) rfl ?_
  refine gIloadN K104 b15_10 (v := (5 : Int32)) rfl ?_
  refine gIcmp_ge K104 b15_11 (fun q => absurd q (by first | decide | (intro hh; cases hh) | simp)) (fun q11 => ?_)
  refine gAloadN K104 b15_14 (v := (.ref bb)) rfl rfl ?_
  refine gIload K104 b15_15 (v := (1 : Int32)) rfl ?_
  refine gAloadN K104 b15_17 (v := (.ref ca)) rfl rfl ?_
  refine gIloadN K104 b15_18 (v := (1 : Int32)) rfl ?_
  refine gCaload K104 b15_19 (Ac.ext (Ext.kp1 E101 Q104 gb)) (by decide) (v := .int c1) rfl ?_
  refine gCallS K104 (W := 0) [(.ref bb), (.int (1 : Int32)), (.int c1)] [] b15_20 (hw _ (List.mem_of_getElem? (i := 79) rfl)) (hw _ (List.mem_of_getElem? (i := 80) rfl)) (hw _ (List.mem_of_getElem? (i := 23) rfl)) (hw _ (List.mem_of_getElem? (i := 81) rfl)) (Cal.ofN (W := 0) (c_putChar l Z a0 hw h104 n0 K104.n0le bb kb _ 1 5 c1 (Nat.le_trans Z0 gb) A104 rfl (by decide) (by decide) u104) (hw _ (List.mem_of_getElem? (i := 81) rfl)) (hw _ (List.mem_of_getElem? (i := 23) rfl)) (by decide) (by decide)) (fun z q => by cases List.mem_singleton.mp q; exact (List.mem_of_getElem? (i := 0) rfl)) pd2 rfl rfl (Nat.le_of_eq rfl) rfl (by decide) (by decide) (by decide) (fun v106 T106 h106 K106 Q106 q106 => ?_)
  have P107 := P105.trans Q106 (fun z q => by cases List.mem_singleton.mp q; exact Or.inr gb)
  obtain ⟨rfl, A106⟩ := q106
  have u106 := US.kp u104 Q106 (nsS (Arv.nostat A104) ns0)
  refine gIinc K106 (1 : Int32) b15_23 rfl (x := (1 : Int32)) rfl (Ls' := #[.val (.ref ca), .val (.int (2 : Int32)), .val (.int (5 : Int32)), .val (.ref bb), .val (.int (1 : Int32))]) rfl ?_
  refine gIinc K106 (1 : Int32) b15_26 rfl (x := (1 : Int32)) rfl (Ls' := #[.val (.ref ca), .val (.int (2 : Int32)), .val (.int (5 : Int32)), .val (.ref bb), .val (.int (2 : Int32))]) rfl ?_
  refine gGoto K106 b15_29 ?_
  refine gIload K106 b15_8 (v := (2 : Int32)) rfl ?_
  refine gIloadN K106 b15_10 (v := (5 : Int32)) rfl ?_
  refine gIcmp_ge K106 b15_11 (fun q => absurd q (by first | decide | (intro hh; cases hh) | simp)) (fun q11 => ?_)
  refine gAloadN K106 b15_14 (v := (.ref bb)) rfl rfl ?_
  refine gIload K106 b15_15 (v := (2 : Int32)) rfl ?_
  refine gAloadN K106 b15_17 (v := (.ref ca)) rfl rfl ?_
  refine gIloadN K106 b15_18 (v := (2 : Int32)) rfl ?_
  refine gCaload K106 b15_19 (Ac.ext (Ext.kp1 (Ext.kp1 E101 Q104 gb) Q106 gb)) (by decide) (v := .int c2) rfl ?_
  refine gCallS K106 (W := 0) [(.ref bb), (.int (2 : Int32)), (.int c2)] [] b15_20 (hw _ (List.mem_of_getElem? (i := 79) rfl)) (hw _ (List.mem_of_getElem? (i := 80) rfl)) (hw _ (List.mem_of_getElem? (i := 23) rfl)) (hw _ (List.mem_of_getElem? (i := 81) rfl)) (Cal.ofN (W := 0) (c_putChar l Z a0 hw h106 n0 K106.n0le bb kb _ 2 5 c2 (Nat.le_trans Z0 gb) A106 rfl (by decide) (by decide) u106) (hw _ (List.mem_of_getElem? (i := 81) rfl)) (hw _ (List.mem_of_getElem? (i := 23) rfl)) (by decide) (by decide)) (fun z q => by cases List.mem_singleton.mp q; exact (List.mem_of_getElem? (i := 0) rfl)) pd2 rfl rfl (Nat.le_of_eq rfl) rfl (by decide) (by decide) (by decide) (fun v108 T108 h108 K108 Q108 q108 => ?_)
  have P109 := P107.trans Q108 (fun z q => by cases List.mem_singleton.mp q; exact Or.inr gb)
  obtain ⟨rfl, A108⟩ := q108
  have u108 := US.kp u106 Q108 (nsS (Arv.nostat A106) ns0)
  refine gIinc K108 (1 : Int32) b15_23 rfl (x := (2 : Int32)) rfl (Ls' := #[.val (.ref ca), .val (.int (3 : Int32)), .val (.int (5 : Int32)), .val (.ref bb), .val (.int (2 : Int32))]) rfl ?_
  refine gIinc K108 (1 : Int32) b15_26 rfl (x := (2 : Int32)) rfl (Ls' := #[.val (.ref ca), .val (.int (3 : Int32)), .val (.int (5 : Int32)), .val (.ref bb), .val (.int (3 : Int32))]) rfl ?_
  refine gGoto K108 b15_29 ?_
  refine gIload K108 b15_8 (v := (3 : Int32)) rfl ?_
  refine gIloadN K108 b15_10 (v := (5 : Int32)) rfl ?_
  refine gIcmp_ge K108 b15_11 (fun q => absurd q (by first | decide | (intro hh; cases hh) | simp)) (fun q11 => ?_)
  refine gAloadN K108 b15_14 (v := (.ref bb)) rfl rfl ?_
  refine gIload K108 b15_15 (v := (3 : Int32)) rfl ?_
  refine gAloadN K108 b15_17 (v := (.ref ca)) rfl rfl ?_
  refine gIloadN K108 b15_18 (v := (3 : Int32)) rfl ?_
  refine gCaload K108 b15_19 (Ac.ext (Ext.kp1 (Ext.kp1 (Ext.kp1 E101 Q104 gb) Q106 gb) Q108 gb)) (by decide) (v := .int c3) rfl ?_
  refine gCallS K108 (W := 0) [(.ref bb), (.int (3 : Int32)), (.int c3)] [] b15_20 (hw _ (List.mem_of_getElem? (i := 79) rfl)) (hw _ (List.mem_of_getElem? (i := 80) rfl)) (hw _ (List.mem_of_getElem? (i := 23) rfl)) (hw _ (List.mem_of_getElem? (i := 81) rfl)) (Cal.ofN (W := 0) (c_putChar l Z a0 hw h108 n0 K108.n0le bb kb _ 3 5 c3 (Nat.le_trans Z0 gb) A108 rfl (by decide) (by decide) u108) (hw _ (List.mem_of_getElem? (i := 81) rfl)) (hw _ (List.mem_of_getElem? (i := 23) rfl)) (by decide) (by decide)) (fun z q => by cases List.mem_singleton.mp q; exact (List.mem_of_getElem? (i := 0) rfl)) pd2 rfl rfl (Nat.le_of_eq rfl) rfl (by decide) (by decide) (by decide) (fun v110 T110 h110 K110 Q110 q110 => ?_)
  have P111 := P109.trans Q110 (fun z q => by cases List.mem_singleton.mp q; exact Or.inr gb)
  obtain ⟨rfl, A110⟩ := q110
  have u110 := US.kp u108 Q110 (nsS (Arv.nostat A108) ns0)
  refine gIinc K110 (1 : Int32) b15_23 rfl (x := (3 : Int32)) rfl (Ls' := #[.val (.ref ca), .val (.int (4 : Int32)), .val (.int (5 : Int32)), .val (.ref bb), .val (.int (3 : Int32))]) rfl ?_
  refine gIinc K110 (1 : Int32) b15_26 rfl (x := (3 : Int32)) rfl (Ls' := #[.val (.ref ca), .val (.int (4 : Int32)), .val (.int (5 : Int32)), .val (.ref bb), .val (.int (4 : Int32))]) rfl ?_
  refine gGoto K110 b15_29 ?_
  refine gIload K110 b15_8 (v := (4 : Int32)) rfl ?_
  refine gIloadN K110 b15_10 (v := (5 : Int32)) rfl ?_
  refine gIcmp_ge K110 b15_11 (fun q => absurd q (by first | decide | (intro hh; cases hh) | simp)) (fun q11 => ?_)
  refine gAloadN K110 b15_14 (v := (.ref bb)) rfl rfl ?_
  refine gIload K110 b15_15 (v := (4 : Int32)) rfl ?_
  refine gAloadN K110 b15_17 (v := (.ref ca)) rfl rfl ?_
  refine gIloadN K110 b15_18 (v := (4 : Int32)) rfl ?_
  refine gCaload K110 b15_19 (Ac.ext (Ext.kp1 (Ext.kp1 (Ext.kp1 (Ext.kp1 E101 Q104 gb) Q106 gb) Q108 gb) Q110 gb)) (by decide) (v := .int c4) rfl ?_
  refine gCallS K110 (W := 0) [(.ref bb), (.int (4 : Int32)), (.int c4)] [] b15_20 (hw _ (List.mem_of_getElem? (i := 79) rfl)) (hw _ (List.mem_of_getElem? (i := 80) rfl)) (hw _ (List.mem_of_getElem? (i := 23) rfl)) (hw _ (List.mem_of_getElem? (i := 81) rfl)) (Cal.ofN (W := 0) (c_putChar l Z a0 hw h110 n0 K110.n0le bb kb _ 4 5 c4 (Nat.le_trans Z0 gb) A110 rfl (by decide) (by decide) u110) (hw _ (List.mem_of_getElem? (i := 81) rfl)) (hw _ (List.mem_of_getElem? (i := 23) rfl)) (by decide) (by decide)) (fun z q => by cases List.mem_singleton.mp q; exact (List.mem_of_getElem? (i := 0) rfl)) pd2 rfl rfl (Nat.le_of_eq rfl) rfl (by decide) (by decide) (by decide) (fun v112 T112 h112 K112 Q112 q112 => ?_)
  have P113 := P111.trans Q112 (fun z q => by cases List.mem_singleton.mp q; exact Or.inr gb)
  obtain ⟨rfl, A112⟩ := q112
  have u112 := US.kp u110 Q112 (nsS (Arv.nostat A110) ns0)
  refine gIinc K112 (1 : Int32) b15_23 rfl (x := (4 : Int32)) rfl (Ls' := #[.val (.ref ca), .val (.int (5 : Int32)), .val (.int (5 : Int32)), .val (.ref bb), .val (.int (4 : Int32))]) rfl ?_
  refine gIinc K112 (1 : Int32) b15_26 rfl (x := (4 : Int32)) rfl (Ls' := #[.val (.ref ca), .val (.int (5 : Int32)), .val (.int (5 : Int32)), .val (.ref bb), .val (.int (5 : Int32))]) rfl ?_
  refine gGoto K112 b15_29 ?_
  refine gIload K112 b15_8 (v := (5 : Int32)) rfl ?_
  refine gIloadN K112 b15_10 (v := (5 : Int32)) rfl ?_
  refine gIcmp_ge K112 b15_11 (fun q11 => ?_) (fun q => absurd q (by first | decide | (intro hh; cases hh) | simp))
  refine gAloadN K112 b15_32 (v := (.ref bb)) rfl rfl ?_
  refine gRetA K112 hlk hret rfl rfl b15_33 P113 (by decide) (by decide) ?_
  exact ⟨bb, kb, rfl, gb, A112⟩
set_option maxRecDepth 65536 in
set_option maxHeartbeats 40000000 in
theorem c_getChar (l : Launch) (Z : State) (a0 : Array Value) (hw : ∀ d ∈ tables_1, d.before a0 Z = true) (h0 : Heap) (n0 : Nat) (Z0 : n0 ≤ h0.size) (bb : Addr) (kA : ClassId) (cs : List Int32) (k : Nat) (Ab : Arv Z h0 bb kA .byte (Int32.ofNat (2 * cs.length)) (StrChars.Road.wideBytes cs) (.int 0)) (hp : ∀ c ∈ cs, ¬ c < 0 ∧ ¬ (65535 : Int32) < c) (hk : k < cs.length) (hN : cs.length ≤ 4000) (u : US Z h0) :
    Con none l (⟨"java/lang/StringUTF16", "getChar", "([BI)C"⟩ : MethodName) jdk_52_method_5_code 2 (some .char) [] ({ frames := 0, cells := 0, slots := 0, locals := 0 } : Room) Z n0 h0 [] #[(.ref bb), (.int (Int32.ofNat k))] (fun v h => v = some (.int (cs.getD k 0))) := by
  refine Con.intro pn0 Z0 (fun _ q => nomatch q) trivial #[.val (.ref bb), .val (.int (Int32.ofNat k))] (fun m => by first | (simp [entryFrame, mkF, argsToLocals, Value.category]; done) | rfl) ?_
  intro p e s m below meth c T0 hlk hret hnm K0
  have P0 := Keep.refl h0 []
  refine gGetS K0 b19_0 (hw _ (List.mem_of_getElem? (i := 82) rfl)) u.1 (fun T101 K101 => ?_)
  refine gIf_ne K101 b19_3 (fun q3 => ?_) (fun q => absurd q (by first | decide | (intro hh; cases hh) | simp))
  refine gIloadN K101 b19_28 (v := (Int32.ofNat k)) rfl ?_
  refine gIconst K101 (1 : Int32) b19_29 rfl ?_
  refine gIshl K101 b19_30 ?_
  rw [show ((Int32.ofNat k) <<< ((1 : Int32) &&& 31)) = Int32.ofNat (2 * k) from shl1 (by omega)]
  refine gIstoreN K101 b19_31 (Ls' := #[.val (.ref bb), .val (.int (Int32.ofNat (2 * k)))]) rfl ?_
  refine gAloadN K101 b19_32 (v := (.ref bb)) rfl rfl ?_
  refine gIloadN K101 b19_33 (v := (Int32.ofNat (2 * k))) rfl ?_
  refine gIinc K101 (1 : Int32) b19_34 rfl (x := (Int32.ofNat (2 * k))) rfl (Ls' := #[.val (.ref bb), .val (.int ((Int32.ofNat (2 * k)) + (1 : Int32)))]) rfl ?_
  rw [show ((Int32.ofNat (2 * k)) + (1 : Int32)) = Int32.ofNat (2 * k + 1) from ofNat_s (by omega)]
  refine gBaload K101 b19_37 Ab ⟨ofNat_nn (by omega), ofNat_ltI (by omega) (by omega)⟩ (v := .int (StrChars.lo8 (cs.getD k 0))) (by rw [ofNat_clamp (by omega)]; exact StrChars.Road.wide_lo _ cs k hk) ?_
  refine gSipush K101 (255 : Int32) b19_38 rfl ?_
  refine gIand K101 b19_41 ?_
  refine gGetS K101 b19_42 (hw _ (List.mem_of_getElem? (i := 83) rfl)) u.2.1 (fun T102 K102 => ?_)
  refine gIshl K102 b19_45 ?_
  refine gAloadN K102 b19_46 (v := (.ref bb)) rfl rfl ?_
  refine gIloadN K102 b19_47 (v := (Int32.ofNat (2 * k + 1))) rfl ?_
  refine gBaload K102 b19_48 Ab ⟨ofNat_nn (by omega), ofNat_ltI (by omega) (by omega)⟩ (v := .int (StrChars.hi8 (cs.getD k 0))) (by rw [ofNat_clamp (by omega)]; exact StrChars.Road.wide_hi _ cs k hk) ?_
  refine gSipush K102 (255 : Int32) b19_49 rfl ?_
  refine gIand K102 b19_52 ?_
  refine gGetS K102 b19_53 (hw _ (List.mem_of_getElem? (i := 84) rfl)) u.2.2 (fun T103 K103 => ?_)
  refine gIshl K103 b19_56 ?_
  refine gIor K103 b19_57 ?_
  refine gI2c K103 b19_58 ?_
  rw [show (((((StrChars.lo8 (cs.getD k 0)) &&& (255 : Int32)) <<< ((0 : Int32) &&& 31)) ||| (((StrChars.hi8 (cs.getD k 0)) &&& (255 : Int32)) <<< ((8 : Int32) &&& 31)))).toUInt32.toUInt16.toUInt32.toInt32 = cs.getD k 0 from StrChars.pair_says (getD_bd16 hp k).1 (getD_bd16 hp k).2]
  refine gRetI K103 hlk hret (by simp) b19_59 (narrow_c16 (getD_bd16 hp k)) P0 (by decide) (by decide) ?_
  exact rfl
theorem noHi {cs : List Int32} (h : ∀ c ∈ cs, ¬ (255 : Int32) < c) : ¬ ∃ c ∈ cs, (255 : Int32) < c := fun ⟨c, hc, q⟩ => h c hc q
set_option maxRecDepth 65536 in
set_option maxHeartbeats 40000000 in
theorem c_cmp5_5 (l : Launch) (Z : State) (a0 : Array Value) (hw : ∀ d ∈ tables_1, d.before a0 Z = true) (h0 : Heap) (n0 : Nat) (Z0 : n0 ≤ h0.size) (ca : Addr) (kC : ClassId) (dv : Value) (c0 c1 c2 c3 c4 : Int32) (Ac : Arv Z h0 ca kC .char (5 : Int32) [.int c0, .int c1, .int c2, .int c3, .int c4] dv) (hb0 : ¬ c0 < 0 ∧ ¬ (65535 : Int32) < c0) (hb1 : ¬ c1 < 0 ∧ ¬ (65535 : Int32) < c1) (hb2 : ¬ c2 < 0 ∧ ¬ (65535 : Int32) < c2) (hb3 : ¬ c3 < 0 ∧ ¬ (65535 : Int32) < c3) (hb4 : ¬ c4 < 0 ∧ ¬ (65535 : Int32) < c4) (u : US Z h0) (dd : Addr) (kD : ClassId) (gd : n0 ≤ dd) (Ad : Arv Z h0 dd kD .byte (5 : Int32) [] (.int 0)) (hcd : ca ≠ dd) (hu : ∃ c ∈ [c0, c1, c2, c3, c4], (255 : Int32) < c) :
    Con none l (⟨"java/lang/StringUTF16", "compress", "([CI[BII)I"⟩ : MethodName) jdk_52_method_21_code 7 (some .int) [] ({ frames := 0, cells := 0, slots := 0, locals := 0 } : Room) Z n0 h0 [dd] #[(.ref ca), (.int (0 : Int32)), (.ref dd), (.int (0 : Int32)), (.int (5 : Int32))] (fun v h => ∃ j : Nat, v = some (.int (Int32.ofNat j)) ∧ j < 5 ∧ (255 : Int32) < [c0, c1, c2, c3, c4].getD j 0) := by
  refine Con.intro pn0 Z0 (allS ⟨gd, Ad.lt⟩ all0) trivial #[.val (.ref ca), .val (.int (0 : Int32)), .val (.ref dd), .val (.int (0 : Int32)), .val (.int (5 : Int32)), .unset, .unset] (fun m => by first | (simp [entryFrame, mkF, argsToLocals, Value.category]; done) | rfl) ?_
  intro p e s m below meth c T0 hlk hret hnm K0
  have P0 := Keep.refl h0 [dd]
  refine gIconst K0 (0 : Int32) b5_0 rfl ?_
  refine gIstore K0 b5_1 (Ls' := #[.val (.ref ca), .val (.int (0 : Int32)), .val (.ref dd), .val (.int (0 : Int32)), .val (.int (5 : Int32)), .val (.int (0 : Int32)), .unset]) rfl ?_
  refine gIload K0 b5_3 (v := (0 : Int32)) rfl ?_
  refine gIload K0 b5_5 (v := (5 : Int32)) rfl ?_
  refine gIcmp_ge K0 b5_7 (fun q => absurd q (by first | decide | (intro hh; cases hh) | simp)) (fun q7 => ?_)
  refine gAloadN K0 b5_10 (v := (.ref ca)) rfl rfl ?_
  refine gIloadN K0 b5_11 (v := (0 : Int32)) rfl ?_
  refine gCaload K0 b5_12 Ac (by decide) (v := .int c0) rfl ?_
  refine gIstore K0 b5_13 (Ls' := #[.val (.ref ca), .val (.int (0 : Int32)), .val (.ref dd), .val (.int (0 : Int32)), .val (.int (5 : Int32)), .val (.int (0 : Int32)), .val (.int c0)]) rfl ?_
  refine gIload K0 b5_15 (v := c0) rfl ?_
  refine gSipush K0 (255 : Int32) b5_17 rfl ?_
  refine gIcmp_le K0 b5_20 (fun hl_c0 => ?_) (fun hl_c0 => ?_)
  · skip
    refine gAloadN K0 b5_26 (v := (.ref dd)) rfl rfl ?_
    refine gIloadN K0 b5_27 (v := (0 : Int32)) rfl ?_
    refine gIload K0 b5_28 (v := c0) rfl ?_
    refine gI2b K0 b5_30 ?_
    refine gBastore K0 b5_31 (List.mem_of_getElem? (i := 0) rfl) Ad rfl (by decide) (fun T101 h101 K101 Q101 A101 => ?_)
    have P102 := P0.trans Q101 (fun z q => by cases List.mem_singleton.mp q; exact Or.inl (List.mem_of_getElem? (i := 0) rfl))
    refine gIinc K101 (1 : Int32) b5_32 rfl (x := (0 : Int32)) rfl (Ls' := #[.val (.ref ca), .val (.int (1 : Int32)), .val (.ref dd), .val (.int (0 : Int32)), .val (.int (5 : Int32)), .val (.int (0 : Int32)), .val (.int c0)]) rfl ?_
    refine gIinc K101 (1 : Int32) b5_35 rfl (x := (0 : Int32)) rfl (Ls' := #[.val (.ref ca), .val (.int (1 : Int32)), .val (.ref dd), .val (.int (1 : Int32)), .val (.int (5 : Int32)), .val (.int (0 : Int32)), .val (.int c0)]) rfl ?_
    refine gIinc K101 (1 : Int32) b5_38 rfl (x := (0 : Int32)) rfl (Ls' := #[.val (.ref ca), .val (.int (1 : Int32)), .val (.ref dd), .val (.int (1 : Int32)), .val (.int (5 : Int32)), .val (.int (1 : Int32)), .val (.int c0)]) rfl ?_
    refine gGoto K101 b5_41 ?_
    refine gIload K101 b5_3 (v := (1 : Int32)) rfl ?_
    refine gIload K101 b5_5 (v := (5 : Int32)) rfl ?_
    refine gIcmp_ge K101 b5_7 (fun q => absurd q (by first | decide | (intro hh; cases hh) | simp)) (fun q7 => ?_)
    refine gAloadN K101 b5_10 (v := (.ref ca)) rfl rfl ?_
    refine gIloadN K101 b5_11 (v := (1 : Int32)) rfl ?_
    refine gCaload K101 b5_12 (Ac.keep Q101 (ninS hcd nin0)) (by decide) (v := .int c1) rfl ?_
    refine gIstore K101 b5_13 (Ls' := #[.val (.ref ca), .val (.int (1 : Int32)), .val (.ref dd), .val (.int (1 : Int32)), .val (.int (5 : Int32)), .val (.int (1 : Int32)), .val (.int c1)]) rfl ?_
    refine gIload K101 b5_15 (v := c1) rfl ?_
    refine gSipush K101 (255 : Int32) b5_17 rfl ?_
    refine gIcmp_le K101 b5_20 (fun hl_c1 => ?_) (fun hl_c1 => ?_)
    · skip
      refine gAloadN K101 b5_26 (v := (.ref dd)) rfl rfl ?_
      refine gIloadN K101 b5_27 (v := (1 : Int32)) rfl ?_
      refine gIload K101 b5_28 (v := c1) rfl ?_
      refine gI2b K101 b5_30 ?_
      refine gBastore K101 b5_31 (List.mem_of_getElem? (i := 0) rfl) A101 rfl (by decide) (fun T103 h103 K103 Q103 A103 => ?_)
      have P104 := P102.trans Q103 (fun z q => by cases List.mem_singleton.mp q; exact Or.inl (List.mem_of_getElem? (i := 0) rfl))
      refine gIinc K103 (1 : Int32) b5_32 rfl (x := (1 : Int32)) rfl (Ls' := #[.val (.ref ca), .val (.int (2 : Int32)), .val (.ref dd), .val (.int (1 : Int32)), .val (.int (5 : Int32)), .val (.int (1 : Int32)), .val (.int c1)]) rfl ?_
      refine gIinc K103 (1 : Int32) b5_35 rfl (x := (1 : Int32)) rfl (Ls' := #[.val (.ref ca), .val (.int (2 : Int32)), .val (.ref dd), .val (.int (2 : Int32)), .val (.int (5 : Int32)), .val (.int (1 : Int32)), .val (.int c1)]) rfl ?_
      refine gIinc K103 (1 : Int32) b5_38 rfl (x := (1 : Int32)) rfl (Ls' := #[.val (.ref ca), .val (.int (2 : Int32)), .val (.ref dd), .val (.int (2 : Int32)), .val (.int (5 : Int32)), .val (.int (2 : Int32)), .val (.int c1)]) rfl ?_
      refine gGoto K103 b5_41 ?_
      refine gIload K103 b5_3 (v := (2 : Int32)) rfl ?_
      refine gIload K103 b5_5 (v := (5 : Int32)) rfl ?_
      refine gIcmp_ge K103 b5_7 (fun q => absurd q (by first | decide | (intro hh; cases hh) | simp)) (fun q7 => ?_)
      refine gAloadN K103 b5_10 (v := (.ref ca)) rfl rfl ?_
      refine gIloadN K103 b5_11 (v := (2 : Int32)) rfl ?_
      refine gCaload K103 b5_12 ((Ac.keep Q101 (ninS hcd nin0)).keep Q103 (ninS hcd nin0)) (by decide) (v := .int c2) rfl ?_
      refine gIstore K103 b5_13 (Ls' := #[.val (.ref ca), .val (.int (2 : Int32)), .val (.ref dd), .val (.int (2 : Int32)), .val (.int (5 : Int32)), .val (.int (2 : Int32)), .val (.int c2)]) rfl ?_
      refine gIload K103 b5_15 (v := c2) rfl ?_
      refine gSipush K103 (255 : Int32) b5_17 rfl ?_
      refine gIcmp_le K103 b5_20 (fun hl_c2 => ?_) (fun hl_c2 => ?_)
      · skip
        refine gAloadN K103 b5_26 (v := (.ref dd)) rfl rfl ?_
        refine gIloadN K103 b5_27 (v := (2 : Int32)) rfl ?_
        refine gIload K103 b5_28 (v := c2) rfl ?_
        refine gI2b K103 b5_30 ?_
        refine gBastore K103 b5_31 (List.mem_of_getElem? (i := 0) rfl) A103 rfl (by decide) (fun T105 h105 K105 Q105 A105 => ?_)
        have P106 := P104.trans Q105 (fun z q => by cases List.mem_singleton.mp q; exact Or.inl (List.mem_of_getElem? (i := 0) rfl))
        refine gIinc K105 (1 : Int32) b5_32 rfl (x := (2 : Int32)) rfl (Ls' := #[.val (.ref ca), .val (.int (3 : Int32)), .val (.ref dd), .val (.int (2 : Int32)), .val (.int (5 : Int32)), .val (.int (2 : Int32)), .val (.int c2)]) rfl ?_
        refine gIinc K105 (1 : Int32) b5_35 rfl (x := (2 : Int32)) rfl (Ls' := #[.val (.ref ca), .val (.int (3 : Int32)), .val (.ref dd), .val (.int (3 : Int32)), .val (.int (5 : Int32)), .val (.int (2 : Int32)), .val (.int c2)]) rfl ?_
        refine gIinc K105 (1 : Int32) b5_38 rfl (x := (2 : Int32)) rfl (Ls' := #[.val (.ref ca), .val (.int (3 : Int32)), .val (.ref dd), .val (.int (3 : Int32)), .val (.int (5 : Int32)), .val (.int (3 : Int32)), .val (.int c2)]) rfl ?_
        refine gGoto K105 b5_41 ?_
        refine gIload K105 b5_3 (v := (3 : Int32)) rfl ?_
        refine gIload K105 b5_5 (v := (5 : Int32)) rfl ?_
        refine gIcmp_ge K105 b5_7 (fun q => absurd q (by first | decide | (intro hh; cases hh) | simp)) (fun q7 => ?_)
        refine gAloadN K105 b5_10 (v := (.ref ca)) rfl rfl ?_
        refine gIloadN K105 b5_11 (v := (3 : Int32)) rfl ?_
        refine gCaload K105 b5_12 (((Ac.keep Q101 (ninS hcd nin0)).keep Q103 (ninS hcd nin0)).keep Q105 (ninS hcd nin0)) (by decide) (v := .int c3) rfl ?_
        refine gIstore K105 b5_13 (Ls' := #[.val (.ref ca), .val (.int (3 : Int32)), .val (.ref dd), .val (.int (3 : Int32)), .val (.int (5 : Int32)), .val (.int (3 : Int32)), .val (.int c3)]) rfl ?_
        refine gIload K105 b5_15 (v := c3) rfl ?_
        refine gSipush K105 (255 : Int32) b5_17 rfl ?_
        refine gIcmp_le K105 b5_20 (fun hl_c3 => ?_) (fun hl_c3 => ?_)
        · skip
          refine gAloadN K105 b5_26 (v := (.ref dd)) rfl rfl ?_
          refine gIloadN K105 b5_27 (v := (3 : Int32)) rfl ?_
          refine gIload K105 b5_28 (v := c3) rfl ?_
          refine gI2b K105 b5_30 ?_
          refine gBastore K105 b5_31 (List.mem_of_getElem? (i := 0) rfl) A105 rfl (by decide) (fun T107 h107 K107 Q107 A107 => ?_)
          have P108 := P106.trans Q107 (fun z q => by cases List.mem_singleton.mp q; exact Or.inl (List.mem_of_getElem? (i := 0) rfl))
          refine gIinc K107 (1 : Int32) b5_32 rfl (x := (3 : Int32)) rfl (Ls' := #[.val (.ref ca), .val (.int (4 : Int32)), .val (.ref dd), .val (.int (3 : Int32)), .val (.int (5 : Int32)), .val (.int (3 : Int32)), .val (.int c3)]) rfl ?_
          refine gIinc K107 (1 : Int32) b5_35 rfl (x := (3 : Int32)) rfl (Ls' := #[.val (.ref ca), .val (.int (4 : Int32)), .val (.ref dd), .val (.int (4 : Int32)), .val (.int (5 : Int32)), .val (.int (3 : Int32)), .val (.int c3)]) rfl ?_
          refine gIinc K107 (1 : Int32) b5_38 rfl (x := (3 : Int32)) rfl (Ls' := #[.val (.ref ca), .val (.int (4 : Int32)), .val (.ref dd), .val (.int (4 : Int32)), .val (.int (5 : Int32)), .val (.int (4 : Int32)), .val (.int c3)]) rfl ?_
          refine gGoto K107 b5_41 ?_
          refine gIload K107 b5_3 (v := (4 : Int32)) rfl ?_
          refine gIload K107 b5_5 (v := (5 : Int32)) rfl ?_
          refine gIcmp_ge K107 b5_7 (fun q => absurd q (by first | decide | (intro hh; cases hh) | simp)) (fun q7 => ?_)
          refine gAloadN K107 b5_10 (v := (.ref ca)) rfl rfl ?_
          refine gIloadN K107 b5_11 (v := (4 : Int32)) rfl ?_
          refine gCaload K107 b5_12 ((((Ac.keep Q101 (ninS hcd nin0)).keep Q103 (ninS hcd nin0)).keep Q105 (ninS hcd nin0)).keep Q107 (ninS hcd nin0)) (by decide) (v := .int c4) rfl ?_
          refine gIstore K107 b5_13 (Ls' := #[.val (.ref ca), .val (.int (4 : Int32)), .val (.ref dd), .val (.int (4 : Int32)), .val (.int (5 : Int32)), .val (.int (4 : Int32)), .val (.int c4)]) rfl ?_
          refine gIload K107 b5_15 (v := c4) rfl ?_
          refine gSipush K107 (255 : Int32) b5_17 rfl ?_
          refine gIcmp_le K107 b5_20 (fun hl_c4 => ?_) (fun hl_c4 => ?_)
          · skip
            refine gAloadN K107 b5_26 (v := (.ref dd)) rfl rfl ?_
            refine gIloadN K107 b5_27 (v := (4 : Int32)) rfl ?_
            refine gIload K107 b5_28 (v := c4) rfl ?_
            refine gI2b K107 b5_30 ?_
            refine gBastore K107 b5_31 (List.mem_of_getElem? (i := 0) rfl) A107 rfl (by decide) (fun T109 h109 K109 Q109 A109 => ?_)
            have P110 := P108.trans Q109 (fun z q => by cases List.mem_singleton.mp q; exact Or.inl (List.mem_of_getElem? (i := 0) rfl))
            refine gIinc K109 (1 : Int32) b5_32 rfl (x := (4 : Int32)) rfl (Ls' := #[.val (.ref ca), .val (.int (5 : Int32)), .val (.ref dd), .val (.int (4 : Int32)), .val (.int (5 : Int32)), .val (.int (4 : Int32)), .val (.int c4)]) rfl ?_
            refine gIinc K109 (1 : Int32) b5_35 rfl (x := (4 : Int32)) rfl (Ls' := #[.val (.ref ca), .val (.int (5 : Int32)), .val (.ref dd), .val (.int (5 : Int32)), .val (.int (5 : Int32)), .val (.int (4 : Int32)), .val (.int c4)]) rfl ?_
            refine gIinc K109 (1 : Int32) b5_38 rfl (x := (4 : Int32)) rfl (Ls' := #[.val (.ref ca), .val (.int (5 : Int32)), .val (.ref dd), .val (.int (5 : Int32)), .val (.int (5 : Int32)), .val (.int (5 : Int32)), .val (.int c4)]) rfl ?_
            refine gGoto K109 b5_41 ?_
            refine gIload K109 b5_3 (v := (5 : Int32)) rfl ?_
            refine gIload K109 b5_5 (v := (5 : Int32)) rfl ?_
            refine gIcmp_ge K109 b5_7 (fun q7 => ?_) (fun q => absurd q (by first | decide | (intro hh; cases hh) | simp))
            refine gIload K109 b5_44 (v := (5 : Int32)) rfl ?_
            exact absurd hu (noHi (allI hl_c0 (allI hl_c1 (allI hl_c2 (allI hl_c3 (allI hl_c4 allI0))))))
          · skip
            refine gIload K107 b5_23 (v := (4 : Int32)) rfl ?_
            refine gRetI K107 hlk hret (by simp) b5_25 rfl P108 (by decide) (by decide) ?_
            exact ⟨4, rfl, by decide, hl_c4⟩
        · skip
          refine gIload K105 b5_23 (v := (3 : Int32)) rfl ?_
          refine gRetI K105 hlk hret (by simp) b5_25 rfl P106 (by decide) (by decide) ?_
          exact ⟨3, rfl, by decide, hl_c3⟩
      · skip
        refine gIload K103 b5_23 (v := (2 : Int32)) rfl ?_
        refine gRetI K103 hlk hret (by simp) b5_25 rfl P104 (by decide) (by decide) ?_
        exact ⟨2, rfl, by decide, hl_c2⟩
    · skip
      refine gIload K101 b5_23 (v := (1 : Int32)) rfl ?_
      refine gRetI K101 hlk hret (by simp) b5_25 rfl P102 (by decide) (by decide) ?_
      exact ⟨1, rfl, by decide, hl_c1⟩
  · skip
    refine gIload K0 b5_23 (v := (0 : Int32)) rfl ?_
    refine gRetI K0 hlk hret (by simp) b5_25 rfl P0 (by decide) (by decide) ?_
    exact ⟨0, rfl, by decide, hl_c0⟩
set_option maxRecDepth 65536 in
set_option maxHeartbeats 40000000 in
theorem c_cmp3_5 (l : Launch) (Z : State) (a0 : Array Value) (hw : ∀ d ∈ tables_1, d.before a0 Z = true) (h0 : Heap) (n0 : Nat) (Z0 : n0 ≤ h0.size) (ca : Addr) (kC : ClassId) (dv : Value) (c0 c1 c2 c3 c4 : Int32) (Ac : Arv Z h0 ca kC .char (5 : Int32) [.int c0, .int c1, .int c2, .int c3, .int c4] dv) (hb0 : ¬ c0 < 0 ∧ ¬ (65535 : Int32) < c0) (hb1 : ¬ c1 < 0 ∧ ¬ (65535 : Int32) < c1) (hb2 : ¬ c2 < 0 ∧ ¬ (65535 : Int32) < c2) (hb3 : ¬ c3 < 0 ∧ ¬ (65535 : Int32) < c3) (hb4 : ¬ c4 < 0 ∧ ¬ (65535 : Int32) < c4) (u : US Z h0) (hu : ∃ c ∈ [c0, c1, c2, c3, c4], (255 : Int32) < c) :
    Con none l (⟨"java/lang/StringUTF16", "compress", "([CII)[B"⟩ : MethodName) jdk_52_method_16_code 6 (some (.array .byte)) [] ({ frames := 3, cells := 2, slots := 15, locals := 40 } : Room) Z n0 h0 [] #[(.ref ca), (.int (0 : Int32)), (.int (5 : Int32))] (fun v h => ∃ (b : Addr) (kA : ClassId), v = some (.ref b) ∧ h0.size ≤ b ∧ Arv Z h b kA .byte (Int32.ofNat (2 * 5)) (StrChars.Road.wideBytes [c0, c1, c2, c3, c4]) (.int 0)) := by
  refine Con.intro pn0 Z0 (fun _ q => nomatch q) trivial #[.val (.ref ca), .val (.int (0 : Int32)), .val (.int (5 : Int32)), .unset, .unset, .unset] (fun m => by first | (simp [entryFrame, mkF, argsToLocals, Value.category]; done) | rfl) ?_
  intro p e s m below meth c T0 hlk hret hnm K0
  have P0 := Keep.refl h0 []
  refine gIloadN K0 b4_0 (v := (5 : Int32)) rfl ?_
  refine gNewarr K0 b4_1 (hw _ (List.mem_of_getElem? (i := 25) rfl)) (by decide) 5 (by decide) (by decide) (by decide) (by decide) (fun T101 h101 x101 kA101 K101 E101 g101 A101 ne101 => ?_)
  have P102 := P0.ext E101
  have ge_x101 : h0.size ≤ x101 := by rw [g101]; exact P0.1
  refine gAstoreN K101 b4_3 rfl (Ls' := #[.val (.ref ca), .val (.int (0 : Int32)), .val (.int (5 : Int32)), .val (.ref x101), .unset, .unset]) rfl ?_
  refine gAloadN K101 b4_4 (v := (.ref ca)) rfl rfl ?_
  refine gIloadN K101 b4_5 (v := (0 : Int32)) rfl ?_
  refine gAloadN K101 b4_6 (v := (.ref x101)) rfl rfl ?_
  refine gIconst K101 (0 : Int32) b4_7 rfl ?_
  refine gIloadN K101 b4_8 (v := (5 : Int32)) rfl ?_
  refine gCallS K101 (W := 0) [(.ref ca), (.int (0 : Int32)), (.ref x101), (.int (0 : Int32)), (.int (5 : Int32))] [] b4_9 (hw _ (List.mem_of_getElem? (i := 26) rfl)) (hw _ (List.mem_of_getElem? (i := 27) rfl)) (hw _ (List.mem_of_getElem? (i := 23) rfl)) (hw _ (List.mem_of_getElem? (i := 28) rfl)) (Cal.ofN (W := 0) (c_cmp5_5 l Z a0 hw h101 n0 K101.n0le ca kC dv c0 c1 c2 c3 c4 (Ac.ext E101) hb0 hb1 hb2 hb3 hb4 (u.ext E101) x101 _ (K101.wsge (List.mem_of_getElem? (i := 0) rfl)) A101 (Nat.ne_of_lt (Nat.lt_of_lt_of_le Ac.lt ge_x101)) hu) (hw _ (List.mem_of_getElem? (i := 28) rfl)) (hw _ (List.mem_of_getElem? (i := 23) rfl)) (by decide) (by decide)) (fun z q => by cases List.mem_singleton.mp q; exact (List.mem_of_getElem? (i := 0) rfl)) pd3 rfl rfl (Nat.le_of_eq rfl) rfl (by decide) (by decide) (by decide) (fun v103 T103 h103 K103 Q103 q103 => ?_)
  have P104 := P102.trans Q103 (fun z q => by cases List.mem_singleton.mp q; exact Or.inr ge_x101)
  obtain ⟨j, rfl, hj, hcj⟩ := q103
  refine gIstore K103 b4_12 (Ls' := #[.val (.ref ca), .val (.int (0 : Int32)), .val (.int (5 : Int32)), .val (.ref x101), .val (.int (Int32.ofNat j)), .unset]) rfl ?_
  refine gIload K103 b4_14 (v := (Int32.ofNat j)) rfl ?_
  refine gIloadN K103 b4_16 (v := (5 : Int32)) rfl ?_
  refine gIcmp_eq K103 b4_17 (fun q => absurd q (ofNat_ne hj (by decide))) (fun q17 => ?_)
  refine gAloadN K103 b4_20 (v := (.ref ca)) rfl rfl ?_
  refine gIloadN K103 b4_21 (v := (0 : Int32)) rfl ?_
  refine gIloadN K103 b4_22 (v := (5 : Int32)) rfl ?_
  refine gCallS K103 (W := 0) [(.ref ca), (.int (0 : Int32)), (.int (5 : Int32))] [] b4_23 (hw _ (List.mem_of_getElem? (i := 69) rfl)) (hw _ (List.mem_of_getElem? (i := 70) rfl)) (hw _ (List.mem_of_getElem? (i := 23) rfl)) (hw _ (List.mem_of_getElem? (i := 71) rfl)) (Cal.ofN (W := 0) (c_toB5 l Z a0 hw h103 n0 K103.n0le ca kC dv c0 c1 c2 c3 c4 (Ac.ext (Ext.kp1 E101 Q103 (Nat.le_of_eq g101.symm))) (u.ext (Ext.kp1 E101 Q103 (Nat.le_of_eq g101.symm)))) (hw _ (List.mem_of_getElem? (i := 71) rfl)) (hw _ (List.mem_of_getElem? (i := 23) rfl)) (by decide) (by decide)) (fun _ q => nomatch q) pd4 rfl rfl (Nat.le_of_eq rfl) rfl (by decide) (by decide) (by decide) (fun v105 T105 h105 K105 Q105 q105 => ?_)
  have E105 := Ext.of0 Q105
  have P106 := P104.ext E105
  obtain ⟨bb, kb, rfl, gb, Ab⟩ := q105
  have gb0 : h0.size ≤ bb := Nat.le_trans P104.1 gb
  refine gAstore K105 b4_26 rfl (Ls' := #[.val (.ref ca), .val (.int (0 : Int32)), .val (.int (5 : Int32)), .val (.ref x101), .val (.int (Int32.ofNat j)), .val (.ref bb)]) rfl ?_
  refine gAload K105 b4_28 (v := (.ref bb)) rfl rfl ?_
  refine gIload K105 b4_30 (v := (Int32.ofNat j)) rfl ?_
  refine gCallS K105 (W := 0) [(.ref bb), (.int (Int32.ofNat j))] [] b4_32 (hw _ (List.mem_of_getElem? (i := 85) rfl)) (hw _ (List.mem_of_getElem? (i := 86) rfl)) (hw _ (List.mem_of_getElem? (i := 23) rfl)) (hw _ (List.mem_of_getElem? (i := 87) rfl)) (Cal.ofN (W := 0) (c_getChar l Z a0 hw h105 n0 K105.n0le bb kb [c0, c1, c2, c3, c4] j Ab (allI hb0 (allI hb1 (allI hb2 (allI hb3 (allI hb4 allI0))))) hj (Nat.le_of_ble_eq_true rfl) (u.ext (Ext.tr (Ext.kp1 E101 Q103 (Nat.le_of_eq g101.symm)) E105))) (hw _ (List.mem_of_getElem? (i := 87) rfl)) (hw _ (List.mem_of_getElem? (i := 23) rfl)) (by decide) (by decide)) (fun _ q => nomatch q) pd5 rfl rfl (Nat.le_of_eq rfl) rfl (by decide) (by decide) (by decide) (fun v107 T107 h107 K107 Q107 q107 => ?_)
  have E107 := Ext.of0 Q107
  have P108 := P106.ext E107
  cases q107
  refine gSipush K107 (255 : Int32) b4_35 rfl ?_
  refine gIcmp_gt K107 b4_38 (fun q38 => ?_) (fun q => absurd q (not_not_intro hcj))
  refine gAload K107 b4_54 (v := (.ref bb)) rfl rfl ?_
  refine gRetA K107 hlk hret rfl rfl b4_56 P108 (by decide) (by decide) ?_
  exact ⟨bb, kb, rfl, gb0, (Ab.ext E107)⟩
set_option maxRecDepth 65536 in
set_option maxHeartbeats 40000000 in
theorem c_cfa5 (l : Launch) (Z : State) (a0 : Array Value) (hw : ∀ d ∈ tables_1, d.before a0 Z = true) (h0 : Heap) (n0 : Nat) (Z0 : n0 ≤ h0.size) (bb : Addr) (kA : ClassId) (vs : List Value) (dv : Value) (Ab : Arv Z h0 bb kA .byte (10 : Int32) vs dv) :
    Con none l (⟨"java/lang/StringUTF16", "coderFromArrayLen", "([BI)B"⟩ : MethodName) jdk_52_method_15_code 2 (some .byte) [] ({ frames := 0, cells := 0, slots := 0, locals := 0 } : Room) Z n0 h0 [] #[(.ref bb), (.int (5 : Int32))] (fun v h => v = some (.int 1)) := by
  refine Con.intro pn0 Z0 (fun _ q => nomatch q) trivial #[.val (.ref bb), .val (.int (5 : Int32))] (fun m => by first | (simp [entryFrame, mkF, argsToLocals, Value.category]; done) | rfl) ?_
  intro p e s m below meth c T0 hlk hret hnm K0
  have P0 := Keep.refl h0 []
  refine gIloadN K0 b6_0 (v := (5 : Int32)) rfl ?_
  refine gAloadN K0 b6_1 (v := (.ref bb)) rfl rfl ?_
  refine gLen K0 b6_2 Ab ?_
  refine gIsubV K0 (-5 : Int32) b6_3 (by decide) ?_
  refine gBipush K0 (31 : Int32) b6_4 rfl ?_
  refine gIushr K0 b6_6 ?_
  refine gI2b K0 b6_7 ?_
  rw [show ((XT.ushr (-5 : Int32) (31 : Int32))).toInt8.toInt32 = 1 from by decide]
  refine gRetI K0 hlk hret (by simp) b6_8 rfl P0 (by decide) (by decide) ?_
  exact rfl
set_option maxRecDepth 65536 in
set_option maxHeartbeats 40000000 in
theorem c_iU4_5 (l : Launch) (Z : State) (a0 : Array Value) (hw : ∀ d ∈ tables_1, d.before a0 Z = true) (h0 : Heap) (n0 : Nat) (Z0 : n0 ≤ h0.size) (ca : Addr) (kC : ClassId) (dv : Value) (c0 c1 c2 c3 c4 : Int32) (Ac : Arv Z h0 ca kC .char (5 : Int32) [.int c0, .int c1, .int c2, .int c3, .int c4] dv) (hb0 : ¬ c0 < 0 ∧ ¬ (65535 : Int32) < c0) (hb1 : ¬ c1 < 0 ∧ ¬ (65535 : Int32) < c1) (hb2 : ¬ c2 < 0 ∧ ¬ (65535 : Int32) < c2) (hb3 : ¬ c3 < 0 ∧ ¬ (65535 : Int32) < c3) (hb4 : ¬ c4 < 0 ∧ ¬ (65535 : Int32) < c4) (u : US Z h0) (hu : ∃ c ∈ [c0, c1, c2, c3, c4], (255 : Int32) < c) (z : Int32) (Sc : Sta Z h0 "java/lang/String" "COMPACT_STRINGS" "Z" (.int z)) (hz : ¬ z = 0) (x : Addr) (v1 v2 : Value) (gx : n0 ≤ x) (Ex : Exa Z h0 x "java/lang/String") (F1 : Fld Z h0 x "java/lang/String" "value" "[B" v1) (F2 : Fld Z h0 x "java/lang/String" "coder" "B" v2) :
    Con none l (⟨"java/lang/String", "<init>", "([CIILjava/lang/Void;)V"⟩ : MethodName) jdk_42_method_149_code 6 none [] ({ frames := 4, cells := 2, slots := 15, locals := 57 } : Room) Z n0 h0 [x] #[(.ref x), (.ref ca), (.int (0 : Int32)), (.int (5 : Int32)), .null] (fun v h => v = none ∧ StrU Z h x [c0, c1, c2, c3, c4]) := by
  refine Con.intro pn1 Z0 (allS ⟨gx, Ex.lt⟩ all0) trivial #[.val (.ref x), .val (.ref ca), .val (.int (0 : Int32)), .val (.int (5 : Int32)), .val .null, .unset] (fun m => by first | (simp [entryFrame, mkF, argsToLocals, Value.category]; done) | rfl) ?_
  intro p e s m below meth c T0 hlk hret hnm K0
  have P0 := Keep.refl h0 [x]
  refine gAloadN K0 b2_0 (v := (.ref x)) rfl rfl ?_
  refine gInitO K0 b2_1 (hw _ (List.mem_of_getElem? (i := 17) rfl)) (hw _ (List.mem_of_getElem? (i := 18) rfl)) (hw _ (List.mem_of_getElem? (i := 19) rfl)) rfl (by decide) (W := 0) (Nat.le_of_eq rfl) (by decide) (fun T101 K101 => ?_)
  refine gIloadN K101 b2_4 (v := (5 : Int32)) rfl ?_
  refine gIf_ne K101 b2_5 (fun q5 => ?_) (fun q => absurd q (by first | decide | (intro hh; cases hh) | simp))
  refine gGetS K101 b2_27 (hw _ (List.mem_of_getElem? (i := 20) rfl)) Sc (fun T102 K102 => ?_)
  refine gIf_eq K102 b2_30 (fun q => absurd q hz) (fun q30 => ?_)
  refine gAloadN K102 b2_33 (v := (.ref ca)) rfl rfl ?_
  refine gIloadN K102 b2_34 (v := (0 : Int32)) rfl ?_
  refine gIloadN K102 b2_35 (v := (5 : Int32)) rfl ?_
  refine gCallS K102 (W := 0) [(.ref ca), (.int (0 : Int32)), (.int (5 : Int32))] [] b2_36 (hw _ (List.mem_of_getElem? (i := 21) rfl)) (hw _ (List.mem_of_getElem? (i := 22) rfl)) (hw _ (List.mem_of_getElem? (i := 23) rfl)) (hw _ (List.mem_of_getElem? (i := 24) rfl)) (Cal.ofN (W := 0) (c_cmp3_5 l Z a0 hw h0 n0 K102.n0le ca kC dv c0 c1 c2 c3 c4 Ac hb0 hb1 hb2 hb3 hb4 u hu) (hw _ (List.mem_of_getElem? (i := 24) rfl)) (hw _ (List.mem_of_getElem? (i := 23) rfl)) (by decide) (by decide)) (fun _ q => nomatch q) pd4 rfl rfl (Nat.le_of_eq rfl) rfl (by decide) (by decide) (by decide) (fun v103 T103 h103 K103 Q103 q103 => ?_)
  have E103 := Ext.of0 Q103
  have P104 := P0.ext E103
  obtain ⟨bb, kb, rfl, gb, Ab⟩ := q103
  refine gAstore K103 b2_39 rfl (Ls' := #[.val (.ref x), .val (.ref ca), .val (.int (0 : Int32)), .val (.int (5 : Int32)), .val .null, .val (.ref bb)]) rfl ?_
  refine gAloadN K103 b2_41 (v := (.ref x)) rfl rfl ?_
  refine gAload K103 b2_42 (v := (.ref bb)) rfl rfl ?_
  refine gIloadN K103 b2_44 (v := (5 : Int32)) rfl ?_
  refine gCallS K103 (W := 1) [(.ref bb), (.int (5 : Int32))] [(.ref x)] b2_45 (hw _ (List.mem_of_getElem? (i := 29) rfl)) (hw _ (List.mem_of_getElem? (i := 30) rfl)) (hw _ (List.mem_of_getElem? (i := 23) rfl)) (hw _ (List.mem_of_getElem? (i := 31) rfl)) (Cal.ofN (W := 1) (c_cfa5 l Z a0 hw h103 n0 K103.n0le bb kb _ _ Ab) (hw _ (List.mem_of_getElem? (i := 31) rfl)) (hw _ (List.mem_of_getElem? (i := 23) rfl)) (by decide) (by decide)) (fun _ q => nomatch q) pd6 rfl rfl (Nat.le_of_eq rfl) rfl (by decide) (by decide) (by decide) (fun v105 T105 h105 K105 Q105 q105 => ?_)
  have E105 := Ext.of0 Q105
  have P106 := P104.ext E105
  cases q105
  refine gPut K105 b2_48 (hw _ (List.mem_of_getElem? (i := 32) rfl)) (List.mem_of_getElem? (i := 0) rfl) (F2.ext (Ext.tr E103 E105)) (Ex.ext (Ext.tr E103 E105)) (Or.inr ⟨(hw _ (List.mem_of_getElem? (i := 33) rfl)), rfl, hnm⟩) (hw _ (List.mem_of_getElem? (i := 8) rfl)) (ty := .byte) (by decide) rfl rfl (fun T107 h107 K107 W107 F107 => ?_)
  have P108 := P106.trans (Keep.of_wr W107) (fun z q => by cases List.mem_singleton.mp q; exact Or.inl (List.mem_of_getElem? (i := 0) rfl))
  have F109 := Fld.other W107 (F1.ext (Ext.tr E103 E105)) (Or.inr (slot_ne (C := "java/lang/String") (a0 := a0) (Or.inr (hw _ (List.mem_of_getElem? (i := 35) rfl))) (Or.inr (hw _ (List.mem_of_getElem? (i := 33) rfl))) (by decide) (by decide : parseFieldDescriptor _ = some (.array .byte)) (by decide : parseFieldDescriptor _ = some .byte)))
  have A110 := Exa.wr W107 (Ex.ext (Ext.tr E103 E105))
  refine gAloadN K107 b2_51 (v := (.ref x)) rfl rfl ?_
  refine gAload K107 b2_52 (v := (.ref bb)) rfl rfl ?_
  refine gPut K107 b2_54 (hw _ (List.mem_of_getElem? (i := 34) rfl)) (List.mem_of_getElem? (i := 0) rfl) F109 A110 (Or.inr ⟨(hw _ (List.mem_of_getElem? (i := 35) rfl)), rfl, hnm⟩) (hw _ (List.mem_of_getElem? (i := 8) rfl)) (ty := (.array .byte)) (by decide) rfl rfl (fun T111 h111 K111 W111 F111 => ?_)
  have P112 := P108.trans (Keep.of_wr W111) (fun z q => by cases List.mem_singleton.mp q; exact Or.inl (List.mem_of_getElem? (i := 0) rfl))
  have F113 := Fld.other W111 F107 (Or.inr (slot_ne (C := "java/lang/String") (a0 := a0) (Or.inr (hw _ (List.mem_of_getElem? (i := 33) rfl))) (Or.inr (hw _ (List.mem_of_getElem? (i := 35) rfl))) (by decide) (by decide : parseFieldDescriptor _ = some .byte) (by decide : parseFieldDescriptor _ = some (.array .byte))))
  have A114 := Exa.wr W111 A110
  refine gRetV K111 hlk hret b2_57 P112 (by decide) (by decide) ?_
  exact ⟨rfl, bb, kb, A114, F113, F111, (((Ab.ext E105).keep (Keep.of_wr W107) (ninS (Nat.ne_of_gt (Nat.lt_of_lt_of_le Ex.lt gb)) nin0)).keep (Keep.of_wr W111) (ninS (Nat.ne_of_gt (Nat.lt_of_lt_of_le Ex.lt gb)) nin0)), (allI hb0 (allI hb1 (allI hb2 (allI hb3 (allI hb4 allI0))))), hu, Nat.le_of_ble_eq_true rfl⟩
set_option maxRecDepth 65536 in
set_option maxHeartbeats 40000000 in
theorem c_iU1_5 (l : Launch) (Z : State) (a0 : Array Value) (hw : ∀ d ∈ tables_1, d.before a0 Z = true) (h0 : Heap) (n0 : Nat) (Z0 : n0 ≤ h0.size) (ca : Addr) (kC : ClassId) (dv : Value) (c0 c1 c2 c3 c4 : Int32) (Ac : Arv Z h0 ca kC .char (5 : Int32) [.int c0, .int c1, .int c2, .int c3, .int c4] dv) (hb0 : ¬ c0 < 0 ∧ ¬ (65535 : Int32) < c0) (hb1 : ¬ c1 < 0 ∧ ¬ (65535 : Int32) < c1) (hb2 : ¬ c2 < 0 ∧ ¬ (65535 : Int32) < c2) (hb3 : ¬ c3 < 0 ∧ ¬ (65535 : Int32) < c3) (hb4 : ¬ c4 < 0 ∧ ¬ (65535 : Int32) < c4) (u : US Z h0) (hu : ∃ c ∈ [c0, c1, c2, c3, c4], (255 : Int32) < c) (z : Int32) (Sc : Sta Z h0 "java/lang/String" "COMPACT_STRINGS" "Z" (.int z)) (hz : ¬ z = 0) (x : Addr) (v1 v2 : Value) (gx : n0 ≤ x) (Ex : Exa Z h0 x "java/lang/String") (F1 : Fld Z h0 x "java/lang/String" "value" "[B" v1) (F2 : Fld Z h0 x "java/lang/String" "coder" "B" v2) :
    Con none l (⟨"java/lang/String", "<init>", "([C)V"⟩ : MethodName) jdk_42_method_3_code 2 none [] ({ frames := 5, cells := 2, slots := 15, locals := 74 } : Room) Z n0 h0 [x] #[(.ref x), (.ref ca)] (fun v h => v = none ∧ StrU Z h x [c0, c1, c2, c3, c4]) := by
  refine Con.intro pn1 Z0 (allS ⟨gx, Ex.lt⟩ all0) trivial #[.val (.ref x), .val (.ref ca)] (fun m => by first | (simp [entryFrame, mkF, argsToLocals, Value.category]; done) | rfl) ?_
  intro p e s m below meth c T0 hlk hret hnm K0
  have P0 := Keep.refl h0 [x]
  refine gAloadN K0 b1_0 (v := (.ref x)) rfl rfl ?_
  refine gAloadN K0 b1_1 (v := (.ref ca)) rfl rfl ?_
  refine gIconst K0 (0 : Int32) b1_2 rfl ?_
  refine gAloadN K0 b1_3 (v := (.ref ca)) rfl rfl ?_
  refine gLen K0 b1_4 Ac ?_
  refine gNull K0 b1_5 ?_
  refine gCallI K0 (W := 0) x [(.ref ca), (.int (0 : Int32)), (.int (5 : Int32)), .null] [] b1_6 rfl (hw _ (List.mem_of_getElem? (i := 13) rfl)) (hw _ (List.mem_of_getElem? (i := 14) rfl)) (hw _ (List.mem_of_getElem? (i := 16) rfl)) (Cal.ofN (W := 0) (c_iU4_5 l Z a0 hw h0 n0 K0.n0le ca kC dv c0 c1 c2 c3 c4 Ac hb0 hb1 hb2 hb3 hb4 u hu z Sc hz x v1 v2 gx Ex F1 F2) (hw _ (List.mem_of_getElem? (i := 16) rfl)) (hw _ (List.mem_of_getElem? (i := 9) rfl)) (by decide) (by decide)) (fun z q => by cases List.mem_singleton.mp q; exact (List.mem_of_getElem? (i := 0) rfl)) pd7 rfl rfl (Nat.le_of_eq rfl) rfl (by decide) (by decide) (by decide) (fun v101 T101 h101 K101 Q101 q101 => ?_)
  have P102 := P0.trans Q101 (fun z q => by cases List.mem_singleton.mp q; exact Or.inl (List.mem_of_getElem? (i := 0) rfl))
  obtain ⟨rfl, Su⟩ := q101
  refine gRetV K101 hlk hret b1_9 P102 (by decide) (by decide) ?_
  exact ⟨rfl, Su⟩
theorem cal_strA5 {p : Program} {l : Launch} {e : Env} {R : Room} {args : Array Value} {below : List Frame} {W : Nat} {Z : State} {a0 : Array Value} {h : Heap} {n0 : Nat} (hw : ∀ d ∈ tables_1, d.before a0 Z = true) {x b : Addr} {kC : ClassId} {c0 c1 c2 c3 c4 : Int32} {d v0 c0' : Value} {z : Int32}
    (hx0 : n0 ≤ x) (hh0 : n0 ≤ h.size) (E : Exa Z h x "java/lang/String") (V : Fld Z h x "java/lang/String" "value" "[B" v0) (C : Fld Z h x "java/lang/String" "coder" "B" c0') (K : Arv Z h b kC .char (5 : Int32) [.int c0, .int c1, .int c2, .int c3, .int c4] d) (S : Sta Z h "java/lang/String" "COMPACT_STRINGS" "Z" (.int z)) (hz : ¬ z = 0) (u : US Z h)
    (hb0 : ¬ c0 < 0 ∧ ¬ (65535 : Int32) < c0) (hb1 : ¬ c1 < 0 ∧ ¬ (65535 : Int32) < c1) (hb2 : ¬ c2 < 0 ∧ ¬ (65535 : Int32) < c2) (hb3 : ¬ c3 < 0 ∧ ¬ (65535 : Int32) < c3) (hb4 : ¬ c4 < 0 ∧ ¬ (65535 : Int32) < c4) (hfr : 6 ≤ R.frames) (hlo : W + 87 ≤ R.locals) :
    Cal none l R p e below args (⟨"java/lang/String", "<init>", "([C)V"⟩ : MethodName) 3 W Z n0 h [x] #[.ref x, .ref b] 2 15 (fun v h' => v = none ∧ StrA Z h' x [c0, c1, c2, c3, c4]) := by
  by_cases hu : ∃ c ∈ [c0, c1, c2, c3, c4], (255 : Int32) < c
  · exact Cal.mono (Cal.ofN (W := W) (c_iU1_5 l Z a0 hw h n0 hh0 b kC d c0 c1 c2 c3 c4 K hb0 hb1 hb2 hb3 hb4 u hu z S hz x v0 c0' hx0 E V C) (hw _ (List.mem_of_getElem? (i := 12) rfl)) (hw _ (List.mem_of_getElem? (i := 9) rfl)) hfr (Nat.le_trans (show W + (2 + 11) + 74 ≤ W + 87 by omega) hlo)) (Nat.le_refl _) (Nat.le_refl _) (fun _ _ q => ⟨q.1, Or.inr q.2⟩)
  · exact Cal.mono (cal_strN hw (cs := [c0, c1, c2, c3, c4]) 5 hx0 hh0 E V C K S hz rfl (by decide) (by decide) (fun c hc => ⟨((((allI hb0 (allI hb1 (allI hb2 (allI hb3 (allI hb4 allI0))))) : ∀ c ∈ [c0, c1, c2, c3, c4], ¬ c < 0 ∧ ¬ (65535 : Int32) < c)) c hc).1, fun q => hu ⟨c, hc, q⟩⟩) (Nat.le_trans (by decide) hfr) (by omega)) (by decide) (by decide) (fun _ _ q => ⟨q.1, Or.inl q.2⟩)

set_option maxRecDepth 65536 in
set_option maxHeartbeats 40000000 in
theorem c_ulen (l : Launch) (Z : State) (a0 : Array Value) (hw : ∀ d ∈ tables_1, d.before a0 Z = true) (h0 : Heap) (n0 : Nat) (Z0 : n0 ≤ h0.size) (bb : Addr) (kA : ClassId) (N : Nat) (vs : List Value) (dv : Value) (hN : N ≤ 4000) (Ab : Arv Z h0 bb kA .byte (Int32.ofNat (2 * N)) vs dv) :
    Con none l (⟨"java/lang/StringUTF16", "length", "([B)I"⟩ : MethodName) jdk_52_method_6_code 1 (some .int) [] ({ frames := 0, cells := 0, slots := 0, locals := 0 } : Room) Z n0 h0 [] #[(.ref bb)] (fun v h => v = some (.int (Int32.ofNat N))) := by
  refine Con.intro pn0 Z0 (fun _ q => nomatch q) trivial #[.val (.ref bb)] (fun m => by first | (simp [entryFrame, mkF, argsToLocals, Value.category]; done) | rfl) ?_
  intro p e s m below meth c T0 hlk hret hnm K0
  have P0 := Keep.refl h0 []
  refine gAloadN K0 b22_0 (v := (.ref bb)) rfl rfl ?_
  refine gLen K0 b22_1 Ab ?_
  refine gIconst K0 (1 : Int32) b22_2 rfl ?_
  refine gIshr K0 b22_3 ?_
  rw [show ((Int32.ofNat (2 * N)) >>> ((1 : Int32) &&& 31)) = Int32.ofNat N from shr1 (by omega)]
  refine gRetI K0 hlk hret (by simp) b22_4 rfl P0 (by decide) (by decide) ?_
  exact rfl
set_option maxRecDepth 65536 in
set_option maxHeartbeats 40000000 in
theorem c_pchk (l : Launch) (Z : State) (a0 : Array Value) (hw : ∀ d ∈ tables_1, d.before a0 Z = true) (h0 : Heap) (n0 : Nat) (Z0 : n0 ≤ h0.size) (k N : Nat) (hk : k < N) (hN : N ≤ 4000) (fm : Value) (rf : fm.isRef = true) :
    Con none l (⟨"jdk/internal/util/Preconditions", "checkIndex", "(IILjava/util/function/BiFunction;)I"⟩ : MethodName) jdk_41_method_11_code 3 (some .int) [] ({ frames := 0, cells := 0, slots := 0, locals := 0 } : Room) Z n0 h0 [] #[(.int (Int32.ofNat k)), (.int (Int32.ofNat N)), fm] (fun v h => v = some (.int (Int32.ofNat k))) := by
  refine Con.intro pn2 Z0 (fun _ q => nomatch q) trivial #[.val (.int (Int32.ofNat k)), .val (.int (Int32.ofNat N)), .val fm] (fun m => by rcases ref_cases rf with rfl | ⟨q, rfl⟩ <;> first | (simp [entryFrame, mkF, argsToLocals, Value.category]; done) | rfl) ?_
  intro p e s m below meth c T0 hlk hret hnm K0
  have P0 := Keep.refl h0 []
  refine gIloadN K0 b12_0 (v := (Int32.ofNat k)) rfl ?_
  refine gIf_lt K0 b12_1 (fun q => absurd q (ofNat_nn (by omega))) (fun q1 => ?_)
  refine gIloadN K0 b12_4 (v := (Int32.ofNat k)) rfl ?_
  refine gIloadN K0 b12_5 (v := (Int32.ofNat N)) rfl ?_
  refine gIcmp_lt K0 b12_6 (fun q6 => ?_) (fun q => absurd q (not_not_intro (ofNat_ltI hk (by omega))))
  refine gIloadN K0 b12_16 (v := (Int32.ofNat k)) rfl ?_
  refine gRetI K0 hlk hret (by simp) b12_17 rfl P0 (by decide) (by decide) ?_
  exact rfl
set_option maxRecDepth 65536 in
set_option maxHeartbeats 40000000 in
theorem c_schk (l : Launch) (Z : State) (a0 : Array Value) (hw : ∀ d ∈ tables_1, d.before a0 Z = true) (h0 : Heap) (n0 : Nat) (Z0 : n0 ≤ h0.size) (k N : Nat) (hk : k < N) (hN : N ≤ 4000) (fm : Value) (Sf : Sta Z h0 "jdk/internal/util/Preconditions" "SIOOBE_FORMATTER" "Ljava/util/function/BiFunction;" fm) (rf : fm.isRef = true) :
    Con none l (⟨"java/lang/String", "checkIndex", "(II)V"⟩ : MethodName) jdk_42_method_155_code 2 none [] ({ frames := 1, cells := 0, slots := 0, locals := 14 } : Room) Z n0 h0 [] #[(.int (Int32.ofNat k)), (.int (Int32.ofNat N))] (fun v h => v = none) := by
  refine Con.intro pn1 Z0 (fun _ q => nomatch q) trivial #[.val (.int (Int32.ofNat k)), .val (.int (Int32.ofNat N))] (fun m => by first | (simp [entryFrame, mkF, argsToLocals, Value.category]; done) | rfl) ?_
  intro p e s m below meth c T0 hlk hret hnm K0
  have P0 := Keep.refl h0 []
  refine gIloadN K0 b11_0 (v := (Int32.ofNat k)) rfl ?_
  refine gIloadN K0 b11_1 (v := (Int32.ofNat N)) rfl ?_
  refine gGetS K0 b11_2 (hw _ (List.mem_of_getElem? (i := 58) rfl)) Sf (fun T101 K101 => ?_)
  refine gCallS K101 (W := 0) [(.int (Int32.ofNat k)), (.int (Int32.ofNat N)), fm] [] b11_5 (hw _ (List.mem_of_getElem? (i := 60) rfl)) (hw _ (List.mem_of_getElem? (i := 61) rfl)) (hw _ (List.mem_of_getElem? (i := 59) rfl)) (hw _ (List.mem_of_getElem? (i := 62) rfl)) (Cal.ofN (W := 0) (c_pchk l Z a0 hw h0 n0 K101.n0le k N hk hN fm rf) (hw _ (List.mem_of_getElem? (i := 62) rfl)) (hw _ (List.mem_of_getElem? (i := 59) rfl)) (by decide) (by decide)) (fun _ q => nomatch q) pd8 rfl rfl (Nat.le_of_eq rfl) rfl (by decide) (by decide) (by decide) (fun v102 T102 h102 K102 Q102 q102 => ?_)
  have E102 := Ext.of0 Q102
  have P103 := P0.ext E102
  cases q102
  refine gPop K102 b11_8 rfl ?_
  refine gRetV K102 hlk hret b11_9 P103 (by decide) (by decide) ?_
  exact rfl
set_option maxRecDepth 65536 in
set_option maxHeartbeats 40000000 in
theorem c_uchk (l : Launch) (Z : State) (a0 : Array Value) (hw : ∀ d ∈ tables_1, d.before a0 Z = true) (h0 : Heap) (n0 : Nat) (Z0 : n0 ≤ h0.size) (bb : Addr) (kA : ClassId) (cs : List Int32) (k : Nat) (Ab : Arv Z h0 bb kA .byte (Int32.ofNat (2 * cs.length)) (StrChars.Road.wideBytes cs) (.int 0)) (hp : ∀ c ∈ cs, ¬ c < 0 ∧ ¬ (65535 : Int32) < c) (hk : k < cs.length) (hN : cs.length ≤ 4000) (u : US Z h0) (fm : Value) (Sf : Sta Z h0 "jdk/internal/util/Preconditions" "SIOOBE_FORMATTER" "Ljava/util/function/BiFunction;" fm) (rf : fm.isRef = true) :
    Con none l (⟨"java/lang/StringUTF16", "checkIndex", "(I[B)V"⟩ : MethodName) jdk_52_method_91_code 2 none [] ({ frames := 2, cells := 0, slots := 0, locals := 27 } : Room) Z n0 h0 [] #[(.int (Int32.ofNat k)), (.ref bb)] (fun v h => v = none) := by
  refine Con.intro pn0 Z0 (fun _ q => nomatch q) trivial #[.val (.int (Int32.ofNat k)), .val (.ref bb)] (fun m => by first | (simp [entryFrame, mkF, argsToLocals, Value.category]; done) | rfl) ?_
  intro p e s m below meth c T0 hlk hret hnm K0
  have P0 := Keep.refl h0 []
  refine gIloadN K0 b21_0 (v := (Int32.ofNat k)) rfl ?_
  refine gAloadN K0 b21_1 (v := (.ref bb)) rfl rfl ?_
  refine gCallS K0 (W := 1) [(.ref bb)] [(.int (Int32.ofNat k))] b21_2 (hw _ (List.mem_of_getElem? (i := 94) rfl)) (hw _ (List.mem_of_getElem? (i := 95) rfl)) (hw _ (List.mem_of_getElem? (i := 23) rfl)) (hw _ (List.mem_of_getElem? (i := 96) rfl)) (Cal.ofN (W := 1) (c_ulen l Z a0 hw h0 n0 K0.n0le bb kA cs.length _ _ hN Ab) (hw _ (List.mem_of_getElem? (i := 96) rfl)) (hw _ (List.mem_of_getElem? (i := 23) rfl)) (by decide) (by decide)) (fun _ q => nomatch q) pd9 rfl rfl (Nat.le_of_eq rfl) rfl (by decide) (by decide) (by decide) (fun v101 T101 h101 K101 Q101 q101 => ?_)
  have E101 := Ext.of0 Q101
  have P102 := P0.ext E101
  cases q101
  refine gCallS K101 (W := 0) [(.int (Int32.ofNat k)), (.int (Int32.ofNat cs.length))] [] b21_5 (hw _ (List.mem_of_getElem? (i := 97) rfl)) (hw _ (List.mem_of_getElem? (i := 56) rfl)) (hw _ (List.mem_of_getElem? (i := 9) rfl)) (hw _ (List.mem_of_getElem? (i := 57) rfl)) (Cal.ofN (W := 0) (c_schk l Z a0 hw h101 n0 K101.n0le k cs.length hk hN fm (Sf.ext E101) rf) (hw _ (List.mem_of_getElem? (i := 57) rfl)) (hw _ (List.mem_of_getElem? (i := 9) rfl)) (by decide) (by decide)) (fun _ q => nomatch q) pd10 rfl rfl (Nat.le_of_eq rfl) rfl (by decide) (by decide) (by decide) (fun v103 T103 h103 K103 Q103 q103 => ?_)
  have E103 := Ext.of0 Q103
  have P104 := P102.ext E103
  cases q103
  refine gRetV K103 hlk hret b21_8 P104 (by decide) (by decide) ?_
  exact rfl
set_option maxRecDepth 65536 in
set_option maxHeartbeats 40000000 in
theorem c_uch (l : Launch) (Z : State) (a0 : Array Value) (hw : ∀ d ∈ tables_1, d.before a0 Z = true) (h0 : Heap) (n0 : Nat) (Z0 : n0 ≤ h0.size) (bb : Addr) (kA : ClassId) (cs : List Int32) (k : Nat) (Ab : Arv Z h0 bb kA .byte (Int32.ofNat (2 * cs.length)) (StrChars.Road.wideBytes cs) (.int 0)) (hp : ∀ c ∈ cs, ¬ c < 0 ∧ ¬ (65535 : Int32) < c) (hk : k < cs.length) (hN : cs.length ≤ 4000) (u : US Z h0) (fm : Value) (Sf : Sta Z h0 "jdk/internal/util/Preconditions" "SIOOBE_FORMATTER" "Ljava/util/function/BiFunction;" fm) (rf : fm.isRef = true) :
    Con none l (⟨"java/lang/StringUTF16", "charAt", "([BI)C"⟩ : MethodName) jdk_52_method_83_code 2 (some .char) [] ({ frames := 3, cells := 0, slots := 0, locals := 40 } : Room) Z n0 h0 [] #[(.ref bb), (.int (Int32.ofNat k))] (fun v h => v = some (.int (cs.getD k 0))) := by
  refine Con.intro pn0 Z0 (fun _ q => nomatch q) trivial #[.val (.ref bb), .val (.int (Int32.ofNat k))] (fun m => by first | (simp [entryFrame, mkF, argsToLocals, Value.category]; done) | rfl) ?_
  intro p e s m below meth c T0 hlk hret hnm K0
  have P0 := Keep.refl h0 []
  refine gIloadN K0 b20_0 (v := (Int32.ofNat k)) rfl ?_
  refine gAloadN K0 b20_1 (v := (.ref bb)) rfl rfl ?_
  refine gCallS K0 (W := 0) [(.int (Int32.ofNat k)), (.ref bb)] [] b20_2 (hw _ (List.mem_of_getElem? (i := 91) rfl)) (hw _ (List.mem_of_getElem? (i := 92) rfl)) (hw _ (List.mem_of_getElem? (i := 23) rfl)) (hw _ (List.mem_of_getElem? (i := 93) rfl)) (Cal.ofN (W := 0) (c_uchk l Z a0 hw h0 n0 K0.n0le bb kA cs k Ab hp hk hN u fm Sf rf) (hw _ (List.mem_of_getElem? (i := 93) rfl)) (hw _ (List.mem_of_getElem? (i := 23) rfl)) (by decide) (by decide)) (fun _ q => nomatch q) pd11 rfl rfl (Nat.le_of_eq rfl) rfl (by decide) (by decide) (by decide) (fun v101 T101 h101 K101 Q101 q101 => ?_)
  have E101 := Ext.of0 Q101
  have P102 := P0.ext E101
  cases q101
  refine gAloadN K101 b20_5 (v := (.ref bb)) rfl rfl ?_
  refine gIloadN K101 b20_6 (v := (Int32.ofNat k)) rfl ?_
  refine gCallS K101 (W := 0) [(.ref bb), (.int (Int32.ofNat k))] [] b20_7 (hw _ (List.mem_of_getElem? (i := 85) rfl)) (hw _ (List.mem_of_getElem? (i := 86) rfl)) (hw _ (List.mem_of_getElem? (i := 23) rfl)) (hw _ (List.mem_of_getElem? (i := 87) rfl)) (Cal.ofN (W := 0) (c_getChar l Z a0 hw h101 n0 K101.n0le bb kA cs k (Ab.ext E101) hp hk hN (u.ext E101)) (hw _ (List.mem_of_getElem? (i := 87) rfl)) (hw _ (List.mem_of_getElem? (i := 23) rfl)) (by decide) (by decide)) (fun _ q => nomatch q) pd5 rfl rfl (Nat.le_of_eq rfl) rfl (by decide) (by decide) (by decide) (fun v103 T103 h103 K103 Q103 q103 => ?_)
  have E103 := Ext.of0 Q103
  have P104 := P102.ext E103
  cases q103
  refine gRetI K103 hlk hret (by simp) b20_10 (narrow_c16 (getD_bd16 hp k)) P104 (by decide) (by decide) ?_
  exact rfl
set_option maxRecDepth 65536 in
set_option maxHeartbeats 40000000 in
theorem c_isL1 (l : Launch) (Z : State) (a0 : Array Value) (hw : ∀ d ∈ tables_1, d.before a0 Z = true) (h0 : Heap) (n0 : Nat) (Z0 : n0 ≤ h0.size) (x : Addr) (Fc : Fld Z h0 x "java/lang/String" "coder" "B" (.int 1)) (z : Int32) (Sc : Sta Z h0 "java/lang/String" "COMPACT_STRINGS" "Z" (.int z)) (hz : ¬ z = 0) :
    Con none l (⟨"java/lang/String", "isLatin1", "()Z"⟩ : MethodName) jdk_42_method_154_code 1 (some .boolean) [] ({ frames := 0, cells := 0, slots := 0, locals := 0 } : Room) Z n0 h0 [] #[(.ref x)] (fun v h => v = some (.int 0)) := by
  refine Con.intro pn1 Z0 (fun _ q => nomatch q) trivial #[.val (.ref x)] (fun m => by first | (simp [entryFrame, mkF, argsToLocals, Value.category]; done) | rfl) ?_
  intro p e s m below meth c T0 hlk hret hnm K0
  have P0 := Keep.refl h0 []
  refine gGetS K0 b9_0 (hw _ (List.mem_of_getElem? (i := 20) rfl)) Sc (fun T101 K101 => ?_)
  refine gIf_eq K101 b9_3 (fun q => absurd q hz) (fun q3 => ?_)
  refine gAloadN K101 b9_6 (v := (.ref x)) rfl rfl ?_
  refine gGet K101 b9_7 (hw _ (List.mem_of_getElem? (i := 32) rfl)) Fc (fun T102 K102 => ?_)
  refine gIf_ne K102 b9_10 (fun q10 => ?_) (fun q => absurd q (by first | decide | (intro hh; cases hh) | simp))
  refine gIconst K102 (0 : Int32) b9_17 rfl ?_
  refine gRetI K102 hlk hret (by simp) b9_18 rfl P0 (by decide) (by decide) ?_
  exact rfl
set_option maxRecDepth 65536 in
set_option maxHeartbeats 40000000 in
theorem c_chU (l : Launch) (Z : State) (a0 : Array Value) (hw : ∀ d ∈ tables_1, d.before a0 Z = true) (h0 : Heap) (n0 : Nat) (Z0 : n0 ≤ h0.size) (x : Addr) (cs : List Int32) (k : Nat) (Su : StrU Z h0 x cs) (hk : k < cs.length) (u : US Z h0) (z : Int32) (Sc : Sta Z h0 "java/lang/String" "COMPACT_STRINGS" "Z" (.int z)) (hz : ¬ z = 0) (fm : Value) (Sf : Sta Z h0 "jdk/internal/util/Preconditions" "SIOOBE_FORMATTER" "Ljava/util/function/BiFunction;" fm) (rf : fm.isRef = true) :
    Con none l (⟨"java/lang/String", "charAt", "(I)C"⟩ : MethodName) jdk_42_method_56_code 2 (some .char) [] ({ frames := 4, cells := 0, slots := 0, locals := 53 } : Room) Z n0 h0 [] #[(.ref x), (.int (Int32.ofNat k))] (fun v h => v = some (.int (cs.getD k 0))) := by
  refine Con.intro pn1 Z0 (fun _ q => nomatch q) trivial #[.val (.ref x), .val (.int (Int32.ofNat k))] (fun m => by first | (simp [entryFrame, mkF, argsToLocals, Value.category]; done) | rfl) ?_
  intro p e s m below meth c T0 hlk hret hnm K0
  have P0 := Keep.refl h0 []
  obtain ⟨bb, kA, Ex, Fc, Fv, Ab, hp, -, hN⟩ := Su
  refine gAloadN K0 b8_0 (v := (.ref x)) rfl rfl ?_
  refine gCallV K0 (W := 0) (C := "java/lang/String") x [] [] b8_1 (hw _ (List.mem_of_getElem? (i := 46) rfl)) (hw _ (List.mem_of_getElem? (i := 47) rfl)) (hw _ (List.mem_of_getElem? (i := 49) rfl)) (hw _ (List.mem_of_getElem? (i := 48) rfl)) (Cal.ofN (W := 0) (c_isL1 l Z a0 hw h0 n0 K0.n0le x Fc z Sc hz) (hw _ (List.mem_of_getElem? (i := 50) rfl)) (hw _ (List.mem_of_getElem? (i := 9) rfl)) (by decide) (by decide)) Ex (fun _ q => nomatch q) pd12 rfl rfl (Nat.le_of_eq rfl) rfl (by decide) (by decide) (by decide) (fun v101 T101 h101 K101 Q101 q101 => ?_)
  have E101 := Ext.of0 Q101
  have P102 := P0.ext E101
  cases q101
  refine gIf_eq K101 b8_4 (fun q4 => ?_) (fun q => absurd q (by first | decide | (intro hh; cases hh) | simp))
  refine gAloadN K101 b8_16 (v := (.ref x)) rfl rfl ?_
  refine gGet K101 b8_17 (hw _ (List.mem_of_getElem? (i := 34) rfl)) (Fv.ext E101) (fun T103 K103 => ?_)
  refine gIloadN K103 b8_20 (v := (Int32.ofNat k)) rfl ?_
  refine gCallS K103 (W := 0) [(.ref bb), (.int (Int32.ofNat k))] [] b8_21 (hw _ (List.mem_of_getElem? (i := 88) rfl)) (hw _ (List.mem_of_getElem? (i := 89) rfl)) (hw _ (List.mem_of_getElem? (i := 23) rfl)) (hw _ (List.mem_of_getElem? (i := 90) rfl)) (Cal.ofN (W := 0) (c_uch l Z a0 hw h101 n0 K103.n0le bb kA cs k (Ab.ext E101) hp hk hN (u.ext E101) fm (Sf.ext E101) rf) (hw _ (List.mem_of_getElem? (i := 90) rfl)) (hw _ (List.mem_of_getElem? (i := 23) rfl)) (by decide) (by decide)) (fun _ q => nomatch q) pd5 rfl rfl (Nat.le_of_eq rfl) rfl (by decide) (by decide) (by decide) (fun v104 T104 h104 K104 Q104 q104 => ?_)
  have E104 := Ext.of0 Q104
  have P105 := P102.ext E104
  cases q104
  refine gRetI K104 hlk hret (by simp) b8_24 (narrow_c16 (getD_bd16 hp k)) P105 (by decide) (by decide) ?_
  exact rfl
theorem cal_chA {md : Option EList} {p : Program} {l : Launch} {e : Env} {R : Room} {args : Array Value} {below : List Frame} {W : Nat} {Z : State} {a0 : Array Value} {h : Heap} {n0 : Nat} (hw : ∀ d ∈ tables_1, d.before a0 Z = true) (hh0 : n0 ≤ h.size) {x : Addr} {cs : List Int32} {z : Int32} {fm : Value} (i : Nat) (A : StrA Z h x cs) (S : Sta Z h "java/lang/String" "COMPACT_STRINGS" "Z" (.int z)) (hz : ¬ z = 0) (Sf : Sta Z h "jdk/internal/util/Preconditions" "SIOOBE_FORMATTER" "Ljava/util/function/BiFunction;" fm) (rf : fm.isRef = true) (u : US Z h) (hi : i < cs.length) (hfr : 5 ≤ R.frames) (hlo : W + 66 ≤ R.locals) :
    Cal md l R p e below args (⟨"java/lang/String", "charAt", "(I)C"⟩ : MethodName) 3 W Z n0 h [] #[.ref x, .int (Int32.ofNat i)] 0 0 (fun v h' => v = some (.int (cs.getD i 0))) := by
  rcases A with A | A
  · exact cal_ch hw i A S hz Sf rf hi rfl (Nat.le_trans (by decide) hfr) (Nat.le_trans (by omega) hlo)
  · exact Cal.mono (Cal.ofN (W := W) (c_chU l Z a0 hw h n0 hh0 x cs i A hi u z S hz fm Sf rf) (hw _ (List.mem_of_getElem? (i := 45) rfl)) (hw _ (List.mem_of_getElem? (i := 9) rfl)) hfr (Nat.le_trans (show W + (2 + 11) + 53 ≤ W + 66 by omega) hlo)) (Nat.le_refl _) (Nat.le_refl _) (fun _ _ q => q)

def let_ (c : Int32) : Prop := (¬ c < 97 ∧ ¬ (122 : Int32) < c) ∨ (¬ c < 65 ∧ ¬ (90 : Int32) < c)
instance (c : Int32) : Decidable (let_ c) := inferInstanceAs (Decidable ((¬ c < 97 ∧ ¬ (122 : Int32) < c) ∨ (¬ c < 65 ∧ ¬ (90 : Int32) < c)))
def scp (c : Int32) : Prop := let_ c ∨ (¬ c < 48 ∧ ¬ (57 : Int32) < c) ∨ c = 43 ∨ c = 45 ∨ c = 46
instance (c : Int32) : Decidable (scp c) := inferInstanceAs (Decidable (let_ c ∨ (¬ c < 48 ∧ ¬ (57 : Int32) < c) ∨ c = 43 ∨ c = 45 ∨ c = 46))
def scl (cs : List Int32) : Nat → Nat → Nat
  | 0, _ => 0
  | d + 1, k => if cs.getD k 0 = 58 then k + 1 else if scp (cs.getD k 0) then scl cs d (k + 1) else 0
theorem scl_0 (cs : List Int32) (k : Nat) : scl cs 0 k = 0 := rfl
theorem scl_s (cs : List Int32) (d k : Nat) : scl cs (d + 1) k = if cs.getD k 0 = 58 then k + 1 else if scp (cs.getD k 0) then scl cs d (k + 1) else 0 := rfl
def slen (cs : List Int32) : Nat → Nat
  | 0 => 0
  | e + 1 => if let_ (cs.getD 0 0) then scl cs e 1 else 0
theorem slen_s (cs : List Int32) (e : Nat) : slen cs (e + 1) = if let_ (cs.getD 0 0) then scl cs e 1 else 0 := rfl
theorem slen_p {cs : List Int32} {e : Nat} (h : ¬ e = 0) (hl : let_ (cs.getD 0 0)) : scl cs (e - 1) 1 = slen cs e := by
  cases e with
  | zero => exact absurd rfl h
  | succ e => rw [slen_s, if_pos hl]; rfl
theorem slen_n {cs : List Int32} {e : Nat} (hl : ¬ let_ (cs.getD 0 0)) : slen cs e = 0 := by
  cases e with
  | zero => rfl
  | succ e => rw [slen_s, if_neg hl]

set_option maxRecDepth 65536 in
set_option maxHeartbeats 40000000 in
theorem c_isLet (l : Launch) (Z : State) (a0 : Array Value) (hw : ∀ d ∈ tables_1, d.before a0 Z = true) (h0 : Heap) (n0 : Nat) (Z0 : n0 ≤ h0.size) (cc : Int32) :
    Con none l (⟨"com/example/disallow/disallow/UrlPath", "isAsciiLetter", "(C)Z"⟩ : MethodName) prog_24_method_6_code 1 (some .boolean) [] ({ frames := 0, cells := 0, slots := 0, locals := 0 } : Room) Z n0 h0 [] #[(.int cc)] (fun v h => v = some (.int (if let_ cc then 1 else 0))) := by
  refine Con.intro pn3 Z0 (fun _ q => nomatch q) trivial #[.val (.int cc)] (fun m => by first | (simp [entryFrame, mkF, argsToLocals, Value.category]; done) | rfl) ?_
  intro p e s m below meth c T0 hlk hret hnm K0
  have P0 := Keep.refl h0 []
  refine gIloadN K0 b13_0 (v := cc) rfl ?_
  refine gBipush K0 (97 : Int32) b13_1 rfl ?_
  refine gIcmp_lt K0 b13_3 (fun q3 => ?_) (fun q3 => ?_)
  · skip
    refine gIloadN K0 b13_12 (v := cc) rfl ?_
    refine gBipush K0 (65 : Int32) b13_13 rfl ?_
    refine gIcmp_lt K0 b13_15 (fun q15 => ?_) (fun q15 => ?_)
    · skip
      refine gIconst K0 (0 : Int32) b13_28 rfl ?_
      refine gRetI K0 hlk hret (by simp) b13_29 rfl P0 (by decide) (by decide) ?_
      exact congrArg (fun z => some (Value.int z)) (if_neg (show ¬ let_ cc from fun q => q.elim (fun q => q.1 q3) (fun q => q.1 q15))).symm
    · skip
      refine gIloadN K0 b13_18 (v := cc) rfl ?_
      refine gBipush K0 (90 : Int32) b13_19 rfl ?_
      refine gIcmp_gt K0 b13_21 (fun q21 => ?_) (fun q21 => ?_)
      · skip
        refine gIconst K0 (0 : Int32) b13_28 rfl ?_
        refine gRetI K0 hlk hret (by simp) b13_29 rfl P0 (by decide) (by decide) ?_
        exact congrArg (fun z => some (Value.int z)) (if_neg (show ¬ let_ cc from fun q => q.elim (fun q => q.1 q3) (fun q => q.2 q21))).symm
      · skip
        refine gIconst K0 (1 : Int32) b13_24 rfl ?_
        refine gGoto K0 b13_25 ?_
        refine gRetI K0 hlk hret (by simp) b13_29 rfl P0 (by decide) (by decide) ?_
        exact congrArg (fun z => some (Value.int z)) (if_pos (show let_ cc from (Or.inr ⟨q15, q21⟩))).symm
  · skip
    refine gIloadN K0 b13_6 (v := cc) rfl ?_
    refine gBipush K0 (122 : Int32) b13_7 rfl ?_
    refine gIcmp_le K0 b13_9 (fun q9 => ?_) (fun q9 => ?_)
    · skip
      refine gIconst K0 (1 : Int32) b13_24 rfl ?_
      refine gGoto K0 b13_25 ?_
      refine gRetI K0 hlk hret (by simp) b13_29 rfl P0 (by decide) (by decide) ?_
      exact congrArg (fun z => some (Value.int z)) (if_pos (show let_ cc from (Or.inl ⟨q3, q9⟩))).symm
    · skip
      refine gIloadN K0 b13_12 (v := cc) rfl ?_
      refine gBipush K0 (65 : Int32) b13_13 rfl ?_
      refine gIcmp_lt K0 b13_15 (fun q15 => ?_) (fun q15 => ?_)
      · skip
        refine gIconst K0 (0 : Int32) b13_28 rfl ?_
        refine gRetI K0 hlk hret (by simp) b13_29 rfl P0 (by decide) (by decide) ?_
        exact congrArg (fun z => some (Value.int z)) (if_neg (show ¬ let_ cc from fun q => q.elim (fun q => q.2 q9) (fun q => q.1 q15))).symm
      · skip
        refine gIloadN K0 b13_18 (v := cc) rfl ?_
        refine gBipush K0 (90 : Int32) b13_19 rfl ?_
        refine gIcmp_gt K0 b13_21 (fun q21 => ?_) (fun q21 => ?_)
        · skip
          refine gIconst K0 (0 : Int32) b13_28 rfl ?_
          refine gRetI K0 hlk hret (by simp) b13_29 rfl P0 (by decide) (by decide) ?_
          exact congrArg (fun z => some (Value.int z)) (if_neg (show ¬ let_ cc from fun q => q.elim (fun q => q.2 q9) (fun q => q.2 q21))).symm
        · skip
          refine gIconst K0 (1 : Int32) b13_24 rfl ?_
          refine gGoto K0 b13_25 ?_
          refine gRetI K0 hlk hret (by simp) b13_29 rfl P0 (by decide) (by decide) ?_
          exact congrArg (fun z => some (Value.int z)) (if_pos (show let_ cc from (Or.inr ⟨q15, q21⟩))).symm
set_option maxRecDepth 65536 in
set_option maxHeartbeats 40000000 in
theorem c_letter (l : Launch) (Z : State) (a0 : Array Value) (hw : ∀ d ∈ tables_1, d.before a0 Z = true) (h0 : Heap) (n0 : Nat) (Z0 : n0 ≤ h0.size) (cc : Int32) :
    Con none l (⟨"com/example/disallow/disallow/UrlPathSchemeLengthPinLaw", "letter", "(C)Z"⟩ : MethodName) method_3_code 1 (some .boolean) [] ({ frames := 0, cells := 0, slots := 0, locals := 0 } : Room) Z n0 h0 [] #[(.int cc)] (fun v h => v = some (.int (if let_ cc then 1 else 0))) := by
  refine Con.intro pn4 Z0 (fun _ q => nomatch q) trivial #[.val (.int cc)] (fun m => by first | (simp [entryFrame, mkF, argsToLocals, Value.category]; done) | rfl) ?_
  intro p e s m below meth c T0 hlk hret hnm K0
  have P0 := Keep.refl h0 []
  refine gIloadN K0 b14_0 (v := cc) rfl ?_
  refine gBipush K0 (97 : Int32) b14_1 rfl ?_
  refine gIcmp_lt K0 b14_3 (fun q3 => ?_) (fun q3 => ?_)
  · skip
    refine gIloadN K0 b14_12 (v := cc) rfl ?_
    refine gBipush K0 (65 : Int32) b14_13 rfl ?_
    refine gIcmp_lt K0 b14_15 (fun q15 => ?_) (fun q15 => ?_)
    · skip
      refine gIconst K0 (0 : Int32) b14_28 rfl ?_
      refine gRetI K0 hlk hret (by simp) b14_29 rfl P0 (by decide) (by decide) ?_
      exact congrArg (fun z => some (Value.int z)) (if_neg (show ¬ let_ cc from fun q => q.elim (fun q => q.1 q3) (fun q => q.1 q15))).symm
    · skip
      refine gIloadN K0 b14_18 (v := cc) rfl ?_
      refine gBipush K0 (90 : Int32) b14_19 rfl ?_
      refine gIcmp_gt K0 b14_21 (fun q21 => ?_) (fun q21 => ?_)
      · skip
        refine gIconst K0 (0 : Int32) b14_28 rfl ?_
        refine gRetI K0 hlk hret (by simp) b14_29 rfl P0 (by decide) (by decide) ?_
        exact congrArg (fun z => some (Value.int z)) (if_neg (show ¬ let_ cc from fun q => q.elim (fun q => q.1 q3) (fun q => q.2 q21))).symm
      · skip
        refine gIconst K0 (1 : Int32) b14_24 rfl ?_
        refine gGoto K0 b14_25 ?_
        refine gRetI K0 hlk hret (by simp) b14_29 rfl P0 (by decide) (by decide) ?_
        exact congrArg (fun z => some (Value.int z)) (if_pos (show let_ cc from (Or.inr ⟨q15, q21⟩))).symm
  · skip
    refine gIloadN K0 b14_6 (v := cc) rfl ?_
    refine gBipush K0 (122 : Int32) b14_7 rfl ?_
    refine gIcmp_le K0 b14_9 (fun q9 => ?_) (fun q9 => ?_)
    · skip
      refine gIconst K0 (1 : Int32) b14_24 rfl ?_
      refine gGoto K0 b14_25 ?_
      refine gRetI K0 hlk hret (by simp) b14_29 rfl P0 (by decide) (by decide) ?_
      exact congrArg (fun z => some (Value.int z)) (if_pos (show let_ cc from (Or.inl ⟨q3, q9⟩))).symm
    · skip
      refine gIloadN K0 b14_12 (v := cc) rfl ?_
      refine gBipush K0 (65 : Int32) b14_13 rfl ?_
      refine gIcmp_lt K0 b14_15 (fun q15 => ?_) (fun q15 => ?_)
      · skip
        refine gIconst K0 (0 : Int32) b14_28 rfl ?_
        refine gRetI K0 hlk hret (by simp) b14_29 rfl P0 (by decide) (by decide) ?_
        exact congrArg (fun z => some (Value.int z)) (if_neg (show ¬ let_ cc from fun q => q.elim (fun q => q.2 q9) (fun q => q.1 q15))).symm
      · skip
        refine gIloadN K0 b14_18 (v := cc) rfl ?_
        refine gBipush K0 (90 : Int32) b14_19 rfl ?_
        refine gIcmp_gt K0 b14_21 (fun q21 => ?_) (fun q21 => ?_)
        · skip
          refine gIconst K0 (0 : Int32) b14_28 rfl ?_
          refine gRetI K0 hlk hret (by simp) b14_29 rfl P0 (by decide) (by decide) ?_
          exact congrArg (fun z => some (Value.int z)) (if_neg (show ¬ let_ cc from fun q => q.elim (fun q => q.2 q9) (fun q => q.2 q21))).symm
        · skip
          refine gIconst K0 (1 : Int32) b14_24 rfl ?_
          refine gGoto K0 b14_25 ?_
          refine gRetI K0 hlk hret (by simp) b14_29 rfl P0 (by decide) (by decide) ?_
          exact congrArg (fun z => some (Value.int z)) (if_pos (show let_ cc from (Or.inr ⟨q15, q21⟩))).symm
set_option maxRecDepth 65536 in
set_option maxHeartbeats 40000000 in
theorem c_sc (l : Launch) (Z : State) (a0 : Array Value) (hw : ∀ d ∈ tables_1, d.before a0 Z = true) (h0 : Heap) (n0 : Nat) (Z0 : n0 ≤ h0.size) (cc : Int32) :
    Con none l (⟨"com/example/disallow/disallow/UrlPathSchemeLengthPinLaw", "sc", "(C)Z"⟩ : MethodName) method_4_code 1 (some .boolean) [] ({ frames := 1, cells := 0, slots := 0, locals := 12 } : Room) Z n0 h0 [] #[(.int cc)] (fun v h => v = some (.int (if scp cc then 1 else 0))) := by
  refine Con.intro pn4 Z0 (fun _ q => nomatch q) trivial #[.val (.int cc)] (fun m => by first | (simp [entryFrame, mkF, argsToLocals, Value.category]; done) | rfl) ?_
  intro p e s m below meth c T0 hlk hret hnm K0
  have P0 := Keep.refl h0 []
  refine gIloadN K0 b23_0 (v := cc) rfl ?_
  refine gCallS K0 (W := 0) [(.int cc)] [] b23_1 (hw _ (List.mem_of_getElem? (i := 66) rfl)) (hw _ (List.mem_of_getElem? (i := 67) rfl)) (hw _ (List.mem_of_getElem? (i := 3) rfl)) (hw _ (List.mem_of_getElem? (i := 68) rfl)) (Cal.ofN (W := 0) (c_letter l Z a0 hw h0 n0 K0.n0le cc) (hw _ (List.mem_of_getElem? (i := 68) rfl)) (hw _ (List.mem_of_getElem? (i := 3) rfl)) (by decide) (by decide)) (fun _ q => nomatch q) pd13 rfl rfl (Nat.le_of_eq rfl) rfl (by decide) (by decide) (by decide) (fun v101 T101 h101 K101 Q101 q101 => ?_)
  have E101 := Ext.of0 Q101
  have P102 := P0.ext E101
  cases q101
  by_cases hlet : let_ cc
  · skip
    rw [if_pos hlet]
    refine gIf_ne K101 b23_4 (fun q4 => ?_) (fun q => absurd q (by first | decide | (intro hh; cases hh) | simp))
    refine gIconst K101 (1 : Int32) b23_37 rfl ?_
    refine gGoto K101 b23_38 ?_
    refine gRetI K101 hlk hret (by simp) b23_42 rfl P102 (by decide) (by decide) ?_
    exact congrArg (fun z => some (Value.int z)) (if_pos (show scp cc from (Or.inl hlet))).symm
  · skip
    rw [if_neg hlet]
    refine gIf_ne K101 b23_4 (fun q => absurd q (by first | decide | (intro hh; cases hh) | simp)) (fun q4 => ?_)
    refine gIloadN K101 b23_7 (v := cc) rfl ?_
    refine gBipush K101 (48 : Int32) b23_8 rfl ?_
    refine gIcmp_lt K101 b23_10 (fun q10 => ?_) (fun q10 => ?_)
    · skip
      refine gIloadN K101 b23_19 (v := cc) rfl ?_
      refine gBipush K101 (43 : Int32) b23_20 rfl ?_
      refine gIcmp_eq K101 b23_22 (fun q22 => ?_) (fun q22 => ?_)
      · skip
        refine gIconst K101 (1 : Int32) b23_37 rfl ?_
        refine gGoto K101 b23_38 ?_
        refine gRetI K101 hlk hret (by simp) b23_42 rfl P102 (by decide) (by decide) ?_
        exact congrArg (fun z => some (Value.int z)) (if_pos (show scp cc from (Or.inr (Or.inr (Or.inl q22))))).symm
      · skip
        refine gIloadN K101 b23_25 (v := cc) rfl ?_
        refine gBipush K101 (45 : Int32) b23_26 rfl ?_
        refine gIcmp_eq K101 b23_28 (fun q28 => ?_) (fun q28 => ?_)
        · skip
          refine gIconst K101 (1 : Int32) b23_37 rfl ?_
          refine gGoto K101 b23_38 ?_
          refine gRetI K101 hlk hret (by simp) b23_42 rfl P102 (by decide) (by decide) ?_
          exact congrArg (fun z => some (Value.int z)) (if_pos (show scp cc from (Or.inr (Or.inr (Or.inr (Or.inl q28)))))).symm
        · skip
          refine gIloadN K101 b23_31 (v := cc) rfl ?_
          refine gBipush K101 (46 : Int32) b23_32 rfl ?_
          refine gIcmp_ne K101 b23_34 (fun q34 => ?_) (fun q34 => ?_)
          · skip
            refine gIconst K101 (0 : Int32) b23_41 rfl ?_
            refine gRetI K101 hlk hret (by simp) b23_42 rfl P102 (by decide) (by decide) ?_
            exact congrArg (fun z => some (Value.int z)) (if_neg (show ¬ scp cc from fun q => q.elim hlet (fun q => q.elim (fun q => q.1 q10) (fun q => q.elim q22 (fun q => q.elim q28 q34))))).symm
          · skip
            refine gIconst K101 (1 : Int32) b23_37 rfl ?_
            refine gGoto K101 b23_38 ?_
            refine gRetI K101 hlk hret (by simp) b23_42 rfl P102 (by decide) (by decide) ?_
            exact congrArg (fun z => some (Value.int z)) (if_pos (show scp cc from (Or.inr (Or.inr (Or.inr (Or.inr q34)))))).symm
    · skip
      refine gIloadN K101 b23_13 (v := cc) rfl ?_
      refine gBipush K101 (57 : Int32) b23_14 rfl ?_
      refine gIcmp_le K101 b23_16 (fun q16 => ?_) (fun q16 => ?_)
      · skip
        refine gIconst K101 (1 : Int32) b23_37 rfl ?_
        refine gGoto K101 b23_38 ?_
        refine gRetI K101 hlk hret (by simp) b23_42 rfl P102 (by decide) (by decide) ?_
        exact congrArg (fun z => some (Value.int z)) (if_pos (show scp cc from (Or.inr (Or.inl ⟨q10, q16⟩)))).symm
      · skip
        refine gIloadN K101 b23_19 (v := cc) rfl ?_
        refine gBipush K101 (43 : Int32) b23_20 rfl ?_
        refine gIcmp_eq K101 b23_22 (fun q22 => ?_) (fun q22 => ?_)
        · skip
          refine gIconst K101 (1 : Int32) b23_37 rfl ?_
          refine gGoto K101 b23_38 ?_
          refine gRetI K101 hlk hret (by simp) b23_42 rfl P102 (by decide) (by decide) ?_
          exact congrArg (fun z => some (Value.int z)) (if_pos (show scp cc from (Or.inr (Or.inr (Or.inl q22))))).symm
        · skip
          refine gIloadN K101 b23_25 (v := cc) rfl ?_
          refine gBipush K101 (45 : Int32) b23_26 rfl ?_
          refine gIcmp_eq K101 b23_28 (fun q28 => ?_) (fun q28 => ?_)
          · skip
            refine gIconst K101 (1 : Int32) b23_37 rfl ?_
            refine gGoto K101 b23_38 ?_
            refine gRetI K101 hlk hret (by simp) b23_42 rfl P102 (by decide) (by decide) ?_
            exact congrArg (fun z => some (Value.int z)) (if_pos (show scp cc from (Or.inr (Or.inr (Or.inr (Or.inl q28)))))).symm
          · skip
            refine gIloadN K101 b23_31 (v := cc) rfl ?_
            refine gBipush K101 (46 : Int32) b23_32 rfl ?_
            refine gIcmp_ne K101 b23_34 (fun q34 => ?_) (fun q34 => ?_)
            · skip
              refine gIconst K101 (0 : Int32) b23_41 rfl ?_
              refine gRetI K101 hlk hret (by simp) b23_42 rfl P102 (by decide) (by decide) ?_
              exact congrArg (fun z => some (Value.int z)) (if_neg (show ¬ scp cc from fun q => q.elim hlet (fun q => q.elim (fun q => q.2 q16) (fun q => q.elim q22 (fun q => q.elim q28 q34))))).symm
            · skip
              refine gIconst K101 (1 : Int32) b23_37 rfl ?_
              refine gGoto K101 b23_38 ?_
              refine gRetI K101 hlk hret (by simp) b23_42 rfl P102 (by decide) (by decide) ?_
              exact congrArg (fun z => some (Value.int z)) (if_pos (show scp cc from (Or.inr (Or.inr (Or.inr (Or.inr q34)))))).symm
set_option maxRecDepth 65536 in
set_option maxHeartbeats 40000000 in
theorem c_pick (l : Launch) (Z : State) (a0 : Array Value) (hw : ∀ d ∈ tables_1, d.before a0 Z = true) (h0 : Heap) (n0 : Nat) (Z0 : n0 ≤ h0.size) (v0 : Int32) (ta : Addr) (kT : ClassId) (At : Arv Z h0 ta kT .char 16 ([(97 : Int32), (122 : Int32), (65 : Int32), (90 : Int32), (48 : Int32), (57 : Int32), (43 : Int32), (45 : Int32), (46 : Int32), (58 : Int32), (64 : Int32), (91 : Int32), (96 : Int32), (123 : Int32), (47 : Int32), (44 : Int32)].map Value.int) (.int 0)) :
    Con none l (⟨"com/example/disallow/disallow/UrlPathSchemeLengthPinLaw", "pick", "(I[C)C"⟩ : MethodName) method_2_code 2 (some .char) [] ({ frames := 0, cells := 0, slots := 0, locals := 0 } : Room) Z n0 h0 [] #[(.int v0), (.ref ta)] (fun v h => ∃ r : Int32, v = some (.int r) ∧ (¬ r < 0 ∧ ¬ (65535 : Int32) < r)) := by
  refine Con.intro pn4 Z0 (fun _ q => nomatch q) trivial #[.val (.int v0), .val (.ref ta)] (fun m => by first | (simp [entryFrame, mkF, argsToLocals, Value.category]; done) | rfl) ?_
  intro p e s m below meth c T0 hlk hret hnm K0
  have P0 := Keep.refl h0 []
  refine gIloadN K0 b0_0 (v := v0) rfl ?_
  refine gLdcI K0 (65536 : Int32) b0_1 (hw _ (List.mem_of_getElem? (i := 5) rfl)) ?_
  refine gIand K0 b0_3 ?_
  refine gIf_eq K0 b0_4 (fun q4 => ?_) (fun q4 => ?_)
  · skip
    refine gIloadN K0 b0_17 (v := v0) rfl ?_
    refine gLdcI K0 (65535 : Int32) b0_18 (hw _ (List.mem_of_getElem? (i := 6) rfl)) ?_
    refine gIand K0 b0_20 ?_
    refine gI2c K0 b0_21 ?_
    have hr := i2c_bd (v0 &&& (65535 : Int32))
    generalize ((v0 &&& (65535 : Int32))).toUInt32.toUInt16.toUInt32.toInt32 = r at hr ⊢
    refine gRetI K0 hlk hret (by simp) b0_22 (narrow_c16 hr) P0 (by decide) (by decide) ?_
    exact ⟨_, rfl, hr⟩
  · skip
    refine gAloadN K0 b0_7 (v := (.ref ta)) rfl rfl ?_
    refine gIloadN K0 b0_8 (v := v0) rfl ?_
    refine gBipush K0 (17 : Int32) b0_9 rfl ?_
    refine gIushr K0 b0_11 ?_
    refine gBipush K0 (15 : Int32) b0_12 rfl ?_
    refine gIand K0 b0_14 ?_
    refine gCaload K0 b0_15 At (and15 _) (v := .int ([(97 : Int32), (122 : Int32), (65 : Int32), (90 : Int32), (48 : Int32), (57 : Int32), (43 : Int32), (45 : Int32), (46 : Int32), (58 : Int32), (64 : Int32), (91 : Int32), (96 : Int32), (123 : Int32), (47 : Int32), (44 : Int32)].getD (((XT.ushr v0 (17 : Int32)) &&& (15 : Int32))).toNatClampNeg 0)) (getD_mapI [(97 : Int32), (122 : Int32), (65 : Int32), (90 : Int32), (48 : Int32), (57 : Int32), (43 : Int32), (45 : Int32), (46 : Int32), (58 : Int32), (64 : Int32), (91 : Int32), (96 : Int32), (123 : Int32), (47 : Int32), (44 : Int32)] _) ?_
    have hr := getD_bd16 (cs := [(97 : Int32), (122 : Int32), (65 : Int32), (90 : Int32), (48 : Int32), (57 : Int32), (43 : Int32), (45 : Int32), (46 : Int32), (58 : Int32), (64 : Int32), (91 : Int32), (96 : Int32), (123 : Int32), (47 : Int32), (44 : Int32)]) (by decide) (((XT.ushr v0 (17 : Int32)) &&& (15 : Int32))).toNatClampNeg
    generalize ([(97 : Int32), (122 : Int32), (65 : Int32), (90 : Int32), (48 : Int32), (57 : Int32), (43 : Int32), (45 : Int32), (46 : Int32), (58 : Int32), (64 : Int32), (91 : Int32), (96 : Int32), (123 : Int32), (47 : Int32), (44 : Int32)].getD (((XT.ushr v0 (17 : Int32)) &&& (15 : Int32))).toNatClampNeg 0) = r at hr ⊢
    refine gRetI K0 hlk hret (by simp) b0_16 (narrow_c16 hr) P0 (by decide) (by decide) ?_
    exact ⟨_, rfl, hr⟩
set_option maxRecDepth 65536 in
set_option maxHeartbeats 40000000 in
theorem c_scheme (l : Launch) (Z : State) (a0 : Array Value) (hw : ∀ d ∈ tables_1, d.before a0 Z = true) (h0 : Heap) (n0 : Nat) (Z0 : n0 ≤ h0.size) (x : Addr) (cs : List Int32) (E : Nat) (hE : E ≤ cs.length) (hL : cs.length ≤ 4000) (A : StrA Z h0 x cs) (z : Int32) (Sc : Sta Z h0 "java/lang/String" "COMPACT_STRINGS" "Z" (.int z)) (hz : ¬ z = 0) (fm : Value) (Sf : Sta Z h0 "jdk/internal/util/Preconditions" "SIOOBE_FORMATTER" "Ljava/util/function/BiFunction;" fm) (rf : fm.isRef = true) (u : US Z h0) :
    Con none l (⟨"com/example/disallow/disallow/UrlPath", "schemeLength", "(Ljava/lang/String;I)I"⟩ : MethodName) prog_24_method_4_code 4 (some .int) [] ({ frames := 5, cells := 0, slots := 0, locals := 66 } : Room) Z n0 h0 [] #[(.ref x), (.int (Int32.ofNat E))] (fun v h => v = some (.int (Int32.ofNat (slen cs E)))) := by
  refine Con.intro pn3 Z0 (fun _ q => nomatch q) trivial #[.val (.ref x), .val (.int (Int32.ofNat E)), .unset, .unset] (fun m => by first | (simp [entryFrame, mkF, argsToLocals, Value.category]; done) | rfl) ?_
  intro p e s m below meth c T0 hlk hret hnm K0
  have P0 := Keep.refl h0 []
  refine gIloadN K0 b7_0 (v := (Int32.ofNat E)) rfl ?_
  refine gIf_eq K0 b7_1 (fun q1 => ?_) (fun q1 => ?_)
  · skip
    refine gIconst K0 (0 : Int32) b7_15 rfl ?_
    have hE1 : E = 0 := by
      have q9 := congrArg Int32.toInt q1
      rw [ofNat_toInt (by omega)] at q9
      have e0 : (0 : Int32).toInt = 0 := by decide
      omega
    refine gRetI K0 hlk hret (by simp) b7_16 rfl P0 (by decide) (by decide) ?_
    show _ = _
    rw [hE1]; rfl
  · skip
    have hE0 : ¬ E = 0 := fun q => q1 (by rw [q]; rfl)
    refine gAloadN K0 b7_4 (v := (.ref x)) rfl rfl ?_
    refine gIconst K0 (0 : Int32) b7_5 rfl ?_
    refine gCallV K0 (W := 0) (C := "java/lang/String") x [(.int (0 : Int32))] [] b7_6 (hw _ (List.mem_of_getElem? (i := 41) rfl)) (hw _ (List.mem_of_getElem? (i := 42) rfl)) (hw _ (List.mem_of_getElem? (i := 44) rfl)) (hw _ (List.mem_of_getElem? (i := 43) rfl)) (cal_chA hw K0.n0le (W := 0) 0 A Sc hz Sf rf u (Nat.lt_of_lt_of_le (Nat.pos_of_ne_zero hE0) hE) (by decide) (by decide)) (A).exa (fun _ q => nomatch q) pd14 rfl rfl (Nat.le_of_eq rfl) rfl (by decide) (by decide) (by decide) (fun v101 T101 h101 K101 Q101 q101 => ?_)
    have E101 := Ext.of0 Q101
    have P102 := P0.ext E101
    cases q101
    refine gCallS K101 (W := 0) [(.int (cs.getD 0 0))] [] b7_9 (hw _ (List.mem_of_getElem? (i := 63) rfl)) (hw _ (List.mem_of_getElem? (i := 64) rfl)) (hw _ (List.mem_of_getElem? (i := 39) rfl)) (hw _ (List.mem_of_getElem? (i := 65) rfl)) (Cal.ofN (W := 0) (c_isLet l Z a0 hw h101 n0 K101.n0le (cs.getD 0 0)) (hw _ (List.mem_of_getElem? (i := 65) rfl)) (hw _ (List.mem_of_getElem? (i := 39) rfl)) (by decide) (by decide)) (fun _ q => nomatch q) pd13 rfl rfl (Nat.le_of_eq rfl) rfl (by decide) (by decide) (by decide) (fun v103 T103 h103 K103 Q103 q103 => ?_)
    have E103 := Ext.of0 Q103
    have P104 := P102.ext E103
    cases q103
    by_cases hl0 : let_ (cs.getD 0 0)
    · skip
      rw [if_pos hl0]
      refine gIf_ne K103 b7_12 (fun q12 => ?_) (fun q => absurd q (by first | decide | (intro hh; cases hh) | simp))
      refine gIconst K103 (1 : Int32) b7_17 rfl ?_
      refine gIstoreN K103 b7_18 (Ls' := #[.val (.ref x), .val (.int (Int32.ofNat E)), .val (.int (1 : Int32)), .unset]) rfl ?_
      have loop19 : ∀ (d k : Nat), k + d = E → scl cs d k = slen cs E → ∀ (sl3 : Slot), (sl3 = .unset ∨ ∃ w, sl3 = .val w ∧ w.category = 1) → ∀ (Tl : State) (hl : Heap) (Kl : Cx p l e ({ frames := 5, cells := 0, slots := 0, locals := 66 } : Room) s m #[(.ref x), (.int (Int32.ofNat E))] below meth c prog_24_method_4_code 4 Z "com/example/disallow/disallow/UrlPath" n0 none Tl hl [] 0 0) (Pl : Keep h0 hl []) (Al : StrA Z hl x cs) (Scl : Sta Z hl "java/lang/String" "COMPACT_STRINGS" "Z" (.int z)) (Sfl : Sta Z hl "jdk/internal/util/Preconditions" "SIOOBE_FORMATTER" "Ljava/util/function/BiFunction;" fm) (ul : US Z hl), Go p e below (End none s Z n0 h0 [] ({ frames := 5, cells := 0, slots := 0, locals := 66 } : Room).cells ({ frames := 5, cells := 0, slots := 0, locals := 66 } : Room).slots (fun v h => v = some (.int (Int32.ofNat (slen cs E))))) Tl (mkF m 19 #[.val (.ref x), .val (.int (Int32.ofNat E)), .val (.int (Int32.ofNat k)), sl3] []) := by
        intro d
        induction d with
        | zero =>
          intro k hk hr sl3 hsl3 Tl hl Kl Pl Al Scl Sfl ul
          refine gIloadN Kl b7_19 (v := (Int32.ofNat k)) rfl ?_
          refine gIloadN Kl b7_20 (v := (Int32.ofNat E)) rfl ?_
          refine gIcmp_ge Kl b7_21 (fun q21 => ?_) (fun q => absurd q (ofNat_nlt (by omega) (by omega)))
          refine gIconst Kl (0 : Int32) b7_85 rfl ?_
          refine gRetI Kl hlk hret (by simp) b7_86 rfl Pl (by decide) (by decide) ?_
          show _ = _
          rw [← hr]; rfl
        | succ d ih =>
          intro k hk hr sl3 hsl3 Tl hl Kl Pl Al Scl Sfl ul
          refine gIloadN Kl b7_19 (v := (Int32.ofNat k)) rfl ?_
          refine gIloadN Kl b7_20 (v := (Int32.ofNat E)) rfl ?_
          refine gIcmp_ge Kl b7_21 (fun q => absurd q (not_not_intro (ofNat_ltI (by omega) (by omega)))) (fun q21 => ?_)
          refine gAloadN Kl b7_24 (v := (.ref x)) rfl rfl ?_
          refine gIloadN Kl b7_25 (v := (Int32.ofNat k)) rfl ?_
          refine gCallV Kl (W := 0) (C := "java/lang/String") x [(.int (Int32.ofNat k))] [] b7_26 (hw _ (List.mem_of_getElem? (i := 41) rfl)) (hw _ (List.mem_of_getElem? (i := 42) rfl)) (hw _ (List.mem_of_getElem? (i := 44) rfl)) (hw _ (List.mem_of_getElem? (i := 43) rfl)) (cal_chA hw Kl.n0le (W := 0) k Al Scl hz Sfl rf ul (by omega) (by decide) (by decide)) (Al).exa (fun _ q => nomatch q) pd14 rfl rfl (Nat.le_of_eq rfl) rfl (by decide) (by decide) (by decide) (fun v105 T105 h105 K105 Q105 q105 => ?_)
          have E105 := Ext.of0 Q105
          have P106 := Pl.ext E105
          cases q105
          refine gIstoreN K105 b7_29 (Ls' := #[.val (.ref x), .val (.int (Int32.ofNat E)), .val (.int (Int32.ofNat k)), .val (.int (cs.getD k 0))]) ((XS.store1 (o := sl3) rfl hsl3 rfl).trans rfl) ?_
          refine gIloadN K105 b7_30 (v := (cs.getD k 0)) rfl ?_
          refine gBipush K105 (58 : Int32) b7_31 rfl ?_
          refine gIcmp_ne K105 b7_33 (fun q33 => ?_) (fun q33 => ?_)
          · skip
            refine gIloadN K105 b7_40 (v := (cs.getD k 0)) rfl ?_
            refine gCallS K105 (W := 0) [(.int (cs.getD k 0))] [] b7_41 (hw _ (List.mem_of_getElem? (i := 63) rfl)) (hw _ (List.mem_of_getElem? (i := 64) rfl)) (hw _ (List.mem_of_getElem? (i := 39) rfl)) (hw _ (List.mem_of_getElem? (i := 65) rfl)) (Cal.ofN (W := 0) (c_isLet l Z a0 hw h105 n0 K105.n0le (cs.getD k 0)) (hw _ (List.mem_of_getElem? (i := 65) rfl)) (hw _ (List.mem_of_getElem? (i := 39) rfl)) (by decide) (by decide)) (fun _ q => nomatch q) pd13 rfl rfl (Nat.le_of_eq rfl) rfl (by decide) (by decide) (by decide) (fun v107 T107 h107 K107 Q107 q107 => ?_)
            have E107 := Ext.of0 Q107
            have P108 := P106.ext E107
            cases q107
            by_cases hlet : let_ (cs.getD k 0)
            · skip
              rw [if_pos hlet]
              refine gIf_ne K107 b7_44 (fun q44 => ?_) (fun q => absurd q (by first | decide | (intro hh; cases hh) | simp))
              refine gIinc K107 (1 : Int32) b7_79 rfl (x := (Int32.ofNat k)) rfl (Ls' := #[.val (.ref x), .val (.int (Int32.ofNat E)), .val (.int ((Int32.ofNat k) + (1 : Int32))), .val (.int (cs.getD k 0))]) rfl ?_
              rw [show ((Int32.ofNat k) + (1 : Int32)) = Int32.ofNat (k + 1) from ofNat_s (by omega)]
              refine gGoto K107 b7_82 ?_
              exact ih (k + 1) (by omega) (by rw [scl_s, if_neg q33, if_pos (show scp (cs.getD k 0) from (Or.inl hlet))] at hr; exact hr) (.val (.int (cs.getD k 0))) (Or.inr ⟨_, rfl, rfl⟩) _ _ K107 P108 (Al.ext (Ext.tr E105 E107)) (Scl.ext (Ext.tr E105 E107)) (Sfl.ext (Ext.tr E105 E107)) (ul.ext (Ext.tr E105 E107))
            · skip
              rw [if_neg hlet]
              refine gIf_ne K107 b7_44 (fun q => absurd q (by first | decide | (intro hh; cases hh) | simp)) (fun q44 => ?_)
              refine gIloadN K107 b7_47 (v := (cs.getD k 0)) rfl ?_
              refine gBipush K107 (48 : Int32) b7_48 rfl ?_
              refine gIcmp_lt K107 b7_50 (fun q50 => ?_) (fun q50 => ?_)
              · skip
                refine gIloadN K107 b7_59 (v := (cs.getD k 0)) rfl ?_
                refine gBipush K107 (43 : Int32) b7_60 rfl ?_
                refine gIcmp_eq K107 b7_62 (fun q62 => ?_) (fun q62 => ?_)
                · skip
                  refine gIinc K107 (1 : Int32) b7_79 rfl (x := (Int32.ofNat k)) rfl (Ls' := #[.val (.ref x), .val (.int (Int32.ofNat E)), .val (.int ((Int32.ofNat k) + (1 : Int32))), .val (.int (cs.getD k 0))]) rfl ?_
                  rw [show ((Int32.ofNat k) + (1 : Int32)) = Int32.ofNat (k + 1) from ofNat_s (by omega)]
                  refine gGoto K107 b7_82 ?_
                  exact ih (k + 1) (by omega) (by rw [scl_s, if_neg q33, if_pos (show scp (cs.getD k 0) from (Or.inr (Or.inr (Or.inl q62))))] at hr; exact hr) (.val (.int (cs.getD k 0))) (Or.inr ⟨_, rfl, rfl⟩) _ _ K107 P108 (Al.ext (Ext.tr E105 E107)) (Scl.ext (Ext.tr E105 E107)) (Sfl.ext (Ext.tr E105 E107)) (ul.ext (Ext.tr E105 E107))
                · skip
                  refine gIloadN K107 b7_65 (v := (cs.getD k 0)) rfl ?_
                  refine gBipush K107 (45 : Int32) b7_66 rfl ?_
                  refine gIcmp_eq K107 b7_68 (fun q68 => ?_) (fun q68 => ?_)
                  · skip
                    refine gIinc K107 (1 : Int32) b7_79 rfl (x := (Int32.ofNat k)) rfl (Ls' := #[.val (.ref x), .val (.int (Int32.ofNat E)), .val (.int ((Int32.ofNat k) + (1 : Int32))), .val (.int (cs.getD k 0))]) rfl ?_
                    rw [show ((Int32.ofNat k) + (1 : Int32)) = Int32.ofNat (k + 1) from ofNat_s (by omega)]
                    refine gGoto K107 b7_82 ?_
                    exact ih (k + 1) (by omega) (by rw [scl_s, if_neg q33, if_pos (show scp (cs.getD k 0) from (Or.inr (Or.inr (Or.inr (Or.inl q68)))))] at hr; exact hr) (.val (.int (cs.getD k 0))) (Or.inr ⟨_, rfl, rfl⟩) _ _ K107 P108 (Al.ext (Ext.tr E105 E107)) (Scl.ext (Ext.tr E105 E107)) (Sfl.ext (Ext.tr E105 E107)) (ul.ext (Ext.tr E105 E107))
                  · skip
                    refine gIloadN K107 b7_71 (v := (cs.getD k 0)) rfl ?_
                    refine gBipush K107 (46 : Int32) b7_72 rfl ?_
                    refine gIcmp_eq K107 b7_74 (fun q74 => ?_) (fun q74 => ?_)
                    · skip
                      refine gIinc K107 (1 : Int32) b7_79 rfl (x := (Int32.ofNat k)) rfl (Ls' := #[.val (.ref x), .val (.int (Int32.ofNat E)), .val (.int ((Int32.ofNat k) + (1 : Int32))), .val (.int (cs.getD k 0))]) rfl ?_
                      rw [show ((Int32.ofNat k) + (1 : Int32)) = Int32.ofNat (k + 1) from ofNat_s (by omega)]
                      refine gGoto K107 b7_82 ?_
                      exact ih (k + 1) (by omega) (by rw [scl_s, if_neg q33, if_pos (show scp (cs.getD k 0) from (Or.inr (Or.inr (Or.inr (Or.inr q74)))))] at hr; exact hr) (.val (.int (cs.getD k 0))) (Or.inr ⟨_, rfl, rfl⟩) _ _ K107 P108 (Al.ext (Ext.tr E105 E107)) (Scl.ext (Ext.tr E105 E107)) (Sfl.ext (Ext.tr E105 E107)) (ul.ext (Ext.tr E105 E107))
                    · skip
                      refine gIconst K107 (0 : Int32) b7_77 rfl ?_
                      refine gRetI K107 hlk hret (by simp) b7_78 rfl P108 (by decide) (by decide) ?_
                      show _ = _
                      rw [← hr, scl_s, if_neg q33, if_neg (show ¬ scp (cs.getD k 0) from fun q => q.elim hlet (fun q => q.elim (fun q => q.1 q50) (fun q => q.elim q62 (fun q => q.elim q68 q74))))]
                      rfl
              · skip
                refine gIloadN K107 b7_53 (v := (cs.getD k 0)) rfl ?_
                refine gBipush K107 (57 : Int32) b7_54 rfl ?_
                refine gIcmp_le K107 b7_56 (fun q56 => ?_) (fun q56 => ?_)
                · skip
                  refine gIinc K107 (1 : Int32) b7_79 rfl (x := (Int32.ofNat k)) rfl (Ls' := #[.val (.ref x), .val (.int (Int32.ofNat E)), .val (.int ((Int32.ofNat k) + (1 : Int32))), .val (.int (cs.getD k 0))]) rfl ?_
                  rw [show ((Int32.ofNat k) + (1 : Int32)) = Int32.ofNat (k + 1) from ofNat_s (by omega)]
                  refine gGoto K107 b7_82 ?_
                  exact ih (k + 1) (by omega) (by rw [scl_s, if_neg q33, if_pos (show scp (cs.getD k 0) from (Or.inr (Or.inl ⟨q50, q56⟩)))] at hr; exact hr) (.val (.int (cs.getD k 0))) (Or.inr ⟨_, rfl, rfl⟩) _ _ K107 P108 (Al.ext (Ext.tr E105 E107)) (Scl.ext (Ext.tr E105 E107)) (Sfl.ext (Ext.tr E105 E107)) (ul.ext (Ext.tr E105 E107))
                · skip
                  refine gIloadN K107 b7_59 (v := (cs.getD k 0)) rfl ?_
                  refine gBipush K107 (43 : Int32) b7_60 rfl ?_
                  refine gIcmp_eq K107 b7_62 (fun q62 => ?_) (fun q62 => ?_)
                  · skip
                    refine gIinc K107 (1 : Int32) b7_79 rfl (x := (Int32.ofNat k)) rfl (Ls' := #[.val (.ref x), .val (.int (Int32.ofNat E)), .val (.int ((Int32.ofNat k) + (1 : Int32))), .val (.int (cs.getD k 0))]) rfl ?_
                    rw [show ((Int32.ofNat k) + (1 : Int32)) = Int32.ofNat (k + 1) from ofNat_s (by omega)]
                    refine gGoto K107 b7_82 ?_
                    exact ih (k + 1) (by omega) (by rw [scl_s, if_neg q33, if_pos (show scp (cs.getD k 0) from (Or.inr (Or.inr (Or.inl q62))))] at hr; exact hr) (.val (.int (cs.getD k 0))) (Or.inr ⟨_, rfl, rfl⟩) _ _ K107 P108 (Al.ext (Ext.tr E105 E107)) (Scl.ext (Ext.tr E105 E107)) (Sfl.ext (Ext.tr E105 E107)) (ul.ext (Ext.tr E105 E107))
                  · skip
                    refine gIloadN K107 b7_65 (v := (cs.getD k 0)) rfl ?_
                    refine gBipush K107 (45 : Int32) b7_66 rfl ?_
                    refine gIcmp_eq K107 b7_68 (fun q68 => ?_) (fun q68 => ?_)
                    · skip
                      refine gIinc K107 (1 : Int32) b7_79 rfl (x := (Int32.ofNat k)) rfl (Ls' := #[.val (.ref x), .val (.int (Int32.ofNat E)), .val (.int ((Int32.ofNat k) + (1 : Int32))), .val (.int (cs.getD k 0))]) rfl ?_
                      rw [show ((Int32.ofNat k) + (1 : Int32)) = Int32.ofNat (k + 1) from ofNat_s (by omega)]
                      refine gGoto K107 b7_82 ?_
                      exact ih (k + 1) (by omega) (by rw [scl_s, if_neg q33, if_pos (show scp (cs.getD k 0) from (Or.inr (Or.inr (Or.inr (Or.inl q68)))))] at hr; exact hr) (.val (.int (cs.getD k 0))) (Or.inr ⟨_, rfl, rfl⟩) _ _ K107 P108 (Al.ext (Ext.tr E105 E107)) (Scl.ext (Ext.tr E105 E107)) (Sfl.ext (Ext.tr E105 E107)) (ul.ext (Ext.tr E105 E107))
                    · skip
                      refine gIloadN K107 b7_71 (v := (cs.getD k 0)) rfl ?_
                      refine gBipush K107 (46 : Int32) b7_72 rfl ?_
                      refine gIcmp_eq K107 b7_74 (fun q74 => ?_) (fun q74 => ?_)
                      · skip
                        refine gIinc K107 (1 : Int32) b7_79 rfl (x := (Int32.ofNat k)) rfl (Ls' := #[.val (.ref x), .val (.int (Int32.ofNat E)), .val (.int ((Int32.ofNat k) + (1 : Int32))), .val (.int (cs.getD k 0))]) rfl ?_
                        rw [show ((Int32.ofNat k) + (1 : Int32)) = Int32.ofNat (k + 1) from ofNat_s (by omega)]
                        refine gGoto K107 b7_82 ?_
                        exact ih (k + 1) (by omega) (by rw [scl_s, if_neg q33, if_pos (show scp (cs.getD k 0) from (Or.inr (Or.inr (Or.inr (Or.inr q74)))))] at hr; exact hr) (.val (.int (cs.getD k 0))) (Or.inr ⟨_, rfl, rfl⟩) _ _ K107 P108 (Al.ext (Ext.tr E105 E107)) (Scl.ext (Ext.tr E105 E107)) (Sfl.ext (Ext.tr E105 E107)) (ul.ext (Ext.tr E105 E107))
                      · skip
                        refine gIconst K107 (0 : Int32) b7_77 rfl ?_
                        refine gRetI K107 hlk hret (by simp) b7_78 rfl P108 (by decide) (by decide) ?_
                        show _ = _
                        rw [← hr, scl_s, if_neg q33, if_neg (show ¬ scp (cs.getD k 0) from fun q => q.elim hlet (fun q => q.elim (fun q => q.2 q56) (fun q => q.elim q62 (fun q => q.elim q68 q74))))]
                        rfl
          · skip
            refine gIloadN K105 b7_36 (v := (Int32.ofNat k)) rfl ?_
            refine gIconst K105 (1 : Int32) b7_37 rfl ?_
            refine gIadd K105 b7_38 ?_
            rw [show ((Int32.ofNat k) + (1 : Int32)) = Int32.ofNat (k + 1) from ofNat_s (by omega)]
            refine gRetI K105 hlk hret (by simp) b7_39 rfl P106 (by decide) (by decide) ?_
            show _ = _
            rw [← hr, scl_s, if_pos q33]
      exact loop19 (E - 1) 1 (by omega) (slen_p hE0 hl0) .unset (Or.inl rfl) _ _ K103 P104 (A.ext (Ext.tr E101 E103)) (Sc.ext (Ext.tr E101 E103)) (Sf.ext (Ext.tr E101 E103)) (u.ext (Ext.tr E101 E103))
    · skip
      rw [if_neg hl0]
      refine gIf_ne K103 b7_12 (fun q => absurd q (by first | decide | (intro hh; cases hh) | simp)) (fun q12 => ?_)
      refine gIconst K103 (0 : Int32) b7_15 rfl ?_
      refine gRetI K103 hlk hret (by simp) b7_16 rfl P104 (by decide) (by decide) ?_
      show _ = _
      rw [slen_n hl0]; rfl
set_option maxRecDepth 65536 in
set_option maxHeartbeats 40000000 in
theorem c_law (l : Launch) (Z : State) (a0 : Array Value) (hw : ∀ d ∈ tables_1, d.before a0 Z = true) (h0 : Heap) (n0 : Nat) (Z0 : n0 ≤ h0.size) (d0 d1 d2 d3 d4 eI : Int32) (z : Int32) (Sc : Sta Z h0 "java/lang/String" "COMPACT_STRINGS" "Z" (.int z)) (hz : ¬ z = 0) (fm : Value) (Sf : Sta Z h0 "jdk/internal/util/Preconditions" "SIOOBE_FORMATTER" "Ljava/util/function/BiFunction;" fm) (rf : fm.isRef = true) (u : US Z h0) :
    Con none l (⟨"com/example/disallow/disallow/UrlPathSchemeLengthPinLaw", "law", "(IIIIII)Z"⟩ : MethodName) code maxLocals ret tables_1 room_1 Z n0 h0 [] #[(.int d0), (.int d1), (.int d2), (.int d3), (.int d4), (.int eI)] (fun v h => v = some (.int 1)) := by
  refine Con.intro pn4 Z0 (fun _ q => nomatch q) trivial #[.val (.int d0), .val (.int d1), .val (.int d2), .val (.int d3), .val (.int d4), .val (.int eI), .unset, .unset, .unset, .unset, .unset, .unset, .unset, .unset, .unset, .unset, .unset, .unset] (fun m => by first | (simp [entryFrame, mkF, argsToLocals, Value.category, maxLocals]; done) | rfl) ?_
  intro p e s m below meth c T0 hlk hret hnm K0
  have P0 := Keep.refl h0 []
  refine gBipush K0 (16 : Int32) L_0 rfl ?_
  refine gNewarr K0 L_2 (hw _ (List.mem_of_getElem? (i := 0) rfl)) (by decide) 16 (by decide) (by decide) (by decide) (by decide) (fun T101 h101 x101 kA101 K101 E101 g101 A101 ne101 => ?_)
  have P102 := P0.ext E101
  have ge_x101 : h0.size ≤ x101 := by rw [g101]; exact P0.1
  refine gDup K101 L_4 rfl ?_
  refine gIconst K101 (0 : Int32) L_5 rfl ?_
  refine gBipush K101 (97 : Int32) L_6 rfl ?_
  refine gCastore K101 L_8 (List.mem_of_getElem? (i := 0) rfl) A101 rfl (by decide) (by decide) (by decide) (fun T103 h103 K103 Q103 A103 => ?_)
  have P104 := P102.trans Q103 (fun z q => by cases List.mem_singleton.mp q; exact Or.inr ge_x101)
  refine gDup K103 L_9 rfl ?_
  refine gIconst K103 (1 : Int32) L_10 rfl ?_
  refine gBipush K103 (122 : Int32) L_11 rfl ?_
  refine gCastore K103 L_13 (List.mem_of_getElem? (i := 0) rfl) A103 rfl (by decide) (by decide) (by decide) (fun T105 h105 K105 Q105 A105 => ?_)
  have P106 := P104.trans Q105 (fun z q => by cases List.mem_singleton.mp q; exact Or.inr ge_x101)
  refine gDup K105 L_14 rfl ?_
  refine gIconst K105 (2 : Int32) L_15 rfl ?_
  refine gBipush K105 (65 : Int32) L_16 rfl ?_
  refine gCastore K105 L_18 (List.mem_of_getElem? (i := 0) rfl) A105 rfl (by decide) (by decide) (by decide) (fun T107 h107 K107 Q107 A107 => ?_)
  have P108 := P106.trans Q107 (fun z q => by cases List.mem_singleton.mp q; exact Or.inr ge_x101)
  refine gDup K107 L_19 rfl ?_
  refine gIconst K107 (3 : Int32) L_20 rfl ?_
  refine gBipush K107 (90 : Int32) L_21 rfl ?_
  refine gCastore K107 L_23 (List.mem_of_getElem? (i := 0) rfl) A107 rfl (by decide) (by decide) (by decide) (fun T109 h109 K109 Q109 A109 => ?_)
  have P110 := P108.trans Q109 (fun z q => by cases List.mem_singleton.mp q; exact Or.inr ge_x101)
  refine gDup K109 L_24 rfl ?_
  refine gIconst K109 (4 : Int32) L_25 rfl ?_
  refine gBipush K109 (48 : Int32) L_26 rfl ?_
  refine gCastore K109 L_28 (List.mem_of_getElem? (i := 0) rfl) A109 rfl (by decide) (by decide) (by decide) (fun T111 h111 K111 Q111 A111 => ?_)
  have P112 := P110.trans Q111 (fun z q => by cases List.mem_singleton.mp q; exact Or.inr ge_x101)
  refine gDup K111 L_29 rfl ?_
  refine gIconst K111 (5 : Int32) L_30 rfl ?_
  refine gBipush K111 (57 : Int32) L_31 rfl ?_
  refine gCastore K111 L_33 (List.mem_of_getElem? (i := 0) rfl) A111 rfl (by decide) (by decide) (by decide) (fun T113 h113 K113 Q113 A113 => ?_)
  have P114 := P112.trans Q113 (fun z q => by cases List.mem_singleton.mp q; exact Or.inr ge_x101)
  refine gDup K113 L_34 rfl ?_
  refine gBipush K113 (6 : Int32) L_35 rfl ?_
  refine gBipush K113 (43 : Int32) L_37 rfl ?_
  refine gCastore K113 L_39 (List.mem_of_getElem? (i := 0) rfl) A113 rfl (by decide) (by decide) (by decide) (fun T115 h115 K115 Q115 A115 => ?_)
  have P116 := P114.trans Q115 (fun z q => by cases List.mem_singleton.mp q; exact Or.inr ge_x101)
  refine gDup K115 L_40 rfl ?_
  refine gBipush K115 (7 : Int32) L_41 rfl ?_
  refine gBipush K115 (45 : Int32) L_43 rfl ?_
  refine gCastore K115 L_45 (List.mem_of_getElem? (i := 0) rfl) A115 rfl (by decide) (by decide) (by decide) (fun T117 h117 K117 Q117 A117 => ?_)
  have P118 := P116.trans Q117 (fun z q => by cases List.mem_singleton.mp q; exact Or.inr ge_x101)
  refine gDup K117 L_46 rfl ?_
  refine gBipush K117 (8 : Int32) L_47 rfl ?_
  refine gBipush K117 (46 : Int32) L_49 rfl ?_
  refine gCastore K117 L_51 (List.mem_of_getElem? (i := 0) rfl) A117 rfl (by decide) (by decide) (by decide) (fun T119 h119 K119 Q119 A119 => ?_)
  have P120 := P118.trans Q119 (fun z q => by cases List.mem_singleton.mp q; exact Or.inr ge_x101)
  refine gDup K119 L_52 rfl ?_
  refine gBipush K119 (9 : Int32) L_53 rfl ?_
  refine gBipush K119 (58 : Int32) L_55 rfl ?_
  refine gCastore K119 L_57 (List.mem_of_getElem? (i := 0) rfl) A119 rfl (by decide) (by decide) (by decide) (fun T121 h121 K121 Q121 A121 => ?_)
  have P122 := P120.trans Q121 (fun z q => by cases List.mem_singleton.mp q; exact Or.inr ge_x101)
  refine gDup K121 L_58 rfl ?_
  refine gBipush K121 (10 : Int32) L_59 rfl ?_
  refine gBipush K121 (64 : Int32) L_61 rfl ?_
  refine gCastore K121 L_63 (List.mem_of_getElem? (i := 0) rfl) A121 rfl (by decide) (by decide) (by decide) (fun T123 h123 K123 Q123 A123 => ?_)
  have P124 := P122.trans Q123 (fun z q => by cases List.mem_singleton.mp q; exact Or.inr ge_x101)
  refine gDup K123 L_64 rfl ?_
  refine gBipush K123 (11 : Int32) L_65 rfl ?_
  refine gBipush K123 (91 : Int32) L_67 rfl ?_
  refine gCastore K123 L_69 (List.mem_of_getElem? (i := 0) rfl) A123 rfl (by decide) (by decide) (by decide) (fun T125 h125 K125 Q125 A125 => ?_)
  have P126 := P124.trans Q125 (fun z q => by cases List.mem_singleton.mp q; exact Or.inr ge_x101)
  refine gDup K125 L_70 rfl ?_
  refine gBipush K125 (12 : Int32) L_71 rfl ?_
  refine gBipush K125 (96 : Int32) L_73 rfl ?_
  refine gCastore K125 L_75 (List.mem_of_getElem? (i := 0) rfl) A125 rfl (by decide) (by decide) (by decide) (fun T127 h127 K127 Q127 A127 => ?_)
  have P128 := P126.trans Q127 (fun z q => by cases List.mem_singleton.mp q; exact Or.inr ge_x101)
  refine gDup K127 L_76 rfl ?_
  refine gBipush K127 (13 : Int32) L_77 rfl ?_
  refine gBipush K127 (123 : Int32) L_79 rfl ?_
  refine gCastore K127 L_81 (List.mem_of_getElem? (i := 0) rfl) A127 rfl (by decide) (by decide) (by decide) (fun T129 h129 K129 Q129 A129 => ?_)
  have P130 := P128.trans Q129 (fun z q => by cases List.mem_singleton.mp q; exact Or.inr ge_x101)
  refine gDup K129 L_82 rfl ?_
  refine gBipush K129 (14 : Int32) L_83 rfl ?_
  refine gBipush K129 (47 : Int32) L_85 rfl ?_
  refine gCastore K129 L_87 (List.mem_of_getElem? (i := 0) rfl) A129 rfl (by decide) (by decide) (by decide) (fun T131 h131 K131 Q131 A131 => ?_)
  have P132 := P130.trans Q131 (fun z q => by cases List.mem_singleton.mp q; exact Or.inr ge_x101)
  refine gDup K131 L_88 rfl ?_
  refine gBipush K131 (15 : Int32) L_89 rfl ?_
  refine gBipush K131 (44 : Int32) L_91 rfl ?_
  refine gCastore K131 L_93 (List.mem_of_getElem? (i := 0) rfl) A131 rfl (by decide) (by decide) (by decide) (fun T133 h133 K133 Q133 A133 => ?_)
  have P134 := P132.trans Q133 (fun z q => by cases List.mem_singleton.mp q; exact Or.inr ge_x101)
  refine gAstore K133 L_94 rfl (Ls' := #[.val (.int d0), .val (.int d1), .val (.int d2), .val (.int d3), .val (.int d4), .val (.int eI), .val (.ref x101), .unset, .unset, .unset, .unset, .unset, .unset, .unset, .unset, .unset, .unset, .unset]) rfl ?_
  refine gIloadN K133 L_96 (v := d0) rfl ?_
  refine gAload K133 L_97 (v := (.ref x101)) rfl rfl ?_
  refine gCallS K133 (W := 0) [(.int d0), (.ref x101)] [] L_99 (hw _ (List.mem_of_getElem? (i := 1) rfl)) (hw _ (List.mem_of_getElem? (i := 2) rfl)) (hw _ (List.mem_of_getElem? (i := 3) rfl)) (hw _ (List.mem_of_getElem? (i := 4) rfl)) (Cal.ofN (W := 0) (c_pick l Z a0 hw h133 n0 K133.n0le d0 x101 _ A133) (hw _ (List.mem_of_getElem? (i := 4) rfl)) (hw _ (List.mem_of_getElem? (i := 3) rfl)) (by decide) (by decide)) (fun _ q => nomatch q) pd15 rfl rfl (Nat.le_of_eq rfl) rfl (by decide) (by decide) (by decide) (fun v135 T135 h135 K135 Q135 q135 => ?_)
  have E135 := Ext.of0 Q135
  have P136 := P134.ext E135
  obtain ⟨r0, rfl, hb0⟩ := q135
  refine gIstore K135 L_102 (Ls' := #[.val (.int d0), .val (.int d1), .val (.int d2), .val (.int d3), .val (.int d4), .val (.int eI), .val (.ref x101), .val (.int r0), .unset, .unset, .unset, .unset, .unset, .unset, .unset, .unset, .unset, .unset]) rfl ?_
  refine gIloadN K135 L_104 (v := d1) rfl ?_
  refine gAload K135 L_105 (v := (.ref x101)) rfl rfl ?_
  refine gCallS K135 (W := 0) [(.int d1), (.ref x101)] [] L_107 (hw _ (List.mem_of_getElem? (i := 1) rfl)) (hw _ (List.mem_of_getElem? (i := 2) rfl)) (hw _ (List.mem_of_getElem? (i := 3) rfl)) (hw _ (List.mem_of_getElem? (i := 4) rfl)) (Cal.ofN (W := 0) (c_pick l Z a0 hw h135 n0 K135.n0le d1 x101 _ (A133.ext E135)) (hw _ (List.mem_of_getElem? (i := 4) rfl)) (hw _ (List.mem_of_getElem? (i := 3) rfl)) (by decide) (by decide)) (fun _ q => nomatch q) pd15 rfl rfl (Nat.le_of_eq rfl) rfl (by decide) (by decide) (by decide) (fun v137 T137 h137 K137 Q137 q137 => ?_)
  have E137 := Ext.of0 Q137
  have P138 := P136.ext E137
  obtain ⟨r1, rfl, hb1⟩ := q137
  refine gIstore K137 L_110 (Ls' := #[.val (.int d0), .val (.int d1), .val (.int d2), .val (.int d3), .val (.int d4), .val (.int eI), .val (.ref x101), .val (.int r0), .val (.int r1), .unset, .unset, .unset, .unset, .unset, .unset, .unset, .unset, .unset]) rfl ?_
  refine gIloadN K137 L_112 (v := d2) rfl ?_
  refine gAload K137 L_113 (v := (.ref x101)) rfl rfl ?_
  refine gCallS K137 (W := 0) [(.int d2), (.ref x101)] [] L_115 (hw _ (List.mem_of_getElem? (i := 1) rfl)) (hw _ (List.mem_of_getElem? (i := 2) rfl)) (hw _ (List.mem_of_getElem? (i := 3) rfl)) (hw _ (List.mem_of_getElem? (i := 4) rfl)) (Cal.ofN (W := 0) (c_pick l Z a0 hw h137 n0 K137.n0le d2 x101 _ (A133.ext (Ext.tr E135 E137))) (hw _ (List.mem_of_getElem? (i := 4) rfl)) (hw _ (List.mem_of_getElem? (i := 3) rfl)) (by decide) (by decide)) (fun _ q => nomatch q) pd15 rfl rfl (Nat.le_of_eq rfl) rfl (by decide) (by decide) (by decide) (fun v139 T139 h139 K139 Q139 q139 => ?_)
  have E139 := Ext.of0 Q139
  have P140 := P138.ext E139
  obtain ⟨r2, rfl, hb2⟩ := q139
  refine gIstore K139 L_118 (Ls' := #[.val (.int d0), .val (.int d1), .val (.int d2), .val (.int d3), .val (.int d4), .val (.int eI), .val (.ref x101), .val (.int r0), .val (.int r1), .val (.int r2), .unset, .unset, .unset, .unset, .unset, .unset, .unset, .unset]) rfl ?_
  refine gIloadN K139 L_120 (v := d3) rfl ?_
  refine gAload K139 L_121 (v := (.ref x101)) rfl rfl ?_
  refine gCallS K139 (W := 0) [(.int d3), (.ref x101)] [] L_123 (hw _ (List.mem_of_getElem? (i := 1) rfl)) (hw _ (List.mem_of_getElem? (i := 2) rfl)) (hw _ (List.mem_of_getElem? (i := 3) rfl)) (hw _ (List.mem_of_getElem? (i := 4) rfl)) (Cal.ofN (W := 0) (c_pick l Z a0 hw h139 n0 K139.n0le d3 x101 _ (A133.ext (Ext.tr (Ext.tr E135 E137) E139))) (hw _ (List.mem_of_getElem? (i := 4) rfl)) (hw _ (List.mem_of_getElem? (i := 3) rfl)) (by decide) (by decide)) (fun _ q => nomatch q) pd15 rfl rfl (Nat.le_of_eq rfl) rfl (by decide) (by decide) (by decide) (fun v141 T141 h141 K141 Q141 q141 => ?_)
  have E141 := Ext.of0 Q141
  have P142 := P140.ext E141
  obtain ⟨r3, rfl, hb3⟩ := q141
  refine gIstore K141 L_126 (Ls' := #[.val (.int d0), .val (.int d1), .val (.int d2), .val (.int d3), .val (.int d4), .val (.int eI), .val (.ref x101), .val (.int r0), .val (.int r1), .val (.int r2), .val (.int r3), .unset, .unset, .unset, .unset, .unset, .unset, .unset]) rfl ?_
  refine gIload K141 L_128 (v := d4) rfl ?_
  refine gAload K141 L_130 (v := (.ref x101)) rfl rfl ?_
  refine gCallS K141 (W := 0) [(.int d4), (.ref x101)] [] L_132 (hw _ (List.mem_of_getElem? (i := 1) rfl)) (hw _ (List.mem_of_getElem? (i := 2) rfl)) (hw _ (List.mem_of_getElem? (i := 3) rfl)) (hw _ (List.mem_of_getElem? (i := 4) rfl)) (Cal.ofN (W := 0) (c_pick l Z a0 hw h141 n0 K141.n0le d4 x101 _ (A133.ext (Ext.tr (Ext.tr (Ext.tr E135 E137) E139) E141))) (hw _ (List.mem_of_getElem? (i := 4) rfl)) (hw _ (List.mem_of_getElem? (i := 3) rfl)) (by decide) (by decide)) (fun _ q => nomatch q) pd15 rfl rfl (Nat.le_of_eq rfl) rfl (by decide) (by decide) (by decide) (fun v143 T143 h143 K143 Q143 q143 => ?_)
  have E143 := Ext.of0 Q143
  have P144 := P142.ext E143
  obtain ⟨r4, rfl, hb4⟩ := q143
  refine gIstore K143 L_135 (Ls' := #[.val (.int d0), .val (.int d1), .val (.int d2), .val (.int d3), .val (.int d4), .val (.int eI), .val (.ref x101), .val (.int r0), .val (.int r1), .val (.int r2), .val (.int r3), .val (.int r4), .unset, .unset, .unset, .unset, .unset, .unset]) rfl ?_
  refine gIconst K143 (5 : Int32) L_137 rfl ?_
  refine gNewarr K143 L_138 (hw _ (List.mem_of_getElem? (i := 0) rfl)) (by decide) 5 (by decide) (by decide) (by decide) (by decide) (fun T145 h145 x145 kA145 K145 E145 g145 A145 ne145 => ?_)
  have P146 := P144.ext E145
  have ge_x145 : h0.size ≤ x145 := by rw [g145]; exact P144.1
  refine gDup K145 L_140 rfl ?_
  refine gIconst K145 (0 : Int32) L_141 rfl ?_
  refine gIload K145 L_142 (v := r0) rfl ?_
  refine gCastore K145 L_144 (List.mem_of_getElem? (i := 0) rfl) A145 rfl (by decide) hb0.1 hb0.2 (fun T147 h147 K147 Q147 A147 => ?_)
  have P148 := P146.trans Q147 (fun z q => by cases List.mem_singleton.mp q; exact Or.inr ge_x145)
  refine gDup K147 L_145 rfl ?_
  refine gIconst K147 (1 : Int32) L_146 rfl ?_
  refine gIload K147 L_147 (v := r1) rfl ?_
  refine gCastore K147 L_149 (List.mem_of_getElem? (i := 0) rfl) A147 rfl (by decide) hb1.1 hb1.2 (fun T149 h149 K149 Q149 A149 => ?_)
  have P150 := P148.trans Q149 (fun z q => by cases List.mem_singleton.mp q; exact Or.inr ge_x145)
  refine gDup K149 L_150 rfl ?_
  refine gIconst K149 (2 : Int32) L_151 rfl ?_
  refine gIload K149 L_152 (v := r2) rfl ?_
  refine gCastore K149 L_154 (List.mem_of_getElem? (i := 0) rfl) A149 rfl (by decide) hb2.1 hb2.2 (fun T151 h151 K151 Q151 A151 => ?_)
  have P152 := P150.trans Q151 (fun z q => by cases List.mem_singleton.mp q; exact Or.inr ge_x145)
  refine gDup K151 L_155 rfl ?_
  refine gIconst K151 (3 : Int32) L_156 rfl ?_
  refine gIload K151 L_157 (v := r3) rfl ?_
  refine gCastore K151 L_159 (List.mem_of_getElem? (i := 0) rfl) A151 rfl (by decide) hb3.1 hb3.2 (fun T153 h153 K153 Q153 A153 => ?_)
  have P154 := P152.trans Q153 (fun z q => by cases List.mem_singleton.mp q; exact Or.inr ge_x145)
  refine gDup K153 L_160 rfl ?_
  refine gIconst K153 (4 : Int32) L_161 rfl ?_
  refine gIload K153 L_162 (v := r4) rfl ?_
  refine gCastore K153 L_164 (List.mem_of_getElem? (i := 0) rfl) A153 rfl (by decide) hb4.1 hb4.2 (fun T155 h155 K155 Q155 A155 => ?_)
  have P156 := P154.trans Q155 (fun z q => by cases List.mem_singleton.mp q; exact Or.inr ge_x145)
  refine gAstore K155 L_165 rfl (Ls' := #[.val (.int d0), .val (.int d1), .val (.int d2), .val (.int d3), .val (.int d4), .val (.int eI), .val (.ref x101), .val (.int r0), .val (.int r1), .val (.int r2), .val (.int r3), .val (.int r4), .val (.ref x145), .unset, .unset, .unset, .unset, .unset]) rfl ?_
  refine gNew K155 L_167 (hw _ (List.mem_of_getElem? (i := 7) rfl)) (hw _ (List.mem_of_getElem? (i := 8) rfl)) (hw _ (List.mem_of_getElem? (i := 9) rfl)) (by decide) (by decide) (fun T157 h157 x157 K157 E157 g157 A157 D157 ne157 => ?_)
  have P158 := P156.ext E157
  have ge_x157 : h0.size ≤ x157 := by rw [g157]; exact P156.1
  have F159 : Fld Z h157 x157 "java/lang/String" "value" "[B" .null := (D157 (Or.inr (hw _ (List.mem_of_getElem? (i := 35) rfl))) (ty := (.array .byte)) (by decide))
  have F160 : Fld Z h157 x157 "java/lang/String" "coder" "B" (.int (0 : Int32)) := (D157 (Or.inr (hw _ (List.mem_of_getElem? (i := 33) rfl))) (ty := .byte) (by decide))
  refine gDup K157 L_170 rfl ?_
  refine gAload K157 L_171 (v := (.ref x145)) rfl rfl ?_
  refine gCallI K157 (W := 1) x157 [(.ref x145)] [(.ref x157)] L_173 rfl (hw _ (List.mem_of_getElem? (i := 10) rfl)) (hw _ (List.mem_of_getElem? (i := 11) rfl)) (hw _ (List.mem_of_getElem? (i := 12) rfl)) (cal_strA5 hw (W := 1) (K157.wsge (List.mem_of_getElem? (i := 0) rfl)) K157.n0le A157 F159 F160 (A155.ext E157) (Sc.ext (Ext.tr (Ext.kp1 (Ext.kp1 (Ext.kp1 (Ext.kp1 (Ext.kp1 (Ext.tr (Ext.tr (Ext.tr (Ext.tr (Ext.tr (Ext.tr (Ext.kp1 (Ext.kp1 (Ext.kp1 (Ext.kp1 (Ext.kp1 (Ext.kp1 (Ext.kp1 (Ext.kp1 (Ext.kp1 (Ext.kp1 (Ext.kp1 (Ext.kp1 (Ext.kp1 (Ext.kp1 (Ext.kp1 (Ext.kp1 E101 Q103 (Nat.le_of_eq g101.symm)) Q105 (Nat.le_of_eq g101.symm)) Q107 (Nat.le_of_eq g101.symm)) Q109 (Nat.le_of_eq g101.symm)) Q111 (Nat.le_of_eq g101.symm)) Q113 (Nat.le_of_eq g101.symm)) Q115 (Nat.le_of_eq g101.symm)) Q117 (Nat.le_of_eq g101.symm)) Q119 (Nat.le_of_eq g101.symm)) Q121 (Nat.le_of_eq g101.symm)) Q123 (Nat.le_of_eq g101.symm)) Q125 (Nat.le_of_eq g101.symm)) Q127 (Nat.le_of_eq g101.symm)) Q129 (Nat.le_of_eq g101.symm)) Q131 (Nat.le_of_eq g101.symm)) Q133 (Nat.le_of_eq g101.symm)) E135) E137) E139) E141) E143) E145) Q147 (Nat.le_trans (Ext.tr (Ext.tr (Ext.tr (Ext.tr (Ext.tr (Ext.kp1 (Ext.kp1 (Ext.kp1 (Ext.kp1 (Ext.kp1 (Ext.kp1 (Ext.kp1 (Ext.kp1 (Ext.kp1 (Ext.kp1 (Ext.kp1 (Ext.kp1 (Ext.kp1 (Ext.kp1 (Ext.kp1 (Ext.kp1 E101 Q103 (Nat.le_of_eq g101.symm)) Q105 (Nat.le_of_eq g101.symm)) Q107 (Nat.le_of_eq g101.symm)) Q109 (Nat.le_of_eq g101.symm)) Q111 (Nat.le_of_eq g101.symm)) Q113 (Nat.le_of_eq g101.symm)) Q115 (Nat.le_of_eq g101.symm)) Q117 (Nat.le_of_eq g101.symm)) Q119 (Nat.le_of_eq g101.symm)) Q121 (Nat.le_of_eq g101.symm)) Q123 (Nat.le_of_eq g101.symm)) Q125 (Nat.le_of_eq g101.symm)) Q127 (Nat.le_of_eq g101.symm)) Q129 (Nat.le_of_eq g101.symm)) Q131 (Nat.le_of_eq g101.symm)) Q133 (Nat.le_of_eq g101.symm)) E135) E137) E139) E141) E143).1 (Nat.le_of_eq g145.symm))) Q149 (Nat.le_trans (Ext.tr (Ext.tr (Ext.tr (Ext.tr (Ext.tr (Ext.kp1 (Ext.kp1 (Ext.kp1 (Ext.kp1 (Ext.kp1 (Ext.kp1 (Ext.kp1 (Ext.kp1 (Ext.kp1 (Ext.kp1 (Ext.kp1 (Ext.kp1 (Ext.kp1 (Ext.kp1 (Ext.kp1 (Ext.kp1 E101 Q103 (Nat.le_of_eq g101.symm)) Q105 (Nat.le_of_eq g101.symm)) Q107 (Nat.le_of_eq g101.symm)) Q109 (Nat.le_of_eq g101.symm)) Q111 (Nat.le_of_eq g101.symm)) Q113 (Nat.le_of_eq g101.symm)) Q115 (Nat.le_of_eq g101.symm)) Q117 (Nat.le_of_eq g101.symm)) Q119 (Nat.le_of_eq g101.symm)) Q121 (Nat.le_of_eq g101.symm)) Q123 (Nat.le_of_eq g101.symm)) Q125 (Nat.le_of_eq g101.symm)) Q127 (Nat.le_of_eq g101.symm)) Q129 (Nat.le_of_eq g101.symm)) Q131 (Nat.le_of_eq g101.symm)) Q133 (Nat.le_of_eq g101.symm)) E135) E137) E139) E141) E143).1 (Nat.le_of_eq g145.symm))) Q151 (Nat.le_trans (Ext.tr (Ext.tr (Ext.tr (Ext.tr (Ext.tr (Ext.kp1 (Ext.kp1 (Ext.kp1 (Ext.kp1 (Ext.kp1 (Ext.kp1 (Ext.kp1 (Ext.kp1 (Ext.kp1 (Ext.kp1 (Ext.kp1 (Ext.kp1 (Ext.kp1 (Ext.kp1 (Ext.kp1 (Ext.kp1 E101 Q103 (Nat.le_of_eq g101.symm)) Q105 (Nat.le_of_eq g101.symm)) Q107 (Nat.le_of_eq g101.symm)) Q109 (Nat.le_of_eq g101.symm)) Q111 (Nat.le_of_eq g101.symm)) Q113 (Nat.le_of_eq g101.symm)) Q115 (Nat.le_of_eq g101.symm)) Q117 (Nat.le_of_eq g101.symm)) Q119 (Nat.le_of_eq g101.symm)) Q121 (Nat.le_of_eq g101.symm)) Q123 (Nat.le_of_eq g101.symm)) Q125 (Nat.le_of_eq g101.symm)) Q127 (Nat.le_of_eq g101.symm)) Q129 (Nat.le_of_eq g101.symm)) Q131 (Nat.le_of_eq g101.symm)) Q133 (Nat.le_of_eq g101.symm)) E135) E137) E139) E141) E143).1 (Nat.le_of_eq g145.symm))) Q153 (Nat.le_trans (Ext.tr (Ext.tr (Ext.tr (Ext.tr (Ext.tr (Ext.kp1 (Ext.kp1 (Ext.kp1 (Ext.kp1 (Ext.kp1 (Ext.kp1 (Ext.kp1 (Ext.kp1 (Ext.kp1 (Ext.kp1 (Ext.kp1 (Ext.kp1 (Ext.kp1 (Ext.kp1 (Ext.kp1 (Ext.kp1 E101 Q103 (Nat.le_of_eq g101.symm)) Q105 (Nat.le_of_eq g101.symm)) Q107 (Nat.le_of_eq g101.symm)) Q109 (Nat.le_of_eq g101.symm)) Q111 (Nat.le_of_eq g101.symm)) Q113 (Nat.le_of_eq g101.symm)) Q115 (Nat.le_of_eq g101.symm)) Q117 (Nat.le_of_eq g101.symm)) Q119 (Nat.le_of_eq g101.symm)) Q121 (Nat.le_of_eq g101.symm)) Q123 (Nat.le_of_eq g101.symm)) Q125 (Nat.le_of_eq g101.symm)) Q127 (Nat.le_of_eq g101.symm)) Q129 (Nat.le_of_eq g101.symm)) Q131 (Nat.le_of_eq g101.symm)) Q133 (Nat.le_of_eq g101.symm)) E135) E137) E139) E141) E143).1 (Nat.le_of_eq g145.symm))) Q155 (Nat.le_trans (Ext.tr (Ext.tr (Ext.tr (Ext.tr (Ext.tr (Ext.kp1 (Ext.kp1 (Ext.kp1 (Ext.kp1 (Ext.kp1 (Ext.kp1 (Ext.kp1 (Ext.kp1 (Ext.kp1 (Ext.kp1 (Ext.kp1 (Ext.kp1 (Ext.kp1 (Ext.kp1 (Ext.kp1 (Ext.kp1 E101 Q103 (Nat.le_of_eq g101.symm)) Q105 (Nat.le_of_eq g101.symm)) Q107 (Nat.le_of_eq g101.symm)) Q109 (Nat.le_of_eq g101.symm)) Q111 (Nat.le_of_eq g101.symm)) Q113 (Nat.le_of_eq g101.symm)) Q115 (Nat.le_of_eq g101.symm)) Q117 (Nat.le_of_eq g101.symm)) Q119 (Nat.le_of_eq g101.symm)) Q121 (Nat.le_of_eq g101.symm)) Q123 (Nat.le_of_eq g101.symm)) Q125 (Nat.le_of_eq g101.symm)) Q127 (Nat.le_of_eq g101.symm)) Q129 (Nat.le_of_eq g101.symm)) Q131 (Nat.le_of_eq g101.symm)) Q133 (Nat.le_of_eq g101.symm)) E135) E137) E139) E141) E143).1 (Nat.le_of_eq g145.symm))) E157)) hz (u.ext (Ext.tr (Ext.kp1 (Ext.kp1 (Ext.kp1 (Ext.kp1 (Ext.kp1 (Ext.tr (Ext.tr (Ext.tr (Ext.tr (Ext.tr (Ext.tr (Ext.kp1 (Ext.kp1 (Ext.kp1 (Ext.kp1 (Ext.kp1 (Ext.kp1 (Ext.kp1 (Ext.kp1 (Ext.kp1 (Ext.kp1 (Ext.kp1 (Ext.kp1 (Ext.kp1 (Ext.kp1 (Ext.kp1 (Ext.kp1 E101 Q103 (Nat.le_of_eq g101.symm)) Q105 (Nat.le_of_eq g101.symm)) Q107 (Nat.le_of_eq g101.symm)) Q109 (Nat.le_of_eq g101.symm)) Q111 (Nat.le_of_eq g101.symm)) Q113 (Nat.le_of_eq g101.symm)) Q115 (Nat.le_of_eq g101.symm)) Q117 (Nat.le_of_eq g101.symm)) Q119 (Nat.le_of_eq g101.symm)) Q121 (Nat.le_of_eq g101.symm)) Q123 (Nat.le_of_eq g101.symm)) Q125 (Nat.le_of_eq g101.symm)) Q127 (Nat.le_of_eq g101.symm)) Q129 (Nat.le_of_eq g101.symm)) Q131 (Nat.le_of_eq g101.symm)) Q133 (Nat.le_of_eq g101.symm)) E135) E137) E139) E141) E143) E145) Q147 (Nat.le_trans (Ext.tr (Ext.tr (Ext.tr (Ext.tr (Ext.tr (Ext.kp1 (Ext.kp1 (Ext.kp1 (Ext.kp1 (Ext.kp1 (Ext.kp1 (Ext.kp1 (Ext.kp1 (Ext.kp1 (Ext.kp1 (Ext.kp1 (Ext.kp1 (Ext.kp1 (Ext.kp1 (Ext.kp1 (Ext.kp1 E101 Q103 (Nat.le_of_eq g101.symm)) Q105 (Nat.le_of_eq g101.symm)) Q107 (Nat.le_of_eq g101.symm)) Q109 (Nat.le_of_eq g101.symm)) Q111 (Nat.le_of_eq g101.symm)) Q113 (Nat.le_of_eq g101.symm)) Q115 (Nat.le_of_eq g101.symm)) Q117 (Nat.le_of_eq g101.symm)) Q119 (Nat.le_of_eq g101.symm)) Q121 (Nat.le_of_eq g101.symm)) Q123 (Nat.le_of_eq g101.symm)) Q125 (Nat.le_of_eq g101.symm)) Q127 (Nat.le_of_eq g101.symm)) Q129 (Nat.le_of_eq g101.symm)) Q131 (Nat.le_of_eq g101.symm)) Q133 (Nat.le_of_eq g101.symm)) E135) E137) E139) E141) E143).1 (Nat.le_of_eq g145.symm))) Q149 (Nat.le_trans (Ext.tr (Ext.tr (Ext.tr (Ext.tr (Ext.tr (Ext.kp1 (Ext.kp1 (Ext.kp1 (Ext.kp1 (Ext.kp1 (Ext.kp1 (Ext.kp1 (Ext.kp1 (Ext.kp1 (Ext.kp1 (Ext.kp1 (Ext.kp1 (Ext.kp1 (Ext.kp1 (Ext.kp1 (Ext.kp1 E101 Q103 (Nat.le_of_eq g101.symm)) Q105 (Nat.le_of_eq g101.symm)) Q107 (Nat.le_of_eq g101.symm)) Q109 (Nat.le_of_eq g101.symm)) Q111 (Nat.le_of_eq g101.symm)) Q113 (Nat.le_of_eq g101.symm)) Q115 (Nat.le_of_eq g101.symm)) Q117 (Nat.le_of_eq g101.symm)) Q119 (Nat.le_of_eq g101.symm)) Q121 (Nat.le_of_eq g101.symm)) Q123 (Nat.le_of_eq g101.symm)) Q125 (Nat.le_of_eq g101.symm)) Q127 (Nat.le_of_eq g101.symm)) Q129 (Nat.le_of_eq g101.symm)) Q131 (Nat.le_of_eq g101.symm)) Q133 (Nat.le_of_eq g101.symm)) E135) E137) E139) E141) E143).1 (Nat.le_of_eq g145.symm))) Q151 (Nat.le_trans (Ext.tr (Ext.tr (Ext.tr (Ext.tr (Ext.tr (Ext.kp1 (Ext.kp1 (Ext.kp1 (Ext.kp1 (Ext.kp1 (Ext.kp1 (Ext.kp1 (Ext.kp1 (Ext.kp1 (Ext.kp1 (Ext.kp1 (Ext.kp1 (Ext.kp1 (Ext.kp1 (Ext.kp1 (Ext.kp1 E101 Q103 (Nat.le_of_eq g101.symm)) Q105 (Nat.le_of_eq g101.symm)) Q107 (Nat.le_of_eq g101.symm)) Q109 (Nat.le_of_eq g101.symm)) Q111 (Nat.le_of_eq g101.symm)) Q113 (Nat.le_of_eq g101.symm)) Q115 (Nat.le_of_eq g101.symm)) Q117 (Nat.le_of_eq g101.symm)) Q119 (Nat.le_of_eq g101.symm)) Q121 (Nat.le_of_eq g101.symm)) Q123 (Nat.le_of_eq g101.symm)) Q125 (Nat.le_of_eq g101.symm)) Q127 (Nat.le_of_eq g101.symm)) Q129 (Nat.le_of_eq g101.symm)) Q131 (Nat.le_of_eq g101.symm)) Q133 (Nat.le_of_eq g101.symm)) E135) E137) E139) E141) E143).1 (Nat.le_of_eq g145.symm))) Q153 (Nat.le_trans (Ext.tr (Ext.tr (Ext.tr (Ext.tr (Ext.tr (Ext.kp1 (Ext.kp1 (Ext.kp1 (Ext.kp1 (Ext.kp1 (Ext.kp1 (Ext.kp1 (Ext.kp1 (Ext.kp1 (Ext.kp1 (Ext.kp1 (Ext.kp1 (Ext.kp1 (Ext.kp1 (Ext.kp1 (Ext.kp1 E101 Q103 (Nat.le_of_eq g101.symm)) Q105 (Nat.le_of_eq g101.symm)) Q107 (Nat.le_of_eq g101.symm)) Q109 (Nat.le_of_eq g101.symm)) Q111 (Nat.le_of_eq g101.symm)) Q113 (Nat.le_of_eq g101.symm)) Q115 (Nat.le_of_eq g101.symm)) Q117 (Nat.le_of_eq g101.symm)) Q119 (Nat.le_of_eq g101.symm)) Q121 (Nat.le_of_eq g101.symm)) Q123 (Nat.le_of_eq g101.symm)) Q125 (Nat.le_of_eq g101.symm)) Q127 (Nat.le_of_eq g101.symm)) Q129 (Nat.le_of_eq g101.symm)) Q131 (Nat.le_of_eq g101.symm)) Q133 (Nat.le_of_eq g101.symm)) E135) E137) E139) E141) E143).1 (Nat.le_of_eq g145.symm))) Q155 (Nat.le_trans (Ext.tr (Ext.tr (Ext.tr (Ext.tr (Ext.tr (Ext.kp1 (Ext.kp1 (Ext.kp1 (Ext.kp1 (Ext.kp1 (Ext.kp1 (Ext.kp1 (Ext.kp1 (Ext.kp1 (Ext.kp1 (Ext.kp1 (Ext.kp1 (Ext.kp1 (Ext.kp1 (Ext.kp1 (Ext.kp1 E101 Q103 (Nat.le_of_eq g101.symm)) Q105 (Nat.le_of_eq g101.symm)) Q107 (Nat.le_of_eq g101.symm)) Q109 (Nat.le_of_eq g101.symm)) Q111 (Nat.le_of_eq g101.symm)) Q113 (Nat.le_of_eq g101.symm)) Q115 (Nat.le_of_eq g101.symm)) Q117 (Nat.le_of_eq g101.symm)) Q119 (Nat.le_of_eq g101.symm)) Q121 (Nat.le_of_eq g101.symm)) Q123 (Nat.le_of_eq g101.symm)) Q125 (Nat.le_of_eq g101.symm)) Q127 (Nat.le_of_eq g101.symm)) Q129 (Nat.le_of_eq g101.symm)) Q131 (Nat.le_of_eq g101.symm)) Q133 (Nat.le_of_eq g101.symm)) E135) E137) E139) E141) E143).1 (Nat.le_of_eq g145.symm))) E157)) hb0 hb1 hb2 hb3 hb4 (by decide) (by decide)) (fun z q => by cases List.mem_singleton.mp q; exact (List.mem_of_getElem? (i := 0) rfl)) pd16 rfl rfl (Nat.le_of_eq rfl) rfl (by decide) (by decide) (by decide) (fun v161 T161 h161 K161 Q161 q161 => ?_)
  have P162 := P158.trans Q161 (fun z q => by cases List.mem_singleton.mp q; exact Or.inr ge_x157)
  obtain ⟨rfl, St161⟩ := q161
  refine gAstore K161 L_176 rfl (Ls' := #[.val (.int d0), .val (.int d1), .val (.int d2), .val (.int d3), .val (.int d4), .val (.int eI), .val (.ref x101), .val (.int r0), .val (.int r1), .val (.int r2), .val (.int r3), .val (.int r4), .val (.ref x145), .val (.ref x157), .unset, .unset, .unset, .unset]) rfl ?_
  refine gIload K161 L_178 (v := eI) rfl ?_
  refine gLdcI K161 (2147483647 : Int32) L_180 (hw _ (List.mem_of_getElem? (i := 36) rfl)) ?_
  refine gIand K161 L_182 ?_
  refine gBipush K161 (6 : Int32) L_183 rfl ?_
  refine gIrem K161 L_185 (by decide) ?_
  obtain ⟨E, hE6, eE⟩ := mod_nat eI 6 (by decide) (by decide)
  rw [show ((eI &&& (2147483647 : Int32)) % (6 : Int32)) = Int32.ofNat E from eE]
  refine gIstore K161 L_186 (Ls' := #[.val (.int d0), .val (.int d1), .val (.int d2), .val (.int d3), .val (.int d4), .val (.int eI), .val (.ref x101), .val (.int r0), .val (.int r1), .val (.int r2), .val (.int r3), .val (.int r4), .val (.ref x145), .val (.ref x157), .val (.int (Int32.ofNat E)), .unset, .unset, .unset]) rfl ?_
  refine gAload K161 L_188 (v := (.ref x157)) rfl rfl ?_
  refine gIload K161 L_190 (v := (Int32.ofNat E)) rfl ?_
  refine gCallS K161 (W := 0) [(.ref x157), (.int (Int32.ofNat E))] [] L_192 (hw _ (List.mem_of_getElem? (i := 37) rfl)) (hw _ (List.mem_of_getElem? (i := 38) rfl)) (hw _ (List.mem_of_getElem? (i := 39) rfl)) (hw _ (List.mem_of_getElem? (i := 40) rfl)) (Cal.ofN (W := 0) (c_scheme l Z a0 hw h161 n0 K161.n0le x157 [r0, r1, r2, r3, r4] E (show E ≤ 5 by omega) (Nat.le_of_ble_eq_true rfl) St161 z (Sc.ext (Ext.kp1 (Ext.tr (Ext.kp1 (Ext.kp1 (Ext.kp1 (Ext.kp1 (Ext.kp1 (Ext.tr (Ext.tr (Ext.tr (Ext.tr (Ext.tr (Ext.tr (Ext.kp1 (Ext.kp1 (Ext.kp1 (Ext.kp1 (Ext.kp1 (Ext.kp1 (Ext.kp1 (Ext.kp1 (Ext.kp1 (Ext.kp1 (Ext.kp1 (Ext.kp1 (Ext.kp1 (Ext.kp1 (Ext.kp1 (Ext.kp1 E101 Q103 (Nat.le_of_eq g101.symm)) Q105 (Nat.le_of_eq g101.symm)) Q107 (Nat.le_of_eq g101.symm)) Q109 (Nat.le_of_eq g101.symm)) Q111 (Nat.le_of_eq g101.symm)) Q113 (Nat.le_of_eq g101.symm)) Q115 (Nat.le_of_eq g101.symm)) Q117 (Nat.le_of_eq g101.symm)) Q119 (Nat.le_of_eq g101.symm)) Q121 (Nat.le_of_eq g101.symm)) Q123 (Nat.le_of_eq g101.symm)) Q125 (Nat.le_of_eq g101.symm)) Q127 (Nat.le_of_eq g101.symm)) Q129 (Nat.le_of_eq g101.symm)) Q131 (Nat.le_of_eq g101.symm)) Q133 (Nat.le_of_eq g101.symm)) E135) E137) E139) E141) E143) E145) Q147 (Nat.le_trans (Ext.tr (Ext.tr (Ext.tr (Ext.tr (Ext.tr (Ext.kp1 (Ext.kp1 (Ext.kp1 (Ext.kp1 (Ext.kp1 (Ext.kp1 (Ext.kp1 (Ext.kp1 (Ext.kp1 (Ext.kp1 (Ext.kp1 (Ext.kp1 (Ext.kp1 (Ext.kp1 (Ext.kp1 (Ext.kp1 E101 Q103 (Nat.le_of_eq g101.symm)) Q105 (Nat.le_of_eq g101.symm)) Q107 (Nat.le_of_eq g101.symm)) Q109 (Nat.le_of_eq g101.symm)) Q111 (Nat.le_of_eq g101.symm)) Q113 (Nat.le_of_eq g101.symm)) Q115 (Nat.le_of_eq g101.symm)) Q117 (Nat.le_of_eq g101.symm)) Q119 (Nat.le_of_eq g101.symm)) Q121 (Nat.le_of_eq g101.symm)) Q123 (Nat.le_of_eq g101.symm)) Q125 (Nat.le_of_eq g101.symm)) Q127 (Nat.le_of_eq g101.symm)) Q129 (Nat.le_of_eq g101.symm)) Q131 (Nat.le_of_eq g101.symm)) Q133 (Nat.le_of_eq g101.symm)) E135) E137) E139) E141) E143).1 (Nat.le_of_eq g145.symm))) Q149 (Nat.le_trans (Ext.tr (Ext.tr (Ext.tr (Ext.tr (Ext.tr (Ext.kp1 (Ext.kp1 (Ext.kp1 (Ext.kp1 (Ext.kp1 (Ext.kp1 (Ext.kp1 (Ext.kp1 (Ext.kp1 (Ext.kp1 (Ext.kp1 (Ext.kp1 (Ext.kp1 (Ext.kp1 (Ext.kp1 (Ext.kp1 E101 Q103 (Nat.le_of_eq g101.symm)) Q105 (Nat.le_of_eq g101.symm)) Q107 (Nat.le_of_eq g101.symm)) Q109 (Nat.le_of_eq g101.symm)) Q111 (Nat.le_of_eq g101.symm)) Q113 (Nat.le_of_eq g101.symm)) Q115 (Nat.le_of_eq g101.symm)) Q117 (Nat.le_of_eq g101.symm)) Q119 (Nat.le_of_eq g101.symm)) Q121 (Nat.le_of_eq g101.symm)) Q123 (Nat.le_of_eq g101.symm)) Q125 (Nat.le_of_eq g101.symm)) Q127 (Nat.le_of_eq g101.symm)) Q129 (Nat.le_of_eq g101.symm)) Q131 (Nat.le_of_eq g101.symm)) Q133 (Nat.le_of_eq g101.symm)) E135) E137) E139) E141) E143).1 (Nat.le_of_eq g145.symm))) Q151 (Nat.le_trans (Ext.tr (Ext.tr (Ext.tr (Ext.tr (Ext.tr (Ext.kp1 (Ext.kp1 (Ext.kp1 (Ext.kp1 (Ext.kp1 (Ext.kp1 (Ext.kp1 (Ext.kp1 (Ext.kp1 (Ext.kp1 (Ext.kp1 (Ext.kp1 (Ext.kp1 (Ext.kp1 (Ext.kp1 (Ext.kp1 E101 Q103 (Nat.le_of_eq g101.symm)) Q105 (Nat.le_of_eq g101.symm)) Q107 (Nat.le_of_eq g101.symm)) Q109 (Nat.le_of_eq g101.symm)) Q111 (Nat.le_of_eq g101.symm)) Q113 (Nat.le_of_eq g101.symm)) Q115 (Nat.le_of_eq g101.symm)) Q117 (Nat.le_of_eq g101.symm)) Q119 (Nat.le_of_eq g101.symm)) Q121 (Nat.le_of_eq g101.symm)) Q123 (Nat.le_of_eq g101.symm)) Q125 (Nat.le_of_eq g101.symm)) Q127 (Nat.le_of_eq g101.symm)) Q129 (Nat.le_of_eq g101.symm)) Q131 (Nat.le_of_eq g101.symm)) Q133 (Nat.le_of_eq g101.symm)) E135) E137) E139) E141) E143).1 (Nat.le_of_eq g145.symm))) Q153 (Nat.le_trans (Ext.tr (Ext.tr (Ext.tr (Ext.tr (Ext.tr (Ext.kp1 (Ext.kp1 (Ext.kp1 (Ext.kp1 (Ext.kp1 (Ext.kp1 (Ext.kp1 (Ext.kp1 (Ext.kp1 (Ext.kp1 (Ext.kp1 (Ext.kp1 (Ext.kp1 (Ext.kp1 (Ext.kp1 (Ext.kp1 E101 Q103 (Nat.le_of_eq g101.symm)) Q105 (Nat.le_of_eq g101.symm)) Q107 (Nat.le_of_eq g101.symm)) Q109 (Nat.le_of_eq g101.symm)) Q111 (Nat.le_of_eq g101.symm)) Q113 (Nat.le_of_eq g101.symm)) Q115 (Nat.le_of_eq g101.symm)) Q117 (Nat.le_of_eq g101.symm)) Q119 (Nat.le_of_eq g101.symm)) Q121 (Nat.le_of_eq g101.symm)) Q123 (Nat.le_of_eq g101.symm)) Q125 (Nat.le_of_eq g101.symm)) Q127 (Nat.le_of_eq g101.symm)) Q129 (Nat.le_of_eq g101.symm)) Q131 (Nat.le_of_eq g101.symm)) Q133 (Nat.le_of_eq g101.symm)) E135) E137) E139) E141) E143).1 (Nat.le_of_eq g145.symm))) Q155 (Nat.le_trans (Ext.tr (Ext.tr (Ext.tr (Ext.tr (Ext.tr (Ext.kp1 (Ext.kp1 (Ext.kp1 (Ext.kp1 (Ext.kp1 (Ext.kp1 (Ext.kp1 (Ext.kp1 (Ext.kp1 (Ext.kp1 (Ext.kp1 (Ext.kp1 (Ext.kp1 (Ext.kp1 (Ext.kp1 (Ext.kp1 E101 Q103 (Nat.le_of_eq g101.symm)) Q105 (Nat.le_of_eq g101.symm)) Q107 (Nat.le_of_eq g101.symm)) Q109 (Nat.le_of_eq g101.symm)) Q111 (Nat.le_of_eq g101.symm)) Q113 (Nat.le_of_eq g101.symm)) Q115 (Nat.le_of_eq g101.symm)) Q117 (Nat.le_of_eq g101.symm)) Q119 (Nat.le_of_eq g101.symm)) Q121 (Nat.le_of_eq g101.symm)) Q123 (Nat.le_of_eq g101.symm)) Q125 (Nat.le_of_eq g101.symm)) Q127 (Nat.le_of_eq g101.symm)) Q129 (Nat.le_of_eq g101.symm)) Q131 (Nat.le_of_eq g101.symm)) Q133 (Nat.le_of_eq g101.symm)) E135) E137) E139) E141) E143).1 (Nat.le_of_eq g145.symm))) E157) Q161 (Nat.le_trans (Ext.kp1 (Ext.kp1 (Ext.kp1 (Ext.kp1 (Ext.kp1 (Ext.tr (Ext.tr (Ext.tr (Ext.tr (Ext.tr (Ext.tr (Ext.kp1 (Ext.kp1 (Ext.kp1 (Ext.kp1 (Ext.kp1 (Ext.kp1 (Ext.kp1 (Ext.kp1 (Ext.kp1 (Ext.kp1 (Ext.kp1 (Ext.kp1 (Ext.kp1 (Ext.kp1 (Ext.kp1 (Ext.kp1 E101 Q103 (Nat.le_of_eq g101.symm)) Q105 (Nat.le_of_eq g101.symm)) Q107 (Nat.le_of_eq g101.symm)) Q109 (Nat.le_of_eq g101.symm)) Q111 (Nat.le_of_eq g101.symm)) Q113 (Nat.le_of_eq g101.symm)) Q115 (Nat.le_of_eq g101.symm)) Q117 (Nat.le_of_eq g101.symm)) Q119 (Nat.le_of_eq g101.symm)) Q121 (Nat.le_of_eq g101.symm)) Q123 (Nat.le_of_eq g101.symm)) Q125 (Nat.le_of_eq g101.symm)) Q127 (Nat.le_of_eq g101.symm)) Q129 (Nat.le_of_eq g101.symm)) Q131 (Nat.le_of_eq g101.symm)) Q133 (Nat.le_of_eq g101.symm)) E135) E137) E139) E141) E143) E145) Q147 (Nat.le_trans (Ext.tr (Ext.tr (Ext.tr (Ext.tr (Ext.tr (Ext.kp1 (Ext.kp1 (Ext.kp1 (Ext.kp1 (Ext.kp1 (Ext.kp1 (Ext.kp1 (Ext.kp1 (Ext.kp1 (Ext.kp1 (Ext.kp1 (Ext.kp1 (Ext.kp1 (Ext.kp1 (Ext.kp1 (Ext.kp1 E101 Q103 (Nat.le_of_eq g101.symm)) Q105 (Nat.le_of_eq g101.symm)) Q107 (Nat.le_of_eq g101.symm)) Q109 (Nat.le_of_eq g101.symm)) Q111 (Nat.le_of_eq g101.symm)) Q113 (Nat.le_of_eq g101.symm)) Q115 (Nat.le_of_eq g101.symm)) Q117 (Nat.le_of_eq g101.symm)) Q119 (Nat.le_of_eq g101.symm)) Q121 (Nat.le_of_eq g101.symm)) Q123 (Nat.le_of_eq g101.symm)) Q125 (Nat.le_of_eq g101.symm)) Q127 (Nat.le_of_eq g101.symm)) Q129 (Nat.le_of_eq g101.symm)) Q131 (Nat.le_of_eq g101.symm)) Q133 (Nat.le_of_eq g101.symm)) E135) E137) E139) E141) E143).1 (Nat.le_of_eq g145.symm))) Q149 (Nat.le_trans (Ext.tr (Ext.tr (Ext.tr (Ext.tr (Ext.tr (Ext.kp1 (Ext.kp1 (Ext.kp1 (Ext.kp1 (Ext.kp1 (Ext.kp1 (Ext.kp1 (Ext.kp1 (Ext.kp1 (Ext.kp1 (Ext.kp1 (Ext.kp1 (Ext.kp1 (Ext.kp1 (Ext.kp1 (Ext.kp1 E101 Q103 (Nat.le_of_eq g101.symm)) Q105 (Nat.le_of_eq g101.symm)) Q107 (Nat.le_of_eq g101.symm)) Q109 (Nat.le_of_eq g101.symm)) Q111 (Nat.le_of_eq g101.symm)) Q113 (Nat.le_of_eq g101.symm)) Q115 (Nat.le_of_eq g101.symm)) Q117 (Nat.le_of_eq g101.symm)) Q119 (Nat.le_of_eq g101.symm)) Q121 (Nat.le_of_eq g101.symm)) Q123 (Nat.le_of_eq g101.symm)) Q125 (Nat.le_of_eq g101.symm)) Q127 (Nat.le_of_eq g101.symm)) Q129 (Nat.le_of_eq g101.symm)) Q131 (Nat.le_of_eq g101.symm)) Q133 (Nat.le_of_eq g101.symm)) E135) E137) E139) E141) E143).1 (Nat.le_of_eq g145.symm))) Q151 (Nat.le_trans (Ext.tr (Ext.tr (Ext.tr (Ext.tr (Ext.tr (Ext.kp1 (Ext.kp1 (Ext.kp1 (Ext.kp1 (Ext.kp1 (Ext.kp1 (Ext.kp1 (Ext.kp1 (Ext.kp1 (Ext.kp1 (Ext.kp1 (Ext.kp1 (Ext.kp1 (Ext.kp1 (Ext.kp1 (Ext.kp1 E101 Q103 (Nat.le_of_eq g101.symm)) Q105 (Nat.le_of_eq g101.symm)) Q107 (Nat.le_of_eq g101.symm)) Q109 (Nat.le_of_eq g101.symm)) Q111 (Nat.le_of_eq g101.symm)) Q113 (Nat.le_of_eq g101.symm)) Q115 (Nat.le_of_eq g101.symm)) Q117 (Nat.le_of_eq g101.symm)) Q119 (Nat.le_of_eq g101.symm)) Q121 (Nat.le_of_eq g101.symm)) Q123 (Nat.le_of_eq g101.symm)) Q125 (Nat.le_of_eq g101.symm)) Q127 (Nat.le_of_eq g101.symm)) Q129 (Nat.le_of_eq g101.symm)) Q131 (Nat.le_of_eq g101.symm)) Q133 (Nat.le_of_eq g101.symm)) E135) E137) E139) E141) E143).1 (Nat.le_of_eq g145.symm))) Q153 (Nat.le_trans (Ext.tr (Ext.tr (Ext.tr (Ext.tr (Ext.tr (Ext.kp1 (Ext.kp1 (Ext.kp1 (Ext.kp1 (Ext.kp1 (Ext.kp1 (Ext.kp1 (Ext.kp1 (Ext.kp1 (Ext.kp1 (Ext.kp1 (Ext.kp1 (Ext.kp1 (Ext.kp1 (Ext.kp1 (Ext.kp1 E101 Q103 (Nat.le_of_eq g101.symm)) Q105 (Nat.le_of_eq g101.symm)) Q107 (Nat.le_of_eq g101.symm)) Q109 (Nat.le_of_eq g101.symm)) Q111 (Nat.le_of_eq g101.symm)) Q113 (Nat.le_of_eq g101.symm)) Q115 (Nat.le_of_eq g101.symm)) Q117 (Nat.le_of_eq g101.symm)) Q119 (Nat.le_of_eq g101.symm)) Q121 (Nat.le_of_eq g101.symm)) Q123 (Nat.le_of_eq g101.symm)) Q125 (Nat.le_of_eq g101.symm)) Q127 (Nat.le_of_eq g101.symm)) Q129 (Nat.le_of_eq g101.symm)) Q131 (Nat.le_of_eq g101.symm)) Q133 (Nat.le_of_eq g101.symm)) E135) E137) E139) E141) E143).1 (Nat.le_of_eq g145.symm))) Q155 (Nat.le_trans (Ext.tr (Ext.tr (Ext.tr (Ext.tr (Ext.tr (Ext.kp1 (Ext.kp1 (Ext.kp1 (Ext.kp1 (Ext.kp1 (Ext.kp1 (Ext.kp1 (Ext.kp1 (Ext.kp1 (Ext.kp1 (Ext.kp1 (Ext.kp1 (Ext.kp1 (Ext.kp1 (Ext.kp1 (Ext.kp1 E101 Q103 (Nat.le_of_eq g101.symm)) Q105 (Nat.le_of_eq g101.symm)) Q107 (Nat.le_of_eq g101.symm)) Q109 (Nat.le_of_eq g101.symm)) Q111 (Nat.le_of_eq g101.symm)) Q113 (Nat.le_of_eq g101.symm)) Q115 (Nat.le_of_eq g101.symm)) Q117 (Nat.le_of_eq g101.symm)) Q119 (Nat.le_of_eq g101.symm)) Q121 (Nat.le_of_eq g101.symm)) Q123 (Nat.le_of_eq g101.symm)) Q125 (Nat.le_of_eq g101.symm)) Q127 (Nat.le_of_eq g101.symm)) Q129 (Nat.le_of_eq g101.symm)) Q131 (Nat.le_of_eq g101.symm)) Q133 (Nat.le_of_eq g101.symm)) E135) E137) E139) E141) E143).1 (Nat.le_of_eq g145.symm))).1 (Nat.le_of_eq g157.symm)))) hz fm (Sf.ext (Ext.kp1 (Ext.tr (Ext.kp1 (Ext.kp1 (Ext.kp1 (Ext.kp1 (Ext.kp1 (Ext.tr (Ext.tr (Ext.tr (Ext.tr (Ext.tr (Ext.tr (Ext.kp1 (Ext.kp1 (Ext.kp1 (Ext.kp1 (Ext.kp1 (Ext.kp1 (Ext.kp1 (Ext.kp1 (Ext.kp1 (Ext.kp1 (Ext.kp1 (Ext.kp1 (Ext.kp1 (Ext.kp1 (Ext.kp1 (Ext.kp1 E101 Q103 (Nat.le_of_eq g101.symm)) Q105 (Nat.le_of_eq g101.symm)) Q107 (Nat.le_of_eq g101.symm)) Q109 (Nat.le_of_eq g101.symm)) Q111 (Nat.le_of_eq g101.symm)) Q113 (Nat.le_of_eq g101.symm)) Q115 (Nat.le_of_eq g101.symm)) Q117 (Nat.le_of_eq g101.symm)) Q119 (Nat.le_of_eq g101.symm)) Q121 (Nat.le_of_eq g101.symm)) Q123 (Nat.le_of_eq g101.symm)) Q125 (Nat.le_of_eq g101.symm)) Q127 (Nat.le_of_eq g101.symm)) Q129 (Nat.le_of_eq g101.symm)) Q131 (Nat.le_of_eq g101.symm)) Q133 (Nat.le_of_eq g101.symm)) E135) E137) E139) E141) E143) E145) Q147 (Nat.le_trans (Ext.tr (Ext.tr (Ext.tr (Ext.tr (Ext.tr (Ext.kp1 (Ext.kp1 (Ext.kp1 (Ext.kp1 (Ext.kp1 (Ext.kp1 (Ext.kp1 (Ext.kp1 (Ext.kp1 (Ext.kp1 (Ext.kp1 (Ext.kp1 (Ext.kp1 (Ext.kp1 (Ext.kp1 (Ext.kp1 E101 Q103 (Nat.le_of_eq g101.symm)) Q105 (Nat.le_of_eq g101.symm)) Q107 (Nat.le_of_eq g101.symm)) Q109 (Nat.le_of_eq g101.symm)) Q111 (Nat.le_of_eq g101.symm)) Q113 (Nat.le_of_eq g101.symm)) Q115 (Nat.le_of_eq g101.symm)) Q117 (Nat.le_of_eq g101.symm)) Q119 (Nat.le_of_eq g101.symm)) Q121 (Nat.le_of_eq g101.symm)) Q123 (Nat.le_of_eq g101.symm)) Q125 (Nat.le_of_eq g101.symm)) Q127 (Nat.le_of_eq g101.symm)) Q129 (Nat.le_of_eq g101.symm)) Q131 (Nat.le_of_eq g101.symm)) Q133 (Nat.le_of_eq g101.symm)) E135) E137) E139) E141) E143).1 (Nat.le_of_eq g145.symm))) Q149 (Nat.le_trans (Ext.tr (Ext.tr (Ext.tr (Ext.tr (Ext.tr (Ext.kp1 (Ext.kp1 (Ext.kp1 (Ext.kp1 (Ext.kp1 (Ext.kp1 (Ext.kp1 (Ext.kp1 (Ext.kp1 (Ext.kp1 (Ext.kp1 (Ext.kp1 (Ext.kp1 (Ext.kp1 (Ext.kp1 (Ext.kp1 E101 Q103 (Nat.le_of_eq g101.symm)) Q105 (Nat.le_of_eq g101.symm)) Q107 (Nat.le_of_eq g101.symm)) Q109 (Nat.le_of_eq g101.symm)) Q111 (Nat.le_of_eq g101.symm)) Q113 (Nat.le_of_eq g101.symm)) Q115 (Nat.le_of_eq g101.symm)) Q117 (Nat.le_of_eq g101.symm)) Q119 (Nat.le_of_eq g101.symm)) Q121 (Nat.le_of_eq g101.symm)) Q123 (Nat.le_of_eq g101.symm)) Q125 (Nat.le_of_eq g101.symm)) Q127 (Nat.le_of_eq g101.symm)) Q129 (Nat.le_of_eq g101.symm)) Q131 (Nat.le_of_eq g101.symm)) Q133 (Nat.le_of_eq g101.symm)) E135) E137) E139) E141) E143).1 (Nat.le_of_eq g145.symm))) Q151 (Nat.le_trans (Ext.tr (Ext.tr (Ext.tr (Ext.tr (Ext.tr (Ext.kp1 (Ext.kp1 (Ext.kp1 (Ext.kp1 (Ext.kp1 (Ext.kp1 (Ext.kp1 (Ext.kp1 (Ext.kp1 (Ext.kp1 (Ext.kp1 (Ext.kp1 (Ext.kp1 (Ext.kp1 (Ext.kp1 (Ext.kp1 E101 Q103 (Nat.le_of_eq g101.symm)) Q105 (Nat.le_of_eq g101.symm)) Q107 (Nat.le_of_eq g101.symm)) Q109 (Nat.le_of_eq g101.symm)) Q111 (Nat.le_of_eq g101.symm)) Q113 (Nat.le_of_eq g101.symm)) Q115 (Nat.le_of_eq g101.symm)) Q117 (Nat.le_of_eq g101.symm)) Q119 (Nat.le_of_eq g101.symm)) Q121 (Nat.le_of_eq g101.symm)) Q123 (Nat.le_of_eq g101.symm)) Q125 (Nat.le_of_eq g101.symm)) Q127 (Nat.le_of_eq g101.symm)) Q129 (Nat.le_of_eq g101.symm)) Q131 (Nat.le_of_eq g101.symm)) Q133 (Nat.le_of_eq g101.symm)) E135) E137) E139) E141) E143).1 (Nat.le_of_eq g145.symm))) Q153 (Nat.le_trans (Ext.tr (Ext.tr (Ext.tr (Ext.tr (Ext.tr (Ext.kp1 (Ext.kp1 (Ext.kp1 (Ext.kp1 (Ext.kp1 (Ext.kp1 (Ext.kp1 (Ext.kp1 (Ext.kp1 (Ext.kp1 (Ext.kp1 (Ext.kp1 (Ext.kp1 (Ext.kp1 (Ext.kp1 (Ext.kp1 E101 Q103 (Nat.le_of_eq g101.symm)) Q105 (Nat.le_of_eq g101.symm)) Q107 (Nat.le_of_eq g101.symm)) Q109 (Nat.le_of_eq g101.symm)) Q111 (Nat.le_of_eq g101.symm)) Q113 (Nat.le_of_eq g101.symm)) Q115 (Nat.le_of_eq g101.symm)) Q117 (Nat.le_of_eq g101.symm)) Q119 (Nat.le_of_eq g101.symm)) Q121 (Nat.le_of_eq g101.symm)) Q123 (Nat.le_of_eq g101.symm)) Q125 (Nat.le_of_eq g101.symm)) Q127 (Nat.le_of_eq g101.symm)) Q129 (Nat.le_of_eq g101.symm)) Q131 (Nat.le_of_eq g101.symm)) Q133 (Nat.le_of_eq g101.symm)) E135) E137) E139) E141) E143).1 (Nat.le_of_eq g145.symm))) Q155 (Nat.le_trans (Ext.tr (Ext.tr (Ext.tr (Ext.tr (Ext.tr (Ext.kp1 (Ext.kp1 (Ext.kp1 (Ext.kp1 (Ext.kp1 (Ext.kp1 (Ext.kp1 (Ext.kp1 (Ext.kp1 (Ext.kp1 (Ext.kp1 (Ext.kp1 (Ext.kp1 (Ext.kp1 (Ext.kp1 (Ext.kp1 E101 Q103 (Nat.le_of_eq g101.symm)) Q105 (Nat.le_of_eq g101.symm)) Q107 (Nat.le_of_eq g101.symm)) Q109 (Nat.le_of_eq g101.symm)) Q111 (Nat.le_of_eq g101.symm)) Q113 (Nat.le_of_eq g101.symm)) Q115 (Nat.le_of_eq g101.symm)) Q117 (Nat.le_of_eq g101.symm)) Q119 (Nat.le_of_eq g101.symm)) Q121 (Nat.le_of_eq g101.symm)) Q123 (Nat.le_of_eq g101.symm)) Q125 (Nat.le_of_eq g101.symm)) Q127 (Nat.le_of_eq g101.symm)) Q129 (Nat.le_of_eq g101.symm)) Q131 (Nat.le_of_eq g101.symm)) Q133 (Nat.le_of_eq g101.symm)) E135) E137) E139) E141) E143).1 (Nat.le_of_eq g145.symm))) E157) Q161 (Nat.le_trans (Ext.kp1 (Ext.kp1 (Ext.kp1 (Ext.kp1 (Ext.kp1 (Ext.tr (Ext.tr (Ext.tr (Ext.tr (Ext.tr (Ext.tr (Ext.kp1 (Ext.kp1 (Ext.kp1 (Ext.kp1 (Ext.kp1 (Ext.kp1 (Ext.kp1 (Ext.kp1 (Ext.kp1 (Ext.kp1 (Ext.kp1 (Ext.kp1 (Ext.kp1 (Ext.kp1 (Ext.kp1 (Ext.kp1 E101 Q103 (Nat.le_of_eq g101.symm)) Q105 (Nat.le_of_eq g101.symm)) Q107 (Nat.le_of_eq g101.symm)) Q109 (Nat.le_of_eq g101.symm)) Q111 (Nat.le_of_eq g101.symm)) Q113 (Nat.le_of_eq g101.symm)) Q115 (Nat.le_of_eq g101.symm)) Q117 (Nat.le_of_eq g101.symm)) Q119 (Nat.le_of_eq g101.symm)) Q121 (Nat.le_of_eq g101.symm)) Q123 (Nat.le_of_eq g101.symm)) Q125 (Nat.le_of_eq g101.symm)) Q127 (Nat.le_of_eq g101.symm)) Q129 (Nat.le_of_eq g101.symm)) Q131 (Nat.le_of_eq g101.symm)) Q133 (Nat.le_of_eq g101.symm)) E135) E137) E139) E141) E143) E145) Q147 (Nat.le_trans (Ext.tr (Ext.tr (Ext.tr (Ext.tr (Ext.tr (Ext.kp1 (Ext.kp1 (Ext.kp1 (Ext.kp1 (Ext.kp1 (Ext.kp1 (Ext.kp1 (Ext.kp1 (Ext.kp1 (Ext.kp1 (Ext.kp1 (Ext.kp1 (Ext.kp1 (Ext.kp1 (Ext.kp1 (Ext.kp1 E101 Q103 (Nat.le_of_eq g101.symm)) Q105 (Nat.le_of_eq g101.symm)) Q107 (Nat.le_of_eq g101.symm)) Q109 (Nat.le_of_eq g101.symm)) Q111 (Nat.le_of_eq g101.symm)) Q113 (Nat.le_of_eq g101.symm)) Q115 (Nat.le_of_eq g101.symm)) Q117 (Nat.le_of_eq g101.symm)) Q119 (Nat.le_of_eq g101.symm)) Q121 (Nat.le_of_eq g101.symm)) Q123 (Nat.le_of_eq g101.symm)) Q125 (Nat.le_of_eq g101.symm)) Q127 (Nat.le_of_eq g101.symm)) Q129 (Nat.le_of_eq g101.symm)) Q131 (Nat.le_of_eq g101.symm)) Q133 (Nat.le_of_eq g101.symm)) E135) E137) E139) E141) E143).1 (Nat.le_of_eq g145.symm))) Q149 (Nat.le_trans (Ext.tr (Ext.tr (Ext.tr (Ext.tr (Ext.tr (Ext.kp1 (Ext.kp1 (Ext.kp1 (Ext.kp1 (Ext.kp1 (Ext.kp1 (Ext.kp1 (Ext.kp1 (Ext.kp1 (Ext.kp1 (Ext.kp1 (Ext.kp1 (Ext.kp1 (Ext.kp1 (Ext.kp1 (Ext.kp1 E101 Q103 (Nat.le_of_eq g101.symm)) Q105 (Nat.le_of_eq g101.symm)) Q107 (Nat.le_of_eq g101.symm)) Q109 (Nat.le_of_eq g101.symm)) Q111 (Nat.le_of_eq g101.symm)) Q113 (Nat.le_of_eq g101.symm)) Q115 (Nat.le_of_eq g101.symm)) Q117 (Nat.le_of_eq g101.symm)) Q119 (Nat.le_of_eq g101.symm)) Q121 (Nat.le_of_eq g101.symm)) Q123 (Nat.le_of_eq g101.symm)) Q125 (Nat.le_of_eq g101.symm)) Q127 (Nat.le_of_eq g101.symm)) Q129 (Nat.le_of_eq g101.symm)) Q131 (Nat.le_of_eq g101.symm)) Q133 (Nat.le_of_eq g101.symm)) E135) E137) E139) E141) E143).1 (Nat.le_of_eq g145.symm))) Q151 (Nat.le_trans (Ext.tr (Ext.tr (Ext.tr (Ext.tr (Ext.tr (Ext.kp1 (Ext.kp1 (Ext.kp1 (Ext.kp1 (Ext.kp1 (Ext.kp1 (Ext.kp1 (Ext.kp1 (Ext.kp1 (Ext.kp1 (Ext.kp1 (Ext.kp1 (Ext.kp1 (Ext.kp1 (Ext.kp1 (Ext.kp1 E101 Q103 (Nat.le_of_eq g101.symm)) Q105 (Nat.le_of_eq g101.symm)) Q107 (Nat.le_of_eq g101.symm)) Q109 (Nat.le_of_eq g101.symm)) Q111 (Nat.le_of_eq g101.symm)) Q113 (Nat.le_of_eq g101.symm)) Q115 (Nat.le_of_eq g101.symm)) Q117 (Nat.le_of_eq g101.symm)) Q119 (Nat.le_of_eq g101.symm)) Q121 (Nat.le_of_eq g101.symm)) Q123 (Nat.le_of_eq g101.symm)) Q125 (Nat.le_of_eq g101.symm)) Q127 (Nat.le_of_eq g101.symm)) Q129 (Nat.le_of_eq g101.symm)) Q131 (Nat.le_of_eq g101.symm)) Q133 (Nat.le_of_eq g101.symm)) E135) E137) E139) E141) E143).1 (Nat.le_of_eq g145.symm))) Q153 (Nat.le_trans (Ext.tr (Ext.tr (Ext.tr (Ext.tr (Ext.tr (Ext.kp1 (Ext.kp1 (Ext.kp1 (Ext.kp1 (Ext.kp1 (Ext.kp1 (Ext.kp1 (Ext.kp1 (Ext.kp1 (Ext.kp1 (Ext.kp1 (Ext.kp1 (Ext.kp1 (Ext.kp1 (Ext.kp1 (Ext.kp1 E101 Q103 (Nat.le_of_eq g101.symm)) Q105 (Nat.le_of_eq g101.symm)) Q107 (Nat.le_of_eq g101.symm)) Q109 (Nat.le_of_eq g101.symm)) Q111 (Nat.le_of_eq g101.symm)) Q113 (Nat.le_of_eq g101.symm)) Q115 (Nat.le_of_eq g101.symm)) Q117 (Nat.le_of_eq g101.symm)) Q119 (Nat.le_of_eq g101.symm)) Q121 (Nat.le_of_eq g101.symm)) Q123 (Nat.le_of_eq g101.symm)) Q125 (Nat.le_of_eq g101.symm)) Q127 (Nat.le_of_eq g101.symm)) Q129 (Nat.le_of_eq g101.symm)) Q131 (Nat.le_of_eq g101.symm)) Q133 (Nat.le_of_eq g101.symm)) E135) E137) E139) E141) E143).1 (Nat.le_of_eq g145.symm))) Q155 (Nat.le_trans (Ext.tr (Ext.tr (Ext.tr (Ext.tr (Ext.tr (Ext.kp1 (Ext.kp1 (Ext.kp1 (Ext.kp1 (Ext.kp1 (Ext.kp1 (Ext.kp1 (Ext.kp1 (Ext.kp1 (Ext.kp1 (Ext.kp1 (Ext.kp1 (Ext.kp1 (Ext.kp1 (Ext.kp1 (Ext.kp1 E101 Q103 (Nat.le_of_eq g101.symm)) Q105 (Nat.le_of_eq g101.symm)) Q107 (Nat.le_of_eq g101.symm)) Q109 (Nat.le_of_eq g101.symm)) Q111 (Nat.le_of_eq g101.symm)) Q113 (Nat.le_of_eq g101.symm)) Q115 (Nat.le_of_eq g101.symm)) Q117 (Nat.le_of_eq g101.symm)) Q119 (Nat.le_of_eq g101.symm)) Q121 (Nat.le_of_eq g101.symm)) Q123 (Nat.le_of_eq g101.symm)) Q125 (Nat.le_of_eq g101.symm)) Q127 (Nat.le_of_eq g101.symm)) Q129 (Nat.le_of_eq g101.symm)) Q131 (Nat.le_of_eq g101.symm)) Q133 (Nat.le_of_eq g101.symm)) E135) E137) E139) E141) E143).1 (Nat.le_of_eq g145.symm))).1 (Nat.le_of_eq g157.symm)))) rf (u.ext (Ext.kp1 (Ext.tr (Ext.kp1 (Ext.kp1 (Ext.kp1 (Ext.kp1 (Ext.kp1 (Ext.tr (Ext.tr (Ext.tr (Ext.tr (Ext.tr (Ext.tr (Ext.kp1 (Ext.kp1 (Ext.kp1 (Ext.kp1 (Ext.kp1 (Ext.kp1 (Ext.kp1 (Ext.kp1 (Ext.kp1 (Ext.kp1 (Ext.kp1 (Ext.kp1 (Ext.kp1 (Ext.kp1 (Ext.kp1 (Ext.kp1 E101 Q103 (Nat.le_of_eq g101.symm)) Q105 (Nat.le_of_eq g101.symm)) Q107 (Nat.le_of_eq g101.symm)) Q109 (Nat.le_of_eq g101.symm)) Q111 (Nat.le_of_eq g101.symm)) Q113 (Nat.le_of_eq g101.symm)) Q115 (Nat.le_of_eq g101.symm)) Q117 (Nat.le_of_eq g101.symm)) Q119 (Nat.le_of_eq g101.symm)) Q121 (Nat.le_of_eq g101.symm)) Q123 (Nat.le_of_eq g101.symm)) Q125 (Nat.le_of_eq g101.symm)) Q127 (Nat.le_of_eq g101.symm)) Q129 (Nat.le_of_eq g101.symm)) Q131 (Nat.le_of_eq g101.symm)) Q133 (Nat.le_of_eq g101.symm)) E135) E137) E139) E141) E143) E145) Q147 (Nat.le_trans (Ext.tr (Ext.tr (Ext.tr (Ext.tr (Ext.tr (Ext.kp1 (Ext.kp1 (Ext.kp1 (Ext.kp1 (Ext.kp1 (Ext.kp1 (Ext.kp1 (Ext.kp1 (Ext.kp1 (Ext.kp1 (Ext.kp1 (Ext.kp1 (Ext.kp1 (Ext.kp1 (Ext.kp1 (Ext.kp1 E101 Q103 (Nat.le_of_eq g101.symm)) Q105 (Nat.le_of_eq g101.symm)) Q107 (Nat.le_of_eq g101.symm)) Q109 (Nat.le_of_eq g101.symm)) Q111 (Nat.le_of_eq g101.symm)) Q113 (Nat.le_of_eq g101.symm)) Q115 (Nat.le_of_eq g101.symm)) Q117 (Nat.le_of_eq g101.symm)) Q119 (Nat.le_of_eq g101.symm)) Q121 (Nat.le_of_eq g101.symm)) Q123 (Nat.le_of_eq g101.symm)) Q125 (Nat.le_of_eq g101.symm)) Q127 (Nat.le_of_eq g101.symm)) Q129 (Nat.le_of_eq g101.symm)) Q131 (Nat.le_of_eq g101.symm)) Q133 (Nat.le_of_eq g101.symm)) E135) E137) E139) E141) E143).1 (Nat.le_of_eq g145.symm))) Q149 (Nat.le_trans (Ext.tr (Ext.tr (Ext.tr (Ext.tr (Ext.tr (Ext.kp1 (Ext.kp1 (Ext.kp1 (Ext.kp1 (Ext.kp1 (Ext.kp1 (Ext.kp1 (Ext.kp1 (Ext.kp1 (Ext.kp1 (Ext.kp1 (Ext.kp1 (Ext.kp1 (Ext.kp1 (Ext.kp1 (Ext.kp1 E101 Q103 (Nat.le_of_eq g101.symm)) Q105 (Nat.le_of_eq g101.symm)) Q107 (Nat.le_of_eq g101.symm)) Q109 (Nat.le_of_eq g101.symm)) Q111 (Nat.le_of_eq g101.symm)) Q113 (Nat.le_of_eq g101.symm)) Q115 (Nat.le_of_eq g101.symm)) Q117 (Nat.le_of_eq g101.symm)) Q119 (Nat.le_of_eq g101.symm)) Q121 (Nat.le_of_eq g101.symm)) Q123 (Nat.le_of_eq g101.symm)) Q125 (Nat.le_of_eq g101.symm)) Q127 (Nat.le_of_eq g101.symm)) Q129 (Nat.le_of_eq g101.symm)) Q131 (Nat.le_of_eq g101.symm)) Q133 (Nat.le_of_eq g101.symm)) E135) E137) E139) E141) E143).1 (Nat.le_of_eq g145.symm))) Q151 (Nat.le_trans (Ext.tr (Ext.tr (Ext.tr (Ext.tr (Ext.tr (Ext.kp1 (Ext.kp1 (Ext.kp1 (Ext.kp1 (Ext.kp1 (Ext.kp1 (Ext.kp1 (Ext.kp1 (Ext.kp1 (Ext.kp1 (Ext.kp1 (Ext.kp1 (Ext.kp1 (Ext.kp1 (Ext.kp1 (Ext.kp1 E101 Q103 (Nat.le_of_eq g101.symm)) Q105 (Nat.le_of_eq g101.symm)) Q107 (Nat.le_of_eq g101.symm)) Q109 (Nat.le_of_eq g101.symm)) Q111 (Nat.le_of_eq g101.symm)) Q113 (Nat.le_of_eq g101.symm)) Q115 (Nat.le_of_eq g101.symm)) Q117 (Nat.le_of_eq g101.symm)) Q119 (Nat.le_of_eq g101.symm)) Q121 (Nat.le_of_eq g101.symm)) Q123 (Nat.le_of_eq g101.symm)) Q125 (Nat.le_of_eq g101.symm)) Q127 (Nat.le_of_eq g101.symm)) Q129 (Nat.le_of_eq g101.symm)) Q131 (Nat.le_of_eq g101.symm)) Q133 (Nat.le_of_eq g101.symm)) E135) E137) E139) E141) E143).1 (Nat.le_of_eq g145.symm))) Q153 (Nat.le_trans (Ext.tr (Ext.tr (Ext.tr (Ext.tr (Ext.tr (Ext.kp1 (Ext.kp1 (Ext.kp1 (Ext.kp1 (Ext.kp1 (Ext.kp1 (Ext.kp1 (Ext.kp1 (Ext.kp1 (Ext.kp1 (Ext.kp1 (Ext.kp1 (Ext.kp1 (Ext.kp1 (Ext.kp1 (Ext.kp1 E101 Q103 (Nat.le_of_eq g101.symm)) Q105 (Nat.le_of_eq g101.symm)) Q107 (Nat.le_of_eq g101.symm)) Q109 (Nat.le_of_eq g101.symm)) Q111 (Nat.le_of_eq g101.symm)) Q113 (Nat.le_of_eq g101.symm)) Q115 (Nat.le_of_eq g101.symm)) Q117 (Nat.le_of_eq g101.symm)) Q119 (Nat.le_of_eq g101.symm)) Q121 (Nat.le_of_eq g101.symm)) Q123 (Nat.le_of_eq g101.symm)) Q125 (Nat.le_of_eq g101.symm)) Q127 (Nat.le_of_eq g101.symm)) Q129 (Nat.le_of_eq g101.symm)) Q131 (Nat.le_of_eq g101.symm)) Q133 (Nat.le_of_eq g101.symm)) E135) E137) E139) E141) E143).1 (Nat.le_of_eq g145.symm))) Q155 (Nat.le_trans (Ext.tr (Ext.tr (Ext.tr (Ext.tr (Ext.tr (Ext.kp1 (Ext.kp1 (Ext.kp1 (Ext.kp1 (Ext.kp1 (Ext.kp1 (Ext.kp1 (Ext.kp1 (Ext.kp1 (Ext.kp1 (Ext.kp1 (Ext.kp1 (Ext.kp1 (Ext.kp1 (Ext.kp1 (Ext.kp1 E101 Q103 (Nat.le_of_eq g101.symm)) Q105 (Nat.le_of_eq g101.symm)) Q107 (Nat.le_of_eq g101.symm)) Q109 (Nat.le_of_eq g101.symm)) Q111 (Nat.le_of_eq g101.symm)) Q113 (Nat.le_of_eq g101.symm)) Q115 (Nat.le_of_eq g101.symm)) Q117 (Nat.le_of_eq g101.symm)) Q119 (Nat.le_of_eq g101.symm)) Q121 (Nat.le_of_eq g101.symm)) Q123 (Nat.le_of_eq g101.symm)) Q125 (Nat.le_of_eq g101.symm)) Q127 (Nat.le_of_eq g101.symm)) Q129 (Nat.le_of_eq g101.symm)) Q131 (Nat.le_of_eq g101.symm)) Q133 (Nat.le_of_eq g101.symm)) E135) E137) E139) E141) E143).1 (Nat.le_of_eq g145.symm))) E157) Q161 (Nat.le_trans (Ext.kp1 (Ext.kp1 (Ext.kp1 (Ext.kp1 (Ext.kp1 (Ext.tr (Ext.tr (Ext.tr (Ext.tr (Ext.tr (Ext.tr (Ext.kp1 (Ext.kp1 (Ext.kp1 (Ext.kp1 (Ext.kp1 (Ext.kp1 (Ext.kp1 (Ext.kp1 (Ext.kp1 (Ext.kp1 (Ext.kp1 (Ext.kp1 (Ext.kp1 (Ext.kp1 (Ext.kp1 (Ext.kp1 E101 Q103 (Nat.le_of_eq g101.symm)) Q105 (Nat.le_of_eq g101.symm)) Q107 (Nat.le_of_eq g101.symm)) Q109 (Nat.le_of_eq g101.symm)) Q111 (Nat.le_of_eq g101.symm)) Q113 (Nat.le_of_eq g101.symm)) Q115 (Nat.le_of_eq g101.symm)) Q117 (Nat.le_of_eq g101.symm)) Q119 (Nat.le_of_eq g101.symm)) Q121 (Nat.le_of_eq g101.symm)) Q123 (Nat.le_of_eq g101.symm)) Q125 (Nat.le_of_eq g101.symm)) Q127 (Nat.le_of_eq g101.symm)) Q129 (Nat.le_of_eq g101.symm)) Q131 (Nat.le_of_eq g101.symm)) Q133 (Nat.le_of_eq g101.symm)) E135) E137) E139) E141) E143) E145) Q147 (Nat.le_trans (Ext.tr (Ext.tr (Ext.tr (Ext.tr (Ext.tr (Ext.kp1 (Ext.kp1 (Ext.kp1 (Ext.kp1 (Ext.kp1 (Ext.kp1 (Ext.kp1 (Ext.kp1 (Ext.kp1 (Ext.kp1 (Ext.kp1 (Ext.kp1 (Ext.kp1 (Ext.kp1 (Ext.kp1 (Ext.kp1 E101 Q103 (Nat.le_of_eq g101.symm)) Q105 (Nat.le_of_eq g101.symm)) Q107 (Nat.le_of_eq g101.symm)) Q109 (Nat.le_of_eq g101.symm)) Q111 (Nat.le_of_eq g101.symm)) Q113 (Nat.le_of_eq g101.symm)) Q115 (Nat.le_of_eq g101.symm)) Q117 (Nat.le_of_eq g101.symm)) Q119 (Nat.le_of_eq g101.symm)) Q121 (Nat.le_of_eq g101.symm)) Q123 (Nat.le_of_eq g101.symm)) Q125 (Nat.le_of_eq g101.symm)) Q127 (Nat.le_of_eq g101.symm)) Q129 (Nat.le_of_eq g101.symm)) Q131 (Nat.le_of_eq g101.symm)) Q133 (Nat.le_of_eq g101.symm)) E135) E137) E139) E141) E143).1 (Nat.le_of_eq g145.symm))) Q149 (Nat.le_trans (Ext.tr (Ext.tr (Ext.tr (Ext.tr (Ext.tr (Ext.kp1 (Ext.kp1 (Ext.kp1 (Ext.kp1 (Ext.kp1 (Ext.kp1 (Ext.kp1 (Ext.kp1 (Ext.kp1 (Ext.kp1 (Ext.kp1 (Ext.kp1 (Ext.kp1 (Ext.kp1 (Ext.kp1 (Ext.kp1 E101 Q103 (Nat.le_of_eq g101.symm)) Q105 (Nat.le_of_eq g101.symm)) Q107 (Nat.le_of_eq g101.symm)) Q109 (Nat.le_of_eq g101.symm)) Q111 (Nat.le_of_eq g101.symm)) Q113 (Nat.le_of_eq g101.symm)) Q115 (Nat.le_of_eq g101.symm)) Q117 (Nat.le_of_eq g101.symm)) Q119 (Nat.le_of_eq g101.symm)) Q121 (Nat.le_of_eq g101.symm)) Q123 (Nat.le_of_eq g101.symm)) Q125 (Nat.le_of_eq g101.symm)) Q127 (Nat.le_of_eq g101.symm)) Q129 (Nat.le_of_eq g101.symm)) Q131 (Nat.le_of_eq g101.symm)) Q133 (Nat.le_of_eq g101.symm)) E135) E137) E139) E141) E143).1 (Nat.le_of_eq g145.symm))) Q151 (Nat.le_trans (Ext.tr (Ext.tr (Ext.tr (Ext.tr (Ext.tr (Ext.kp1 (Ext.kp1 (Ext.kp1 (Ext.kp1 (Ext.kp1 (Ext.kp1 (Ext.kp1 (Ext.kp1 (Ext.kp1 (Ext.kp1 (Ext.kp1 (Ext.kp1 (Ext.kp1 (Ext.kp1 (Ext.kp1 (Ext.kp1 E101 Q103 (Nat.le_of_eq g101.symm)) Q105 (Nat.le_of_eq g101.symm)) Q107 (Nat.le_of_eq g101.symm)) Q109 (Nat.le_of_eq g101.symm)) Q111 (Nat.le_of_eq g101.symm)) Q113 (Nat.le_of_eq g101.symm)) Q115 (Nat.le_of_eq g101.symm)) Q117 (Nat.le_of_eq g101.symm)) Q119 (Nat.le_of_eq g101.symm)) Q121 (Nat.le_of_eq g101.symm)) Q123 (Nat.le_of_eq g101.symm)) Q125 (Nat.le_of_eq g101.symm)) Q127 (Nat.le_of_eq g101.symm)) Q129 (Nat.le_of_eq g101.symm)) Q131 (Nat.le_of_eq g101.symm)) Q133 (Nat.le_of_eq g101.symm)) E135) E137) E139) E141) E143).1 (Nat.le_of_eq g145.symm))) Q153 (Nat.le_trans (Ext.tr (Ext.tr (Ext.tr (Ext.tr (Ext.tr (Ext.kp1 (Ext.kp1 (Ext.kp1 (Ext.kp1 (Ext.kp1 (Ext.kp1 (Ext.kp1 (Ext.kp1 (Ext.kp1 (Ext.kp1 (Ext.kp1 (Ext.kp1 (Ext.kp1 (Ext.kp1 (Ext.kp1 (Ext.kp1 E101 Q103 (Nat.le_of_eq g101.symm)) Q105 (Nat.le_of_eq g101.symm)) Q107 (Nat.le_of_eq g101.symm)) Q109 (Nat.le_of_eq g101.symm)) Q111 (Nat.le_of_eq g101.symm)) Q113 (Nat.le_of_eq g101.symm)) Q115 (Nat.le_of_eq g101.symm)) Q117 (Nat.le_of_eq g101.symm)) Q119 (Nat.le_of_eq g101.symm)) Q121 (Nat.le_of_eq g101.symm)) Q123 (Nat.le_of_eq g101.symm)) Q125 (Nat.le_of_eq g101.symm)) Q127 (Nat.le_of_eq g101.symm)) Q129 (Nat.le_of_eq g101.symm)) Q131 (Nat.le_of_eq g101.symm)) Q133 (Nat.le_of_eq g101.symm)) E135) E137) E139) E141) E143).1 (Nat.le_of_eq g145.symm))) Q155 (Nat.le_trans (Ext.tr (Ext.tr (Ext.tr (Ext.tr (Ext.tr (Ext.kp1 (Ext.kp1 (Ext.kp1 (Ext.kp1 (Ext.kp1 (Ext.kp1 (Ext.kp1 (Ext.kp1 (Ext.kp1 (Ext.kp1 (Ext.kp1 (Ext.kp1 (Ext.kp1 (Ext.kp1 (Ext.kp1 (Ext.kp1 E101 Q103 (Nat.le_of_eq g101.symm)) Q105 (Nat.le_of_eq g101.symm)) Q107 (Nat.le_of_eq g101.symm)) Q109 (Nat.le_of_eq g101.symm)) Q111 (Nat.le_of_eq g101.symm)) Q113 (Nat.le_of_eq g101.symm)) Q115 (Nat.le_of_eq g101.symm)) Q117 (Nat.le_of_eq g101.symm)) Q119 (Nat.le_of_eq g101.symm)) Q121 (Nat.le_of_eq g101.symm)) Q123 (Nat.le_of_eq g101.symm)) Q125 (Nat.le_of_eq g101.symm)) Q127 (Nat.le_of_eq g101.symm)) Q129 (Nat.le_of_eq g101.symm)) Q131 (Nat.le_of_eq g101.symm)) Q133 (Nat.le_of_eq g101.symm)) E135) E137) E139) E141) E143).1 (Nat.le_of_eq g145.symm))).1 (Nat.le_of_eq g157.symm))))) (hw _ (List.mem_of_getElem? (i := 40) rfl)) (hw _ (List.mem_of_getElem? (i := 39) rfl)) (by decide) (by decide)) (fun _ q => nomatch q) pd17 rfl rfl (Nat.le_of_eq rfl) rfl (by decide) (by decide) (by decide) (fun v163 T163 h163 K163 Q163 q163 => ?_)
  have E163 := Ext.of0 Q163
  have P164 := P162.ext E163
  cases q163
  refine gIstore K163 L_195 (Ls' := #[.val (.int d0), .val (.int d1), .val (.int d2), .val (.int d3), .val (.int d4), .val (.int eI), .val (.ref x101), .val (.int r0), .val (.int r1), .val (.int r2), .val (.int r3), .val (.int r4), .val (.ref x145), .val (.ref x157), .val (.int (Int32.ofNat E)), .val (.int (Int32.ofNat (slen [r0, r1, r2, r3, r4] E))), .unset, .unset]) rfl ?_
  have hEc : E = 0 ∨ E = 1 ∨ E = 2 ∨ E = 3 ∨ E = 4 ∨ E = 5 := by omega
  clear eE hE6
  rcases hEc with rfl | rfl | rfl | rfl | rfl | rfl
  · skip
    refine gIload K163 L_197 (v := (0 : Int32)) rfl ?_
    refine gIf_le K163 L_199 (fun q199 => ?_) (fun q => absurd q (by first | decide | (intro hh; cases hh) | simp))
    refine gIconst K163 (0 : Int32) L_214 rfl ?_
    refine gIstore K163 L_215 (Ls' := #[.val (.int d0), .val (.int d1), .val (.int d2), .val (.int d3), .val (.int d4), .val (.int eI), .val (.ref x101), .val (.int r0), .val (.int r1), .val (.int r2), .val (.int r3), .val (.int r4), .val (.ref x145), .val (.ref x157), .val (.int (0 : Int32)), .val (.int (Int32.ofNat (slen [r0, r1, r2, r3, r4] 0))), .val (.int (0 : Int32)), .unset]) rfl ?_
    refine gIload K163 L_217 (v := (0 : Int32)) rfl ?_
    refine gIf_eq K163 L_219 (fun q219 => ?_) (fun q => absurd q (by first | decide | (intro hh; cases hh) | simp))
    refine gIload K163 L_241 (v := (0 : Int32)) rfl ?_
    refine gIf_eq K163 L_243 (fun q243 => ?_) (fun q => absurd q (by first | decide | (intro hh; cases hh) | simp))
    refine gIload K163 L_273 (v := (0 : Int32)) rfl ?_
    refine gIf_eq K163 L_275 (fun q275 => ?_) (fun q => absurd q (by first | decide | (intro hh; cases hh) | simp))
    refine gIload K163 L_313 (v := (0 : Int32)) rfl ?_
    refine gIf_eq K163 L_315 (fun q315 => ?_) (fun q => absurd q (by first | decide | (intro hh; cases hh) | simp))
    refine gIconst K163 (0 : Int32) L_361 rfl ?_
    refine gIstore K163 L_362 (Ls' := #[.val (.int d0), .val (.int d1), .val (.int d2), .val (.int d3), .val (.int d4), .val (.int eI), .val (.ref x101), .val (.int r0), .val (.int r1), .val (.int r2), .val (.int r3), .val (.int r4), .val (.ref x145), .val (.ref x157), .val (.int (0 : Int32)), .val (.int (Int32.ofNat (slen [r0, r1, r2, r3, r4] 0))), .val (.int (0 : Int32)), .val (.int (0 : Int32))]) rfl ?_
    have esl : slen [r0, r1, r2, r3, r4] 0 = 0 := by
      rfl
    rw [esl]
    refine gIload K163 L_364 (v := (0 : Int32)) rfl ?_
    refine gIload K163 L_366 (v := (0 : Int32)) rfl ?_
    refine gIcmp_ne K163 L_368 (fun q => absurd q (by first | decide | (intro hh; cases hh) | simp)) (fun q368 => ?_)
    refine gIconst K163 (1 : Int32) L_371 rfl ?_
    refine gGoto K163 L_372 ?_
    refine gRetI K163 hlk hret (by simp) L_376 rfl P164 (by decide) (by decide) ?_
    exact rfl
  · skip
    refine gIload K163 L_197 (v := (1 : Int32)) rfl ?_
    refine gIf_le K163 L_199 (fun q => absurd q (by first | decide | (intro hh; cases hh) | simp)) (fun q199 => ?_)
    refine gIload K163 L_202 (v := r0) rfl ?_
    refine gCallS K163 (W := 0) [(.int r0)] [] L_204 (hw _ (List.mem_of_getElem? (i := 66) rfl)) (hw _ (List.mem_of_getElem? (i := 67) rfl)) (hw _ (List.mem_of_getElem? (i := 3) rfl)) (hw _ (List.mem_of_getElem? (i := 68) rfl)) (Cal.ofN (W := 0) (c_letter l Z a0 hw h163 n0 K163.n0le r0) (hw _ (List.mem_of_getElem? (i := 68) rfl)) (hw _ (List.mem_of_getElem? (i := 3) rfl)) (by decide) (by decide)) (fun _ q => nomatch q) pd13 rfl rfl (Nat.le_of_eq rfl) rfl (by decide) (by decide) (by decide) (fun v165 T165 h165 K165 Q165 q165 => ?_)
    have E165 := Ext.of0 Q165
    have P166 := P164.ext E165
    cases q165
    by_cases hl0 : let_ r0
    · skip
      rw [if_pos hl0]
      refine gIf_eq K165 L_207 (fun q => absurd q (by first | decide | (intro hh; cases hh) | simp)) (fun q207 => ?_)
      refine gIconst K165 (1 : Int32) L_210 rfl ?_
      refine gGoto K165 L_211 ?_
      refine gIstore K165 L_215 (Ls' := #[.val (.int d0), .val (.int d1), .val (.int d2), .val (.int d3), .val (.int d4), .val (.int eI), .val (.ref x101), .val (.int r0), .val (.int r1), .val (.int r2), .val (.int r3), .val (.int r4), .val (.ref x145), .val (.ref x157), .val (.int (1 : Int32)), .val (.int (Int32.ofNat (slen [r0, r1, r2, r3, r4] 1))), .val (.int (1 : Int32)), .unset]) rfl ?_
      refine gIload K165 L_217 (v := (1 : Int32)) rfl ?_
      refine gIf_eq K165 L_219 (fun q => absurd q (by first | decide | (intro hh; cases hh) | simp)) (fun q219 => ?_)
      refine gIload K165 L_222 (v := (1 : Int32)) rfl ?_
      refine gIconst K165 (1 : Int32) L_224 rfl ?_
      refine gIcmp_le K165 L_225 (fun q225 => ?_) (fun q => absurd q (by first | decide | (intro hh; cases hh) | simp))
      refine gIload K165 L_241 (v := (1 : Int32)) rfl ?_
      refine gIf_eq K165 L_243 (fun q => absurd q (by first | decide | (intro hh; cases hh) | simp)) (fun q243 => ?_)
      refine gIload K165 L_246 (v := (1 : Int32)) rfl ?_
      refine gIconst K165 (2 : Int32) L_248 rfl ?_
      refine gIcmp_le K165 L_249 (fun q249 => ?_) (fun q => absurd q (by first | decide | (intro hh; cases hh) | simp))
      refine gIload K165 L_273 (v := (1 : Int32)) rfl ?_
      refine gIf_eq K165 L_275 (fun q => absurd q (by first | decide | (intro hh; cases hh) | simp)) (fun q275 => ?_)
      refine gIload K165 L_278 (v := (1 : Int32)) rfl ?_
      refine gIconst K165 (3 : Int32) L_280 rfl ?_
      refine gIcmp_le K165 L_281 (fun q281 => ?_) (fun q => absurd q (by first | decide | (intro hh; cases hh) | simp))
      refine gIload K165 L_313 (v := (1 : Int32)) rfl ?_
      refine gIf_eq K165 L_315 (fun q => absurd q (by first | decide | (intro hh; cases hh) | simp)) (fun q315 => ?_)
      refine gIload K165 L_318 (v := (1 : Int32)) rfl ?_
      refine gIconst K165 (4 : Int32) L_320 rfl ?_
      refine gIcmp_le K165 L_321 (fun q321 => ?_) (fun q => absurd q (by first | decide | (intro hh; cases hh) | simp))
      refine gIconst K165 (0 : Int32) L_361 rfl ?_
      refine gIstore K165 L_362 (Ls' := #[.val (.int d0), .val (.int d1), .val (.int d2), .val (.int d3), .val (.int d4), .val (.int eI), .val (.ref x101), .val (.int r0), .val (.int r1), .val (.int r2), .val (.int r3), .val (.int r4), .val (.ref x145), .val (.ref x157), .val (.int (1 : Int32)), .val (.int (Int32.ofNat (slen [r0, r1, r2, r3, r4] 1))), .val (.int (1 : Int32)), .val (.int (0 : Int32))]) rfl ?_
      have esl : slen [r0, r1, r2, r3, r4] 1 = 0 := by
        rw [slen_s, if_pos (show let_ ([r0, r1, r2, r3, r4].getD 0 0) from hl0)]
        rfl
      rw [esl]
      refine gIload K165 L_364 (v := (0 : Int32)) rfl ?_
      refine gIload K165 L_366 (v := (0 : Int32)) rfl ?_
      refine gIcmp_ne K165 L_368 (fun q => absurd q (by first | decide | (intro hh; cases hh) | simp)) (fun q368 => ?_)
      refine gIconst K165 (1 : Int32) L_371 rfl ?_
      refine gGoto K165 L_372 ?_
      refine gRetI K165 hlk hret (by simp) L_376 rfl P166 (by decide) (by decide) ?_
      exact rfl
    · skip
      rw [if_neg hl0]
      refine gIf_eq K165 L_207 (fun q207 => ?_) (fun q => absurd q (by first | decide | (intro hh; cases hh) | simp))
      refine gIconst K165 (0 : Int32) L_214 rfl ?_
      refine gIstore K165 L_215 (Ls' := #[.val (.int d0), .val (.int d1), .val (.int d2), .val (.int d3), .val (.int d4), .val (.int eI), .val (.ref x101), .val (.int r0), .val (.int r1), .val (.int r2), .val (.int r3), .val (.int r4), .val (.ref x145), .val (.ref x157), .val (.int (1 : Int32)), .val (.int (Int32.ofNat (slen [r0, r1, r2, r3, r4] 1))), .val (.int (0 : Int32)), .unset]) rfl ?_
      refine gIload K165 L_217 (v := (0 : Int32)) rfl ?_
      refine gIf_eq K165 L_219 (fun q219 => ?_) (fun q => absurd q (by first | decide | (intro hh; cases hh) | simp))
      refine gIload K165 L_241 (v := (0 : Int32)) rfl ?_
      refine gIf_eq K165 L_243 (fun q243 => ?_) (fun q => absurd q (by first | decide | (intro hh; cases hh) | simp))
      refine gIload K165 L_273 (v := (0 : Int32)) rfl ?_
      refine gIf_eq K165 L_275 (fun q275 => ?_) (fun q => absurd q (by first | decide | (intro hh; cases hh) | simp))
      refine gIload K165 L_313 (v := (0 : Int32)) rfl ?_
      refine gIf_eq K165 L_315 (fun q315 => ?_) (fun q => absurd q (by first | decide | (intro hh; cases hh) | simp))
      refine gIconst K165 (0 : Int32) L_361 rfl ?_
      refine gIstore K165 L_362 (Ls' := #[.val (.int d0), .val (.int d1), .val (.int d2), .val (.int d3), .val (.int d4), .val (.int eI), .val (.ref x101), .val (.int r0), .val (.int r1), .val (.int r2), .val (.int r3), .val (.int r4), .val (.ref x145), .val (.ref x157), .val (.int (1 : Int32)), .val (.int (Int32.ofNat (slen [r0, r1, r2, r3, r4] 1))), .val (.int (0 : Int32)), .val (.int (0 : Int32))]) rfl ?_
      have esl : slen [r0, r1, r2, r3, r4] 1 = 0 := by
        rw [slen_s, if_neg (show ¬ let_ ([r0, r1, r2, r3, r4].getD 0 0) from hl0)]
      rw [esl]
      refine gIload K165 L_364 (v := (0 : Int32)) rfl ?_
      refine gIload K165 L_366 (v := (0 : Int32)) rfl ?_
      refine gIcmp_ne K165 L_368 (fun q => absurd q (by first | decide | (intro hh; cases hh) | simp)) (fun q368 => ?_)
      refine gIconst K165 (1 : Int32) L_371 rfl ?_
      refine gGoto K165 L_372 ?_
      refine gRetI K165 hlk hret (by simp) L_376 rfl P166 (by decide) (by decide) ?_
      exact rfl
  · skip
    refine gIload K163 L_197 (v := (2 : Int32)) rfl ?_
    refine gIf_le K163 L_199 (fun q => absurd q (by first | decide | (intro hh; cases hh) | simp)) (fun q199 => ?_)
    refine gIload K163 L_202 (v := r0) rfl ?_
    refine gCallS K163 (W := 0) [(.int r0)] [] L_204 (hw _ (List.mem_of_getElem? (i := 66) rfl)) (hw _ (List.mem_of_getElem? (i := 67) rfl)) (hw _ (List.mem_of_getElem? (i := 3) rfl)) (hw _ (List.mem_of_getElem? (i := 68) rfl)) (Cal.ofN (W := 0) (c_letter l Z a0 hw h163 n0 K163.n0le r0) (hw _ (List.mem_of_getElem? (i := 68) rfl)) (hw _ (List.mem_of_getElem? (i := 3) rfl)) (by decide) (by decide)) (fun _ q => nomatch q) pd13 rfl rfl (Nat.le_of_eq rfl) rfl (by decide) (by decide) (by decide) (fun v167 T167 h167 K167 Q167 q167 => ?_)
    have E167 := Ext.of0 Q167
    have P168 := P164.ext E167
    cases q167
    by_cases hl0 : let_ r0
    · skip
      rw [if_pos hl0]
      refine gIf_eq K167 L_207 (fun q => absurd q (by first | decide | (intro hh; cases hh) | simp)) (fun q207 => ?_)
      refine gIconst K167 (1 : Int32) L_210 rfl ?_
      refine gGoto K167 L_211 ?_
      refine gIstore K167 L_215 (Ls' := #[.val (.int d0), .val (.int d1), .val (.int d2), .val (.int d3), .val (.int d4), .val (.int eI), .val (.ref x101), .val (.int r0), .val (.int r1), .val (.int r2), .val (.int r3), .val (.int r4), .val (.ref x145), .val (.ref x157), .val (.int (2 : Int32)), .val (.int (Int32.ofNat (slen [r0, r1, r2, r3, r4] 2))), .val (.int (1 : Int32)), .unset]) rfl ?_
      refine gIload K167 L_217 (v := (1 : Int32)) rfl ?_
      refine gIf_eq K167 L_219 (fun q => absurd q (by first | decide | (intro hh; cases hh) | simp)) (fun q219 => ?_)
      refine gIload K167 L_222 (v := (2 : Int32)) rfl ?_
      refine gIconst K167 (1 : Int32) L_224 rfl ?_
      refine gIcmp_le K167 L_225 (fun q => absurd q (by first | decide | (intro hh; cases hh) | simp)) (fun q225 => ?_)
      refine gIload K167 L_228 (v := r1) rfl ?_
      refine gBipush K167 (58 : Int32) L_230 rfl ?_
      refine gIcmp_ne K167 L_232 (fun q232 => ?_) (fun q232 => ?_)
      · skip
        refine gIload K167 L_241 (v := (1 : Int32)) rfl ?_
        refine gIf_eq K167 L_243 (fun q => absurd q (by first | decide | (intro hh; cases hh) | simp)) (fun q243 => ?_)
        refine gIload K167 L_246 (v := (2 : Int32)) rfl ?_
        refine gIconst K167 (2 : Int32) L_248 rfl ?_
        refine gIcmp_le K167 L_249 (fun q249 => ?_) (fun q => absurd q (by first | decide | (intro hh; cases hh) | simp))
        refine gIload K167 L_273 (v := (1 : Int32)) rfl ?_
        refine gIf_eq K167 L_275 (fun q => absurd q (by first | decide | (intro hh; cases hh) | simp)) (fun q275 => ?_)
        refine gIload K167 L_278 (v := (2 : Int32)) rfl ?_
        refine gIconst K167 (3 : Int32) L_280 rfl ?_
        refine gIcmp_le K167 L_281 (fun q281 => ?_) (fun q => absurd q (by first | decide | (intro hh; cases hh) | simp))
        refine gIload K167 L_313 (v := (1 : Int32)) rfl ?_
        refine gIf_eq K167 L_315 (fun q => absurd q (by first | decide | (intro hh; cases hh) | simp)) (fun q315 => ?_)
        refine gIload K167 L_318 (v := (2 : Int32)) rfl ?_
        refine gIconst K167 (4 : Int32) L_320 rfl ?_
        refine gIcmp_le K167 L_321 (fun q321 => ?_) (fun q => absurd q (by first | decide | (intro hh; cases hh) | simp))
        refine gIconst K167 (0 : Int32) L_361 rfl ?_
        refine gIstore K167 L_362 (Ls' := #[.val (.int d0), .val (.int d1), .val (.int d2), .val (.int d3), .val (.int d4), .val (.int eI), .val (.ref x101), .val (.int r0), .val (.int r1), .val (.int r2), .val (.int r3), .val (.int r4), .val (.ref x145), .val (.ref x157), .val (.int (2 : Int32)), .val (.int (Int32.ofNat (slen [r0, r1, r2, r3, r4] 2))), .val (.int (1 : Int32)), .val (.int (0 : Int32))]) rfl ?_
        have esl : slen [r0, r1, r2, r3, r4] 2 = 0 := by
          rw [slen_s, if_pos (show let_ ([r0, r1, r2, r3, r4].getD 0 0) from hl0)]
          rw [scl_s, if_neg (show ¬ [r0, r1, r2, r3, r4].getD 1 0 = 58 from q232)]
          split <;> rfl
        rw [esl]
        refine gIload K167 L_364 (v := (0 : Int32)) rfl ?_
        refine gIload K167 L_366 (v := (0 : Int32)) rfl ?_
        refine gIcmp_ne K167 L_368 (fun q => absurd q (by first | decide | (intro hh; cases hh) | simp)) (fun q368 => ?_)
        refine gIconst K167 (1 : Int32) L_371 rfl ?_
        refine gGoto K167 L_372 ?_
        refine gRetI K167 hlk hret (by simp) L_376 rfl P168 (by decide) (by decide) ?_
        exact rfl
      · skip
        refine gIconst K167 (2 : Int32) L_235 rfl ?_
        refine gIstore K167 L_236 (Ls' := #[.val (.int d0), .val (.int d1), .val (.int d2), .val (.int d3), .val (.int d4), .val (.int eI), .val (.ref x101), .val (.int r0), .val (.int r1), .val (.int r2), .val (.int r3), .val (.int r4), .val (.ref x145), .val (.ref x157), .val (.int (2 : Int32)), .val (.int (Int32.ofNat (slen [r0, r1, r2, r3, r4] 2))), .val (.int (1 : Int32)), .val (.int (2 : Int32))]) rfl ?_
        refine gGoto K167 L_238 ?_
        have esl : slen [r0, r1, r2, r3, r4] 2 = 2 := by
          rw [slen_s, if_pos (show let_ ([r0, r1, r2, r3, r4].getD 0 0) from hl0)]
          rw [scl_s, if_pos (show [r0, r1, r2, r3, r4].getD 1 0 = 58 from q232)]
        rw [esl]
        refine gIload K167 L_364 (v := (2 : Int32)) rfl ?_
        refine gIload K167 L_366 (v := (2 : Int32)) rfl ?_
        refine gIcmp_ne K167 L_368 (fun q => absurd q (by first | decide | (intro hh; cases hh) | simp)) (fun q368 => ?_)
        refine gIconst K167 (1 : Int32) L_371 rfl ?_
        refine gGoto K167 L_372 ?_
        refine gRetI K167 hlk hret (by simp) L_376 rfl P168 (by decide) (by decide) ?_
        exact rfl
    · skip
      rw [if_neg hl0]
      refine gIf_eq K167 L_207 (fun q207 => ?_) (fun q => absurd q (by first | decide | (intro hh; cases hh) | simp))
      refine gIconst K167 (0 : Int32) L_214 rfl ?_
      refine gIstore K167 L_215 (Ls' := #[.val (.int d0), .val (.int d1), .val (.int d2), .val (.int d3), .val (.int d4), .val (.int eI), .val (.ref x101), .val (.int r0), .val (.int r1), .val (.int r2), .val (.int r3), .val (.int r4), .val (.ref x145), .val (.ref x157), .val (.int (2 : Int32)), .val (.int (Int32.ofNat (slen [r0, r1, r2, r3, r4] 2))), .val (.int (0 : Int32)), .unset]) rfl ?_
      refine gIload K167 L_217 (v := (0 : Int32)) rfl ?_
      refine gIf_eq K167 L_219 (fun q219 => ?_) (fun q => absurd q (by first | decide | (intro hh; cases hh) | simp))
      refine gIload K167 L_241 (v := (0 : Int32)) rfl ?_
      refine gIf_eq K167 L_243 (fun q243 => ?_) (fun q => absurd q (by first | decide | (intro hh; cases hh) | simp))
      refine gIload K167 L_273 (v := (0 : Int32)) rfl ?_
      refine gIf_eq K167 L_275 (fun q275 => ?_) (fun q => absurd q (by first | decide | (intro hh; cases hh) | simp))
      refine gIload K167 L_313 (v := (0 : Int32)) rfl ?_
      refine gIf_eq K167 L_315 (fun q315 => ?_) (fun q => absurd q (by first | decide | (intro hh; cases hh) | simp))
      refine gIconst K167 (0 : Int32) L_361 rfl ?_
      refine gIstore K167 L_362 (Ls' := #[.val (.int d0), .val (.int d1), .val (.int d2), .val (.int d3), .val (.int d4), .val (.int eI), .val (.ref x101), .val (.int r0), .val (.int r1), .val (.int r2), .val (.int r3), .val (.int r4), .val (.ref x145), .val (.ref x157), .val (.int (2 : Int32)), .val (.int (Int32.ofNat (slen [r0, r1, r2, r3, r4] 2))), .val (.int (0 : Int32)), .val (.int (0 : Int32))]) rfl ?_
      have esl : slen [r0, r1, r2, r3, r4] 2 = 0 := by
        rw [slen_s, if_neg (show ¬ let_ ([r0, r1, r2, r3, r4].getD 0 0) from hl0)]
      rw [esl]
      refine gIload K167 L_364 (v := (0 : Int32)) rfl ?_
      refine gIload K167 L_366 (v := (0 : Int32)) rfl ?_
      refine gIcmp_ne K167 L_368 (fun q => absurd q (by first | decide | (intro hh; cases hh) | simp)) (fun q368 => ?_)
      refine gIconst K167 (1 : Int32) L_371 rfl ?_
      refine gGoto K167 L_372 ?_
      refine gRetI K167 hlk hret (by simp) L_376 rfl P168 (by decide) (by decide) ?_
      exact rfl
  · skip
    refine gIload K163 L_197 (v := (3 : Int32)) rfl ?_
    refine gIf_le K163 L_199 (fun q => absurd q (by first | decide | (intro hh; cases hh) | simp)) (fun q199 => ?_)
    refine gIload K163 L_202 (v := r0) rfl ?_
    refine gCallS K163 (W := 0) [(.int r0)] [] L_204 (hw _ (List.mem_of_getElem? (i := 66) rfl)) (hw _ (List.mem_of_getElem? (i := 67) rfl)) (hw _ (List.mem_of_getElem? (i := 3) rfl)) (hw _ (List.mem_of_getElem? (i := 68) rfl)) (Cal.ofN (W := 0) (c_letter l Z a0 hw h163 n0 K163.n0le r0) (hw _ (List.mem_of_getElem? (i := 68) rfl)) (hw _ (List.mem_of_getElem? (i := 3) rfl)) (by decide) (by decide)) (fun _ q => nomatch q) pd13 rfl rfl (Nat.le_of_eq rfl) rfl (by decide) (by decide) (by decide) (fun v169 T169 h169 K169 Q169 q169 => ?_)
    have E169 := Ext.of0 Q169
    have P170 := P164.ext E169
    cases q169
    by_cases hl0 : let_ r0
    · skip
      rw [if_pos hl0]
      refine gIf_eq K169 L_207 (fun q => absurd q (by first | decide | (intro hh; cases hh) | simp)) (fun q207 => ?_)
      refine gIconst K169 (1 : Int32) L_210 rfl ?_
      refine gGoto K169 L_211 ?_
      refine gIstore K169 L_215 (Ls' := #[.val (.int d0), .val (.int d1), .val (.int d2), .val (.int d3), .val (.int d4), .val (.int eI), .val (.ref x101), .val (.int r0), .val (.int r1), .val (.int r2), .val (.int r3), .val (.int r4), .val (.ref x145), .val (.ref x157), .val (.int (3 : Int32)), .val (.int (Int32.ofNat (slen [r0, r1, r2, r3, r4] 3))), .val (.int (1 : Int32)), .unset]) rfl ?_
      refine gIload K169 L_217 (v := (1 : Int32)) rfl ?_
      refine gIf_eq K169 L_219 (fun q => absurd q (by first | decide | (intro hh; cases hh) | simp)) (fun q219 => ?_)
      refine gIload K169 L_222 (v := (3 : Int32)) rfl ?_
      refine gIconst K169 (1 : Int32) L_224 rfl ?_
      refine gIcmp_le K169 L_225 (fun q => absurd q (by first | decide | (intro hh; cases hh) | simp)) (fun q225 => ?_)
      refine gIload K169 L_228 (v := r1) rfl ?_
      refine gBipush K169 (58 : Int32) L_230 rfl ?_
      refine gIcmp_ne K169 L_232 (fun q232 => ?_) (fun q232 => ?_)
      · skip
        refine gIload K169 L_241 (v := (1 : Int32)) rfl ?_
        refine gIf_eq K169 L_243 (fun q => absurd q (by first | decide | (intro hh; cases hh) | simp)) (fun q243 => ?_)
        refine gIload K169 L_246 (v := (3 : Int32)) rfl ?_
        refine gIconst K169 (2 : Int32) L_248 rfl ?_
        refine gIcmp_le K169 L_249 (fun q => absurd q (by first | decide | (intro hh; cases hh) | simp)) (fun q249 => ?_)
        refine gIload K169 L_252 (v := r1) rfl ?_
        refine gCallS K169 (W := 0) [(.int r1)] [] L_254 (hw _ (List.mem_of_getElem? (i := 98) rfl)) (hw _ (List.mem_of_getElem? (i := 99) rfl)) (hw _ (List.mem_of_getElem? (i := 3) rfl)) (hw _ (List.mem_of_getElem? (i := 100) rfl)) (Cal.ofN (W := 0) (c_sc l Z a0 hw h169 n0 K169.n0le r1) (hw _ (List.mem_of_getElem? (i := 100) rfl)) (hw _ (List.mem_of_getElem? (i := 3) rfl)) (by decide) (by decide)) (fun _ q => nomatch q) pd13 rfl rfl (Nat.le_of_eq rfl) rfl (by decide) (by decide) (by decide) (fun v171 T171 h171 K171 Q171 q171 => ?_)
        have E171 := Ext.of0 Q171
        have P172 := P170.ext E171
        cases q171
        by_cases hs_r1 : scp r1
        · skip
          rw [if_pos hs_r1]
          refine gIf_eq K171 L_257 (fun q => absurd q (by first | decide | (intro hh; cases hh) | simp)) (fun q257 => ?_)
          refine gIload K171 L_260 (v := r2) rfl ?_
          refine gBipush K171 (58 : Int32) L_262 rfl ?_
          refine gIcmp_ne K171 L_264 (fun q264 => ?_) (fun q264 => ?_)
          · skip
            refine gIload K171 L_273 (v := (1 : Int32)) rfl ?_
            refine gIf_eq K171 L_275 (fun q => absurd q (by first | decide | (intro hh; cases hh) | simp)) (fun q275 => ?_)
            refine gIload K171 L_278 (v := (3 : Int32)) rfl ?_
            refine gIconst K171 (3 : Int32) L_280 rfl ?_
            refine gIcmp_le K171 L_281 (fun q281 => ?_) (fun q => absurd q (by first | decide | (intro hh; cases hh) | simp))
            refine gIload K171 L_313 (v := (1 : Int32)) rfl ?_
            refine gIf_eq K171 L_315 (fun q => absurd q (by first | decide | (intro hh; cases hh) | simp)) (fun q315 => ?_)
            refine gIload K171 L_318 (v := (3 : Int32)) rfl ?_
            refine gIconst K171 (4 : Int32) L_320 rfl ?_
            refine gIcmp_le K171 L_321 (fun q321 => ?_) (fun q => absurd q (by first | decide | (intro hh; cases hh) | simp))
            refine gIconst K171 (0 : Int32) L_361 rfl ?_
            refine gIstore K171 L_362 (Ls' := #[.val (.int d0), .val (.int d1), .val (.int d2), .val (.int d3), .val (.int d4), .val (.int eI), .val (.ref x101), .val (.int r0), .val (.int r1), .val (.int r2), .val (.int r3), .val (.int r4), .val (.ref x145), .val (.ref x157), .val (.int (3 : Int32)), .val (.int (Int32.ofNat (slen [r0, r1, r2, r3, r4] 3))), .val (.int (1 : Int32)), .val (.int (0 : Int32))]) rfl ?_
            have esl : slen [r0, r1, r2, r3, r4] 3 = 0 := by
              rw [slen_s, if_pos (show let_ ([r0, r1, r2, r3, r4].getD 0 0) from hl0)]
              rw [scl_s, if_neg (show ¬ [r0, r1, r2, r3, r4].getD 1 0 = 58 from q232)]
              rw [if_pos (show scp ([r0, r1, r2, r3, r4].getD 1 0) from hs_r1)]
              rw [scl_s, if_neg (show ¬ [r0, r1, r2, r3, r4].getD 2 0 = 58 from q264)]
              split <;> rfl
            rw [esl]
            refine gIload K171 L_364 (v := (0 : Int32)) rfl ?_
            refine gIload K171 L_366 (v := (0 : Int32)) rfl ?_
            refine gIcmp_ne K171 L_368 (fun q => absurd q (by first | decide | (intro hh; cases hh) | simp)) (fun q368 => ?_)
            refine gIconst K171 (1 : Int32) L_371 rfl ?_
            refine gGoto K171 L_372 ?_
            refine gRetI K171 hlk hret (by simp) L_376 rfl P172 (by decide) (by decide) ?_
            exact rfl
          · skip
            refine gIconst K171 (3 : Int32) L_267 rfl ?_
            refine gIstore K171 L_268 (Ls' := #[.val (.int d0), .val (.int d1), .val (.int d2), .val (.int d3), .val (.int d4), .val (.int eI), .val (.ref x101), .val (.int r0), .val (.int r1), .val (.int r2), .val (.int r3), .val (.int r4), .val (.ref x145), .val (.ref x157), .val (.int (3 : Int32)), .val (.int (Int32.ofNat (slen [r0, r1, r2, r3, r4] 3))), .val (.int (1 : Int32)), .val (.int (3 : Int32))]) rfl ?_
            refine gGoto K171 L_270 ?_
            have esl : slen [r0, r1, r2, r3, r4] 3 = 3 := by
              rw [slen_s, if_pos (show let_ ([r0, r1, r2, r3, r4].getD 0 0) from hl0)]
              rw [scl_s, if_neg (show ¬ [r0, r1, r2, r3, r4].getD 1 0 = 58 from q232)]
              rw [if_pos (show scp ([r0, r1, r2, r3, r4].getD 1 0) from hs_r1)]
              rw [scl_s, if_pos (show [r0, r1, r2, r3, r4].getD 2 0 = 58 from q264)]
            rw [esl]
            refine gIload K171 L_364 (v := (3 : Int32)) rfl ?_
            refine gIload K171 L_366 (v := (3 : Int32)) rfl ?_
            refine gIcmp_ne K171 L_368 (fun q => absurd q (by first | decide | (intro hh; cases hh) | simp)) (fun q368 => ?_)
            refine gIconst K171 (1 : Int32) L_371 rfl ?_
            refine gGoto K171 L_372 ?_
            refine gRetI K171 hlk hret (by simp) L_376 rfl P172 (by decide) (by decide) ?_
            exact rfl
        · skip
          rw [if_neg hs_r1]
          refine gIf_eq K171 L_257 (fun q257 => ?_) (fun q => absurd q (by first | decide | (intro hh; cases hh) | simp))
          refine gIload K171 L_273 (v := (1 : Int32)) rfl ?_
          refine gIf_eq K171 L_275 (fun q => absurd q (by first | decide | (intro hh; cases hh) | simp)) (fun q275 => ?_)
          refine gIload K171 L_278 (v := (3 : Int32)) rfl ?_
          refine gIconst K171 (3 : Int32) L_280 rfl ?_
          refine gIcmp_le K171 L_281 (fun q281 => ?_) (fun q => absurd q (by first | decide | (intro hh; cases hh) | simp))
          refine gIload K171 L_313 (v := (1 : Int32)) rfl ?_
          refine gIf_eq K171 L_315 (fun q => absurd q (by first | decide | (intro hh; cases hh) | simp)) (fun q315 => ?_)
          refine gIload K171 L_318 (v := (3 : Int32)) rfl ?_
          refine gIconst K171 (4 : Int32) L_320 rfl ?_
          refine gIcmp_le K171 L_321 (fun q321 => ?_) (fun q => absurd q (by first | decide | (intro hh; cases hh) | simp))
          refine gIconst K171 (0 : Int32) L_361 rfl ?_
          refine gIstore K171 L_362 (Ls' := #[.val (.int d0), .val (.int d1), .val (.int d2), .val (.int d3), .val (.int d4), .val (.int eI), .val (.ref x101), .val (.int r0), .val (.int r1), .val (.int r2), .val (.int r3), .val (.int r4), .val (.ref x145), .val (.ref x157), .val (.int (3 : Int32)), .val (.int (Int32.ofNat (slen [r0, r1, r2, r3, r4] 3))), .val (.int (1 : Int32)), .val (.int (0 : Int32))]) rfl ?_
          have esl : slen [r0, r1, r2, r3, r4] 3 = 0 := by
            rw [slen_s, if_pos (show let_ ([r0, r1, r2, r3, r4].getD 0 0) from hl0)]
            rw [scl_s, if_neg (show ¬ [r0, r1, r2, r3, r4].getD 1 0 = 58 from q232)]
            rw [if_neg (show ¬ scp ([r0, r1, r2, r3, r4].getD 1 0) from hs_r1)]
          rw [esl]
          refine gIload K171 L_364 (v := (0 : Int32)) rfl ?_
          refine gIload K171 L_366 (v := (0 : Int32)) rfl ?_
          refine gIcmp_ne K171 L_368 (fun q => absurd q (by first | decide | (intro hh; cases hh) | simp)) (fun q368 => ?_)
          refine gIconst K171 (1 : Int32) L_371 rfl ?_
          refine gGoto K171 L_372 ?_
          refine gRetI K171 hlk hret (by simp) L_376 rfl P172 (by decide) (by decide) ?_
          exact rfl
      · skip
        refine gIconst K169 (2 : Int32) L_235 rfl ?_
        refine gIstore K169 L_236 (Ls' := #[.val (.int d0), .val (.int d1), .val (.int d2), .val (.int d3), .val (.int d4), .val (.int eI), .val (.ref x101), .val (.int r0), .val (.int r1), .val (.int r2), .val (.int r3), .val (.int r4), .val (.ref x145), .val (.ref x157), .val (.int (3 : Int32)), .val (.int (Int32.ofNat (slen [r0, r1, r2, r3, r4] 3))), .val (.int (1 : Int32)), .val (.int (2 : Int32))]) rfl ?_
        refine gGoto K169 L_238 ?_
        have esl : slen [r0, r1, r2, r3, r4] 3 = 2 := by
          rw [slen_s, if_pos (show let_ ([r0, r1, r2, r3, r4].getD 0 0) from hl0)]
          rw [scl_s, if_pos (show [r0, r1, r2, r3, r4].getD 1 0 = 58 from q232)]
        rw [esl]
        refine gIload K169 L_364 (v := (2 : Int32)) rfl ?_
        refine gIload K169 L_366 (v := (2 : Int32)) rfl ?_
        refine gIcmp_ne K169 L_368 (fun q => absurd q (by first | decide | (intro hh; cases hh) | simp)) (fun q368 => ?_)
        refine gIconst K169 (1 : Int32) L_371 rfl ?_
        refine gGoto K169 L_372 ?_
        refine gRetI K169 hlk hret (by simp) L_376 rfl P170 (by decide) (by decide) ?_
        exact rfl
    · skip
      rw [if_neg hl0]
      refine gIf_eq K169 L_207 (fun q207 => ?_) (fun q => absurd q (by first | decide | (intro hh; cases hh) | simp))
      refine gIconst K169 (0 : Int32) L_214 rfl ?_
      refine gIstore K169 L_215 (Ls' := #[.val (.int d0), .val (.int d1), .val (.int d2), .val (.int d3), .val (.int d4), .val (.int eI), .val (.ref x101), .val (.int r0), .val (.int r1), .val (.int r2), .val (.int r3), .val (.int r4), .val (.ref x145), .val (.ref x157), .val (.int (3 : Int32)), .val (.int (Int32.ofNat (slen [r0, r1, r2, r3, r4] 3))), .val (.int (0 : Int32)), .unset]) rfl ?_
      refine gIload K169 L_217 (v := (0 : Int32)) rfl ?_
      refine gIf_eq K169 L_219 (fun q219 => ?_) (fun q => absurd q (by first | decide | (intro hh; cases hh) | simp))
      refine gIload K169 L_241 (v := (0 : Int32)) rfl ?_
      refine gIf_eq K169 L_243 (fun q243 => ?_) (fun q => absurd q (by first | decide | (intro hh; cases hh) | simp))
      refine gIload K169 L_273 (v := (0 : Int32)) rfl ?_
      refine gIf_eq K169 L_275 (fun q275 => ?_) (fun q => absurd q (by first | decide | (intro hh; cases hh) | simp))
      refine gIload K169 L_313 (v := (0 : Int32)) rfl ?_
      refine gIf_eq K169 L_315 (fun q315 => ?_) (fun q => absurd q (by first | decide | (intro hh; cases hh) | simp))
      refine gIconst K169 (0 : Int32) L_361 rfl ?_
      refine gIstore K169 L_362 (Ls' := #[.val (.int d0), .val (.int d1), .val (.int d2), .val (.int d3), .val (.int d4), .val (.int eI), .val (.ref x101), .val (.int r0), .val (.int r1), .val (.int r2), .val (.int r3), .val (.int r4), .val (.ref x145), .val (.ref x157), .val (.int (3 : Int32)), .val (.int (Int32.ofNat (slen [r0, r1, r2, r3, r4] 3))), .val (.int (0 : Int32)), .val (.int (0 : Int32))]) rfl ?_
      have esl : slen [r0, r1, r2, r3, r4] 3 = 0 := by
        rw [slen_s, if_neg (show ¬ let_ ([r0, r1, r2, r3, r4].getD 0 0) from hl0)]
      rw [esl]
      refine gIload K169 L_364 (v := (0 : Int32)) rfl ?_
      refine gIload K169 L_366 (v := (0 : Int32)) rfl ?_
      refine gIcmp_ne K169 L_368 (fun q => absurd q (by first | decide | (intro hh; cases hh) | simp)) (fun q368 => ?_)
      refine gIconst K169 (1 : Int32) L_371 rfl ?_
      refine gGoto K169 L_372 ?_
      refine gRetI K169 hlk hret (by simp) L_376 rfl P170 (by decide) (by decide) ?_
      exact rfl
  · skip
    refine gIload K163 L_197 (v := (4 : Int32)) rfl ?_
    refine gIf_le K163 L_199 (fun q => absurd q (by first | decide | (intro hh; cases hh) | simp)) (fun q199 => ?_)
    refine gIload K163 L_202 (v := r0) rfl ?_
    refine gCallS K163 (W := 0) [(.int r0)] [] L_204 (hw _ (List.mem_of_getElem? (i := 66) rfl)) (hw _ (List.mem_of_getElem? (i := 67) rfl)) (hw _ (List.mem_of_getElem? (i := 3) rfl)) (hw _ (List.mem_of_getElem? (i := 68) rfl)) (Cal.ofN (W := 0) (c_letter l Z a0 hw h163 n0 K163.n0le r0) (hw _ (List.mem_of_getElem? (i := 68) rfl)) (hw _ (List.mem_of_getElem? (i := 3) rfl)) (by decide) (by decide)) (fun _ q => nomatch q) pd13 rfl rfl (Nat.le_of_eq rfl) rfl (by decide) (by decide) (by decide) (fun v173 T173 h173 K173 Q173 q173 => ?_)
    have E173 := Ext.of0 Q173
    have P174 := P164.ext E173
    cases q173
    by_cases hl0 : let_ r0
    · skip
      rw [if_pos hl0]
      refine gIf_eq K173 L_207 (fun q => absurd q (by first | decide | (intro hh; cases hh) | simp)) (fun q207 => ?_)
      refine gIconst K173 (1 : Int32) L_210 rfl ?_
      refine gGoto K173 L_211 ?_
      refine gIstore K173 L_215 (Ls' := #[.val (.int d0), .val (.int d1), .val (.int d2), .val (.int d3), .val (.int d4), .val (.int eI), .val (.ref x101), .val (.int r0), .val (.int r1), .val (.int r2), .val (.int r3), .val (.int r4), .val (.ref x145), .val (.ref x157), .val (.int (4 : Int32)), .val (.int (Int32.ofNat (slen [r0, r1, r2, r3, r4] 4))), .val (.int (1 : Int32)), .unset]) rfl ?_
      refine gIload K173 L_217 (v := (1 : Int32)) rfl ?_
      refine gIf_eq K173 L_219 (fun q => absurd q (by first | decide | (intro hh; cases hh) | simp)) (fun q219 => ?_)
      refine gIload K173 L_222 (v := (4 : Int32)) rfl ?_
      refine gIconst K173 (1 : Int32) L_224 rfl ?_
      refine gIcmp_le K173 L_225 (fun q => absurd q (by first | decide | (intro hh; cases hh) | simp)) (fun q225 => ?_)
      refine gIload K173 L_228 (v := r1) rfl ?_
      refine gBipush K173 (58 : Int32) L_230 rfl ?_
      refine gIcmp_ne K173 L_232 (fun q232 => ?_) (fun q232 => ?_)
      · skip
        refine gIload K173 L_241 (v := (1 : Int32)) rfl ?_
        refine gIf_eq K173 L_243 (fun q => absurd q (by first | decide | (intro hh; cases hh) | simp)) (fun q243 => ?_)
        refine gIload K173 L_246 (v := (4 : Int32)) rfl ?_
        refine gIconst K173 (2 : Int32) L_248 rfl ?_
        refine gIcmp_le K173 L_249 (fun q => absurd q (by first | decide | (intro hh; cases hh) | simp)) (fun q249 => ?_)
        refine gIload K173 L_252 (v := r1) rfl ?_
        refine gCallS K173 (W := 0) [(.int r1)] [] L_254 (hw _ (List.mem_of_getElem? (i := 98) rfl)) (hw _ (List.mem_of_getElem? (i := 99) rfl)) (hw _ (List.mem_of_getElem? (i := 3) rfl)) (hw _ (List.mem_of_getElem? (i := 100) rfl)) (Cal.ofN (W := 0) (c_sc l Z a0 hw h173 n0 K173.n0le r1) (hw _ (List.mem_of_getElem? (i := 100) rfl)) (hw _ (List.mem_of_getElem? (i := 3) rfl)) (by decide) (by decide)) (fun _ q => nomatch q) pd13 rfl rfl (Nat.le_of_eq rfl) rfl (by decide) (by decide) (by decide) (fun v175 T175 h175 K175 Q175 q175 => ?_)
        have E175 := Ext.of0 Q175
        have P176 := P174.ext E175
        cases q175
        by_cases hs_r1 : scp r1
        · skip
          rw [if_pos hs_r1]
          refine gIf_eq K175 L_257 (fun q => absurd q (by first | decide | (intro hh; cases hh) | simp)) (fun q257 => ?_)
          refine gIload K175 L_260 (v := r2) rfl ?_
          refine gBipush K175 (58 : Int32) L_262 rfl ?_
          refine gIcmp_ne K175 L_264 (fun q264 => ?_) (fun q264 => ?_)
          · skip
            refine gIload K175 L_273 (v := (1 : Int32)) rfl ?_
            refine gIf_eq K175 L_275 (fun q => absurd q (by first | decide | (intro hh; cases hh) | simp)) (fun q275 => ?_)
            refine gIload K175 L_278 (v := (4 : Int32)) rfl ?_
            refine gIconst K175 (3 : Int32) L_280 rfl ?_
            refine gIcmp_le K175 L_281 (fun q => absurd q (by first | decide | (intro hh; cases hh) | simp)) (fun q281 => ?_)
            refine gIload K175 L_284 (v := r1) rfl ?_
            refine gCallS K175 (W := 0) [(.int r1)] [] L_286 (hw _ (List.mem_of_getElem? (i := 98) rfl)) (hw _ (List.mem_of_getElem? (i := 99) rfl)) (hw _ (List.mem_of_getElem? (i := 3) rfl)) (hw _ (List.mem_of_getElem? (i := 100) rfl)) (Cal.ofN (W := 0) (c_sc l Z a0 hw h175 n0 K175.n0le r1) (hw _ (List.mem_of_getElem? (i := 100) rfl)) (hw _ (List.mem_of_getElem? (i := 3) rfl)) (by decide) (by decide)) (fun _ q => nomatch q) pd13 rfl rfl (Nat.le_of_eq rfl) rfl (by decide) (by decide) (by decide) (fun v177 T177 h177 K177 Q177 q177 => ?_)
            have E177 := Ext.of0 Q177
            have P178 := P176.ext E177
            cases q177
            rw [if_pos hs_r1]
            refine gIf_eq K177 L_289 (fun q => absurd q (by first | decide | (intro hh; cases hh) | simp)) (fun q289 => ?_)
            refine gIload K177 L_292 (v := r2) rfl ?_
            refine gCallS K177 (W := 0) [(.int r2)] [] L_294 (hw _ (List.mem_of_getElem? (i := 98) rfl)) (hw _ (List.mem_of_getElem? (i := 99) rfl)) (hw _ (List.mem_of_getElem? (i := 3) rfl)) (hw _ (List.mem_of_getElem? (i := 100) rfl)) (Cal.ofN (W := 0) (c_sc l Z a0 hw h177 n0 K177.n0le r2) (hw _ (List.mem_of_getElem? (i := 100) rfl)) (hw _ (List.mem_of_getElem? (i := 3) rfl)) (by decide) (by decide)) (fun _ q => nomatch q) pd13 rfl rfl (Nat.le_of_eq rfl) rfl (by decide) (by decide) (by decide) (fun v179 T179 h179 K179 Q179 q179 => ?_)
            have E179 := Ext.of0 Q179
            have P180 := P178.ext E179
            cases q179
            by_cases hs_r2 : scp r2
            · skip
              rw [if_pos hs_r2]
              refine gIf_eq K179 L_297 (fun q => absurd q (by first | decide | (intro hh; cases hh) | simp)) (fun q297 => ?_)
              refine gIload K179 L_300 (v := r3) rfl ?_
              refine gBipush K179 (58 : Int32) L_302 rfl ?_
              refine gIcmp_ne K179 L_304 (fun q304 => ?_) (fun q304 => ?_)
              · skip
                refine gIload K179 L_313 (v := (1 : Int32)) rfl ?_
                refine gIf_eq K179 L_315 (fun q => absurd q (by first | decide | (intro hh; cases hh) | simp)) (fun q315 => ?_)
                refine gIload K179 L_318 (v := (4 : Int32)) rfl ?_
                refine gIconst K179 (4 : Int32) L_320 rfl ?_
                refine gIcmp_le K179 L_321 (fun q321 => ?_) (fun q => absurd q (by first | decide | (intro hh; cases hh) | simp))
                refine gIconst K179 (0 : Int32) L_361 rfl ?_
                refine gIstore K179 L_362 (Ls' := #[.val (.int d0), .val (.int d1), .val (.int d2), .val (.int d3), .val (.int d4), .val (.int eI), .val (.ref x101), .val (.int r0), .val (.int r1), .val (.int r2), .val (.int r3), .val (.int r4), .val (.ref x145), .val (.ref x157), .val (.int (4 : Int32)), .val (.int (Int32.ofNat (slen [r0, r1, r2, r3, r4] 4))), .val (.int (1 : Int32)), .val (.int (0 : Int32))]) rfl ?_
                have esl : slen [r0, r1, r2, r3, r4] 4 = 0 := by
                  rw [slen_s, if_pos (show let_ ([r0, r1, r2, r3, r4].getD 0 0) from hl0)]
                  rw [scl_s, if_neg (show ¬ [r0, r1, r2, r3, r4].getD 1 0 = 58 from q232)]
                  rw [if_pos (show scp ([r0, r1, r2, r3, r4].getD 1 0) from hs_r1)]
                  rw [scl_s, if_neg (show ¬ [r0, r1, r2, r3, r4].getD 2 0 = 58 from q264)]
                  rw [if_pos (show scp ([r0, r1, r2, r3, r4].getD 2 0) from hs_r2)]
                  rw [scl_s, if_neg (show ¬ [r0, r1, r2, r3, r4].getD 3 0 = 58 from q304)]
                  split <;> rfl
                rw [esl]
                refine gIload K179 L_364 (v := (0 : Int32)) rfl ?_
                refine gIload K179 L_366 (v := (0 : Int32)) rfl ?_
                refine gIcmp_ne K179 L_368 (fun q => absurd q (by first | decide | (intro hh; cases hh) | simp)) (fun q368 => ?_)
                refine gIconst K179 (1 : Int32) L_371 rfl ?_
                refine gGoto K179 L_372 ?_
                refine gRetI K179 hlk hret (by simp) L_376 rfl P180 (by decide) (by decide) ?_
                exact rfl
              · skip
                refine gIconst K179 (4 : Int32) L_307 rfl ?_
                refine gIstore K179 L_308 (Ls' := #[.val (.int d0), .val (.int d1), .val (.int d2), .val (.int d3), .val (.int d4), .val (.int eI), .val (.ref x101), .val (.int r0), .val (.int r1), .val (.int r2), .val (.int r3), .val (.int r4), .val (.ref x145), .val (.ref x157), .val (.int (4 : Int32)), .val (.int (Int32.ofNat (slen [r0, r1, r2, r3, r4] 4))), .val (.int (1 : Int32)), .val (.int (4 : Int32))]) rfl ?_
                refine gGoto K179 L_310 ?_
                have esl : slen [r0, r1, r2, r3, r4] 4 = 4 := by
                  rw [slen_s, if_pos (show let_ ([r0, r1, r2, r3, r4].getD 0 0) from hl0)]
                  rw [scl_s, if_neg (show ¬ [r0, r1, r2, r3, r4].getD 1 0 = 58 from q232)]
                  rw [if_pos (show scp ([r0, r1, r2, r3, r4].getD 1 0) from hs_r1)]
                  rw [scl_s, if_neg (show ¬ [r0, r1, r2, r3, r4].getD 2 0 = 58 from q264)]
                  rw [if_pos (show scp ([r0, r1, r2, r3, r4].getD 2 0) from hs_r2)]
                  rw [scl_s, if_pos (show [r0, r1, r2, r3, r4].getD 3 0 = 58 from q304)]
                rw [esl]
                refine gIload K179 L_364 (v := (4 : Int32)) rfl ?_
                refine gIload K179 L_366 (v := (4 : Int32)) rfl ?_
                refine gIcmp_ne K179 L_368 (fun q => absurd q (by first | decide | (intro hh; cases hh) | simp)) (fun q368 => ?_)
                refine gIconst K179 (1 : Int32) L_371 rfl ?_
                refine gGoto K179 L_372 ?_
                refine gRetI K179 hlk hret (by simp) L_376 rfl P180 (by decide) (by decide) ?_
                exact rfl
            · skip
              rw [if_neg hs_r2]
              refine gIf_eq K179 L_297 (fun q297 => ?_) (fun q => absurd q (by first | decide | (intro hh; cases hh) | simp))
              refine gIload K179 L_313 (v := (1 : Int32)) rfl ?_
              refine gIf_eq K179 L_315 (fun q => absurd q (by first | decide | (intro hh; cases hh) | simp)) (fun q315 => ?_)
              refine gIload K179 L_318 (v := (4 : Int32)) rfl ?_
              refine gIconst K179 (4 : Int32) L_320 rfl ?_
              refine gIcmp_le K179 L_321 (fun q321 => ?_) (fun q => absurd q (by first | decide | (intro hh; cases hh) | simp))
              refine gIconst K179 (0 : Int32) L_361 rfl ?_
              refine gIstore K179 L_362 (Ls' := #[.val (.int d0), .val (.int d1), .val (.int d2), .val (.int d3), .val (.int d4), .val (.int eI), .val (.ref x101), .val (.int r0), .val (.int r1), .val (.int r2), .val (.int r3), .val (.int r4), .val (.ref x145), .val (.ref x157), .val (.int (4 : Int32)), .val (.int (Int32.ofNat (slen [r0, r1, r2, r3, r4] 4))), .val (.int (1 : Int32)), .val (.int (0 : Int32))]) rfl ?_
              have esl : slen [r0, r1, r2, r3, r4] 4 = 0 := by
                rw [slen_s, if_pos (show let_ ([r0, r1, r2, r3, r4].getD 0 0) from hl0)]
                rw [scl_s, if_neg (show ¬ [r0, r1, r2, r3, r4].getD 1 0 = 58 from q232)]
                rw [if_pos (show scp ([r0, r1, r2, r3, r4].getD 1 0) from hs_r1)]
                rw [scl_s, if_neg (show ¬ [r0, r1, r2, r3, r4].getD 2 0 = 58 from q264)]
                rw [if_neg (show ¬ scp ([r0, r1, r2, r3, r4].getD 2 0) from hs_r2)]
              rw [esl]
              refine gIload K179 L_364 (v := (0 : Int32)) rfl ?_
              refine gIload K179 L_366 (v := (0 : Int32)) rfl ?_
              refine gIcmp_ne K179 L_368 (fun q => absurd q (by first | decide | (intro hh; cases hh) | simp)) (fun q368 => ?_)
              refine gIconst K179 (1 : Int32) L_371 rfl ?_
              refine gGoto K179 L_372 ?_
              refine gRetI K179 hlk hret (by simp) L_376 rfl P180 (by decide) (by decide) ?_
              exact rfl
          · skip
            refine gIconst K175 (3 : Int32) L_267 rfl ?_
            refine gIstore K175 L_268 (Ls' := #[.val (.int d0), .val (.int d1), .val (.int d2), .val (.int d3), .val (.int d4), .val (.int eI), .val (.ref x101), .val (.int r0), .val (.int r1), .val (.int r2), .val (.int r3), .val (.int r4), .val (.ref x145), .val (.ref x157), .val (.int (4 : Int32)), .val (.int (Int32.ofNat (slen [r0, r1, r2, r3, r4] 4))), .val (.int (1 : Int32)), .val (.int (3 : Int32))]) rfl ?_
            refine gGoto K175 L_270 ?_
            have esl : slen [r0, r1, r2, r3, r4] 4 = 3 := by
              rw [slen_s, if_pos (show let_ ([r0, r1, r2, r3, r4].getD 0 0) from hl0)]
              rw [scl_s, if_neg (show ¬ [r0, r1, r2, r3, r4].getD 1 0 = 58 from q232)]
              rw [if_pos (show scp ([r0, r1, r2, r3, r4].getD 1 0) from hs_r1)]
              rw [scl_s, if_pos (show [r0, r1, r2, r3, r4].getD 2 0 = 58 from q264)]
            rw [esl]
            refine gIload K175 L_364 (v := (3 : Int32)) rfl ?_
            refine gIload K175 L_366 (v := (3 : Int32)) rfl ?_
            refine gIcmp_ne K175 L_368 (fun q => absurd q (by first | decide | (intro hh; cases hh) | simp)) (fun q368 => ?_)
            refine gIconst K175 (1 : Int32) L_371 rfl ?_
            refine gGoto K175 L_372 ?_
            refine gRetI K175 hlk hret (by simp) L_376 rfl P176 (by decide) (by decide) ?_
            exact rfl
        · skip
          rw [if_neg hs_r1]
          refine gIf_eq K175 L_257 (fun q257 => ?_) (fun q => absurd q (by first | decide | (intro hh; cases hh) | simp))
          refine gIload K175 L_273 (v := (1 : Int32)) rfl ?_
          refine gIf_eq K175 L_275 (fun q => absurd q (by first | decide | (intro hh; cases hh) | simp)) (fun q275 => ?_)
          refine gIload K175 L_278 (v := (4 : Int32)) rfl ?_
          refine gIconst K175 (3 : Int32) L_280 rfl ?_
          refine gIcmp_le K175 L_281 (fun q => absurd q (by first | decide | (intro hh; cases hh) | simp)) (fun q281 => ?_)
          refine gIload K175 L_284 (v := r1) rfl ?_
          refine gCallS K175 (W := 0) [(.int r1)] [] L_286 (hw _ (List.mem_of_getElem? (i := 98) rfl)) (hw _ (List.mem_of_getElem? (i := 99) rfl)) (hw _ (List.mem_of_getElem? (i := 3) rfl)) (hw _ (List.mem_of_getElem? (i := 100) rfl)) (Cal.ofN (W := 0) (c_sc l Z a0 hw h175 n0 K175.n0le r1) (hw _ (List.mem_of_getElem? (i := 100) rfl)) (hw _ (List.mem_of_getElem? (i := 3) rfl)) (by decide) (by decide)) (fun _ q => nomatch q) pd13 rfl rfl (Nat.le_of_eq rfl) rfl (by decide) (by decide) (by decide) (fun v181 T181 h181 K181 Q181 q181 => ?_)
          have E181 := Ext.of0 Q181
          have P182 := P176.ext E181
          cases q181
          rw [if_neg hs_r1]
          refine gIf_eq K181 L_289 (fun q289 => ?_) (fun q => absurd q (by first | decide | (intro hh; cases hh) | simp))
          refine gIload K181 L_313 (v := (1 : Int32)) rfl ?_
          refine gIf_eq K181 L_315 (fun q => absurd q (by first | decide | (intro hh; cases hh) | simp)) (fun q315 => ?_)
          refine gIload K181 L_318 (v := (4 : Int32)) rfl ?_
          refine gIconst K181 (4 : Int32) L_320 rfl ?_
          refine gIcmp_le K181 L_321 (fun q321 => ?_) (fun q => absurd q (by first | decide | (intro hh; cases hh) | simp))
          refine gIconst K181 (0 : Int32) L_361 rfl ?_
          refine gIstore K181 L_362 (Ls' := #[.val (.int d0), .val (.int d1), .val (.int d2), .val (.int d3), .val (.int d4), .val (.int eI), .val (.ref x101), .val (.int r0), .val (.int r1), .val (.int r2), .val (.int r3), .val (.int r4), .val (.ref x145), .val (.ref x157), .val (.int (4 : Int32)), .val (.int (Int32.ofNat (slen [r0, r1, r2, r3, r4] 4))), .val (.int (1 : Int32)), .val (.int (0 : Int32))]) rfl ?_
          have esl : slen [r0, r1, r2, r3, r4] 4 = 0 := by
            rw [slen_s, if_pos (show let_ ([r0, r1, r2, r3, r4].getD 0 0) from hl0)]
            rw [scl_s, if_neg (show ¬ [r0, r1, r2, r3, r4].getD 1 0 = 58 from q232)]
            rw [if_neg (show ¬ scp ([r0, r1, r2, r3, r4].getD 1 0) from hs_r1)]
          rw [esl]
          refine gIload K181 L_364 (v := (0 : Int32)) rfl ?_
          refine gIload K181 L_366 (v := (0 : Int32)) rfl ?_
          refine gIcmp_ne K181 L_368 (fun q => absurd q (by first | decide | (intro hh; cases hh) | simp)) (fun q368 => ?_)
          refine gIconst K181 (1 : Int32) L_371 rfl ?_
          refine gGoto K181 L_372 ?_
          refine gRetI K181 hlk hret (by simp) L_376 rfl P182 (by decide) (by decide) ?_
          exact rfl
      · skip
        refine gIconst K173 (2 : Int32) L_235 rfl ?_
        refine gIstore K173 L_236 (Ls' := #[.val (.int d0), .val (.int d1), .val (.int d2), .val (.int d3), .val (.int d4), .val (.int eI), .val (.ref x101), .val (.int r0), .val (.int r1), .val (.int r2), .val (.int r3), .val (.int r4), .val (.ref x145), .val (.ref x157), .val (.int (4 : Int32)), .val (.int (Int32.ofNat (slen [r0, r1, r2, r3, r4] 4))), .val (.int (1 : Int32)), .val (.int (2 : Int32))]) rfl ?_
        refine gGoto K173 L_238 ?_
        have esl : slen [r0, r1, r2, r3, r4] 4 = 2 := by
          rw [slen_s, if_pos (show let_ ([r0, r1, r2, r3, r4].getD 0 0) from hl0)]
          rw [scl_s, if_pos (show [r0, r1, r2, r3, r4].getD 1 0 = 58 from q232)]
        rw [esl]
        refine gIload K173 L_364 (v := (2 : Int32)) rfl ?_
        refine gIload K173 L_366 (v := (2 : Int32)) rfl ?_
        refine gIcmp_ne K173 L_368 (fun q => absurd q (by first | decide | (intro hh; cases hh) | simp)) (fun q368 => ?_)
        refine gIconst K173 (1 : Int32) L_371 rfl ?_
        refine gGoto K173 L_372 ?_
        refine gRetI K173 hlk hret (by simp) L_376 rfl P174 (by decide) (by decide) ?_
        exact rfl
    · skip
      rw [if_neg hl0]
      refine gIf_eq K173 L_207 (fun q207 => ?_) (fun q => absurd q (by first | decide | (intro hh; cases hh) | simp))
      refine gIconst K173 (0 : Int32) L_214 rfl ?_
      refine gIstore K173 L_215 (Ls' := #[.val (.int d0), .val (.int d1), .val (.int d2), .val (.int d3), .val (.int d4), .val (.int eI), .val (.ref x101), .val (.int r0), .val (.int r1), .val (.int r2), .val (.int r3), .val (.int r4), .val (.ref x145), .val (.ref x157), .val (.int (4 : Int32)), .val (.int (Int32.ofNat (slen [r0, r1, r2, r3, r4] 4))), .val (.int (0 : Int32)), .unset]) rfl ?_
      refine gIload K173 L_217 (v := (0 : Int32)) rfl ?_
      refine gIf_eq K173 L_219 (fun q219 => ?_) (fun q => absurd q (by first | decide | (intro hh; cases hh) | simp))
      refine gIload K173 L_241 (v := (0 : Int32)) rfl ?_
      refine gIf_eq K173 L_243 (fun q243 => ?_) (fun q => absurd q (by first | decide | (intro hh; cases hh) | simp))
      refine gIload K173 L_273 (v := (0 : Int32)) rfl ?_
      refine gIf_eq K173 L_275 (fun q275 => ?_) (fun q => absurd q (by first | decide | (intro hh; cases hh) | simp))
      refine gIload K173 L_313 (v := (0 : Int32)) rfl ?_
      refine gIf_eq K173 L_315 (fun q315 => ?_) (fun q => absurd q (by first | decide | (intro hh; cases hh) | simp))
      refine gIconst K173 (0 : Int32) L_361 rfl ?_
      refine gIstore K173 L_362 (Ls' := #[.val (.int d0), .val (.int d1), .val (.int d2), .val (.int d3), .val (.int d4), .val (.int eI), .val (.ref x101), .val (.int r0), .val (.int r1), .val (.int r2), .val (.int r3), .val (.int r4), .val (.ref x145), .val (.ref x157), .val (.int (4 : Int32)), .val (.int (Int32.ofNat (slen [r0, r1, r2, r3, r4] 4))), .val (.int (0 : Int32)), .val (.int (0 : Int32))]) rfl ?_
      have esl : slen [r0, r1, r2, r3, r4] 4 = 0 := by
        rw [slen_s, if_neg (show ¬ let_ ([r0, r1, r2, r3, r4].getD 0 0) from hl0)]
      rw [esl]
      refine gIload K173 L_364 (v := (0 : Int32)) rfl ?_
      refine gIload K173 L_366 (v := (0 : Int32)) rfl ?_
      refine gIcmp_ne K173 L_368 (fun q => absurd q (by first | decide | (intro hh; cases hh) | simp)) (fun q368 => ?_)
      refine gIconst K173 (1 : Int32) L_371 rfl ?_
      refine gGoto K173 L_372 ?_
      refine gRetI K173 hlk hret (by simp) L_376 rfl P174 (by decide) (by decide) ?_
      exact rfl
  · skip
    refine gIload K163 L_197 (v := (5 : Int32)) rfl ?_
    refine gIf_le K163 L_199 (fun q => absurd q (by first | decide | (intro hh; cases hh) | simp)) (fun q199 => ?_)
    refine gIload K163 L_202 (v := r0) rfl ?_
    refine gCallS K163 (W := 0) [(.int r0)] [] L_204 (hw _ (List.mem_of_getElem? (i := 66) rfl)) (hw _ (List.mem_of_getElem? (i := 67) rfl)) (hw _ (List.mem_of_getElem? (i := 3) rfl)) (hw _ (List.mem_of_getElem? (i := 68) rfl)) (Cal.ofN (W := 0) (c_letter l Z a0 hw h163 n0 K163.n0le r0) (hw _ (List.mem_of_getElem? (i := 68) rfl)) (hw _ (List.mem_of_getElem? (i := 3) rfl)) (by decide) (by decide)) (fun _ q => nomatch q) pd13 rfl rfl (Nat.le_of_eq rfl) rfl (by decide) (by decide) (by decide) (fun v183 T183 h183 K183 Q183 q183 => ?_)
    have E183 := Ext.of0 Q183
    have P184 := P164.ext E183
    cases q183
    by_cases hl0 : let_ r0
    · skip
      rw [if_pos hl0]
      refine gIf_eq K183 L_207 (fun q => absurd q (by first | decide | (intro hh; cases hh) | simp)) (fun q207 => ?_)
      refine gIconst K183 (1 : Int32) L_210 rfl ?_
      refine gGoto K183 L_211 ?_
      refine gIstore K183 L_215 (Ls' := #[.val (.int d0), .val (.int d1), .val (.int d2), .val (.int d3), .val (.int d4), .val (.int eI), .val (.ref x101), .val (.int r0), .val (.int r1), .val (.int r2), .val (.int r3), .val (.int r4), .val (.ref x145), .val (.ref x157), .val (.int (5 : Int32)), .val (.int (Int32.ofNat (slen [r0, r1, r2, r3, r4] 5))), .val (.int (1 : Int32)), .unset]) rfl ?_
      refine gIload K183 L_217 (v := (1 : Int32)) rfl ?_
      refine gIf_eq K183 L_219 (fun q => absurd q (by first | decide | (intro hh; cases hh) | simp)) (fun q219 => ?_)
      refine gIload K183 L_222 (v := (5 : Int32)) rfl ?_
      refine gIconst K183 (1 : Int32) L_224 rfl ?_
      refine gIcmp_le K183 L_225 (fun q => absurd q (by first | decide | (intro hh; cases hh) | simp)) (fun q225 => ?_)
      refine gIload K183 L_228 (v := r1) rfl ?_
      refine gBipush K183 (58 : Int32) L_230 rfl ?_
      refine gIcmp_ne K183 L_232 (fun q232 => ?_) (fun q232 => ?_)
      · skip
        refine gIload K183 L_241 (v := (1 : Int32)) rfl ?_
        refine gIf_eq K183 L_243 (fun q => absurd q (by first | decide | (intro hh; cases hh) | simp)) (fun q243 => ?_)
        refine gIload K183 L_246 (v := (5 : Int32)) rfl ?_
        refine gIconst K183 (2 : Int32) L_248 rfl ?_
        refine gIcmp_le K183 L_249 (fun q => absurd q (by first | decide | (intro hh; cases hh) | simp)) (fun q249 => ?_)
        refine gIload K183 L_252 (v := r1) rfl ?_
        refine gCallS K183 (W := 0) [(.int r1)] [] L_254 (hw _ (List.mem_of_getElem? (i := 98) rfl)) (hw _ (List.mem_of_getElem? (i := 99) rfl)) (hw _ (List.mem_of_getElem? (i := 3) rfl)) (hw _ (List.mem_of_getElem? (i := 100) rfl)) (Cal.ofN (W := 0) (c_sc l Z a0 hw h183 n0 K183.n0le r1) (hw _ (List.mem_of_getElem? (i := 100) rfl)) (hw _ (List.mem_of_getElem? (i := 3) rfl)) (by decide) (by decide)) (fun _ q => nomatch q) pd13 rfl rfl (Nat.le_of_eq rfl) rfl (by decide) (by decide) (by decide) (fun v185 T185 h185 K185 Q185 q185 => ?_)
        have E185 := Ext.of0 Q185
        have P186 := P184.ext E185
        cases q185
        by_cases hs_r1 : scp r1
        · skip
          rw [if_pos hs_r1]
          refine gIf_eq K185 L_257 (fun q => absurd q (by first | decide | (intro hh; cases hh) | simp)) (fun q257 => ?_)
          refine gIload K185 L_260 (v := r2) rfl ?_
          refine gBipush K185 (58 : Int32) L_262 rfl ?_
          refine gIcmp_ne K185 L_264 (fun q264 => ?_) (fun q264 => ?_)
          · skip
            refine gIload K185 L_273 (v := (1 : Int32)) rfl ?_
            refine gIf_eq K185 L_275 (fun q => absurd q (by first | decide | (intro hh; cases hh) | simp)) (fun q275 => ?_)
            refine gIload K185 L_278 (v := (5 : Int32)) rfl ?_
            refine gIconst K185 (3 : Int32) L_280 rfl ?_
            refine gIcmp_le K185 L_281 (fun q => absurd q (by first | decide | (intro hh; cases hh) | simp)) (fun q281 => ?_)
            refine gIload K185 L_284 (v := r1) rfl ?_
            refine gCallS K185 (W := 0) [(.int r1)] [] L_286 (hw _ (List.mem_of_getElem? (i := 98) rfl)) (hw _ (List.mem_of_getElem? (i := 99) rfl)) (hw _ (List.mem_of_getElem? (i := 3) rfl)) (hw _ (List.mem_of_getElem? (i := 100) rfl)) (Cal.ofN (W := 0) (c_sc l Z a0 hw h185 n0 K185.n0le r1) (hw _ (List.mem_of_getElem? (i := 100) rfl)) (hw _ (List.mem_of_getElem? (i := 3) rfl)) (by decide) (by decide)) (fun _ q => nomatch q) pd13 rfl rfl (Nat.le_of_eq rfl) rfl (by decide) (by decide) (by decide) (fun v187 T187 h187 K187 Q187 q187 => ?_)
            have E187 := Ext.of0 Q187
            have P188 := P186.ext E187
            cases q187
            rw [if_pos hs_r1]
            refine gIf_eq K187 L_289 (fun q => absurd q (by first | decide | (intro hh; cases hh) | simp)) (fun q289 => ?_)
            refine gIload K187 L_292 (v := r2) rfl ?_
            refine gCallS K187 (W := 0) [(.int r2)] [] L_294 (hw _ (List.mem_of_getElem? (i := 98) rfl)) (hw _ (List.mem_of_getElem? (i := 99) rfl)) (hw _ (List.mem_of_getElem? (i := 3) rfl)) (hw _ (List.mem_of_getElem? (i := 100) rfl)) (Cal.ofN (W := 0) (c_sc l Z a0 hw h187 n0 K187.n0le r2) (hw _ (List.mem_of_getElem? (i := 100) rfl)) (hw _ (List.mem_of_getElem? (i := 3) rfl)) (by decide) (by decide)) (fun _ q => nomatch q) pd13 rfl rfl (Nat.le_of_eq rfl) rfl (by decide) (by decide) (by decide) (fun v189 T189 h189 K189 Q189 q189 => ?_)
            have E189 := Ext.of0 Q189
            have P190 := P188.ext E189
            cases q189
            by_cases hs_r2 : scp r2
            · skip
              rw [if_pos hs_r2]
              refine gIf_eq K189 L_297 (fun q => absurd q (by first | decide | (intro hh; cases hh) | simp)) (fun q297 => ?_)
              refine gIload K189 L_300 (v := r3) rfl ?_
              refine gBipush K189 (58 : Int32) L_302 rfl ?_
              refine gIcmp_ne K189 L_304 (fun q304 => ?_) (fun q304 => ?_)
              · skip
                refine gIload K189 L_313 (v := (1 : Int32)) rfl ?_
                refine gIf_eq K189 L_315 (fun q => absurd q (by first | decide | (intro hh; cases hh) | simp)) (fun q315 => ?_)
                refine gIload K189 L_318 (v := (5 : Int32)) rfl ?_
                refine gIconst K189 (4 : Int32) L_320 rfl ?_
                refine gIcmp_le K189 L_321 (fun q => absurd q (by first | decide | (intro hh; cases hh) | simp)) (fun q321 => ?_)
                refine gIload K189 L_324 (v := r1) rfl ?_
                refine gCallS K189 (W := 0) [(.int r1)] [] L_326 (hw _ (List.mem_of_getElem? (i := 98) rfl)) (hw _ (List.mem_of_getElem? (i := 99) rfl)) (hw _ (List.mem_of_getElem? (i := 3) rfl)) (hw _ (List.mem_of_getElem? (i := 100) rfl)) (Cal.ofN (W := 0) (c_sc l Z a0 hw h189 n0 K189.n0le r1) (hw _ (List.mem_of_getElem? (i := 100) rfl)) (hw _ (List.mem_of_getElem? (i := 3) rfl)) (by decide) (by decide)) (fun _ q => nomatch q) pd13 rfl rfl (Nat.le_of_eq rfl) rfl (by decide) (by decide) (by decide) (fun v191 T191 h191 K191 Q191 q191 => ?_)
                have E191 := Ext.of0 Q191
                have P192 := P190.ext E191
                cases q191
                rw [if_pos hs_r1]
                refine gIf_eq K191 L_329 (fun q => absurd q (by first | decide | (intro hh; cases hh) | simp)) (fun q329 => ?_)
                refine gIload K191 L_332 (v := r2) rfl ?_
                refine gCallS K191 (W := 0) [(.int r2)] [] L_334 (hw _ (List.mem_of_getElem? (i := 98) rfl)) (hw _ (List.mem_of_getElem? (i := 99) rfl)) (hw _ (List.mem_of_getElem? (i := 3) rfl)) (hw _ (List.mem_of_getElem? (i := 100) rfl)) (Cal.ofN (W := 0) (c_sc l Z a0 hw h191 n0 K191.n0le r2) (hw _ (List.mem_of_getElem? (i := 100) rfl)) (hw _ (List.mem_of_getElem? (i := 3) rfl)) (by decide) (by decide)) (fun _ q => nomatch q) pd13 rfl rfl (Nat.le_of_eq rfl) rfl (by decide) (by decide) (by decide) (fun v193 T193 h193 K193 Q193 q193 => ?_)
                have E193 := Ext.of0 Q193
                have P194 := P192.ext E193
                cases q193
                rw [if_pos hs_r2]
                refine gIf_eq K193 L_337 (fun q => absurd q (by first | decide | (intro hh; cases hh) | simp)) (fun q337 => ?_)
                refine gIload K193 L_340 (v := r3) rfl ?_
                refine gCallS K193 (W := 0) [(.int r3)] [] L_342 (hw _ (List.mem_of_getElem? (i := 98) rfl)) (hw _ (List.mem_of_getElem? (i := 99) rfl)) (hw _ (List.mem_of_getElem? (i := 3) rfl)) (hw _ (List.mem_of_getElem? (i := 100) rfl)) (Cal.ofN (W := 0) (c_sc l Z a0 hw h193 n0 K193.n0le r3) (hw _ (List.mem_of_getElem? (i := 100) rfl)) (hw _ (List.mem_of_getElem? (i := 3) rfl)) (by decide) (by decide)) (fun _ q => nomatch q) pd13 rfl rfl (Nat.le_of_eq rfl) rfl (by decide) (by decide) (by decide) (fun v195 T195 h195 K195 Q195 q195 => ?_)
                have E195 := Ext.of0 Q195
                have P196 := P194.ext E195
                cases q195
                by_cases hs_r3 : scp r3
                · skip
                  rw [if_pos hs_r3]
                  refine gIf_eq K195 L_345 (fun q => absurd q (by first | decide | (intro hh; cases hh) | simp)) (fun q345 => ?_)
                  refine gIload K195 L_348 (v := r4) rfl ?_
                  refine gBipush K195 (58 : Int32) L_350 rfl ?_
                  refine gIcmp_ne K195 L_352 (fun q352 => ?_) (fun q352 => ?_)
                  · skip
                    refine gIconst K195 (0 : Int32) L_361 rfl ?_
                    refine gIstore K195 L_362 (Ls' := #[.val (.int d0), .val (.int d1), .val (.int d2), .val (.int d3), .val (.int d4), .val (.int eI), .val (.ref x101), .val (.int r0), .val (.int r1), .val (.int r2), .val (.int r3), .val (.int r4), .val (.ref x145), .val (.ref x157), .val (.int (5 : Int32)), .val (.int (Int32.ofNat (slen [r0, r1, r2, r3, r4] 5))), .val (.int (1 : Int32)), .val (.int (0 : Int32))]) rfl ?_
                    have esl : slen [r0, r1, r2, r3, r4] 5 = 0 := by
                      rw [slen_s, if_pos (show let_ ([r0, r1, r2, r3, r4].getD 0 0) from hl0)]
                      rw [scl_s, if_neg (show ¬ [r0, r1, r2, r3, r4].getD 1 0 = 58 from q232)]
                      rw [if_pos (show scp ([r0, r1, r2, r3, r4].getD 1 0) from hs_r1)]
                      rw [scl_s, if_neg (show ¬ [r0, r1, r2, r3, r4].getD 2 0 = 58 from q264)]
                      rw [if_pos (show scp ([r0, r1, r2, r3, r4].getD 2 0) from hs_r2)]
                      rw [scl_s, if_neg (show ¬ [r0, r1, r2, r3, r4].getD 3 0 = 58 from q304)]
                      rw [if_pos (show scp ([r0, r1, r2, r3, r4].getD 3 0) from hs_r3)]
                      rw [scl_s, if_neg (show ¬ [r0, r1, r2, r3, r4].getD 4 0 = 58 from q352)]
                      split <;> rfl
                    rw [esl]
                    refine gIload K195 L_364 (v := (0 : Int32)) rfl ?_
                    refine gIload K195 L_366 (v := (0 : Int32)) rfl ?_
                    refine gIcmp_ne K195 L_368 (fun q => absurd q (by first | decide | (intro hh; cases hh) | simp)) (fun q368 => ?_)
                    refine gIconst K195 (1 : Int32) L_371 rfl ?_
                    refine gGoto K195 L_372 ?_
                    refine gRetI K195 hlk hret (by simp) L_376 rfl P196 (by decide) (by decide) ?_
                    exact rfl
                  · skip
                    refine gIconst K195 (5 : Int32) L_355 rfl ?_
                    refine gIstore K195 L_356 (Ls' := #[.val (.int d0), .val (.int d1), .val (.int d2), .val (.int d3), .val (.int d4), .val (.int eI), .val (.ref x101), .val (.int r0), .val (.int r1), .val (.int r2), .val (.int r3), .val (.int r4), .val (.ref x145), .val (.ref x157), .val (.int (5 : Int32)), .val (.int (Int32.ofNat (slen [r0, r1, r2, r3, r4] 5))), .val (.int (1 : Int32)), .val (.int (5 : Int32))]) rfl ?_
                    refine gGoto K195 L_358 ?_
                    have esl : slen [r0, r1, r2, r3, r4] 5 = 5 := by
                      rw [slen_s, if_pos (show let_ ([r0, r1, r2, r3, r4].getD 0 0) from hl0)]
                      rw [scl_s, if_neg (show ¬ [r0, r1, r2, r3, r4].getD 1 0 = 58 from q232)]
                      rw [if_pos (show scp ([r0, r1, r2, r3, r4].getD 1 0) from hs_r1)]
                      rw [scl_s, if_neg (show ¬ [r0, r1, r2, r3, r4].getD 2 0 = 58 from q264)]
                      rw [if_pos (show scp ([r0, r1, r2, r3, r4].getD 2 0) from hs_r2)]
                      rw [scl_s, if_neg (show ¬ [r0, r1, r2, r3, r4].getD 3 0 = 58 from q304)]
                      rw [if_pos (show scp ([r0, r1, r2, r3, r4].getD 3 0) from hs_r3)]
                      rw [scl_s, if_pos (show [r0, r1, r2, r3, r4].getD 4 0 = 58 from q352)]
                    rw [esl]
                    refine gIload K195 L_364 (v := (5 : Int32)) rfl ?_
                    refine gIload K195 L_366 (v := (5 : Int32)) rfl ?_
                    refine gIcmp_ne K195 L_368 (fun q => absurd q (by first | decide | (intro hh; cases hh) | simp)) (fun q368 => ?_)
                    refine gIconst K195 (1 : Int32) L_371 rfl ?_
                    refine gGoto K195 L_372 ?_
                    refine gRetI K195 hlk hret (by simp) L_376 rfl P196 (by decide) (by decide) ?_
                    exact rfl
                · skip
                  rw [if_neg hs_r3]
                  refine gIf_eq K195 L_345 (fun q345 => ?_) (fun q => absurd q (by first | decide | (intro hh; cases hh) | simp))
                  refine gIconst K195 (0 : Int32) L_361 rfl ?_
                  refine gIstore K195 L_362 (Ls' := #[.val (.int d0), .val (.int d1), .val (.int d2), .val (.int d3), .val (.int d4), .val (.int eI), .val (.ref x101), .val (.int r0), .val (.int r1), .val (.int r2), .val (.int r3), .val (.int r4), .val (.ref x145), .val (.ref x157), .val (.int (5 : Int32)), .val (.int (Int32.ofNat (slen [r0, r1, r2, r3, r4] 5))), .val (.int (1 : Int32)), .val (.int (0 : Int32))]) rfl ?_
                  have esl : slen [r0, r1, r2, r3, r4] 5 = 0 := by
                    rw [slen_s, if_pos (show let_ ([r0, r1, r2, r3, r4].getD 0 0) from hl0)]
                    rw [scl_s, if_neg (show ¬ [r0, r1, r2, r3, r4].getD 1 0 = 58 from q232)]
                    rw [if_pos (show scp ([r0, r1, r2, r3, r4].getD 1 0) from hs_r1)]
                    rw [scl_s, if_neg (show ¬ [r0, r1, r2, r3, r4].getD 2 0 = 58 from q264)]
                    rw [if_pos (show scp ([r0, r1, r2, r3, r4].getD 2 0) from hs_r2)]
                    rw [scl_s, if_neg (show ¬ [r0, r1, r2, r3, r4].getD 3 0 = 58 from q304)]
                    rw [if_neg (show ¬ scp ([r0, r1, r2, r3, r4].getD 3 0) from hs_r3)]
                  rw [esl]
                  refine gIload K195 L_364 (v := (0 : Int32)) rfl ?_
                  refine gIload K195 L_366 (v := (0 : Int32)) rfl ?_
                  refine gIcmp_ne K195 L_368 (fun q => absurd q (by first | decide | (intro hh; cases hh) | simp)) (fun q368 => ?_)
                  refine gIconst K195 (1 : Int32) L_371 rfl ?_
                  refine gGoto K195 L_372 ?_
                  refine gRetI K195 hlk hret (by simp) L_376 rfl P196 (by decide) (by decide) ?_
                  exact rfl
              · skip
                refine gIconst K189 (4 : Int32) L_307 rfl ?_
                refine gIstore K189 L_308 (Ls' := #[.val (.int d0), .val (.int d1), .val (.int d2), .val (.int d3), .val (.int d4), .val (.int eI), .val (.ref x101), .val (.int r0), .val (.int r1), .val (.int r2), .val (.int r3), .val (.int r4), .val (.ref x145), .val (.ref x157), .val (.int (5 : Int32)), .val (.int (Int32.ofNat (slen [r0, r1, r2, r3, r4] 5))), .val (.int (1 : Int32)), .val (.int (4 : Int32))]) rfl ?_
                refine gGoto K189 L_310 ?_
                have esl : slen [r0, r1, r2, r3, r4] 5 = 4 := by
                  rw [slen_s, if_pos (show let_ ([r0, r1, r2, r3, r4].getD 0 0) from hl0)]
                  rw [scl_s, if_neg (show ¬ [r0, r1, r2, r3, r4].getD 1 0 = 58 from q232)]
                  rw [if_pos (show scp ([r0, r1, r2, r3, r4].getD 1 0) from hs_r1)]
                  rw [scl_s, if_neg (show ¬ [r0, r1, r2, r3, r4].getD 2 0 = 58 from q264)]
                  rw [if_pos (show scp ([r0, r1, r2, r3, r4].getD 2 0) from hs_r2)]
                  rw [scl_s, if_pos (show [r0, r1, r2, r3, r4].getD 3 0 = 58 from q304)]
                rw [esl]
                refine gIload K189 L_364 (v := (4 : Int32)) rfl ?_
                refine gIload K189 L_366 (v := (4 : Int32)) rfl ?_
                refine gIcmp_ne K189 L_368 (fun q => absurd q (by first | decide | (intro hh; cases hh) | simp)) (fun q368 => ?_)
                refine gIconst K189 (1 : Int32) L_371 rfl ?_
                refine gGoto K189 L_372 ?_
                refine gRetI K189 hlk hret (by simp) L_376 rfl P190 (by decide) (by decide) ?_
                exact rfl
            · skip
              rw [if_neg hs_r2]
              refine gIf_eq K189 L_297 (fun q297 => ?_) (fun q => absurd q (by first | decide | (intro hh; cases hh) | simp))
              refine gIload K189 L_313 (v := (1 : Int32)) rfl ?_
              refine gIf_eq K189 L_315 (fun q => absurd q (by first | decide | (intro hh; cases hh) | simp)) (fun q315 => ?_)
              refine gIload K189 L_318 (v := (5 : Int32)) rfl ?_
              refine gIconst K189 (4 : Int32) L_320 rfl ?_
              refine gIcmp_le K189 L_321 (fun q => absurd q (by first | decide | (intro hh; cases hh) | simp)) (fun q321 => ?_)
              refine gIload K189 L_324 (v := r1) rfl ?_
              refine gCallS K189 (W := 0) [(.int r1)] [] L_326 (hw _ (List.mem_of_getElem? (i := 98) rfl)) (hw _ (List.mem_of_getElem? (i := 99) rfl)) (hw _ (List.mem_of_getElem? (i := 3) rfl)) (hw _ (List.mem_of_getElem? (i := 100) rfl)) (Cal.ofN (W := 0) (c_sc l Z a0 hw h189 n0 K189.n0le r1) (hw _ (List.mem_of_getElem? (i := 100) rfl)) (hw _ (List.mem_of_getElem? (i := 3) rfl)) (by decide) (by decide)) (fun _ q => nomatch q) pd13 rfl rfl (Nat.le_of_eq rfl) rfl (by decide) (by decide) (by decide) (fun v197 T197 h197 K197 Q197 q197 => ?_)
              have E197 := Ext.of0 Q197
              have P198 := P190.ext E197
              cases q197
              rw [if_pos hs_r1]
              refine gIf_eq K197 L_329 (fun q => absurd q (by first | decide | (intro hh; cases hh) | simp)) (fun q329 => ?_)
              refine gIload K197 L_332 (v := r2) rfl ?_
              refine gCallS K197 (W := 0) [(.int r2)] [] L_334 (hw _ (List.mem_of_getElem? (i := 98) rfl)) (hw _ (List.mem_of_getElem? (i := 99) rfl)) (hw _ (List.mem_of_getElem? (i := 3) rfl)) (hw _ (List.mem_of_getElem? (i := 100) rfl)) (Cal.ofN (W := 0) (c_sc l Z a0 hw h197 n0 K197.n0le r2) (hw _ (List.mem_of_getElem? (i := 100) rfl)) (hw _ (List.mem_of_getElem? (i := 3) rfl)) (by decide) (by decide)) (fun _ q => nomatch q) pd13 rfl rfl (Nat.le_of_eq rfl) rfl (by decide) (by decide) (by decide) (fun v199 T199 h199 K199 Q199 q199 => ?_)
              have E199 := Ext.of0 Q199
              have P200 := P198.ext E199
              cases q199
              rw [if_neg hs_r2]
              refine gIf_eq K199 L_337 (fun q337 => ?_) (fun q => absurd q (by first | decide | (intro hh; cases hh) | simp))
              refine gIconst K199 (0 : Int32) L_361 rfl ?_
              refine gIstore K199 L_362 (Ls' := #[.val (.int d0), .val (.int d1), .val (.int d2), .val (.int d3), .val (.int d4), .val (.int eI), .val (.ref x101), .val (.int r0), .val (.int r1), .val (.int r2), .val (.int r3), .val (.int r4), .val (.ref x145), .val (.ref x157), .val (.int (5 : Int32)), .val (.int (Int32.ofNat (slen [r0, r1, r2, r3, r4] 5))), .val (.int (1 : Int32)), .val (.int (0 : Int32))]) rfl ?_
              have esl : slen [r0, r1, r2, r3, r4] 5 = 0 := by
                rw [slen_s, if_pos (show let_ ([r0, r1, r2, r3, r4].getD 0 0) from hl0)]
                rw [scl_s, if_neg (show ¬ [r0, r1, r2, r3, r4].getD 1 0 = 58 from q232)]
                rw [if_pos (show scp ([r0, r1, r2, r3, r4].getD 1 0) from hs_r1)]
                rw [scl_s, if_neg (show ¬ [r0, r1, r2, r3, r4].getD 2 0 = 58 from q264)]
                rw [if_neg (show ¬ scp ([r0, r1, r2, r3, r4].getD 2 0) from hs_r2)]
              rw [esl]
              refine gIload K199 L_364 (v := (0 : Int32)) rfl ?_
              refine gIload K199 L_366 (v := (0 : Int32)) rfl ?_
              refine gIcmp_ne K199 L_368 (fun q => absurd q (by first | decide | (intro hh; cases hh) | simp)) (fun q368 => ?_)
              refine gIconst K199 (1 : Int32) L_371 rfl ?_
              refine gGoto K199 L_372 ?_
              refine gRetI K199 hlk hret (by simp) L_376 rfl P200 (by decide) (by decide) ?_
              exact rfl
          · skip
            refine gIconst K185 (3 : Int32) L_267 rfl ?_
            refine gIstore K185 L_268 (Ls' := #[.val (.int d0), .val (.int d1), .val (.int d2), .val (.int d3), .val (.int d4), .val (.int eI), .val (.ref x101), .val (.int r0), .val (.int r1), .val (.int r2), .val (.int r3), .val (.int r4), .val (.ref x145), .val (.ref x157), .val (.int (5 : Int32)), .val (.int (Int32.ofNat (slen [r0, r1, r2, r3, r4] 5))), .val (.int (1 : Int32)), .val (.int (3 : Int32))]) rfl ?_
            refine gGoto K185 L_270 ?_
            have esl : slen [r0, r1, r2, r3, r4] 5 = 3 := by
              rw [slen_s, if_pos (show let_ ([r0, r1, r2, r3, r4].getD 0 0) from hl0)]
              rw [scl_s, if_neg (show ¬ [r0, r1, r2, r3, r4].getD 1 0 = 58 from q232)]
              rw [if_pos (show scp ([r0, r1, r2, r3, r4].getD 1 0) from hs_r1)]
              rw [scl_s, if_pos (show [r0, r1, r2, r3, r4].getD 2 0 = 58 from q264)]
            rw [esl]
            refine gIload K185 L_364 (v := (3 : Int32)) rfl ?_
            refine gIload K185 L_366 (v := (3 : Int32)) rfl ?_
            refine gIcmp_ne K185 L_368 (fun q => absurd q (by first | decide | (intro hh; cases hh) | simp)) (fun q368 => ?_)
            refine gIconst K185 (1 : Int32) L_371 rfl ?_
            refine gGoto K185 L_372 ?_
            refine gRetI K185 hlk hret (by simp) L_376 rfl P186 (by decide) (by decide) ?_
            exact rfl
        · skip
          rw [if_neg hs_r1]
          refine gIf_eq K185 L_257 (fun q257 => ?_) (fun q => absurd q (by first | decide | (intro hh; cases hh) | simp))
          refine gIload K185 L_273 (v := (1 : Int32)) rfl ?_
          refine gIf_eq K185 L_275 (fun q => absurd q (by first | decide | (intro hh; cases hh) | simp)) (fun q275 => ?_)
          refine gIload K185 L_278 (v := (5 : Int32)) rfl ?_
          refine gIconst K185 (3 : Int32) L_280 rfl ?_
          refine gIcmp_le K185 L_281 (fun q => absurd q (by first | decide | (intro hh; cases hh) | simp)) (fun q281 => ?_)
          refine gIload K185 L_284 (v := r1) rfl ?_
          refine gCallS K185 (W := 0) [(.int r1)] [] L_286 (hw _ (List.mem_of_getElem? (i := 98) rfl)) (hw _ (List.mem_of_getElem? (i := 99) rfl)) (hw _ (List.mem_of_getElem? (i := 3) rfl)) (hw _ (List.mem_of_getElem? (i := 100) rfl)) (Cal.ofN (W := 0) (c_sc l Z a0 hw h185 n0 K185.n0le r1) (hw _ (List.mem_of_getElem? (i := 100) rfl)) (hw _ (List.mem_of_getElem? (i := 3) rfl)) (by decide) (by decide)) (fun _ q => nomatch q) pd13 rfl rfl (Nat.le_of_eq rfl) rfl (by decide) (by decide) (by decide) (fun v201 T201 h201 K201 Q201 q201 => ?_)
          have E201 := Ext.of0 Q201
          have P202 := P186.ext E201
          cases q201
          rw [if_neg hs_r1]
          refine gIf_eq K201 L_289 (fun q289 => ?_) (fun q => absurd q (by first | decide | (intro hh; cases hh) | simp))
          refine gIload K201 L_313 (v := (1 : Int32)) rfl ?_
          refine gIf_eq K201 L_315 (fun q => absurd q (by first | decide | (intro hh; cases hh) | simp)) (fun q315 => ?_)
          refine gIload K201 L_318 (v := (5 : Int32)) rfl ?_
          refine gIconst K201 (4 : Int32) L_320 rfl ?_
          refine gIcmp_le K201 L_321 (fun q => absurd q (by first | decide | (intro hh; cases hh) | simp)) (fun q321 => ?_)
          refine gIload K201 L_324 (v := r1) rfl ?_
          refine gCallS K201 (W := 0) [(.int r1)] [] L_326 (hw _ (List.mem_of_getElem? (i := 98) rfl)) (hw _ (List.mem_of_getElem? (i := 99) rfl)) (hw _ (List.mem_of_getElem? (i := 3) rfl)) (hw _ (List.mem_of_getElem? (i := 100) rfl)) (Cal.ofN (W := 0) (c_sc l Z a0 hw h201 n0 K201.n0le r1) (hw _ (List.mem_of_getElem? (i := 100) rfl)) (hw _ (List.mem_of_getElem? (i := 3) rfl)) (by decide) (by decide)) (fun _ q => nomatch q) pd13 rfl rfl (Nat.le_of_eq rfl) rfl (by decide) (by decide) (by decide) (fun v203 T203 h203 K203 Q203 q203 => ?_)
          have E203 := Ext.of0 Q203
          have P204 := P202.ext E203
          cases q203
          rw [if_neg hs_r1]
          refine gIf_eq K203 L_329 (fun q329 => ?_) (fun q => absurd q (by first | decide | (intro hh; cases hh) | simp))
          refine gIconst K203 (0 : Int32) L_361 rfl ?_
          refine gIstore K203 L_362 (Ls' := #[.val (.int d0), .val (.int d1), .val (.int d2), .val (.int d3), .val (.int d4), .val (.int eI), .val (.ref x101), .val (.int r0), .val (.int r1), .val (.int r2), .val (.int r3), .val (.int r4), .val (.ref x145), .val (.ref x157), .val (.int (5 : Int32)), .val (.int (Int32.ofNat (slen [r0, r1, r2, r3, r4] 5))), .val (.int (1 : Int32)), .val (.int (0 : Int32))]) rfl ?_
          have esl : slen [r0, r1, r2, r3, r4] 5 = 0 := by
            rw [slen_s, if_pos (show let_ ([r0, r1, r2, r3, r4].getD 0 0) from hl0)]
            rw [scl_s, if_neg (show ¬ [r0, r1, r2, r3, r4].getD 1 0 = 58 from q232)]
            rw [if_neg (show ¬ scp ([r0, r1, r2, r3, r4].getD 1 0) from hs_r1)]
          rw [esl]
          refine gIload K203 L_364 (v := (0 : Int32)) rfl ?_
          refine gIload K203 L_366 (v := (0 : Int32)) rfl ?_
          refine gIcmp_ne K203 L_368 (fun q => absurd q (by first | decide | (intro hh; cases hh) | simp)) (fun q368 => ?_)
          refine gIconst K203 (1 : Int32) L_371 rfl ?_
          refine gGoto K203 L_372 ?_
          refine gRetI K203 hlk hret (by simp) L_376 rfl P204 (by decide) (by decide) ?_
          exact rfl
      · skip
        refine gIconst K183 (2 : Int32) L_235 rfl ?_
        refine gIstore K183 L_236 (Ls' := #[.val (.int d0), .val (.int d1), .val (.int d2), .val (.int d3), .val (.int d4), .val (.int eI), .val (.ref x101), .val (.int r0), .val (.int r1), .val (.int r2), .val (.int r3), .val (.int r4), .val (.ref x145), .val (.ref x157), .val (.int (5 : Int32)), .val (.int (Int32.ofNat (slen [r0, r1, r2, r3, r4] 5))), .val (.int (1 : Int32)), .val (.int (2 : Int32))]) rfl ?_
        refine gGoto K183 L_238 ?_
        have esl : slen [r0, r1, r2, r3, r4] 5 = 2 := by
          rw [slen_s, if_pos (show let_ ([r0, r1, r2, r3, r4].getD 0 0) from hl0)]
          rw [scl_s, if_pos (show [r0, r1, r2, r3, r4].getD 1 0 = 58 from q232)]
        rw [esl]
        refine gIload K183 L_364 (v := (2 : Int32)) rfl ?_
        refine gIload K183 L_366 (v := (2 : Int32)) rfl ?_
        refine gIcmp_ne K183 L_368 (fun q => absurd q (by first | decide | (intro hh; cases hh) | simp)) (fun q368 => ?_)
        refine gIconst K183 (1 : Int32) L_371 rfl ?_
        refine gGoto K183 L_372 ?_
        refine gRetI K183 hlk hret (by simp) L_376 rfl P184 (by decide) (by decide) ?_
        exact rfl
    · skip
      rw [if_neg hl0]
      refine gIf_eq K183 L_207 (fun q207 => ?_) (fun q => absurd q (by first | decide | (intro hh; cases hh) | simp))
      refine gIconst K183 (0 : Int32) L_214 rfl ?_
      refine gIstore K183 L_215 (Ls' := #[.val (.int d0), .val (.int d1), .val (.int d2), .val (.int d3), .val (.int d4), .val (.int eI), .val (.ref x101), .val (.int r0), .val (.int r1), .val (.int r2), .val (.int r3), .val (.int r4), .val (.ref x145), .val (.ref x157), .val (.int (5 : Int32)), .val (.int (Int32.ofNat (slen [r0, r1, r2, r3, r4] 5))), .val (.int (0 : Int32)), .unset]) rfl ?_
      refine gIload K183 L_217 (v := (0 : Int32)) rfl ?_
      refine gIf_eq K183 L_219 (fun q219 => ?_) (fun q => absurd q (by first | decide | (intro hh; cases hh) | simp))
      refine gIload K183 L_241 (v := (0 : Int32)) rfl ?_
      refine gIf_eq K183 L_243 (fun q243 => ?_) (fun q => absurd q (by first | decide | (intro hh; cases hh) | simp))
      refine gIload K183 L_273 (v := (0 : Int32)) rfl ?_
      refine gIf_eq K183 L_275 (fun q275 => ?_) (fun q => absurd q (by first | decide | (intro hh; cases hh) | simp))
      refine gIload K183 L_313 (v := (0 : Int32)) rfl ?_
      refine gIf_eq K183 L_315 (fun q315 => ?_) (fun q => absurd q (by first | decide | (intro hh; cases hh) | simp))
      refine gIconst K183 (0 : Int32) L_361 rfl ?_
      refine gIstore K183 L_362 (Ls' := #[.val (.int d0), .val (.int d1), .val (.int d2), .val (.int d3), .val (.int d4), .val (.int eI), .val (.ref x101), .val (.int r0), .val (.int r1), .val (.int r2), .val (.int r3), .val (.int r4), .val (.ref x145), .val (.ref x157), .val (.int (5 : Int32)), .val (.int (Int32.ofNat (slen [r0, r1, r2, r3, r4] 5))), .val (.int (0 : Int32)), .val (.int (0 : Int32))]) rfl ?_
      have esl : slen [r0, r1, r2, r3, r4] 5 = 0 := by
        rw [slen_s, if_neg (show ¬ let_ ([r0, r1, r2, r3, r4].getD 0 0) from hl0)]
      rw [esl]
      refine gIload K183 L_364 (v := (0 : Int32)) rfl ?_
      refine gIload K183 L_366 (v := (0 : Int32)) rfl ?_
      refine gIcmp_ne K183 L_368 (fun q => absurd q (by first | decide | (intro hh; cases hh) | simp)) (fun q368 => ?_)
      refine gIconst K183 (1 : Int32) L_371 rfl ?_
      refine gGoto K183 L_372 ?_
      refine gRetI K183 hlk hret (by simp) L_376 rfl P184 (by decide) (by decide) ?_
      exact rfl
set_option maxRecDepth 65536 in
set_option maxHeartbeats 40000000 in
theorem comes_1 {Post : Tables → Env → Array Value → State → Outcome → State → Prop} (hpost : ∀ tb e args s v u, (limb_1_1.after args s (.returned v) u = true ∧ limb_1_2.after args s (.returned v) u = true ∧ True) → FrameEnd s (.returned v) u (Jvm.fieldLocs frame_1_writes args s ++ Jvm.arrayLocs frame_1_arrays args s ++ Jvm.staticLocs frame_1_statics s) 24 192 → Post tb e args s (.returned v) u) :
    ArmFor flags0 classFile x code maxLocals ret World_1 tables_1 room_1 Calls_1 rest_1 Pre_1 Post := by
  intro l hfl _ _ p e ha hc hk s m args below hf hA hF happ hP
  obtain ⟨hcalls, hrest, hpre⟩ := hP
  obtain ⟨-, -, -, hnamed, -, -, -, hat⟩ := (Spec.applies_iff hf).mp happ
  obtain ⟨hg, hn⟩ := and_e (Cond.before_iff.mp (show (Jvm.Cond.and given_1 narrow_1).before args s = true from hpre))
  obtain ⟨hcount, hg0⟩ := and_e hg
  obtain ⟨ha0, hg1⟩ := and_e hg0
  obtain ⟨ha1, hg2⟩ := and_e hg1
  obtain ⟨ha2, hg3⟩ := and_e hg2
  obtain ⟨ha3, hg4⟩ := and_e hg3
  obtain ⟨ha4, hg5⟩ := and_e hg4
  have ha5 := hg5
  obtain ⟨w0, w1, w2, w3, w4, w5, rfl⟩ : ∃ w0 w1 w2 w3 w4 w5 : Value, args = #[w0, w1, w2, w3, w4, w5] := by
    have hs : args.size = 6 := by simpa [Cond.value, given_1] using hcount
    obtain ⟨L⟩ := args
    match L, hs with
    | [w0, w1, w2, w3, w4, w5], _ => exact ⟨w0, w1, w2, w3, w4, w5, rfl⟩
  have hw := fun d (hd : d ∈ tables_1) => atoms_spec (ws := Jvm.Cond.code x code maxLocals ret :: tables_1) hat d (List.mem_cons_of_mem _ hd)
  obtain ⟨hsets, hown0⟩ := atoms_of _ (rest_1_c_eq ▸ (show rest_1_c.before _ s = true from hrest))
  have hfit : Fit s := fun {y c} hc i hi => by
    obtain ⟨ha, rfl⟩ := Array.getElem?_eq_some_iff.mp hc
    have q := List.all_eq_true.mp ((Array.all_eq_true_iff_forall_mem.mp hF) _ (Array.getElem_mem ha)) i (List.mem_range.mpr hi)
    simpa [Array.getElem?_eq_getElem hi] using q
  obtain ⟨i0, e0⟩ := is_v ha0
  obtain rfl : w0 = (.int i0) := Option.some.inj e0
  obtain ⟨i1, e1⟩ := is_v ha1
  obtain rfl : w1 = (.int i1) := Option.some.inj e1
  obtain ⟨i2, e2⟩ := is_v ha2
  obtain rfl : w2 = (.int i2) := Option.some.inj e2
  obtain ⟨i3, e3⟩ := is_v ha3
  obtain rfl : w3 = (.int i3) := Option.some.inj e3
  obtain ⟨i4, e4⟩ := is_v ha4
  obtain rfl : w4 = (.int i4) := Option.some.inj e4
  obtain ⟨i5, e5⟩ := is_v ha5
  obtain rfl : w5 = (.int i5) := Option.some.inj e5
  obtain ⟨z_COMPACT_STRINGS, ez_COMPACT_STRINGS⟩ := is_v (Cond.before_iff.mp (hsets _ (List.mem_of_getElem? (i := 1) rfl)))
  have S_COMPACT_STRINGS : Sta s s.heap "java/lang/String" "COMPACT_STRINGS" "Z" (.int z_COMPACT_STRINGS) := Sta.start ez_COMPACT_STRINGS (Or.inl (hsets _ (List.mem_of_getElem? (i := 0) rfl)))
  have nz_COMPACT_STRINGS : ¬ (z_COMPACT_STRINGS = (0 : Int32)) := gotF (Cond.eq_ints ez_COMPACT_STRINGS (Term.int_eval (0))) (not_v (Cond.before_iff.mp (hsets _ (List.mem_of_getElem? (i := 2) rfl))))
  obtain ⟨v_SIOOBE_FORMATTER, ez_SIOOBE_FORMATTER, r_SIOOBE_FORMATTER⟩ := isR_v (Cond.before_iff.mp (hsets _ (List.mem_of_getElem? (i := 8) rfl)))
  have S_SIOOBE_FORMATTER : Sta s s.heap "jdk/internal/util/Preconditions" "SIOOBE_FORMATTER" "Ljava/util/function/BiFunction;" v_SIOOBE_FORMATTER := Sta.start ez_SIOOBE_FORMATTER (Or.inl (hsets _ (List.mem_of_getElem? (i := 7) rfl)))
  have U_S_assertionsDisabled : Sta s s.heap "java/lang/StringUTF16" "$assertionsDisabled" "Z" (.int 1) := Sta.start (eqint_v (Cond.before_iff.mp (hsets _ (List.mem_of_getElem? (i := 12) rfl)))) (Or.inl (hsets _ (List.mem_of_getElem? (i := 11) rfl)))
  have U_HI_BYTE_SHIFT : Sta s s.heap "java/lang/StringUTF16" "HI_BYTE_SHIFT" "I" (.int 0) := Sta.start (eqint_v (Cond.before_iff.mp (hsets _ (List.mem_of_getElem? (i := 15) rfl)))) (Or.inl (hsets _ (List.mem_of_getElem? (i := 14) rfl)))
  have U_LO_BYTE_SHIFT : Sta s s.heap "java/lang/StringUTF16" "LO_BYTE_SHIFT" "I" (.int 8) := Sta.start (eqint_v (Cond.before_iff.mp (hsets _ (List.mem_of_getElem? (i := 18) rfl)))) (Or.inl (hsets _ (List.mem_of_getElem? (i := 17) rfl)))
  have hU : US s s.heap := ⟨U_S_assertionsDisabled, U_HI_BYTE_SHIFT, U_LO_BYTE_SHIFT⟩
  obtain ⟨n, o, h1, h2, h3, v, L, rfl, ⟨hv, Kp, N⟩, hq⟩ := (c_law l s _ hw s.heap s.heap.size (Nat.le_refl _) i0 i1 i2 i3 i4 i5 z_COMPACT_STRINGS S_COMPACT_STRINGS nz_COMPACT_STRINGS v_SIOOBE_FORMATTER S_SIOOBE_FORMATTER r_SIOOBE_FORMATTER hU).asN p e ha hc hk s m _ below hf ((Spec.applies_iff_loose hf).mp happ).1 ⟨rfl, State.Warmed39.refl s, rfl⟩ trivial
  subst hv
  refine ⟨n, _, h1, h2, h3, hpost _ _ _ _ _ _ ⟨Cond.after_iff.mpr rfl, Cond.after_iff.mpr (eq_i res_at (Term.int_eval (1)) rfl), trivial⟩ ⟨hq.1, hq.2.1, (hq.2.2.sift fun y hy => Or.inr (N y hy)).mono (by decide) (by decide)⟩⟩
theorem main_1_1 : Claimed_1_1 := comes_1 fun _ _ _ _ _ _ h hF => ⟨h.1, hF⟩
theorem main_1_2 : Claimed_1_2 := comes_1 fun _ _ _ _ _ _ h hF => ⟨h.2.1, hF⟩

end Jvm.Pilot.@@N@@
namespace Jvm.Pilot.@@N@@
open Jvm Jvm.ClassFile Sem Op Lib Jvm.Free Jvm.Stand Jvm.Pilot.@@N@@.Jvm.D
/-! MADE BY PROGRAM (witnessworld.py) out of the Statement's table words and the real class files: 20 classes; the members and pool entries that the words name. The judged class is class 1, her method 4. -/
namespace start1
open Jvm.ClassFile
def u (s : String) : CpInfo := .utf8 (stringToUtf16 s)
/-- a pool by its gaps: so many unusable entries, then the entry; so many at the end -/
def gap : Nat → List CpInfo → List CpInfo
  | 0, r => r
  | n + 1, r => .unusable :: gap n r
def poolList (es : List (Nat × CpInfo)) (last : Nat) : List CpInfo := es.foldr (fun e r => gap e.1 (e.2 :: r)) (gap last [])
def pool (es : List (Nat × CpInfo)) (last : Nat) : Array CpInfo := ⟨poolList es last⟩
def fileOf (pool : Array CpInfo) (this : Nat) (attrs : Array Attribute := #[]) (ms : Array MethodInfo := #[]) (fl : Nat := 33) (sup : Nat := 0) (ifs : Array Nat := #[]) (fds : Array FieldInfo := #[]) : ClassFile where
  minorVersion := 0
  majorVersion := 65
  constantPool := pool
  accessFlags := fl
  thisClass := this
  superClass := sup
  interfaces := ifs
  fields := fds
  methods := ms
  attributes := attrs
def plain (name : String) (sup : Option ClassId) : Class where
  name := name
  kind := .ordinary
  loader := none
  accessFlags := 33
  super := sup
  interfaces := #[]
  cf := none
  fields := #[]
  methods := #[]
  instanceTypes := #[]
  staticTypes := #[]
  resolved := #[]
  callSites := []
  init := .initialized
  statics := none
  mirror := none

def pool0 : Array CpInfo := pool [(5, u "<init>"), (0, u "()V"), (1, .class_ 10), (1, u "java/lang/Object")] 113

def k0c0 : Code := { maxStack := 0, maxLocals := 1, code := object_method_1_code, exceptionTable := #[], attributes := #[] }
def k0m0 : Method := { name := "<init>", desc := "()V", sig := { parameters := [], returnType := none }, accessFlags := 1, code := some k0c0 }
/-- java/lang/Object -/
def k0 : Class := { plain "java/lang/Object" none with
  accessFlags := 33
  interfaces := #[]
  cf := some (fileOf pool0 8 #[] #[{ accessFlags := 1, nameIndex := 5, descriptorIndex := 6, attributes := #[] }] 33 0 #[] #[])
  fields := #[]
  methods := #[k0m0]
  instanceTypes := #[]
  staticTypes := #[]
  resolved := Array.replicate 124 none
  statics := none }

def pool1 : Array CpInfo := pool [(2, .class_ 4), (1, u "java/lang/Object"), (0, u "<init>"), (0, u "()V"), (0, .integer 65536), (0, .integer 65535), (0, .methodref 10 11), (0, .class_ 12), (0, .nameAndType 13 14), (0, u "com/example/disallow/disallow/UrlPathSchemeLengthPinLaw"), (0, u "letter"), (0, u "(C)Z"), (0, .methodref 10 16), (0, .nameAndType 17 18), (0, u "pick"), (0, u "(I[C)C"), (0, .class_ 20), (0, u "java/lang/String"), (0, .methodref 19 22), (0, .nameAndType 5 23), (0, u "([C)V"), (0, .integer 2147483647), (0, .methodref 26 27), (0, .class_ 28), (0, .nameAndType 29 30), (0, u "com/example/disallow/disallow/UrlPath"), (0, u "schemeLength"), (0, u "(Ljava/lang/String;I)I"), (0, .methodref 10 32), (0, .nameAndType 33 14), (0, u "sc"), (3, u "law"), (0, u "(IIIIII)Z")] 4

def k1m0 : Method := { name := "<init>", desc := "()V", sig := { parameters := [], returnType := none }, accessFlags := 2, code := none }
def k1c1 : Code := { maxStack := 3, maxLocals := 2, code := method_2_code, exceptionTable := #[], attributes := #[] }
def k1m1 : Method := { name := "pick", desc := "(I[C)C", sig := { parameters := [.int, (.array .char)], returnType := some .char }, accessFlags := 10, code := some k1c1 }
def k1c2 : Code := { maxStack := 2, maxLocals := 1, code := method_3_code, exceptionTable := #[], attributes := #[] }
def k1m2 : Method := { name := "letter", desc := "(C)Z", sig := { parameters := [.char], returnType := some .boolean }, accessFlags := 10, code := some k1c2 }
def k1c3 : Code := { maxStack := 2, maxLocals := 1, code := method_4_code, exceptionTable := #[], attributes := #[] }
def k1m3 : Method := { name := "sc", desc := "(C)Z", sig := { parameters := [.char], returnType := some .boolean }, accessFlags := 10, code := some k1c3 }
def k1c4 : Code := { maxStack := 4, maxLocals := 18, code := code, exceptionTable := #[], attributes := #[] }
def k1m4 : Method := { name := "law", desc := "(IIIIII)Z", sig := { parameters := [.int, .int, .int, .int, .int, .int], returnType := some .boolean }, accessFlags := 9, code := some k1c4 }
/-- com/example/disallow/disallow/UrlPathSchemeLengthPinLaw -/
def k1 : Class := { plain "com/example/disallow/disallow/UrlPathSchemeLengthPinLaw" (some 0) with
  accessFlags := 49
  interfaces := #[]
  cf := some (fileOf pool1 10 #[] #[{ accessFlags := 2, nameIndex := 5, descriptorIndex := 6, attributes := #[] }, { accessFlags := 10, nameIndex := 17, descriptorIndex := 18, attributes := #[] }, { accessFlags := 10, nameIndex := 13, descriptorIndex := 14, attributes := #[] }, { accessFlags := 10, nameIndex := 33, descriptorIndex := 14, attributes := #[] }, { accessFlags := 9, nameIndex := 37, descriptorIndex := 38, attributes := #[] }] 49 2 #[] #[])
  fields := #[]
  methods := #[k1m0, k1m1, k1m2, k1m3, k1m4]
  instanceTypes := #[]
  staticTypes := #[]
  resolved := Array.replicate 43 none
  statics := none }

def pool2 : Array CpInfo := pool [(1, .class_ 2), (0, u "java/io/Serializable"), (0, .class_ 4), (0, u "java/lang/Object")] 2

/-- java/io/Serializable -/
def k2 : Class := { plain "java/io/Serializable" (some 0) with
  accessFlags := 1537
  interfaces := #[]
  cf := some (fileOf pool2 1 #[] #[] 1537 3 #[] #[])
  fields := #[]
  methods := #[]
  instanceTypes := #[]
  staticTypes := #[]
  resolved := Array.replicate 7 none
  statics := none }

def pool3 : Array CpInfo := pool [(1, .class_ 2), (0, u "java/lang/Comparable"), (0, .class_ 4), (0, u "java/lang/Object")] 7

/-- java/lang/Comparable -/
def k3 : Class := { plain "java/lang/Comparable" (some 0) with
  accessFlags := 1537
  interfaces := #[]
  cf := some (fileOf pool3 1 #[] #[] 1537 3 #[] #[])
  fields := #[]
  methods := #[]
  instanceTypes := #[]
  staticTypes := #[]
  resolved := Array.replicate 12 none
  statics := none }

def pool4 : Array CpInfo := pool [(2, .class_ 4), (1, u "java/lang/CharSequence"), (42, .class_ 48), (0, u "java/lang/CharSequence$1CodePointIterator"), (10, .class_ 60), (0, u "java/lang/CharSequence$1CharIterator"), (5, .class_ 67), (0, u "java/lang/Object")] 63

/-- java/lang/CharSequence -/
def k4 : Class := { plain "java/lang/CharSequence" (some 0) with
  accessFlags := 1537
  interfaces := #[]
  cf := some (fileOf pool4 2 #[.nestMembers #[47, 59]] #[] 1537 66 #[] #[])
  fields := #[]
  methods := #[]
  instanceTypes := #[]
  staticTypes := #[]
  resolved := Array.replicate 131 none
  statics := none }

def pool5 : Array CpInfo := pool [(1, .class_ 2), (0, u "java/lang/constant/Constable"), (0, .class_ 4), (0, u "java/lang/Object")] 6

/-- java/lang/constant/Constable -/
def k5 : Class := { plain "java/lang/constant/Constable" (some 0) with
  accessFlags := 1537
  interfaces := #[]
  cf := some (fileOf pool5 1 #[] #[] 1537 3 #[] #[])
  fields := #[]
  methods := #[]
  instanceTypes := #[]
  staticTypes := #[]
  resolved := Array.replicate 11 none
  statics := none }

def pool6 : Array CpInfo := pool [(1, .class_ 2), (0, u "java/lang/constant/ConstantDesc"), (0, .class_ 4), (0, u "java/lang/Object")] 32

/-- java/lang/constant/ConstantDesc -/
def k6 : Class := { plain "java/lang/constant/ConstantDesc" (some 0) with
  accessFlags := 1537
  interfaces := #[]
  cf := some (fileOf pool6 1 #[] #[] 1537 3 #[] #[])
  fields := #[]
  methods := #[]
  instanceTypes := #[]
  staticTypes := #[]
  resolved := Array.replicate 37 none
  statics := none }

def pool7 : Array CpInfo := pool [(1, .methodref 2 3), (0, .class_ 4), (0, .nameAndType 5 6), (0, u "java/lang/Object"), (0, u "<init>"), (0, u "()V"), (2, .fieldref 10 11), (0, .class_ 12), (0, .nameAndType 13 14), (0, u "java/lang/String"), (0, u "value"), (0, u "[B"), (0, .fieldref 10 16), (0, .nameAndType 17 18), (0, u "coder"), (0, u "B"), (2, u "hash"), (0, u "I"), (2, u "hashIsZero"), (0, u "Z"), (0, .methodref 10 28), (0, .nameAndType 5 29), (0, u "([CIILjava/lang/Void;)V"), (8, .fieldref 10 39), (0, .nameAndType 40 26), (0, u "COMPACT_STRINGS"), (1, .class_ 44), (1, u "java/lang/StringUTF16"), (0, u "compress"), (1, .methodref 42 48), (0, .nameAndType 49 50), (0, u "coderFromArrayLen"), (0, u "([BI)B"), (56, .class_ 109), (1, u "java/lang/StringLatin1"), (32, u "()Z"), (34, .methodref 42 178), (0, .nameAndType 45 179), (0, u "([CII)[B"), (183, u "([BI)C"), (27, u "(II)V"), (35, u "(I)C"), (64, .methodref 10 493), (0, .nameAndType 494 142), (0, u "isLatin1"), (0, .methodref 107 496), (0, .nameAndType 497 363), (0, u "charAt"), (0, .methodref 42 496), (2, u "checkIndex"), (73, .class_ 576), (0, u "java/lang/CharSequence"), (22, u "CASE_INSENSITIVE_ORDER"), (0, u "Ljava/util/Comparator;"), (409, u "([C)V"), (42, .fieldref 1054 1055), (0, .class_ 1056), (0, .nameAndType 1057 1058), (0, u "jdk/internal/util/Preconditions"), (0, u "SIOOBE_FORMATTER"), (0, u "Ljava/util/function/BiFunction;"), (0, .methodref 1054 1060), (0, .nameAndType 501 1061), (0, u "(IILjava/util/function/BiFunction;)I"), (39, u "serialPersistentFields"), (0, u "[Ljava/io/ObjectStreamField;"), (0, .class_ 1104), (0, u "java/lang/String$CaseInsensitiveComparator"), (1, .class_ 1107), (0, u "java/io/Serializable"), (0, .class_ 1109), (0, u "java/lang/Comparable"), (0, .class_ 1111), (0, u "java/lang/constant/Constable"), (0, .class_ 1113), (0, u "java/lang/constant/ConstantDesc"), (2, u "serialVersionUID"), (0, u "J"), (3, u "REPL"), (0, u "C"), (2, u "LATIN1"), (1, u "UTF16")] 323

def k7m0 : Method := { name := "<init>", desc := "()V", sig := { parameters := [], returnType := none }, accessFlags := 1, code := none }
def k7c1 : Code := { maxStack := 5, maxLocals := 2, code := jdk_42_method_3_code, exceptionTable := #[], attributes := #[] }
def k7m1 : Method := { name := "<init>", desc := "([C)V", sig := { parameters := [(.array .char)], returnType := none }, accessFlags := 1, code := some k7c1 }
def k7c2 : Code := { maxStack := 2, maxLocals := 2, code := jdk_42_method_56_code, exceptionTable := #[], attributes := #[] }
def k7m2 : Method := { name := "charAt", desc := "(I)C", sig := { parameters := [.int], returnType := some .char }, accessFlags := 1, code := some k7c2 }
def k7c3 : Code := { maxStack := 4, maxLocals := 6, code := jdk_42_method_149_code, exceptionTable := #[], attributes := #[] }
def k7m3 : Method := { name := "<init>", desc := "([CIILjava/lang/Void;)V", sig := { parameters := [(.array .char), .int, .int, (.object "java/lang/Void")], returnType := none }, accessFlags := 2, code := some k7c3 }
def k7c4 : Code := { maxStack := 1, maxLocals := 1, code := jdk_42_method_154_code, exceptionTable := #[], attributes := #[] }
def k7m4 : Method := { name := "isLatin1", desc := "()Z", sig := { parameters := [], returnType := some .boolean }, accessFlags := 0, code := some k7c4 }
def k7c5 : Code := { maxStack := 3, maxLocals := 2, code := jdk_42_method_155_code, exceptionTable := #[], attributes := #[] }
def k7m5 : Method := { name := "checkIndex", desc := "(II)V", sig := { parameters := [.int, .int], returnType := none }, accessFlags := 8, code := some k7c5 }
/-- java/lang/String -/
def k7 : Class := { plain "java/lang/String" (some 0) with
  accessFlags := 49
  interfaces := #[2, 3, 4, 5, 6]
  cf := some (fileOf pool7 10 #[.nestMembers #[1103]] #[{ accessFlags := 1, nameIndex := 5, descriptorIndex := 6, attributes := #[] }, { accessFlags := 1, nameIndex := 5, descriptorIndex := 1010, attributes := #[] }, { accessFlags := 1, nameIndex := 497, descriptorIndex := 427, attributes := #[] }, { accessFlags := 2, nameIndex := 5, descriptorIndex := 29, attributes := #[] }, { accessFlags := 0, nameIndex := 494, descriptorIndex := 142, attributes := #[] }, { accessFlags := 8, nameIndex := 501, descriptorIndex := 391, attributes := #[] }] 49 2 #[1106, 1108, 575, 1110, 1112] #[{ accessFlags := 18, nameIndex := 13, descriptorIndex := 14, attributes := #[] }, { accessFlags := 18, nameIndex := 17, descriptorIndex := 18, attributes := #[] }, { accessFlags := 2, nameIndex := 21, descriptorIndex := 22, attributes := #[] }, { accessFlags := 2, nameIndex := 25, descriptorIndex := 26, attributes := #[] }, { accessFlags := 26, nameIndex := 1116, descriptorIndex := 1117, attributes := #[] }, { accessFlags := 24, nameIndex := 40, descriptorIndex := 26, attributes := #[] }, { accessFlags := 26, nameIndex := 1101, descriptorIndex := 1102, attributes := #[] }, { accessFlags := 26, nameIndex := 1121, descriptorIndex := 1122, attributes := #[] }, { accessFlags := 25, nameIndex := 599, descriptorIndex := 600, attributes := #[] }, { accessFlags := 24, nameIndex := 1125, descriptorIndex := 18, attributes := #[] }, { accessFlags := 24, nameIndex := 1127, descriptorIndex := 18, attributes := #[] }])
  fields := #[{ name := "value", type := (.array .byte), accessFlags := 18, slot := 0, constantValue := 0 }, { name := "coder", type := .byte, accessFlags := 18, slot := 1, constantValue := 0 }, { name := "hash", type := .int, accessFlags := 2, slot := 2, constantValue := 0 }, { name := "hashIsZero", type := .boolean, accessFlags := 2, slot := 3, constantValue := 0 }, { name := "serialVersionUID", type := .long, accessFlags := 26, slot := 0, constantValue := 0 }, { name := "COMPACT_STRINGS", type := .boolean, accessFlags := 24, slot := 1, constantValue := 0 }, { name := "serialPersistentFields", type := (.array (.object "java/io/ObjectStreamField")), accessFlags := 26, slot := 2, constantValue := 0 }, { name := "REPL", type := .char, accessFlags := 26, slot := 3, constantValue := 0 }, { name := "CASE_INSENSITIVE_ORDER", type := (.object "java/util/Comparator"), accessFlags := 25, slot := 4, constantValue := 0 }, { name := "LATIN1", type := .byte, accessFlags := 24, slot := 5, constantValue := 0 }, { name := "UTF16", type := .byte, accessFlags := 24, slot := 6, constantValue := 0 }]
  methods := #[k7m0, k7m1, k7m2, k7m3, k7m4, k7m5]
  instanceTypes := #[(.array .byte), .byte, .int, .boolean]
  staticTypes := #[.long, .boolean, (.array (.object "java/io/ObjectStreamField")), .char, (.object "java/util/Comparator"), .byte, .byte]
  resolved := Array.replicate 1451 none
  statics := some 0 }

def pool8 : Array CpInfo := pool [(3, .class_ 4), (0, u "java/lang/String"), (1, .class_ 8), (1, u "java/lang/Object"), (0, u "<init>"), (0, u "()V"), (0, .methodref 12 13), (0, .class_ 14), (0, .nameAndType 15 16), (0, u "java/lang/StringUTF16"), (0, u "newBytesLength"), (0, u "(I)I"), (3, .integer 1073741823), (23, .fieldref 12 45), (0, .nameAndType 46 47), (0, u "$assertionsDisabled"), (0, u "Z"), (0, .methodref 12 49), (0, .nameAndType 50 51), (0, u "length"), (0, u "([B)I"), (7, .fieldref 12 60), (0, .nameAndType 61 62), (0, u "HI_BYTE_SHIFT"), (0, u "I"), (0, .fieldref 12 64), (0, .nameAndType 65 62), (0, u "LO_BYTE_SHIFT"), (1, .methodref 12 68), (0, .nameAndType 69 70), (0, u "checkIndex"), (0, u "(I[B)V"), (0, .methodref 12 72), (0, .nameAndType 73 74), (0, u "getChar"), (0, u "([BI)C"), (32, .methodref 12 108), (0, .nameAndType 109 110), (0, u "newBytesFor"), (0, u "(I)[B"), (0, .methodref 12 112), (0, .nameAndType 113 114), (0, u "putChar"), (0, u "([BII)V"), (0, .methodref 12 116), (0, .nameAndType 117 118), (0, u "compress"), (0, u "([CI[BII)I"), (0, .methodref 12 120), (0, .nameAndType 121 122), (0, u "toBytes"), (0, u "([CII)[B"), (138, u "coderFromArrayLen"), (0, u "([BI)B"), (106, .class_ 371), (1, u "java/lang/StringUTF16$LinesSpliterator"), (20, u "charAt"), (21, .methodref 3 415), (0, .nameAndType 69 416), (0, u "(II)V"), (13, u "MAX_LENGTH"), (196, .class_ 628), (0, u "java/lang/StringUTF16$CodePointsSpliterator"), (0, .class_ 630), (0, u "java/lang/StringUTF16$CharsSpliterator")] 4

def k8m0 : Method := { name := "<init>", desc := "()V", sig := { parameters := [], returnType := none }, accessFlags := 0, code := none }
def k8c1 : Code := { maxStack := 1, maxLocals := 1, code := jdk_52_method_2_code, exceptionTable := #[], attributes := #[] }
def k8m1 : Method := { name := "newBytesFor", desc := "(I)[B", sig := { parameters := [.int], returnType := some (.array .byte) }, accessFlags := 9, code := some k8c1 }
def k8c2 : Code := { maxStack := 4, maxLocals := 1, code := jdk_52_method_3_code, exceptionTable := #[], attributes := #[] }
def k8m2 : Method := { name := "newBytesLength", desc := "(I)I", sig := { parameters := [.int], returnType := some .int }, accessFlags := 9, code := some k8c2 }
def k8c3 : Code := { maxStack := 4, maxLocals := 3, code := jdk_52_method_4_code, exceptionTable := #[], attributes := #[] }
def k8m3 : Method := { name := "putChar", desc := "([BII)V", sig := { parameters := [(.array .byte), .int, .int], returnType := none }, accessFlags := 8, code := some k8c3 }
def k8c4 : Code := { maxStack := 3, maxLocals := 2, code := jdk_52_method_5_code, exceptionTable := #[], attributes := #[] }
def k8m4 : Method := { name := "getChar", desc := "([BI)C", sig := { parameters := [(.array .byte), .int], returnType := some .char }, accessFlags := 8, code := some k8c4 }
def k8c5 : Code := { maxStack := 2, maxLocals := 1, code := jdk_52_method_6_code, exceptionTable := #[], attributes := #[] }
def k8m5 : Method := { name := "length", desc := "([B)I", sig := { parameters := [(.array .byte)], returnType := some .int }, accessFlags := 9, code := some k8c5 }
def k8c6 : Code := { maxStack := 4, maxLocals := 5, code := jdk_52_method_14_code, exceptionTable := #[], attributes := #[] }
def k8m6 : Method := { name := "toBytes", desc := "([CII)[B", sig := { parameters := [(.array .char), .int, .int], returnType := some (.array .byte) }, accessFlags := 9, code := some k8c6 }
def k8c7 : Code := { maxStack := 2, maxLocals := 2, code := jdk_52_method_15_code, exceptionTable := #[], attributes := #[] }
def k8m7 : Method := { name := "coderFromArrayLen", desc := "([BI)B", sig := { parameters := [(.array .byte), .int], returnType := some .byte }, accessFlags := 8, code := some k8c7 }
def k8c8 : Code := { maxStack := 5, maxLocals := 6, code := jdk_52_method_16_code, exceptionTable := #[], attributes := #[] }
def k8m8 : Method := { name := "compress", desc := "([CII)[B", sig := { parameters := [(.array .char), .int, .int], returnType := some (.array .byte) }, accessFlags := 9, code := some k8c8 }
def k8c9 : Code := { maxStack := 3, maxLocals := 7, code := jdk_52_method_21_code, exceptionTable := #[], attributes := #[] }
def k8m9 : Method := { name := "compress", desc := "([CI[BII)I", sig := { parameters := [(.array .char), .int, (.array .byte), .int, .int], returnType := some .int }, accessFlags := 9, code := some k8c9 }
def k8c10 : Code := { maxStack := 2, maxLocals := 2, code := jdk_52_method_83_code, exceptionTable := #[], attributes := #[] }
def k8m10 : Method := { name := "charAt", desc := "([BI)C", sig := { parameters := [(.array .byte), .int], returnType := some .char }, accessFlags := 9, code := some k8c10 }
def k8c11 : Code := { maxStack := 2, maxLocals := 2, code := jdk_52_method_91_code, exceptionTable := #[], attributes := #[] }
def k8m11 : Method := { name := "checkIndex", desc := "(I[B)V", sig := { parameters := [.int, (.array .byte)], returnType := none }, accessFlags := 9, code := some k8c11 }
/-- java/lang/StringUTF16 -/
def k8 : Class := { plain "java/lang/StringUTF16" (some 0) with
  accessFlags := 48
  interfaces := #[]
  cf := some (fileOf pool8 12 #[.nestMembers #[627, 629, 369]] #[{ accessFlags := 0, nameIndex := 9, descriptorIndex := 10, attributes := #[] }, { accessFlags := 9, nameIndex := 109, descriptorIndex := 110, attributes := #[] }, { accessFlags := 9, nameIndex := 15, descriptorIndex := 16, attributes := #[] }, { accessFlags := 8, nameIndex := 113, descriptorIndex := 114, attributes := #[] }, { accessFlags := 8, nameIndex := 73, descriptorIndex := 74, attributes := #[] }, { accessFlags := 9, nameIndex := 50, descriptorIndex := 51, attributes := #[] }, { accessFlags := 9, nameIndex := 121, descriptorIndex := 122, attributes := #[] }, { accessFlags := 8, nameIndex := 261, descriptorIndex := 262, attributes := #[] }, { accessFlags := 9, nameIndex := 117, descriptorIndex := 122, attributes := #[] }, { accessFlags := 9, nameIndex := 117, descriptorIndex := 118, attributes := #[] }, { accessFlags := 9, nameIndex := 392, descriptorIndex := 74, attributes := #[] }, { accessFlags := 9, nameIndex := 69, descriptorIndex := 70, attributes := #[] }] 48 6 #[] #[{ accessFlags := 26, nameIndex := 61, descriptorIndex := 62, attributes := #[] }, { accessFlags := 26, nameIndex := 65, descriptorIndex := 62, attributes := #[] }, { accessFlags := 24, nameIndex := 430, descriptorIndex := 62, attributes := #[] }, { accessFlags := 4120, nameIndex := 46, descriptorIndex := 47, attributes := #[] }])
  fields := #[{ name := "HI_BYTE_SHIFT", type := .int, accessFlags := 26, slot := 0, constantValue := 0 }, { name := "LO_BYTE_SHIFT", type := .int, accessFlags := 26, slot := 1, constantValue := 0 }, { name := "MAX_LENGTH", type := .int, accessFlags := 24, slot := 2, constantValue := 0 }, { name := "$assertionsDisabled", type := .boolean, accessFlags := 4120, slot := 3, constantValue := 0 }]
  methods := #[k8m0, k8m1, k8m2, k8m3, k8m4, k8m5, k8m6, k8m7, k8m8, k8m9, k8m10, k8m11]
  instanceTypes := #[]
  staticTypes := #[.int, .int, .int, .boolean]
  resolved := Array.replicate 635 none
  statics := some 1 }

def pool9 : Array CpInfo := pool [(2, .class_ 4), (1, u "java/lang/Object"), (0, u "<init>"), (0, u "()V"), (1, .class_ 10), (1, u "com/example/disallow/disallow/UrlPath"), (4, u "schemeLength"), (0, u "(Ljava/lang/String;I)I"), (3, .class_ 22), (1, u "java/lang/String"), (43, .methodref 20 67), (0, .nameAndType 68 69), (0, u "charAt"), (0, u "(I)C"), (0, .methodref 8 71), (0, .nameAndType 72 73), (0, u "isAsciiLetter"), (0, u "(C)Z")] 21

def k9m0 : Method := { name := "<init>", desc := "()V", sig := { parameters := [], returnType := none }, accessFlags := 2, code := none }
def k9c1 : Code := { maxStack := 2, maxLocals := 4, code := prog_24_method_4_code, exceptionTable := #[], attributes := #[] }
def k9m1 : Method := { name := "schemeLength", desc := "(Ljava/lang/String;I)I", sig := { parameters := [(.object "java/lang/String"), .int], returnType := some .int }, accessFlags := 8, code := some k9c1 }
def k9c2 : Code := { maxStack := 2, maxLocals := 1, code := prog_24_method_6_code, exceptionTable := #[], attributes := #[] }
def k9m2 : Method := { name := "isAsciiLetter", desc := "(C)Z", sig := { parameters := [.char], returnType := some .boolean }, accessFlags := 10, code := some k9c2 }
/-- com/example/disallow/disallow/UrlPath -/
def k9 : Class := { plain "com/example/disallow/disallow/UrlPath" (some 0) with
  accessFlags := 48
  interfaces := #[]
  cf := some (fileOf pool9 8 #[] #[{ accessFlags := 2, nameIndex := 5, descriptorIndex := 6, attributes := #[] }, { accessFlags := 8, nameIndex := 15, descriptorIndex := 16, attributes := #[] }, { accessFlags := 10, nameIndex := 72, descriptorIndex := 73, attributes := #[] }] 48 2 #[] #[])
  fields := #[]
  methods := #[k9m0, k9m1, k9m2]
  instanceTypes := #[]
  staticTypes := #[]
  resolved := Array.replicate 95 none
  statics := none }

def pool10 : Array CpInfo := pool [(1, .class_ 2), (0, u "java/lang/String"), (1, .class_ 6), (1, u "java/lang/Object"), (0, u "<init>"), (0, u "()V"), (0, .methodref 1 10), (0, .nameAndType 11 12), (0, u "checkIndex"), (0, u "(II)V"), (1, .class_ 16), (1, u "java/lang/StringLatin1"), (36, u "([BI)C"), (67, u "$assertionsDisabled"), (0, u "Z"), (98, .class_ 223), (1, u "java/lang/StringLatin1$LinesSpliterator"), (28, u "charAt"), (137, .class_ 391), (0, u "java/lang/StringLatin1$CharsSpliterator")] 3

def k10m0 : Method := { name := "<init>", desc := "()V", sig := { parameters := [], returnType := none }, accessFlags := 0, code := none }
def k10c1 : Code := { maxStack := 2, maxLocals := 2, code := jdk_43_method_2_code, exceptionTable := #[], attributes := #[] }
def k10m1 : Method := { name := "charAt", desc := "([BI)C", sig := { parameters := [(.array .byte), .int], returnType := some .char }, accessFlags := 9, code := some k10c1 }
/-- java/lang/StringLatin1 -/
def k10 : Class := { plain "java/lang/StringLatin1" (some 0) with
  accessFlags := 48
  interfaces := #[]
  cf := some (fileOf pool10 14 #[.nestMembers #[390, 221]] #[{ accessFlags := 0, nameIndex := 7, descriptorIndex := 8, attributes := #[] }, { accessFlags := 9, nameIndex := 252, descriptorIndex := 53, attributes := #[] }] 48 4 #[] #[{ accessFlags := 4120, nameIndex := 121, descriptorIndex := 122, attributes := #[] }])
  fields := #[{ name := "$assertionsDisabled", type := .boolean, accessFlags := 4120, slot := 0, constantValue := 0 }]
  methods := #[k10m0, k10m1]
  instanceTypes := #[]
  staticTypes := #[.boolean]
  resolved := Array.replicate 395 none
  statics := none }

def pool11 : Array CpInfo := pool [(2, .class_ 4), (1, u "java/lang/Object"), (0, u "<init>"), (0, u "()V"), (17, .class_ 26), (1, u "jdk/internal/util/Preconditions"), (6, u "checkIndex"), (21, .class_ 56), (0, u "jdk/internal/util/Preconditions$4"), (57, .class_ 115), (0, u "jdk/internal/util/Preconditions$1"), (7, u "SIOOBE_FORMATTER"), (0, u "Ljava/util/function/BiFunction;"), (0, .class_ 126), (0, u "jdk/internal/util/Preconditions$2"), (3, u "AIOOBE_FORMATTER"), (0, .class_ 132), (0, u "jdk/internal/util/Preconditions$3"), (3, u "IOOBE_FORMATTER"), (41, u "(IILjava/util/function/BiFunction;)I")] 15

def k11m0 : Method := { name := "<init>", desc := "()V", sig := { parameters := [], returnType := none }, accessFlags := 1, code := none }
def k11c1 : Code := { maxStack := 3, maxLocals := 3, code := jdk_41_method_11_code, exceptionTable := #[], attributes := #[] }
def k11m1 : Method := { name := "checkIndex", desc := "(IILjava/util/function/BiFunction;)I", sig := { parameters := [.int, .int, (.object "java/util/function/BiFunction")], returnType := some .int }, accessFlags := 9, code := some k11c1 }
/-- jdk/internal/util/Preconditions -/
def k11 : Class := { plain "jdk/internal/util/Preconditions" (some 0) with
  accessFlags := 33
  interfaces := #[]
  cf := some (fileOf pool11 24 #[.nestMembers #[55, 131, 125, 114]] #[{ accessFlags := 1, nameIndex := 5, descriptorIndex := 6, attributes := #[] }, { accessFlags := 9, nameIndex := 33, descriptorIndex := 178, attributes := #[] }] 33 2 #[] #[{ accessFlags := 25, nameIndex := 123, descriptorIndex := 124, attributes := #[] }, { accessFlags := 25, nameIndex := 130, descriptorIndex := 124, attributes := #[] }, { accessFlags := 25, nameIndex := 136, descriptorIndex := 124, attributes := #[] }])
  fields := #[{ name := "SIOOBE_FORMATTER", type := (.object "java/util/function/BiFunction"), accessFlags := 25, slot := 0, constantValue := 0 }, { name := "AIOOBE_FORMATTER", type := (.object "java/util/function/BiFunction"), accessFlags := 25, slot := 1, constantValue := 0 }, { name := "IOOBE_FORMATTER", type := (.object "java/util/function/BiFunction"), accessFlags := 25, slot := 2, constantValue := 0 }]
  methods := #[k11m0, k11m1]
  instanceTypes := #[]
  staticTypes := #[(.object "java/util/function/BiFunction"), (.object "java/util/function/BiFunction"), (.object "java/util/function/BiFunction")]
  resolved := Array.replicate 194 none
  statics := some 2 }

def pool12 : Array CpInfo := pool [(9, u "<init>"), (6, .class_ 18), (1, u "java/lang/Object"), (0, u "()V"), (1, .class_ 23), (1, u "jdk/internal/util/ArraysSupport"), (0, u "LOG2_ARRAY_LONG_INDEX_SCALE"), (0, u "I"), (2, u "U"), (0, u "Ljdk/internal/misc/Unsafe;"), (8, u "BIG_ENDIAN"), (0, u "Z"), (8, u "LOG2_BYTE_BIT_SIZE"), (4, u "LOG2_ARRAY_INT_INDEX_SCALE"), (54, u "JLA"), (0, u "Ljdk/internal/access/JavaLangAccess;"), (11, u "LOG2_ARRAY_BOOLEAN_INDEX_SCALE"), (9, u "LOG2_ARRAY_BYTE_INDEX_SCALE"), (5, u "LOG2_ARRAY_CHAR_INDEX_SCALE"), (5, u "LOG2_ARRAY_SHORT_INDEX_SCALE"), (18, u "LOG2_ARRAY_FLOAT_INDEX_SCALE"), (24, u "LOG2_ARRAY_DOUBLE_INDEX_SCALE"), (89, u "T_BOOLEAN"), (2, u "T_CHAR"), (1, u "T_FLOAT"), (1, u "T_DOUBLE"), (1, u "T_BYTE"), (1, u "T_SHORT"), (1, u "T_INT"), (1, u "T_LONG"), (1, u "SOFT_MAX_ARRAY_LENGTH")] 83

def k12m0 : Method := { name := "<init>", desc := "()V", sig := { parameters := [], returnType := none }, accessFlags := 2, code := none }
/-- jdk/internal/util/ArraysSupport -/
def k12 : Class := { plain "jdk/internal/util/ArraysSupport" (some 0) with
  accessFlags := 33
  interfaces := #[]
  cf := some (fileOf pool12 21 #[] #[{ accessFlags := 2, nameIndex := 9, descriptorIndex := 19, attributes := #[] }] 33 16 #[] #[{ accessFlags := 24, nameIndex := 28, descriptorIndex := 29, attributes := #[] }, { accessFlags := 26, nameIndex := 38, descriptorIndex := 39, attributes := #[] }, { accessFlags := 25, nameIndex := 121, descriptorIndex := 25, attributes := #[] }, { accessFlags := 25, nameIndex := 131, descriptorIndex := 25, attributes := #[] }, { accessFlags := 25, nameIndex := 137, descriptorIndex := 25, attributes := #[] }, { accessFlags := 25, nameIndex := 143, descriptorIndex := 25, attributes := #[] }, { accessFlags := 25, nameIndex := 53, descriptorIndex := 25, attributes := #[] }, { accessFlags := 25, nameIndex := 24, descriptorIndex := 25, attributes := #[] }, { accessFlags := 25, nameIndex := 162, descriptorIndex := 25, attributes := #[] }, { accessFlags := 25, nameIndex := 187, descriptorIndex := 25, attributes := #[] }, { accessFlags := 26, nameIndex := 48, descriptorIndex := 25, attributes := #[] }, { accessFlags := 25, nameIndex := 277, descriptorIndex := 25, attributes := #[] }, { accessFlags := 25, nameIndex := 280, descriptorIndex := 25, attributes := #[] }, { accessFlags := 25, nameIndex := 282, descriptorIndex := 25, attributes := #[] }, { accessFlags := 25, nameIndex := 284, descriptorIndex := 25, attributes := #[] }, { accessFlags := 25, nameIndex := 286, descriptorIndex := 25, attributes := #[] }, { accessFlags := 25, nameIndex := 288, descriptorIndex := 25, attributes := #[] }, { accessFlags := 25, nameIndex := 290, descriptorIndex := 25, attributes := #[] }, { accessFlags := 25, nameIndex := 292, descriptorIndex := 25, attributes := #[] }, { accessFlags := 26, nameIndex := 108, descriptorIndex := 109, attributes := #[] }, { accessFlags := 25, nameIndex := 294, descriptorIndex := 25, attributes := #[] }])
  fields := #[{ name := "U", type := (.object "jdk/internal/misc/Unsafe"), accessFlags := 24, slot := 0, constantValue := 0 }, { name := "BIG_ENDIAN", type := .boolean, accessFlags := 26, slot := 1, constantValue := 0 }, { name := "LOG2_ARRAY_BOOLEAN_INDEX_SCALE", type := .int, accessFlags := 25, slot := 2, constantValue := 0 }, { name := "LOG2_ARRAY_BYTE_INDEX_SCALE", type := .int, accessFlags := 25, slot := 3, constantValue := 0 }, { name := "LOG2_ARRAY_CHAR_INDEX_SCALE", type := .int, accessFlags := 25, slot := 4, constantValue := 0 }, { name := "LOG2_ARRAY_SHORT_INDEX_SCALE", type := .int, accessFlags := 25, slot := 5, constantValue := 0 }, { name := "LOG2_ARRAY_INT_INDEX_SCALE", type := .int, accessFlags := 25, slot := 6, constantValue := 0 }, { name := "LOG2_ARRAY_LONG_INDEX_SCALE", type := .int, accessFlags := 25, slot := 7, constantValue := 0 }, { name := "LOG2_ARRAY_FLOAT_INDEX_SCALE", type := .int, accessFlags := 25, slot := 8, constantValue := 0 }, { name := "LOG2_ARRAY_DOUBLE_INDEX_SCALE", type := .int, accessFlags := 25, slot := 9, constantValue := 0 }, { name := "LOG2_BYTE_BIT_SIZE", type := .int, accessFlags := 26, slot := 10, constantValue := 0 }, { name := "T_BOOLEAN", type := .int, accessFlags := 25, slot := 11, constantValue := 0 }, { name := "T_CHAR", type := .int, accessFlags := 25, slot := 12, constantValue := 0 }, { name := "T_FLOAT", type := .int, accessFlags := 25, slot := 13, constantValue := 0 }, { name := "T_DOUBLE", type := .int, accessFlags := 25, slot := 14, constantValue := 0 }, { name := "T_BYTE", type := .int, accessFlags := 25, slot := 15, constantValue := 0 }, { name := "T_SHORT", type := .int, accessFlags := 25, slot := 16, constantValue := 0 }, { name := "T_INT", type := .int, accessFlags := 25, slot := 17, constantValue := 0 }, { name := "T_LONG", type := .int, accessFlags := 25, slot := 18, constantValue := 0 }, { name := "JLA", type := (.object "jdk/internal/access/JavaLangAccess"), accessFlags := 26, slot := 19, constantValue := 0 }, { name := "SOFT_MAX_ARRAY_LENGTH", type := .int, accessFlags := 25, slot := 20, constantValue := 0 }]
  methods := #[k12m0]
  instanceTypes := #[]
  staticTypes := #[(.object "jdk/internal/misc/Unsafe"), .boolean, .int, .int, .int, .int, .int, .int, .int, .int, .int, .int, .int, .int, .int, .int, .int, .int, .int, (.object "jdk/internal/access/JavaLangAccess"), .int]
  resolved := Array.replicate 378 none
  statics := none }

def pool13 : Array CpInfo := pool [(1, u "java/lang/Cloneable"), (0, .class_ 1), (0, u "java/lang/Object"), (0, .class_ 3)] 3

/-- java/lang/Cloneable -/
def k13 : Class := { plain "java/lang/Cloneable" (some 0) with
  accessFlags := 1537
  interfaces := #[]
  cf := some (fileOf pool13 2 #[] #[] 1537 4 #[] #[])
  fields := #[]
  methods := #[]
  instanceTypes := #[]
  staticTypes := #[]
  resolved := Array.replicate 8 none
  statics := none }

/-- the primitive byte -/
def k14 : Class := { plain "byte" none with kind := .primitive 'B', accessFlags := 0x411 }
/-- [B -/
def k15 : Class := { plain "[B" (some 0) with kind := .array 14 .byte, interfaces := #[13, 2], accessFlags := 1041 }

/-- the primitive char -/
def k16 : Class := { plain "char" none with kind := .primitive 'C', accessFlags := 0x411 }
/-- [C -/
def k17 : Class := { plain "[C" (some 0) with kind := .array 16 .char, interfaces := #[13, 2], accessFlags := 1041 }

/-- the primitive int -/
def k18 : Class := { plain "int" none with kind := .primitive 'I', accessFlags := 0x411 }
/-- [I -/
def k19 : Class := { plain "[I" (some 0) with kind := .array 18 .int, interfaces := #[13, 2], accessFlags := 1041 }

def heap : Heap := #[{ cls := 7, slots := #[.long 0, .int 1, .null, .int 0, .null, .int 0, .int 0], vm := .statics 7 },
  { cls := 8, slots := #[.int 0, .int 8, .int 0, .int 1], vm := .statics 8 },
  { cls := 11, slots := #[.null, .null, .null], vm := .statics 11 }]
def classes : Array Class := #[k0, k1, k2, k3, k4, k5, k6, k7, k8, k9, k10, k11, k12, k13, k14, k15, k16, k17, k18, k19]
def interned : List (Array UInt16 × Addr) := []
def slotsUsed : Nat := 14
def theMethod : MethodId := ⟨1, 4⟩
def args0 : Array Value := #[.int 97, .int 58, .int 400, .int 65, .int 66, .int 5]
def aboutOver (below : List Frame) : State where
  vm := { classes := classes, interned := interned.toArray }
  heap := heap
  slotsUsed := slotsUsed
  threads := #[{ frames := .invoking theMethod args0 :: below }]
def below0 : List Frame := [.native { method := ⟨0, 0⟩, args := #[] }]
def about1 : State := aboutOver below0
def p0 : Program := .bare "" "" ""
def e0 : Env := launch0.env 0 0 0
theorem w_frames : about1.frames = Frame.invoking theMethod args0 :: below0 := rfl
set_option maxRecDepth 65536 in
theorem w_args : argsFit about1.vm theMethod args0 = true := by decide +kernel
set_option maxRecDepth 65536 in
theorem w_heap : heapFits about1 = true := by decide +kernel
set_option maxRecDepth 65536 in
theorem w_runnable : about1.curStatus? = some .runnable := by decide +kernel
set_option maxRecDepth 65536 in
theorem w_alone : about1.alone = true := by decide +kernel
set_option maxRecDepth 65536 in
theorem w_named : about1.methodNamed? x = some theMethod := by decide +kernel
set_option maxRecDepth 65536 in
theorem w_hears : about1.hears theMethod below0 = true := by decide +kernel
set_option maxRecDepth 65536 in
theorem w_ripe : about1.ripe theMethod args0 below0 = true := by decide +kernel
theorem w_running : about1.status = .running := rfl
set_option maxRecDepth 65536 in
theorem w_room : about1.hasRoom e0.platform room_1 = true :=
  launch0.hasRoom_least _ room_1 (by decide +kernel) (by decide +kernel) (by decide +kernel) (by decide +kernel) (by decide +kernel) (by decide +kernel)
theorem allAtoms_all (ts : List Jvm.Cond) (a : Array Jvm.Value) (st : Jvm.State) : (allAtoms ts).before a st = ts.all (fun c => c.before a st) := by
  induction ts with
  | nil => rfl
  | cons c t ih =>
    show (Jvm.Cond.and c (allAtoms t)).before a st = _
    rw [Jvm.Cond.before_and, ih, List.all_cons]
def words1 : List Jvm.Cond := Jvm.Cond.code x code maxLocals ret :: tables_1
/-- a 'code' word, met by the world's own term for the bytes: nothing is compared byte by byte -/
theorem code_word {y : MethodName} {bytes : ByteArray} {mx : Nat} {rt : Option FieldType} {a : Array Value} {s : State} {m : MethodId} {meth : Method} {c : Code} (h1 : s.methodNamed? y = some m) (h2 : s.vm.method? m = some meth) (h3 : meth.code = some c) (h4 : c.code = bytes)
    (h5 : (c.maxLocals == mx && c.exceptionTable.isEmpty && decide (c.maxStack ≤ mostOperands) && decide (meth.sig.returnType = rt) && !meth.locks && decide (parseMethodDescriptor y.desc = some meth.sig)) = true) : (Jvm.Cond.code y bytes mx rt).before a s = true := by
  simp only [Bool.and_eq_true, beq_iff_eq, Bool.not_eq_true', decide_eq_true_eq] at h5
  obtain ⟨⟨⟨⟨⟨g1, g2⟩, g3⟩, g4⟩, g5⟩, g6⟩ := h5
  simp [Cond.before, Cond.holds, Cond.value, h1, h2, h3, h4, g1, g2, g3, g4, g5, g6]
def isCode : Jvm.Cond → Bool
  | .code _ _ _ _ => true
  | _ => false
theorem all_split {L : List Jvm.Cond} {P : Jvm.Cond → Bool} (h1 : L.all (fun c => isCode c || P c) = true) (h2 : ∀ c ∈ L.filter isCode, P c = true) : L.all P = true := by
  refine List.all_eq_true.mpr fun c hc => ?_
  have h := List.all_eq_true.mp h1 c hc
  rcases Bool.eq_false_or_eq_true (isCode c) with hi | hi
  · exact h2 c (List.mem_filter.mpr ⟨hc, hi⟩)
  · simpa [hi] using h
set_option maxRecDepth 65536 in
theorem w_c0 : (Jvm.Cond.code x code maxLocals ret).before args0 about1 = true := code_word (m := ⟨1, 4⟩) (meth := k1m4) (c := k1c4) (by decide +kernel) rfl rfl rfl (by decide +kernel)
set_option maxRecDepth 65536 in
theorem w_c1 : (Jvm.Cond.code ({ cls := "com/example/disallow/disallow/UrlPathSchemeLengthPinLaw", name := "pick", desc := "(I[C)C" } : Jvm.MethodName) method_2_code (2 : Nat) (Option.some Jvm.ClassFile.FieldType.char)).before args0 about1 = true := code_word (m := ⟨1, 1⟩) (meth := k1m1) (c := k1c1) (by decide +kernel) rfl rfl rfl (by decide +kernel)
set_option maxRecDepth 65536 in
theorem w_c2 : (Jvm.Cond.code ({ cls := "java/lang/String", name := "<init>", desc := "([C)V" } : Jvm.MethodName) jdk_42_method_3_code (2 : Nat) (Option.none : Option Jvm.ClassFile.FieldType)).before args0 about1 = true := code_word (m := ⟨7, 1⟩) (meth := k7m1) (c := k7c1) (by decide +kernel) rfl rfl rfl (by decide +kernel)
set_option maxRecDepth 65536 in
theorem w_c3 : (Jvm.Cond.code ({ cls := "java/lang/String", name := "<init>", desc := "([CIILjava/lang/Void;)V" } : Jvm.MethodName) jdk_42_method_149_code (6 : Nat) (Option.none : Option Jvm.ClassFile.FieldType)).before args0 about1 = true := code_word (m := ⟨7, 3⟩) (meth := k7m3) (c := k7c3) (by decide +kernel) rfl rfl rfl (by decide +kernel)
set_option maxRecDepth 65536 in
theorem w_c4 : (Jvm.Cond.code ({ cls := "java/lang/Object", name := "<init>", desc := "()V" } : Jvm.MethodName) object_method_1_code (1 : Nat) (Option.none : Option Jvm.ClassFile.FieldType)).before args0 about1 = true := code_word (m := ⟨0, 0⟩) (meth := k0m0) (c := k0c0) (by decide +kernel) rfl rfl rfl (by decide +kernel)
set_option maxRecDepth 65536 in
theorem w_c5 : (Jvm.Cond.code ({ cls := "java/lang/StringUTF16", name := "compress", desc := "([CII)[B" } : Jvm.MethodName) jdk_52_method_16_code (6 : Nat) (Option.some (Jvm.ClassFile.FieldType.array Jvm.ClassFile.FieldType.byte))).before args0 about1 = true := code_word (m := ⟨8, 8⟩) (meth := k8m8) (c := k8c8) (by decide +kernel) rfl rfl rfl (by decide +kernel)
set_option maxRecDepth 65536 in
theorem w_c6 : (Jvm.Cond.code ({ cls := "java/lang/StringUTF16", name := "compress", desc := "([CI[BII)I" } : Jvm.MethodName) jdk_52_method_21_code (7 : Nat) (Option.some Jvm.ClassFile.FieldType.int)).before args0 about1 = true := code_word (m := ⟨8, 9⟩) (meth := k8m9) (c := k8c9) (by decide +kernel) rfl rfl rfl (by decide +kernel)
set_option maxRecDepth 65536 in
theorem w_c7 : (Jvm.Cond.code ({ cls := "java/lang/StringUTF16", name := "coderFromArrayLen", desc := "([BI)B" } : Jvm.MethodName) jdk_52_method_15_code (2 : Nat) (Option.some Jvm.ClassFile.FieldType.byte)).before args0 about1 = true := code_word (m := ⟨8, 7⟩) (meth := k8m7) (c := k8c7) (by decide +kernel) rfl rfl rfl (by decide +kernel)
set_option maxRecDepth 65536 in
theorem w_c8 : (Jvm.Cond.code ({ cls := "com/example/disallow/disallow/UrlPath", name := "schemeLength", desc := "(Ljava/lang/String;I)I" } : Jvm.MethodName) prog_24_method_4_code (4 : Nat) (Option.some Jvm.ClassFile.FieldType.int)).before args0 about1 = true := code_word (m := ⟨9, 1⟩) (meth := k9m1) (c := k9c1) (by decide +kernel) rfl rfl rfl (by decide +kernel)
set_option maxRecDepth 65536 in
theorem w_c9 : (Jvm.Cond.code ({ cls := "java/lang/String", name := "charAt", desc := "(I)C" } : Jvm.MethodName) jdk_42_method_56_code (2 : Nat) (Option.some Jvm.ClassFile.FieldType.char)).before args0 about1 = true := code_word (m := ⟨7, 2⟩) (meth := k7m2) (c := k7c2) (by decide +kernel) rfl rfl rfl (by decide +kernel)
set_option maxRecDepth 65536 in
theorem w_c10 : (Jvm.Cond.code ({ cls := "java/lang/String", name := "isLatin1", desc := "()Z" } : Jvm.MethodName) jdk_42_method_154_code (1 : Nat) (Option.some Jvm.ClassFile.FieldType.boolean)).before args0 about1 = true := code_word (m := ⟨7, 4⟩) (meth := k7m4) (c := k7c4) (by decide +kernel) rfl rfl rfl (by decide +kernel)
set_option maxRecDepth 65536 in
theorem w_c11 : (Jvm.Cond.code ({ cls := "java/lang/StringLatin1", name := "charAt", desc := "([BI)C" } : Jvm.MethodName) jdk_43_method_2_code (2 : Nat) (Option.some Jvm.ClassFile.FieldType.char)).before args0 about1 = true := code_word (m := ⟨10, 1⟩) (meth := k10m1) (c := k10c1) (by decide +kernel) rfl rfl rfl (by decide +kernel)
set_option maxRecDepth 65536 in
theorem w_c12 : (Jvm.Cond.code ({ cls := "java/lang/String", name := "checkIndex", desc := "(II)V" } : Jvm.MethodName) jdk_42_method_155_code (2 : Nat) (Option.none : Option Jvm.ClassFile.FieldType)).before args0 about1 = true := code_word (m := ⟨7, 5⟩) (meth := k7m5) (c := k7c5) (by decide +kernel) rfl rfl rfl (by decide +kernel)
set_option maxRecDepth 65536 in
theorem w_c13 : (Jvm.Cond.code ({ cls := "jdk/internal/util/Preconditions", name := "checkIndex", desc := "(IILjava/util/function/BiFunction;)I" } : Jvm.MethodName) jdk_41_method_11_code (3 : Nat) (Option.some Jvm.ClassFile.FieldType.int)).before args0 about1 = true := code_word (m := ⟨11, 1⟩) (meth := k11m1) (c := k11c1) (by decide +kernel) rfl rfl rfl (by decide +kernel)
set_option maxRecDepth 65536 in
theorem w_c14 : (Jvm.Cond.code ({ cls := "com/example/disallow/disallow/UrlPath", name := "isAsciiLetter", desc := "(C)Z" } : Jvm.MethodName) prog_24_method_6_code (1 : Nat) (Option.some Jvm.ClassFile.FieldType.boolean)).before args0 about1 = true := code_word (m := ⟨9, 2⟩) (meth := k9m2) (c := k9c2) (by decide +kernel) rfl rfl rfl (by decide +kernel)
set_option maxRecDepth 65536 in
theorem w_c15 : (Jvm.Cond.code ({ cls := "com/example/disallow/disallow/UrlPathSchemeLengthPinLaw", name := "letter", desc := "(C)Z" } : Jvm.MethodName) method_3_code (1 : Nat) (Option.some Jvm.ClassFile.FieldType.boolean)).before args0 about1 = true := code_word (m := ⟨1, 2⟩) (meth := k1m2) (c := k1c2) (by decide +kernel) rfl rfl rfl (by decide +kernel)
set_option maxRecDepth 65536 in
theorem w_c16 : (Jvm.Cond.code ({ cls := "java/lang/StringUTF16", name := "toBytes", desc := "([CII)[B" } : Jvm.MethodName) jdk_52_method_14_code (5 : Nat) (Option.some (Jvm.ClassFile.FieldType.array Jvm.ClassFile.FieldType.byte))).before args0 about1 = true := code_word (m := ⟨8, 6⟩) (meth := k8m6) (c := k8c6) (by decide +kernel) rfl rfl rfl (by decide +kernel)
set_option maxRecDepth 65536 in
theorem w_c17 : (Jvm.Cond.code ({ cls := "java/lang/StringUTF16", name := "newBytesFor", desc := "(I)[B" } : Jvm.MethodName) jdk_52_method_2_code (1 : Nat) (Option.some (Jvm.ClassFile.FieldType.array Jvm.ClassFile.FieldType.byte))).before args0 about1 = true := code_word (m := ⟨8, 1⟩) (meth := k8m1) (c := k8c1) (by decide +kernel) rfl rfl rfl (by decide +kernel)
set_option maxRecDepth 65536 in
theorem w_c18 : (Jvm.Cond.code ({ cls := "java/lang/StringUTF16", name := "newBytesLength", desc := "(I)I" } : Jvm.MethodName) jdk_52_method_3_code (1 : Nat) (Option.some Jvm.ClassFile.FieldType.int)).before args0 about1 = true := code_word (m := ⟨8, 2⟩) (meth := k8m2) (c := k8c2) (by decide +kernel) rfl rfl rfl (by decide +kernel)
set_option maxRecDepth 65536 in
theorem w_c19 : (Jvm.Cond.code ({ cls := "java/lang/StringUTF16", name := "putChar", desc := "([BII)V" } : Jvm.MethodName) jdk_52_method_4_code (3 : Nat) (Option.none : Option Jvm.ClassFile.FieldType)).before args0 about1 = true := code_word (m := ⟨8, 3⟩) (meth := k8m3) (c := k8c3) (by decide +kernel) rfl rfl rfl (by decide +kernel)
set_option maxRecDepth 65536 in
theorem w_c20 : (Jvm.Cond.code ({ cls := "java/lang/StringUTF16", name := "getChar", desc := "([BI)C" } : Jvm.MethodName) jdk_52_method_5_code (2 : Nat) (Option.some Jvm.ClassFile.FieldType.char)).before args0 about1 = true := code_word (m := ⟨8, 4⟩) (meth := k8m4) (c := k8c4) (by decide +kernel) rfl rfl rfl (by decide +kernel)
set_option maxRecDepth 65536 in
theorem w_c21 : (Jvm.Cond.code ({ cls := "java/lang/StringUTF16", name := "charAt", desc := "([BI)C" } : Jvm.MethodName) jdk_52_method_83_code (2 : Nat) (Option.some Jvm.ClassFile.FieldType.char)).before args0 about1 = true := code_word (m := ⟨8, 10⟩) (meth := k8m10) (c := k8c10) (by decide +kernel) rfl rfl rfl (by decide +kernel)
set_option maxRecDepth 65536 in
theorem w_c22 : (Jvm.Cond.code ({ cls := "java/lang/StringUTF16", name := "checkIndex", desc := "(I[B)V" } : Jvm.MethodName) jdk_52_method_91_code (2 : Nat) (Option.none : Option Jvm.ClassFile.FieldType)).before args0 about1 = true := code_word (m := ⟨8, 11⟩) (meth := k8m11) (c := k8c11) (by decide +kernel) rfl rfl rfl (by decide +kernel)
set_option maxRecDepth 65536 in
theorem w_c23 : (Jvm.Cond.code ({ cls := "java/lang/StringUTF16", name := "length", desc := "([B)I" } : Jvm.MethodName) jdk_52_method_6_code (1 : Nat) (Option.some Jvm.ClassFile.FieldType.int)).before args0 about1 = true := code_word (m := ⟨8, 5⟩) (meth := k8m5) (c := k8c5) (by decide +kernel) rfl rfl rfl (by decide +kernel)
set_option maxRecDepth 65536 in
theorem w_c24 : (Jvm.Cond.code ({ cls := "com/example/disallow/disallow/UrlPathSchemeLengthPinLaw", name := "sc", desc := "(C)Z" } : Jvm.MethodName) method_4_code (1 : Nat) (Option.some Jvm.ClassFile.FieldType.boolean)).before args0 about1 = true := code_word (m := ⟨1, 3⟩) (meth := k1m3) (c := k1c3) (by decide +kernel) rfl rfl rfl (by decide +kernel)
def codes1 : List Jvm.Cond := [Jvm.Cond.code x code maxLocals ret, Jvm.Cond.code ({ cls := "com/example/disallow/disallow/UrlPathSchemeLengthPinLaw", name := "pick", desc := "(I[C)C" } : Jvm.MethodName) method_2_code (2 : Nat) (Option.some Jvm.ClassFile.FieldType.char), Jvm.Cond.code ({ cls := "java/lang/String", name := "<init>", desc := "([C)V" } : Jvm.MethodName) jdk_42_method_3_code (2 : Nat) (Option.none : Option Jvm.ClassFile.FieldType), Jvm.Cond.code ({ cls := "java/lang/String", name := "<init>", desc := "([CIILjava/lang/Void;)V" } : Jvm.MethodName) jdk_42_method_149_code (6 : Nat) (Option.none : Option Jvm.ClassFile.FieldType), Jvm.Cond.code ({ cls := "java/lang/Object", name := "<init>", desc := "()V" } : Jvm.MethodName) object_method_1_code (1 : Nat) (Option.none : Option Jvm.ClassFile.FieldType), Jvm.Cond.code ({ cls := "java/lang/StringUTF16", name := "compress", desc := "([CII)[B" } : Jvm.MethodName) jdk_52_method_16_code (6 : Nat) (Option.some (Jvm.ClassFile.FieldType.array Jvm.ClassFile.FieldType.byte)), Jvm.Cond.code ({ cls := "java/lang/StringUTF16", name := "compress", desc := "([CI[BII)I" } : Jvm.MethodName) jdk_52_method_21_code (7 : Nat) (Option.some Jvm.ClassFile.FieldType.int), Jvm.Cond.code ({ cls := "java/lang/StringUTF16", name := "coderFromArrayLen", desc := "([BI)B" } : Jvm.MethodName) jdk_52_method_15_code (2 : Nat) (Option.some Jvm.ClassFile.FieldType.byte), Jvm.Cond.code ({ cls := "com/example/disallow/disallow/UrlPath", name := "schemeLength", desc := "(Ljava/lang/String;I)I" } : Jvm.MethodName) prog_24_method_4_code (4 : Nat) (Option.some Jvm.ClassFile.FieldType.int), Jvm.Cond.code ({ cls := "java/lang/String", name := "charAt", desc := "(I)C" } : Jvm.MethodName) jdk_42_method_56_code (2 : Nat) (Option.some Jvm.ClassFile.FieldType.char), Jvm.Cond.code ({ cls := "java/lang/String", name := "isLatin1", desc := "()Z" } : Jvm.MethodName) jdk_42_method_154_code (1 : Nat) (Option.some Jvm.ClassFile.FieldType.boolean), Jvm.Cond.code ({ cls := "java/lang/StringLatin1", name := "charAt", desc := "([BI)C" } : Jvm.MethodName) jdk_43_method_2_code (2 : Nat) (Option.some Jvm.ClassFile.FieldType.char), Jvm.Cond.code ({ cls := "java/lang/String", name := "checkIndex", desc := "(II)V" } : Jvm.MethodName) jdk_42_method_155_code (2 : Nat) (Option.none : Option Jvm.ClassFile.FieldType), Jvm.Cond.code ({ cls := "jdk/internal/util/Preconditions", name := "checkIndex", desc := "(IILjava/util/function/BiFunction;)I" } : Jvm.MethodName) jdk_41_method_11_code (3 : Nat) (Option.some Jvm.ClassFile.FieldType.int), Jvm.Cond.code ({ cls := "com/example/disallow/disallow/UrlPath", name := "isAsciiLetter", desc := "(C)Z" } : Jvm.MethodName) prog_24_method_6_code (1 : Nat) (Option.some Jvm.ClassFile.FieldType.boolean), Jvm.Cond.code ({ cls := "com/example/disallow/disallow/UrlPathSchemeLengthPinLaw", name := "letter", desc := "(C)Z" } : Jvm.MethodName) method_3_code (1 : Nat) (Option.some Jvm.ClassFile.FieldType.boolean), Jvm.Cond.code ({ cls := "java/lang/StringUTF16", name := "toBytes", desc := "([CII)[B" } : Jvm.MethodName) jdk_52_method_14_code (5 : Nat) (Option.some (Jvm.ClassFile.FieldType.array Jvm.ClassFile.FieldType.byte)), Jvm.Cond.code ({ cls := "java/lang/StringUTF16", name := "newBytesFor", desc := "(I)[B" } : Jvm.MethodName) jdk_52_method_2_code (1 : Nat) (Option.some (Jvm.ClassFile.FieldType.array Jvm.ClassFile.FieldType.byte)), Jvm.Cond.code ({ cls := "java/lang/StringUTF16", name := "newBytesLength", desc := "(I)I" } : Jvm.MethodName) jdk_52_method_3_code (1 : Nat) (Option.some Jvm.ClassFile.FieldType.int), Jvm.Cond.code ({ cls := "java/lang/StringUTF16", name := "putChar", desc := "([BII)V" } : Jvm.MethodName) jdk_52_method_4_code (3 : Nat) (Option.none : Option Jvm.ClassFile.FieldType), Jvm.Cond.code ({ cls := "java/lang/StringUTF16", name := "getChar", desc := "([BI)C" } : Jvm.MethodName) jdk_52_method_5_code (2 : Nat) (Option.some Jvm.ClassFile.FieldType.char), Jvm.Cond.code ({ cls := "java/lang/StringUTF16", name := "charAt", desc := "([BI)C" } : Jvm.MethodName) jdk_52_method_83_code (2 : Nat) (Option.some Jvm.ClassFile.FieldType.char), Jvm.Cond.code ({ cls := "java/lang/StringUTF16", name := "checkIndex", desc := "(I[B)V" } : Jvm.MethodName) jdk_52_method_91_code (2 : Nat) (Option.none : Option Jvm.ClassFile.FieldType), Jvm.Cond.code ({ cls := "java/lang/StringUTF16", name := "length", desc := "([B)I" } : Jvm.MethodName) jdk_52_method_6_code (1 : Nat) (Option.some Jvm.ClassFile.FieldType.int), Jvm.Cond.code ({ cls := "com/example/disallow/disallow/UrlPathSchemeLengthPinLaw", name := "sc", desc := "(C)Z" } : Jvm.MethodName) method_4_code (1 : Nat) (Option.some Jvm.ClassFile.FieldType.boolean)]
set_option maxRecDepth 65536 in
theorem codes_eq : words1.filter isCode = codes1 := rfl
theorem w_codes : ∀ c ∈ words1.filter isCode, c.before args0 about1 = true := by
  rw [codes_eq]
  intro c hc
  simp only [codes1, List.mem_cons, List.not_mem_nil, or_false] at hc
  rcases hc with rfl | rfl | rfl | rfl | rfl | rfl | rfl | rfl | rfl | rfl | rfl | rfl | rfl | rfl | rfl | rfl | rfl | rfl | rfl | rfl | rfl | rfl | rfl | rfl | rfl
  · exact w_c0
  · exact w_c1
  · exact w_c2
  · exact w_c3
  · exact w_c4
  · exact w_c5
  · exact w_c6
  · exact w_c7
  · exact w_c8
  · exact w_c9
  · exact w_c10
  · exact w_c11
  · exact w_c12
  · exact w_c13
  · exact w_c14
  · exact w_c15
  · exact w_c16
  · exact w_c17
  · exact w_c18
  · exact w_c19
  · exact w_c20
  · exact w_c21
  · exact w_c22
  · exact w_c23
  · exact w_c24
set_option maxRecDepth 65536 in
theorem w_t1 : (words1.take 24).all (fun c => isCode c || c.before args0 about1) = true := by decide +kernel
set_option maxRecDepth 65536 in
theorem w_t2 : ((words1.drop 24).take 24).all (fun c => isCode c || c.before args0 about1) = true := by decide +kernel
set_option maxRecDepth 65536 in
theorem w_t3 : (((words1.drop 24).drop 24).take 24).all (fun c => isCode c || c.before args0 about1) = true := by decide +kernel
set_option maxRecDepth 65536 in
theorem w_t4 : ((((words1.drop 24).drop 24).drop 24).take 24).all (fun c => isCode c || c.before args0 about1) = true := by decide +kernel
set_option maxRecDepth 65536 in
theorem w_t5 : ((((words1.drop 24).drop 24).drop 24).drop 24).all (fun c => isCode c || c.before args0 about1) = true := by decide +kernel
theorem w_tables : (allAtoms (Jvm.Cond.code x code maxLocals ret :: tables_1)).before args0 about1 = true := by
  rw [allAtoms_all]
  show words1.all (fun c => c.before args0 about1) = true
  refine all_split ?_ w_codes
  rw [← List.take_append_drop 24 words1, List.all_append, w_t1, ← List.take_append_drop 24 (words1.drop 24), List.all_append, w_t2, ← List.take_append_drop 24 ((words1.drop 24).drop 24), List.all_append, w_t3, ← List.take_append_drop 24 (((words1.drop 24).drop 24).drop 24), List.all_append, w_t4, w_t5]
  rfl
set_option maxRecDepth 65536 in
theorem w_rest : rest_1_c.before args0 about1 = true := by decide +kernel
set_option maxRecDepth 65536 in
theorem w_case : (Jvm.Cond.and given_1 narrow_1).before args0 about1 = true := by decide +kernel
theorem w_applies : (headSpec (Jvm.Cond.code x code maxLocals ret :: tables_1) room_1).applies x e0.platform about1 = true :=
  (Spec.applies_iff w_frames).mpr ⟨w_running, w_runnable, w_alone, w_named, w_hears, w_ripe, w_room, w_tables⟩
theorem atStart : AtStart classFile x code maxLocals ret World_1 tables_1 room_1 Calls_1 rest_1 Pre_1 launch0 p0 e0 about1 theMethod args0 below0 :=
  ⟨lists_1, trivial, launch0.admits_env _ _ _, launch0.least_env, fairChoices_fair.cas, fairChoices_fair.clock, w_frames, w_args, w_heap, w_applies, trivial, w_rest, w_case⟩
end start1
theorem witness_1 : WitnessClaimed_1 := ⟨start1.p0, start1.e0, start1.about1, start1.theMethod, start1.args0, start1.below0, start1.atStart⟩
end Jvm.Pilot.@@N@@
